/- A part of the proof. -/
import Derived.Test.YtibleenkgmkpmaaDoorS2g
set_option linter.unusedSimpArgs false
set_option linter.unusedVariables false
set_option linter.unusedSectionVars false
namespace Go.Proofs.YtibleenkgmkpmaaDoor
open Go Go.Vc Go.Ml Go.S2

theorem leAt_out {l : List Int} {i n : Nat} (h : l.length < i + n) : leAt l i n = none := by unfold leAt; rw [if_neg (by omega)]

theorem or2n {w0 w1 : Nat} (h0 : w0 ≤ 255) (h1 : w1 ≤ 255) : bOr .u32 (IntKind.wrap .u32 (w0 : Int)) (IntKind.wrap .u32 (IntKind.wrap .u32 (w1 : Int) * 2 ^ 8)) = ((w0 + 256 * w1 : Nat) : Int) := by
  have hB : (2 : Nat) ^ IntKind.u32.bits = 4294967296 := by rfl
  rw [w_u32 (x := (w1 : Int)) (by omega) (by omega), w_u32 (x := (w0 : Int)) (by omega) (by omega), w_u32 (x := (w1 : Int) * 2 ^ 8) (by omega) (by omega)]
  have e1 : (w1 : Int) * 2 ^ 8 = ((w1 * 2 ^ 8 : Nat) : Int) := by omega
  rw [e1, or_nat rfl (by rw [hB]; omega) (by rw [hB]; omega), or_add (n := 8) (by omega)]
  omega
theorem or3n {w0 w1 w2 : Nat} (h0 : w0 ≤ 255) (h1 : w1 ≤ 255) (h2 : w2 ≤ 255) : bOr .u32 (bOr .u32 (IntKind.wrap .u32 (w0 : Int)) (IntKind.wrap .u32 (IntKind.wrap .u32 (w1 : Int) * 2 ^ 8))) (IntKind.wrap .u32 (IntKind.wrap .u32 (w2 : Int) * 2 ^ 16)) =
    ((w0 + 256 * (w1 + 256 * w2) : Nat) : Int) := by
  have hB : (2 : Nat) ^ IntKind.u32.bits = 4294967296 := by rfl
  rw [or2n h0 h1, w_u32 (x := (w2 : Int)) (by omega) (by omega), w_u32 (x := (w2 : Int) * 2 ^ 16) (by omega) (by omega)]
  have e1 : (w2 : Int) * 2 ^ 16 = ((w2 * 2 ^ 16 : Nat) : Int) := by omega
  rw [e1, or_nat rfl (by rw [hB]; omega) (by rw [hB]; omega), or_add (n := 16) (by omega)]
  omega
theorem or4n {w0 w1 w2 w3 : Nat} (h0 : w0 ≤ 255) (h1 : w1 ≤ 255) (h2 : w2 ≤ 255) (h3 : w3 ≤ 255) : bOr .u32 (bOr .u32 (bOr .u32 (IntKind.wrap .u32 (w0 : Int)) (IntKind.wrap .u32 (IntKind.wrap .u32 (w1 : Int) * 2 ^ 8))) (IntKind.wrap .u32 (IntKind.wrap .u32 (w2 : Int) * 2 ^ 16))) (IntKind.wrap .u32 (IntKind.wrap .u32 (w3 : Int) * 2 ^ 24)) =
    ((w0 + 256 * (w1 + 256 * (w2 + 256 * w3)) : Nat) : Int) := by
  have hB : (2 : Nat) ^ IntKind.u32.bits = 4294967296 := by rfl
  rw [or3n h0 h1 h2, w_u32 (x := (w3 : Int)) (by omega) (by omega), w_u32 (x := (w3 : Int) * 2 ^ 24) (by omega) (by omega)]
  have e1 : (w3 : Int) * 2 ^ 24 = ((w3 * 2 ^ 24 : Nat) : Int) := by omega
  rw [e1, or_nat rfl (by rw [hB]; omega) (by rw [hB]; omega), or_add (n := 24) (by omega)]
  omega

theorem leN_1 {l : List Int} {j : Nat} (h : j + 1 ≤ l.length) {w0 : Nat} (e0 : (l.getD j 0).toNat = w0) : leN ((l.drop j).take 1) = w0 := by
  have := leN_take_succ l j 0 (by omega)
  rw [e0] at this
  simpa [leN] using this
theorem leN_2 {l : List Int} {j : Nat} (h : j + 2 ≤ l.length) {w0 w1 : Nat} (e0 : (l.getD j 0).toNat = w0) (e1 : (l.getD (j + 1) 0).toNat = w1) : leN ((l.drop j).take 2) = w0 + 256 * w1 := by
  have : leN ((l.drop j).take 2) = _ := leN_take_succ l j 1 (by omega)
  rw [this, e0, leN_1 (by omega) e1]
theorem leN_3 {l : List Int} {j : Nat} (h : j + 3 ≤ l.length) {w0 w1 w2 : Nat} (e0 : (l.getD j 0).toNat = w0) (e1 : (l.getD (j + 1) 0).toNat = w1) (e2 : (l.getD (j + 2) 0).toNat = w2) : leN ((l.drop j).take 3) = w0 + 256 * (w1 + 256 * w2) := by
  have : leN ((l.drop j).take 3) = _ := leN_take_succ l j 2 (by omega)
  rw [this, e0, leN_2 (by omega) e1 e2]
theorem leN_4 {l : List Int} {j : Nat} (h : j + 4 ≤ l.length) {w0 w1 w2 w3 : Nat} (e0 : (l.getD j 0).toNat = w0) (e1 : (l.getD (j + 1) 0).toNat = w1) (e2 : (l.getD (j + 2) 0).toNat = w2) (e3 : (l.getD (j + 3) 0).toNat = w3) : leN ((l.drop j).take 4) = w0 + 256 * (w1 + 256 * (w2 + 256 * w3)) := by
  have : leN ((l.drop j).take 4) = _ := leN_take_succ l j 3 (by omega)
  rw [this, e0, leN_3 (by omega) e1 e2 e3]

section
variable {S : Sl} {dp : Option Addr} {l : List Int} {N db c i last : Nat} {out : List Int} {h : Heap} {st : M_s2Decode.St} {Q : Ex → M_s2Decode.St → Heap → Prop}

set_option maxHeartbeats 1600000 in
theorem bodyB (J : Dst S N dp db c i out last st h) (hc : N ≤ c) (hdp : 0 < N → dp = some ⟨db, 0, none⟩) (hS : SlI h .u8 S l) (hb : Byt l) (hN : N < 2 ^ 36) (hl : l.length < 2 ^ 36) (hout : out.length ≤ N) (hlast : last < 2 ^ 36) (hi : i < l.length)
    (hbad : stepE l true N i out last = none → ∀ (st' : M_s2Decode.St) (h' : Heap), st'.t4 = 1 → Fr (· = db) h h' → Q .ret st' h')
    (hok : ∀ i' out' last', stepE l true N i out last = some (i', out', last') → ∀ (st' : M_s2Decode.St) (h' : Heap), Dst S N dp db c i' out' last' st' h' → Fr (· = db) h h' → Q .norm st' h') :
    M_s2Decode.k44 st h Q := by
  have hsl := hS.len
  obtain ⟨eD, eS, es, ed, eo, M, HB, hM, hMo⟩ := J
  have bad : readEl l i true = none → ∀ (st' : M_s2Decode.St), st'.t4 = 1 → Q .ret st' h := by
    intro hr st' h1
    exact hbad (by unfold stepE; rw [hr]) st' h h1 (Fr.refl _ _)
  simp only [st_reg, st_ret, st_exit, st_skip, st_test, st_block, st_cond, sq_reg, sq_ret, sq_exit, sq_skip, sq_test, sq_cond, sq_block, sq_seq, sq_loop, SK_norm, SK_exit, SK_ret, BK_norm, BK_ret, BK_same, BK_exit, LK_norm, LK_exit, LK_ret, endK_norm, endK_ret, M_s2Decode.k44, M_s2Decode.r69, eD, eS, es, ed, eo]
  refine hS.ldB hb (j := i) rfl (by omega) fun v hv he hev => ?_
  simp (disch := omega) only [u8_and3]
  simp only [st_reg, st_ret, st_exit, st_skip, st_test, st_block, st_cond, sq_reg, sq_ret, sq_exit, sq_skip, sq_test, sq_cond, sq_block, sq_seq, sq_loop, SK_norm, SK_exit, SK_ret, BK_norm, BK_ret, BK_same, BK_exit, LK_norm, LK_exit, LK_ret, endK_norm, endK_ret, M_s2Decode.k45, M_s2Decode.r70, eD, eS, es, ed, eo]
  by_cases c0 : v % 4 = 0
  · rw [if_pos (by simp [c0])]
    simp only [st_reg, st_ret, st_exit, st_skip, st_test, st_block, st_cond, sq_reg, sq_ret, sq_exit, sq_skip, sq_test, sq_cond, sq_block, sq_seq, sq_loop, SK_norm, SK_exit, SK_ret, BK_norm, BK_ret, BK_same, BK_exit, LK_norm, LK_exit, LK_ret, endK_norm, endK_ret, M_s2Decode.k46, M_s2Decode.k47, M_s2Decode.r71, M_s2Decode.r72, M_s2Decode.r73, eD, eS, es, ed, eo]
    refine hS.ldB hb (j := i) rfl (by omega) fun v2 hv2 he2 hev2 => ?_
    obtain rfl : v2 = v := by omega
    simp (disch := omega) only [fdiv_nat, w_i64, w_u64, w_i32, w_u32, w_u16, w_u8, w_i16, Nat.reducePow]
    have hr : readEl l i true = readLit l i := by unfold readEl; simp only [hev, c0, if_true]
    -- the literal, from where its length is known
    have lit : ∀ (m f : Nat) (st' : M_s2Decode.St), readLit l i = litEl l f m → f ≤ l.length → m < 2 ^ 32 → st'.x_dst = ⟨dp, N, c⟩ → st'.x_src = S → st'.x_d = out.length → st'.x_offset = last → st'.x_xq15 = m → st'.x_s = f →
        M_s2Decode.k60 st' h (BK 9 (SK M_s2Decode.k86 (BK 8 Q))) := by
      intro m f st' hrl hf hm fD fS fd fo fx fs
      refine litPartB fD hdp hc fS hS fd fx fs HB hM hMo hN hl hf hm hout ?_ ?_
      · intro hbd st2 h2
        simp only [BK_ret, SK_ret]
        refine hbad ?_ st2 h h2 (Fr.refl _ _)
        unfold stepE
        rw [hr, hrl]
        unfold litEl
        by_cases hx : m + 1 ≤ l.length - f
        · rw [if_pos hx]
          simp only
          rw [if_pos (by omega)]
        · rw [if_neg hx]
      · intro h1 h2 st2 h3 M' g1 g2 g3 g4 g5 g6 g7 g8 g9
        rw [BK_exit, if_neg (by decide), SK_exit, BK_same]
        refine hok (f + (m + 1)) (out ++ (l.drop f).take (m + 1)) last ?_ st2 h3 ?_ g9
        · unfold stepE
          rw [hr, hrl]
          unfold litEl
          rw [if_pos h1]
          simp only
          rw [if_neg (by omega), if_pos trivial]
        · have hlen : (out ++ (l.drop f).take (m + 1)).length = out.length + (m + 1) := by simp; omega
          exact ⟨g1.trans fD, g2.trans fS, g3, by rw [hlen]; exact g5, g4.trans fo, M', fun _ => g6, g7, by rw [hlen]; exact g8⟩
    by_cases n60 : v2 / 4 < 60
    · rw [if_pos (by simp <;> omega)]
      refine lit (v2 / 4) (i + 1) _ ?_ (by omega) (by omega) rfl rfl rfl rfl rfl (by simp only; omega)
      unfold readLit; simp only [hev, n60, if_true]
    rw [if_neg (by simp <;> omega)]
    have rl : ∀ n m, v2 / 4 - 59 = n → i + 1 + n ≤ l.length → leN ((l.drop (i + 1)).take n) = m → readLit l i = litEl l (i + 1 + n) m := by
      intro n m hn hle hm
      unfold readLit
      simp only [hev, n60, if_false, hn, leAt_in hle, hm]
    have rn : ∀ n, v2 / 4 - 59 = n → l.length < i + 1 + n → readEl l i true = none := by
      intro n hn hle
      rw [hr]
      unfold readLit
      simp only [hev, n60, if_false, hn, leAt_out hle]
    simp only [st_reg, st_ret, st_exit, st_skip, st_test, st_block, st_cond, sq_reg, sq_ret, sq_exit, sq_skip, sq_test, sq_cond, sq_block, sq_seq, sq_loop, SK_norm, SK_exit, SK_ret, BK_norm, BK_ret, BK_same, BK_exit, LK_norm, LK_exit, LK_ret, endK_norm, endK_ret, M_s2Decode.k48, M_s2Decode.k49, M_s2Decode.k50, M_s2Decode.r74, M_s2Decode.r75, M_s2Decode.r76, M_s2Decode.r77, M_s2Decode.r78, eD, eS, es, ed, eo]
    by_cases n1 : v2 / 4 = 60
    · rw [if_pos (by simp [n1])]
      simp (disch := omega) only [w_i64, w_u64, w_i32, w_u32, w_u16, w_u8, w_i16, Nat.reducePow]
      by_cases hx : l.length < i + 2
      · rw [if_pos (by simp <;> omega)]
        exact bad (rn 1 (by omega) (by omega)) _ rfl
      rw [if_neg (by simp <;> omega)]
      refine hS.ldB hb (j := i + 1) (by omega) (by omega) fun w0 hw0 _ e0 => ?_
      simp (disch := omega) only [w_i64, w_u64, w_i32, w_u32, w_u16, w_u8, w_i16, Nat.reducePow]
      exact lit w0 (i + 1 + 1) _ (rl 1 w0 (by omega) (by omega) (leN_1 (by omega) e0)) (by omega) (by omega) rfl rfl rfl rfl rfl (by simp only; omega)
    rw [if_neg (by simp <;> omega)]
    simp only [st_reg, st_ret, st_exit, st_skip, st_test, st_block, st_cond, sq_reg, sq_ret, sq_exit, sq_skip, sq_test, sq_cond, sq_block, sq_seq, sq_loop, SK_norm, SK_exit, SK_ret, BK_norm, BK_ret, BK_same, BK_exit, LK_norm, LK_exit, LK_ret, endK_norm, endK_ret, M_s2Decode.k51, M_s2Decode.k52, M_s2Decode.k53, M_s2Decode.r79, M_s2Decode.r80, M_s2Decode.r81, M_s2Decode.r82, M_s2Decode.r83, eD, eS, es, ed, eo]
    by_cases n2 : v2 / 4 = 61
    · rw [if_pos (by simp [n2])]
      simp (disch := omega) only [w_i64, w_u64, w_i32, w_u32, w_u16, w_u8, w_i16, Nat.reducePow]
      by_cases hx : l.length < i + 3
      · rw [if_pos (by simp <;> omega)]
        exact bad (rn 2 (by omega) (by omega)) _ rfl
      rw [if_neg (by simp <;> omega)]
      refine hS.ldB hb (j := i + 1) (by omega) (by omega) fun w0 hw0 _ e0 => ?_
      refine hS.ldB hb (j := i + 1 + 1) (by omega) (by omega) fun w1 hw1 _ e1 => ?_
      rw [or2n hw0 hw1]
      exact lit _ (i + 1 + 2) _ (rl 2 _ (by omega) (by omega) (leN_2 (by omega) e0 e1)) (by omega) (by omega) rfl rfl rfl rfl rfl (by simp only; omega)
    rw [if_neg (by simp <;> omega)]
    simp only [st_reg, st_ret, st_exit, st_skip, st_test, st_block, st_cond, sq_reg, sq_ret, sq_exit, sq_skip, sq_test, sq_cond, sq_block, sq_seq, sq_loop, SK_norm, SK_exit, SK_ret, BK_norm, BK_ret, BK_same, BK_exit, LK_norm, LK_exit, LK_ret, endK_norm, endK_ret, M_s2Decode.k54, M_s2Decode.k55, M_s2Decode.k56, M_s2Decode.r84, M_s2Decode.r85, M_s2Decode.r86, M_s2Decode.r87, M_s2Decode.r88, eD, eS, es, ed, eo]
    by_cases n3 : v2 / 4 = 62
    · rw [if_pos (by simp [n3])]
      simp (disch := omega) only [w_i64, w_u64, w_i32, w_u32, w_u16, w_u8, w_i16, Nat.reducePow]
      by_cases hx : l.length < i + 4
      · rw [if_pos (by simp <;> omega)]
        exact bad (rn 3 (by omega) (by omega)) _ rfl
      rw [if_neg (by simp <;> omega)]
      refine hS.ldB hb (j := i + 1) (by omega) (by omega) fun w0 hw0 _ e0 => ?_
      refine hS.ldB hb (j := i + 1 + 1) (by omega) (by omega) fun w1 hw1 _ e1 => ?_
      refine hS.ldB hb (j := i + 1 + 2) (by omega) (by omega) fun w2 hw2 _ e2 => ?_
      rw [or3n hw0 hw1 hw2]
      exact lit _ (i + 1 + 3) _ (rl 3 _ (by omega) (by omega) (leN_3 (by omega) e0 e1 e2)) (by omega) (by omega) rfl rfl rfl rfl rfl (by simp only; omega)
    rw [if_neg (by simp <;> omega)]
    simp only [st_reg, st_ret, st_exit, st_skip, st_test, st_block, st_cond, sq_reg, sq_ret, sq_exit, sq_skip, sq_test, sq_cond, sq_block, sq_seq, sq_loop, SK_norm, SK_exit, SK_ret, BK_norm, BK_ret, BK_same, BK_exit, LK_norm, LK_exit, LK_ret, endK_norm, endK_ret, M_s2Decode.k57, M_s2Decode.k58, M_s2Decode.k59, M_s2Decode.r89, M_s2Decode.r90, M_s2Decode.r91, M_s2Decode.r92, M_s2Decode.r93, eD, eS, es, ed, eo]
    have n4 : v2 / 4 = 63 := by omega
    rw [if_pos (by simp [n4])]
    simp (disch := omega) only [w_i64, w_u64, w_i32, w_u32, w_u16, w_u8, w_i16, Nat.reducePow]
    by_cases hx : l.length < i + 5
    · rw [if_pos (by simp <;> omega)]
      exact bad (rn 4 (by omega) (by omega)) _ rfl
    rw [if_neg (by simp <;> omega)]
    refine hS.ldB hb (j := i + 1) (by omega) (by omega) fun w0 hw0 _ e0 => ?_
    refine hS.ldB hb (j := i + 1 + 1) (by omega) (by omega) fun w1 hw1 _ e1 => ?_
    refine hS.ldB hb (j := i + 1 + 2) (by omega) (by omega) fun w2 hw2 _ e2 => ?_
    refine hS.ldB hb (j := i + 1 + 3) (by omega) (by omega) fun w3 hw3 _ e3 => ?_
    rw [or4n hw0 hw1 hw2 hw3]
    exact lit _ (i + 1 + 4) _ (rl 4 _ (by omega) (by omega) (leN_4 (by omega) e0 e1 e2 e3)) (by omega) (by omega) rfl rfl rfl rfl rfl (by simp only; omega)
  · rw [if_neg (by simp <;> omega)]
    -- a copy, from where its length and offset are known
    have cp : ∀ (el : El) (st' : M_s2Decode.St), readEl l i true = some el → el.lit = false → 0 < el.len → st'.x_dst = ⟨dp, N, c⟩ → st'.x_src = S → st'.x_d = out.length → st'.x_length = el.len →
        st'.x_offset = (if el.rep then last else el.off : Nat) → st'.x_s = el.next → M_s2Decode.k86 st' h (BK 8 Q) := by
      intro el st' hre hlit hl0 fD fS fd fl fo fs
      have hsm := readEl_small hb.mem (by have := hb i; omega) hre
      have hog : (if el.rep then last else el.off : Nat) < 2 ^ 37 := by split <;> omega
      refine copyPartB fD hdp hc fd fl fo HB hM hMo hN hl0 (by omega) (by omega) hout ?_ ?_
      · intro hbd st2 h2
        refine hbad ?_ st2 h h2 (Fr.refl _ _)
        unfold stepE
        rw [hre]
        simp only [hlit, Bool.false_eq_true, if_false]
        by_cases hx : N < out.length + el.len
        · rw [if_pos hx]
        · rw [if_neg hx, if_pos (by omega)]
      · intro h1 h2 h3 st2 h4 M' g1 g2 g3 g4 g5 g6 g7 g8 g9
        have hlen : (fwd out (if el.rep then last else el.off) el.len).length = out.length + el.len := fwd_len _ _ _
        refine hok el.next (fwd out (if el.rep then last else el.off) el.len) (if el.rep then last else el.off) ?_ st2 h4 ⟨g1.trans fD, g2.trans fS, g3.trans fs, by rw [hlen]; exact g5, g4.trans fo, M', fun _ => g6, g7, by rw [hlen]; exact g8⟩ g9
        unfold stepE
        rw [hre]
        simp only [hlit, Bool.false_eq_true, if_false]
        rw [if_neg (by omega), if_neg (by omega)]
    simp only [st_reg, st_ret, st_exit, st_skip, st_test, st_block, st_cond, sq_reg, sq_ret, sq_exit, sq_skip, sq_test, sq_cond, sq_block, sq_seq, sq_loop, SK_norm, SK_exit, SK_ret, BK_norm, BK_ret, BK_same, BK_exit, LK_norm, LK_exit, LK_ret, endK_norm, endK_ret, M_s2Decode.k64, M_s2Decode.r100, eD, eS, es, ed, eo]
    by_cases c1 : v % 4 = 1
    · rw [if_pos (by simp [c1])]
      simp only [st_reg, st_ret, st_exit, st_skip, st_test, st_block, st_cond, sq_reg, sq_ret, sq_exit, sq_skip, sq_test, sq_cond, sq_block, sq_seq, sq_loop, SK_norm, SK_exit, SK_ret, BK_norm, BK_ret, BK_same, BK_exit, LK_norm, LK_exit, LK_ret, endK_norm, endK_ret, M_s2Decode.k65, M_s2Decode.k66, M_s2Decode.k67, M_s2Decode.k68, M_s2Decode.r101, M_s2Decode.r102, M_s2Decode.r103, M_s2Decode.r104, M_s2Decode.r105, eD, eS, es, ed, eo]
      simp (disch := omega) only [w_i64, w_u64, w_i32, w_u32, w_u16, w_u8, w_i16, Nat.reducePow]
      by_cases hx : l.length < i + 2
      · rw [if_pos (by simp <;> omega)]
        refine bad ?_ _ rfl
        unfold readEl; simp only [hev, c1, leAt_out (l := l) (i := i + 1) (n := 1) (by omega)]; simp
      rw [if_neg (by simp <;> omega)]
      refine hS.ldB hb (j := i) (by omega) (by omega) fun v2 hv2 he2 hev2 => ?_
      obtain rfl : v2 = v := by omega
      refine hS.ldB hb (j := i) (by omega) (by omega) fun v4 hv4 he4 hev4 => ?_
      obtain rfl : v4 = v2 := by omega
      refine hS.ldB hb (j := i + 1) (by omega) (by omega) fun v3 hv3 he3 hev3 => ?_
      have hlow : leAt l (i + 1) 1 = some v3 := by rw [leAt_in (by omega), leN_1 (by omega) hev3]
      rw [toff hv hv3]
      simp (disch := omega) only [fdiv_nat, w_i64, w_u64, w_i32, w_u32, w_u16, w_u8, w_i16, Nat.reducePow, i64_and7]
      simp only [st_reg, st_ret, st_exit, st_skip, st_test, st_block, st_cond, sq_reg, sq_ret, sq_exit, sq_skip, sq_test, sq_cond, sq_block, sq_seq, sq_loop, SK_norm, SK_exit, SK_ret, BK_norm, BK_ret, BK_same, BK_exit, LK_norm, LK_exit, LK_ret, endK_norm, endK_ret, M_s2Decode.k69, M_s2Decode.r106, M_s2Decode.r123, M_s2Decode.r124, eD, eS, es, ed, eo]
      by_cases ht : 0 < v4 / 32 * 256 + v3
      · rw [if_neg (by simp <;> omega)]
        simp (disch := omega) only [w_i64, w_u64, w_i32, w_u32, w_u16, w_u8, w_i16, Nat.reducePow]
        have hr : readEl l i true = some ⟨false, 0, v4 / 32 * 256 + v3, v4 / 4 % 8 + 4, false, i + 2⟩ := by
          unfold readEl; simp only [hev, c1, hlow, ht, true_or, if_true]; simp
        exact cp _ _ hr rfl (by simp only; omega) rfl rfl rfl (by simp only; omega) (by simp) (by simp only; omega)
      have hz : ¬ (0 < v4 / 32 * 256 + v3 ∨ true = false) := by simp; omega
      rw [if_pos (by simp <;> omega)]
      simp only [st_reg, st_ret, st_exit, st_skip, st_test, st_block, st_cond, sq_reg, sq_ret, sq_exit, sq_skip, sq_test, sq_cond, sq_block, sq_seq, sq_loop, SK_norm, SK_exit, SK_ret, BK_norm, BK_ret, BK_same, BK_exit, LK_norm, LK_exit, LK_ret, endK_norm, endK_ret, M_s2Decode.k69, M_s2Decode.k70, M_s2Decode.k71, M_s2Decode.k72, M_s2Decode.k73, M_s2Decode.r106, M_s2Decode.r123, M_s2Decode.r124, M_s2Decode.r107, M_s2Decode.r108, M_s2Decode.r109, M_s2Decode.r110, M_s2Decode.r111, M_s2Decode.r112, eD, eS, es, ed, eo]
      by_cases h5 : v4 / 4 % 8 = 5
      · rw [if_pos (by simp [h5])]
        simp (disch := omega) only [w_i64, w_u64, w_i32, w_u32, w_u16, w_u8, w_i16, Nat.reducePow]
        have e4 : v4 / 4 % 8 - 4 = 1 := by omega
        by_cases hx : l.length < i + 3
        · rw [if_pos (by simp <;> omega)]
          refine bad ?_ _ rfl
          unfold readEl; simp only [hev, c1, hlow, hz, if_false, e4, leAt_out (l := l) (i := i + 2) (n := 1) (by omega), h5]; simp
        rw [if_neg (by simp <;> omega)]
        refine hS.ldB hb (j := i + 2) (by omega) (by omega) fun w0 hw0 _ e0 => ?_
        simp (disch := omega) only [w_i64, w_u64, w_i32, w_u32, w_u16, w_u8, w_i16, Nat.reducePow]
        have hr : readEl l i true = some ⟨false, 0, 0, w0 + 8, true, i + 3⟩ := by
          unfold readEl
          simp only [hev, c1, hlow, hz, if_false, e4, leAt_in (l := l) (i := i + 2) (n := 1) (by omega), leN_1 (l := l) (j := i + 2) (by omega) e0, h5]
          simp [moreBase]
        exact cp _ _ hr rfl (by simp only; omega) rfl rfl rfl (by simp only; omega) (by simp) (by simp only; omega)
      rw [if_neg (by simp <;> omega)]
      simp only [st_reg, st_ret, st_exit, st_skip, st_test, st_block, st_cond, sq_reg, sq_ret, sq_exit, sq_skip, sq_test, sq_cond, sq_block, sq_seq, sq_loop, SK_norm, SK_exit, SK_ret, BK_norm, BK_ret, BK_same, BK_exit, LK_norm, LK_exit, LK_ret, endK_norm, endK_ret, M_s2Decode.k74, M_s2Decode.k75, M_s2Decode.k76, M_s2Decode.r113, M_s2Decode.r114, M_s2Decode.r115, M_s2Decode.r116, M_s2Decode.r117, eD, eS, es, ed, eo]
      by_cases h6 : v4 / 4 % 8 = 6
      · rw [if_pos (by simp [h6])]
        simp (disch := omega) only [w_i64, w_u64, w_i32, w_u32, w_u16, w_u8, w_i16, Nat.reducePow]
        have e4 : v4 / 4 % 8 - 4 = 2 := by omega
        by_cases hx : l.length < i + 4
        · rw [if_pos (by simp <;> omega)]
          refine bad ?_ _ rfl
          unfold readEl; simp only [hev, c1, hlow, hz, if_false, e4, leAt_out (l := l) (i := i + 2) (n := 2) (by omega), h6]; simp
        rw [if_neg (by simp <;> omega)]
        refine hS.ldB hb (j := i + 2) (by omega) (by omega) fun w0 hw0 _ e0 => ?_
        refine hS.ldB hb (j := i + 2 + 1) (by omega) (by omega) fun w1 hw1 _ e1 => ?_
        rw [or2n hw0 hw1]
        simp only [st_reg, st_ret, st_exit, st_skip, st_test, st_block, st_cond, sq_reg, sq_ret, sq_exit, sq_skip, sq_test, sq_cond, sq_block, sq_seq, sq_loop, SK_norm, SK_exit, SK_ret, BK_norm, BK_ret, BK_same, BK_exit, LK_norm, LK_exit, LK_ret, endK_norm, endK_ret, M_s2Decode.k69, M_s2Decode.r106, M_s2Decode.r123, M_s2Decode.r124, eD, eS, es, ed, eo]
        simp (disch := omega) only [w_i64, w_u64, w_i32, w_u32, w_u16, w_u8, w_i16, Nat.reducePow]
        have hr : readEl l i true = some ⟨false, 0, 0, (w0 + 256 * w1) + 260, true, i + 4⟩ := by
          unfold readEl
          simp only [hev, c1, hlow, hz, if_false, e4, leAt_in (l := l) (i := i + 2) (n := 2) (by omega), leN_2 (l := l) (j := i + 2) (by omega) e0 e1, h6]
          simp [moreBase]
        exact cp _ _ hr rfl (by simp only; omega) rfl rfl rfl (by simp only; omega) (by simp) (by simp only; omega)
      rw [if_neg (by simp <;> omega)]
      simp only [st_reg, st_ret, st_exit, st_skip, st_test, st_block, st_cond, sq_reg, sq_ret, sq_exit, sq_skip, sq_test, sq_cond, sq_block, sq_seq, sq_loop, SK_norm, SK_exit, SK_ret, BK_norm, BK_ret, BK_same, BK_exit, LK_norm, LK_exit, LK_ret, endK_norm, endK_ret, M_s2Decode.k77, M_s2Decode.k78, M_s2Decode.k79, M_s2Decode.r118, M_s2Decode.r119, M_s2Decode.r120, M_s2Decode.r121, M_s2Decode.r122, eD, eS, es, ed, eo]
      by_cases h7 : v4 / 4 % 8 = 7
      · rw [if_pos (by simp [h7])]
        simp (disch := omega) only [w_i64, w_u64, w_i32, w_u32, w_u16, w_u8, w_i16, Nat.reducePow]
        have e4 : v4 / 4 % 8 - 4 = 3 := by omega
        by_cases hx : l.length < i + 5
        · rw [if_pos (by simp <;> omega)]
          refine bad ?_ _ rfl
          unfold readEl; simp only [hev, c1, hlow, hz, if_false, e4, leAt_out (l := l) (i := i + 2) (n := 3) (by omega), h7]; simp
        rw [if_neg (by simp <;> omega)]
        refine hS.ldB hb (j := i + 2) (by omega) (by omega) fun w0 hw0 _ e0 => ?_
        refine hS.ldB hb (j := i + 2 + 1) (by omega) (by omega) fun w1 hw1 _ e1 => ?_
        refine hS.ldB hb (j := i + 2 + 2) (by omega) (by omega) fun w2 hw2 _ e2 => ?_
        rw [or3n hw0 hw1 hw2]
        simp only [st_reg, st_ret, st_exit, st_skip, st_test, st_block, st_cond, sq_reg, sq_ret, sq_exit, sq_skip, sq_test, sq_cond, sq_block, sq_seq, sq_loop, SK_norm, SK_exit, SK_ret, BK_norm, BK_ret, BK_same, BK_exit, LK_norm, LK_exit, LK_ret, endK_norm, endK_ret, M_s2Decode.k69, M_s2Decode.r106, M_s2Decode.r123, M_s2Decode.r124, eD, eS, es, ed, eo]
        simp (disch := omega) only [w_i64, w_u64, w_i32, w_u32, w_u16, w_u8, w_i16, Nat.reducePow]
        have hr : readEl l i true = some ⟨false, 0, 0, (w0 + 256 * (w1 + 256 * w2)) + 65540, true, i + 5⟩ := by
          unfold readEl
          simp only [hev, c1, hlow, hz, if_false, e4, leAt_in (l := l) (i := i + 2) (n := 3) (by omega), leN_3 (l := l) (j := i + 2) (by omega) e0 e1 e2, h7]
          simp [moreBase]
        exact cp _ _ hr rfl (by simp only; omega) rfl rfl rfl (by simp only; omega) (by simp) (by simp only; omega)
      rw [if_neg (by simp <;> omega)]
      simp only [st_reg, st_ret, st_exit, st_skip, st_test, st_block, st_cond, sq_reg, sq_ret, sq_exit, sq_skip, sq_test, sq_cond, sq_block, sq_seq, sq_loop, SK_norm, SK_exit, SK_ret, BK_norm, BK_ret, BK_same, BK_exit, LK_norm, LK_exit, LK_ret, endK_norm, endK_ret, M_s2Decode.k69, M_s2Decode.r106, M_s2Decode.r123, M_s2Decode.r124, eD, eS, es, ed, eo]
      simp (disch := omega) only [w_i64, w_u64, w_i32, w_u32, w_u16, w_u8, w_i16, Nat.reducePow]
      have hr : readEl l i true = some ⟨false, 0, 0, v4 / 4 % 8 + 4, true, i + 2⟩ := by
        unfold readEl
        have e4 : v4 / 4 % 8 ≤ 4 := by omega
        simp only [hev, c1, hlow, hz, if_false, e4, if_true]; simp
      exact cp _ _ hr rfl (by simp only; omega) rfl rfl rfl (by simp only; omega) (by simp) (by simp only; omega)
    · rw [if_neg (by simp <;> omega)]
      simp only [st_reg, st_ret, st_exit, st_skip, st_test, st_block, st_cond, sq_reg, sq_ret, sq_exit, sq_skip, sq_test, sq_cond, sq_block, sq_seq, sq_loop, SK_norm, SK_exit, SK_ret, BK_norm, BK_ret, BK_same, BK_exit, LK_norm, LK_exit, LK_ret, endK_norm, endK_ret, M_s2Decode.k80, M_s2Decode.k81, M_s2Decode.k82, M_s2Decode.r125, M_s2Decode.r126, M_s2Decode.r127, M_s2Decode.r128, M_s2Decode.r129, M_s2Decode.r130, eD, eS, es, ed, eo]
      by_cases c2 : v % 4 = 2
      · rw [if_pos (by simp [c2])]
        simp (disch := omega) only [w_i64, w_u64, w_i32, w_u32, w_u16, w_u8, w_i16, Nat.reducePow]
        by_cases hx : l.length < i + 3
        · rw [if_pos (by simp <;> omega)]
          refine bad ?_ _ rfl
          unfold readEl; simp only [hev, c2, leAt_out (l := l) (i := i + 1) (n := 2) (by omega), copyEl]; simp
        rw [if_neg (by simp <;> omega)]
        refine hS.ldB hb (j := i) (by omega) (by omega) fun v2 hv2 he2 hev2 => ?_
        obtain rfl : v2 = v := by omega
        refine hS.ldB hb (j := i + 1) (by omega) (by omega) fun w0 hw0 _ e0 => ?_
        refine hS.ldB hb (j := i + 1 + 1) (by omega) (by omega) fun w1 hw1 _ e1 => ?_
        rw [or2n hw0 hw1]
        simp (disch := omega) only [fdiv_nat, w_i64, w_u64, w_i32, w_u32, w_u16, w_u8, w_i16, Nat.reducePow]
        have hr : readEl l i true = some ⟨false, 0, w0 + 256 * w1, v2 / 4 + 1, false, i + 3⟩ := by
          unfold readEl; simp only [hev, c2, leAt_in (l := l) (i := i + 1) (n := 2) (by omega), leN_2 (l := l) (j := i + 1) (by omega) e0 e1, copyEl]; simp
        exact cp _ _ hr rfl (by simp only; omega) rfl rfl rfl (by simp only; omega) (by simp) (by simp only; omega)
      · rw [if_neg (by simp <;> omega)]
        simp only [st_reg, st_ret, st_exit, st_skip, st_test, st_block, st_cond, sq_reg, sq_ret, sq_exit, sq_skip, sq_test, sq_cond, sq_block, sq_seq, sq_loop, SK_norm, SK_exit, SK_ret, BK_norm, BK_ret, BK_same, BK_exit, LK_norm, LK_exit, LK_ret, endK_norm, endK_ret, M_s2Decode.k83, M_s2Decode.k84, M_s2Decode.k85, M_s2Decode.r131, M_s2Decode.r132, M_s2Decode.r133, M_s2Decode.r134, M_s2Decode.r135, M_s2Decode.r136, eD, eS, es, ed, eo]
        rw [if_pos (by simp <;> omega)]
        simp (disch := omega) only [w_i64, w_u64, w_i32, w_u32, w_u16, w_u8, w_i16, Nat.reducePow]
        by_cases hx : l.length < i + 5
        · rw [if_pos (by simp <;> omega)]
          refine bad ?_ _ rfl
          unfold readEl; simp only [hev, c2, c1, c0, leAt_out (l := l) (i := i + 1) (n := 4) (by omega), copyEl]; simp
        rw [if_neg (by simp <;> omega)]
        refine hS.ldB hb (j := i) (by omega) (by omega) fun v2 hv2 he2 hev2 => ?_
        obtain rfl : v2 = v := by omega
        refine hS.ldB hb (j := i + 1) (by omega) (by omega) fun w0 hw0 _ e0 => ?_
        refine hS.ldB hb (j := i + 1 + 1) (by omega) (by omega) fun w1 hw1 _ e1 => ?_
        refine hS.ldB hb (j := i + 1 + 2) (by omega) (by omega) fun w2 hw2 _ e2 => ?_
        refine hS.ldB hb (j := i + 1 + 3) (by omega) (by omega) fun w3 hw3 _ e3 => ?_
        rw [or4n hw0 hw1 hw2 hw3]
        simp (disch := omega) only [fdiv_nat, w_i64, w_u64, w_i32, w_u32, w_u16, w_u8, w_i16, Nat.reducePow]
        have hr : readEl l i true = some ⟨false, 0, w0 + 256 * (w1 + 256 * (w2 + 256 * w3)), v2 / 4 + 1, false, i + 5⟩ := by
          unfold readEl; simp only [hev, c2, c1, c0, leAt_in (l := l) (i := i + 1) (n := 4) (by omega), leN_4 (l := l) (j := i + 1) (by omega) e0 e1 e2 e3, copyEl, if_false]
        exact cp _ _ hr rfl (by simp only; omega) rfl rfl rfl (by simp only; omega) (by simp) (by simp only; omega)
end
end Go.Proofs.YtibleenkgmkpmaaDoor
