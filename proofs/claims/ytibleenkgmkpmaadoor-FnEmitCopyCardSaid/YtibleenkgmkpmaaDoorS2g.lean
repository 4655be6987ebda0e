/- A part of the proof. -/
import Derived.Test.YtibleenkgmkpmaaDoorS2f
set_option linter.unusedSimpArgs false
set_option linter.unusedVariables false
set_option linter.unusedSectionVars false
namespace Go.Proofs.YtibleenkgmkpmaaDoor
open Go Go.Vc Go.Ml Go.S2

/-- Where s2Decode stands: at a place of the source, with what was made. -/
structure Dst (S : Sl) (N : Nat) (dp : Option Addr) (db c : Nat) (i : Nat) (out : List Int) (last : Nat) (st : M_s2Decode.St) (h : Heap) : Prop where
  d : st.x_dst = ⟨dp, N, c⟩
  s : st.x_src = S
  i : st.x_s = i
  n : st.x_d = out.length
  o : st.x_offset = last
  m : ∃ M : List Int, (0 < N → Blk h db (M.map (Value.int .u8)) 5) ∧ M.length = N ∧ M.take out.length = out

theorem leAt_in {l : List Int} {i n : Nat} (h : i + n ≤ l.length) : leAt l i n = some (leN ((l.drop i).take n)) := by unfold leAt; rw [if_pos h]

theorem and224 : ∀ v, v < 256 → v &&& 224 = v / 32 * 32 := by decide +kernel
theorem toff {v w : Nat} (hv : v ≤ 255) (hw : w ≤ 255) : bOr .u32 (IntKind.wrap .u32 (bAnd .u32 (IntKind.wrap .u32 (v : Int)) 224 * 2 ^ 3)) (IntKind.wrap .u32 (w : Int)) = ((v / 32 * 256 + w : Nat) : Int) := by
  have hB : (2 : Nat) ^ IntKind.u32.bits = 4294967296 := by rfl
  have h1 : bAnd .u32 (v : Int) 224 = ((v / 32 * 32 : Nat) : Int) := by rw [← and224 v (by omega)]; exact and_nat rfl (by rw [hB]; omega) (by decide)
  rw [w_u32 (x := (v : Int)) (by omega) (by omega), w_u32 (x := (w : Int)) (by omega) (by omega), h1, w_u32 (by omega) (by omega)]
  have h2 : ((v / 32 * 32 : Nat) : Int) * 2 ^ 3 = ((v / 32 * 256 : Nat) : Int) := by omega
  rw [h2, or_nat rfl (by rw [hB]; omega) (by rw [hB]; omega), Nat.or_comm, or_add (n := 8) (by omega)]
  omega

theorem or3d {w0 w1 w2 : Nat} (h0 : w0 ≤ 255) (h1 : w1 ≤ 255) (h2 : w2 ≤ 255) : bOr .u32 (bOr .u32 (IntKind.wrap .u32 (IntKind.wrap .u32 (w2 : Int) * 2 ^ 16)) (IntKind.wrap .u32 (IntKind.wrap .u32 (w1 : Int) * 2 ^ 8))) (IntKind.wrap .u32 (w0 : Int)) =
    ((w0 + 256 * (w1 + 256 * w2) : Nat) : Int) := by
  have hB : (2 : Nat) ^ IntKind.u32.bits = 4294967296 := by rfl
  rw [w_u32 (x := (w2 : Int)) (by omega) (by omega), w_u32 (x := (w1 : Int)) (by omega) (by omega), w_u32 (x := (w0 : Int)) (by omega) (by omega), w_u32 (x := (w2 : Int) * 2 ^ 16) (by omega) (by omega), w_u32 (x := (w1 : Int) * 2 ^ 8) (by omega) (by omega)]
  have e2 : (w2 : Int) * 2 ^ 16 = ((w2 * 2 ^ 16 : Nat) : Int) := by omega
  have e1 : (w1 : Int) * 2 ^ 8 = ((w1 * 2 ^ 8 : Nat) : Int) := by omega
  rw [e2, e1, or_nat rfl (by rw [hB]; omega) (by rw [hB]; omega), Nat.or_comm, or_add (n := 16) (by omega)]
  have e3 : w1 * 2 ^ 8 + w2 * 2 ^ 16 = (w1 + 256 * w2) * 2 ^ 8 := by omega
  rw [e3, or_nat rfl (by rw [hB]; omega) (by rw [hB]; omega), Nat.or_comm, or_add (n := 8) (by omega)]
  omega

section
variable {S : Sl} {dp : Option Addr} {l : List Int} {N db c i last : Nat} {out : List Int} {h : Heap} {st : M_s2Decode.St} {Q : Ex → M_s2Decode.St → Heap → Prop}

theorem bodyA (J : Dst S N dp db c i out last st h) (hc : N ≤ c) (hdp : 0 < N → dp = some ⟨db, 0, none⟩) (hS : SlI h .u8 S l) (hb : Byt l) (hne : ∀ a, 0 < S.n → S.p = some a → a.block ≠ db) (hN : N < 2 ^ 36) (hl : l.length < 2 ^ 36) (hout : out.length ≤ N) (hlast : last < 2 ^ 36) (hi : i + 5 < l.length)
    (hbad : stepE l true N i out last = none → ∀ (st' : M_s2Decode.St) (h' : Heap), st'.t4 = 1 → Fr (· = db) h h' → Q .ret st' h')
    (hok : ∀ i' out' last', stepE l true N i out last = some (i', out', last') → ∀ (st' : M_s2Decode.St) (h' : Heap), Dst S N dp db c i' out' last' st' h' → Fr (· = db) h h' → Q .norm st' h') :
    M_s2Decode.k4 st h Q := by
  have hsl := hS.len
  obtain ⟨eD, eS, es, ed, eo, M, HB, hM, hMo⟩ := J
  simp only [st_reg, st_ret, st_exit, st_skip, st_test, st_block, st_cond, sq_reg, sq_ret, sq_exit, sq_skip, sq_test, sq_cond, sq_block, sq_seq, sq_loop, SK_norm, SK_exit, SK_ret, BK_norm, BK_ret, BK_same, BK_exit, LK_norm, LK_exit, LK_ret, endK_norm, endK_ret, M_s2Decode.k4, M_s2Decode.r4, eD, eS, es, ed, eo]
  refine hS.ldB hb (j := i) rfl (by omega) fun v hv he hev => ?_
  simp (disch := omega) only [u8_and3]
  simp only [st_reg, st_ret, st_exit, st_skip, st_test, st_block, st_cond, sq_reg, sq_ret, sq_exit, sq_skip, sq_test, sq_cond, sq_block, sq_seq, sq_loop, SK_norm, SK_exit, SK_ret, BK_norm, BK_ret, BK_same, BK_exit, LK_norm, LK_exit, LK_ret, endK_norm, endK_ret, M_s2Decode.k5, M_s2Decode.r5, eD, eS, es, ed, eo]
  by_cases c0 : v % 4 = 0
  · rw [if_pos (by simp [c0])]
    simp only [st_reg, st_ret, st_exit, st_skip, st_test, st_block, st_cond, sq_reg, sq_ret, sq_exit, sq_skip, sq_test, sq_cond, sq_block, sq_seq, sq_loop, SK_norm, SK_exit, SK_ret, BK_norm, BK_ret, BK_same, BK_exit, LK_norm, LK_exit, LK_ret, endK_norm, endK_ret, M_s2Decode.k6, M_s2Decode.k7, M_s2Decode.r6, M_s2Decode.r7, M_s2Decode.r8, eD, eS, es, ed, eo]
    refine hS.ldB hb (j := i) rfl (by omega) fun v2 hv2 he2 hev2 => ?_
    obtain rfl : v2 = v := by omega
    simp (disch := omega) only [fdiv_nat, w_i64, w_u64, w_i32, w_u32, w_u16, w_u8, w_i16, Nat.reducePow]
    have hr : readEl l i true = readLit l i := by unfold readEl; simp only [hev, c0, if_true]
    -- the literal, from where its length is known
    have lit : ∀ (m f : Nat) (h' : Heap) (st' : M_s2Decode.St), readLit l i = litEl l f m → f ≤ l.length → m < 2 ^ 32 → Old h h' → st'.x_dst = ⟨dp, N, c⟩ → st'.x_src = S → st'.x_d = out.length → st'.x_offset = last → st'.x_x = m → st'.x_s = f →
        M_s2Decode.k13 st' h' (BK 2 (SK M_s2Decode.k31 (BK 1 Q))) := by
      intro m f h' st' hrl hf hm ho fD fS fd fo fx fs
      have hF : Fr (· = db) h h' := Fr.of_old ho
      refine litPartA fD hdp hc fS (hS.ext ho.ext) fd fx fs (fun h0 => ho.Blk (HB h0)) hM hMo hN hl hf hm hout ?_ ?_
      · intro hbd st2 h2
        simp only [BK_ret, SK_ret]
        refine hbad ?_ st2 h' h2 hF
        unfold stepE
        rw [hr, hrl]
        unfold litEl
        by_cases hx : m + 1 ≤ l.length - f
        · rw [if_pos hx]
          simp only
          rw [if_pos (by omega)]
        · rw [if_neg hx]
      · intro h1 h2 st2 h3 M' g1 g2 g3 g4 g5 g6 g7 g8 g9
        rw [BK_exit, if_neg (by decide), SK_exit, BK_same]
        refine hok (f + (m + 1)) (out ++ (l.drop f).take (m + 1)) last ?_ st2 h3 ?_ (hF.trans g9)
        · unfold stepE
          rw [hr, hrl]
          unfold litEl
          rw [if_pos h1]
          simp only
          rw [if_neg (by omega), if_pos trivial]
        · have hlen : (out ++ (l.drop f).take (m + 1)).length = out.length + (m + 1) := by simp; omega
          exact ⟨g1.trans fD, g2.trans fS, g3, by rw [hlen]; exact g5, g4.trans fo, M', fun _ => g6, g7, by rw [hlen]; exact g8⟩
    have hw : v2 / 2 ^ 2 = v2 / 4 := by omega
    by_cases n60 : v2 / 4 < 60
    · rw [if_pos (by simp <;> omega)]
      refine lit (v2 / 4) (i + 1) h _ ?_ (by omega) (by omega) (Old.refl h) rfl rfl rfl rfl rfl (by simp only; omega)
      unfold readLit; simp only [hev, n60, if_true]
    rw [if_neg (by simp <;> omega)]
    have rl : ∀ n m, v2 / 4 - 59 = n → i + 1 + n ≤ l.length → leN ((l.drop (i + 1)).take n) = m → readLit l i = litEl l (i + 1 + n) m := by
      intro n m hn hle hm
      unfold readLit
      simp only [hev, n60, if_false, hn, leAt_in hle, hm]
    have h1l : leN ((l.drop (i + 1)).take 1) = (l.getD (i + 1) 0).toNat := by
      have := leN_take_succ l (i + 1) 0 (by omega)
      simpa [leN] using this
    simp only [st_reg, st_ret, st_exit, st_skip, st_test, st_block, st_cond, sq_reg, sq_ret, sq_exit, sq_skip, sq_test, sq_cond, sq_block, sq_seq, sq_loop, SK_norm, SK_exit, SK_ret, BK_norm, BK_ret, BK_same, BK_exit, LK_norm, LK_exit, LK_ret, endK_norm, endK_ret, M_s2Decode.k8, M_s2Decode.k9, M_s2Decode.k10, M_s2Decode.k11, M_s2Decode.k12, M_s2Decode.r9, M_s2Decode.r10, M_s2Decode.r11, M_s2Decode.r12, M_s2Decode.r13, M_s2Decode.r14, M_s2Decode.r15, M_s2Decode.r16, M_s2Decode.r17, M_s2Decode.r18, M_s2Decode.r19, M_s2Decode.r20, M_s2Decode.r21, eD, eS, es, ed, eo]
    by_cases n1 : v2 / 4 = 60
    · rw [if_pos (by simp [n1])]
      refine hS.ldB hb (j := i + 1) (by rw [w_i64 (by omega) (by omega)]; omega) (by omega) fun v3 hv3 he3 hev3 => ?_
      simp (disch := omega) only [w_i64, w_u64, w_i32, w_u32, w_u16, w_u8, w_i16, Nat.reducePow]
      exact lit v3 (i + 1 + 1) h _ (rl 1 v3 (by omega) (by omega) (by rw [h1l, hev3])) (by omega) (by omega) (Old.refl h) rfl rfl rfl rfl rfl (by simp only; omega)
    rw [if_neg (by simp <;> omega)]
    by_cases n2 : v2 / 4 = 61
    · rw [if_pos (by simp [n2])]
      refine load16 hS hb (i := i + 1) (by rw [w_i64 (by omega) (by omega)]; omega) (by omega) fun h' ho => ?_
      have hlt := leN_len hb (i + 1) 2 (by omega)
      simp (disch := omega) only [w_i64, w_u64, w_i32, w_u32, w_u16, w_u8, w_i16, Nat.reducePow]
      exact lit _ (i + 1 + 2) h' _ (rl 2 _ (by omega) (by omega) rfl) (by omega) (by omega) ho rfl rfl rfl rfl rfl (by simp only; omega)
    rw [if_neg (by simp <;> omega)]
    by_cases n3 : v2 / 4 = 62
    · rw [if_pos (by simp [n3])]
      refine load32 hS hb (i := i) rfl (by omega) fun h' ho => ?_
      have hlt := leN_len hb (i + 1) 3 (by omega)
      have hq : leN ((l.drop i).take 4) = (l.getD i 0).toNat + 256 * leN ((l.drop (i + 1)).take 3) := leN_take_succ l i 3 (by omega)
      rw [hev] at hq
      simp (disch := omega) only [fdiv_nat, w_i64, w_u64, w_i32, w_u32, w_u16, w_u8, w_i16, Nat.reducePow]
      refine lit (leN ((l.drop i).take 4) / 2 ^ 8) (i + 1 + 3) h' _ (rl 3 _ (by omega) (by omega) (by omega)) (by omega) (by omega) ho rfl rfl rfl rfl rfl (by simp only; omega)
    rw [if_neg (by simp <;> omega)]
    have n4 : v2 / 4 = 63 := by omega
    rw [if_pos (by simp [n4])]
    refine load32 hS hb (i := i + 1) (by rw [w_i64 (by omega) (by omega)]; omega) (by omega) fun h' ho => ?_
    have hlt := leN_len hb (i + 1) 4 (by omega)
    simp (disch := omega) only [w_i64, w_u64, w_i32, w_u32, w_u16, w_u8, w_i16, Nat.reducePow]
    exact lit _ (i + 1 + 4) h' _ (rl 4 _ (by omega) (by omega) rfl) (by omega) (by omega) ho rfl rfl rfl rfl rfl (by simp only; omega)
  · rw [if_neg (by simp <;> omega)]
    -- a copy, from where its length and offset are known
    have cp : ∀ (el : El) (h' : Heap) (st' : M_s2Decode.St), readEl l i true = some el → el.lit = false → 0 < el.len → Old h h' → st'.x_dst = ⟨dp, N, c⟩ → st'.x_src = S → st'.x_d = out.length → st'.x_length = el.len →
        st'.x_offset = (if el.rep then last else el.off : Nat) → st'.x_s = el.next → M_s2Decode.k31 st' h' (BK 1 Q) := by
      intro el h' st' hre hlit hl0 ho fD fS fd fl fo fs
      have hsm := readEl_small hb.mem (by have := hb i; omega) hre
      have hF : Fr (· = db) h h' := Fr.of_old ho
      have hog : (if el.rep then last else el.off : Nat) < 2 ^ 37 := by split <;> omega
      refine copyPartA fD hdp hc fd fl fo (fun h0 => ho.Blk (HB h0)) hM hMo hN hl0 (by omega) (by omega) hout ?_ ?_
      · intro hbd st2 h2
        refine hbad ?_ st2 h' h2 hF
        unfold stepE
        rw [hre]
        simp only [hlit, Bool.false_eq_true, if_false]
        by_cases hx : N < out.length + el.len
        · rw [if_pos hx]
        · rw [if_neg hx, if_pos (by omega)]
      · intro h1 h2 h3 st2 h4 M' g1 g2 g3 g4 g5 g6 g7 g8 g9
        have hlen : (fwd out (if el.rep then last else el.off) el.len).length = out.length + el.len := fwd_len _ _ _
        refine hok el.next (fwd out (if el.rep then last else el.off) el.len) (if el.rep then last else el.off) ?_ st2 h4 ⟨g1.trans fD, g2.trans fS, g3.trans fs, by rw [hlen]; exact g5, g4.trans fo, M', fun _ => g6, g7, by rw [hlen]; exact g8⟩ (hF.trans g9)
        unfold stepE
        rw [hre]
        simp only [hlit, Bool.false_eq_true, if_false]
        rw [if_neg (by omega), if_neg (by omega)]
    simp only [st_reg, st_ret, st_exit, st_skip, st_test, st_block, st_cond, sq_reg, sq_ret, sq_exit, sq_skip, sq_test, sq_cond, sq_block, sq_seq, sq_loop, SK_norm, SK_exit, SK_ret, BK_norm, BK_ret, BK_same, BK_exit, LK_norm, LK_exit, LK_ret, endK_norm, endK_ret, M_s2Decode.k17, M_s2Decode.r28, eD, eS, es, ed, eo]
    by_cases c1 : v % 4 = 1
    · rw [if_pos (by simp [c1])]
      simp only [st_reg, st_ret, st_exit, st_skip, st_test, st_block, st_cond, sq_reg, sq_ret, sq_exit, sq_skip, sq_test, sq_cond, sq_block, sq_seq, sq_loop, SK_norm, SK_exit, SK_ret, BK_norm, BK_ret, BK_same, BK_exit, LK_norm, LK_exit, LK_ret, endK_norm, endK_ret, M_s2Decode.k18, M_s2Decode.k19, M_s2Decode.k20, M_s2Decode.k21, M_s2Decode.r29, M_s2Decode.r30, M_s2Decode.r31, M_s2Decode.r32, M_s2Decode.r44, M_s2Decode.r45, eD, eS, es, ed, eo]
      simp (disch := omega) only [w_i64, w_u64, w_i32, w_u32, w_u16, w_u8, w_i16, Nat.reducePow]
      have hlow : leAt l (i + 1) 1 = some (l.getD (i + 1) 0).toNat := by
        rw [leAt_in (by omega)]
        have := leN_take_succ l (i + 1) 0 (by omega)
        simpa [leN] using this
      refine hS.ldB hb (j := i) (by omega) (by omega) fun v2 hv2 he2 hev2 => ?_
      obtain rfl : v2 = v := by omega
      refine hS.ldB hb (j := i + 1) (by omega) (by omega) fun v3 hv3 he3 hev3 => ?_
      rw [hev3] at hlow
      rw [toff hv hv3]
      refine hS.ldB hb (j := i) (by omega) (by omega) fun v4 hv4 he4 hev4 => ?_
      obtain rfl : v4 = v2 := by omega
      simp (disch := omega) only [fdiv_nat, w_i64, w_u64, w_i32, w_u32, w_u16, w_u8, w_i16, Nat.reducePow, i64_and7]
      by_cases ht : 0 < v4 / 32 * 256 + v3
      · rw [if_neg (by simp <;> omega)]
        have hr : readEl l i true = some ⟨false, 0, v4 / 32 * 256 + v3, v4 / 4 % 8 + 4, false, i + 2⟩ := by
          unfold readEl; simp only [hev, c1, hlow, ht, true_or, if_true]; simp
        exact cp _ h _ hr rfl (by simp only; omega) (Old.refl h) rfl rfl rfl (by simp only; omega) (by simp) (by simp only; omega)
      have hz : ¬ (0 < v4 / 32 * 256 + v3 ∨ true = false) := by simp; omega
      rw [if_pos (by simp <;> omega)]
      simp only [st_reg, st_ret, st_exit, st_skip, st_test, st_block, st_cond, sq_reg, sq_ret, sq_exit, sq_skip, sq_test, sq_cond, sq_block, sq_seq, sq_loop, SK_norm, SK_exit, SK_ret, BK_norm, BK_ret, BK_same, BK_exit, LK_norm, LK_exit, LK_ret, endK_norm, endK_ret, M_s2Decode.k21, M_s2Decode.k22, M_s2Decode.k23, M_s2Decode.k24, M_s2Decode.k25, M_s2Decode.k26, M_s2Decode.r32, M_s2Decode.r44, M_s2Decode.r45, M_s2Decode.r33, M_s2Decode.r34, M_s2Decode.r35, M_s2Decode.r36, M_s2Decode.r37, M_s2Decode.r38, M_s2Decode.r39, M_s2Decode.r40, M_s2Decode.r41, M_s2Decode.r42, M_s2Decode.r43, eD, eS, es, ed, eo]
      by_cases h5 : v4 / 4 % 8 = 5
      · rw [if_pos (by simp [h5])]
        refine hS.ldB hb (j := i + 2) (by omega) (by omega) fun v5 hv5 he5 hev5 => ?_
        simp (disch := omega) only [w_i64, w_u64, w_i32, w_u32, w_u16, w_u8, w_i16, Nat.reducePow]
        have hmore : leAt l (i + 2) 1 = some v5 := by
          rw [leAt_in (by omega)]
          have := leN_take_succ l (i + 2) 0 (by omega)
          rw [hev5] at this
          simpa [leN] using this
        have hr : readEl l i true = some ⟨false, 0, 0, v5 + 8, true, i + 3⟩ := by
          unfold readEl
          have e4 : v4 / 4 % 8 - 4 = 1 := by omega
          simp only [hev, c1, hlow, hz, if_false, e4, hmore, h5]
          simp [moreBase]
        exact cp _ h _ hr rfl (by simp only; omega) (Old.refl h) rfl rfl rfl (by simp only; omega) (by simp) (by simp only; omega)
      rw [if_neg (by simp <;> omega)]
      by_cases h6 : v4 / 4 % 8 = 6
      · rw [if_pos (by simp [h6])]
        refine load16 hS hb (i := i + 2) (by omega) (by omega) fun h' ho => ?_
        have hlt := leN_len hb (i + 2) 2 (by omega)
        simp (disch := omega) only [w_i64, w_u64, w_i32, w_u32, w_u16, w_u8, w_i16, Nat.reducePow]
        have hr : readEl l i true = some ⟨false, 0, 0, leN ((l.drop (i + 2)).take 2) + 260, true, i + 4⟩ := by
          unfold readEl
          have e4 : v4 / 4 % 8 - 4 = 2 := by omega
          simp only [hev, c1, hlow, hz, if_false, e4, leAt_in (l := l) (i := i + 2) (n := 2) (by omega), h6]
          simp [moreBase]
        exact cp _ h' _ hr rfl (by simp only; omega) ho rfl rfl rfl (by simp only; omega) (by simp) (by simp only; omega)
      rw [if_neg (by simp <;> omega)]
      by_cases h7 : v4 / 4 % 8 = 7
      · rw [if_pos (by simp [h7])]
        simp (disch := omega) only [w_i64, w_u64, w_i32, w_u32, w_u16, w_u8, w_i16, Nat.reducePow]
        have e1 : ((i : Int) + 2 + 3).toNat - ((i : Int) + 2).toNat = 3 := by omega
        have e2 : ((i : Int) + 2).toNat = i + 2 := by omega
        have hcap := hS.2.1
        refine ⟨by omega, by omega, by omega, by omega, ?_⟩
        rw [e1, e2]
        have hsub := hS.sub (lo := i + 2) (hi := i + 5) (by omega) (by omega)
        rw [List.drop_take, show i + 5 - (i + 2) = 3 by omega] at hsub
        have hlen3 : ((l.drop (i + 2)).take 3).length = 3 := by simp; omega
        have hb3 := (hb.drop (i + 2)).take 3
        refine hsub.ldB hb3 (j := 2) rfl (by omega) fun w2 hw2 _ he2' => ?_
        refine hsub.ldB hb3 (j := 1) rfl (by omega) fun w1 hw1 _ he1' => ?_
        refine hsub.ldB hb3 (j := 0) rfl (by omega) fun w0 hw0 _ he0' => ?_
        rw [getD_take _ (by omega), getD_drop] at he2' he1' he0'
        have hsum : leN ((l.drop (i + 2)).take 3) = w0 + 256 * (w1 + 256 * w2) := by
          have q1 : leN ((l.drop (i + 2)).take 3) = _ := leN_take_succ l (i + 2) 2 (by omega)
          have q2 : leN ((l.drop (i + 2 + 1)).take 2) = _ := leN_take_succ l (i + 2 + 1) 1 (by omega)
          have q3 : leN ((l.drop (i + 2 + 1 + 1)).take 1) = _ := leN_take_succ l (i + 2 + 1 + 1) 0 (by omega)
          rw [q1, q2, q3]
          simp only [List.take_zero, leN]
          simp only [Nat.add_zero] at he0'
          rw [he0', show i + 2 + 1 = i + 2 + 1 from rfl, he1', show i + 2 + 1 + 1 = i + 2 + 2 from rfl, he2']
          omega
        have hlt := leN_len hb (i + 2) 3 (by omega)
        rw [or3d hw0 hw1 hw2, ← hsum]
        simp (disch := omega) only [w_i64, w_u64, w_i32, w_u32, w_u16, w_u8, w_i16, Nat.reducePow]
        have hr : readEl l i true = some ⟨false, 0, 0, leN ((l.drop (i + 2)).take 3) + 65540, true, i + 5⟩ := by
          unfold readEl
          have e4 : v4 / 4 % 8 - 4 = 3 := by omega
          simp only [hev, c1, hlow, hz, if_false, e4, leAt_in (l := l) (i := i + 2) (n := 3) (by omega), h7]
          simp [moreBase]
        exact cp _ h _ hr rfl (by simp only; omega) (Old.refl h) rfl rfl rfl (by simp only; omega) (by simp) (by simp only; omega)
      rw [if_neg (by simp <;> omega)]
      simp (disch := omega) only [w_i64, w_u64, w_i32, w_u32, w_u16, w_u8, w_i16, Nat.reducePow]
      have hr : readEl l i true = some ⟨false, 0, 0, v4 / 4 % 8 + 4, true, i + 2⟩ := by
        unfold readEl
        have e4 : v4 / 4 % 8 ≤ 4 := by omega
        simp only [hev, c1, hlow, hz, if_false, e4, if_true]; simp
      exact cp _ h _ hr rfl (by simp only; omega) (Old.refl h) rfl rfl rfl (by simp only; omega) (by simp) (by simp only; omega)
    · rw [if_neg (by simp <;> omega)]
      simp only [st_reg, st_ret, st_exit, st_skip, st_test, st_block, st_cond, sq_reg, sq_ret, sq_exit, sq_skip, sq_test, sq_cond, sq_block, sq_seq, sq_loop, SK_norm, SK_exit, SK_ret, BK_norm, BK_ret, BK_same, BK_exit, LK_norm, LK_exit, LK_ret, endK_norm, endK_ret, M_s2Decode.k27, M_s2Decode.k28, M_s2Decode.k29, M_s2Decode.k30, M_s2Decode.r46, M_s2Decode.r47, M_s2Decode.r48, M_s2Decode.r49, M_s2Decode.r50, M_s2Decode.r51, M_s2Decode.r52, M_s2Decode.r53, eD, eS, es, ed, eo]
      by_cases c2 : v % 4 = 2
      · rw [if_pos (by simp [c2])]
        refine load16 hS hb (i := i + 1) (by rw [w_i64 (by omega) (by omega)]; omega) (by omega) fun h' ho => ?_
        have hlt := leN_len hb (i + 1) 2 (by omega)
        refine (hS.ext ho.ext).ldB hb (j := i) rfl (by omega) fun v2 hv2 he2 hev2 => ?_
        obtain rfl : v2 = v := by omega
        simp (disch := omega) only [fdiv_nat, w_i64, w_u64, w_i32, w_u32, w_u16, w_u8, w_i16, Nat.reducePow]
        have hr : readEl l i true = some ⟨false, 0, leN ((l.drop (i + 1)).take 2), v2 / 4 + 1, false, i + 3⟩ := by
          unfold readEl; simp only [hev, c2, leAt_in (l := l) (i := i + 1) (n := 2) (by omega), copyEl]; simp
        exact cp _ h' _ hr rfl (by simp only; omega) ho rfl rfl rfl (by simp only; omega) (by simp) (by simp only; omega)
      · rw [if_neg (by simp <;> omega), if_pos (by simp <;> omega)]
        refine load32 hS hb (i := i + 1) (by rw [w_i64 (by omega) (by omega)]; omega) (by omega) fun h' ho => ?_
        have hlt := leN_len hb (i + 1) 4 (by omega)
        refine (hS.ext ho.ext).ldB hb (j := i) rfl (by omega) fun v2 hv2 he2 hev2 => ?_
        obtain rfl : v2 = v := by omega
        simp (disch := omega) only [fdiv_nat, w_i64, w_u64, w_i32, w_u32, w_u16, w_u8, w_i16, Nat.reducePow]
        have hr : readEl l i true = some ⟨false, 0, leN ((l.drop (i + 1)).take 4), v2 / 4 + 1, false, i + 5⟩ := by
          unfold readEl; simp only [hev, c2, c1, c0, leAt_in (l := l) (i := i + 1) (n := 4) (by omega), copyEl, if_false]
        exact cp _ h' _ hr rfl (by simp only; omega) ho rfl rfl rfl (by simp only; omega) (by simp) (by simp only; omega)
end
end Go.Proofs.YtibleenkgmkpmaaDoor
