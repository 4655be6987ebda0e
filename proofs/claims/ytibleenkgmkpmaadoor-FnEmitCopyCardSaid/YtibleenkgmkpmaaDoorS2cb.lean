/- A part of the proof. -/
import Derived.Test.YtibleenkgmkpmaaDoorS2ca
set_option linter.unusedSimpArgs false
set_option linter.unusedVariables false
set_option linter.unusedSectionVars false
namespace Go.Proofs.YtibleenkgmkpmaaDoor
open Go Go.Vc Go.Ml Go.S2

/-- A block: where it lies, its length's head, its body, what it stands for. -/
structure Bl where
  s : Sl
  n : Nat
  body : List Int
abbrev Bl.bytes (x : Bl) : List Int := varB 10 x.n ++ x.body

/-- Blocks, in a slice. -/
structure Bls (B : Nat) (h : Heap) (S : Sl) (bs : List Bl) : Prop where
  v : SlV h S (bs.map fun x => .slice x.s.p x.s.n x.s.c)
  vb : ∀ a, 0 < S.n → S.p = some a → a.block < B
  e : ∀ x ∈ bs, SlI h .u8 x.s x.bytes ∧ Bts x.bytes ∧ x.body.length < 2 ^ 30 ∧ x.n < 2 ^ 32 ∧ ∀ a, 0 < x.s.n → x.s.p = some a → a.block < B

theorem Bls.keep {B : Nat} {h h' : Heap} {S : Sl} {bs : List Bl} (H : Bls B h S bs) (F : Keep B h h') : Bls B h' S bs :=
  ⟨H.v.fr F (fun a h0 ha hh => absurd (H.vb a h0 ha) (Nat.not_lt.2 hh)), H.vb, fun x hx => ⟨(H.e x hx).1.keepB (H.e x hx).2.2.2.2 F, (H.e x hx).2⟩⟩
theorem Bls.len {B : Nat} {h : Heap} {S : Sl} {bs : List Bl} (H : Bls B h S bs) : bs.length = S.n := by have := H.v.len; simpa using this
theorem Bls.ld {B : Nat} {h : Heap} {S : Sl} {bs : List Bl} (H : Bls B h S bs) {i : Nat} (hi : i < bs.length) {K : Option Addr → Nat → Nat → Prop} (hK : K bs[i].s.p bs[i].s.n bs[i].s.c) :
    0 ≤ (i : Int) ∧ (i : Int) < ((S.n : Nat) : Int) ∧ ptrE S.p fun a1 => ∃ (p2 : Option Addr) (n3 c4 : Nat), hcell h (Addr.add a1 (Int.toNat i * 1)) = some (.slice p2 n3 c4) ∧ K p2 n3 c4 := by
  have hl := H.len
  obtain ⟨b, o, hp, hx⟩ := H.v.mem (by omega)
  refine ⟨by omega, by omega, ?_⟩
  rw [hp, ptrE_some, show Int.toNat (i : Int) * 1 = i by omega, add_mk]
  refine ⟨_, _, _, ?_, hK⟩
  rw [hx i (by simpa using hi), List.getElem?_map, List.getElem?_eq_getElem hi]
  rfl

def sumN : List Bl → Nat
  | [] => 0
  | x :: r => x.n + sumN r
def sumB : List Bl → Nat
  | [] => 0
  | x :: r => x.body.length + sumB r
def cat : List Bl → List Int
  | [] => []
  | x :: r => x.body ++ cat r
theorem sumN_app : ∀ (a b : List Bl), sumN (a ++ b) = sumN a + sumN b
  | [], b => by simp [sumN]
  | x :: a, b => by simp [sumN, sumN_app a b]; omega
theorem sumB_app : ∀ (a b : List Bl), sumB (a ++ b) = sumB a + sumB b
  | [], b => by simp [sumB]
  | x :: a, b => by simp [sumB, sumB_app a b]; omega
theorem cat_app : ∀ (a b : List Bl), cat (a ++ b) = cat a ++ cat b
  | [], b => by simp [cat]
  | x :: a, b => by simp [cat, cat_app a b]
theorem cat_len : ∀ a : List Bl, (cat a).length = sumB a
  | [] => rfl
  | x :: a => by simp [cat, sumB, cat_len a]
theorem sumN_take {bs : List Bl} {i : Nat} : sumN (bs.take i) ≤ sumN bs := by
  have := sumN_app (bs.take i) (bs.drop i)
  rw [List.take_append_drop] at this
  omega
theorem sumB_take {bs : List Bl} {i : Nat} : sumB (bs.take i) ≤ sumB bs := by
  have := sumB_app (bs.take i) (bs.drop i)
  rw [List.take_append_drop] at this
  omega
theorem take_one {bs : List Bl} {i : Nat} (hi : i < bs.length) : bs.take (i + 1) = bs.take i ++ [bs[i]] := by
  rw [List.take_add_one, List.getElem?_eq_getElem hi]; rfl

theorem dlen_varB {n : Nat} (hn : n < 2 ^ 32) (t : List Int) : dlen (varB 10 n ++ t) = some (n, (varB 10 n).length) := by
  have hv := s2len_varB hn t
  rw [dlen_yes (by rw [hv]), hv]

section
variable {h : Heap} {S : Sl} {bs : List Bl}

/-- A head that is read. -/
theorem headLen {B : Nat} {x : Bl} (hx : SlI h .u8 x.s x.bytes ∧ Bts x.bytes ∧ x.body.length < 2 ^ 30 ∧ x.n < 2 ^ 32 ∧ ∀ a, 0 < x.s.n → x.s.p = some a → a.block < B) {E : Value} (hE : hcell h ⟨0, 0, none⟩ = some E) {K : Int → Int → Value → Heap → Prop}
    (hK : K x.n (varB 10 x.n).length .nilIface h) : c_decodedLen x.s h K := by
  obtain ⟨h1, h2, h3, h4, _⟩ := hx
  have hvl := varB_len 10 x.n
  have hd := dlen_varB h4 x.body
  refine decodedLen h1 (Byt.of_mem h2) (by simp; omega) hE (fun hn => by rw [hd] at hn; cases hn) (fun v k hs _ _ => ?_)
  rw [hd] at hs
  simp only [Option.some.injEq, Prod.mk.injEq] at hs
  obtain ⟨rfl, rfl⟩ := hs
  exact hK

theorem mkT_cap {P : Program} {e : TypeId} {z : Value} {n : Nat} {h : Heap} {K : Addr → Nat → Nat → Heap → Prop} (hn : n ≤ 2 ^ 40) (h1 : typeSize P e = 1) (hb : typeBytes P e ≤ 8) (hz : zcells P e = [z])
    (hK : K ⟨h.size, 0, none⟩ 0 n (hnew h (List.replicate n z) e)) : mkT P e 0 n h K := by
  have := mkT_one (K := fun a _ c h => K a 0 c h) hn h1 hb hz hK
  obtain ⟨q1, q2, q3, q4, q5⟩ := this
  exact ⟨by omega, by omega, q3, q4, q5⟩

set_option maxHeartbeats 1000000 in
theorem ConcatBlocks {B : Nat} {dst : Sl} (hB : B ≤ h.size) (hB0 : 0 < B) (HD : Own B h .u8 5 dst []) (H : Bls B h S bs) (hn : bs.length ≤ 100) (hsN : sumN bs < 2 ^ 30) (hsB : sumB bs < 2 ^ 30) {E : Value} (hE : hcell h ⟨0, 0, none⟩ = some E)
    {K : Sl → Value → Heap → Prop} (h0 : sumN bs = 0 → ∀ s h', Own B h' .u8 5 s [0] → Keep B h h' → K s .nilIface h')
    (h1 : 0 < sumN bs → ∀ s h', Own B h' .u8 5 s (varB 10 (sumN bs) ++ cat bs) → Keep B h h' → K s .nilIface h') : c_ConcatBlocks dst S h K := by
  have hl := H.len
  have hE' : ∀ {h'}, Keep B h h' → hcell h' ⟨0, 0, none⟩ = some E := fun k => k.cell (by simp only; omega) hE
  apply M_ConcatBlocks.calls
  simp only [st_reg, st_ret, st_exit, st_skip, st_test, st_block, st_cond, sq_reg, sq_ret, sq_exit, sq_skip, sq_test, sq_cond, sq_block, sq_seq, sq_loop, SK_norm, SK_exit, SK_ret, BK_norm, BK_ret, BK_same, BK_exit, LK_norm, LK_exit, LK_ret, endK_norm, endK_ret, M_ConcatBlocks.stm, M_ConcatBlocks.k0, M_ConcatBlocks.k1, M_ConcatBlocks.k2, M_ConcatBlocks.k3, M_ConcatBlocks.init, M_ConcatBlocks.r0, M_ConcatBlocks.r1, M_ConcatBlocks.r2, M_ConcatBlocks.r3]
  refine loop_rule (I := fun s' h' => h' = h ∧ s'.x_dst = dst ∧ s'.x_blocks = S ∧ s'.t21 = S ∧ s'.t22 = bs.length ∧ ∃ i : Nat, s'.t23 = i ∧ i ≤ bs.length ∧ s'.x_totalSize = sumN (bs.take i) ∧ s'.x_compSize = sumB (bs.take i)) (μ := fun s' _ => (bs.length - s'.t23).toNat) ?_ ?_
  · exact ⟨rfl, rfl, rfl, rfl, by rw [← hl], 0, rfl, by omega, rfl, rfl⟩
  · rintro s' h' ⟨rfl, e0, e1, e2, e3, i, e4, hi, e5, e6⟩
    simp only [st_reg, st_ret, st_exit, st_skip, st_test, st_block, st_cond, sq_reg, sq_ret, sq_exit, sq_skip, sq_test, sq_cond, sq_block, sq_seq, sq_loop, SK_norm, SK_exit, SK_ret, BK_norm, BK_ret, BK_same, BK_exit, LK_norm, LK_exit, LK_ret, endK_norm, endK_ret, M_ConcatBlocks.k4, M_ConcatBlocks.k5, M_ConcatBlocks.r4, e0, e1, e2, e3, e4, e5, e6]
    by_cases hc : (i : Int) < bs.length
    · rw [if_pos (by simpa using hc)]
      simp only [st_reg, st_ret, st_exit, st_skip, st_test, st_block, st_cond, sq_reg, sq_ret, sq_exit, sq_skip, sq_test, sq_cond, sq_block, sq_seq, sq_loop, SK_norm, SK_exit, SK_ret, BK_norm, BK_ret, BK_same, BK_exit, LK_norm, LK_exit, LK_ret, endK_norm, endK_ret, M_ConcatBlocks.k6, M_ConcatBlocks.r5, M_ConcatBlocks.r11, e0, e1, e2, e3, e4, e5, e6]
      refine H.ld (i := i) (by omega) ?_
      have hx := H.e (bs[i]'(by omega)) (List.getElem_mem _)
      simp only [st_reg, st_ret, st_exit, st_skip, st_test, st_block, st_cond, sq_reg, sq_ret, sq_exit, sq_skip, sq_test, sq_cond, sq_block, sq_seq, sq_loop, SK_norm, SK_exit, SK_ret, BK_norm, BK_ret, BK_same, BK_exit, LK_norm, LK_exit, LK_ret, endK_norm, endK_ret, M_ConcatBlocks.k7, M_ConcatBlocks.k8, M_ConcatBlocks.r6, M_ConcatBlocks.r7, M_ConcatBlocks.r8, M_ConcatBlocks.r9, M_ConcatBlocks.r10, e0, e1, e2, e3, e4, e5, e6]
      refine headLen hx hE ?_
      simp only [nilE, isNilI]
      rw [if_neg (by simp)]
      have t1 := sumN_take (bs := bs) (i := i + 1)
      have t2 := sumB_take (bs := bs) (i := i + 1)
      have u1 : sumN (bs.take (i + 1)) = sumN (bs.take i) + (bs[i]'(by omega)).n := by rw [take_one (by omega), sumN_app]; rfl
      have u2 : sumB (bs.take (i + 1)) = sumB (bs.take i) + (bs[i]'(by omega)).body.length := by rw [take_one (by omega), sumB_app]; rfl
      have hbl := hx.1.len
      have hbl2 : (bs[i]'(by omega)).bytes.length = (varB 10 (bs[i]'(by omega)).n).length + (bs[i]'(by omega)).body.length := by simp
      simp only [M_ConcatBlocks.r11]
      simp (disch := omega) only [w_i64, w_u64, w_i32, w_u32, w_u16, w_u8, w_i16, Nat.reducePow]
      refine ⟨⟨trivial, trivial, trivial, trivial, trivial, i + 1, by omega, by omega, by omega, by omega⟩, by omega⟩
    · rw [if_neg (by simpa using hc)]
      obtain rfl : i = bs.length := by omega
      simp only [List.take_length] at e5 e6 ⊢
      simp only [st_reg, st_ret, st_exit, st_skip, st_test, st_block, st_cond, sq_reg, sq_ret, sq_exit, sq_skip, sq_test, sq_cond, sq_block, sq_seq, sq_loop, SK_norm, SK_exit, SK_ret, BK_norm, BK_ret, BK_same, BK_exit, LK_norm, LK_exit, LK_ret, endK_norm, endK_ret, M_ConcatBlocks.k9, M_ConcatBlocks.k10, M_ConcatBlocks.r12, M_ConcatBlocks.r13, M_ConcatBlocks.r14, M_ConcatBlocks.res, e0, e1, e2, e3, e4, e5, e6, withH_eq, ptrE_some, add_mk, Nat.zero_add, Nat.add_zero]
      by_cases hz : sumN bs = 0
      · rw [if_pos (by simp [hz])]
        have hd0 := HD.len
        refine app1 HD (by simp at hd0; omega) hB fun p' c' h2 HO HK => ?_
        exact h0 hz _ h2 HO HK
      rw [if_neg (by simp; omega)]
      simp only [st_reg, st_ret, st_exit, st_skip, st_test, st_block, st_cond, sq_reg, sq_ret, sq_exit, sq_skip, sq_test, sq_cond, sq_block, sq_seq, sq_loop, SK_norm, SK_exit, SK_ret, BK_norm, BK_ret, BK_same, BK_exit, LK_norm, LK_exit, LK_ret, endK_norm, endK_ret, M_ConcatBlocks.k11, M_ConcatBlocks.k12, M_ConcatBlocks.k13, M_ConcatBlocks.r15, M_ConcatBlocks.r17, M_ConcatBlocks.r18, M_ConcatBlocks.res, e0, e1, e2, e3, e4, e5, e6, withH_eq, ptrE_some, add_mk, Nat.zero_add, Nat.add_zero]
      rw [if_neg (by simp; omega), z96]
      have o1 := Old.new h' [.int .u8 0, .int .u8 0, .int .u8 0, .int .u8 0, .int .u8 0] 96
      have hb1 := Blk.new h' [.int .u8 0, .int .u8 0, .int .u8 0, .int .u8 0, .int .u8 0] 96
      generalize hnew h' [.int .u8 0, .int .u8 0, .int .u8 0, .int .u8 0, .int .u8 0] 96 = h2 at *
      rw [subP0]
      refine PutUvarint hb1 (by omega) fun cs h3 hb3 hcl hct hF3 => ?_
      rw [← varB_10 (n := sumN bs) (by omega)] at hct ⊢
      have hvl : (varB 10 (sumN bs)).length ≤ 5 := by rw [varB_10 (by omega)]; exact varB_len 5 _
      have hs1 := o1.size
      have k3 : Keep B h' h3 := (Keep.of_old o1).trans (Keep.of_fr hF3 hB)
      have hs3 := k3.size
      have HD3 : Own B h3 .u8 5 dst [] := (HD.old o1).fr hF3 (fun b hp hh => by have := HD.lt hp; omega)
      have hd0 : dst.n = 0 := by have := HD.len; simpa using this.symm
      -- from where there is room
      have mid : ∀ (st : M_ConcatBlocks.St) (h4 : Heap), st.x_blocks = S → st.x_tmp = some ⟨h'.size, 0, none⟩ → st.x_hdrSize = (varB 10 (sumN bs)).length → Own B h4 .u8 5 st.x_dst [] → Keep B h' h4 → Blk h4 h'.size cs 96 → M_ConcatBlocks.k16 st h4 (endK (M_ConcatBlocks.res K)) := by
        intro st h4 f1 f2 f3 HO4 k4 hb4
        have hs4 := k4.size
        simp only [st_reg, st_ret, st_exit, st_skip, st_test, st_block, st_cond, sq_reg, sq_ret, sq_exit, sq_skip, sq_test, sq_cond, sq_block, sq_seq, sq_loop, SK_norm, SK_exit, SK_ret, BK_norm, BK_ret, BK_same, BK_exit, LK_norm, LK_exit, LK_ret, endK_norm, endK_ret, M_ConcatBlocks.k16, M_ConcatBlocks.k17, M_ConcatBlocks.k18, M_ConcatBlocks.r22, M_ConcatBlocks.r23, f1, f2, f3, withH_eq, ptrE_some, add_mk, Nat.zero_add, Nat.add_zero]
        refine ⟨by omega, by omega, ?_⟩
        rw [subP0]
        have hst0 : st.x_dst.n = 0 := by have := HO4.len; simpa using this.symm
        have SV : SlI h4 .u8 ⟨some ⟨h'.size, 0, none⟩, (varB 10 (sumN bs)).length, 5⟩ (varB 10 (sumN bs)) := by
          refine ⟨rfl, hvl, fun _ => ⟨h'.size, 0, rfl, fun j hj => ?_⟩⟩
          have : (cs.take (varB 10 (sumN bs)).length)[j]? = ((varB 10 (sumN bs)).map (Value.int .u8))[j]? := by rw [hct]
          rw [List.getElem?_take, if_pos hj] at this
          rw [Nat.zero_add, hb4.cell, this, List.getElem?_map, List.getElem?_eq_getElem hj, List.getD_eq_getElem?_getD, List.getElem?_eq_getElem hj]; rfl
        rw [show Int.toNat (((varB 10 (sumN bs)).length : Nat) : Int) - 0 = (varB 10 (sumN bs)).length by omega]
        refine append_own (s := st.x_dst) (l := []) (news := varB 10 (sumN bs)) HO4 ts5 tb5 z5 rfl ?_ (by omega) (by omega) fun p5 c5 h5 HO5 HF5 _ => ?_
        · have := src_sl SV (m := (varB 10 (sumN bs)).length) (Nat.le_refl _) (n := (varB 10 (sumN bs)).length) (c := 5)
          rwa [List.take_of_length_le (Nat.le_refl _)] at this
        have k5 := k4.trans (HO4.keep HF5)
        refine loop_rule (I := fun s' h6 => s'.t80 = S ∧ s'.t81 = bs.length ∧ ∃ i : Nat, s'.t82 = i ∧ i ≤ bs.length ∧ Own B h6 .u8 5 s'.x_dst (varB 10 (sumN bs) ++ cat (bs.take i)) ∧ Keep B h' h6) (μ := fun s' _ => (bs.length - s'.t82).toNat) ?_ ?_
        · refine ⟨rfl, by rw [← hl], 0, rfl, by omega, ?_, k5⟩
          simpa [cat] using HO5
        · rintro s6 h6 ⟨q1, q2, i, q3, hi, HO6, k6⟩
          have hs6 := k6.size
          simp only [st_reg, st_ret, st_exit, st_skip, st_test, st_block, st_cond, sq_reg, sq_ret, sq_exit, sq_skip, sq_test, sq_cond, sq_block, sq_seq, sq_loop, SK_norm, SK_exit, SK_ret, BK_norm, BK_ret, BK_same, BK_exit, LK_norm, LK_exit, LK_ret, endK_norm, endK_ret, M_ConcatBlocks.k19, M_ConcatBlocks.k20, M_ConcatBlocks.r24, q1, q2, q3]
          by_cases hc : (i : Int) < bs.length
          · rw [if_pos (by simpa using hc)]
            simp only [st_reg, st_ret, st_exit, st_skip, st_test, st_block, st_cond, sq_reg, sq_ret, sq_exit, sq_skip, sq_test, sq_cond, sq_block, sq_seq, sq_loop, SK_norm, SK_exit, SK_ret, BK_norm, BK_ret, BK_same, BK_exit, LK_norm, LK_exit, LK_ret, endK_norm, endK_ret, M_ConcatBlocks.k21, M_ConcatBlocks.k22, M_ConcatBlocks.k23, M_ConcatBlocks.r25, M_ConcatBlocks.r26, q1, q2, q3]
            have H6 := H.keep k6
            refine H6.ld (i := i) (by omega) ?_
            have hx := H6.e (bs[i]'(by omega)) (List.getElem_mem _)
            refine headLen hx (hE' k6) ?_
            simp only [st_reg, st_ret, st_exit, st_skip, st_test, st_block, st_cond, sq_reg, sq_ret, sq_exit, sq_skip, sq_test, sq_cond, sq_block, sq_seq, sq_loop, SK_norm, SK_exit, SK_ret, BK_norm, BK_ret, BK_same, BK_exit, LK_norm, LK_exit, LK_ret, endK_norm, endK_ret, M_ConcatBlocks.r27, M_ConcatBlocks.r28, M_ConcatBlocks.r29, nilE, isNilI]
            rw [if_neg (by simp)]
            have hbl := hx.1.len
            have hbl2 : (bs[i]'(by omega)).bytes.length = (varB 10 (bs[i]'(by omega)).n).length + (bs[i]'(by omega)).body.length := by simp
            have t2 := sumB_take (bs := bs) (i := i + 1)
            have u2 : sumB (bs.take (i + 1)) = sumB (bs.take i) + (bs[i]'(by omega)).body.length := by rw [take_one (by omega), sumB_app]; rfl
            have hol := HO6.len
            rw [List.length_append, cat_len] at hol
            refine ⟨by omega, by omega, ?_⟩
            rw [Int.toNat_natCast]
            have hsub := hx.1.from (i := (varB 10 (bs[i]'(by omega)).n).length) (by omega)
            rw [List.drop_append_of_le_length (Nat.le_refl _), List.drop_of_length_le (Nat.le_refl _), List.nil_append] at hsub
            have hm : (bs[i]'(by omega)).s.n - (varB 10 (bs[i]'(by omega)).n).length = (bs[i]'(by omega)).body.length := by omega
            refine append_own (s := s6.x_dst) (news := (bs[i]'(by omega)).body) HO6 ts5 tb5 z5 hm.symm ?_ (by omega) (by omega) fun p7 c7 h7 HO7 HF7 _ => ?_
            · have := src_sl hsub (m := (bs[i]'(by omega)).s.n - (varB 10 (bs[i]'(by omega)).n).length) (Nat.le_refl _) (n := (bs[i]'(by omega)).s.n - (varB 10 (bs[i]'(by omega)).n).length) (c := (bs[i]'(by omega)).s.c - (varB 10 (bs[i]'(by omega)).n).length)
              rwa [List.take_of_length_le (by omega)] at this
            simp only [M_ConcatBlocks.r30]
            simp (disch := omega) only [w_i64, w_u64, w_i32, w_u32, w_u16, w_u8, w_i16, Nat.reducePow]
            refine ⟨⟨trivial, trivial, i + 1, by omega, by omega, ?_, k6.trans (HO6.keep HF7)⟩, by omega⟩
            rw [take_one (by omega), cat_app, ← List.append_assoc]
            simpa [cat] using HO7
          · rw [if_neg (by simpa using hc)]
            obtain rfl : i = bs.length := by omega
            rw [List.take_length] at HO6
            simp only [st_reg, st_ret, st_exit, st_skip, st_test, st_block, st_cond, sq_reg, sq_ret, sq_exit, sq_skip, sq_test, sq_cond, sq_block, sq_seq, sq_loop, SK_norm, SK_exit, SK_ret, BK_norm, BK_ret, BK_same, BK_exit, LK_norm, LK_exit, LK_ret, endK_norm, endK_ret, M_ConcatBlocks.r31, M_ConcatBlocks.res]
            exact h1 (by omega) _ h6 HO6 k6
      simp only [st_reg, st_ret, st_exit, st_skip, st_test, st_block, st_cond, sq_reg, sq_ret, sq_exit, sq_skip, sq_test, sq_cond, sq_block, sq_seq, sq_loop, SK_norm, SK_exit, SK_ret, BK_norm, BK_ret, BK_same, BK_exit, LK_norm, LK_exit, LK_ret, endK_norm, endK_ret, M_ConcatBlocks.k14, M_ConcatBlocks.k15, M_ConcatBlocks.r19, M_ConcatBlocks.r20, M_ConcatBlocks.r21, e0, e1, e2, e3, e4, e5, e6, withH_eq, ptrE_some, add_mk, Nat.zero_add, Nat.add_zero, hd0]
      rw [w_i64 (x := ((varB 10 (sumN bs)).length : Int) + (sumB bs : Nat)) (by omega) (by omega)]
      have hdc := HD.cap
      by_cases hroom : IntKind.wrap .i64 ((dst.c : Int) - ((0 : Nat) : Int)) < ((varB 10 (sumN bs)).length : Int) + (sumB bs : Nat)
      · rw [if_pos (by simpa using hroom)]
        have ew : IntKind.wrap .i64 (((varB 10 (sumN bs)).length : Int) + (sumB bs : Nat) + ((0 : Nat) : Int)) = (((varB 10 (sumN bs)).length + sumB bs : Nat) : Int) := by rw [w_i64 (by omega) (by omega)]; omega
        rw [ew]
        refine mkT_cap (z := .int .u8 0) (by omega) ts5 tb5 (by kernel_rfl) ?_
        have o4 := Old.new h3 (List.replicate ((varB 10 (sumN bs)).length + sumB bs) (.int .u8 0)) 5
        have HN : Own B (hnew h3 (List.replicate ((varB 10 (sumN bs)).length + sumB bs) (.int .u8 0)) 5) .u8 5 ⟨some ⟨h3.size, 0, none⟩, 0, (varB 10 (sumN bs)).length + sumB bs⟩ [] :=
          ⟨rfl, Nat.zero_le _, Or.inr ⟨h3.size, _, rfl, by omega, Blk.new _ _ _, by simp, by simp⟩⟩
        generalize hnew h3 (List.replicate ((varB 10 (sumN bs)).length + sumB bs) (.int .u8 0)) 5 = h4 at *
        have hs4 := o4.size
        refine append_own (s := ⟨some ⟨h3.size, 0, none⟩, 0, (varB 10 (sumN bs)).length + sumB bs⟩) (l := []) (news := []) (m := 0) HN ts5 tb5 z5 rfl ?_ (by simp) (by omega) fun p5 c5 h5 HO5 HF5 _ => ?_
        · have := src_sl (HD3.old o4).sl (m := 0) (by omega) (n := 0) (c := dst.c)
          simpa using this
        refine mid _ h5 rfl rfl rfl HO5 (k3.trans ((Keep.of_old o4).trans (HN.keep HF5))) ?_
        refine HF5.Blk (o4.Blk hb3) (fun hp => ?_)
        have : h3.size = h'.size := by simpa using hp
        have := hb3.lt
        omega
      · rw [if_neg (by simpa using hroom)]
        exact mid _ h3 rfl rfl rfl HD3 k3 hb3
end
end Go.Proofs.YtibleenkgmkpmaaDoor
