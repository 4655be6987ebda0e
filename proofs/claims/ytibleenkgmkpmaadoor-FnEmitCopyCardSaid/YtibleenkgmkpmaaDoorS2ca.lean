/- A part of the proof. -/
import Derived.Test.YtibleenkgmkpmaaDoorHq
import Derived.Test.YtibleenkgmkpmaaDoorS2z
import Derived.Test.YtibleenkgmkpmaaDoorModels3
import Derived.Test.YtibleenkgmkpmaaDoorModels4
set_option linter.unusedSimpArgs false
set_option linter.unusedVariables false
set_option linter.unusedSectionVars false
namespace Go.Proofs.YtibleenkgmkpmaaDoor
open Go Go.Vc Go.Ml Go.S2

theorem z96 : zcells Pg 96 = [.int .u8 0, .int .u8 0, .int .u8 0, .int .u8 0, .int .u8 0] := by kernel_rfl
theorem ts22 : typeSize Pg 22 = 1 := by kernel_rfl
theorem tb22 : typeBytes Pg 22 ≤ 64 := by rw [show typeBytes Pg 22 = 24 by kernel_rfl]; decide
theorem z22 : (zcells Pg 22).length = 1 := by rw [show zcells Pg 22 = [.slice none 0 0] by kernel_rfl]; rfl

theorem varB_five : ∀ (f n : Nat), n < 2 ^ (7 * (f + 1)) → varB (f + 1 + 1) n = varB (f + 1) n
  | 0, n, h => by
    have : n < 128 := by simpa using h
    simp [varB, this]
  | f + 1, n, h => by
    rw [varB]
    conv => rhs; rw [varB]
    split
    · rfl
    · rw [varB_five f (n / 128) (by
        have e8 : 7 * (f + 1 + 1) = 7 * (f + 1) + 7 := by omega
        rw [e8, Nat.pow_add] at h
        omega)]
theorem varB_10 {n : Nat} (h : n < 2 ^ 32) : varB 10 n = varB 5 n := by
  have p : ∀ k, 5 ≤ k → n < 2 ^ (7 * k) := fun k hk => Nat.lt_of_lt_of_le h (Nat.pow_le_pow_right (by decide) (by omega))
  rw [varB_five 8 n (p 9 (by omega)), varB_five 7 n (p 8 (by omega)), varB_five 6 n (p 7 (by omega)), varB_five 5 n (p 6 (by omega)), varB_five 4 n (p 5 (by omega))]

/-- PutUvarint into a block of five cells. -/
theorem PutUvarint {h : Heap} {b n : Nat} (hb : Blk h b [.int .u8 0, .int .u8 0, .int .u8 0, .int .u8 0, .int .u8 0] 96) (hn : n < 2 ^ 32) {K : Int → Heap → Prop}
    (hK : ∀ (cs : List Value) (h' : Heap), Blk h' b cs 96 → cs.length = 5 → cs.take (varB 5 n).length = (varB 5 n).map (Value.int .u8) → Fr (· = b) h h' → K (varB 5 n).length h') : c_PutUvarint ⟨some ⟨b, 0, none⟩, 5, 5⟩ n h K := by
  apply M_PutUvarint.calls
  simp only [st_reg, st_ret, st_exit, st_skip, st_test, st_block, st_cond, sq_reg, sq_ret, sq_exit, sq_skip, sq_test, sq_cond, sq_block, sq_seq, sq_loop, SK_norm, SK_exit, SK_ret, BK_norm, BK_ret, BK_same, BK_exit, LK_norm, LK_exit, LK_ret, endK_norm, endK_ret, M_PutUvarint.stm, M_PutUvarint.k0, M_PutUvarint.k1, M_PutUvarint.init, M_PutUvarint.r0, M_PutUvarint.r1]
  refine loop_rule (I := fun s' h' => s'.x_buf = ⟨some ⟨b, 0, none⟩, 5, 5⟩ ∧ ∃ (m f : Nat) (pre : List Int) (cs : List Value), s'.x_x = m ∧ s'.x_i = pre.length ∧ pre ++ varB (f + 1) m = varB 5 n ∧ m < 2 ^ 32 ∧ m < 2 ^ (7 * (f + 1)) ∧ pre.length + f + 1 = 5 ∧ Blk h' b cs 96 ∧ cs.length = 5 ∧ cs.take pre.length = pre.map (Value.int .u8) ∧ Fr (· = b) h h') (μ := fun s' _ => s'.x_x.toNat) ?_ ?_
  · exact ⟨rfl, n, 4, [], _, rfl, rfl, rfl, hn, by simp only [Nat.reduceAdd, Nat.reduceMul]; omega, rfl, hb, rfl, rfl, Fr.refl _ _⟩
  · rintro s' h' ⟨e0, m, f, pre, cs, e1, e2, e3, hm, hm7, hf, hB, hl, ht, hF⟩
    have setk : ∀ v : Value, (cs.set pre.length v).take (pre.length + 1) = pre.map (Value.int .u8) ++ [v] := by
      intro v
      rw [take_set_succ _ _ _ (by omega), ht]
    simp only [st_reg, st_ret, st_exit, st_skip, st_test, st_block, st_cond, sq_reg, sq_ret, sq_exit, sq_skip, sq_test, sq_cond, sq_block, sq_seq, sq_loop, SK_norm, SK_exit, SK_ret, BK_norm, BK_ret, BK_same, BK_exit, LK_norm, LK_exit, LK_ret, endK_norm, endK_ret, M_PutUvarint.k2, M_PutUvarint.k3, M_PutUvarint.r2, M_PutUvarint.r3, M_PutUvarint.r4, M_PutUvarint.r5, e0, e1, e2, withH_eq, ptrE_some, add_mk, Nat.zero_add, Nat.add_zero]
    by_cases hc : (m : Int) ≥ 128
    · rw [if_pos (by simpa using hc)]
      have hor : bOr .u8 (IntKind.wrap .u8 (m : Int)) 128 = ((m % 128 + 128 : Nat) : Int) := by
        rw [w_u8_nat]
        have : bOr .u8 ((m % 256 : Nat) : Int) 128 = ((m % 256 ||| 128 : Nat) : Int) := or_nat (k := .u8) rfl (by show m % 256 < 256; omega) (by decide)
        rw [this]
        have hd : ∀ x, x < 256 → x ||| 128 = x % 128 + 128 := by decide +kernel
        rw [hd _ (by omega)]
        congr 2
        omega
      have f0 : 0 < f := by
        rcases Nat.eq_zero_or_pos f with h | h
        · rw [h] at hm7; simp at hm7; omega
        · exact h
      obtain ⟨g, rfl⟩ : ∃ g, f = g + 1 := ⟨f - 1, by omega⟩
      refine ⟨by omega, by omega, ?_⟩
      rw [hor, show Int.toNat (pre.length : Int) * 1 = pre.length by omega]
      refine st1_blk hB (by omega) ?_
      rw [fdiv_nat, w_i64 (by omega) (by omega)]
      refine ⟨⟨trivial, m / 2 ^ 7, g, pre ++ [((m % 128 + 128 : Nat) : Int)], _, rfl, by simp, ?_, by omega, ?_, by simp; omega, Blk.put hB.lt _ _, by simpa using hl, ?_, hF.trans Fr.put⟩, by omega⟩
      · rw [← e3]
        conv => rhs; rw [varB, if_neg (by omega)]
        simp
      · have e8 : 7 * (g + 1 + 1) = 7 * (g + 1) + 7 := by omega
        rw [e8, Nat.pow_add] at hm7
        omega
      · rw [List.length_append, List.length_singleton, setk]; simp
    · rw [if_neg (by simpa using hc)]
      simp only [st_reg, st_ret, st_exit, st_skip, st_test, st_block, st_cond, sq_reg, sq_ret, sq_exit, sq_skip, sq_test, sq_cond, sq_block, sq_seq, sq_loop, SK_norm, SK_exit, SK_ret, BK_norm, BK_ret, BK_same, BK_exit, LK_norm, LK_exit, LK_ret, endK_norm, endK_ret, M_PutUvarint.k4, M_PutUvarint.res, M_PutUvarint.r6, M_PutUvarint.r7, e0, e1, e2, withH_eq, ptrE_some, add_mk, Nat.zero_add, Nat.add_zero]
      refine ⟨by omega, by omega, ?_⟩
      rw [show Int.toNat (pre.length : Int) * 1 = pre.length by omega, w_u8_nat, Nat.mod_eq_of_lt (by omega)]
      refine st1_blk hB (by omega) ?_
      rw [w_i64 (by omega) (by omega)]
      rw [varB, if_pos (by omega)] at e3
      have el : ((pre.length : Nat) : Int) + 1 = ((varB 5 n).length : Nat) := by rw [← e3]; simp
      rw [el]
      refine hK _ _ (Blk.put hB.lt _ _) (by simpa using hl) ?_ (hF.trans Fr.put)
      rw [← e3, List.length_append, List.length_singleton, setk]; simp

/-- Slices of pieces, in a slice. -/
structure Pcss (B : Nat) (h : Heap) (S : Sl) (pss : List (Sl × List Pc)) : Prop where
  len : pss.length = S.n
  mem : 0 < S.n → ∃ b o, S.p = some ⟨b, o, none⟩ ∧ b < B ∧ ∀ i (hi : i < pss.length), hcell h ⟨b, o + i, none⟩ = some (.slice pss[i].1.p pss[i].1.n pss[i].1.c) ∧ Pcs B h pss[i].1 pss[i].2
theorem Pcss.keep {B : Nat} {h h' : Heap} {S : Sl} {pss : List (Sl × List Pc)} (H : Pcss B h S pss) (F : Keep B h h') : Pcss B h' S pss := by
  refine ⟨H.len, fun h0 => ?_⟩
  obtain ⟨b, o, hp, hb, hx⟩ := H.mem h0
  exact ⟨b, o, hp, hb, fun i hi => ⟨F.cell (by simp only; omega) (hx i hi).1, (hx i hi).2.keep F⟩⟩
theorem Pcss.ld {B : Nat} {h : Heap} {S : Sl} {pss : List (Sl × List Pc)} (H : Pcss B h S pss) {i : Nat} (hi : i < pss.length) {K : Option Addr → Nat → Nat → Prop} (hK : Pcs B h pss[i].1 pss[i].2 → K pss[i].1.p pss[i].1.n pss[i].1.c) :
    0 ≤ (i : Int) ∧ (i : Int) < ((S.n : Nat) : Int) ∧ ptrE S.p fun a1 => ∃ (p2 : Option Addr) (n3 c4 : Nat), hcell h (Addr.add a1 (Int.toNat i * 1)) = some (.slice p2 n3 c4) ∧ K p2 n3 c4 := by
  have hl := H.len
  obtain ⟨b, o, hp, hb, hx⟩ := H.mem (by omega)
  refine ⟨by omega, by omega, ?_⟩
  rw [hp, ptrE_some, show Int.toNat (i : Int) * 1 = i by omega, add_mk]
  exact ⟨_, _, _, (hx i hi).1, hK (hx i hi).2⟩

theorem zzFits3 {B : Nat} {h : Heap} {S : Sl} {pss : List (Sl × List Pc)} (H : Pcss B h S pss) (hB : B ≤ h.size) {K : Bool → Heap → Prop} (hK : ∀ b h', (b = true → pss.length ≤ 2147483647 ∧ ∀ x ∈ pss, x.2.length ≤ 2147483647) → Keep B h h' → K b h') : c_laws_zzFits3 S h K := by
  have hl := H.len
  apply M_laws_zzFits3.calls
  simp only [st_reg, st_ret, st_exit, st_skip, st_test, st_block, st_cond, sq_reg, sq_ret, sq_exit, sq_skip, sq_test, sq_cond, sq_block, sq_seq, sq_loop, SK_norm, SK_exit, SK_ret, BK_norm, BK_ret, BK_same, BK_exit, LK_norm, LK_exit, LK_ret, endK_norm, endK_ret, M_laws_zzFits3.stm, M_laws_zzFits3.k0, M_laws_zzFits3.k1, M_laws_zzFits3.k2, M_laws_zzFits3.init, M_laws_zzFits3.res, M_laws_zzFits3.r0, M_laws_zzFits3.r1, M_laws_zzFits3.r2, M_laws_zzFits3.r3, M_laws_zzFits3.r9]
  by_cases h1 : ((S.n : Nat) : Int) > 2147483647
  · rw [if_pos (by simpa using h1)]
    exact hK false h (fun h => by cases h) (Keep.refl _ _)
  rw [if_neg (by simpa using h1)]
  refine loop_rule (I := fun s' h' => s'.t8 = S ∧ s'.t9 = pss.length ∧ ∃ i : Nat, s'.t10 = i ∧ i ≤ pss.length ∧ Keep B h h' ∧ ∀ j (hj : j < pss.length), j < i → pss[j].2.length ≤ 2147483647) (μ := fun s' _ => (pss.length - s'.t10).toNat) ?_ ?_
  · exact ⟨rfl, by rw [← hl], 0, rfl, by omega, Keep.refl _ _, fun j _ hj => by omega⟩
  · rintro s' h' ⟨e1, e2, i, e3, hi, hk, hall⟩
    have hs := hk.size
    simp only [st_reg, st_ret, st_exit, st_skip, st_test, st_block, st_cond, sq_reg, sq_ret, sq_exit, sq_skip, sq_test, sq_cond, sq_block, sq_seq, sq_loop, SK_norm, SK_exit, SK_ret, BK_norm, BK_ret, BK_same, BK_exit, LK_norm, LK_exit, LK_ret, endK_norm, endK_ret, M_laws_zzFits3.k3, M_laws_zzFits3.k4, M_laws_zzFits3.k5, M_laws_zzFits3.res, M_laws_zzFits3.r4, M_laws_zzFits3.r5, M_laws_zzFits3.r8, e1, e2, e3]
    by_cases hc : (i : Int) < pss.length
    · rw [if_pos (by simpa using hc)]
      refine (H.keep hk).ld (i := i) (by omega) fun P => ?_
      simp only [st_reg, st_ret, st_exit, st_skip, st_test, st_block, st_cond, sq_reg, sq_ret, sq_exit, sq_skip, sq_test, sq_cond, sq_block, sq_seq, sq_loop, SK_norm, SK_exit, SK_ret, BK_norm, BK_ret, BK_same, BK_exit, LK_norm, LK_exit, LK_ret, endK_norm, endK_ret, M_laws_zzFits3.k6, M_laws_zzFits3.res, M_laws_zzFits3.r6, M_laws_zzFits3.r7, withH_eq, ptrE_some, add_mk, Nat.zero_add, Nat.add_zero]
      refine zzFits1 P (by omega) fun b h2 hb k2 => ?_
      cases b with
      | false =>
        rw [if_pos (by simp)]
        exact hK false h2 (fun h => by cases h) (hk.trans k2)
      | true =>
        rw [if_neg (by simp)]
        simp only [M_laws_zzFits3.r8]
        simp (disch := omega) only [w_i64, w_u64, w_i32, w_u32, w_u16, w_u8, w_i16, Nat.reducePow]
        refine ⟨⟨trivial, trivial, i + 1, by omega, by omega, hk.trans k2, fun j hj hji => ?_⟩, by omega⟩
        by_cases hji' : j < i
        · exact hall j hj hji'
        · obtain rfl : j = i := by omega
          exact hb rfl
    · rw [if_neg (by simpa using hc)]
      simp only [st_reg, st_ret, st_exit, st_skip, st_test, st_block, st_cond, sq_reg, sq_ret, sq_exit, sq_skip, sq_test, sq_cond, sq_block, sq_seq, sq_loop, SK_norm, SK_exit, SK_ret, BK_norm, BK_ret, BK_same, BK_exit, LK_norm, LK_exit, LK_ret, endK_norm, endK_ret, M_laws_zzFits3.k1, M_laws_zzFits3.res, M_laws_zzFits3.r3, M_laws_zzFits3.r9]
      refine hK true h' (fun _ => ⟨by omega, fun x hx => ?_⟩) hk
      obtain ⟨j, hj, rfl⟩ := List.mem_iff_getElem.1 hx
      exact hall j hj (by omega)
end Go.Proofs.YtibleenkgmkpmaaDoor
