/- A part of the proof. -/
import Derived.Test.YtibleenkgmkpmaaDoorS2ec
import Derived.Test.YtibleenkgmkpmaaDoorModels3
import Derived.Test.YtibleenkgmkpmaaDoorS2cb
set_option linter.unusedSimpArgs false
set_option linter.unusedVariables false
set_option linter.unusedSectionVars false
namespace Go.Proofs.YtibleenkgmkpmaaDoor
open Go Go.Vc Go.Ml Go.S2

theorem uvarint {h : Heap} {n : Nat} (hn : n < 2 ^ 32) {K : Sl → Heap → Prop} (hK : ∀ s h', Own h.size h' .u8 5 s (varB 10 n) → Old h h' → K s h') : c_laws_uvarint n h K := by
  apply M_laws_uvarint.calls
  simp only [st_reg, st_ret, st_exit, st_skip, st_test, st_block, st_cond, sq_reg, sq_ret, sq_exit, sq_skip, sq_test, sq_cond, sq_block, sq_seq, sq_loop, SK_norm, SK_exit, SK_ret, BK_norm, BK_ret, BK_same, BK_exit, LK_norm, LK_exit, LK_ret, endK_norm, endK_ret, M_laws_uvarint.stm, M_laws_uvarint.k0, M_laws_uvarint.k1, M_laws_uvarint.init, M_laws_uvarint.r0, M_laws_uvarint.r1, M_laws_uvarint.r5]
  refine loop_rule (I := fun s' h' => ∃ (m f : Nat) (pre : List Int), s'.x_n = m ∧ pre ++ varB (f + 1) m = varB 10 n ∧ m < 2 ^ 32 ∧ m < 2 ^ (7 * (f + 1)) ∧ pre.length + f + 1 ≤ 10 ∧ Own h.size h' .u8 5 s'.x_out pre ∧ Keep h.size h h') (μ := fun s' _ => s'.x_n.toNat) ?_ ?_
  · exact ⟨n, 9, [], rfl, rfl, hn, by simp only [Nat.reduceAdd, Nat.reduceMul]; omega, by simp, Own.nil _ _ _ _, Keep.refl _ _⟩
  · rintro s' h' ⟨m, f, pre, e1, e2, hm, hm7, hf, HO, HK⟩
    have hsz := HK.size
    have hl := HO.len
    simp only [st_reg, st_ret, st_exit, st_skip, st_test, st_block, st_cond, sq_reg, sq_ret, sq_exit, sq_skip, sq_test, sq_cond, sq_block, sq_seq, sq_loop, SK_norm, SK_exit, SK_ret, BK_norm, BK_ret, BK_same, BK_exit, LK_norm, LK_exit, LK_ret, endK_norm, endK_ret, M_laws_uvarint.k2, M_laws_uvarint.k3, M_laws_uvarint.r2, M_laws_uvarint.r3, M_laws_uvarint.r4, e1]
    by_cases hc : (m : Int) ≥ 128
    · rw [if_pos (by simpa using hc)]
      have hor : bOr .u8 (IntKind.wrap .u8 (m : Int)) 128 = ((m % 128 + 128 : Nat) : Int) := by
        rw [w_u8_nat]
        have : bOr .u8 ((m % 256 : Nat) : Int) 128 = ((m % 256 ||| 128 : Nat) : Int) := or_nat (k := .u8) rfl (by show m % 256 < 256; omega) (by decide)
        rw [this]
        have hd : ∀ x, x < 256 → x ||| 128 = x % 128 + 128 := by decide +kernel
        rw [hd _ (by omega)]
        congr 2
        omega
      rw [withH_eq, hor]
      refine app1 HO (by omega) hsz fun p' c' h2 HO2 HK2 => ?_
      rw [fdiv_nat]
      have f0 : 0 < f := by
        rcases Nat.eq_zero_or_pos f with h | h
        · rw [h] at hm7; simp at hm7; omega
        · exact h
      obtain ⟨g, rfl⟩ : ∃ g, f = g + 1 := ⟨f - 1, by omega⟩
      refine ⟨⟨m / 2 ^ 7, g, pre ++ [((m % 128 + 128 : Nat) : Int)], rfl, ?_, by omega, ?_, by simp; omega, HO2, HK.trans HK2⟩, by omega⟩
      · rw [← e2]
        conv => rhs; rw [varB, if_neg (by omega)]
        simp
      · have e8 : 7 * (g + 1 + 1) = 7 * (g + 1) + 7 := by omega
        rw [e8, Nat.pow_add] at hm7
        omega
    · rw [if_neg (by simpa using hc)]
      simp only [st_reg, st_ret, st_exit, st_skip, st_test, st_block, st_cond, sq_reg, sq_ret, sq_exit, sq_skip, sq_test, sq_cond, sq_block, sq_seq, sq_loop, SK_norm, SK_exit, SK_ret, BK_norm, BK_ret, BK_same, BK_exit, LK_norm, LK_exit, LK_ret, endK_norm, endK_ret, M_laws_uvarint.k1, M_laws_uvarint.res, M_laws_uvarint.r5, e1]
      rw [withH_eq, w_u8_nat, Nat.mod_eq_of_lt (by omega)]
      refine app1 HO (by omega) hsz fun p' c' h2 HO2 HK2 => ?_
      rw [varB, if_pos (by omega)] at e2
      rw [e2] at HO2
      exact hK _ _ HO2 (Keep.old (HK.trans HK2))


theorem sl_putL {h : Heap} {db N c : Nat} {M enc : List Int} (HB : Blk h db ((putL M 0 enc).map (Value.int .u8)) 5) (hN : enc.length ≤ c) : SlI h .u8 ⟨some ⟨db, 0, none⟩, enc.length, c⟩ enc := by
  refine ⟨rfl, hN, fun _ => ⟨db, 0, rfl, fun j hj => ?_⟩⟩
  have e : (putL M 0 enc)[j]? = some enc[j] := by
    unfold putL
    rw [List.take_zero, List.nil_append, List.getElem?_append_left hj, List.getElem?_eq_getElem hj]
  rw [Nat.zero_add, HB.cell, List.getElem?_map, e, List.getD_eq_getElem?_getD, List.getElem?_eq_getElem hj]; rfl

theorem SnappyDecode {S : Sl} {l : List Int} {h : Heap} (hS : SlI h .u8 S l) (hsB : ∀ a, 0 < S.n → S.p = some a → a.block < h.size) (hb : Byt l) (hl : l.length < 2 ^ 36) {K : Sl → Int → Heap → Prop}
    (hK : ∀ (sl : Sl) (r : Nat) (h' : Heap), r = (decd l false).2 → (r = 1 → SlI h' .u8 sl (decd l false).1) → Old h h' → K sl r h') : c_spec_SnappyDecode S h K := by
  apply M_spec_SnappyDecode.calls
  simp only [st_reg, st_ret, st_exit, st_skip, st_test, st_block, st_cond, sq_reg, sq_ret, sq_exit, sq_skip, sq_test, sq_cond, sq_block, sq_seq, sq_loop, SK_norm, SK_exit, SK_ret, BK_norm, BK_ret, BK_same, BK_exit, LK_norm, LK_exit, LK_ret, endK_norm, endK_ret, M_spec_SnappyDecode.stm, M_spec_SnappyDecode.r0, M_spec_SnappyDecode.r1, M_spec_SnappyDecode.init, M_spec_SnappyDecode.res, withH_eq, ptrE_some, add_mk, Nat.zero_add, Nat.add_zero]
  have o1 := Old.new h [.slice none 0 0, .slice none 0 0, .int .i64 (0 : Int), .bool false] 65
  refine decoded (B := h.size) (hS.ext o1.ext) hsB hb hl o1.size (rest := fun j => [Value.slice none 0 0, .slice none 0 0, .int .i64 (0 : Int), .bool false][j]?) ⟨Nat.le_refl _, _, none, 0, 0, Blk.new _ _ _, rfl, rfl, rfl, rfl, fun _ _ _ => rfl, Own.nil _ _ _ _, fun b hb => by cases hb⟩ ?_
  intro sl r h' h1 h2 h3
  exact hK sl r h' h1 h2 (Keep.old ((Keep.of_old o1).trans h3))

section
variable {h : Heap} {S : Sl} {l : List Int}

theorem implEmitLiteral (hS : SlI h .u8 S l) (hb : Bts l) (hl : l.length < 2 ^ 20) (hsB : ∀ a, 0 < S.n → S.p = some a → a.block < h.size) {K : Sl → Heap → Prop}
    (hK : ∀ s enc h', SlI h' .u8 s enc → (∀ s2, LitS s2 enc l) → Bts enc → enc.length ≤ l.length + 5 → (∀ a, s.p = some a → h.size ≤ a.block ∧ a.block < h'.size) → Old h h' → K s h') : c_impl_S2EmitLiteral S h K := by
  have hsl := hS.len
  apply M_impl_S2EmitLiteral.calls
  simp only [st_reg, st_ret, st_exit, st_skip, st_test, st_block, st_cond, sq_reg, sq_ret, sq_exit, sq_skip, sq_test, sq_cond, sq_block, sq_seq, sq_loop, SK_norm, SK_exit, SK_ret, BK_norm, BK_ret, BK_same, BK_exit, LK_norm, LK_exit, LK_ret, endK_norm, endK_ret, M_impl_S2EmitLiteral.k0, M_impl_S2EmitLiteral.stm, M_impl_S2EmitLiteral.r0, M_impl_S2EmitLiteral.r1, M_impl_S2EmitLiteral.r2, M_impl_S2EmitLiteral.init, M_impl_S2EmitLiteral.res]
  have ew : IntKind.wrap .i64 ((S.n : Int) + 32) = ((l.length + 32 : Nat) : Int) := by rw [w_i64 (by omega) (by omega)]; omega
  rw [ew]
  refine mkT_one (z := .int .u8 0) (by omega) ts5 tb5 (by kernel_rfl) ?_
  have o1 := Old.new h (List.replicate (l.length + 32) (.int .u8 0)) 5
  have hb1 := Blk.new h (List.replicate (l.length + 32) (.int .u8 0)) 5
  generalize hnew h (List.replicate (l.length + 32) (.int .u8 0)) 5 = h1 at *
  rw [← List.map_replicate (f := Value.int .u8) (a := 0)] at hb1
  apply M_ZzEmitLiteral.calls
  simp only [st_reg, st_ret, st_exit, st_skip, st_test, st_block, st_cond, sq_reg, sq_ret, sq_exit, sq_skip, sq_test, sq_cond, sq_block, sq_seq, sq_loop, SK_norm, SK_exit, SK_ret, BK_norm, BK_ret, BK_same, BK_exit, LK_norm, LK_exit, LK_ret, endK_norm, endK_ret, M_ZzEmitLiteral.stm, M_ZzEmitLiteral.r0, M_ZzEmitLiteral.r1, M_ZzEmitLiteral.init, M_ZzEmitLiteral.res]
  refine emitLiteral (M := List.replicate (l.length + 32) 0) hb1 (by simp) (Nat.le_refl _) (by omega) (hS.ext o1.ext) (fun a h0 ha => by have := hsB a h0 ha; omega) hb (by omega) fun enc h2 q1 q2 q3 q4 q5 => ?_
  refine ⟨by omega, by omega, ?_⟩
  rw [subP0, Int.toNat_natCast, Nat.sub_zero, Nat.sub_zero]
  have hlt := q4.lt
  exact hK _ enc h2 (sl_putL (N := 0) q4 (by omega)) q2 q3 q1 (fun a ha => by obtain rfl := Option.some.inj ha; exact ⟨Nat.le_refl _, hlt⟩) (Keep.old ((Keep.of_old o1).trans (Keep.of_fr q5 (Nat.le_refl _))))

theorem implEmitCopy {off len : Nat} {again : Bool} (hlen : 4 ≤ len) (hlen2 : len ≤ 2 ^ 20) (hoff : off < 2 ^ 31) {K : Sl → Heap → Prop}
    (hK : ∀ s enc h', SlI h' .u8 s enc → (again = true → CopS true enc off len) → (again = false → ∀ s2, CopS s2 enc off len) → Bts enc → enc.length ≤ len / 12 + 20 → (∀ a, s.p = some a → h.size ≤ a.block ∧ a.block < h'.size) → Old h h' → K s h') : c_impl_S2EmitCopy off len again h K := by
  apply M_impl_S2EmitCopy.calls
  simp only [st_reg, st_ret, st_exit, st_skip, st_test, st_block, st_cond, sq_reg, sq_ret, sq_exit, sq_skip, sq_test, sq_cond, sq_block, sq_seq, sq_loop, SK_norm, SK_exit, SK_ret, BK_norm, BK_ret, BK_same, BK_exit, LK_norm, LK_exit, LK_ret, endK_norm, endK_ret, M_impl_S2EmitCopy.k1, M_impl_S2EmitCopy.k0, M_impl_S2EmitCopy.stm, M_impl_S2EmitCopy.r0, M_impl_S2EmitCopy.r1, M_impl_S2EmitCopy.r2, M_impl_S2EmitCopy.r3, M_impl_S2EmitCopy.r4, M_impl_S2EmitCopy.init, M_impl_S2EmitCopy.res]
  have ed : Int.tdiv (len : Int) 4 = ((len / 4 : Nat) : Int) := rfl
  have ew : IntKind.wrap .i64 (IntKind.wrap .i64 (Int.tdiv (len : Int) 4) + 32) = ((len / 4 + 32 : Nat) : Int) := by rw [ed, w_i64 (x := ((len / 4 : Nat) : Int)) (by omega) (by omega), w_i64 (by omega) (by omega)]; omega
  rw [ew]
  refine mkT_one (z := .int .u8 0) (by omega) ts5 tb5 (by kernel_rfl) ?_
  have o1 := Old.new h (List.replicate (len / 4 + 32) (.int .u8 0)) 5
  have hb1 := Blk.new h (List.replicate (len / 4 + 32) (.int .u8 0)) 5
  generalize hnew h (List.replicate (len / 4 + 32) (.int .u8 0)) 5 = h1 at *
  rw [← List.map_replicate (f := Value.int .u8) (a := 0)] at hb1
  cases again with
  | true =>
    rw [if_pos rfl]
    apply M_ZzEmitCopy.calls
    simp only [st_reg, st_ret, st_exit, st_skip, st_test, st_block, st_cond, sq_reg, sq_ret, sq_exit, sq_skip, sq_test, sq_cond, sq_block, sq_seq, sq_loop, SK_norm, SK_exit, SK_ret, BK_norm, BK_ret, BK_same, BK_exit, LK_norm, LK_exit, LK_ret, endK_norm, endK_ret, M_ZzEmitCopy.stm, M_ZzEmitCopy.r0, M_ZzEmitCopy.r1, M_ZzEmitCopy.init, M_ZzEmitCopy.res]
    refine emitCopy (M := List.replicate (len / 4 + 32) 0) hb1 (by simp) (Nat.le_refl _) (by omega) hlen (by omega) hoff fun enc h2 q1 q2 q4 q5 => ?_
    refine ⟨by omega, by omega, ?_⟩
    rw [subP0, Int.toNat_natCast, Nat.sub_zero, Nat.sub_zero]
    have hlt := q4.lt
    exact hK _ enc h2 (sl_putL (N := 0) q4 (by omega)) (fun _ => q2) (fun h => by cases h) q2.1 (by omega) (fun a ha => by obtain rfl := Option.some.inj ha; exact ⟨Nat.le_refl _, hlt⟩) (Keep.old ((Keep.of_old o1).trans (Keep.of_fr q5 (Nat.le_refl _))))
  | false =>
    rw [if_neg (by simp)]
    apply M_ZzEmitCopyNoRepeat.calls
    simp only [st_reg, st_ret, st_exit, st_skip, st_test, st_block, st_cond, sq_reg, sq_ret, sq_exit, sq_skip, sq_test, sq_cond, sq_block, sq_seq, sq_loop, SK_norm, SK_exit, SK_ret, BK_norm, BK_ret, BK_same, BK_exit, LK_norm, LK_exit, LK_ret, endK_norm, endK_ret, M_ZzEmitCopyNoRepeat.stm, M_ZzEmitCopyNoRepeat.r0, M_ZzEmitCopyNoRepeat.r1, M_ZzEmitCopyNoRepeat.init, M_ZzEmitCopyNoRepeat.res]
    refine emitCopyNoRepeat len (M := List.replicate (len / 4 + 32) 0) hb1 (by simp) (Nat.le_refl _) (by omega) hlen (by omega) hoff fun enc h2 q1 q2 q4 q5 => ?_
    refine ⟨by omega, by omega, ?_⟩
    rw [subP0, Int.toNat_natCast, Nat.sub_zero, Nat.sub_zero]
    have hlt := q4.lt
    exact hK _ enc h2 (sl_putL (N := 0) q4 (by omega)) (fun h => by cases h) (fun _ => q2) (q2 true).1 (by omega) (fun a ha => by obtain rfl := Option.some.inj ha; exact ⟨Nat.le_refl _, hlt⟩) (Keep.old ((Keep.of_old o1).trans (Keep.of_fr q5 (Nat.le_refl _))))

theorem joinNil (hS : SlI h .u8 S l) (hl : l.length < 2 ^ 36) {K : Sl → Heap → Prop} (hK : ∀ s h', Own h.size h' .u8 5 s l → Old h h' → K s h') : c_laws_join S ⟨none, 0, 0⟩ h K := by
  have hsl := hS.len
  apply M_laws_join.calls
  simp only [st_reg, st_ret, st_exit, st_skip, st_test, st_block, st_cond, sq_reg, sq_ret, sq_exit, sq_skip, sq_test, sq_cond, sq_block, sq_seq, sq_loop, SK_norm, SK_exit, SK_ret, BK_norm, BK_ret, BK_same, BK_exit, LK_norm, LK_exit, LK_ret, endK_norm, endK_ret, M_laws_join.k1, M_laws_join.k0, M_laws_join.stm, M_laws_join.r0, M_laws_join.r1, M_laws_join.r2, M_laws_join.r3, M_laws_join.init, M_laws_join.res]
  have ew : IntKind.wrap .i64 ((S.n : Int) + ((0 : Nat) : Int)) = ((l.length : Nat) : Int) := by rw [w_i64 (by omega) (by omega)]; omega
  rw [ew]
  refine mkT_cap (z := .int .u8 0) (by omega) ts5 tb5 (by kernel_rfl) ?_
  have o1 := Old.new h (List.replicate l.length (.int .u8 0)) 5
  have HN : Own h.size (hnew h (List.replicate l.length (.int .u8 0)) 5) .u8 5 ⟨some ⟨h.size, 0, none⟩, 0, l.length⟩ [] :=
    ⟨rfl, Nat.zero_le _, Or.inr ⟨h.size, _, rfl, Nat.le_refl _, Blk.new _ _ _, by simp, by simp⟩⟩
  generalize hnew h (List.replicate l.length (.int .u8 0)) 5 = h1 at *
  have hs1 := o1.size
  refine append_own (s := ⟨some ⟨h.size, 0, none⟩, 0, l.length⟩) (l := []) (news := l) HN ts5 tb5 z5 hsl.symm ?_ (by simp only; omega) hs1 fun p' c' h2 HO2 HF2 _ => ?_
  · have := src_sl (hS.ext o1.ext) (m := S.n) (Nat.le_refl _) (n := S.n) (c := S.c)
    rwa [List.take_of_length_le (by omega)] at this
  have k2 : Keep h.size h h2 := (Keep.of_old o1).trans (HN.keep HF2)
  refine append_own (s := ⟨p', 0 + S.n, c'⟩) (l := [] ++ l) (news := []) (m := 0) HO2 ts5 tb5 z5 rfl (by simp [srcCells]) (by simp only; omega) k2.size fun p3 c3 h3 HO3 HF3 _ => ?_
  simp only [List.nil_append, List.append_nil] at HO3
  exact hK _ h3 HO3 (Keep.old (k2.trans (HO2.keep HF3)))

theorem copiedT {off len : Nat} (hS : SlI h .u8 S l) (hl : l.length < 2 ^ 36) (h0 : 0 < off) (h1 : off ≤ l.length) (hlen : len < 2 ^ 36) {K : Sl → Heap → Prop} (hK : ∀ s h', Own h.size h' .u8 5 s (fwd l off len) → Old h h' → K s h') : c_laws_copied S off len h K := by
  apply M_laws_copied.calls
  simp only [st_reg, st_ret, st_exit, st_skip, st_test, st_block, st_cond, sq_reg, sq_ret, sq_exit, sq_skip, sq_test, sq_cond, sq_block, sq_seq, sq_loop, SK_norm, SK_exit, SK_ret, BK_norm, BK_ret, BK_same, BK_exit, LK_norm, LK_exit, LK_ret, endK_norm, endK_ret, M_laws_copied.stm, M_laws_copied.k0, M_laws_copied.k1, M_laws_copied.k2, M_laws_copied.init, M_laws_copied.r0, M_laws_copied.r1, M_laws_copied.r2, M_laws_copied.r6]
  refine joinNil hS hl fun s h1 HO o1 => ?_
  refine loop_rule (I := fun s' h' => s'.x_offset = off ∧ s'.t10 = len ∧ ∃ i : Nat, s'.t11 = i ∧ i ≤ len ∧ Own h.size h' .u8 5 s'.x_out (fwd l off i) ∧ Keep h.size h h') (μ := fun s' _ => (len - s'.t11).toNat) ?_ ?_
  · exact ⟨rfl, rfl, 0, rfl, by omega, HO, Keep.of_old o1⟩
  · rintro s' h' ⟨e1, e2, i, e3, hi, HO', hk⟩
    have hs := hk.size
    simp only [st_reg, st_ret, st_exit, st_skip, st_test, st_block, st_cond, sq_reg, sq_ret, sq_exit, sq_skip, sq_test, sq_cond, sq_block, sq_seq, sq_loop, SK_norm, SK_exit, SK_ret, BK_norm, BK_ret, BK_same, BK_exit, LK_norm, LK_exit, LK_ret, endK_norm, endK_ret, M_laws_copied.k3, M_laws_copied.k4, M_laws_copied.res, M_laws_copied.r3, e1, e2, e3]
    by_cases hc : (i : Int) < len
    · rw [if_pos (by simpa using hc)]
      simp only [st_reg, st_ret, st_exit, st_skip, st_test, st_block, st_cond, sq_reg, sq_ret, sq_exit, sq_skip, sq_test, sq_cond, sq_block, sq_seq, sq_loop, SK_norm, SK_exit, SK_ret, BK_norm, BK_ret, BK_same, BK_exit, LK_norm, LK_exit, LK_ret, endK_norm, endK_ret, M_laws_copied.k5, M_laws_copied.r4, M_laws_copied.r5, e1, e2, e3]
      have hol := HO'.len
      rw [fwd_len] at hol
      have ei : IntKind.wrap .i64 ((s'.x_out.n : Int) - off) = ((l.length + i - off : Nat) : Int) := by rw [w_i64 (by omega) (by omega)]; omega
      rw [ei]
      refine HO'.sl.ld (by omega) (by omega) ?_
      rw [Int.toNat_natCast, withH_eq]
      refine app1 HO' (by omega) hs fun p' c' h2 HO2 HK2 => ?_
      simp (disch := omega) only [w_i64, w_u64, w_i32, w_u32, w_u16, w_u8, w_i16, Nat.reducePow]
      exact ⟨⟨trivial, trivial, i + 1, by omega, by omega, HO2, hk.trans HK2⟩, by omega⟩
    · rw [if_neg (by simpa using hc)]
      obtain rfl : i = len := by omega
      simp only [st_reg, st_ret, st_exit, st_skip, st_test, st_block, st_cond, sq_reg, sq_ret, sq_exit, sq_skip, sq_test, sq_cond, sq_block, sq_seq, sq_loop, SK_norm, SK_exit, SK_ret, BK_norm, BK_ret, BK_same, BK_exit, LK_norm, LK_exit, LK_ret, endK_norm, endK_ret, M_laws_copied.k1, M_laws_copied.res, M_laws_copied.r2, M_laws_copied.r6]
      exact hK _ h' HO' (Keep.old hk)

def flat : List (Sl × List Int) → List Int
  | [] => []
  | x :: r => x.2 ++ flat r
theorem flat_app : ∀ (a b : List (Sl × List Int)), flat (a ++ b) = flat a ++ flat b
  | [], b => by simp [flat]
  | x :: a, b => by simp [flat, flat_app a b]

/-- laws.block: a length's head and parts behind it. -/
theorem block {n : Nat} {ps : List (Sl × List Int)} (hn : n < 2 ^ 32) (hv : SlV h S (ps.map fun x => .slice x.1.p x.1.n x.1.c)) (hSB : ∀ a, 0 < S.n → S.p = some a → a.block < h.size) (hp : ∀ x ∈ ps, SlI h .u8 x.1 x.2 ∧ ∀ a, 0 < x.1.n → x.1.p = some a → a.block < h.size) (hsm : (flat ps).length < 2 ^ 36) (hps : ps.length < 100)
    {K : Sl → Heap → Prop} (hK : ∀ s h', Own h.size h' .u8 5 s (varB 10 n ++ flat ps) → Old h h' → K s h') : c_laws_block n S h K := by
  have hl := hv.len
  rw [List.length_map] at hl
  apply M_laws_block.calls
  simp only [st_reg, st_ret, st_exit, st_skip, st_test, st_block, st_cond, sq_reg, sq_ret, sq_exit, sq_skip, sq_test, sq_cond, sq_block, sq_seq, sq_loop, SK_norm, SK_exit, SK_ret, BK_norm, BK_ret, BK_same, BK_exit, LK_norm, LK_exit, LK_ret, endK_norm, endK_ret, M_laws_block.stm, M_laws_block.k0, M_laws_block.k1, M_laws_block.k2, M_laws_block.init, M_laws_block.r0, M_laws_block.r1, M_laws_block.r2, M_laws_block.r7]
  refine uvarint hn fun s h1 HO o1 => ?_
  refine loop_rule (I := fun s' h' => s'.t10 = S ∧ s'.t11 = ps.length ∧ ∃ i : Nat, s'.t12 = i ∧ i ≤ ps.length ∧ Own h.size h' .u8 5 s'.x_out (varB 10 n ++ flat (ps.take i)) ∧ Keep h.size h h') (μ := fun s' _ => (ps.length - s'.t12).toNat) ?_ ?_
  · refine ⟨rfl, by rw [hl], 0, rfl, by omega, ?_, Keep.of_old o1⟩
    simpa [flat] using HO
  · rintro s' h' ⟨e1, e2, i, e3, hi, HO', hk⟩
    have hs := hk.size
    simp only [st_reg, st_ret, st_exit, st_skip, st_test, st_block, st_cond, sq_reg, sq_ret, sq_exit, sq_skip, sq_test, sq_cond, sq_block, sq_seq, sq_loop, SK_norm, SK_exit, SK_ret, BK_norm, BK_ret, BK_same, BK_exit, LK_norm, LK_exit, LK_ret, endK_norm, endK_ret, M_laws_block.k3, M_laws_block.k4, M_laws_block.res, M_laws_block.r3, e1, e2, e3]
    by_cases hc : (i : Int) < ps.length
    · rw [if_pos (by simpa using hc)]
      simp only [st_reg, st_ret, st_exit, st_skip, st_test, st_block, st_cond, sq_reg, sq_ret, sq_exit, sq_skip, sq_test, sq_cond, sq_block, sq_seq, sq_loop, SK_norm, SK_exit, SK_ret, BK_norm, BK_ret, BK_same, BK_exit, LK_norm, LK_exit, LK_ret, endK_norm, endK_ret, M_laws_block.k5, M_laws_block.r4, M_laws_block.r5, M_laws_block.r6, e1, e2, e3]
      have hil : i < ps.length := by omega
      obtain ⟨b, o, hbp, hx⟩ := hv.mem (by omega)
      have hxi := hx i (by simpa using hil)
      rw [List.getElem?_map, List.getElem?_eq_getElem hil] at hxi
      have hbl := hSB _ (by omega) hbp
      refine ⟨by omega, by omega, ?_⟩
      rw [hbp, ptrE_some, show Int.toNat (i : Int) * 1 = i by omega, add_mk]
      refine ⟨_, _, _, hk.cell (by simp only at hbl ⊢; omega) hxi, ?_⟩
      obtain ⟨q1, q2⟩ := hp ps[i] (List.getElem_mem _)
      have q3 := q1.keepB q2 hk
      have hol := HO'.len
      have hql := q1.len
      have u2 : flat (ps.take (i + 1)) = flat (ps.take i) ++ ps[i].2 := by
        rw [List.take_add_one, List.getElem?_eq_getElem hil, Option.toList, flat_app]; simp [flat]
      have hle : (flat (ps.take (i + 1))).length ≤ (flat ps).length := by
        have := flat_app (ps.take (i + 1)) (ps.drop (i + 1))
        rw [List.take_append_drop] at this
        rw [this, List.length_append]; omega
      rw [u2, List.length_append] at hle
      rw [List.length_append] at hol
      have hvl := varB_len 10 n
      refine append_own (s := s'.x_out) (news := ps[i].2) HO' ts5 tb5 z5 hql.symm ?_ (by omega) (by omega) fun p' c' h2 HO2 HF2 _ => ?_
      · have := src_sl q3 (m := ps[i].1.n) (Nat.le_refl _) (n := ps[i].1.n) (c := ps[i].1.c)
        rwa [List.take_of_length_le (by omega)] at this
      simp (disch := omega) only [w_i64, w_u64, w_i32, w_u32, w_u16, w_u8, w_i16, Nat.reducePow]
      refine ⟨⟨trivial, trivial, i + 1, by omega, by omega, ?_, hk.trans (HO'.keep HF2)⟩, by omega⟩
      rw [u2, ← List.append_assoc]
      exact HO2
    · rw [if_neg (by simpa using hc)]
      obtain rfl : i = ps.length := by omega
      rw [List.take_length] at HO'
      simp only [st_reg, st_ret, st_exit, st_skip, st_test, st_block, st_cond, sq_reg, sq_ret, sq_exit, sq_skip, sq_test, sq_cond, sq_block, sq_seq, sq_loop, SK_norm, SK_exit, SK_ret, BK_norm, BK_ret, BK_same, BK_exit, LK_norm, LK_exit, LK_ret, endK_norm, endK_ret, M_laws_block.k1, M_laws_block.res, M_laws_block.r2, M_laws_block.r7]
      exact hK _ h' HO' (Keep.old hk)

theorem decd_of {s2 : Bool} {body out : List Int} {last : Nat} (H : GoesG s2 body out last) (hle : out.length ≤ 4194304) : decd (varB 10 out.length ++ body) s2 = (out, 1) := by
  rw [decd_def (s2len_varB (by omega) body), if_neg (by simp), if_neg (by omega), ← dec_drop (by simp), List.drop_append_of_le_length (Nat.le_refl _), List.drop_of_length_le (Nat.le_refl _), List.nil_append, H.done]
  rfl
theorem said_of {body out : List Int} {last : Nat} (H : GoesG true body out last) (hle : out.length < 2 ^ 32) : said (varB 10 out.length ++ body) = some out := by
  unfold said
  rw [dlen_varB hle]
  simp only
  rw [← dec_drop (by simp), List.drop_append_of_le_length (Nat.le_refl _), List.drop_of_length_le (Nat.le_refl _), List.nil_append]
  exact H.done

theorem fwd_bts {out : List Int} (h : Bts out) (o k : Nat) : Bts (fwd out o k) := fwd_byt h k

set_option maxHeartbeats 1000000 in
theorem law_EmitCopy {off len : Int} {again : Bool} (hS : SlI h .u8 S l) (hsB : ∀ a, 0 < S.n → S.p = some a → a.block < h.size) (hb : Bts l) {E : Value} (hE : hcell h ⟨0, 0, none⟩ = some E) (hnE : isNilI E = some false) : c_laws_FnEmitCopy S off len again h fun b h' => b = true ∧ Old h h' := by
  have hsl := hS.len
  apply M_laws_FnEmitCopy.calls
  simp only [st_reg, st_ret, st_exit, st_skip, st_test, st_block, st_cond, sq_reg, sq_ret, sq_exit, sq_skip, sq_test, sq_cond, sq_block, sq_seq, sq_loop, SK_norm, SK_exit, SK_ret, BK_norm, BK_ret, BK_same, BK_exit, LK_norm, LK_exit, LK_ret, endK_norm, endK_ret, M_laws_FnEmitCopy.stm, M_laws_FnEmitCopy.init, M_laws_FnEmitCopy.k0, M_laws_FnEmitCopy.k1, M_laws_FnEmitCopy.r0, M_laws_FnEmitCopy.r1, M_laws_FnEmitCopy.r2, M_laws_FnEmitCopy.r3, M_laws_FnEmitCopy.r4, M_laws_FnEmitCopy.res, hsl]
  by_cases c0 : ((l.length : Nat) : Int) > 2147483647
  · rw [if_pos (by simpa using c0)]; exact ⟨trivial, Old.refl _⟩
  rw [if_neg (by simpa using c0)]
  by_cases c1 : ((l.length : Nat) : Int) < 1
  · rw [if_neg (by simpa using c1), if_pos trivial]; exact ⟨trivial, Old.refl _⟩
  rw [if_pos (by simpa using c1)]
  by_cases c2 : ((l.length : Nat) : Int) > 65536
  · rw [if_neg (by simpa using c2), if_pos trivial]; exact ⟨trivial, Old.refl _⟩
  rw [if_pos (by simpa using c2)]
  by_cases c3 : off < 1
  · rw [if_neg (by simpa using c3), if_pos trivial]; exact ⟨trivial, Old.refl _⟩
  rw [if_pos (by simpa using c3)]
  by_cases c4 : off > ((l.length : Nat) : Int)
  · rw [if_neg (by simpa using c4), if_pos trivial]; exact ⟨trivial, Old.refl _⟩
  rw [if_pos (by simpa using c4)]
  by_cases c5 : len < 4
  · rw [if_neg (by simpa using c5), if_pos trivial]; exact ⟨trivial, Old.refl _⟩
  rw [if_pos (by simpa using c5)]
  by_cases c6 : len > 131072
  · rw [if_pos (by simpa using c6)]; exact ⟨trivial, Old.refl _⟩
  rw [if_neg (by simpa using c6)]
  obtain ⟨o, rfl⟩ : ∃ o : Nat, off = o := ⟨off.toNat, by omega⟩
  obtain ⟨n, rfl⟩ : ∃ n : Nat, len = n := ⟨len.toNat, by omega⟩
  simp only [st_reg, st_ret, st_exit, st_skip, st_test, st_block, st_cond, sq_reg, sq_ret, sq_exit, sq_skip, sq_test, sq_cond, sq_block, sq_seq, sq_loop, SK_norm, SK_exit, SK_ret, BK_norm, BK_ret, BK_same, BK_exit, LK_norm, LK_exit, LK_ret, endK_norm, endK_ret, M_laws_FnEmitCopy.k2, M_laws_FnEmitCopy.k3, M_laws_FnEmitCopy.k4, M_laws_FnEmitCopy.r5, M_laws_FnEmitCopy.r6, M_laws_FnEmitCopy.r7]
  refine copiedT hS (by omega) (by omega) (by omega) (by omega) fun want h1 HW o1 => ?_
  have s1 := o1.size
  refine implEmitLiteral (hS.ext o1.ext) hb (by omega) (fun a h0 ha => by have := hsB a h0 ha; omega) fun w2 e2 h2 p1 p2 p3 p4 p5 o2 => ?_
  have s2 := o2.size
  refine implEmitCopy (off := o) (len := n) (by omega) (by omega) (by omega) fun w4 e4 h3 q1 q2 q3 q4 q5 q6 o3 => ?_
  have s3 := o3.size
  rw [withH_eq]
  have o4 := Old.new h3 [.slice w2.p w2.n w2.c, .slice w4.p w4.n w4.c] 22
  have hv4 := sl_newV h3 [.slice w2.p w2.n w2.c, .slice w4.p w4.n w4.c] 22
  have hb4 : h3.size < (hnew h3 [.slice w2.p w2.n w2.c, .slice w4.p w4.n w4.c] 22).size := (Blk.new h3 _ _).lt
  generalize hnew h3 [.slice w2.p w2.n w2.c, .slice w4.p w4.n w4.c] 22 = h4 at *
  have s4 := o4.size
  have hwl := HW.len
  rw [fwd_len] at hwl
  rw [← hwl]
  refine block (n := l.length + n) (ps := [(w2, e2), (w4, e4)]) (by omega) hv4 (fun a _ ha => by obtain rfl := Option.some.inj ha; exact hb4) ?_ (by simp [flat]; omega) (by simp) fun b h5 HB5 o5 => ?_
  · intro x hx
    rcases List.mem_cons.1 hx with rfl | hx
    · exact ⟨(p1.ext o3.ext).ext o4.ext, fun a _ ha => by have := p5 a ha; omega⟩
    · obtain rfl := List.mem_singleton.1 hx
      exact ⟨q1.ext o4.ext, fun a _ ha => by have := q6 a ha; omega⟩
  have s5 := o5.size
  have hflat : flat [(w2, e2), (w4, e4)] = e2 ++ e4 := by simp [flat]
  rw [hflat, ← fwd_len l o n] at HB5
  have oall := (((o1.trans o2).trans o3).trans o4).trans o5
  have go : ∀ s2, CopS s2 e4 o n → GoesG s2 (e2 ++ e4) (fwd l o n) o := by
    intro s2 hc
    have g1 : GoesG s2 e2 l 0 := by
      have := p2 s2 [] 0
      rwa [List.nil_append] at this
    exact g1.seq (hc.2.2 l 0 (by omega) (by omega)) (by rw [fwd_len]; omega)
  have hbts : Bts (varB 10 (fwd l o n).length ++ (e2 ++ e4)) := (varB_bts _ _).app (p3.app q4)
  have hlen : (varB 10 (fwd l o n).length ++ (e2 ++ e4)).length < 2 ^ 36 := by
    have := varB_len 10 (fwd l o n).length
    simp; omega
  have hbb : ∀ a, 0 < b.n → b.p = some a → a.block < h5.size := by
    intro a _ ha
    rcases HB5.mem with ⟨h1, _⟩ | ⟨b', cs, hp, _, hbk, _⟩
    · rw [h1] at ha; cases ha
    · rw [hp] at ha
      obtain rfl := Option.some.inj ha
      exact hbk.lt
  have hfl : (fwd l o n).length ≤ 4194304 := by rw [fwd_len]; omega
  have hfb : Byt (fwd l o n) := Byt.of_mem (fwd_bts hb o n)
  have hE5 : hcell h5 ⟨0, 0, none⟩ = some E := (Fr.of_old (S := fun _ => False) oall).cell (fun x => x) hE
  refine S2Decode HB5.sl hbb (Byt.of_mem hbts) hlen fun sl r h6 r1 r2 o6 => ?_
  have s6 := o6.size
  -- from where the reference's answer is known
  have fin : ∀ (st : M_laws_FnEmitCopy.St) (h7 : Heap), Old h5 h7 → CopS true e4 o n → st.x_b = b → st.x_want = want → st.x_told = 1 → SlI h7 .u8 st.x_out (fwd l o n) → M_laws_FnEmitCopy.k6 st h7 (endK (M_laws_FnEmitCopy.res fun b h' => b = true ∧ Old h h')) := by
    intro st h7 o7 hc f1 f2 f3 f4
    have s7 := o7.size
    simp only [st_reg, st_ret, st_exit, st_skip, st_test, st_block, st_cond, sq_reg, sq_ret, sq_exit, sq_skip, sq_test, sq_cond, sq_block, sq_seq, sq_loop, SK_norm, SK_exit, SK_ret, BK_norm, BK_ret, BK_same, BK_exit, LK_norm, LK_exit, LK_ret, endK_norm, endK_ret, M_laws_FnEmitCopy.k6, M_laws_FnEmitCopy.r10, M_laws_FnEmitCopy.r11, M_laws_FnEmitCopy.res, f1, f2, f3]
    refine implDecode (HB5.old o7).sl (fun a h0 ha => by have := hbb a h0 ha; omega) (Byt.of_mem hbts) hlen ((Fr.of_old (S := fun _ => False) o7).cell (fun x => x) hE5) hnE fun sl2 bb h8 t1 t2 o8 => ?_
    have hsd := said_of (go true hc) (by omega)
    have hbt : bb = true := by rw [t1, hsd]; rfl
    subst hbt
    rw [if_pos (by simp)]
    have W8 := (HW.old ((((o2.trans o3).trans o4).trans o5).trans (o7.trans o8))).sl
    refine eq (f4.ext o8.ext) W8 hfb hfb (by rw [fwd_len]; omega) fun b6 hb6 => ?_
    rw [hb6.2 rfl, if_pos rfl, if_pos rfl]
    refine eq (t2 _ hsd) W8 hfb hfb (by rw [fwd_len]; omega) fun b7 hb7 => ?_
    exact ⟨hb7.2 rfl, oall.trans (o7.trans o8)⟩
  simp only [st_reg, st_ret, st_exit, st_skip, st_test, st_block, st_cond, sq_reg, sq_ret, sq_exit, sq_skip, sq_test, sq_cond, sq_block, sq_seq, sq_loop, SK_norm, SK_exit, SK_ret, BK_norm, BK_ret, BK_same, BK_exit, LK_norm, LK_exit, LK_ret, endK_norm, endK_ret, M_laws_FnEmitCopy.k5, M_laws_FnEmitCopy.r8, M_laws_FnEmitCopy.r9]
  cases again with
  | true =>
    rw [if_neg (by simp)]
    have hd := decd_of (go true (q2 rfl)) hfl
    rw [hd] at r1 r2
    simp only at r1 r2
    exact fin _ h6 o6 (q2 rfl) rfl rfl (by simp only; rw [r1]; rfl) (r2 r1)
  | false =>
    rw [if_pos (by simp)]
    have hd := decd_of (go false (q3 rfl false)) hfl
    refine SnappyDecode (HB5.old o6).sl (fun a h0 ha => by have := hbb a h0 ha; omega) (Byt.of_mem hbts) hlen fun sl r h7 r1 r2 o7 => ?_
    rw [hd] at r1 r2
    simp only at r1 r2
    exact fin _ h7 (o6.trans o7) (q3 rfl true) rfl rfl (by simp only; rw [r1]; rfl) (r2 r1)
end
end Go.Proofs.YtibleenkgmkpmaaDoor
