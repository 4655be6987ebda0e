/- matchLen tells how many first bytes are the same; the law FnMatchLen over heaps that hold the two tables. -/
import Derived.Test.YtgcmdkiahjjpeaaDoorMlWords
set_option linter.unusedSimpArgs false
set_option linter.unusedVariables false
set_option linter.unusedSectionVars false
namespace Go.Vc
/-- b[:n]. -/
theorem SlI.cut {h : Heap} {k : IntKind} {s : Sl} {l : List Int} (H : SlI h k s l) {n : Nat} (hn : n ≤ s.n) : SlI h k ⟨subP s.p 0 s.c 1, n, s.c⟩ (l.take n) := by
  have := H.sub (lo := 0) (hi := n) (by omega) hn
  simpa using this
theorem SlI.len {h : Heap} {k : IntKind} {s : Sl} {l : List Int} (H : SlI h k s l) : s.n = l.length := H.1.symm
end Go.Vc
namespace Go.Proofs.YtgcmdkiahjjpeaaDoor
open Go Go.Vc Go.Ml

structure Tabs (h : Heap) : Prop where
  t32 : Tab h 0 Lib.deBruijn32tab
  t64 : Tab h 1 Lib.deBruijn64tab
theorem Tabs.ext {h h' : Heap} (H : Tabs h) (he : HExt h h') : Tabs h' := ⟨H.t32.ext he, H.t64.ext he⟩

/-- What holds in matchLen's loops: both slices stand behind what was the same. -/
structure MlI (h0 : Heap) (la lb : List Int) (k : Nat) (s : M_matchLen.St) (h : Heap) : Prop where
  ck : s.x_checked = k
  le : k ≤ la.length
  a : SlI h .u8 s.x_a (la.drop k)
  b : SlI h .u8 s.x_b (lb.drop k)
  eq : pre la lb = k + pre (la.drop k) (lb.drop k)
  old : Old h0 h

section
variable {h0 : Heap} {la lb : List Int} (ha : Byt la) (hb : Byt lb) (hl : la.length = lb.length) (hn : la.length < 2 ^ 62)
  {K : Int → Heap → Prop} (hK : ∀ h', Old h0 h' → K (pre la lb : Int) h')
include hl hn hK

/-- The last loop: byte by byte. -/
theorem ml_tail {k : Nat} {s : M_matchLen.St} {h : Heap} (I : MlI h0 la lb k s h) :
    (.seq (.reg M_matchLen.r18)
    (.seq (.seq (.reg M_matchLen.r19)
    (.block 2 (.loop (.seq (.reg M_matchLen.r20)
    (.seq (.cond (fun s => s.t62) .skip
    (.exit 2))
    (.seq (.block 3 (.seq (.reg M_matchLen.r21)
    (.test M_matchLen.r22 (.seq (.reg M_matchLen.r23)
    .ret)
    .skip)))
    (.reg M_matchLen.r24)))))))
    (.seq (.reg M_matchLen.r25)
    .ret)) : Stm M_matchLen.St) s h (endK (M_matchLen.res K)) := by
  have hla := I.a.len
  have hlb := I.b.len
  have hle := I.le
  rw [List.length_drop] at hla hlb
  simp only [sq_reg, sq_seq, M_matchLen.r18, M_matchLen.r19]
  have := I.b.2.1
  refine ⟨by omega, by omega, ?_⟩
  rw [sq_block]
  have hcut := I.b.cut (n := s.x_a.n) (by omega)
  rw [List.take_of_length_le (by rw [List.length_drop]; omega)] at hcut
  refine loop_rule (I := fun s' h' => ∃ j : Nat, j ≤ la.length - k ∧ s'.x_checked = k ∧ s'.t61 = j ∧ s'.t60 = ((la.length - k : Nat) : Int) ∧ SlI h' .u8 s'.x_a (la.drop k) ∧ SlI h' .u8 s'.x_b (lb.drop k) ∧ Old h0 h' ∧
    ∀ i, i < j → (la.drop k).getD i 0 = (lb.drop k).getD i 0) (μ := fun s' _ => (la.length - s'.t61).toNat) ?_ ?_
  · exact ⟨0, by omega, I.ck, rfl, by rw [hla], I.a, by simpa using hcut, I.old, by omega⟩
  · rintro s' h' ⟨j, hj, h1, h2, h3, h4, h5, h6, h7⟩
    have hla' := h4.len
    have hlb' := h5.len
    rw [List.length_drop] at hla' hlb'
    simp only [sq_reg, M_matchLen.r20, sq_cond, sq_skip, sq_exit]
    by_cases hc : s'.t61 < s'.t60
    · rw [if_pos (by simpa using hc)]
      simp only [sq_block, sq_reg, st_test, M_matchLen.r21, M_matchLen.r22, M_matchLen.r23, M_matchLen.r24]
      refine h4.ld (by omega) (by omega) ?_
      refine h5.ld (by omega) (by omega) ?_
      rw [h2, Int.toNat_natCast]
      by_cases he : (la.drop k).getD j 0 = (lb.drop k).getD j 0
      · rw [if_neg (by simp at he ⊢; exact he)]
        simp only [st_skip, BK_norm, SK_norm, st_reg, LK_norm]
        refine ⟨⟨j + 1, by omega, h1, ?_, h3, h4, h5, h6, ?_⟩, ?_⟩
        · simp only [h2]; rw [w_i64 (by omega) (by omega)]; omega
        · intro i hi
          by_cases hij : i = j
          · subst hij; exact he
          · exact h7 i (by omega)
        · simp only [h2]; rw [w_i64 (by omega) (by omega)]; omega
      · rw [if_pos (by simpa using he)]
        simp only [st_reg, st_ret, st_exit, st_skip, st_test, st_block, st_cond, sq_reg, sq_ret, sq_exit, sq_skip, sq_test, sq_cond, sq_block, sq_seq, sq_loop, SK_norm, SK_exit, SK_ret, BK_norm, BK_ret, BK_same, BK_exit, LK_norm, LK_exit, LK_ret, endK_norm, endK_ret, M_matchLen.res]
        rw [h1, w_i64 (by omega) (by omega)]
        have e := pre_eq (la.drop k) (lb.drop k) j (by rw [List.length_drop]; omega) (by rw [List.length_drop]; omega) h7 he
        have e2 := I.eq
        rw [e] at e2
        have := hK h' h6
        rw [e2] at this
        rw [Int.add_comm]
        exact_mod_cast this
    · rw [if_neg (by simpa using hc)]
      simp only [LK_exit, BK_same, SK_norm, sq_reg, M_matchLen.r25, st_ret, endK_ret, M_matchLen.res]
      rw [h1, w_i64 (by omega) (by omega)]
      have e := pre_self_of_get (la.drop k) (lb.drop k) (by simp [hl]) (fun i hi => h7 i (by rw [List.length_drop] at hi; omega))
      have e2 := I.eq
      rw [e, List.length_drop] at e2
      have := hK h' h6
      rw [e2] at this
      rw [Int.add_comm, hla']
      exact_mod_cast this

include ha hb
/-- The whole of matchLen, from where the two texts are as long. -/
theorem ml_all {s : M_matchLen.St} {h : Heap} (ht : Tabs h0) (I : MlI h0 la lb 0 s h) :
    (.seq (.test M_matchLen.r3 (.seq (.seq (.reg M_matchLen.r4)
    (.test M_matchLen.r5 (.seq (.reg M_matchLen.r6)
    .ret)
    .skip))
    (.seq (.reg M_matchLen.r7)
    (.seq (.reg M_matchLen.r8)
    (.seq (.reg M_matchLen.r9)
    (.block 0 (.loop (.seq (.test M_matchLen.r10 .skip
    (.exit 0))
    (.block 1 (.seq (.reg M_matchLen.r11)
    (.seq (.seq (.reg M_matchLen.r12)
    (.test M_matchLen.r13 (.seq (.reg M_matchLen.r14)
    .ret)
    .skip))
    (.seq (.reg M_matchLen.r15)
    (.seq (.reg M_matchLen.r16)
    (.reg M_matchLen.r17)))))))))))))
    .skip)
    (.seq (.reg M_matchLen.r18)
    (.seq (.seq (.reg M_matchLen.r19)
    (.block 2 (.loop (.seq (.reg M_matchLen.r20)
    (.seq (.cond (fun s => s.t62) .skip
    (.exit 2))
    (.seq (.block 3 (.seq (.reg M_matchLen.r21)
    (.test M_matchLen.r22 (.seq (.reg M_matchLen.r23)
    .ret)
    .skip)))
    (.reg M_matchLen.r24)))))))
    (.seq (.reg M_matchLen.r25)
    .ret))) : Stm M_matchLen.St) s h (endK (M_matchLen.res K)) := by
  have tl := fun k s h I => ml_tail (s := s) (h := h) (k := k) hl hn hK I
  generalize hT : (.seq (.reg M_matchLen.r18)
    (.seq (.seq (.reg M_matchLen.r19)
    (.block 2 (.loop (.seq (.reg M_matchLen.r20)
    (.seq (.cond (fun s => s.t62) .skip
    (.exit 2))
    (.seq (.block 3 (.seq (.reg M_matchLen.r21)
    (.test M_matchLen.r22 (.seq (.reg M_matchLen.r23)
    .ret)
    .skip)))
    (.reg M_matchLen.r24)))))))
    (.seq (.reg M_matchLen.r25)
    .ret)) : Stm M_matchLen.St) = T at *
  have hla := I.a.len
  have hlb := I.b.len
  rw [List.length_drop] at hla hlb
  simp only [sq_test, sq_seq, sq_reg, sq_skip, M_matchLen.r3, M_matchLen.r4, M_matchLen.r5, M_matchLen.r6, M_matchLen.r7, M_matchLen.r8, M_matchLen.r9]
  by_cases h4 : ((s.x_a.n : Nat) : Int) > 4
  case neg =>
    rw [if_neg (by simpa using h4)]
    exact tl 0 s h I
  rw [if_pos (by simpa using h4)]
  have hA := I.a
  have hB := I.b
  rw [List.drop_zero] at hA hB
  refine load32 hA ha (by omega) fun g1 o1 => ?_
  refine load32 (hB.ext o1.ext) hb (by omega) fun g2 o2 => ?_
  have hO := (I.old.trans o1).trans o2
  have l1 : leN (la.take 4) < 2 ^ 32 := by have := leN_lt (la.take 4) (ha.take 4).mem; rw [show (la.take 4).length = 4 by simp; omega] at this; omega
  have l2 : leN (lb.take 4) < 2 ^ 32 := by have := leN_lt (lb.take 4) (hb.take 4).mem; rw [show (lb.take 4).length = 4 by simp; omega] at this; omega
  rw [xor_nat rfl l1 l2]
  have hx : leN (la.take 4) ^^^ leN (lb.take 4) < 2 ^ 32 := Nat.xor_lt_two_pow l1 l2
  by_cases hz : leN (la.take 4) ^^^ leN (lb.take 4) = 0
  case neg =>
    rw [if_pos (by simp; omega)]
    refine tz32 (ht.t32.ext hO.ext) (by omega) hx ?_
    obtain ⟨m, hm, hk⟩ := ctz_spec (n := 32) (by omega) hx
    have e := xor_tells (n := 4) (by omega) (by omega) ha.mem hb.mem (by omega) hm
    have := hK g2 hO
    rw [e] at this
    simp only [st_reg, st_ret, st_exit, st_skip, st_test, st_block, st_cond, sq_reg, sq_ret, sq_exit, sq_skip, sq_test, sq_cond, sq_block, sq_seq, sq_loop, SK_norm, SK_exit, SK_ret, BK_norm, BK_ret, BK_same, BK_exit, LK_norm, LK_exit, LK_ret, endK_norm, endK_ret, M_matchLen.res, fdiv_pow]
    exact_mod_cast this
  rw [if_neg (by simp; omega)]
  have e4 := xor_none (n := 4) (by omega) (by omega) ha.mem hb.mem hz
  refine ⟨by omega, by omega, by omega, by omega, ?_⟩
  rw [sq_block]
  have O2 := (o1.trans o2).ext
  refine loop_rule (I := fun s' h' => ∃ k, 4 ≤ k ∧ MlI h0 la lb k s' h') (μ := fun s' _ => s'.x_a.n) ?_ ?_
  · refine ⟨4, by omega, ?_⟩
    refine { ck := rfl, le := by omega, a := ?_, b := ?_, eq := e4, old := hO }
    · exact (hA.ext O2).from (i := 4) (by omega)
    · exact (hB.ext O2).from (i := 4) (by omega)
  · rintro s' h' ⟨k, hk4, I'⟩
    have hla' := I'.a.len
    have hlb' := I'.b.len
    rw [List.length_drop] at hla' hlb'
    have hck := I'.ck
    have hle := I'.le
    simp only [sq_reg, sq_test, sq_skip, sq_exit, sq_seq, M_matchLen.r0, M_matchLen.r1, M_matchLen.r2, M_matchLen.r3, M_matchLen.r4, M_matchLen.r5, M_matchLen.r6, M_matchLen.r7, M_matchLen.r8, M_matchLen.r9, M_matchLen.r10, M_matchLen.r11, M_matchLen.r12, M_matchLen.r13, M_matchLen.r14, M_matchLen.r15, M_matchLen.r16, M_matchLen.r17, M_matchLen.r18, M_matchLen.r19, M_matchLen.r20, M_matchLen.r21, M_matchLen.r22, M_matchLen.r23, M_matchLen.r24, M_matchLen.r25, M_matchLen.init, M_matchLen.res]
    by_cases h8 : ((s'.x_a.n : Nat) : Int) ≥ 8
    case neg =>
      rw [if_neg (by simpa using h8)]
      simp only [LK_exit, BK_same, SK_norm]
      exact tl k s' h' I'
    rw [if_pos (by simpa using h8)]
    simp only [sq_block, st_block, sq_reg, sq_seq, sq_test, sq_skip]
    have := I'.b.2.1
    refine ⟨by omega, by omega, ?_⟩
    have hcut := I'.b.cut (n := s'.x_a.n) (by omega)
    rw [List.take_of_length_le (by rw [List.length_drop]; omega)] at hcut
    refine load64 I'.a (ha.drop k) (by omega) fun g1 o1 => ?_
    refine load64 (by simpa using hcut.ext o1.ext) (hb.drop k) (by simp; omega) fun g2 o2 => ?_
    have hO := (I'.old.trans o1).trans o2
    have l1 : leN ((la.drop k).take 8) < 2 ^ 64 := by have := leN_lt ((la.drop k).take 8) ((ha.drop k).take 8).mem; rw [show ((la.drop k).take 8).length = 8 by simp; omega] at this; omega
    have l2 : leN ((lb.drop k).take 8) < 2 ^ 64 := by have := leN_lt ((lb.drop k).take 8) ((hb.drop k).take 8).mem; rw [show ((lb.drop k).take 8).length = 8 by simp; omega] at this; omega
    rw [xor_nat rfl l1 l2]
    have hx : leN ((la.drop k).take 8) ^^^ leN ((lb.drop k).take 8) < 2 ^ 64 := Nat.xor_lt_two_pow l1 l2
    have eq := I'.eq
    simp only [st_reg, st_ret, st_exit, st_skip, st_test, st_block, st_cond, sq_reg, sq_ret, sq_exit, sq_skip, sq_test, sq_cond, sq_block, sq_seq, sq_loop, SK_norm, SK_exit, SK_ret, BK_norm, BK_ret, BK_same, BK_exit, LK_norm, LK_exit, LK_ret, endK_norm, endK_ret, M_matchLen.r0, M_matchLen.r1, M_matchLen.r2, M_matchLen.r3, M_matchLen.r4, M_matchLen.r5, M_matchLen.r6, M_matchLen.r7, M_matchLen.r8, M_matchLen.r9, M_matchLen.r10, M_matchLen.r11, M_matchLen.r12, M_matchLen.r13, M_matchLen.r14, M_matchLen.r15, M_matchLen.r16, M_matchLen.r17, M_matchLen.r18, M_matchLen.r19, M_matchLen.r20, M_matchLen.r21, M_matchLen.r22, M_matchLen.r23, M_matchLen.r24, M_matchLen.r25, M_matchLen.init, M_matchLen.res]
    by_cases hz : leN ((la.drop k).take 8) ^^^ leN ((lb.drop k).take 8) = 0
    case neg =>
      rw [if_pos (by simp; omega)]
      refine tz64 (ht.t64.ext hO.ext) (by omega) hx ?_
      obtain ⟨m, hm, hk⟩ := ctz_spec (n := 64) (by omega) hx
      have e := xor_tells (n := 8) (by rw [List.length_drop]; omega) (by rw [List.length_drop]; omega) (ha.drop k).mem (hb.drop k).mem (by omega) hm
      have := hK g2 hO
      rw [eq, e] at this
      simp only [st_reg, st_ret, st_exit, st_skip, st_test, st_block, st_cond, sq_reg, sq_ret, sq_exit, sq_skip, sq_test, sq_cond, sq_block, sq_seq, sq_loop, SK_norm, SK_exit, SK_ret, BK_norm, BK_ret, BK_same, BK_exit, LK_norm, LK_exit, LK_ret, endK_norm, endK_ret, M_matchLen.res, fdiv_pow]
      rw [hck, w_i64 (by omega) (by omega)]
      exact_mod_cast this
    rw [if_neg (by simp; omega)]
    have e8 := xor_none (n := 8) (by rw [List.length_drop]; omega) (by rw [List.length_drop]; omega) (ha.drop k).mem (hb.drop k).mem hz
    refine ⟨by omega, by omega, by omega, by simp; omega, ?_⟩
    rw [List.drop_drop, List.drop_drop] at e8
    have O2 := (o1.trans o2).ext
    refine ⟨⟨k + 8, by omega, ?_⟩, by simp; omega⟩
    refine { ck := ?_, le := by omega, a := ?_, b := ?_, eq := by omega, old := hO }
    · simp only [hck]; rw [w_i64 (by omega) (by omega)]; omega
    · have := (I'.a.ext O2).from (i := 8) (by omega)
      rwa [List.drop_drop] at this
    · have := (hcut.ext O2).from (i := 8) (by simp; omega)
      rw [List.drop_drop] at this
      simpa using this
end

theorem matchLen {A B : Sl} {h : Heap} {la lb : List Int} (hA : SlI h .u8 A la) (hB : SlI h .u8 B lb) (ha : Byt la) (hb : Byt lb) (hl : la.length ≤ lb.length) (hn : la.length < 2 ^ 62) (ht : Tabs h)
    {K : Int → Heap → Prop} (hK : ∀ h', Old h h' → K (pre la lb : Int) h') : c_matchLen A B h K := by
  -- the second text is cut to the first one's length
  have hcut : pre la (lb.take la.length) = pre la lb := by
    have := pre_take la.length la lb
    rw [List.take_length] at this
    rw [this]
    have := (pre_le la lb).1
    omega
  have hB' := hB.cut (n := la.length) (by rw [← hB.1]; exact hl)
  have h2 := hB.2.1
  have h3 := hB.len
  have h4 := hA.len
  apply M_matchLen.calls
  simp only [M_matchLen.stm, sq_reg, M_matchLen.r0, M_matchLen.r1, M_matchLen.r2, M_matchLen.init]
  refine ⟨by omega, by omega, ?_⟩
  refine ml_all (h0 := h) (la := la) (lb := lb.take la.length) ha (hb.take _) (by simp; omega) hn (by rw [hcut]; exact hK) ht ?_
  refine { ck := rfl, le := by omega, a := by simpa using hA, b := ?_, eq := by simp, old := Old.refl _ }
  rw [h4]
  simpa using hB'

theorem impl_S2MatchLen {A B : Sl} {h : Heap} {la lb : List Int} (hA : SlI h .u8 A la) (hB : SlI h .u8 B lb) (ha : Byt la) (hb : Byt lb) (hl : la.length ≤ lb.length) (hn : la.length < 2 ^ 62) (ht : Tabs h)
    {K : Int → Heap → Prop} (hK : ∀ h', Old h h' → K (pre la lb : Int) h') : c_impl_S2MatchLen A B h K := by
  apply M_impl_S2MatchLen.calls
  simp only [st_reg, st_ret, st_exit, st_skip, st_test, st_block, st_cond, sq_reg, sq_ret, sq_exit, sq_skip, sq_test, sq_cond, sq_block, sq_seq, sq_loop, SK_norm, SK_exit, SK_ret, BK_norm, BK_ret, BK_same, BK_exit, LK_norm, LK_exit, LK_ret, endK_norm, endK_ret, M_impl_S2MatchLen.stm, M_impl_S2MatchLen.r0, M_impl_S2MatchLen.r1, M_impl_S2MatchLen.init, M_impl_S2MatchLen.res]
  apply M_ZzMatchLen.calls
  simp only [st_reg, st_ret, st_exit, st_skip, st_test, st_block, st_cond, sq_reg, sq_ret, sq_exit, sq_skip, sq_test, sq_cond, sq_block, sq_seq, sq_loop, SK_norm, SK_exit, SK_ret, BK_norm, BK_ret, BK_same, BK_exit, LK_norm, LK_exit, LK_ret, endK_norm, endK_ret, M_ZzMatchLen.stm, M_ZzMatchLen.r0, M_ZzMatchLen.r1, M_ZzMatchLen.init, M_ZzMatchLen.res]
  exact matchLen hA hB ha hb hl hn ht hK

/-- ████ THE LAW, WHEREVER THE TABLES LIE AS THEY ARE LAID: it answers 'true', and all memory is as it was. ████ -/
theorem law {A B : Sl} {h : Heap} {la lb : List Int} (hA : SlI h .u8 A la) (hB : SlI h .u8 B lb) (ha : Byt la) (hb : Byt lb) (ht : Tabs h) : c_laws_FnMatchLen A B h fun b h' => b = true ∧ Old h h' := by
  have h3 := hB.len
  have h4 := hA.len
  apply M_laws_FnMatchLen.calls
  simp only [st_reg, st_ret, st_exit, st_skip, st_test, st_block, st_cond, sq_reg, sq_ret, sq_exit, sq_skip, sq_test, sq_cond, sq_block, sq_seq, sq_loop, SK_norm, SK_exit, SK_ret, BK_norm, BK_ret, BK_same, BK_exit, LK_norm, LK_exit, LK_ret, endK_norm, endK_ret, M_laws_FnMatchLen.stm, M_laws_FnMatchLen.r0, M_laws_FnMatchLen.r1, M_laws_FnMatchLen.r2, M_laws_FnMatchLen.r3, M_laws_FnMatchLen.r4, M_laws_FnMatchLen.r5, M_laws_FnMatchLen.r6, M_laws_FnMatchLen.r7, M_laws_FnMatchLen.r8, M_laws_FnMatchLen.init, M_laws_FnMatchLen.res]
  have hz : ∀ (x : Int) (p q : Prop) [Decidable p] [Decidable q], True := fun _ _ _ _ _ => trivial
  by_cases h1 : (A.n : Int) > 2147483647
  · simp [h1, Old.refl]
  by_cases h2 : (B.n : Int) > 2147483647
  · simp [h1, h2, Old.refl]
  by_cases h5 : (A.n : Int) > B.n
  · have : A.n > B.n := by omega
    simp [h1, h2, this, Old.refl]
  by_cases h6 : (B.n : Int) > 1048576
  · have : ¬ A.n > B.n := by omega
    simp [h1, h2, this, h6, Old.refl]
  have h5' : ¬ A.n > B.n := by omega
  simp only [h1, h2, h5, h6, decide_false, if_true, Bool.false_eq_true, if_false]
  refine loop_rule (I := fun s' h' => s'.x_a = A ∧ s'.x_b = B ∧ h' = h ∧ ∃ n : Nat, s'.x_n = n ∧ n ≤ la.length ∧ ∀ i, i < n → la.getD i 0 = lb.getD i 0) (μ := fun s' _ => (la.length - s'.x_n).toNat) ?_ ?_
  · exact ⟨rfl, rfl, rfl, 0, rfl, by omega, by omega⟩
  · rintro s' h' ⟨rfl, rfl, rfl, n, e1, e2, e3⟩
    simp only [sq_test, M_laws_FnMatchLen.r0, M_laws_FnMatchLen.r1, M_laws_FnMatchLen.r2, M_laws_FnMatchLen.r3, M_laws_FnMatchLen.r4, M_laws_FnMatchLen.r5, M_laws_FnMatchLen.r6, M_laws_FnMatchLen.r7, M_laws_FnMatchLen.r8, M_laws_FnMatchLen.init, M_laws_FnMatchLen.res, e1]
    by_cases hc : (n : Int) < (s'.x_a.n : Int)
    · rw [if_pos (by simpa using hc)]
      refine hA.ld (by omega) (by omega) ?_
      refine hB.ld (by omega) (by omega) ?_
      rw [Int.toNat_natCast]
      by_cases he : la.getD n 0 = lb.getD n 0
      · rw [if_pos (by simp at he ⊢; exact he)]
        simp only [st_reg, st_ret, st_exit, st_skip, st_test, st_block, st_cond, sq_reg, sq_ret, sq_exit, sq_skip, sq_test, sq_cond, sq_block, sq_seq, sq_loop, SK_norm, SK_exit, SK_ret, BK_norm, BK_ret, BK_same, BK_exit, LK_norm, LK_exit, LK_ret, endK_norm, endK_ret]
        refine ⟨⟨rfl, rfl, rfl, n + 1, ?_, by omega, ?_⟩, ?_⟩
        · simp only [e1]; rw [w_i64 (by omega) (by omega)]; omega
        · intro i hi
          by_cases hij : i = n
          · subst hij; exact he
          · exact e3 i (by omega)
        · simp only [e1]; rw [w_i64 (by omega) (by omega)]; omega
      · rw [if_neg (by simp at he ⊢; exact he)]
        simp only [st_reg, st_ret, st_exit, st_skip, st_test, st_block, st_cond, sq_reg, sq_ret, sq_exit, sq_skip, sq_test, sq_cond, sq_block, sq_seq, sq_loop, SK_norm, SK_exit, SK_ret, BK_norm, BK_ret, BK_same, BK_exit, LK_norm, LK_exit, LK_ret, endK_norm, endK_ret]
        refine impl_S2MatchLen hA hB ha hb (by omega) (by omega) ht fun h' ho => ?_
        have := pre_eq la lb n (by omega) (by omega) e3 he
        simp [this, e1, ho, M_laws_FnMatchLen.res]
    · rw [if_neg (by simpa using hc)]
      simp only [Bool.false_eq_true, if_false]
      simp only [st_reg, st_ret, st_exit, st_skip, st_test, st_block, st_cond, sq_reg, sq_ret, sq_exit, sq_skip, sq_test, sq_cond, sq_block, sq_seq, sq_loop, SK_norm, SK_exit, SK_ret, BK_norm, BK_ret, BK_same, BK_exit, LK_norm, LK_exit, LK_ret, endK_norm, endK_ret]
      refine impl_S2MatchLen hA hB ha hb (by omega) (by omega) ht fun h' ho => ?_
      have e : n = la.length := by omega
      subst e
      have := pre_drop la lb la.length (by omega) (by omega) e3
      rw [List.drop_length] at this
      have e4 : pre [] (lb.drop la.length) = 0 := by cases lb.drop la.length <;> rfl
      simp [this, e4, e1, ho, M_laws_FnMatchLen.res]
end Go.Proofs.YtgcmdkiahjjpeaaDoor
