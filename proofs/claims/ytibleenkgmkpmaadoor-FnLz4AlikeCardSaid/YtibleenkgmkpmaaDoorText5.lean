/- A part of the calculus over heaps, or of the proof over it: what functions of the program compute, and the plain law. -/
import Derived.Test.YtibleenkgmkpmaaDoorText4
import Derived.Test.YtibleenkgmkpmaaDoorText3
import Derived.Test.YtibleenkgmkpmaaDoorModels1
import Derived.Test.YtibleenkgmkpmaaDoorModels2

set_option linter.unusedSimpArgs false
set_option linter.unusedVariables false
set_option linter.unusedSectionVars false
namespace Go.Vc
theorem len10 {L : List Int} (h : L.length = 10) : ∃ a b c d e f g i j k, L = [a, b, c, d, e, f, g, i, j, k] := by
  match L, h with
  | [a, b, c, d, e, f, g, i, j, k], _ => exact ⟨a, b, c, d, e, f, g, i, j, k, rfl⟩
end Go.Vc
namespace Go.Proofs.YtibleenkgmkpmaaDoor
open Go Go.Vc Go.Ml Go.S2

theorem tag2 {n : Nat} (h1 : 1 ≤ n) (h : n ≤ 64) : bOr .u8 (IntKind.wrap .u8 (IntKind.wrap .u8 (IntKind.wrap .i64 ((n : Int) - 1)) * 2 ^ 2)) 2 = (((n - 1) * 4 + 2 : Nat) : Int) ∧
    bOr .u8 (IntKind.wrap .u8 (IntKind.wrap .u8 (IntKind.wrap .i64 ((n : Int) - 1)) * 2 ^ 2)) 3 = (((n - 1) * 4 + 3 : Nat) : Int) := by
  rw [w_i64 (by omega) (by omega), w_u8 (x := (n : Int) - 1) (by omega) (by omega), w_u8 (by omega) (by omega)]
  have e2 : ((n : Int) - 1) * 2 ^ 2 = (((n - 1) * 4 : Nat) : Int) := by omega
  have := lor_tag2 (n - 1) (by omega)
  have e3 : bOr .u8 (((n - 1) * 4 : Nat) : Int) 2 = (((n - 1) * 4 ||| 2 : Nat) : Int) := or_u8 (by omega) (by decide)
  have e4 : bOr .u8 (((n - 1) * 4 : Nat) : Int) 3 = (((n - 1) * 4 ||| 3 : Nat) : Int) := or_u8 (by omega) (by decide)
  rw [e2, e3, e4, this.1, this.2.1]
  exact ⟨rfl, rfl⟩

/-- As tag1, the length's part being a difference of words. -/
theorem tag1' {o n : Nat} (ho : o < 2048) (h4 : 4 ≤ n) (hl : n < 12) : bOr .u8 (bOr .u8 (IntKind.wrap .u8 (IntKind.wrap .u8 (Int.fdiv (o : Int) (2 ^ 8)) * 2 ^ 5)) (IntKind.wrap .u8 (IntKind.wrap .u8 (IntKind.wrap .i64 ((n : Int) - 4)) * 2 ^ 2))) 1 = ((o / 256 * 32 + (n - 4) * 4 + 1 : Nat) : Int) := by
  rw [w_i64 (by omega) (by omega)]
  have e : (n : Int) - 4 = ((n - 4 : Nat) : Int) := by omega
  rw [e]
  exact tag1 ho (by omega)
theorem tag8 {o : Nat} (ho : o < 2048) : bOr .u8 (bOr .u8 (IntKind.wrap .u8 (IntKind.wrap .u8 (Int.fdiv (o : Int) (2 ^ 8)) * 2 ^ 5)) 16) 1 = ((o / 256 * 32 + (8 - 4) * 4 + 1 : Nat) : Int) := by
  have := tag1 (l := 4) ho (by omega)
  have e : IntKind.wrap .u8 (IntKind.wrap .u8 ((4 : Nat) : Int) * 2 ^ 2) = 16 := by decide
  rw [e] at this
  exact this
theorem leB4 (o : Nat) : leB 4 o = [((o % 256 : Nat) : Int), ((o / 2 ^ 8 % 256 : Nat) : Int), ((o / 2 ^ 16 % 256 : Nat) : Int), ((o / 2 ^ 24 % 256 : Nat) : Int)] := by simp [leB, Nat.div_div_eq_div_mul]
theorem leB2 (o : Nat) : leB 2 o = [((o % 256 : Nat) : Int), ((o / 2 ^ 8 % 256 : Nat) : Int)] := by simp [leB]
theorem copk4 {s2 : Bool} {o n : Nat} (h2 : o < 2 ^ 32) (hn : 1 ≤ n) (hn2 : n ≤ 64) : CopS s2 [(((n - 1) * 4 + 3 : Nat) : Int), ((o % 256 : Nat) : Int), ((o / 2 ^ 8 % 256 : Nat) : Int), ((o / 2 ^ 16 % 256 : Nat) : Int), ((o / 2 ^ 24 % 256 : Nat) : Int)] o n := by
  have := copk (s2 := s2) (k := 4) (o := o) (Or.inr rfl) h2 hn hn2
  rw [leB4] at this
  exact this
theorem copk2 {s2 : Bool} {o n : Nat} (h2 : o < 65536) (hn : 1 ≤ n) (hn2 : n ≤ 64) : CopS s2 [(((n - 1) * 4 + 2 : Nat) : Int), ((o % 256 : Nat) : Int), ((o / 2 ^ 8 % 256 : Nat) : Int)] o n := by
  have := copk (s2 := s2) (k := 2) (o := o) (Or.inl rfl) h2 hn hn2
  rw [leB2] at this
  exact this

section
variable {h : Heap} {db o n c off len : Nat} {M : List Int} {K : Int → Heap → Prop}

set_option maxRecDepth 1000000 in
set_option maxHeartbeats 1000000 in
theorem emitCopy (HB : Blk h db (M.map (Value.int .u8)) 5) (hon : o + n ≤ M.length) (hc : n ≤ c) (hn : 16 ≤ n) (hlen : 4 ≤ len) (hlen2 : len < 2 ^ 24) (hoff : off < 2 ^ 31)
    (hK : ∀ enc h', enc.length ≤ 16 → (CopS true enc off len) → Blk h' db ((putL M o enc).map (Value.int .u8)) 5 → Fr (· = db) h h' → K enc.length h') : c_emitCopy ⟨some ⟨db, o, none⟩, n, c⟩ off len h K := by
  apply M_emitCopy.calls
  simp only [SS, M_emitCopy.stm, M_emitCopy.k0, M_emitCopy.k1, M_emitCopy.k2, M_emitCopy.init, M_emitCopy.res, M_emitCopy.r0, M_emitCopy.r1, M_emitCopy.r2, M_emitCopy.r3]
  by_cases g0 : (off : Int) ≥ 65536
  · rw [if_pos (by simpa using g0)]
    by_cases g1 : (len : Int) > 64
    · rw [if_pos (by simpa using g1)]
      simp only [SS, M_emitCopy.k3, M_emitCopy.k4, M_emitCopy.k5, M_emitCopy.k6, M_emitCopy.k7, M_emitCopy.k8, M_emitCopy.k9, M_emitCopy.k10, M_emitCopy.k11, M_emitCopy.k12, M_emitCopy.k13, M_emitCopy.k14, M_emitCopy.k15, M_emitCopy.res, M_emitCopy.r4, M_emitCopy.r5, M_emitCopy.r6, M_emitCopy.r7, M_emitCopy.r8, M_emitCopy.r9, M_emitCopy.r10, M_emitCopy.r11, M_emitCopy.r12, M_emitCopy.r13, M_emitCopy.r14, M_emitCopy.r15, M_emitCopy.r16, M_emitCopy.r17, M_emitCopy.r18, M_emitCopy.r19, M_emitCopy.r20]
      have ew : IntKind.wrap .i64 ((len : Int) - 64) = ((len - 64 : Nat) : Int) := by rw [w_i64 (by omega) (by omega)]; omega
      simp only [ew]
      by_cases g2 : 4 ≤ len - 64
      · obtain ⟨x0, x1, x2, x3, x4, hx⟩ := len5 (cut_len (M := M) (o := o) (k := 5) (by omega))
        rw [← putL_self (M := M) (o := o) (k := 5) (by omega), hx] at HB
        simp only [w_u8_div, w_u8_nat]
        refine putS (j := 4) (i := 4) HB (by simp; omega) (by simp) rfl (by omega) fun h1 H1 F1 => ?_
        refine putS (j := 3) (i := 3) H1 (by simp; omega) (by simp) rfl (by omega) fun h2 H2 F2 => ?_
        refine putS (j := 2) (i := 2) H2 (by simp; omega) (by simp) rfl (by omega) fun h3 H3 F3 => ?_
        refine putS (j := 1) (i := 1) H3 (by simp; omega) (by simp) rfl (by omega) fun h4 H4 F4 => ?_
        refine putS (j := 0) (i := 0) H4 (by simp; omega) (by simp) rfl (by omega) fun h5 H5 F5 => ?_
        simp only [List.set_cons_zero, List.set_cons_succ] at H5
        have hF := (((F1.trans F2).trans F3).trans F4).trans F5
        rw [if_pos (by simp; omega)]
        refine ⟨by omega, by omega, ?_⟩
        rw [show Int.toNat (5 : Int) = 5 from rfl, subP_at (by omega)]
        refine emitRepeat H5 (by rw [putL_len (by simp; omega)]; omega) (by omega) (by omega) (by omega) (by omega) fun enc h6 q1 q2 q3 q4 => ?_
        have ep := putL_putL (M := M) (o := o) (L1 := [255, ((off % 256 : Nat) : Int), ((off / 2 ^ 8 % 256 : Nat) : Int), ((off / 2 ^ 16 % 256 : Nat) : Int), ((off / 2 ^ 24 % 256 : Nat) : Int)]) (L2 := enc) (by simp; omega)
        have ec : IntKind.wrap .i64 (5 + (enc.length : Int)) = (([255, ((off % 256 : Nat) : Int), ((off / 2 ^ 8 % 256 : Nat) : Int), ((off / 2 ^ 16 % 256 : Nat) : Int), ((off / 2 ^ 24 % 256 : Nat) : Int)] ++ enc).length : Nat) := by
          rw [w_i64 (by omega) (by omega)]; simp; omega
        rw [ec]
        refine hK _ h6 (by simp; omega) ?_ (by rw [← ep]; exact q3) (hF.trans q4)
        show CopS true _ off len
        have := (copk4 (s2 := true) (o := off) (n := 64) (by omega) (by omega) (by omega)).app q2
        rwa [show 64 + (len - 64) = len by omega] at this
      · obtain ⟨x0, x1, x2, x3, x4, x5, x6, x7, x8, x9, hx⟩ := len10 (cut_len (M := M) (o := o) (k := 10) (by omega))
        rw [← putL_self (M := M) (o := o) (k := 10) (by omega), hx] at HB
        have et : bOr .u8 (IntKind.wrap .u8 (IntKind.wrap .u8 (IntKind.wrap .i64 (((len - 64 : Nat) : Int) - 1)) * 2 ^ 2)) 3 = ((((len - 64) - 1) * 4 + 3 : Nat) : Int) := (tag2 (n := len - 64) (by omega) (by omega)).2
        simp only [w_u8_div, w_u8_nat, et, show IntKind.wrap .i64 ((5 : Int) + 0) = 5 from by decide, show IntKind.wrap .i64 ((5 : Int) + 1) = 6 from by decide, show IntKind.wrap .i64 ((5 : Int) + 2) = 7 from by decide, show IntKind.wrap .i64 ((5 : Int) + 3) = 8 from by decide, show IntKind.wrap .i64 ((5 : Int) + 4) = 9 from by decide, show IntKind.wrap .i64 ((5 : Int) + 5) = 10 from by decide]
        refine putS (j := 4) (i := 4) HB (by simp; omega) (by simp) rfl (by omega) fun h1 H1 F1 => ?_
        refine putS (j := 3) (i := 3) H1 (by simp; omega) (by simp) rfl (by omega) fun h2 H2 F2 => ?_
        refine putS (j := 2) (i := 2) H2 (by simp; omega) (by simp) rfl (by omega) fun h3 H3 F3 => ?_
        refine putS (j := 1) (i := 1) H3 (by simp; omega) (by simp) rfl (by omega) fun h4 H4 F4 => ?_
        refine putS (j := 0) (i := 0) H4 (by simp; omega) (by simp) rfl (by omega) fun h5 H5 F5 => ?_
        rw [if_neg (by simp; omega), if_neg (by simp; omega)]
        refine putS (j := 5) (i := 5) H5 (by simp; omega) (by simp) rfl (by omega) fun h6 H6 F6 => ?_
        refine putS (j := 6) (i := 6) H6 (by simp; omega) (by simp) rfl (by omega) fun h7 H7 F7 => ?_
        refine putS (j := 7) (i := 7) H7 (by simp; omega) (by simp) rfl (by omega) fun h8 H8 F8 => ?_
        refine putS (j := 8) (i := 8) H8 (by simp; omega) (by simp) rfl (by omega) fun h9 H9 F9 => ?_
        refine putS (j := 9) (i := 9) H9 (by simp; omega) (by simp) rfl (by omega) fun h10 H10 F10 => ?_
        simp only [List.set_cons_zero, List.set_cons_succ] at H10
        have hF := ((((((((F1.trans F2).trans F3).trans F4).trans F5).trans F6).trans F7).trans F8).trans F9).trans F10
        refine hK _ h10 (by simp) ?_ H10 hF
        show CopS true _ off len
        have := (copk4 (s2 := true) (o := off) (n := 64) (by omega) (by omega) (by omega)).app (copk4 (s2 := true) (o := off) (n := len - 64) (by omega) (by omega) (by omega)).rep
        rw [show 64 + (len - 64) = len by omega] at this
        exact this
    · rw [if_neg (by simpa using g1)]
      simp only [SS, M_emitCopy.k10, M_emitCopy.k11, M_emitCopy.k12, M_emitCopy.k13, M_emitCopy.k14, M_emitCopy.k15, M_emitCopy.res, M_emitCopy.r13, M_emitCopy.r14, M_emitCopy.r15, M_emitCopy.r16, M_emitCopy.r17, M_emitCopy.r18, M_emitCopy.r19, M_emitCopy.r20]
      rw [if_neg (by simp; omega)]
      obtain ⟨x0, x1, x2, x3, x4, hx⟩ := len5 (cut_len (M := M) (o := o) (k := 5) (by omega))
      rw [← putL_self (M := M) (o := o) (k := 5) (by omega), hx] at HB
      simp only [w_u8_div, w_u8_nat, (tag2 (n := len) (by omega) (by omega)).2, show IntKind.wrap .i64 ((0 : Int) + 0) = 0 from by decide, show IntKind.wrap .i64 ((0 : Int) + 1) = 1 from by decide, show IntKind.wrap .i64 ((0 : Int) + 2) = 2 from by decide, show IntKind.wrap .i64 ((0 : Int) + 3) = 3 from by decide, show IntKind.wrap .i64 ((0 : Int) + 4) = 4 from by decide, show IntKind.wrap .i64 ((0 : Int) + 5) = 5 from by decide]
      refine putS (j := 0) (i := 0) HB (by simp; omega) (by simp) rfl (by omega) fun h1 H1 F1 => ?_
      refine putS (j := 1) (i := 1) H1 (by simp; omega) (by simp) rfl (by omega) fun h2 H2 F2 => ?_
      refine putS (j := 2) (i := 2) H2 (by simp; omega) (by simp) rfl (by omega) fun h3 H3 F3 => ?_
      refine putS (j := 3) (i := 3) H3 (by simp; omega) (by simp) rfl (by omega) fun h4 H4 F4 => ?_
      refine putS (j := 4) (i := 4) H4 (by simp; omega) (by simp) rfl (by omega) fun h5 H5 F5 => ?_
      simp only [List.set_cons_zero, List.set_cons_succ] at H5
      exact hK _ h5 (by simp) (copk4 (by omega) (by omega) (by omega)) H5 ((((F1.trans F2).trans F3).trans F4).trans F5)
  · rw [if_neg (by simpa using g0)]
    have ho : off < 65536 := by omega
    by_cases g1 : (len : Int) > 64
    · simp only [SS, M_emitCopy.k16, M_emitCopy.k17, M_emitCopy.k18, M_emitCopy.k19, M_emitCopy.k20, M_emitCopy.k21, M_emitCopy.k22, M_emitCopy.res, M_emitCopy.r21, M_emitCopy.r22, M_emitCopy.r23, M_emitCopy.r32, M_emitCopy.r24, M_emitCopy.r25, M_emitCopy.r26, M_emitCopy.r27, M_emitCopy.r28, M_emitCopy.r29, M_emitCopy.r30, M_emitCopy.r31]
      rw [if_pos (by simpa using g1)]
      by_cases g2 : (off : Int) < 2048
      · rw [if_pos (by simpa using g2)]
        have ew : IntKind.wrap .i64 ((len : Int) - 8) = ((len - 8 : Nat) : Int) := by rw [w_i64 (by omega) (by omega)]; omega
        simp only [ew]
        obtain ⟨x0, x1, hx⟩ := len2 (cut_len (M := M) (o := o) (k := 2) (by omega))
        rw [← putL_self (M := M) (o := o) (k := 2) (by omega), hx] at HB
        rw [tag8 (o := off) (by omega), w_u8_nat]
        refine putS (j := 1) (i := 1) HB (by simp; omega) (by simp) rfl (by omega) fun h1 H1 F1 => ?_
        refine putS (j := 0) (i := 0) H1 (by simp; omega) (by simp) rfl (by omega) fun h2 H2 F2 => ?_
        simp only [List.set_cons_zero, List.set_cons_succ] at H2
        refine ⟨by omega, by omega, ?_⟩
        rw [show Int.toNat (2 : Int) = 2 from rfl, subP_at (by omega)]
        refine emitRepeat H2 (by rw [putL_len (by simp; omega)]; omega) (by omega) (by omega) (by omega) (by omega) fun enc h6 q1 q2 q3 q4 => ?_
        have ep := putL_putL (M := M) (o := o) (L1 := [((off / 256 * 32 + (8 - 4) * 4 + 1 : Nat) : Int), ((off % 256 : Nat) : Int)]) (L2 := enc) (by simp; omega)
        have ec : IntKind.wrap .i64 (2 + (enc.length : Int)) = (([((off / 256 * 32 + (8 - 4) * 4 + 1 : Nat) : Int), ((off % 256 : Nat) : Int)] ++ enc).length : Nat) := by
          rw [w_i64 (by omega) (by omega)]; simp; omega
        rw [ec]
        refine hK _ h6 (by simp; omega) ?_ (by rw [← ep]; exact q3) ((F1.trans F2).trans q4)
        have := (cop1 (s2 := true) (o := off) (n := 8) (by omega) (by omega) (by omega)).app q2
        rwa [show 8 + (len - 8) = len by omega] at this
      · rw [if_neg (by simpa using g2)]
        have ew : IntKind.wrap .i64 ((len : Int) - 60) = ((len - 60 : Nat) : Int) := by rw [w_i64 (by omega) (by omega)]; omega
        simp only [ew]
        obtain ⟨x0, x1, x2, hx⟩ := len3 (cut_len (M := M) (o := o) (k := 3) (by omega))
        rw [← putL_self (M := M) (o := o) (k := 3) (by omega), hx] at HB
        simp only [w_u8_div, w_u8_nat]
        refine putS (j := 2) (i := 2) HB (by simp; omega) (by simp) rfl (by omega) fun h1 H1 F1 => ?_
        refine putS (j := 1) (i := 1) H1 (by simp; omega) (by simp) rfl (by omega) fun h2 H2 F2 => ?_
        refine putS (j := 0) (i := 0) H2 (by simp; omega) (by simp) rfl (by omega) fun h3 H3 F3 => ?_
        simp only [List.set_cons_zero, List.set_cons_succ] at H3
        refine ⟨by omega, by omega, ?_⟩
        rw [show Int.toNat (3 : Int) = 3 from rfl, subP_at (by omega)]
        refine emitRepeat H3 (by rw [putL_len (by simp; omega)]; omega) (by omega) (by omega) (by omega) (by omega) fun enc h6 q1 q2 q3 q4 => ?_
        have ep := putL_putL (M := M) (o := o) (L1 := [238, ((off % 256 : Nat) : Int), ((off / 2 ^ 8 % 256 : Nat) : Int)]) (L2 := enc) (by simp; omega)
        have ec : IntKind.wrap .i64 (3 + (enc.length : Int)) = (([238, ((off % 256 : Nat) : Int), ((off / 2 ^ 8 % 256 : Nat) : Int)] ++ enc).length : Nat) := by
          rw [w_i64 (by omega) (by omega)]; simp; omega
        rw [ec]
        refine hK _ h6 (by simp; omega) ?_ (by rw [← ep]; exact q3) (((F1.trans F2).trans F3).trans q4)
        show CopS true _ off len
        have := (copk2 (s2 := true) (o := off) (n := 60) ho (by omega) (by omega)).app q2
        rwa [show 60 + (len - 60) = len by omega] at this
    · simp only [SS, M_emitCopy.k16, M_emitCopy.k23, M_emitCopy.k24, M_emitCopy.k25, M_emitCopy.k26, M_emitCopy.k27, M_emitCopy.k28, M_emitCopy.res, M_emitCopy.r21, M_emitCopy.r33, M_emitCopy.r34, M_emitCopy.r35, M_emitCopy.r36, M_emitCopy.r37, M_emitCopy.r38, M_emitCopy.r39, M_emitCopy.r40]
      rw [if_neg (by simpa using g1)]
      have fin2 : ∀ h3 enc, enc.length ≤ 5 → (∀ s2, CopS s2 enc off len) → Blk h3 db ((putL M o enc).map (Value.int .u8)) 5 → Fr (· = db) h h3 → K enc.length h3 := fun h3 enc q1 q2 q3 q4 => hK enc h3 (by omega) (q2 _) q3 q4
      by_cases g : len ≥ 12 ∨ off ≥ 2048
      · have p : 0 ≤ (2 : Int) ∧ (2 : Int) < ((n : Nat) : Int) ∧ ptrE (some (⟨db, o, none⟩ : Addr)) fun a1 => st1 (Addr.add (Addr.add a1 (Int.toNat (2 : Int) * 1)) 0) (.int .u8 (IntKind.wrap .u8 (Int.fdiv (off : Int) (2 ^ 8)))) h fun h2 =>
            0 ≤ (1 : Int) ∧ (1 : Int) < ((n : Nat) : Int) ∧ ptrE (some (⟨db, o, none⟩ : Addr)) fun a1 => st1 (Addr.add (Addr.add a1 (Int.toNat (1 : Int) * 1)) 0) (.int .u8 (IntKind.wrap .u8 (off : Int))) h2 fun h2 =>
            0 ≤ (0 : Int) ∧ (0 : Int) < ((n : Nat) : Int) ∧ ptrE (some (⟨db, o, none⟩ : Addr)) fun a1 => st1 (Addr.add (Addr.add a1 (Int.toNat (0 : Int) * 1)) 0) (.int .u8 (bOr .u8 (IntKind.wrap .u8 (IntKind.wrap .u8 (IntKind.wrap .i64 ((len : Int) - 1)) * 2 ^ 2)) 2)) h2 fun h2 => K 3 h2 := by
          obtain ⟨x0, x1, x2, hx⟩ := len3 (cut_len (M := M) (o := o) (k := 3) (by omega))
          rw [← putL_self (M := M) (o := o) (k := 3) (by omega), hx] at HB
          rw [(tag2 (by omega) (by omega)).1, w_u8_div, w_u8_nat]
          refine putS (j := 2) (i := 2) HB (by simp; omega) (by simp) rfl (by omega) fun h1 H1 F1 => ?_
          refine putS (j := 1) (i := 1) H1 (by simp; omega) (by simp) rfl (by omega) fun h2 H2 F2 => ?_
          refine putS (j := 0) (i := 0) H2 (by simp; omega) (by simp) rfl (by omega) fun h3 H3 F3 => ?_
          simp only [List.set_cons_zero, List.set_cons_succ] at H3
          exact fin2 h3 _ (by simp) (fun s2 => copk2 ho (by omega) (by omega)) H3 ((F1.trans F2).trans F3)
        by_cases g2 : (len : Int) ≥ 12
        · rw [if_neg (by simpa using g2), if_pos trivial]; exact p
        · rw [if_pos (by simpa using g2), if_pos (by simp; omega)]; exact p
      · rw [if_pos (by simp; omega), if_neg (by simp; omega)]
        obtain ⟨x0, x1, hx⟩ := len2 (cut_len (M := M) (o := o) (k := 2) (by omega))
        rw [← putL_self (M := M) (o := o) (k := 2) (by omega), hx] at HB
        rw [tag1' (by omega) hlen (by omega), w_u8_nat]
        refine putS (j := 1) (i := 1) HB (by simp; omega) (by simp) rfl (by omega) fun h1 H1 F1 => ?_
        refine putS (j := 0) (i := 0) H1 (by simp; omega) (by simp) rfl (by omega) fun h2 H2 F2 => ?_
        simp only [List.set_cons_zero, List.set_cons_succ] at H2
        exact fin2 h2 _ (by simp) (fun s2 => cop1 (by omega) hlen (by omega)) H2 (F1.trans F2)

set_option maxRecDepth 1000000 in
set_option maxHeartbeats 1000000 in
theorem emitCopyNoRepeat : ∀ (len : Nat) {h : Heap} {db o n c off : Nat} {M : List Int} {K : Int → Heap → Prop}, (HB : Blk h db (M.map (Value.int .u8)) 5) → (hon : o + n ≤ M.length) → (hc : n ≤ c) → (hn : len / 12 + 10 ≤ n) → (hlen : 4 ≤ len) → (hlen2 : len < 2 ^ 24) → (hoff : off < 2 ^ 31) →
    (hK : ∀ enc h', enc.length ≤ len / 12 + 10 → (∀ s2, CopS s2 enc off len) → Blk h' db ((putL M o enc).map (Value.int .u8)) 5 → Fr (· = db) h h' → K enc.length h') → c_emitCopyNoRepeat ⟨some ⟨db, o, none⟩, n, c⟩ off len h K := by
  intro len
  induction len using Nat.strongRecOn with | _ len ih =>
  intro h db o n c off M K HB hon hc hn hlen hlen2 hoff hK
  apply M_emitCopyNoRepeat.calls
  simp only [SS, M_emitCopyNoRepeat.stm, M_emitCopyNoRepeat.k0, M_emitCopyNoRepeat.k1, M_emitCopyNoRepeat.k2, M_emitCopyNoRepeat.init, M_emitCopyNoRepeat.res, M_emitCopyNoRepeat.r0, M_emitCopyNoRepeat.r1, M_emitCopyNoRepeat.r2, M_emitCopyNoRepeat.r3]
  by_cases g0 : (off : Int) ≥ 65536
  · rw [if_pos (by simpa using g0)]
    by_cases g1 : (len : Int) > 64
    · rw [if_pos (by simpa using g1)]
      simp only [SS, M_emitCopyNoRepeat.k3, M_emitCopyNoRepeat.k4, M_emitCopyNoRepeat.k5, M_emitCopyNoRepeat.k6, M_emitCopyNoRepeat.k7, M_emitCopyNoRepeat.k8, M_emitCopyNoRepeat.k9, M_emitCopyNoRepeat.k10, M_emitCopyNoRepeat.k11, M_emitCopyNoRepeat.k12, M_emitCopyNoRepeat.k13, M_emitCopyNoRepeat.k14, M_emitCopyNoRepeat.k15, M_emitCopyNoRepeat.res, M_emitCopyNoRepeat.r4, M_emitCopyNoRepeat.r5, M_emitCopyNoRepeat.r6, M_emitCopyNoRepeat.r7, M_emitCopyNoRepeat.r8, M_emitCopyNoRepeat.r9, M_emitCopyNoRepeat.r10, M_emitCopyNoRepeat.r11, M_emitCopyNoRepeat.r12, M_emitCopyNoRepeat.r13, M_emitCopyNoRepeat.r14, M_emitCopyNoRepeat.r15, M_emitCopyNoRepeat.r16, M_emitCopyNoRepeat.r17, M_emitCopyNoRepeat.r18, M_emitCopyNoRepeat.r19, M_emitCopyNoRepeat.r20]
      have ew : IntKind.wrap .i64 ((len : Int) - 64) = ((len - 64 : Nat) : Int) := by rw [w_i64 (by omega) (by omega)]; omega
      simp only [ew]
      by_cases g2 : 4 ≤ len - 64
      · obtain ⟨x0, x1, x2, x3, x4, hx⟩ := len5 (cut_len (M := M) (o := o) (k := 5) (by omega))
        rw [← putL_self (M := M) (o := o) (k := 5) (by omega), hx] at HB
        simp only [w_u8_div, w_u8_nat]
        refine putS (j := 4) (i := 4) HB (by simp; omega) (by simp) rfl (by omega) fun h1 H1 F1 => ?_
        refine putS (j := 3) (i := 3) H1 (by simp; omega) (by simp) rfl (by omega) fun h2 H2 F2 => ?_
        refine putS (j := 2) (i := 2) H2 (by simp; omega) (by simp) rfl (by omega) fun h3 H3 F3 => ?_
        refine putS (j := 1) (i := 1) H3 (by simp; omega) (by simp) rfl (by omega) fun h4 H4 F4 => ?_
        refine putS (j := 0) (i := 0) H4 (by simp; omega) (by simp) rfl (by omega) fun h5 H5 F5 => ?_
        simp only [List.set_cons_zero, List.set_cons_succ] at H5
        have hF := (((F1.trans F2).trans F3).trans F4).trans F5
        rw [if_pos (by simp; omega)]
        refine ⟨by omega, by omega, ?_⟩
        rw [show Int.toNat (5 : Int) = 5 from rfl, subP_at (by omega)]
        refine ih (len - 64) (by omega) H5 (by rw [putL_len (by simp; omega)]; omega) (by omega) (by omega) (by omega) (by omega) (by omega) fun enc h6 q1 q2 q3 q4 => ?_
        have ep := putL_putL (M := M) (o := o) (L1 := [255, ((off % 256 : Nat) : Int), ((off / 2 ^ 8 % 256 : Nat) : Int), ((off / 2 ^ 16 % 256 : Nat) : Int), ((off / 2 ^ 24 % 256 : Nat) : Int)]) (L2 := enc) (by simp; omega)
        have ec : IntKind.wrap .i64 (5 + (enc.length : Int)) = (([255, ((off % 256 : Nat) : Int), ((off / 2 ^ 8 % 256 : Nat) : Int), ((off / 2 ^ 16 % 256 : Nat) : Int), ((off / 2 ^ 24 % 256 : Nat) : Int)] ++ enc).length : Nat) := by
          rw [w_i64 (by omega) (by omega)]; simp; omega
        rw [ec]
        refine hK _ h6 (by simp; omega) ?_ (by rw [← ep]; exact q3) (hF.trans q4)
        intro s2
        have := (copk4 (s2 := s2) (o := off) (n := 64) (by omega) (by omega) (by omega)).app (q2 s2).rep
        rwa [show 64 + (len - 64) = len by omega] at this
      · obtain ⟨x0, x1, x2, x3, x4, x5, x6, x7, x8, x9, hx⟩ := len10 (cut_len (M := M) (o := o) (k := 10) (by omega))
        rw [← putL_self (M := M) (o := o) (k := 10) (by omega), hx] at HB
        have et : bOr .u8 (IntKind.wrap .u8 (IntKind.wrap .u8 (IntKind.wrap .i64 (((len - 64 : Nat) : Int) - 1)) * 2 ^ 2)) 3 = ((((len - 64) - 1) * 4 + 3 : Nat) : Int) := (tag2 (n := len - 64) (by omega) (by omega)).2
        simp only [w_u8_div, w_u8_nat, et, show IntKind.wrap .i64 ((5 : Int) + 0) = 5 from by decide, show IntKind.wrap .i64 ((5 : Int) + 1) = 6 from by decide, show IntKind.wrap .i64 ((5 : Int) + 2) = 7 from by decide, show IntKind.wrap .i64 ((5 : Int) + 3) = 8 from by decide, show IntKind.wrap .i64 ((5 : Int) + 4) = 9 from by decide, show IntKind.wrap .i64 ((5 : Int) + 5) = 10 from by decide]
        refine putS (j := 4) (i := 4) HB (by simp; omega) (by simp) rfl (by omega) fun h1 H1 F1 => ?_
        refine putS (j := 3) (i := 3) H1 (by simp; omega) (by simp) rfl (by omega) fun h2 H2 F2 => ?_
        refine putS (j := 2) (i := 2) H2 (by simp; omega) (by simp) rfl (by omega) fun h3 H3 F3 => ?_
        refine putS (j := 1) (i := 1) H3 (by simp; omega) (by simp) rfl (by omega) fun h4 H4 F4 => ?_
        refine putS (j := 0) (i := 0) H4 (by simp; omega) (by simp) rfl (by omega) fun h5 H5 F5 => ?_
        rw [if_neg (by simp; omega), if_neg (by simp; omega)]
        refine putS (j := 5) (i := 5) H5 (by simp; omega) (by simp) rfl (by omega) fun h6 H6 F6 => ?_
        refine putS (j := 6) (i := 6) H6 (by simp; omega) (by simp) rfl (by omega) fun h7 H7 F7 => ?_
        refine putS (j := 7) (i := 7) H7 (by simp; omega) (by simp) rfl (by omega) fun h8 H8 F8 => ?_
        refine putS (j := 8) (i := 8) H8 (by simp; omega) (by simp) rfl (by omega) fun h9 H9 F9 => ?_
        refine putS (j := 9) (i := 9) H9 (by simp; omega) (by simp) rfl (by omega) fun h10 H10 F10 => ?_
        simp only [List.set_cons_zero, List.set_cons_succ] at H10
        have hF := ((((((((F1.trans F2).trans F3).trans F4).trans F5).trans F6).trans F7).trans F8).trans F9).trans F10
        refine hK _ h10 (by simp) ?_ H10 hF
        intro s2
        have := (copk4 (s2 := s2) (o := off) (n := 64) (by omega) (by omega) (by omega)).app (copk4 (s2 := s2) (o := off) (n := len - 64) (by omega) (by omega) (by omega)).rep
        rw [show 64 + (len - 64) = len by omega] at this
        exact this
    · rw [if_neg (by simpa using g1)]
      simp only [SS, M_emitCopyNoRepeat.k10, M_emitCopyNoRepeat.k11, M_emitCopyNoRepeat.k12, M_emitCopyNoRepeat.k13, M_emitCopyNoRepeat.k14, M_emitCopyNoRepeat.k15, M_emitCopyNoRepeat.res, M_emitCopyNoRepeat.r13, M_emitCopyNoRepeat.r14, M_emitCopyNoRepeat.r15, M_emitCopyNoRepeat.r16, M_emitCopyNoRepeat.r17, M_emitCopyNoRepeat.r18, M_emitCopyNoRepeat.r19, M_emitCopyNoRepeat.r20]
      rw [if_neg (by simp; omega)]
      obtain ⟨x0, x1, x2, x3, x4, hx⟩ := len5 (cut_len (M := M) (o := o) (k := 5) (by omega))
      rw [← putL_self (M := M) (o := o) (k := 5) (by omega), hx] at HB
      simp only [w_u8_div, w_u8_nat, (tag2 (n := len) (by omega) (by omega)).2, show IntKind.wrap .i64 ((0 : Int) + 0) = 0 from by decide, show IntKind.wrap .i64 ((0 : Int) + 1) = 1 from by decide, show IntKind.wrap .i64 ((0 : Int) + 2) = 2 from by decide, show IntKind.wrap .i64 ((0 : Int) + 3) = 3 from by decide, show IntKind.wrap .i64 ((0 : Int) + 4) = 4 from by decide, show IntKind.wrap .i64 ((0 : Int) + 5) = 5 from by decide]
      refine putS (j := 0) (i := 0) HB (by simp; omega) (by simp) rfl (by omega) fun h1 H1 F1 => ?_
      refine putS (j := 1) (i := 1) H1 (by simp; omega) (by simp) rfl (by omega) fun h2 H2 F2 => ?_
      refine putS (j := 2) (i := 2) H2 (by simp; omega) (by simp) rfl (by omega) fun h3 H3 F3 => ?_
      refine putS (j := 3) (i := 3) H3 (by simp; omega) (by simp) rfl (by omega) fun h4 H4 F4 => ?_
      refine putS (j := 4) (i := 4) H4 (by simp; omega) (by simp) rfl (by omega) fun h5 H5 F5 => ?_
      simp only [List.set_cons_zero, List.set_cons_succ] at H5
      exact hK _ h5 (by simp) (fun s2 => copk4 (by omega) (by omega) (by omega)) H5 ((((F1.trans F2).trans F3).trans F4).trans F5)
  · rw [if_neg (by simpa using g0)]
    have ho : off < 65536 := by omega
    by_cases g1 : (len : Int) > 64
    · simp only [SS, M_emitCopyNoRepeat.k16, M_emitCopyNoRepeat.k17, M_emitCopyNoRepeat.k18, M_emitCopyNoRepeat.k19, M_emitCopyNoRepeat.k20, M_emitCopyNoRepeat.res, M_emitCopyNoRepeat.r21, M_emitCopyNoRepeat.r22, M_emitCopyNoRepeat.r23, M_emitCopyNoRepeat.r24, M_emitCopyNoRepeat.r25, M_emitCopyNoRepeat.r26]
      rw [if_pos (by simpa using g1)]
      have ew : IntKind.wrap .i64 ((len : Int) - 60) = ((len - 60 : Nat) : Int) := by rw [w_i64 (by omega) (by omega)]; omega
      simp only [ew]
      obtain ⟨x0, x1, x2, hx⟩ := len3 (cut_len (M := M) (o := o) (k := 3) (by omega))
      rw [← putL_self (M := M) (o := o) (k := 3) (by omega), hx] at HB
      simp only [w_u8_div, w_u8_nat]
      refine putS (j := 2) (i := 2) HB (by simp; omega) (by simp) rfl (by omega) fun h1 H1 F1 => ?_
      refine putS (j := 1) (i := 1) H1 (by simp; omega) (by simp) rfl (by omega) fun h2 H2 F2 => ?_
      refine putS (j := 0) (i := 0) H2 (by simp; omega) (by simp) rfl (by omega) fun h3 H3 F3 => ?_
      simp only [List.set_cons_zero, List.set_cons_succ] at H3
      refine ⟨by omega, by omega, ?_⟩
      rw [show Int.toNat (3 : Int) = 3 from rfl, subP_at (by omega)]
      refine ih (len - 60) (by omega) H3 (by rw [putL_len (by simp; omega)]; omega) (by omega) (by omega) (by omega) (by omega) (by omega) fun enc h6 q1 q2 q3 q4 => ?_
      have ep := putL_putL (M := M) (o := o) (L1 := [238, ((off % 256 : Nat) : Int), ((off / 2 ^ 8 % 256 : Nat) : Int)]) (L2 := enc) (by simp; omega)
      have ec : IntKind.wrap .i64 (3 + (enc.length : Int)) = (([238, ((off % 256 : Nat) : Int), ((off / 2 ^ 8 % 256 : Nat) : Int)] ++ enc).length : Nat) := by
        rw [w_i64 (by omega) (by omega)]; simp; omega
      rw [ec]
      refine hK _ h6 (by simp; omega) ?_ (by rw [← ep]; exact q3) (((F1.trans F2).trans F3).trans q4)
      intro s2
      have := (copk2 (s2 := s2) (o := off) (n := 60) ho (by omega) (by omega)).app (q2 s2).rep
      rwa [show 60 + (len - 60) = len by omega] at this
    · simp only [SS, M_emitCopyNoRepeat.k16, M_emitCopyNoRepeat.k21, M_emitCopyNoRepeat.k22, M_emitCopyNoRepeat.k23, M_emitCopyNoRepeat.k24, M_emitCopyNoRepeat.k25, M_emitCopyNoRepeat.k26, M_emitCopyNoRepeat.res, M_emitCopyNoRepeat.r21, M_emitCopyNoRepeat.r27, M_emitCopyNoRepeat.r28, M_emitCopyNoRepeat.r29, M_emitCopyNoRepeat.r30, M_emitCopyNoRepeat.r31, M_emitCopyNoRepeat.r32, M_emitCopyNoRepeat.r33, M_emitCopyNoRepeat.r34]
      rw [if_neg (by simpa using g1)]
      have fin2 : ∀ h3 enc, enc.length ≤ 5 → (∀ s2, CopS s2 enc off len) → Blk h3 db ((putL M o enc).map (Value.int .u8)) 5 → Fr (· = db) h h3 → K enc.length h3 := fun h3 enc q1 q2 q3 q4 => hK enc h3 (by omega) (fun s2 => q2 _) q3 q4
      by_cases g : len ≥ 12 ∨ off ≥ 2048
      · have p : 0 ≤ (2 : Int) ∧ (2 : Int) < ((n : Nat) : Int) ∧ ptrE (some (⟨db, o, none⟩ : Addr)) fun a1 => st1 (Addr.add (Addr.add a1 (Int.toNat (2 : Int) * 1)) 0) (.int .u8 (IntKind.wrap .u8 (Int.fdiv (off : Int) (2 ^ 8)))) h fun h2 =>
            0 ≤ (1 : Int) ∧ (1 : Int) < ((n : Nat) : Int) ∧ ptrE (some (⟨db, o, none⟩ : Addr)) fun a1 => st1 (Addr.add (Addr.add a1 (Int.toNat (1 : Int) * 1)) 0) (.int .u8 (IntKind.wrap .u8 (off : Int))) h2 fun h2 =>
            0 ≤ (0 : Int) ∧ (0 : Int) < ((n : Nat) : Int) ∧ ptrE (some (⟨db, o, none⟩ : Addr)) fun a1 => st1 (Addr.add (Addr.add a1 (Int.toNat (0 : Int) * 1)) 0) (.int .u8 (bOr .u8 (IntKind.wrap .u8 (IntKind.wrap .u8 (IntKind.wrap .i64 ((len : Int) - 1)) * 2 ^ 2)) 2)) h2 fun h2 => K 3 h2 := by
          obtain ⟨x0, x1, x2, hx⟩ := len3 (cut_len (M := M) (o := o) (k := 3) (by omega))
          rw [← putL_self (M := M) (o := o) (k := 3) (by omega), hx] at HB
          rw [(tag2 (by omega) (by omega)).1, w_u8_div, w_u8_nat]
          refine putS (j := 2) (i := 2) HB (by simp; omega) (by simp) rfl (by omega) fun h1 H1 F1 => ?_
          refine putS (j := 1) (i := 1) H1 (by simp; omega) (by simp) rfl (by omega) fun h2 H2 F2 => ?_
          refine putS (j := 0) (i := 0) H2 (by simp; omega) (by simp) rfl (by omega) fun h3 H3 F3 => ?_
          simp only [List.set_cons_zero, List.set_cons_succ] at H3
          exact fin2 h3 _ (by simp) (fun s2 => copk2 ho (by omega) (by omega)) H3 ((F1.trans F2).trans F3)
        by_cases g2 : (len : Int) ≥ 12
        · rw [if_neg (by simpa using g2), if_pos trivial]; exact p
        · rw [if_pos (by simpa using g2), if_pos (by simp; omega)]; exact p
      · rw [if_pos (by simp; omega), if_neg (by simp; omega)]
        obtain ⟨x0, x1, hx⟩ := len2 (cut_len (M := M) (o := o) (k := 2) (by omega))
        rw [← putL_self (M := M) (o := o) (k := 2) (by omega), hx] at HB
        rw [tag1' (by omega) hlen (by omega), w_u8_nat]
        refine putS (j := 1) (i := 1) HB (by simp; omega) (by simp) rfl (by omega) fun h1 H1 F1 => ?_
        refine putS (j := 0) (i := 0) H1 (by simp; omega) (by simp) rfl (by omega) fun h2 H2 F2 => ?_
        simp only [List.set_cons_zero, List.set_cons_succ] at H2
        exact fin2 h2 _ (by simp) (fun s2 => cop1 (by omega) hlen (by omega)) H2 (F1.trans F2)
end
end Go.Proofs.YtibleenkgmkpmaaDoor

set_option linter.unusedSimpArgs false
set_option linter.unusedVariables false
set_option linter.unusedSectionVars false
namespace Go.Proofs.YtibleenkgmkpmaaDoor
open Go Go.Vc Go.Ml Go.S2

/-- Bytes that are a literal. -/
def LitS (s2 : Bool) (enc dl : List Int) : Prop := ∀ (out : List Int) (last : Nat), SeqG s2 enc out last (out ++ dl) last

theorem copyL {h : Heap} {db o m n' : Nat} {M L dl : List Int} {s : Sl} {K : Int → Heap → Prop} (HB : Blk h db ((putL M o L).map (Value.int .u8)) 5) (hM : o + L.length + dl.length ≤ M.length) (hS : SlI h .u8 s dl) (hm : s.n = m) (hn : m ≤ n')
    (hK : ∀ h', Blk h' db ((putL M o (L ++ dl)).map (Value.int .u8)) 5 → Fr (· = db) h h' → K m h') : copyT Pg 5 (some ⟨db, o + L.length, none⟩) n' (.slice s.p s.n s.c) m h K := by
  have hl := hS.len
  have e3 : min m n' = m := by omega
  refine copy_blk (k := .u8) HB ts5 (news := dl) (by omega) ?_ (by rw [List.length_map, putL_len (by omega)]; omega) fun h' HB' HF' => ?_
  · rw [e3]
    have := src_sl hS (m := m) (by omega) (n := s.n) (c := s.c)
    rwa [List.take_of_length_le (by omega)] at this
  rw [e3]
  refine hK h' ?_ HF'
  rw [e3, ← List.map_take, ← List.map_drop, ← List.map_append, ← List.map_append] at HB'
  rw [← putL_putL (by omega)]
  unfold putL at HB' ⊢
  rwa [show m = dl.length by omega] at HB'

theorem or_u8_0 {x : Nat} (hx : x < 256) : bOr .u8 (x : Int) 0 = (x : Int) := by
  have := or_u8 (x := x) (y := 0) hx (by decide)
  simpa using this

section
variable {h : Heap} {db o n c : Nat} {M dl : List Int} {s : Sl} {K : Int → Heap → Prop}

set_option maxRecDepth 1000000 in
set_option maxHeartbeats 1000000 in
theorem emitLiteral (HB : Blk h db (M.map (Value.int .u8)) 5) (hon : o + n ≤ M.length) (hc : n ≤ c) (hn : dl.length + 6 ≤ n) (hS : SlI h .u8 s dl) (hne : ∀ a, 0 < s.n → s.p = some a → a.block ≠ db) (hb : Bts dl) (hdl : dl.length < 2 ^ 24)
    (hK : ∀ enc h', enc.length ≤ dl.length + 5 → (∀ s2, LitS s2 enc dl) → Bts enc → Blk h' db ((putL M o enc).map (Value.int .u8)) 5 → Fr (· = db) h h' → K enc.length h') : c_emitLiteral ⟨some ⟨db, o, none⟩, n, c⟩ s h K := by
  have hl := hS.len
  apply M_emitLiteral.calls
  simp only [SS, M_emitLiteral.stm, M_emitLiteral.k0, M_emitLiteral.k1, M_emitLiteral.k2, M_emitLiteral.init, M_emitLiteral.res, M_emitLiteral.r0, M_emitLiteral.r1, M_emitLiteral.r2, M_emitLiteral.r3, M_emitLiteral.r10, M_emitLiteral.r11, M_emitLiteral.r12, M_emitLiteral.r28]
  by_cases h0 : dl.length = 0
  · rw [if_pos (by simp; omega)]
    have : dl = [] := List.length_eq_zero_iff.1 h0
    subst this
    refine hK [] h (by simp) (fun s2 out last => by rw [List.append_nil]; exact SeqG.nil) (fun x hx => by cases hx) ?_ (Fr.refl _ _)
    simpa [putL] using HB
  rw [if_neg (by simp; omega)]
  obtain ⟨m, hm⟩ : ∃ m, dl.length = m + 1 := ⟨dl.length - 1, by omega⟩
  have en : IntKind.wrap .u64 (IntKind.wrap .i64 ((s.n : Int) - 1)) = (m : Nat) := by
    rw [w_i64 (x := (s.n : Int) - 1) (by omega) (by omega), w_u64 (by omega) (by omega)]; omega
  simp only [en]
  -- the bytes, behind a head
  have tail : ∀ (L : List Int) (i : Nat) (h1 : Heap), L.length = i → i ≤ 5 → Blk h1 db ((putL M o L).map (Value.int .u8)) 5 → Fr (· = db) h h1 → Bts L → (∀ s2 out last, ElemG s2 (L ++ dl) out last (out ++ dl) last) →
      0 ≤ (i : Int) ∧ (i : Int) ≤ ((n : Nat) : Int) ∧ copyT Pg 5 (subP (some ⟨db, o, none⟩) (Int.toNat (i : Int)) c 1) (n - Int.toNat (i : Int)) (.slice s.p s.n s.c) s.n h1 fun n1 h2 => K (IntKind.wrap .i64 ((i : Int) + n1)) h2 := by
    intro L i h1 hL hi HB1 F1 hbL hel
    subst hL
    refine ⟨by omega, by omega, ?_⟩
    rw [Int.toNat_natCast, subP_at (by omega)]
    refine copyL HB1 (by omega) (SlI.fr hS F1 (fun a h1 h2 => hne a h1 h2)) rfl (by omega) fun h2 HB2 F2 => ?_
    have ec : IntKind.wrap .i64 ((L.length : Int) + (s.n : Nat)) = ((L ++ dl).length : Nat) := by rw [w_i64 (by omega) (by omega)]; simp; omega
    rw [ec]
    exact hK _ h2 (by simp; omega) (fun s2 out last => (hel s2 out last).seq) (hbL.app hb) HB2 (F1.trans F2)
  simp only [SS, M_emitLiteral.k2, M_emitLiteral.k3, M_emitLiteral.k4, M_emitLiteral.k5, M_emitLiteral.k6, M_emitLiteral.k7, M_emitLiteral.k8, M_emitLiteral.k9, M_emitLiteral.k10, M_emitLiteral.k11, M_emitLiteral.k12, M_emitLiteral.k13, M_emitLiteral.k14, M_emitLiteral.k15, M_emitLiteral.res, M_emitLiteral.r10, M_emitLiteral.r11, M_emitLiteral.r12, M_emitLiteral.r28, M_emitLiteral.r13, M_emitLiteral.r14, M_emitLiteral.r15, M_emitLiteral.r16, M_emitLiteral.r17, M_emitLiteral.r18, M_emitLiteral.r19, M_emitLiteral.r20, M_emitLiteral.r21, M_emitLiteral.r22, M_emitLiteral.r23, M_emitLiteral.r24, M_emitLiteral.r25, M_emitLiteral.r26, M_emitLiteral.r27, M_emitLiteral.r4, M_emitLiteral.r5, M_emitLiteral.r6, M_emitLiteral.r7, M_emitLiteral.r8, M_emitLiteral.r9, en]
  by_cases g60 : m < 60
  · rw [if_pos (by simp; omega)]
    have hx : ∃ x0, (M.drop o).take 1 = [x0] := List.length_eq_one_iff.1 (cut_len (M := M) (o := o) (k := 1) (by omega))
    obtain ⟨x0, hx⟩ := hx
    rw [← putL_self (M := M) (o := o) (k := 1) (by omega), hx] at HB
    have ev : bOr .u8 (IntKind.wrap .u8 (IntKind.wrap .u8 (m : Int) * 2 ^ 2)) 0 = ((m * 4 : Nat) : Int) := by
      rw [w_u8 (x := (m : Int)) (by omega) (by omega), w_u8 (by omega) (by omega)]
      have e2 : (m : Int) * 2 ^ 2 = ((m * 4 : Nat) : Int) := by omega
      rw [e2]
      exact or_u8_0 (by omega)
    rw [ev]
    refine putS (j := 0) (i := 0) HB (by simp; omega) (by simp) rfl (by omega) fun h1 H1 F1 => ?_
    simp only [List.set_cons_zero] at H1
    exact tail _ 1 h1 rfl (by omega) H1 F1 (bts_cons (by omega) (fun x hx => by cases hx)) (fun s2 out last => elem_lit0 g60 hm)
  rw [if_neg (by simp; omega)]
  have ek : ∀ k, 0 < k → k ≤ 4 → m < 256 ^ k → ∀ s2 out last, ElemG s2 (((((59 + k) * 4 : Nat) : Int) :: leB k m) ++ dl) out last (out ++ dl) last := fun k h1 h2 h3 s2 out last => elem_litk h1 h2 h3 hm
  have bk : ∀ k, k ≤ 4 → Bts ((((59 + k) * 4 : Nat) : Int) :: leB k m) := fun k h => bts_cons (by omega) (leB_bts _ _)
  by_cases g1 : m < 256
  · rw [if_pos (by simp; omega)]
    obtain ⟨x0, x1, hx⟩ := len2 (cut_len (M := M) (o := o) (k := 2) (by omega))
    rw [← putL_self (M := M) (o := o) (k := 2) (by omega), hx] at HB
    rw [w_u8_nat]
    refine putS (j := 1) (i := 1) HB (by simp; omega) (by simp) rfl (by omega) fun h1 H1 F1 => ?_
    refine putS (j := 0) (i := 0) H1 (by simp; omega) (by simp) rfl (by omega) fun h2 H2 F2 => ?_
    simp only [List.set_cons_zero, List.set_cons_succ] at H2
    have eB : [240, ((m % 256 : Nat) : Int)] = (((59 + 1) * 4 : Nat) : Int) :: leB 1 m := by simp [leB]
    rw [eB] at H2
    exact tail _ 2 h2 (by simp [leB_len]) (by omega) H2 (F1.trans F2) (bk 1 (by omega)) (ek 1 (by omega) (by omega) (by omega))
  rw [if_neg (by simp; omega)]
  by_cases g2 : m < 65536
  · rw [if_pos (by simp; omega)]
    obtain ⟨x0, x1, x2, hx⟩ := len3 (cut_len (M := M) (o := o) (k := 3) (by omega))
    rw [← putL_self (M := M) (o := o) (k := 3) (by omega), hx] at HB
    simp only [w_u8_div, w_u8_nat]
    refine putS (j := 2) (i := 2) HB (by simp; omega) (by simp) rfl (by omega) fun h1 H1 F1 => ?_
    refine putS (j := 1) (i := 1) H1 (by simp; omega) (by simp) rfl (by omega) fun h2 H2 F2 => ?_
    refine putS (j := 0) (i := 0) H2 (by simp; omega) (by simp) rfl (by omega) fun h3 H3 F3 => ?_
    simp only [List.set_cons_zero, List.set_cons_succ] at H3
    have eB : [244, ((m % 256 : Nat) : Int), ((m / 2 ^ 8 % 256 : Nat) : Int)] = (((59 + 2) * 4 : Nat) : Int) :: leB 2 m := by simp [leB]
    rw [eB] at H3
    exact tail _ 3 h3 (by simp [leB_len]) (by omega) H3 ((F1.trans F2).trans F3) (bk 2 (by omega)) (ek 2 (by omega) (by omega) (by omega))
  rw [if_neg (by simp; omega)]
  rw [if_pos (by simp; omega)]
  obtain ⟨x0, x1, x2, x3, hx⟩ := len4 (cut_len (M := M) (o := o) (k := 4) (by omega))
  rw [← putL_self (M := M) (o := o) (k := 4) (by omega), hx] at HB
  simp only [w_u8_div, w_u8_nat]
  refine putS (j := 3) (i := 3) HB (by simp; omega) (by simp) rfl (by omega) fun h1 H1 F1 => ?_
  refine putS (j := 2) (i := 2) H1 (by simp; omega) (by simp) rfl (by omega) fun h2 H2 F2 => ?_
  refine putS (j := 1) (i := 1) H2 (by simp; omega) (by simp) rfl (by omega) fun h3 H3 F3 => ?_
  refine putS (j := 0) (i := 0) H3 (by simp; omega) (by simp) rfl (by omega) fun h4 H4 F4 => ?_
  simp only [List.set_cons_zero, List.set_cons_succ] at H4
  have eB : [248, ((m % 256 : Nat) : Int), ((m / 2 ^ 8 % 256 : Nat) : Int), ((m / 2 ^ 16 % 256 : Nat) : Int)] = (((59 + 3) * 4 : Nat) : Int) :: leB 3 m := by simp [leB, Nat.div_div_eq_div_mul]
  rw [eB] at H4
  exact tail _ 4 h4 (by simp [leB_len]) (by omega) H4 (((F1.trans F2).trans F3).trans F4) (bk 3 (by omega)) (ek 3 (by omega) (by omega) (by omega))
end
end Go.Proofs.YtibleenkgmkpmaaDoor

set_option linter.unusedSimpArgs false
set_option linter.unusedVariables false
set_option linter.unusedSectionVars false
namespace Go.Proofs.YtibleenkgmkpmaaDoor
open Go Go.Vc Go.Ml Go.S2

theorem uvarint {h : Heap} {n : Nat} (hn : n < 2 ^ 32) {K : Sl → Heap → Prop} (hK : ∀ s h', Own h.size h' .u8 5 s (varB 10 n) → Old h h' → K s h') : c_laws_uvarint n h K := by
  apply M_laws_uvarint.calls
  simp only [SS, M_laws_uvarint.stm, M_laws_uvarint.k0, M_laws_uvarint.k1, M_laws_uvarint.init, M_laws_uvarint.r0, M_laws_uvarint.r1, M_laws_uvarint.r5]
  refine loop_rule (I := fun s' h' => ∃ (m f : Nat) (pre : List Int), s'.x_n = m ∧ pre ++ varB (f + 1) m = varB 10 n ∧ m < 2 ^ 32 ∧ m < 2 ^ (7 * (f + 1)) ∧ pre.length + f + 1 ≤ 10 ∧ Own h.size h' .u8 5 s'.x_out pre ∧ Keep h.size h h') (μ := fun s' _ => s'.x_n.toNat) ?_ ?_
  · exact ⟨n, 9, [], rfl, rfl, hn, by simp only [Nat.reduceAdd, Nat.reduceMul]; omega, by simp, Own.nil _ _ _ _, Keep.refl _ _⟩
  · rintro s' h' ⟨m, f, pre, e1, e2, hm, hm7, hf, HO, HK⟩
    have hsz := HK.size
    have hl := HO.len
    simp only [SS, M_laws_uvarint.k2, M_laws_uvarint.k3, M_laws_uvarint.r2, M_laws_uvarint.r3, M_laws_uvarint.r4, e1]
    by_cases hc : (m : Int) ≥ 128
    · rw [if_pos (by simpa using hc)]
      have hor : bOr .u8 (IntKind.wrap .u8 (m : Int)) 128 = ((m % 128 + 128 : Nat) : Int) := by
        rw [w_u8_nat]
        have : bOr .u8 ((m % 256 : Nat) : Int) 128 = ((m % 256 ||| 128 : Nat) : Int) := or_nat (k := .u8) rfl (by show m % 256 < 256; omega) (by decide)
        rw [this]
        have hd : ∀ x, x < 256 → x ||| 128 = x % 128 + 128 := by decide +kernel
        rw [hd _ (by omega)]
        congr 2
        omega
      rw [withH_eq, hor]
      refine app1 HO (by omega) hsz fun p' c' h2 HO2 HK2 => ?_
      rw [fdiv_nat]
      have f0 : 0 < f := by
        rcases Nat.eq_zero_or_pos f with h | h
        · rw [h] at hm7; simp at hm7; omega
        · exact h
      obtain ⟨g, rfl⟩ : ∃ g, f = g + 1 := ⟨f - 1, by omega⟩
      refine ⟨⟨m / 2 ^ 7, g, pre ++ [((m % 128 + 128 : Nat) : Int)], rfl, ?_, by omega, ?_, by simp; omega, HO2, HK.trans HK2⟩, by omega⟩
      · rw [← e2]
        conv => rhs; rw [varB, if_neg (by omega)]
        simp
      · have e8 : 7 * (g + 1 + 1) = 7 * (g + 1) + 7 := by omega
        rw [e8, Nat.pow_add] at hm7
        omega
    · rw [if_neg (by simpa using hc)]
      simp only [SS, M_laws_uvarint.k1, M_laws_uvarint.res, M_laws_uvarint.r5, e1]
      rw [withH_eq, w_u8_nat, Nat.mod_eq_of_lt (by omega)]
      refine app1 HO (by omega) hsz fun p' c' h2 HO2 HK2 => ?_
      rw [varB, if_pos (by omega)] at e2
      rw [e2] at HO2
      exact hK _ _ HO2 (Keep.old (HK.trans HK2))


theorem sl_putL {h : Heap} {db N c : Nat} {M enc : List Int} (HB : Blk h db ((putL M 0 enc).map (Value.int .u8)) 5) (hN : enc.length ≤ c) : SlI h .u8 ⟨some ⟨db, 0, none⟩, enc.length, c⟩ enc := by
  refine ⟨rfl, hN, fun _ => ⟨db, 0, rfl, fun j hj => ?_⟩⟩
  have e : (putL M 0 enc)[j]? = some enc[j] := by
    unfold putL
    rw [List.take_zero, List.nil_append, List.getElem?_append_left hj, List.getElem?_eq_getElem hj]
  rw [Nat.zero_add, HB.cell, List.getElem?_map, e, List.getD_eq_getElem?_getD, List.getElem?_eq_getElem hj]; rfl

theorem SnappyDecode {S : Sl} {l : List Int} {h : Heap} (hS : SlI h .u8 S l) (hsB : ∀ a, 0 < S.n → S.p = some a → a.block < h.size) (hb : Byt l) (hl : l.length < 2 ^ 36) {K : Sl → Int → Heap → Prop}
    (hK : ∀ (sl : Sl) (r : Nat) (h' : Heap), r = (decd l false).2 → (r = 1 → SlI h' .u8 sl (decd l false).1) → Old h h' → K sl r h') : c_spec_SnappyDecode S h K := by
  apply M_spec_SnappyDecode.calls
  simp only [SS, M_spec_SnappyDecode.stm, M_spec_SnappyDecode.r0, M_spec_SnappyDecode.r1, M_spec_SnappyDecode.init, M_spec_SnappyDecode.res, withH_eq, ptrE_some, add_mk, Nat.zero_add, Nat.add_zero]
  have o1 := Old.new h [.slice none 0 0, .slice none 0 0, .int .i64 (0 : Int), .bool false] 65
  refine decoded (B := h.size) (hS.ext o1.ext) hsB hb hl o1.size (rest := fun j => [Value.slice none 0 0, .slice none 0 0, .int .i64 (0 : Int), .bool false][j]?) ⟨Nat.le_refl _, _, none, 0, 0, Blk.new _ _ _, rfl, rfl, rfl, rfl, fun _ _ _ => rfl, Own.nil _ _ _ _, fun b hb => by cases hb⟩ ?_
  intro sl r h' h1 h2 h3
  exact hK sl r h' h1 h2 (Keep.old ((Keep.of_old o1).trans h3))


theorem dlen_varB {n : Nat} (hn : n < 2 ^ 32) (t : List Int) : dlen (varB 10 n ++ t) = some (n, (varB 10 n).length) := by
  have hv := s2len_varB hn t
  rw [dlen_yes (by rw [hv]), hv]

theorem decd_of {s2 : Bool} {body out : List Int} {last : Nat} (H : GoesG s2 body out last) (hle : out.length ≤ 4194304) : decd (varB 10 out.length ++ body) s2 = (out, 1) := by
  rw [decd_def (s2len_varB (by omega) body), if_neg (by simp), if_neg (by omega), ← dec_drop (by simp), List.drop_append_of_le_length (Nat.le_refl _), List.drop_of_length_le (Nat.le_refl _), List.nil_append, H.done]
  rfl
end Go.Proofs.YtibleenkgmkpmaaDoor

set_option linter.unusedSimpArgs false
set_option linter.unusedVariables false
set_option linter.unusedSectionVars false
namespace Go.Vc
theorem i64_and15 {x : Nat} (hx : x < 2 ^ 63) : bAnd .i64 (x : Int) 15 = ((x % 16 : Nat) : Int) := by
  have := and_i64 hx (y := 15) (by decide)
  rw [show x &&& 15 = x % 16 from Nat.and_two_pow_sub_one_eq_mod x 4] at this
  exact this
end Go.Vc
namespace Go.Proofs.YtibleenkgmkpmaaDoor
open Go Go.Vc Go.Ml Go.S2

/-- The reference's reader of LZ4, in memory. -/
structure Zst (B : Nat) (h : Heap) (zb : Nat) (S : Sl) (i : Nat) (out : List Int) : Prop where
  ge : B ≤ zb
  ex : ∃ p n c, Blk h zb [.slice S.p S.n S.c, .int .i64 (i : Nat), .slice p n c, .slice none 0 0, .int .i64 (0 : Int), .bool false] 100 ∧ Own B h .u8 5 ⟨p, n, c⟩ out ∧ ∀ b, p = some ⟨b, 0, none⟩ → b ≠ zb
/-- Its flag, whatever it says. -/
def Zfl (h : Heap) (zb : Nat) : Prop := ∃ b, hcell h ⟨zb, 5, none⟩ = some (.bool b)

section
variable {B zb : Nat} {h : Heap} {S : Sl} {l out : List Int} {i : Nat}

theorem Zst.old {h' : Heap} (H : Zst B h zb S i out) (o : Old h h') : Zst B h' zb S i out := by
  obtain ⟨hg, p, n, c, hb, O, hn⟩ := H
  exact ⟨hg, p, n, c, o.Blk hb, O.old o, hn⟩
theorem Zst.fl (H : Zst B h zb S i out) : Zfl h zb := by
  obtain ⟨hg, p, n, c, hb, O, hn⟩ := H
  exact ⟨false, hb.get rfl⟩
theorem Zst.c0 (H : Zst B h zb S i out) : hcell h ⟨zb, 0, none⟩ = some (.slice S.p S.n S.c) := by
  obtain ⟨hg, p, n, c, hb, O, hn⟩ := H
  exact hb.get rfl
theorem Zst.c1 (H : Zst B h zb S i out) : hcell h ⟨zb, 1, none⟩ = some (.int .i64 (i : Nat)) := by
  obtain ⟨hg, p, n, c, hb, O, hn⟩ := H
  exact hb.get rfl
theorem Zst.set1 (H : Zst B h zb S i out) {j : Nat} {K : Heap → Prop} (hK : ∀ h', Zst B h' zb S j out → Keep B h h' → K h') : st1 ⟨zb, 1, none⟩ (.int .i64 (j : Nat)) h K := by
  obtain ⟨hg, p, n, c, hb, O, hn⟩ := H
  exact st1_blk hb (by simp) (hK _ ⟨hg, p, n, c, Blk.put hb.lt _ _, O.put hn, hn⟩ ((Keep.refl _ _).put hg))

set_option maxRecDepth 1000000 in
theorem lzmore {n : Nat} (H : Zst B h zb S i out) (hS : SlI h .u8 S l) (hsB : ∀ a, 0 < S.n → S.p = some a → a.block < B) (hb : Bts l) (hl : l.length < 2 ^ 36) (hi : i ≤ l.length) (hn : n < 2 ^ 36) {K : Int → Bool → Heap → Prop}
    (hok : ∀ m j, zmore l i n = some (m, j) → ∀ h', Zst B h' zb S j out → Keep B h h' → K m true h') (hbad : zmore l i n = none → ∀ j h', Zst B h' zb S j out → Keep B h h' → K 0 false h') : c_lz4_more (some ⟨zb, 0, none⟩) n h K := by
  have hsl := hS.len
  generalize hR : zmore l i n = R at hok hbad
  apply M_lz4_more.calls
  simp only [SS, M_lz4_more.stm, M_lz4_more.k0, M_lz4_more.init, M_lz4_more.r0, M_lz4_more.r7]
  refine loop_rule (I := fun s' h' => s'.x_l = some ⟨zb, 0, none⟩ ∧ ∃ i n : Nat, s'.x_n = n ∧ i ≤ l.length ∧ n < 2 ^ 36 + 255 * i ∧ Zst B h' zb S i out ∧ Keep B h h' ∧ zmore l i n = R) (μ := fun _ h' => match hcell h' ⟨zb, 1, none⟩ with | some (.int _ v) => (l.length - v).toNat | _ => 0) ?_ ?_
  · exact ⟨rfl, i, n, rfl, hi, by omega, H, Keep.refl _ _, hR⟩
  · rintro s' h' ⟨e1, i, n, e2, hi, hn, H, hk, hR⟩
    have hS' := hS.keepB hsB hk
    simp only [SS, M_lz4_more.k1, M_lz4_more.k2, M_lz4_more.r1, M_lz4_more.r2, e1, e2, withH_eq, ptrE_some, add_mk, Nat.zero_add, Nat.add_zero]
    refine ⟨_, H.c1, _, _, _, H.c0, ?_⟩
    by_cases hc : (i : Int) < S.n
    · rw [if_pos (by simpa using hc)]
      refine ⟨_, _, _, H.c0, _, H.c1, ?_⟩
      have hil : i < l.length := by omega
      rw [zmore_step hil] at hR
      refine hS'.ldB (Byt.of_mem hb) (j := i) rfl hil fun v hv he hev => ?_
      rw [hev] at hR
      simp (disch := omega) only [w_i64, w_u64, w_i32, w_u32, w_u16, w_u8, w_i16, Nat.reducePow]
      refine ⟨_, H.c1, ?_⟩
      have ei : IntKind.wrap .i64 ((i : Int) + 1) = ((i + 1 : Nat) : Int) := by rw [w_i64 (by omega) (by omega)]; omega
      rw [ei]
      refine H.set1 fun h2 H2 k2 => ?_
      simp only [SS, M_lz4_more.k4, M_lz4_more.k5, M_lz4_more.r4, M_lz4_more.r5, M_lz4_more.r6, M_lz4_more.res, e2]
      have en : IntKind.wrap .i64 ((n : Int) + v) = ((n + v : Nat) : Int) := by rw [w_i64 (by omega) (by omega)]; omega
      rw [en]
      by_cases hv255 : v < 255
      · rw [if_pos (by simp; omega)]
        rw [if_pos hv255] at hR
        exact hok _ _ hR.symm h2 H2 (hk.trans k2)
      · rw [if_neg (by simp; omega)]
        rw [if_neg hv255] at hR
        refine ⟨⟨trivial, i + 1, n + v, rfl, by omega, by omega, H2, hk.trans k2, hR⟩, ?_⟩
        simp only [H2.c1, H.c1]
        omega
    · rw [if_neg (by simpa using hc)]
      simp only [SS, M_lz4_more.r7, M_lz4_more.res]
      rw [zmore_end (by omega)] at hR
      exact hbad hR.symm i h' H hk

theorem Zst.cut (H : Zst B h zb S i out) (hB : B ≤ h.size) : ∃ p n c, hcell h ⟨zb, 2, none⟩ = some (.slice p n c) ∧ n = out.length ∧ ∀ (news : List Int) (x : Value) (m : Nat) (K : Heap → Prop), news.length = m → srcCells h m x (news.map (Value.int .u8)) → out.length + m ≤ 2 ^ 40 →
    (∀ h', Zst B h' zb S i (out ++ news) → Keep B h h' → K h') → appendT Pg 5 p n c x m h fun p n c h' => st1 ⟨zb, 2, none⟩ (.slice p n c) h' K := by
  obtain ⟨hg, p, n, c, hb, O, hn⟩ := H
  have hnb : out.length = n := O.len
  refine ⟨p, n, c, hb.get rfl, hnb.symm, fun news x m K hm hsrc hlen hK => ?_⟩
  have hw := hb.lt
  refine append_own (s := ⟨p, n, c⟩) O ts5 tb5 z5 hm hsrc (by simp only; omega) hB fun p' c' h' HO HF HW => ?_
  have hb1 : Blk h' zb _ 100 := HF.Blk hb (fun hp => hn zb hp rfl)
  have n' : ∀ b, p' = some ⟨b, 0, none⟩ → b ≠ zb := by
    intro b hb
    rcases HW b hb with h | h
    · exact hn b h
    · omega
  exact st1_blk hb1 (by simp) (hK _ ⟨hg, p', n + m, c', Blk.put hb1.lt _ _, HO.put n', n'⟩ ((O.keep HF).put hg))

theorem lzliterals {n : Nat} (H : Zst B h zb S i out) (hB : B ≤ h.size) (hS : SlI h .u8 S l) (hsB : ∀ a, 0 < S.n → S.p = some a → a.block < B) (hb : Bts l) (hl : l.length < 2 ^ 20) (hi : i ≤ l.length) (hn : n ≤ 15) (ho : out.length < 2 ^ 38) {K : Bool → Heap → Prop}
    (hok : ∀ j out1, zlit l i n out = some (j, out1) → ∀ h', Zst B h' zb S j out1 → Keep B h h' → K true h') (hbad : zlit l i n out = none → ∀ h', Zfl h' zb → Keep B h h' → K false h') : c_lz4_literals (some ⟨zb, 0, none⟩) n h K := by
  have hsl := hS.len
  have hscap := hS.2.1
  apply M_lz4_literals.calls
  simp only [SS, M_lz4_literals.stm, M_lz4_literals.init, M_lz4_literals.k0, M_lz4_literals.r0, M_lz4_literals.r1]
  -- from where the length is known
  have fin : ∀ (m j : Nat) (h1 : Heap) (st : M_lz4_literals.St), zlen l i n n = some (m, j) → st.x_l = some ⟨zb, 0, none⟩ → st.x_n = m → Zst B h1 zb S j out → Keep B h h1 → M_lz4_literals.k3 st h1 (endK (M_lz4_literals.res K)) := by
    intro m j h1 st hz f1 f2 H1 k1
    have hs1 := k1.size
    have hle := zlen_le hb hz hi
    have hm : m < 2 ^ 36 := by omega
    simp only [SS, M_lz4_literals.k3, M_lz4_literals.k4, M_lz4_literals.k5, M_lz4_literals.r6, M_lz4_literals.r7, M_lz4_literals.r8, M_lz4_literals.r9, M_lz4_literals.r10, M_lz4_literals.res, f1, f2, withH_eq, ptrE_some, add_mk, Nat.zero_add, Nat.add_zero]
    refine ⟨_, _, _, H1.c0, _, H1.c1, ?_⟩
    rw [w_i64 (x := ((S.n : Nat) : Int) - j) (by omega) (by omega)]
    have hzz : zlit l i n out = if l.length - j < m then none else some (j + m, out ++ (l.drop j).take m) := by unfold zlit; rw [hz]
    by_cases hc : l.length - j < m
    · rw [if_pos (by simp; omega)]
      rw [if_pos hc] at hzz
      exact hbad hzz h1 H1.fl k1
    rw [if_neg (by simp; omega)]
    rw [if_neg hc] at hzz
    obtain ⟨p, n', c, hcell, hn', happ⟩ := H1.cut (by omega)
    refine ⟨p, n', c, hcell, _, _, _, H1.c0, _, H1.c1, _, H1.c1, ?_⟩
    have ew : IntKind.wrap .i64 ((j : Int) + m) = ((j + m : Nat) : Int) := by rw [w_i64 (by omega) (by omega)]; omega
    rw [ew]
    refine ⟨by omega, by omega, by omega, by omega, ?_⟩
    rw [Int.toNat_natCast, Int.toNat_natCast, show j + m - j = m by omega]
    have hsub := (hS.keepB hsB k1).sub (lo := j) (hi := j + m) (by omega) (by omega)
    rw [List.drop_take, show j + m - j = m by omega] at hsub
    refine happ ((l.drop j).take m) _ m _ (by simp; omega) ?_ (by omega) fun h2 H2 k2 => ?_
    · have := src_sl hsub (m := m) (by simp only; omega) (n := m) (c := S.c - j)
      rwa [List.take_of_length_le (by simp; omega)] at this
    refine ⟨_, H2.c1, ?_⟩
    rw [ew]
    refine H2.set1 fun h3 H3 k3 => ?_
    exact hok _ _ hzz h3 H3 (k1.trans (k2.trans k3))
  by_cases h15 : n = 15
  · rw [if_pos (by simp [h15])]
    simp only [SS, M_lz4_literals.k1, M_lz4_literals.k2, M_lz4_literals.r2, M_lz4_literals.r3, M_lz4_literals.r4, M_lz4_literals.r5]
    refine lzmore H hS hsB hb (by omega) hi (by omega) ?_ ?_
    · intro m j hm h1 H1 k1
      rw [if_neg (by simp)]
      exact fin m j h1 _ (by unfold zlen; rw [if_pos h15]; exact hm) rfl rfl H1 k1
    · intro hm j h1 H1 k1
      rw [if_pos (by simp)]
      exact hbad (by unfold zlit zlen; rw [if_pos h15, hm]) h1 H1.fl k1
  · rw [if_neg (by simp; omega)]
    exact fin n i h _ (by unfold zlen; rw [if_neg h15]) rfl rfl H (Keep.refl _ _)

theorem lzmatch {n least : Nat} (H : Zst B h zb S i out) (hB : B ≤ h.size) (hS : SlI h .u8 S l) (hsB : ∀ a, 0 < S.n → S.p = some a → a.block < B) (hb : Bts l) (hl : l.length < 2 ^ 20) (hi : i ≤ l.length) (hn : n ≤ 15) (hle : least ≤ 4) (ho : out.length < 2 ^ 38) {K : Bool → Heap → Prop}
    (hok : ∀ j out1, zmatch l i n least out = some (j, out1) → ∀ h', Zst B h' zb S j out1 → Keep B h h' → K true h') (hbad : zmatch l i n least out = none → ∀ h', Zfl h' zb → Keep B h h' → K false h') : c_lz4_match (some ⟨zb, 0, none⟩) n least h K := by
  have hsl := hS.len
  apply M_lz4_match.calls
  simp only [SS, M_lz4_match.stm, M_lz4_match.init, M_lz4_match.k0, M_lz4_match.k1, M_lz4_match.r0, M_lz4_match.r1, M_lz4_match.r2, withH_eq, ptrE_some, add_mk, Nat.zero_add, Nat.add_zero]
  refine ⟨_, _, _, H.c0, _, H.c1, ?_⟩
  refine little hS (Byt.of_mem hb) (by omega) (i := i) (n := 2) rfl rfl (by omega) (by omega) fun r hr => ?_
  refine ⟨_, H.c1, ?_⟩
  have ew : IntKind.wrap .i64 ((i : Int) + 2) = ((i + 2 : Nat) : Int) := by rw [w_i64 (by omega) (by omega)]; omega
  rw [ew]
  refine H.set1 fun h1 H1 k1 => ?_
  have hs1 := k1.size
  simp only [SS, M_lz4_match.k2, M_lz4_match.r3, M_lz4_match.r4, M_lz4_match.res]
  cases ha : leAt l i 2 with
  | none =>
    rw [ha] at hr
    rw [hr, leI_none, if_pos (by simp)]
    exact hbad (by unfold zmatch; rw [ha]) h1 H1.fl k1
  | some off =>
    rw [ha] at hr
    rw [hr, leI_some]
    have hal := leAt_le ha
    have hoff := leAt_lt4 hb (by omega) ha
    by_cases h0 : off = 0
    · rw [if_pos (by simp [h0])]
      exact hbad (by unfold zmatch; rw [ha]; simp only; rw [if_pos h0]) h1 H1.fl k1
    rw [if_neg (by simp; omega)]
    simp only [SS, M_lz4_match.k3, M_lz4_match.k4, M_lz4_match.r5, M_lz4_match.r6]
    have el : IntKind.wrap .i64 ((n : Int) + (least : Nat)) = ((n + least : Nat) : Int) := by rw [w_i64 (by omega) (by omega)]; omega
    rw [el]
    have hS1 := hS.keepB hsB k1
    have fin : ∀ (m j : Nat) (h2 : Heap) (st : M_lz4_match.St), zlen l (i + 2) n (n + least) = some (m, j) → st.x_l = some ⟨zb, 0, none⟩ → st.x_length = m → st.x_offset = off → Zst B h2 zb S j out → Keep B h h2 → M_lz4_match.k7 st h2 (endK (M_lz4_match.res K)) := by
      intro m j h2 st hz f1 f2 f3 H2 k2
      have hs2 := k2.size
      have hzl := zlen_le hb hz hal
      have hm : m < 2 ^ 36 := by omega
      simp only [SS, M_lz4_match.k7, M_lz4_match.k8, M_lz4_match.r11, M_lz4_match.r12, M_lz4_match.r13, M_lz4_match.r14, M_lz4_match.res, f1, f2, f3, withH_eq, ptrE_some, add_mk, Nat.zero_add, Nat.add_zero]
      obtain ⟨p, n', c, hcell, hn', _⟩ := H2.cut (by omega)
      refine ⟨p, n', c, hcell, ?_⟩
      rw [w_i64 (by omega) (by omega)]
      have hzz : zmatch l i n least out = if 4194304 < out.length + m ∨ out.length < off then none else some (j, fwd out off m) := by unfold zmatch; rw [ha]; simp only; rw [if_neg h0, hz]
      by_cases hbig : 4194304 < out.length + m
      · rw [if_pos (by simp; omega)]
        rw [if_pos (Or.inl hbig)] at hzz
        obtain ⟨hg, p, n'', c, hbk, O, hn⟩ := H2
        exact st1_blk hbk (by simp) (hbad hzz _ ⟨true, (Blk.put hbk.lt _ _).get rfl⟩ (k2.put hg))
      rw [if_neg (by simp; omega)]
      obtain ⟨hg, p, n'', c, hbk, O, hn⟩ := H2
      have hpn : out.length = n'' := O.len
      refine copied hbk (o := 2) rfl rfl O hn (by omega) rfl rfl (by omega) (by omega) ?_ ?_
      · intro hx
        rw [if_pos (Or.inr (by omega))] at hzz
        exact hbad hzz h2 ⟨false, hbk.get rfl⟩ k2
      · intro _ hle p' n3 c' h3 HO3 HB3 HF3 HW3
        rw [if_neg (by omega)] at hzz
        have hw := hbk.lt
        refine hok _ _ hzz h3 ⟨hg, p', n3, c', HB3, HO3, fun b hb => ?_⟩ (k2.trans (HF3.mono fun x _ hx => ?_))
        · rcases HW3 b hb with h | h
          · exact hn b h
          · omega
        · rcases hx with h | h
          · show B ≤ x; omega
          · exact O.ge h
    by_cases h15 : n = 15
    · rw [if_pos (by simp [h15])]
      simp only [SS, M_lz4_match.k5, M_lz4_match.k6, M_lz4_match.r7, M_lz4_match.r8, M_lz4_match.r9, M_lz4_match.r10]
      refine lzmore H1 hS1 hsB hb (by omega) hal (by omega) ?_ ?_
      · intro m j hm h2 H2 k2
        rw [if_neg (by simp)]
        exact fin m j h2 _ (by unfold zlen; rw [if_pos h15]; exact hm) rfl rfl rfl H2 (k1.trans k2)
      · intro hm j h2 H2 k2
        rw [if_pos (by simp)]
        exact hbad (by unfold zmatch zlen; rw [ha]; simp only; rw [if_neg h0, if_pos h15, hm]) h2 H2.fl (k1.trans k2)
    · rw [if_neg (by simp; omega)]
      exact fin (n + least) (i + 2) h1 _ (by unfold zlen; rw [if_neg h15]) rfl rfl rfl H1 k1

theorem lzanswer (H : Zfl h zb) {K : Sl → Int → Heap → Prop} (hK : ∀ (s : Sl) (r : Nat), r ≠ 1 → K s r h) : c_lz4_answer (some ⟨zb, 0, none⟩) h K := by
  obtain ⟨b, hb⟩ := H
  apply M_lz4_answer.calls
  simp only [SS, M_lz4_answer.k0, M_lz4_answer.stm, M_lz4_answer.r0, M_lz4_answer.r1, M_lz4_answer.r2, M_lz4_answer.r3, M_lz4_answer.init, M_lz4_answer.res, withH_eq, ptrE_some, add_mk, Nat.zero_add, Nat.add_zero]
  refine ⟨b, hb, ?_⟩
  cases b with
  | true => rw [if_pos rfl]; exact hK _ 2 (by omega)
  | false => rw [if_neg (by simp)]; exact hK _ 0 (by omega)
end
end Go.Proofs.YtibleenkgmkpmaaDoor

set_option linter.unusedSimpArgs false
set_option linter.unusedVariables false
set_option linter.unusedSectionVars false
namespace Go.Proofs.YtibleenkgmkpmaaDoor
open Go Go.Vc Go.Ml Go.S2

set_option maxRecDepth 1000000 in
theorem Lz4Decode {h : Heap} {S : Sl} {l : List Int} (hS : SlI h .u8 S l) (hsB : ∀ a, 0 < S.n → S.p = some a → a.block < h.size) (hb : Bts l) (hl : l.length < 2 ^ 20) {K : Sl → Int → Heap → Prop}
    (hK : ∀ (s : Sl) (r : Nat) (h' : Heap), (r = 1 → ∃ out, Z false l 0 [] = some out ∧ SlI h' .u8 s out ∧ Bts out ∧ out.length < 2 ^ 24) → Old h h' → K s r h') : c_spec_Lz4Decode S h K := by
  have hsl := hS.len
  apply M_spec_Lz4Decode.calls
  simp only [SS, M_spec_Lz4Decode.stm, M_spec_Lz4Decode.init, M_spec_Lz4Decode.k0, M_spec_Lz4Decode.k1, M_spec_Lz4Decode.r0, M_spec_Lz4Decode.r1, withH_eq, ptrE_some, add_mk, Nat.zero_add, Nat.add_zero]
  have o1 := Old.new h [.slice S.p S.n S.c, .int .i64 (0 : Int), .slice none 0 0, .slice none 0 0, .int .i64 (0 : Int), .bool false] 100
  have Z1 : Zst h.size (hnew h [.slice S.p S.n S.c, .int .i64 (0 : Int), .slice none 0 0, .slice none 0 0, .int .i64 (0 : Int), .bool false] 100) h.size S 0 [] := ⟨Nat.le_refl _, none, 0, 0, Blk.new _ _ _, Own.nil _ _ _ _, fun b hb => by cases hb⟩
  generalize hnew h [.slice S.p S.n S.c, .int .i64 (0 : Int), .slice none 0 0, .slice none 0 0, .int .i64 (0 : Int), .bool false] 100 = h1 at *
  refine loop_rule (I := fun s' h' => s'.x_src = S ∧ s'.x_l = some ⟨h.size, 0, none⟩ ∧ ∃ (i : Nat) (out : List Int), Zst h.size h' h.size S i out ∧ i ≤ l.length ∧ out.length ≤ 4194304 ∧ Bts out ∧ Z false l i out = Z false l 0 [] ∧ Keep h.size h h')
    (μ := fun _ h' => match hcell h' ⟨h.size, 1, none⟩ with | some (.int _ v) => (l.length - v).toNat | _ => 0) ?_ ?_
  · exact ⟨rfl, rfl, 0, [], Z1, by omega, by simp, fun x hx => by (cases hx), rfl, Keep.of_old o1⟩
  · rintro s' h' ⟨e1, e2, i, out, H, hi, hol, hob, hZ, hk⟩
    have hs := hk.size
    have hS' := hS.keepB hsB hk
    simp only [SS, M_spec_Lz4Decode.k2, M_spec_Lz4Decode.k3, M_spec_Lz4Decode.r2, M_spec_Lz4Decode.r3, M_spec_Lz4Decode.r4, e1, e2, withH_eq, ptrE_some, add_mk, Nat.zero_add, Nat.add_zero]
    refine ⟨_, H.c1, ?_⟩
    by_cases hc : (i : Int) < S.n
    case neg =>
      rw [if_neg (by simpa using hc)]
      simp only [SS, M_spec_Lz4Decode.r13, M_spec_Lz4Decode.res]
      exact hK _ 2 h' (fun h => by cases h) (Keep.old hk)
    rw [if_pos (by simpa using hc)]
    have hil : i < l.length := by omega
    refine ⟨_, H.c1, ?_⟩
    refine hS'.ldB (Byt.of_mem hb) (j := i) rfl hil fun v hv he hev => ?_
    simp (disch := omega) only [w_i64, w_u64, w_i32, w_u32, w_u16, w_u8, w_i16, Nat.reducePow]
    refine ⟨_, H.c1, ?_⟩
    have ei : IntKind.wrap .i64 ((i : Int) + 1) = ((i + 1 : Nat) : Int) := by rw [w_i64 (by omega) (by omega)]; omega
    rw [ei]
    refine H.set1 fun h2 H2 k2 => ?_
    have hk2 := hk.trans k2
    have hs2 := hk2.size
    rw [Z_unfold hb hil, hev] at hZ
    simp only [SS, M_spec_Lz4Decode.k4, M_spec_Lz4Decode.k5, M_spec_Lz4Decode.r5, M_spec_Lz4Decode.r6, M_spec_Lz4Decode.res, e1, e2, fdiv_nat]
    rw [show v / 2 ^ 4 = v / 16 from rfl]
    refine lzliterals H2 hs2 (hS.keepB hsB hk2) hsB hb hl (by omega) (by omega) (by omega) ?_ ?_
    · intro j out1 hz h3 H3 k3
      have hk3 := hk2.trans k3
      have hs3 := hk3.size
      rw [hz] at hZ
      dsimp only at hZ
      have hzl := zlit_le hb hz (by omega)
      have hob1 : Bts out1 := by
        unfold zlit at hz
        split at hz
        · cases hz
        · split at hz
          · cases hz
          · simp only [Option.some.injEq, Prod.mk.injEq] at hz
            obtain ⟨rfl, rfl⟩ := hz
            exact hob.app (hb.sub _ _)
      have hol1 : out1.length < 2 ^ 24 := by
        unfold zlit at hz
        split at hz
        · cases hz
        · split at hz
          · cases hz
          · simp only [Option.some.injEq, Prod.mk.injEq] at hz
            obtain ⟨rfl, rfl⟩ := hz
            simp; omega
      rw [if_neg (by simp)]
      have hand : bAnd .i64 (v : Int) 15 = ((v % 16 : Nat) : Int) := i64_and15 (by omega)
      simp only [SS, M_spec_Lz4Decode.k6, M_spec_Lz4Decode.k7, M_spec_Lz4Decode.k8, M_spec_Lz4Decode.r7, M_spec_Lz4Decode.r8, M_spec_Lz4Decode.r9, M_spec_Lz4Decode.r10, M_spec_Lz4Decode.r11, M_spec_Lz4Decode.r12, M_spec_Lz4Decode.res, e1, e2, withH_eq, ptrE_some, add_mk, Nat.zero_add, Nat.add_zero, hand]
      refine ⟨_, H3.c1, ?_⟩
      -- a match
      have fin : j ≠ l.length → ¬ (false = true ∧ v % 16 = 0) → c_lz4_match (some ⟨h.size, 0, none⟩) ((v % 16 : Nat) : Int) (4 : Int) h3 fun b2 h1 =>
          if (!b2) = true then c_lz4_answer (some ⟨h.size, 0, none⟩) h1 fun w2 r3 h1 => K w2 r3 h1 else
            (True ∧ True ∧ ∃ (i : Nat) (out : List Int), Zst h.size h1 h.size S i out ∧ i ≤ l.length ∧ out.length ≤ 4194304 ∧ Bts out ∧ Z false l i out = Z false l 0 [] ∧ Keep h.size h h1) ∧
            (match hcell h1 ⟨h.size, 1, none⟩ with | some (.int _ v) => (l.length - v).toNat | _ => 0) < (match hcell h' ⟨h.size, 1, none⟩ with | some (.int _ v) => (l.length - v).toNat | _ => 0) := by
        intro hj hmd
        rw [if_neg hj, if_neg hmd] at hZ
        have e4 : zleast false = 4 := rfl
        rw [e4] at hZ
        refine lzmatch (least := 4) H3 hs3 (hS.keepB hsB hk3) hsB hb hl hzl.2.1 (by omega) (by omega) (by omega) ?_ ?_
        · intro k out2 hm h4 H4 k4
          rw [hm] at hZ
          simp only at hZ
          have hml := zmatch_le hb hm
          rw [if_neg (by simp)]
          refine ⟨⟨trivial, trivial, k, out2, H4, hml.2.1, hml.2.2.2, ?_, hZ, hk3.trans k4⟩, ?_⟩
          · unfold zmatch at hm
            split at hm
            · cases hm
            · split at hm
              · cases hm
              · split at hm
                · cases hm
                · split at hm
                  · cases hm
                  · simp only [Option.some.injEq, Prod.mk.injEq] at hm
                    obtain ⟨rfl, rfl⟩ := hm
                    exact fwd_byt hob1 _
          · have hlt : ((l.length : Int) - (k : Nat)).toNat < ((l.length : Int) - (i : Nat)).toNat := by clear ei; omega
            simpa only [H4.c1, H.c1] using hlt
        · intro hm h4 F4 k4
          rw [if_pos (by simp)]
          exact lzanswer F4 fun s r hr => hK s r h4 (fun h => absurd h hr) (Keep.old (hk3.trans k4))
      by_cases hj : j = l.length
      · rw [if_pos (by simp; omega)]
        by_cases h0 : v % 16 = 0
        · rw [if_neg (by simp [h0])]
          obtain ⟨hg, p, n, c, hbk, O, hn⟩ := H3
          refine ⟨p, n, c, hbk.get rfl, ?_⟩
          rw [if_pos hj, if_pos h0] at hZ
          exact hK _ 1 h3 (fun _ => ⟨out1, hZ.symm, O.sl, hob1, hol1⟩) (Keep.old hk3)
        · rw [if_pos (by simp; omega)]
          exact hK _ 2 h3 (fun h => by cases h) (Keep.old hk3)
      · rw [if_neg (by simp; omega)]
        exact fin hj (fun h => by cases h.1)
    · intro hz h3 F3 k3
      rw [if_pos (by simp)]
      exact lzanswer F3 fun s r hr => hK s r h3 (fun h => absurd h hr) (Keep.old (hk2.trans k3))

set_option maxRecDepth 1000000 in
theorem Lz4sDecode {h : Heap} {S : Sl} {l : List Int} (hS : SlI h .u8 S l) (hsB : ∀ a, 0 < S.n → S.p = some a → a.block < h.size) (hb : Bts l) (hl : l.length < 2 ^ 20) {K : Sl → Int → Heap → Prop}
    (hK : ∀ (s : Sl) (r : Nat) (h' : Heap), (r = 1 → ∃ out, Z true l 0 [] = some out ∧ SlI h' .u8 s out ∧ Bts out ∧ out.length < 2 ^ 24) → Old h h' → K s r h') : c_spec_Lz4sDecode S h K := by
  have hsl := hS.len
  apply M_spec_Lz4sDecode.calls
  simp only [SS, M_spec_Lz4sDecode.stm, M_spec_Lz4sDecode.init, M_spec_Lz4sDecode.k0, M_spec_Lz4sDecode.k1, M_spec_Lz4sDecode.r0, M_spec_Lz4sDecode.r1, withH_eq, ptrE_some, add_mk, Nat.zero_add, Nat.add_zero]
  have o1 := Old.new h [.slice S.p S.n S.c, .int .i64 (0 : Int), .slice none 0 0, .slice none 0 0, .int .i64 (0 : Int), .bool false] 100
  have Z1 : Zst h.size (hnew h [.slice S.p S.n S.c, .int .i64 (0 : Int), .slice none 0 0, .slice none 0 0, .int .i64 (0 : Int), .bool false] 100) h.size S 0 [] := ⟨Nat.le_refl _, none, 0, 0, Blk.new _ _ _, Own.nil _ _ _ _, fun b hb => by cases hb⟩
  generalize hnew h [.slice S.p S.n S.c, .int .i64 (0 : Int), .slice none 0 0, .slice none 0 0, .int .i64 (0 : Int), .bool false] 100 = h1 at *
  refine loop_rule (I := fun s' h' => s'.x_src = S ∧ s'.x_l = some ⟨h.size, 0, none⟩ ∧ ∃ (i : Nat) (out : List Int), Zst h.size h' h.size S i out ∧ i ≤ l.length ∧ out.length ≤ 4194304 ∧ Bts out ∧ Z true l i out = Z true l 0 [] ∧ Keep h.size h h')
    (μ := fun _ h' => match hcell h' ⟨h.size, 1, none⟩ with | some (.int _ v) => (l.length - v).toNat | _ => 0) ?_ ?_
  · exact ⟨rfl, rfl, 0, [], Z1, by omega, by simp, fun x hx => by (cases hx), rfl, Keep.of_old o1⟩
  · rintro s' h' ⟨e1, e2, i, out, H, hi, hol, hob, hZ, hk⟩
    have hs := hk.size
    have hS' := hS.keepB hsB hk
    simp only [SS, M_spec_Lz4sDecode.k2, M_spec_Lz4sDecode.k3, M_spec_Lz4sDecode.r2, M_spec_Lz4sDecode.r3, M_spec_Lz4sDecode.r4, e1, e2, withH_eq, ptrE_some, add_mk, Nat.zero_add, Nat.add_zero]
    refine ⟨_, H.c1, ?_⟩
    by_cases hc : (i : Int) < S.n
    case neg =>
      rw [if_neg (by simpa using hc)]
      simp only [SS, M_spec_Lz4sDecode.r13, M_spec_Lz4sDecode.res]
      exact hK _ 2 h' (fun h => by cases h) (Keep.old hk)
    rw [if_pos (by simpa using hc)]
    have hil : i < l.length := by omega
    refine ⟨_, H.c1, ?_⟩
    refine hS'.ldB (Byt.of_mem hb) (j := i) rfl hil fun v hv he hev => ?_
    simp (disch := omega) only [w_i64, w_u64, w_i32, w_u32, w_u16, w_u8, w_i16, Nat.reducePow]
    refine ⟨_, H.c1, ?_⟩
    have ei : IntKind.wrap .i64 ((i : Int) + 1) = ((i + 1 : Nat) : Int) := by rw [w_i64 (by omega) (by omega)]; omega
    rw [ei]
    refine H.set1 fun h2 H2 k2 => ?_
    have hk2 := hk.trans k2
    have hs2 := hk2.size
    rw [Z_unfold hb hil, hev] at hZ
    simp only [SS, M_spec_Lz4sDecode.k4, M_spec_Lz4sDecode.k5, M_spec_Lz4sDecode.r5, M_spec_Lz4sDecode.r6, M_spec_Lz4sDecode.res, e1, e2, fdiv_nat]
    rw [show v / 2 ^ 4 = v / 16 from rfl]
    refine lzliterals H2 hs2 (hS.keepB hsB hk2) hsB hb hl (by omega) (by omega) (by omega) ?_ ?_
    · intro j out1 hz h3 H3 k3
      have hk3 := hk2.trans k3
      have hs3 := hk3.size
      rw [hz] at hZ
      dsimp only at hZ
      have hzl := zlit_le hb hz (by omega)
      have hob1 : Bts out1 := by
        unfold zlit at hz
        split at hz
        · cases hz
        · split at hz
          · cases hz
          · simp only [Option.some.injEq, Prod.mk.injEq] at hz
            obtain ⟨rfl, rfl⟩ := hz
            exact hob.app (hb.sub _ _)
      have hol1 : out1.length < 2 ^ 24 := by
        unfold zlit at hz
        split at hz
        · cases hz
        · split at hz
          · cases hz
          · simp only [Option.some.injEq, Prod.mk.injEq] at hz
            obtain ⟨rfl, rfl⟩ := hz
            simp; omega
      rw [if_neg (by simp)]
      have hand : bAnd .i64 (v : Int) 15 = ((v % 16 : Nat) : Int) := i64_and15 (by omega)
      simp only [SS, M_spec_Lz4sDecode.k6, M_spec_Lz4sDecode.k7, M_spec_Lz4sDecode.k8, M_spec_Lz4sDecode.r7, M_spec_Lz4sDecode.r8, M_spec_Lz4sDecode.r9, M_spec_Lz4sDecode.r10, M_spec_Lz4sDecode.r11, M_spec_Lz4sDecode.r12, M_spec_Lz4sDecode.res, e1, e2, withH_eq, ptrE_some, add_mk, Nat.zero_add, Nat.add_zero, hand]
      refine ⟨_, H3.c1, ?_⟩
      -- a match
      have fin : j ≠ l.length → ¬ (true = true ∧ v % 16 = 0) → c_lz4_match (some ⟨h.size, 0, none⟩) ((v % 16 : Nat) : Int) (3 : Int) h3 fun b2 h1 =>
          if (!b2) = true then c_lz4_answer (some ⟨h.size, 0, none⟩) h1 fun w2 r3 h1 => K w2 r3 h1 else
            (True ∧ True ∧ ∃ (i : Nat) (out : List Int), Zst h.size h1 h.size S i out ∧ i ≤ l.length ∧ out.length ≤ 4194304 ∧ Bts out ∧ Z true l i out = Z true l 0 [] ∧ Keep h.size h h1) ∧
            (match hcell h1 ⟨h.size, 1, none⟩ with | some (.int _ v) => (l.length - v).toNat | _ => 0) < (match hcell h' ⟨h.size, 1, none⟩ with | some (.int _ v) => (l.length - v).toNat | _ => 0) := by
        intro hj hmd
        rw [if_neg hj, if_neg hmd] at hZ
        have e4 : zleast true = 3 := rfl
        rw [e4] at hZ
        refine lzmatch (least := 3) H3 hs3 (hS.keepB hsB hk3) hsB hb hl hzl.2.1 (by omega) (by omega) (by omega) ?_ ?_
        · intro k out2 hm h4 H4 k4
          rw [hm] at hZ
          simp only at hZ
          have hml := zmatch_le hb hm
          rw [if_neg (by simp)]
          refine ⟨⟨trivial, trivial, k, out2, H4, hml.2.1, hml.2.2.2, ?_, hZ, hk3.trans k4⟩, ?_⟩
          · unfold zmatch at hm
            split at hm
            · cases hm
            · split at hm
              · cases hm
              · split at hm
                · cases hm
                · split at hm
                  · cases hm
                  · simp only [Option.some.injEq, Prod.mk.injEq] at hm
                    obtain ⟨rfl, rfl⟩ := hm
                    exact fwd_byt hob1 _
          · have hlt : ((l.length : Int) - (k : Nat)).toNat < ((l.length : Int) - (i : Nat)).toNat := by clear ei; omega
            simpa only [H4.c1, H.c1] using hlt
        · intro hm h4 F4 k4
          rw [if_pos (by simp)]
          exact lzanswer F4 fun s r hr => hK s r h4 (fun h => absurd h hr) (Keep.old (hk3.trans k4))
      by_cases hj : j = l.length
      · rw [if_pos (by simp; omega)]
        by_cases h0 : v % 16 = 0
        · rw [if_pos (by simp [h0])]
          obtain ⟨hg, p, n, c, hbk, O, hn⟩ := H3
          refine ⟨p, n, c, hbk.get rfl, ?_⟩
          rw [if_pos hj, if_pos h0] at hZ
          exact hK _ 1 h3 (fun _ => ⟨out1, hZ.symm, O.sl, hob1, hol1⟩) (Keep.old hk3)
        · rw [if_neg (by simp; omega)]
          refine ⟨_, H3.c1, ?_⟩
          rw [if_neg (by simp; omega), if_pos trivial]
          exact hK _ 2 h3 (fun h => by cases h) (Keep.old hk3)
      · rw [if_neg (by simp; omega), if_neg (by simp)]
        refine ⟨_, H3.c1, ?_⟩
        rw [if_pos (by simp; omega)]
        by_cases h0 : v % 16 = 0
        · rw [if_pos (by simp [h0])]
          exact hK _ 2 h3 (fun h => by cases h) (Keep.old hk3)
        · rw [if_neg (by simp; omega)]
          exact fin hj (fun h => h0 h.2)
    · intro hz h3 F3 k3
      rw [if_pos (by simp)]
      exact lzanswer F3 fun s r hr => hK s r h3 (fun h => absurd h hr) (Keep.old (hk2.trans k3))
end Go.Proofs.YtibleenkgmkpmaaDoor

set_option linter.unusedSimpArgs false
set_option linter.unusedVariables false
set_option linter.unusedSectionVars false
namespace Go.Proofs.YtibleenkgmkpmaaDoor
open Go Go.Vc Go.Ml Go.S2

theorem leN2 {l : List Int} (hb : Byt l) (h : 2 ≤ l.length) : ((leN (l.take 2) : Nat) : Int) = l.getD 0 0 + l.getD 1 0 * 2 ^ 8 := by
  match l, h with
  | a :: b :: r, _ =>
    have h0 := hb 0; have h1 := hb 1
    simp at h0 h1
    simp [leN]
    omega
theorem leN4 {l : List Int} (hb : Byt l) (h : 4 ≤ l.length) : ((leN (l.take 4) : Nat) : Int) = l.getD 0 0 + l.getD 1 0 * 2 ^ 8 + l.getD 2 0 * 2 ^ 16 + l.getD 3 0 * 2 ^ 24 := by
  match l, h with
  | a :: b :: c :: d :: r, _ =>
    have h0 := hb 0; have h1 := hb 1; have h2 := hb 2; have h3 := hb 3
    simp at h0 h1 h2 h3
    simp [leN]
    omega

theorem or4 {a b c d : Int} (ha : 0 ≤ a ∧ a ≤ 255) (hb : 0 ≤ b ∧ b ≤ 255) (hc : 0 ≤ c ∧ c ≤ 255) (hd : 0 ≤ d ∧ d ≤ 255) :
    bOr .u32 (bOr .u32 (bOr .u32 (IntKind.wrap .u32 a) (IntKind.wrap .u32 (IntKind.wrap .u32 b * 2 ^ 8))) (IntKind.wrap .u32 (IntKind.wrap .u32 c * 2 ^ 16))) (IntKind.wrap .u32 (IntKind.wrap .u32 d * 2 ^ 24)) =
      a + b * 2 ^ 8 + c * 2 ^ 16 + d * 2 ^ 24 := by
  have w : ∀ x : Int, 0 ≤ x ∧ x ≤ 255 → IntKind.wrap .u32 x = x := fun x h => w_u32 (by omega) (by omega)
  rw [w a ha, w b hb, w c hc, w d hd, w_u32 (x := b * 2 ^ 8) (by omega) (by omega), w_u32 (x := c * 2 ^ 16) (by omega) (by omega), w_u32 (x := d * 2 ^ 24) (by omega) (by omega)]
  have hB : (2 : Int) ^ IntKind.u32.bits = 4294967296 := by rfl
  rw [or_addI rfl 8 (by omega) (by omega) (by omega) (by rw [hB]; omega), or_addI rfl 16 (by omega) (by omega) (by omega) (by rw [hB]; omega), or_addI rfl 24 (by omega) (by omega) (by omega) (by rw [hB]; omega)]


theorem or2 {a b : Int} (ha : 0 ≤ a ∧ a ≤ 255) (hb : 0 ≤ b ∧ b ≤ 255) : bOr .u16 (IntKind.wrap .u16 a) (IntKind.wrap .u16 (IntKind.wrap .u16 b * 2 ^ 8)) = a + b * 2 ^ 8 := by
  rw [w_u16 (x := a) (by omega) (by omega), w_u16 (x := b) (by omega) (by omega), w_u16 (x := b * 2 ^ 8) (by omega) (by omega)]
  have hB : (2 : Int) ^ IntKind.u16.bits = 65536 := by rfl
  rw [or_addI rfl 8 (by omega) (by omega) (by omega) (by rw [hB]; omega)]

theorem le16 {s : Sl} {h : Heap} {l : List Int} (hs : SlI h .u8 s l) (hb : Byt l) (hn : 2 ≤ l.length) {K : Int → Heap → Prop} (hK : ∀ h', Old h h' → K (leN (l.take 2) : Nat) h') : c_littleEndian_Uint16 s h K := by
  have hl := hs.len
  apply M_littleEndian_Uint16.calls
  simp only [SS, M_littleEndian_Uint16.k0, M_littleEndian_Uint16.stm, M_littleEndian_Uint16.r0, M_littleEndian_Uint16.r1, M_littleEndian_Uint16.r2, M_littleEndian_Uint16.init, M_littleEndian_Uint16.res, withH_eq, ptrE_some, add_mk, Nat.zero_add, Nat.add_zero]
  have hO := Old.new h [] 126
  have hs' := hs.ext hO.ext
  iterate 3 refine hs'.ld (by omega) (by omega) ?_
  rw [or2 (hb _) (hb _)]
  have := hK _ hO
  rw [leN2 hb hn] at this
  exact this
theorem le32 {s : Sl} {h : Heap} {l : List Int} (hs : SlI h .u8 s l) (hb : Byt l) (hn : 4 ≤ l.length) {K : Int → Heap → Prop} (hK : ∀ h', Old h h' → K (leN (l.take 4) : Nat) h') : c_littleEndian_Uint32 s h K := by
  have hl := hs.len
  apply M_littleEndian_Uint32.calls
  simp only [SS, M_littleEndian_Uint32.k0, M_littleEndian_Uint32.stm, M_littleEndian_Uint32.r0, M_littleEndian_Uint32.r1, M_littleEndian_Uint32.r2, M_littleEndian_Uint32.init, M_littleEndian_Uint32.res, withH_eq, ptrE_some, add_mk, Nat.zero_add, Nat.add_zero]
  have hO := Old.new h [] 126
  have hs' := hs.ext hO.ext
  iterate 5 refine hs'.ld (by omega) (by omega) ?_
  rw [or4 (hb _) (hb _) (hb _) (hb _)]
  have := hK _ hO
  rw [leN4 hb hn] at this
  exact this

theorem load16 {s : Sl} {h : Heap} {l : List Int} (hs : SlI h .u8 s l) (hb : Byt l) {i : Nat} {a : Int} (ha : a = i) (hn : i + 2 ≤ l.length) {K : Int → Heap → Prop} (hK : ∀ h', Old h h' → K (leN ((l.drop i).take 2) : Nat) h') : c_Load16 s a h K := by
  subst ha
  have hl := hs.len
  apply M_Load16.calls
  simp only [SS, M_Load16.stm, M_Load16.r0, M_Load16.r1, M_Load16.init, M_Load16.res, withH_eq, ptrE_some, add_mk, Nat.zero_add, Nat.add_zero]
  refine ⟨by omega, by omega, ?_⟩
  rw [Int.toNat_natCast]
  exact le16 (hs.from (i := i) (by omega)) (hb.drop i) (by simp; omega) hK
theorem load32 {s : Sl} {h : Heap} {l : List Int} (hs : SlI h .u8 s l) (hb : Byt l) {i : Nat} {a : Int} (ha : a = i) (hn : i + 4 ≤ l.length) {K : Int → Heap → Prop} (hK : ∀ h', Old h h' → K (leN ((l.drop i).take 4) : Nat) h') : c_Load32 s a h K := by
  subst ha
  have hl := hs.len
  apply M_Load32.calls
  simp only [SS, M_Load32.stm, M_Load32.r0, M_Load32.r1, M_Load32.init, M_Load32.res, withH_eq, ptrE_some, add_mk, Nat.zero_add, Nat.add_zero]
  refine ⟨by omega, by omega, ?_⟩
  rw [Int.toNat_natCast]
  exact le32 (hs.from (i := i) (by omega)) (hb.drop i) (by simp; omega) hK
end Go.Proofs.YtibleenkgmkpmaaDoor
