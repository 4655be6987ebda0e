/- A part of the calculus over heaps, or of the proof over it: what functions of the program compute, and the plain law. -/
import Derived.Test.YtibleenkgmkpmaaDoorText4
import Derived.Test.YtibleenkgmkpmaaDoorText3
import Derived.Test.YtibleenkgmkpmaaDoorModels1
import Derived.Test.YtibleenkgmkpmaaDoorModels2

set_option linter.unusedSimpArgs false
set_option linter.unusedVariables false
set_option linter.unusedSectionVars false
namespace Go.Vc
theorem len10 {L : List Int} (h : L.length = 10) : ∃ a b c d e f g i j k, L = [a, b, c, d, e, f, g, i, j, k] := by
  match L, h with
  | [a, b, c, d, e, f, g, i, j, k], _ => exact ⟨a, b, c, d, e, f, g, i, j, k, rfl⟩
end Go.Vc
namespace Go.Proofs.YtibleenkgmkpmaaDoor
open Go Go.Vc Go.Ml Go.S2

theorem tag2 {n : Nat} (h1 : 1 ≤ n) (h : n ≤ 64) : bOr .u8 (IntKind.wrap .u8 (IntKind.wrap .u8 (IntKind.wrap .i64 ((n : Int) - 1)) * 2 ^ 2)) 2 = (((n - 1) * 4 + 2 : Nat) : Int) ∧
    bOr .u8 (IntKind.wrap .u8 (IntKind.wrap .u8 (IntKind.wrap .i64 ((n : Int) - 1)) * 2 ^ 2)) 3 = (((n - 1) * 4 + 3 : Nat) : Int) := by
  rw [w_i64 (by omega) (by omega), w_u8 (x := (n : Int) - 1) (by omega) (by omega), w_u8 (by omega) (by omega)]
  have e2 : ((n : Int) - 1) * 2 ^ 2 = (((n - 1) * 4 : Nat) : Int) := by omega
  have := lor_tag2 (n - 1) (by omega)
  have e3 : bOr .u8 (((n - 1) * 4 : Nat) : Int) 2 = (((n - 1) * 4 ||| 2 : Nat) : Int) := or_u8 (by omega) (by decide)
  have e4 : bOr .u8 (((n - 1) * 4 : Nat) : Int) 3 = (((n - 1) * 4 ||| 3 : Nat) : Int) := or_u8 (by omega) (by decide)
  rw [e2, e3, e4, this.1, this.2.1]
  exact ⟨rfl, rfl⟩

/-- As tag1, the length's part being a difference of words. -/
theorem tag1' {o n : Nat} (ho : o < 2048) (h4 : 4 ≤ n) (hl : n < 12) : bOr .u8 (bOr .u8 (IntKind.wrap .u8 (IntKind.wrap .u8 (Int.fdiv (o : Int) (2 ^ 8)) * 2 ^ 5)) (IntKind.wrap .u8 (IntKind.wrap .u8 (IntKind.wrap .i64 ((n : Int) - 4)) * 2 ^ 2))) 1 = ((o / 256 * 32 + (n - 4) * 4 + 1 : Nat) : Int) := by
  rw [w_i64 (by omega) (by omega)]
  have e : (n : Int) - 4 = ((n - 4 : Nat) : Int) := by omega
  rw [e]
  exact tag1 ho (by omega)
theorem tag8 {o : Nat} (ho : o < 2048) : bOr .u8 (bOr .u8 (IntKind.wrap .u8 (IntKind.wrap .u8 (Int.fdiv (o : Int) (2 ^ 8)) * 2 ^ 5)) 16) 1 = ((o / 256 * 32 + (8 - 4) * 4 + 1 : Nat) : Int) := by
  have := tag1 (l := 4) ho (by omega)
  have e : IntKind.wrap .u8 (IntKind.wrap .u8 ((4 : Nat) : Int) * 2 ^ 2) = 16 := by decide
  rw [e] at this
  exact this
theorem leB4 (o : Nat) : leB 4 o = [((o % 256 : Nat) : Int), ((o / 2 ^ 8 % 256 : Nat) : Int), ((o / 2 ^ 16 % 256 : Nat) : Int), ((o / 2 ^ 24 % 256 : Nat) : Int)] := by simp [leB, Nat.div_div_eq_div_mul]
theorem leB2 (o : Nat) : leB 2 o = [((o % 256 : Nat) : Int), ((o / 2 ^ 8 % 256 : Nat) : Int)] := by simp [leB]
theorem copk4 {s2 : Bool} {o n : Nat} (h2 : o < 2 ^ 32) (hn : 1 ≤ n) (hn2 : n ≤ 64) : CopS s2 [(((n - 1) * 4 + 3 : Nat) : Int), ((o % 256 : Nat) : Int), ((o / 2 ^ 8 % 256 : Nat) : Int), ((o / 2 ^ 16 % 256 : Nat) : Int), ((o / 2 ^ 24 % 256 : Nat) : Int)] o n := by
  have := copk (s2 := s2) (k := 4) (o := o) (Or.inr rfl) h2 hn hn2
  rw [leB4] at this
  exact this
theorem copk2 {s2 : Bool} {o n : Nat} (h2 : o < 65536) (hn : 1 ≤ n) (hn2 : n ≤ 64) : CopS s2 [(((n - 1) * 4 + 2 : Nat) : Int), ((o % 256 : Nat) : Int), ((o / 2 ^ 8 % 256 : Nat) : Int)] o n := by
  have := copk (s2 := s2) (k := 2) (o := o) (Or.inl rfl) h2 hn hn2
  rw [leB2] at this
  exact this

section
variable {h : Heap} {db o n c off len : Nat} {M : List Int} {K : Int → Heap → Prop}

set_option maxRecDepth 1000000 in
set_option maxHeartbeats 1000000 in
theorem emitCopy (HB : Blk h db (M.map (Value.int .u8)) 5) (hon : o + n ≤ M.length) (hc : n ≤ c) (hn : 16 ≤ n) (hlen : 4 ≤ len) (hlen2 : len < 2 ^ 24) (hoff : off < 2 ^ 31)
    (hK : ∀ enc h', enc.length ≤ 16 → (CopS true enc off len) → Blk h' db ((putL M o enc).map (Value.int .u8)) 5 → Fr (· = db) h h' → K enc.length h') : c_emitCopy ⟨some ⟨db, o, none⟩, n, c⟩ off len h K := by
  apply M_emitCopy.calls
  simp only [SS, M_emitCopy.stm, M_emitCopy.k0, M_emitCopy.k1, M_emitCopy.k2, M_emitCopy.init, M_emitCopy.res, M_emitCopy.r0, M_emitCopy.r1, M_emitCopy.r2, M_emitCopy.r3]
  by_cases g0 : (off : Int) ≥ 65536
  · rw [if_pos (by simpa using g0)]
    by_cases g1 : (len : Int) > 64
    · rw [if_pos (by simpa using g1)]
      simp only [SS, M_emitCopy.k3, M_emitCopy.k4, M_emitCopy.k5, M_emitCopy.k6, M_emitCopy.k7, M_emitCopy.k8, M_emitCopy.k9, M_emitCopy.k10, M_emitCopy.k11, M_emitCopy.k12, M_emitCopy.k13, M_emitCopy.k14, M_emitCopy.k15, M_emitCopy.res, M_emitCopy.r4, M_emitCopy.r5, M_emitCopy.r6, M_emitCopy.r7, M_emitCopy.r8, M_emitCopy.r9, M_emitCopy.r10, M_emitCopy.r11, M_emitCopy.r12, M_emitCopy.r13, M_emitCopy.r14, M_emitCopy.r15, M_emitCopy.r16, M_emitCopy.r17, M_emitCopy.r18, M_emitCopy.r19, M_emitCopy.r20]
      have ew : IntKind.wrap .i64 ((len : Int) - 64) = ((len - 64 : Nat) : Int) := by rw [w_i64 (by omega) (by omega)]; omega
      simp only [ew]
      by_cases g2 : 4 ≤ len - 64
      · obtain ⟨x0, x1, x2, x3, x4, hx⟩ := len5 (cut_len (M := M) (o := o) (k := 5) (by omega))
        rw [← putL_self (M := M) (o := o) (k := 5) (by omega), hx] at HB
        simp only [w_u8_div, w_u8_nat]
        refine putS (j := 4) (i := 4) HB (by simp; omega) (by simp) rfl (by omega) fun h1 H1 F1 => ?_
        refine putS (j := 3) (i := 3) H1 (by simp; omega) (by simp) rfl (by omega) fun h2 H2 F2 => ?_
        refine putS (j := 2) (i := 2) H2 (by simp; omega) (by simp) rfl (by omega) fun h3 H3 F3 => ?_
        refine putS (j := 1) (i := 1) H3 (by simp; omega) (by simp) rfl (by omega) fun h4 H4 F4 => ?_
        refine putS (j := 0) (i := 0) H4 (by simp; omega) (by simp) rfl (by omega) fun h5 H5 F5 => ?_
        simp only [List.set_cons_zero, List.set_cons_succ] at H5
        have hF := (((F1.trans F2).trans F3).trans F4).trans F5
        rw [if_pos (by simp; omega)]
        refine ⟨by omega, by omega, ?_⟩
        rw [show Int.toNat (5 : Int) = 5 from rfl, subP_at (by omega)]
        refine emitRepeat H5 (by rw [putL_len (by simp; omega)]; omega) (by omega) (by omega) (by omega) (by omega) fun enc h6 q1 q2 q3 q4 => ?_
        have ep := putL_putL (M := M) (o := o) (L1 := [255, ((off % 256 : Nat) : Int), ((off / 2 ^ 8 % 256 : Nat) : Int), ((off / 2 ^ 16 % 256 : Nat) : Int), ((off / 2 ^ 24 % 256 : Nat) : Int)]) (L2 := enc) (by simp; omega)
        have ec : IntKind.wrap .i64 (5 + (enc.length : Int)) = (([255, ((off % 256 : Nat) : Int), ((off / 2 ^ 8 % 256 : Nat) : Int), ((off / 2 ^ 16 % 256 : Nat) : Int), ((off / 2 ^ 24 % 256 : Nat) : Int)] ++ enc).length : Nat) := by
          rw [w_i64 (by omega) (by omega)]; simp; omega
        rw [ec]
        refine hK _ h6 (by simp; omega) ?_ (by rw [← ep]; exact q3) (hF.trans q4)
        show CopS true _ off len
        have := (copk4 (s2 := true) (o := off) (n := 64) (by omega) (by omega) (by omega)).app q2
        rwa [show 64 + (len - 64) = len by omega] at this
      · obtain ⟨x0, x1, x2, x3, x4, x5, x6, x7, x8, x9, hx⟩ := len10 (cut_len (M := M) (o := o) (k := 10) (by omega))
        rw [← putL_self (M := M) (o := o) (k := 10) (by omega), hx] at HB
        have et : bOr .u8 (IntKind.wrap .u8 (IntKind.wrap .u8 (IntKind.wrap .i64 (((len - 64 : Nat) : Int) - 1)) * 2 ^ 2)) 3 = ((((len - 64) - 1) * 4 + 3 : Nat) : Int) := (tag2 (n := len - 64) (by omega) (by omega)).2
        simp only [w_u8_div, w_u8_nat, et, show IntKind.wrap .i64 ((5 : Int) + 0) = 5 from by decide, show IntKind.wrap .i64 ((5 : Int) + 1) = 6 from by decide, show IntKind.wrap .i64 ((5 : Int) + 2) = 7 from by decide, show IntKind.wrap .i64 ((5 : Int) + 3) = 8 from by decide, show IntKind.wrap .i64 ((5 : Int) + 4) = 9 from by decide, show IntKind.wrap .i64 ((5 : Int) + 5) = 10 from by decide]
        refine putS (j := 4) (i := 4) HB (by simp; omega) (by simp) rfl (by omega) fun h1 H1 F1 => ?_
        refine putS (j := 3) (i := 3) H1 (by simp; omega) (by simp) rfl (by omega) fun h2 H2 F2 => ?_
        refine putS (j := 2) (i := 2) H2 (by simp; omega) (by simp) rfl (by omega) fun h3 H3 F3 => ?_
        refine putS (j := 1) (i := 1) H3 (by simp; omega) (by simp) rfl (by omega) fun h4 H4 F4 => ?_
        refine putS (j := 0) (i := 0) H4 (by simp; omega) (by simp) rfl (by omega) fun h5 H5 F5 => ?_
        rw [if_neg (by simp; omega), if_neg (by simp; omega)]
        refine putS (j := 5) (i := 5) H5 (by simp; omega) (by simp) rfl (by omega) fun h6 H6 F6 => ?_
        refine putS (j := 6) (i := 6) H6 (by simp; omega) (by simp) rfl (by omega) fun h7 H7 F7 => ?_
        refine putS (j := 7) (i := 7) H7 (by simp; omega) (by simp) rfl (by omega) fun h8 H8 F8 => ?_
        refine putS (j := 8) (i := 8) H8 (by simp; omega) (by simp) rfl (by omega) fun h9 H9 F9 => ?_
        refine putS (j := 9) (i := 9) H9 (by simp; omega) (by simp) rfl (by omega) fun h10 H10 F10 => ?_
        simp only [List.set_cons_zero, List.set_cons_succ] at H10
        have hF := ((((((((F1.trans F2).trans F3).trans F4).trans F5).trans F6).trans F7).trans F8).trans F9).trans F10
        refine hK _ h10 (by simp) ?_ H10 hF
        show CopS true _ off len
        have := (copk4 (s2 := true) (o := off) (n := 64) (by omega) (by omega) (by omega)).app (copk4 (s2 := true) (o := off) (n := len - 64) (by omega) (by omega) (by omega)).rep
        rw [show 64 + (len - 64) = len by omega] at this
        exact this
    · rw [if_neg (by simpa using g1)]
      simp only [SS, M_emitCopy.k10, M_emitCopy.k11, M_emitCopy.k12, M_emitCopy.k13, M_emitCopy.k14, M_emitCopy.k15, M_emitCopy.res, M_emitCopy.r13, M_emitCopy.r14, M_emitCopy.r15, M_emitCopy.r16, M_emitCopy.r17, M_emitCopy.r18, M_emitCopy.r19, M_emitCopy.r20]
      rw [if_neg (by simp; omega)]
      obtain ⟨x0, x1, x2, x3, x4, hx⟩ := len5 (cut_len (M := M) (o := o) (k := 5) (by omega))
      rw [← putL_self (M := M) (o := o) (k := 5) (by omega), hx] at HB
      simp only [w_u8_div, w_u8_nat, (tag2 (n := len) (by omega) (by omega)).2, show IntKind.wrap .i64 ((0 : Int) + 0) = 0 from by decide, show IntKind.wrap .i64 ((0 : Int) + 1) = 1 from by decide, show IntKind.wrap .i64 ((0 : Int) + 2) = 2 from by decide, show IntKind.wrap .i64 ((0 : Int) + 3) = 3 from by decide, show IntKind.wrap .i64 ((0 : Int) + 4) = 4 from by decide, show IntKind.wrap .i64 ((0 : Int) + 5) = 5 from by decide]
      refine putS (j := 0) (i := 0) HB (by simp; omega) (by simp) rfl (by omega) fun h1 H1 F1 => ?_
      refine putS (j := 1) (i := 1) H1 (by simp; omega) (by simp) rfl (by omega) fun h2 H2 F2 => ?_
      refine putS (j := 2) (i := 2) H2 (by simp; omega) (by simp) rfl (by omega) fun h3 H3 F3 => ?_
      refine putS (j := 3) (i := 3) H3 (by simp; omega) (by simp) rfl (by omega) fun h4 H4 F4 => ?_
      refine putS (j := 4) (i := 4) H4 (by simp; omega) (by simp) rfl (by omega) fun h5 H5 F5 => ?_
      simp only [List.set_cons_zero, List.set_cons_succ] at H5
      exact hK _ h5 (by simp) (copk4 (by omega) (by omega) (by omega)) H5 ((((F1.trans F2).trans F3).trans F4).trans F5)
  · rw [if_neg (by simpa using g0)]
    have ho : off < 65536 := by omega
    by_cases g1 : (len : Int) > 64
    · simp only [SS, M_emitCopy.k16, M_emitCopy.k17, M_emitCopy.k18, M_emitCopy.k19, M_emitCopy.k20, M_emitCopy.k21, M_emitCopy.k22, M_emitCopy.res, M_emitCopy.r21, M_emitCopy.r22, M_emitCopy.r23, M_emitCopy.r32, M_emitCopy.r24, M_emitCopy.r25, M_emitCopy.r26, M_emitCopy.r27, M_emitCopy.r28, M_emitCopy.r29, M_emitCopy.r30, M_emitCopy.r31]
      rw [if_pos (by simpa using g1)]
      by_cases g2 : (off : Int) < 2048
      · rw [if_pos (by simpa using g2)]
        have ew : IntKind.wrap .i64 ((len : Int) - 8) = ((len - 8 : Nat) : Int) := by rw [w_i64 (by omega) (by omega)]; omega
        simp only [ew]
        obtain ⟨x0, x1, hx⟩ := len2 (cut_len (M := M) (o := o) (k := 2) (by omega))
        rw [← putL_self (M := M) (o := o) (k := 2) (by omega), hx] at HB
        rw [tag8 (o := off) (by omega), w_u8_nat]
        refine putS (j := 1) (i := 1) HB (by simp; omega) (by simp) rfl (by omega) fun h1 H1 F1 => ?_
        refine putS (j := 0) (i := 0) H1 (by simp; omega) (by simp) rfl (by omega) fun h2 H2 F2 => ?_
        simp only [List.set_cons_zero, List.set_cons_succ] at H2
        refine ⟨by omega, by omega, ?_⟩
        rw [show Int.toNat (2 : Int) = 2 from rfl, subP_at (by omega)]
        refine emitRepeat H2 (by rw [putL_len (by simp; omega)]; omega) (by omega) (by omega) (by omega) (by omega) fun enc h6 q1 q2 q3 q4 => ?_
        have ep := putL_putL (M := M) (o := o) (L1 := [((off / 256 * 32 + (8 - 4) * 4 + 1 : Nat) : Int), ((off % 256 : Nat) : Int)]) (L2 := enc) (by simp; omega)
        have ec : IntKind.wrap .i64 (2 + (enc.length : Int)) = (([((off / 256 * 32 + (8 - 4) * 4 + 1 : Nat) : Int), ((off % 256 : Nat) : Int)] ++ enc).length : Nat) := by
          rw [w_i64 (by omega) (by omega)]; simp; omega
        rw [ec]
        refine hK _ h6 (by simp; omega) ?_ (by rw [← ep]; exact q3) ((F1.trans F2).trans q4)
        have := (cop1 (s2 := true) (o := off) (n := 8) (by omega) (by omega) (by omega)).app q2
        rwa [show 8 + (len - 8) = len by omega] at this
      · rw [if_neg (by simpa using g2)]
        have ew : IntKind.wrap .i64 ((len : Int) - 60) = ((len - 60 : Nat) : Int) := by rw [w_i64 (by omega) (by omega)]; omega
        simp only [ew]
        obtain ⟨x0, x1, x2, hx⟩ := len3 (cut_len (M := M) (o := o) (k := 3) (by omega))
        rw [← putL_self (M := M) (o := o) (k := 3) (by omega), hx] at HB
        simp only [w_u8_div, w_u8_nat]
        refine putS (j := 2) (i := 2) HB (by simp; omega) (by simp) rfl (by omega) fun h1 H1 F1 => ?_
        refine putS (j := 1) (i := 1) H1 (by simp; omega) (by simp) rfl (by omega) fun h2 H2 F2 => ?_
        refine putS (j := 0) (i := 0) H2 (by simp; omega) (by simp) rfl (by omega) fun h3 H3 F3 => ?_
        simp only [List.set_cons_zero, List.set_cons_succ] at H3
        refine ⟨by omega, by omega, ?_⟩
        rw [show Int.toNat (3 : Int) = 3 from rfl, subP_at (by omega)]
        refine emitRepeat H3 (by rw [putL_len (by simp; omega)]; omega) (by omega) (by omega) (by omega) (by omega) fun enc h6 q1 q2 q3 q4 => ?_
        have ep := putL_putL (M := M) (o := o) (L1 := [238, ((off % 256 : Nat) : Int), ((off / 2 ^ 8 % 256 : Nat) : Int)]) (L2 := enc) (by simp; omega)
        have ec : IntKind.wrap .i64 (3 + (enc.length : Int)) = (([238, ((off % 256 : Nat) : Int), ((off / 2 ^ 8 % 256 : Nat) : Int)] ++ enc).length : Nat) := by
          rw [w_i64 (by omega) (by omega)]; simp; omega
        rw [ec]
        refine hK _ h6 (by simp; omega) ?_ (by rw [← ep]; exact q3) (((F1.trans F2).trans F3).trans q4)
        show CopS true _ off len
        have := (copk2 (s2 := true) (o := off) (n := 60) ho (by omega) (by omega)).app q2
        rwa [show 60 + (len - 60) = len by omega] at this
    · simp only [SS, M_emitCopy.k16, M_emitCopy.k23, M_emitCopy.k24, M_emitCopy.k25, M_emitCopy.k26, M_emitCopy.k27, M_emitCopy.k28, M_emitCopy.res, M_emitCopy.r21, M_emitCopy.r33, M_emitCopy.r34, M_emitCopy.r35, M_emitCopy.r36, M_emitCopy.r37, M_emitCopy.r38, M_emitCopy.r39, M_emitCopy.r40]
      rw [if_neg (by simpa using g1)]
      have fin2 : ∀ h3 enc, enc.length ≤ 5 → (∀ s2, CopS s2 enc off len) → Blk h3 db ((putL M o enc).map (Value.int .u8)) 5 → Fr (· = db) h h3 → K enc.length h3 := fun h3 enc q1 q2 q3 q4 => hK enc h3 (by omega) (q2 _) q3 q4
      by_cases g : len ≥ 12 ∨ off ≥ 2048
      · have p : 0 ≤ (2 : Int) ∧ (2 : Int) < ((n : Nat) : Int) ∧ ptrE (some (⟨db, o, none⟩ : Addr)) fun a1 => st1 (Addr.add (Addr.add a1 (Int.toNat (2 : Int) * 1)) 0) (.int .u8 (IntKind.wrap .u8 (Int.fdiv (off : Int) (2 ^ 8)))) h fun h2 =>
            0 ≤ (1 : Int) ∧ (1 : Int) < ((n : Nat) : Int) ∧ ptrE (some (⟨db, o, none⟩ : Addr)) fun a1 => st1 (Addr.add (Addr.add a1 (Int.toNat (1 : Int) * 1)) 0) (.int .u8 (IntKind.wrap .u8 (off : Int))) h2 fun h2 =>
            0 ≤ (0 : Int) ∧ (0 : Int) < ((n : Nat) : Int) ∧ ptrE (some (⟨db, o, none⟩ : Addr)) fun a1 => st1 (Addr.add (Addr.add a1 (Int.toNat (0 : Int) * 1)) 0) (.int .u8 (bOr .u8 (IntKind.wrap .u8 (IntKind.wrap .u8 (IntKind.wrap .i64 ((len : Int) - 1)) * 2 ^ 2)) 2)) h2 fun h2 => K 3 h2 := by
          obtain ⟨x0, x1, x2, hx⟩ := len3 (cut_len (M := M) (o := o) (k := 3) (by omega))
          rw [← putL_self (M := M) (o := o) (k := 3) (by omega), hx] at HB
          rw [(tag2 (by omega) (by omega)).1, w_u8_div, w_u8_nat]
          refine putS (j := 2) (i := 2) HB (by simp; omega) (by simp) rfl (by omega) fun h1 H1 F1 => ?_
          refine putS (j := 1) (i := 1) H1 (by simp; omega) (by simp) rfl (by omega) fun h2 H2 F2 => ?_
          refine putS (j := 0) (i := 0) H2 (by simp; omega) (by simp) rfl (by omega) fun h3 H3 F3 => ?_
          simp only [List.set_cons_zero, List.set_cons_succ] at H3
          exact fin2 h3 _ (by simp) (fun s2 => copk2 ho (by omega) (by omega)) H3 ((F1.trans F2).trans F3)
        by_cases g2 : (len : Int) ≥ 12
        · rw [if_neg (by simpa using g2), if_pos trivial]; exact p
        · rw [if_pos (by simpa using g2), if_pos (by simp; omega)]; exact p
      · rw [if_pos (by simp; omega), if_neg (by simp; omega)]
        obtain ⟨x0, x1, hx⟩ := len2 (cut_len (M := M) (o := o) (k := 2) (by omega))
        rw [← putL_self (M := M) (o := o) (k := 2) (by omega), hx] at HB
        rw [tag1' (by omega) hlen (by omega), w_u8_nat]
        refine putS (j := 1) (i := 1) HB (by simp; omega) (by simp) rfl (by omega) fun h1 H1 F1 => ?_
        refine putS (j := 0) (i := 0) H1 (by simp; omega) (by simp) rfl (by omega) fun h2 H2 F2 => ?_
        simp only [List.set_cons_zero, List.set_cons_succ] at H2
        exact fin2 h2 _ (by simp) (fun s2 => cop1 (by omega) hlen (by omega)) H2 (F1.trans F2)

set_option maxRecDepth 1000000 in
set_option maxHeartbeats 1000000 in
theorem emitCopyNoRepeat : ∀ (len : Nat) {h : Heap} {db o n c off : Nat} {M : List Int} {K : Int → Heap → Prop}, (HB : Blk h db (M.map (Value.int .u8)) 5) → (hon : o + n ≤ M.length) → (hc : n ≤ c) → (hn : len / 12 + 10 ≤ n) → (hlen : 4 ≤ len) → (hlen2 : len < 2 ^ 24) → (hoff : off < 2 ^ 31) →
    (hK : ∀ enc h', enc.length ≤ len / 12 + 10 → (∀ s2, CopS s2 enc off len) → Blk h' db ((putL M o enc).map (Value.int .u8)) 5 → Fr (· = db) h h' → K enc.length h') → c_emitCopyNoRepeat ⟨some ⟨db, o, none⟩, n, c⟩ off len h K := by
  intro len
  induction len using Nat.strongRecOn with | _ len ih =>
  intro h db o n c off M K HB hon hc hn hlen hlen2 hoff hK
  apply M_emitCopyNoRepeat.calls
  simp only [SS, M_emitCopyNoRepeat.stm, M_emitCopyNoRepeat.k0, M_emitCopyNoRepeat.k1, M_emitCopyNoRepeat.k2, M_emitCopyNoRepeat.init, M_emitCopyNoRepeat.res, M_emitCopyNoRepeat.r0, M_emitCopyNoRepeat.r1, M_emitCopyNoRepeat.r2, M_emitCopyNoRepeat.r3]
  by_cases g0 : (off : Int) ≥ 65536
  · rw [if_pos (by simpa using g0)]
    by_cases g1 : (len : Int) > 64
    · rw [if_pos (by simpa using g1)]
      simp only [SS, M_emitCopyNoRepeat.k3, M_emitCopyNoRepeat.k4, M_emitCopyNoRepeat.k5, M_emitCopyNoRepeat.k6, M_emitCopyNoRepeat.k7, M_emitCopyNoRepeat.k8, M_emitCopyNoRepeat.k9, M_emitCopyNoRepeat.k10, M_emitCopyNoRepeat.k11, M_emitCopyNoRepeat.k12, M_emitCopyNoRepeat.k13, M_emitCopyNoRepeat.k14, M_emitCopyNoRepeat.k15, M_emitCopyNoRepeat.res, M_emitCopyNoRepeat.r4, M_emitCopyNoRepeat.r5, M_emitCopyNoRepeat.r6, M_emitCopyNoRepeat.r7, M_emitCopyNoRepeat.r8, M_emitCopyNoRepeat.r9, M_emitCopyNoRepeat.r10, M_emitCopyNoRepeat.r11, M_emitCopyNoRepeat.r12, M_emitCopyNoRepeat.r13, M_emitCopyNoRepeat.r14, M_emitCopyNoRepeat.r15, M_emitCopyNoRepeat.r16, M_emitCopyNoRepeat.r17, M_emitCopyNoRepeat.r18, M_emitCopyNoRepeat.r19, M_emitCopyNoRepeat.r20]
      have ew : IntKind.wrap .i64 ((len : Int) - 64) = ((len - 64 : Nat) : Int) := by rw [w_i64 (by omega) (by omega)]; omega
      simp only [ew]
      by_cases g2 : 4 ≤ len - 64
      · obtain ⟨x0, x1, x2, x3, x4, hx⟩ := len5 (cut_len (M := M) (o := o) (k := 5) (by omega))
        rw [← putL_self (M := M) (o := o) (k := 5) (by omega), hx] at HB
        simp only [w_u8_div, w_u8_nat]
        refine putS (j := 4) (i := 4) HB (by simp; omega) (by simp) rfl (by omega) fun h1 H1 F1 => ?_
        refine putS (j := 3) (i := 3) H1 (by simp; omega) (by simp) rfl (by omega) fun h2 H2 F2 => ?_
        refine putS (j := 2) (i := 2) H2 (by simp; omega) (by simp) rfl (by omega) fun h3 H3 F3 => ?_
        refine putS (j := 1) (i := 1) H3 (by simp; omega) (by simp) rfl (by omega) fun h4 H4 F4 => ?_
        refine putS (j := 0) (i := 0) H4 (by simp; omega) (by simp) rfl (by omega) fun h5 H5 F5 => ?_
        simp only [List.set_cons_zero, List.set_cons_succ] at H5
        have hF := (((F1.trans F2).trans F3).trans F4).trans F5
        rw [if_pos (by simp; omega)]
        refine ⟨by omega, by omega, ?_⟩
        rw [show Int.toNat (5 : Int) = 5 from rfl, subP_at (by omega)]
        refine ih (len - 64) (by omega) H5 (by rw [putL_len (by simp; omega)]; omega) (by omega) (by omega) (by omega) (by omega) (by omega) fun enc h6 q1 q2 q3 q4 => ?_
        have ep := putL_putL (M := M) (o := o) (L1 := [255, ((off % 256 : Nat) : Int), ((off / 2 ^ 8 % 256 : Nat) : Int), ((off / 2 ^ 16 % 256 : Nat) : Int), ((off / 2 ^ 24 % 256 : Nat) : Int)]) (L2 := enc) (by simp; omega)
        have ec : IntKind.wrap .i64 (5 + (enc.length : Int)) = (([255, ((off % 256 : Nat) : Int), ((off / 2 ^ 8 % 256 : Nat) : Int), ((off / 2 ^ 16 % 256 : Nat) : Int), ((off / 2 ^ 24 % 256 : Nat) : Int)] ++ enc).length : Nat) := by
          rw [w_i64 (by omega) (by omega)]; simp; omega
        rw [ec]
        refine hK _ h6 (by simp; omega) ?_ (by rw [← ep]; exact q3) (hF.trans q4)
        intro s2
        have := (copk4 (s2 := s2) (o := off) (n := 64) (by omega) (by omega) (by omega)).app (q2 s2).rep
        rwa [show 64 + (len - 64) = len by omega] at this
      · obtain ⟨x0, x1, x2, x3, x4, x5, x6, x7, x8, x9, hx⟩ := len10 (cut_len (M := M) (o := o) (k := 10) (by omega))
        rw [← putL_self (M := M) (o := o) (k := 10) (by omega), hx] at HB
        have et : bOr .u8 (IntKind.wrap .u8 (IntKind.wrap .u8 (IntKind.wrap .i64 (((len - 64 : Nat) : Int) - 1)) * 2 ^ 2)) 3 = ((((len - 64) - 1) * 4 + 3 : Nat) : Int) := (tag2 (n := len - 64) (by omega) (by omega)).2
        simp only [w_u8_div, w_u8_nat, et, show IntKind.wrap .i64 ((5 : Int) + 0) = 5 from by decide, show IntKind.wrap .i64 ((5 : Int) + 1) = 6 from by decide, show IntKind.wrap .i64 ((5 : Int) + 2) = 7 from by decide, show IntKind.wrap .i64 ((5 : Int) + 3) = 8 from by decide, show IntKind.wrap .i64 ((5 : Int) + 4) = 9 from by decide, show IntKind.wrap .i64 ((5 : Int) + 5) = 10 from by decide]
        refine putS (j := 4) (i := 4) HB (by simp; omega) (by simp) rfl (by omega) fun h1 H1 F1 => ?_
        refine putS (j := 3) (i := 3) H1 (by simp; omega) (by simp) rfl (by omega) fun h2 H2 F2 => ?_
        refine putS (j := 2) (i := 2) H2 (by simp; omega) (by simp) rfl (by omega) fun h3 H3 F3 => ?_
        refine putS (j := 1) (i := 1) H3 (by simp; omega) (by simp) rfl (by omega) fun h4 H4 F4 => ?_
        refine putS (j := 0) (i := 0) H4 (by simp; omega) (by simp) rfl (by omega) fun h5 H5 F5 => ?_
        rw [if_neg (by simp; omega), if_neg (by simp; omega)]
        refine putS (j := 5) (i := 5) H5 (by simp; omega) (by simp) rfl (by omega) fun h6 H6 F6 => ?_
        refine putS (j := 6) (i := 6) H6 (by simp; omega) (by simp) rfl (by omega) fun h7 H7 F7 => ?_
        refine putS (j := 7) (i := 7) H7 (by simp; omega) (by simp) rfl (by omega) fun h8 H8 F8 => ?_
        refine putS (j := 8) (i := 8) H8 (by simp; omega) (by simp) rfl (by omega) fun h9 H9 F9 => ?_
        refine putS (j := 9) (i := 9) H9 (by simp; omega) (by simp) rfl (by omega) fun h10 H10 F10 => ?_
        simp only [List.set_cons_zero, List.set_cons_succ] at H10
        have hF := ((((((((F1.trans F2).trans F3).trans F4).trans F5).trans F6).trans F7).trans F8).trans F9).trans F10
        refine hK _ h10 (by simp) ?_ H10 hF
        intro s2
        have := (copk4 (s2 := s2) (o := off) (n := 64) (by omega) (by omega) (by omega)).app (copk4 (s2 := s2) (o := off) (n := len - 64) (by omega) (by omega) (by omega)).rep
        rw [show 64 + (len - 64) = len by omega] at this
        exact this
    · rw [if_neg (by simpa using g1)]
      simp only [SS, M_emitCopyNoRepeat.k10, M_emitCopyNoRepeat.k11, M_emitCopyNoRepeat.k12, M_emitCopyNoRepeat.k13, M_emitCopyNoRepeat.k14, M_emitCopyNoRepeat.k15, M_emitCopyNoRepeat.res, M_emitCopyNoRepeat.r13, M_emitCopyNoRepeat.r14, M_emitCopyNoRepeat.r15, M_emitCopyNoRepeat.r16, M_emitCopyNoRepeat.r17, M_emitCopyNoRepeat.r18, M_emitCopyNoRepeat.r19, M_emitCopyNoRepeat.r20]
      rw [if_neg (by simp; omega)]
      obtain ⟨x0, x1, x2, x3, x4, hx⟩ := len5 (cut_len (M := M) (o := o) (k := 5) (by omega))
      rw [← putL_self (M := M) (o := o) (k := 5) (by omega), hx] at HB
      simp only [w_u8_div, w_u8_nat, (tag2 (n := len) (by omega) (by omega)).2, show IntKind.wrap .i64 ((0 : Int) + 0) = 0 from by decide, show IntKind.wrap .i64 ((0 : Int) + 1) = 1 from by decide, show IntKind.wrap .i64 ((0 : Int) + 2) = 2 from by decide, show IntKind.wrap .i64 ((0 : Int) + 3) = 3 from by decide, show IntKind.wrap .i64 ((0 : Int) + 4) = 4 from by decide, show IntKind.wrap .i64 ((0 : Int) + 5) = 5 from by decide]
      refine putS (j := 0) (i := 0) HB (by simp; omega) (by simp) rfl (by omega) fun h1 H1 F1 => ?_
      refine putS (j := 1) (i := 1) H1 (by simp; omega) (by simp) rfl (by omega) fun h2 H2 F2 => ?_
      refine putS (j := 2) (i := 2) H2 (by simp; omega) (by simp) rfl (by omega) fun h3 H3 F3 => ?_
      refine putS (j := 3) (i := 3) H3 (by simp; omega) (by simp) rfl (by omega) fun h4 H4 F4 => ?_
      refine putS (j := 4) (i := 4) H4 (by simp; omega) (by simp) rfl (by omega) fun h5 H5 F5 => ?_
      simp only [List.set_cons_zero, List.set_cons_succ] at H5
      exact hK _ h5 (by simp) (fun s2 => copk4 (by omega) (by omega) (by omega)) H5 ((((F1.trans F2).trans F3).trans F4).trans F5)
  · rw [if_neg (by simpa using g0)]
    have ho : off < 65536 := by omega
    by_cases g1 : (len : Int) > 64
    · simp only [SS, M_emitCopyNoRepeat.k16, M_emitCopyNoRepeat.k17, M_emitCopyNoRepeat.k18, M_emitCopyNoRepeat.k19, M_emitCopyNoRepeat.k20, M_emitCopyNoRepeat.res, M_emitCopyNoRepeat.r21, M_emitCopyNoRepeat.r22, M_emitCopyNoRepeat.r23, M_emitCopyNoRepeat.r24, M_emitCopyNoRepeat.r25, M_emitCopyNoRepeat.r26]
      rw [if_pos (by simpa using g1)]
      have ew : IntKind.wrap .i64 ((len : Int) - 60) = ((len - 60 : Nat) : Int) := by rw [w_i64 (by omega) (by omega)]; omega
      simp only [ew]
      obtain ⟨x0, x1, x2, hx⟩ := len3 (cut_len (M := M) (o := o) (k := 3) (by omega))
      rw [← putL_self (M := M) (o := o) (k := 3) (by omega), hx] at HB
      simp only [w_u8_div, w_u8_nat]
      refine putS (j := 2) (i := 2) HB (by simp; omega) (by simp) rfl (by omega) fun h1 H1 F1 => ?_
      refine putS (j := 1) (i := 1) H1 (by simp; omega) (by simp) rfl (by omega) fun h2 H2 F2 => ?_
      refine putS (j := 0) (i := 0) H2 (by simp; omega) (by simp) rfl (by omega) fun h3 H3 F3 => ?_
      simp only [List.set_cons_zero, List.set_cons_succ] at H3
      refine ⟨by omega, by omega, ?_⟩
      rw [show Int.toNat (3 : Int) = 3 from rfl, subP_at (by omega)]
      refine ih (len - 60) (by omega) H3 (by rw [putL_len (by simp; omega)]; omega) (by omega) (by omega) (by omega) (by omega) (by omega) fun enc h6 q1 q2 q3 q4 => ?_
      have ep := putL_putL (M := M) (o := o) (L1 := [238, ((off % 256 : Nat) : Int), ((off / 2 ^ 8 % 256 : Nat) : Int)]) (L2 := enc) (by simp; omega)
      have ec : IntKind.wrap .i64 (3 + (enc.length : Int)) = (([238, ((off % 256 : Nat) : Int), ((off / 2 ^ 8 % 256 : Nat) : Int)] ++ enc).length : Nat) := by
        rw [w_i64 (by omega) (by omega)]; simp; omega
      rw [ec]
      refine hK _ h6 (by simp; omega) ?_ (by rw [← ep]; exact q3) (((F1.trans F2).trans F3).trans q4)
      intro s2
      have := (copk2 (s2 := s2) (o := off) (n := 60) ho (by omega) (by omega)).app (q2 s2).rep
      rwa [show 60 + (len - 60) = len by omega] at this
    · simp only [SS, M_emitCopyNoRepeat.k16, M_emitCopyNoRepeat.k21, M_emitCopyNoRepeat.k22, M_emitCopyNoRepeat.k23, M_emitCopyNoRepeat.k24, M_emitCopyNoRepeat.k25, M_emitCopyNoRepeat.k26, M_emitCopyNoRepeat.res, M_emitCopyNoRepeat.r21, M_emitCopyNoRepeat.r27, M_emitCopyNoRepeat.r28, M_emitCopyNoRepeat.r29, M_emitCopyNoRepeat.r30, M_emitCopyNoRepeat.r31, M_emitCopyNoRepeat.r32, M_emitCopyNoRepeat.r33, M_emitCopyNoRepeat.r34]
      rw [if_neg (by simpa using g1)]
      have fin2 : ∀ h3 enc, enc.length ≤ 5 → (∀ s2, CopS s2 enc off len) → Blk h3 db ((putL M o enc).map (Value.int .u8)) 5 → Fr (· = db) h h3 → K enc.length h3 := fun h3 enc q1 q2 q3 q4 => hK enc h3 (by omega) (fun s2 => q2 _) q3 q4
      by_cases g : len ≥ 12 ∨ off ≥ 2048
      · have p : 0 ≤ (2 : Int) ∧ (2 : Int) < ((n : Nat) : Int) ∧ ptrE (some (⟨db, o, none⟩ : Addr)) fun a1 => st1 (Addr.add (Addr.add a1 (Int.toNat (2 : Int) * 1)) 0) (.int .u8 (IntKind.wrap .u8 (Int.fdiv (off : Int) (2 ^ 8)))) h fun h2 =>
            0 ≤ (1 : Int) ∧ (1 : Int) < ((n : Nat) : Int) ∧ ptrE (some (⟨db, o, none⟩ : Addr)) fun a1 => st1 (Addr.add (Addr.add a1 (Int.toNat (1 : Int) * 1)) 0) (.int .u8 (IntKind.wrap .u8 (off : Int))) h2 fun h2 =>
            0 ≤ (0 : Int) ∧ (0 : Int) < ((n : Nat) : Int) ∧ ptrE (some (⟨db, o, none⟩ : Addr)) fun a1 => st1 (Addr.add (Addr.add a1 (Int.toNat (0 : Int) * 1)) 0) (.int .u8 (bOr .u8 (IntKind.wrap .u8 (IntKind.wrap .u8 (IntKind.wrap .i64 ((len : Int) - 1)) * 2 ^ 2)) 2)) h2 fun h2 => K 3 h2 := by
          obtain ⟨x0, x1, x2, hx⟩ := len3 (cut_len (M := M) (o := o) (k := 3) (by omega))
          rw [← putL_self (M := M) (o := o) (k := 3) (by omega), hx] at HB
          rw [(tag2 (by omega) (by omega)).1, w_u8_div, w_u8_nat]
          refine putS (j := 2) (i := 2) HB (by simp; omega) (by simp) rfl (by omega) fun h1 H1 F1 => ?_
          refine putS (j := 1) (i := 1) H1 (by simp; omega) (by simp) rfl (by omega) fun h2 H2 F2 => ?_
          refine putS (j := 0) (i := 0) H2 (by simp; omega) (by simp) rfl (by omega) fun h3 H3 F3 => ?_
          simp only [List.set_cons_zero, List.set_cons_succ] at H3
          exact fin2 h3 _ (by simp) (fun s2 => copk2 ho (by omega) (by omega)) H3 ((F1.trans F2).trans F3)
        by_cases g2 : (len : Int) ≥ 12
        · rw [if_neg (by simpa using g2), if_pos trivial]; exact p
        · rw [if_pos (by simpa using g2), if_pos (by simp; omega)]; exact p
      · rw [if_pos (by simp; omega), if_neg (by simp; omega)]
        obtain ⟨x0, x1, hx⟩ := len2 (cut_len (M := M) (o := o) (k := 2) (by omega))
        rw [← putL_self (M := M) (o := o) (k := 2) (by omega), hx] at HB
        rw [tag1' (by omega) hlen (by omega), w_u8_nat]
        refine putS (j := 1) (i := 1) HB (by simp; omega) (by simp) rfl (by omega) fun h1 H1 F1 => ?_
        refine putS (j := 0) (i := 0) H1 (by simp; omega) (by simp) rfl (by omega) fun h2 H2 F2 => ?_
        simp only [List.set_cons_zero, List.set_cons_succ] at H2
        exact fin2 h2 _ (by simp) (fun s2 => cop1 (by omega) hlen (by omega)) H2 (F1.trans F2)
end
end Go.Proofs.YtibleenkgmkpmaaDoor

set_option linter.unusedSimpArgs false
set_option linter.unusedVariables false
set_option linter.unusedSectionVars false
namespace Go.Proofs.YtibleenkgmkpmaaDoor
open Go Go.Vc Go.Ml Go.S2

/-- Bytes that are a literal. -/
def LitS (s2 : Bool) (enc dl : List Int) : Prop := ∀ (out : List Int) (last : Nat), SeqG s2 enc out last (out ++ dl) last

theorem copyL {h : Heap} {db o m n' : Nat} {M L dl : List Int} {s : Sl} {K : Int → Heap → Prop} (HB : Blk h db ((putL M o L).map (Value.int .u8)) 5) (hM : o + L.length + dl.length ≤ M.length) (hS : SlI h .u8 s dl) (hm : s.n = m) (hn : m ≤ n')
    (hK : ∀ h', Blk h' db ((putL M o (L ++ dl)).map (Value.int .u8)) 5 → Fr (· = db) h h' → K m h') : copyT Pg 5 (some ⟨db, o + L.length, none⟩) n' (.slice s.p s.n s.c) m h K := by
  have hl := hS.len
  have e3 : min m n' = m := by omega
  refine copy_blk (k := .u8) HB ts5 (news := dl) (by omega) ?_ (by rw [List.length_map, putL_len (by omega)]; omega) fun h' HB' HF' => ?_
  · rw [e3]
    have := src_sl hS (m := m) (by omega) (n := s.n) (c := s.c)
    rwa [List.take_of_length_le (by omega)] at this
  rw [e3]
  refine hK h' ?_ HF'
  rw [e3, ← List.map_take, ← List.map_drop, ← List.map_append, ← List.map_append] at HB'
  rw [← putL_putL (by omega)]
  unfold putL at HB' ⊢
  rwa [show m = dl.length by omega] at HB'

theorem or_u8_0 {x : Nat} (hx : x < 256) : bOr .u8 (x : Int) 0 = (x : Int) := by
  have := or_u8 (x := x) (y := 0) hx (by decide)
  simpa using this

section
variable {h : Heap} {db o n c : Nat} {M dl : List Int} {s : Sl} {K : Int → Heap → Prop}

set_option maxRecDepth 1000000 in
set_option maxHeartbeats 1000000 in
theorem emitLiteral (HB : Blk h db (M.map (Value.int .u8)) 5) (hon : o + n ≤ M.length) (hc : n ≤ c) (hn : dl.length + 6 ≤ n) (hS : SlI h .u8 s dl) (hne : ∀ a, 0 < s.n → s.p = some a → a.block ≠ db) (hb : Bts dl) (hdl : dl.length < 2 ^ 24)
    (hK : ∀ enc h', enc.length ≤ dl.length + 5 → (∀ s2, LitS s2 enc dl) → Bts enc → Blk h' db ((putL M o enc).map (Value.int .u8)) 5 → Fr (· = db) h h' → K enc.length h') : c_emitLiteral ⟨some ⟨db, o, none⟩, n, c⟩ s h K := by
  have hl := hS.len
  apply M_emitLiteral.calls
  simp only [SS, M_emitLiteral.stm, M_emitLiteral.k0, M_emitLiteral.k1, M_emitLiteral.k2, M_emitLiteral.init, M_emitLiteral.res, M_emitLiteral.r0, M_emitLiteral.r1, M_emitLiteral.r2, M_emitLiteral.r3, M_emitLiteral.r10, M_emitLiteral.r11, M_emitLiteral.r12, M_emitLiteral.r28]
  by_cases h0 : dl.length = 0
  · rw [if_pos (by simp; omega)]
    have : dl = [] := List.length_eq_zero_iff.1 h0
    subst this
    refine hK [] h (by simp) (fun s2 out last => by rw [List.append_nil]; exact SeqG.nil) (fun x hx => by cases hx) ?_ (Fr.refl _ _)
    simpa [putL] using HB
  rw [if_neg (by simp; omega)]
  obtain ⟨m, hm⟩ : ∃ m, dl.length = m + 1 := ⟨dl.length - 1, by omega⟩
  have en : IntKind.wrap .u64 (IntKind.wrap .i64 ((s.n : Int) - 1)) = (m : Nat) := by
    rw [w_i64 (x := (s.n : Int) - 1) (by omega) (by omega), w_u64 (by omega) (by omega)]; omega
  simp only [en]
  -- the bytes, behind a head
  have tail : ∀ (L : List Int) (i : Nat) (h1 : Heap), L.length = i → i ≤ 5 → Blk h1 db ((putL M o L).map (Value.int .u8)) 5 → Fr (· = db) h h1 → Bts L → (∀ s2 out last, ElemG s2 (L ++ dl) out last (out ++ dl) last) →
      0 ≤ (i : Int) ∧ (i : Int) ≤ ((n : Nat) : Int) ∧ copyT Pg 5 (subP (some ⟨db, o, none⟩) (Int.toNat (i : Int)) c 1) (n - Int.toNat (i : Int)) (.slice s.p s.n s.c) s.n h1 fun n1 h2 => K (IntKind.wrap .i64 ((i : Int) + n1)) h2 := by
    intro L i h1 hL hi HB1 F1 hbL hel
    subst hL
    refine ⟨by omega, by omega, ?_⟩
    rw [Int.toNat_natCast, subP_at (by omega)]
    refine copyL HB1 (by omega) (SlI.fr hS F1 (fun a h1 h2 => hne a h1 h2)) rfl (by omega) fun h2 HB2 F2 => ?_
    have ec : IntKind.wrap .i64 ((L.length : Int) + (s.n : Nat)) = ((L ++ dl).length : Nat) := by rw [w_i64 (by omega) (by omega)]; simp; omega
    rw [ec]
    exact hK _ h2 (by simp; omega) (fun s2 out last => (hel s2 out last).seq) (hbL.app hb) HB2 (F1.trans F2)
  simp only [SS, M_emitLiteral.k2, M_emitLiteral.k3, M_emitLiteral.k4, M_emitLiteral.k5, M_emitLiteral.k6, M_emitLiteral.k7, M_emitLiteral.k8, M_emitLiteral.k9, M_emitLiteral.k10, M_emitLiteral.k11, M_emitLiteral.k12, M_emitLiteral.k13, M_emitLiteral.k14, M_emitLiteral.k15, M_emitLiteral.res, M_emitLiteral.r10, M_emitLiteral.r11, M_emitLiteral.r12, M_emitLiteral.r28, M_emitLiteral.r13, M_emitLiteral.r14, M_emitLiteral.r15, M_emitLiteral.r16, M_emitLiteral.r17, M_emitLiteral.r18, M_emitLiteral.r19, M_emitLiteral.r20, M_emitLiteral.r21, M_emitLiteral.r22, M_emitLiteral.r23, M_emitLiteral.r24, M_emitLiteral.r25, M_emitLiteral.r26, M_emitLiteral.r27, M_emitLiteral.r4, M_emitLiteral.r5, M_emitLiteral.r6, M_emitLiteral.r7, M_emitLiteral.r8, M_emitLiteral.r9, en]
  by_cases g60 : m < 60
  · rw [if_pos (by simp; omega)]
    have hx : ∃ x0, (M.drop o).take 1 = [x0] := List.length_eq_one_iff.1 (cut_len (M := M) (o := o) (k := 1) (by omega))
    obtain ⟨x0, hx⟩ := hx
    rw [← putL_self (M := M) (o := o) (k := 1) (by omega), hx] at HB
    have ev : bOr .u8 (IntKind.wrap .u8 (IntKind.wrap .u8 (m : Int) * 2 ^ 2)) 0 = ((m * 4 : Nat) : Int) := by
      rw [w_u8 (x := (m : Int)) (by omega) (by omega), w_u8 (by omega) (by omega)]
      have e2 : (m : Int) * 2 ^ 2 = ((m * 4 : Nat) : Int) := by omega
      rw [e2]
      exact or_u8_0 (by omega)
    rw [ev]
    refine putS (j := 0) (i := 0) HB (by simp; omega) (by simp) rfl (by omega) fun h1 H1 F1 => ?_
    simp only [List.set_cons_zero] at H1
    exact tail _ 1 h1 rfl (by omega) H1 F1 (bts_cons (by omega) (fun x hx => by cases hx)) (fun s2 out last => elem_lit0 g60 hm)
  rw [if_neg (by simp; omega)]
  have ek : ∀ k, 0 < k → k ≤ 4 → m < 256 ^ k → ∀ s2 out last, ElemG s2 (((((59 + k) * 4 : Nat) : Int) :: leB k m) ++ dl) out last (out ++ dl) last := fun k h1 h2 h3 s2 out last => elem_litk h1 h2 h3 hm
  have bk : ∀ k, k ≤ 4 → Bts ((((59 + k) * 4 : Nat) : Int) :: leB k m) := fun k h => bts_cons (by omega) (leB_bts _ _)
  by_cases g1 : m < 256
  · rw [if_pos (by simp; omega)]
    obtain ⟨x0, x1, hx⟩ := len2 (cut_len (M := M) (o := o) (k := 2) (by omega))
    rw [← putL_self (M := M) (o := o) (k := 2) (by omega), hx] at HB
    rw [w_u8_nat]
    refine putS (j := 1) (i := 1) HB (by simp; omega) (by simp) rfl (by omega) fun h1 H1 F1 => ?_
    refine putS (j := 0) (i := 0) H1 (by simp; omega) (by simp) rfl (by omega) fun h2 H2 F2 => ?_
    simp only [List.set_cons_zero, List.set_cons_succ] at H2
    have eB : [240, ((m % 256 : Nat) : Int)] = (((59 + 1) * 4 : Nat) : Int) :: leB 1 m := by simp [leB]
    rw [eB] at H2
    exact tail _ 2 h2 (by simp [leB_len]) (by omega) H2 (F1.trans F2) (bk 1 (by omega)) (ek 1 (by omega) (by omega) (by omega))
  rw [if_neg (by simp; omega)]
  by_cases g2 : m < 65536
  · rw [if_pos (by simp; omega)]
    obtain ⟨x0, x1, x2, hx⟩ := len3 (cut_len (M := M) (o := o) (k := 3) (by omega))
    rw [← putL_self (M := M) (o := o) (k := 3) (by omega), hx] at HB
    simp only [w_u8_div, w_u8_nat]
    refine putS (j := 2) (i := 2) HB (by simp; omega) (by simp) rfl (by omega) fun h1 H1 F1 => ?_
    refine putS (j := 1) (i := 1) H1 (by simp; omega) (by simp) rfl (by omega) fun h2 H2 F2 => ?_
    refine putS (j := 0) (i := 0) H2 (by simp; omega) (by simp) rfl (by omega) fun h3 H3 F3 => ?_
    simp only [List.set_cons_zero, List.set_cons_succ] at H3
    have eB : [244, ((m % 256 : Nat) : Int), ((m / 2 ^ 8 % 256 : Nat) : Int)] = (((59 + 2) * 4 : Nat) : Int) :: leB 2 m := by simp [leB]
    rw [eB] at H3
    exact tail _ 3 h3 (by simp [leB_len]) (by omega) H3 ((F1.trans F2).trans F3) (bk 2 (by omega)) (ek 2 (by omega) (by omega) (by omega))
  rw [if_neg (by simp; omega)]
  rw [if_pos (by simp; omega)]
  obtain ⟨x0, x1, x2, x3, hx⟩ := len4 (cut_len (M := M) (o := o) (k := 4) (by omega))
  rw [← putL_self (M := M) (o := o) (k := 4) (by omega), hx] at HB
  simp only [w_u8_div, w_u8_nat]
  refine putS (j := 3) (i := 3) HB (by simp; omega) (by simp) rfl (by omega) fun h1 H1 F1 => ?_
  refine putS (j := 2) (i := 2) H1 (by simp; omega) (by simp) rfl (by omega) fun h2 H2 F2 => ?_
  refine putS (j := 1) (i := 1) H2 (by simp; omega) (by simp) rfl (by omega) fun h3 H3 F3 => ?_
  refine putS (j := 0) (i := 0) H3 (by simp; omega) (by simp) rfl (by omega) fun h4 H4 F4 => ?_
  simp only [List.set_cons_zero, List.set_cons_succ] at H4
  have eB : [248, ((m % 256 : Nat) : Int), ((m / 2 ^ 8 % 256 : Nat) : Int), ((m / 2 ^ 16 % 256 : Nat) : Int)] = (((59 + 3) * 4 : Nat) : Int) :: leB 3 m := by simp [leB, Nat.div_div_eq_div_mul]
  rw [eB] at H4
  exact tail _ 4 h4 (by simp [leB_len]) (by omega) H4 (((F1.trans F2).trans F3).trans F4) (bk 3 (by omega)) (ek 3 (by omega) (by omega) (by omega))
end
end Go.Proofs.YtibleenkgmkpmaaDoor

set_option linter.unusedSimpArgs false
set_option linter.unusedVariables false
set_option linter.unusedSectionVars false
namespace Go.Proofs.YtibleenkgmkpmaaDoor
open Go Go.Vc Go.Ml Go.S2

theorem uvarint {h : Heap} {n : Nat} (hn : n < 2 ^ 32) {K : Sl → Heap → Prop} (hK : ∀ s h', Own h.size h' .u8 5 s (varB 10 n) → Old h h' → K s h') : c_laws_uvarint n h K := by
  apply M_laws_uvarint.calls
  simp only [SS, M_laws_uvarint.stm, M_laws_uvarint.k0, M_laws_uvarint.k1, M_laws_uvarint.init, M_laws_uvarint.r0, M_laws_uvarint.r1, M_laws_uvarint.r5]
  refine loop_rule (I := fun s' h' => ∃ (m f : Nat) (pre : List Int), s'.x_n = m ∧ pre ++ varB (f + 1) m = varB 10 n ∧ m < 2 ^ 32 ∧ m < 2 ^ (7 * (f + 1)) ∧ pre.length + f + 1 ≤ 10 ∧ Own h.size h' .u8 5 s'.x_out pre ∧ Keep h.size h h') (μ := fun s' _ => s'.x_n.toNat) ?_ ?_
  · exact ⟨n, 9, [], rfl, rfl, hn, by simp only [Nat.reduceAdd, Nat.reduceMul]; omega, by simp, Own.nil _ _ _ _, Keep.refl _ _⟩
  · rintro s' h' ⟨m, f, pre, e1, e2, hm, hm7, hf, HO, HK⟩
    have hsz := HK.size
    have hl := HO.len
    simp only [SS, M_laws_uvarint.k2, M_laws_uvarint.k3, M_laws_uvarint.r2, M_laws_uvarint.r3, M_laws_uvarint.r4, e1]
    by_cases hc : (m : Int) ≥ 128
    · rw [if_pos (by simpa using hc)]
      have hor : bOr .u8 (IntKind.wrap .u8 (m : Int)) 128 = ((m % 128 + 128 : Nat) : Int) := by
        rw [w_u8_nat]
        have : bOr .u8 ((m % 256 : Nat) : Int) 128 = ((m % 256 ||| 128 : Nat) : Int) := or_nat (k := .u8) rfl (by show m % 256 < 256; omega) (by decide)
        rw [this]
        have hd : ∀ x, x < 256 → x ||| 128 = x % 128 + 128 := by decide +kernel
        rw [hd _ (by omega)]
        congr 2
        omega
      rw [withH_eq, hor]
      refine app1 HO (by omega) hsz fun p' c' h2 HO2 HK2 => ?_
      rw [fdiv_nat]
      have f0 : 0 < f := by
        rcases Nat.eq_zero_or_pos f with h | h
        · rw [h] at hm7; simp at hm7; omega
        · exact h
      obtain ⟨g, rfl⟩ : ∃ g, f = g + 1 := ⟨f - 1, by omega⟩
      refine ⟨⟨m / 2 ^ 7, g, pre ++ [((m % 128 + 128 : Nat) : Int)], rfl, ?_, by omega, ?_, by simp; omega, HO2, HK.trans HK2⟩, by omega⟩
      · rw [← e2]
        conv => rhs; rw [varB, if_neg (by omega)]
        simp
      · have e8 : 7 * (g + 1 + 1) = 7 * (g + 1) + 7 := by omega
        rw [e8, Nat.pow_add] at hm7
        omega
    · rw [if_neg (by simpa using hc)]
      simp only [SS, M_laws_uvarint.k1, M_laws_uvarint.res, M_laws_uvarint.r5, e1]
      rw [withH_eq, w_u8_nat, Nat.mod_eq_of_lt (by omega)]
      refine app1 HO (by omega) hsz fun p' c' h2 HO2 HK2 => ?_
      rw [varB, if_pos (by omega)] at e2
      rw [e2] at HO2
      exact hK _ _ HO2 (Keep.old (HK.trans HK2))


theorem sl_putL {h : Heap} {db N c : Nat} {M enc : List Int} (HB : Blk h db ((putL M 0 enc).map (Value.int .u8)) 5) (hN : enc.length ≤ c) : SlI h .u8 ⟨some ⟨db, 0, none⟩, enc.length, c⟩ enc := by
  refine ⟨rfl, hN, fun _ => ⟨db, 0, rfl, fun j hj => ?_⟩⟩
  have e : (putL M 0 enc)[j]? = some enc[j] := by
    unfold putL
    rw [List.take_zero, List.nil_append, List.getElem?_append_left hj, List.getElem?_eq_getElem hj]
  rw [Nat.zero_add, HB.cell, List.getElem?_map, e, List.getD_eq_getElem?_getD, List.getElem?_eq_getElem hj]; rfl

theorem SnappyDecode {S : Sl} {l : List Int} {h : Heap} (hS : SlI h .u8 S l) (hsB : ∀ a, 0 < S.n → S.p = some a → a.block < h.size) (hb : Byt l) (hl : l.length < 2 ^ 36) {K : Sl → Int → Heap → Prop}
    (hK : ∀ (sl : Sl) (r : Nat) (h' : Heap), r = (decd l false).2 → (r = 1 → SlI h' .u8 sl (decd l false).1) → Old h h' → K sl r h') : c_spec_SnappyDecode S h K := by
  apply M_spec_SnappyDecode.calls
  simp only [SS, M_spec_SnappyDecode.stm, M_spec_SnappyDecode.r0, M_spec_SnappyDecode.r1, M_spec_SnappyDecode.init, M_spec_SnappyDecode.res, withH_eq, ptrE_some, add_mk, Nat.zero_add, Nat.add_zero]
  have o1 := Old.new h [.slice none 0 0, .slice none 0 0, .int .i64 (0 : Int), .bool false] 65
  refine decoded (B := h.size) (hS.ext o1.ext) hsB hb hl o1.size (rest := fun j => [Value.slice none 0 0, .slice none 0 0, .int .i64 (0 : Int), .bool false][j]?) ⟨Nat.le_refl _, _, none, 0, 0, Blk.new _ _ _, rfl, rfl, rfl, rfl, fun _ _ _ => rfl, Own.nil _ _ _ _, fun b hb => by cases hb⟩ ?_
  intro sl r h' h1 h2 h3
  exact hK sl r h' h1 h2 (Keep.old ((Keep.of_old o1).trans h3))


theorem dlen_varB {n : Nat} (hn : n < 2 ^ 32) (t : List Int) : dlen (varB 10 n ++ t) = some (n, (varB 10 n).length) := by
  have hv := s2len_varB hn t
  rw [dlen_yes (by rw [hv]), hv]

theorem decd_of {s2 : Bool} {body out : List Int} {last : Nat} (H : GoesG s2 body out last) (hle : out.length ≤ 4194304) : decd (varB 10 out.length ++ body) s2 = (out, 1) := by
  rw [decd_def (s2len_varB (by omega) body), if_neg (by simp), if_neg (by omega), ← dec_drop (by simp), List.drop_append_of_le_length (Nat.le_refl _), List.drop_of_length_le (Nat.le_refl _), List.nil_append, H.done]
  rfl
end Go.Proofs.YtibleenkgmkpmaaDoor

set_option linter.unusedSimpArgs false
set_option linter.unusedVariables false
set_option linter.unusedSectionVars false
namespace Go.Proofs.YtibleenkgmkpmaaDoor
open Go Go.Vc Go.Ml Go.S2

theorem leN2 {l : List Int} (hb : Byt l) (h : 2 ≤ l.length) : ((leN (l.take 2) : Nat) : Int) = l.getD 0 0 + l.getD 1 0 * 2 ^ 8 := by
  match l, h with
  | a :: b :: r, _ =>
    have h0 := hb 0; have h1 := hb 1
    simp at h0 h1
    simp [leN]
    omega
theorem leN4 {l : List Int} (hb : Byt l) (h : 4 ≤ l.length) : ((leN (l.take 4) : Nat) : Int) = l.getD 0 0 + l.getD 1 0 * 2 ^ 8 + l.getD 2 0 * 2 ^ 16 + l.getD 3 0 * 2 ^ 24 := by
  match l, h with
  | a :: b :: c :: d :: r, _ =>
    have h0 := hb 0; have h1 := hb 1; have h2 := hb 2; have h3 := hb 3
    simp at h0 h1 h2 h3
    simp [leN]
    omega

theorem or4 {a b c d : Int} (ha : 0 ≤ a ∧ a ≤ 255) (hb : 0 ≤ b ∧ b ≤ 255) (hc : 0 ≤ c ∧ c ≤ 255) (hd : 0 ≤ d ∧ d ≤ 255) :
    bOr .u32 (bOr .u32 (bOr .u32 (IntKind.wrap .u32 a) (IntKind.wrap .u32 (IntKind.wrap .u32 b * 2 ^ 8))) (IntKind.wrap .u32 (IntKind.wrap .u32 c * 2 ^ 16))) (IntKind.wrap .u32 (IntKind.wrap .u32 d * 2 ^ 24)) =
      a + b * 2 ^ 8 + c * 2 ^ 16 + d * 2 ^ 24 := by
  have w : ∀ x : Int, 0 ≤ x ∧ x ≤ 255 → IntKind.wrap .u32 x = x := fun x h => w_u32 (by omega) (by omega)
  rw [w a ha, w b hb, w c hc, w d hd, w_u32 (x := b * 2 ^ 8) (by omega) (by omega), w_u32 (x := c * 2 ^ 16) (by omega) (by omega), w_u32 (x := d * 2 ^ 24) (by omega) (by omega)]
  have hB : (2 : Int) ^ IntKind.u32.bits = 4294967296 := by rfl
  rw [or_addI rfl 8 (by omega) (by omega) (by omega) (by rw [hB]; omega), or_addI rfl 16 (by omega) (by omega) (by omega) (by rw [hB]; omega), or_addI rfl 24 (by omega) (by omega) (by omega) (by rw [hB]; omega)]


theorem or2 {a b : Int} (ha : 0 ≤ a ∧ a ≤ 255) (hb : 0 ≤ b ∧ b ≤ 255) : bOr .u16 (IntKind.wrap .u16 a) (IntKind.wrap .u16 (IntKind.wrap .u16 b * 2 ^ 8)) = a + b * 2 ^ 8 := by
  rw [w_u16 (x := a) (by omega) (by omega), w_u16 (x := b) (by omega) (by omega), w_u16 (x := b * 2 ^ 8) (by omega) (by omega)]
  have hB : (2 : Int) ^ IntKind.u16.bits = 65536 := by rfl
  rw [or_addI rfl 8 (by omega) (by omega) (by omega) (by rw [hB]; omega)]

theorem le16 {s : Sl} {h : Heap} {l : List Int} (hs : SlI h .u8 s l) (hb : Byt l) (hn : 2 ≤ l.length) {K : Int → Heap → Prop} (hK : ∀ h', Old h h' → K (leN (l.take 2) : Nat) h') : c_littleEndian_Uint16 s h K := by
  have hl := hs.len
  apply M_littleEndian_Uint16.calls
  simp only [SS, M_littleEndian_Uint16.k0, M_littleEndian_Uint16.stm, M_littleEndian_Uint16.r0, M_littleEndian_Uint16.r1, M_littleEndian_Uint16.r2, M_littleEndian_Uint16.init, M_littleEndian_Uint16.res, withH_eq, ptrE_some, add_mk, Nat.zero_add, Nat.add_zero]
  have hO := Old.new h [] 126
  have hs' := hs.ext hO.ext
  iterate 3 refine hs'.ld (by omega) (by omega) ?_
  rw [or2 (hb _) (hb _)]
  have := hK _ hO
  rw [leN2 hb hn] at this
  exact this
theorem le32 {s : Sl} {h : Heap} {l : List Int} (hs : SlI h .u8 s l) (hb : Byt l) (hn : 4 ≤ l.length) {K : Int → Heap → Prop} (hK : ∀ h', Old h h' → K (leN (l.take 4) : Nat) h') : c_littleEndian_Uint32 s h K := by
  have hl := hs.len
  apply M_littleEndian_Uint32.calls
  simp only [SS, M_littleEndian_Uint32.k0, M_littleEndian_Uint32.stm, M_littleEndian_Uint32.r0, M_littleEndian_Uint32.r1, M_littleEndian_Uint32.r2, M_littleEndian_Uint32.init, M_littleEndian_Uint32.res, withH_eq, ptrE_some, add_mk, Nat.zero_add, Nat.add_zero]
  have hO := Old.new h [] 126
  have hs' := hs.ext hO.ext
  iterate 5 refine hs'.ld (by omega) (by omega) ?_
  rw [or4 (hb _) (hb _) (hb _) (hb _)]
  have := hK _ hO
  rw [leN4 hb hn] at this
  exact this

theorem load16 {s : Sl} {h : Heap} {l : List Int} (hs : SlI h .u8 s l) (hb : Byt l) {i : Nat} {a : Int} (ha : a = i) (hn : i + 2 ≤ l.length) {K : Int → Heap → Prop} (hK : ∀ h', Old h h' → K (leN ((l.drop i).take 2) : Nat) h') : c_Load16 s a h K := by
  subst ha
  have hl := hs.len
  apply M_Load16.calls
  simp only [SS, M_Load16.stm, M_Load16.r0, M_Load16.r1, M_Load16.init, M_Load16.res, withH_eq, ptrE_some, add_mk, Nat.zero_add, Nat.add_zero]
  refine ⟨by omega, by omega, ?_⟩
  rw [Int.toNat_natCast]
  exact le16 (hs.from (i := i) (by omega)) (hb.drop i) (by simp; omega) hK
theorem load32 {s : Sl} {h : Heap} {l : List Int} (hs : SlI h .u8 s l) (hb : Byt l) {i : Nat} {a : Int} (ha : a = i) (hn : i + 4 ≤ l.length) {K : Int → Heap → Prop} (hK : ∀ h', Old h h' → K (leN ((l.drop i).take 4) : Nat) h') : c_Load32 s a h K := by
  subst ha
  have hl := hs.len
  apply M_Load32.calls
  simp only [SS, M_Load32.stm, M_Load32.r0, M_Load32.r1, M_Load32.init, M_Load32.res, withH_eq, ptrE_some, add_mk, Nat.zero_add, Nat.add_zero]
  refine ⟨by omega, by omega, ?_⟩
  rw [Int.toNat_natCast]
  exact le32 (hs.from (i := i) (by omega)) (hb.drop i) (by simp; omega) hK
end Go.Proofs.YtibleenkgmkpmaaDoor

set_option linter.unusedSimpArgs false
set_option linter.unusedVariables false
set_option linter.unusedSectionVars false
namespace Go.Proofs.YtibleenkgmkpmaaDoor
open Go Go.Vc Go.Ml Go.S2

section
variable {h : Heap} {db o n c : Nat} {M dl : List Int} {s : Sl} {K : Int → Heap → Prop}

set_option maxRecDepth 1000000 in
set_option maxHeartbeats 1000000 in
theorem emitLiteralGo (HB : Blk h db (M.map (Value.int .u8)) 5) (hon : o + n ≤ M.length) (hc : n ≤ c) (hn : dl.length + 6 ≤ n) (hS : SlI h .u8 s dl) (hne : ∀ a, 0 < s.n → s.p = some a → a.block ≠ db) (hb : Bts dl) (hdl : dl.length < 2 ^ 24)
    (hK : ∀ enc h', enc.length ≤ dl.length + 5 → (∀ s2, LitS s2 enc dl) → Bts enc → Blk h' db ((putL M o enc).map (Value.int .u8)) 5 → Fr (· = db) h h' → K enc.length h') : c_emitLiteralGo ⟨some ⟨db, o, none⟩, n, c⟩ s h K := by
  have hl := hS.len
  apply M_emitLiteralGo.calls
  simp only [SS, M_emitLiteralGo.stm, M_emitLiteralGo.k0, M_emitLiteralGo.k1, M_emitLiteralGo.k2, M_emitLiteralGo.init, M_emitLiteralGo.res, M_emitLiteralGo.r0, M_emitLiteralGo.r1, M_emitLiteralGo.r2, M_emitLiteralGo.r3, M_emitLiteralGo.r10, M_emitLiteralGo.r11, M_emitLiteralGo.r12, M_emitLiteralGo.r28]
  by_cases h0 : dl.length = 0
  · rw [if_pos (by simp; omega)]
    have : dl = [] := List.length_eq_zero_iff.1 h0
    subst this
    refine hK [] h (by simp) (fun s2 out last => by rw [List.append_nil]; exact SeqG.nil) (fun x hx => by cases hx) ?_ (Fr.refl _ _)
    simpa [putL] using HB
  rw [if_neg (by simp; omega)]
  obtain ⟨m, hm⟩ : ∃ m, dl.length = m + 1 := ⟨dl.length - 1, by omega⟩
  have en : IntKind.wrap .u64 (IntKind.wrap .i64 ((s.n : Int) - 1)) = (m : Nat) := by
    rw [w_i64 (x := (s.n : Int) - 1) (by omega) (by omega), w_u64 (by omega) (by omega)]; omega
  simp only [en]
  -- the bytes, behind a head
  have tail : ∀ (L : List Int) (i : Nat) (h1 : Heap), L.length = i → i ≤ 5 → Blk h1 db ((putL M o L).map (Value.int .u8)) 5 → Fr (· = db) h h1 → Bts L → (∀ s2 out last, ElemG s2 (L ++ dl) out last (out ++ dl) last) →
      0 ≤ (i : Int) ∧ (i : Int) ≤ ((n : Nat) : Int) ∧ copyT Pg 5 (subP (some ⟨db, o, none⟩) (Int.toNat (i : Int)) c 1) (n - Int.toNat (i : Int)) (.slice s.p s.n s.c) s.n h1 fun n1 h2 => K (IntKind.wrap .i64 ((i : Int) + n1)) h2 := by
    intro L i h1 hL hi HB1 F1 hbL hel
    subst hL
    refine ⟨by omega, by omega, ?_⟩
    rw [Int.toNat_natCast, subP_at (by omega)]
    refine copyL HB1 (by omega) (SlI.fr hS F1 (fun a h1 h2 => hne a h1 h2)) rfl (by omega) fun h2 HB2 F2 => ?_
    have ec : IntKind.wrap .i64 ((L.length : Int) + (s.n : Nat)) = ((L ++ dl).length : Nat) := by rw [w_i64 (by omega) (by omega)]; simp; omega
    rw [ec]
    exact hK _ h2 (by simp; omega) (fun s2 out last => (hel s2 out last).seq) (hbL.app hb) HB2 (F1.trans F2)
  simp only [SS, M_emitLiteralGo.k2, M_emitLiteralGo.k3, M_emitLiteralGo.k4, M_emitLiteralGo.k5, M_emitLiteralGo.k6, M_emitLiteralGo.k7, M_emitLiteralGo.k8, M_emitLiteralGo.k9, M_emitLiteralGo.k10, M_emitLiteralGo.k11, M_emitLiteralGo.k12, M_emitLiteralGo.k13, M_emitLiteralGo.k14, M_emitLiteralGo.k15, M_emitLiteralGo.res, M_emitLiteralGo.r10, M_emitLiteralGo.r11, M_emitLiteralGo.r12, M_emitLiteralGo.r28, M_emitLiteralGo.r13, M_emitLiteralGo.r14, M_emitLiteralGo.r15, M_emitLiteralGo.r16, M_emitLiteralGo.r17, M_emitLiteralGo.r18, M_emitLiteralGo.r19, M_emitLiteralGo.r20, M_emitLiteralGo.r21, M_emitLiteralGo.r22, M_emitLiteralGo.r23, M_emitLiteralGo.r24, M_emitLiteralGo.r25, M_emitLiteralGo.r26, M_emitLiteralGo.r27, M_emitLiteralGo.r4, M_emitLiteralGo.r5, M_emitLiteralGo.r6, M_emitLiteralGo.r7, M_emitLiteralGo.r8, M_emitLiteralGo.r9, en]
  by_cases g60 : m < 60
  · rw [if_pos (by simp; omega)]
    have hx : ∃ x0, (M.drop o).take 1 = [x0] := List.length_eq_one_iff.1 (cut_len (M := M) (o := o) (k := 1) (by omega))
    obtain ⟨x0, hx⟩ := hx
    rw [← putL_self (M := M) (o := o) (k := 1) (by omega), hx] at HB
    have ev : bOr .u8 (IntKind.wrap .u8 (IntKind.wrap .u8 (m : Int) * 2 ^ 2)) 0 = ((m * 4 : Nat) : Int) := by
      rw [w_u8 (x := (m : Int)) (by omega) (by omega), w_u8 (by omega) (by omega)]
      have e2 : (m : Int) * 2 ^ 2 = ((m * 4 : Nat) : Int) := by omega
      rw [e2]
      exact or_u8_0 (by omega)
    rw [ev]
    refine putS (j := 0) (i := 0) HB (by simp; omega) (by simp) rfl (by omega) fun h1 H1 F1 => ?_
    simp only [List.set_cons_zero] at H1
    exact tail _ 1 h1 rfl (by omega) H1 F1 (bts_cons (by omega) (fun x hx => by cases hx)) (fun s2 out last => elem_lit0 g60 hm)
  rw [if_neg (by simp; omega)]
  have ek : ∀ k, 0 < k → k ≤ 4 → m < 256 ^ k → ∀ s2 out last, ElemG s2 (((((59 + k) * 4 : Nat) : Int) :: leB k m) ++ dl) out last (out ++ dl) last := fun k h1 h2 h3 s2 out last => elem_litk h1 h2 h3 hm
  have bk : ∀ k, k ≤ 4 → Bts ((((59 + k) * 4 : Nat) : Int) :: leB k m) := fun k h => bts_cons (by omega) (leB_bts _ _)
  by_cases g1 : m < 256
  · rw [if_pos (by simp; omega)]
    obtain ⟨x0, x1, hx⟩ := len2 (cut_len (M := M) (o := o) (k := 2) (by omega))
    rw [← putL_self (M := M) (o := o) (k := 2) (by omega), hx] at HB
    rw [w_u8_nat]
    refine putS (j := 1) (i := 1) HB (by simp; omega) (by simp) rfl (by omega) fun h1 H1 F1 => ?_
    refine putS (j := 0) (i := 0) H1 (by simp; omega) (by simp) rfl (by omega) fun h2 H2 F2 => ?_
    simp only [List.set_cons_zero, List.set_cons_succ] at H2
    have eB : [240, ((m % 256 : Nat) : Int)] = (((59 + 1) * 4 : Nat) : Int) :: leB 1 m := by simp [leB]
    rw [eB] at H2
    exact tail _ 2 h2 (by simp [leB_len]) (by omega) H2 (F1.trans F2) (bk 1 (by omega)) (ek 1 (by omega) (by omega) (by omega))
  rw [if_neg (by simp; omega)]
  by_cases g2 : m < 65536
  · rw [if_pos (by simp; omega)]
    obtain ⟨x0, x1, x2, hx⟩ := len3 (cut_len (M := M) (o := o) (k := 3) (by omega))
    rw [← putL_self (M := M) (o := o) (k := 3) (by omega), hx] at HB
    simp only [w_u8_div, w_u8_nat]
    refine putS (j := 2) (i := 2) HB (by simp; omega) (by simp) rfl (by omega) fun h1 H1 F1 => ?_
    refine putS (j := 1) (i := 1) H1 (by simp; omega) (by simp) rfl (by omega) fun h2 H2 F2 => ?_
    refine putS (j := 0) (i := 0) H2 (by simp; omega) (by simp) rfl (by omega) fun h3 H3 F3 => ?_
    simp only [List.set_cons_zero, List.set_cons_succ] at H3
    have eB : [244, ((m % 256 : Nat) : Int), ((m / 2 ^ 8 % 256 : Nat) : Int)] = (((59 + 2) * 4 : Nat) : Int) :: leB 2 m := by simp [leB]
    rw [eB] at H3
    exact tail _ 3 h3 (by simp [leB_len]) (by omega) H3 ((F1.trans F2).trans F3) (bk 2 (by omega)) (ek 2 (by omega) (by omega) (by omega))
  rw [if_neg (by simp; omega)]
  rw [if_pos (by simp; omega)]
  obtain ⟨x0, x1, x2, x3, hx⟩ := len4 (cut_len (M := M) (o := o) (k := 4) (by omega))
  rw [← putL_self (M := M) (o := o) (k := 4) (by omega), hx] at HB
  simp only [w_u8_div, w_u8_nat]
  refine putS (j := 3) (i := 3) HB (by simp; omega) (by simp) rfl (by omega) fun h1 H1 F1 => ?_
  refine putS (j := 2) (i := 2) H1 (by simp; omega) (by simp) rfl (by omega) fun h2 H2 F2 => ?_
  refine putS (j := 1) (i := 1) H2 (by simp; omega) (by simp) rfl (by omega) fun h3 H3 F3 => ?_
  refine putS (j := 0) (i := 0) H3 (by simp; omega) (by simp) rfl (by omega) fun h4 H4 F4 => ?_
  simp only [List.set_cons_zero, List.set_cons_succ] at H4
  have eB : [248, ((m % 256 : Nat) : Int), ((m / 2 ^ 8 % 256 : Nat) : Int), ((m / 2 ^ 16 % 256 : Nat) : Int)] = (((59 + 3) * 4 : Nat) : Int) :: leB 3 m := by simp [leB, Nat.div_div_eq_div_mul]
  rw [eB] at H4
  exact tail _ 4 h4 (by simp [leB_len]) (by omega) H4 (((F1.trans F2).trans F3).trans F4) (bk 3 (by omega)) (ek 3 (by omega) (by omega) (by omega))
end

theorem u8_and15 {x : Nat} (hx : x ≤ 255) : bAnd .u8 (x : Int) 15 = ((x % 16 : Nat) : Int) := by
  have := and_nat (k := .u8) (x := x) (y := 15) rfl (by show x < 256; omega) (by decide)
  rw [show x &&& 15 = x % 16 from Nat.and_two_pow_sub_one_eq_mod x 4] at this
  exact this

/-- Behind what was written: a place for more. -/
theorem putL_more {M0 body : List Int} {k : Nat} (h : body.length + k ≤ M0.length) : putL M0 0 body = putL M0 0 (body ++ (M0.drop body.length).take k) := by
  have e := putL_self (M := putL M0 0 body) (o := body.length) (k := k) (by rw [putL_len (by omega)]; omega)
  have e2 : (putL M0 0 body).drop body.length = M0.drop body.length := by
    unfold putL
    rw [List.take_zero, List.nil_append, Nat.zero_add, List.drop_append_of_le_length (Nat.le_refl _), List.drop_of_length_le (Nat.le_refl _), List.nil_append]
  rw [e2] at e
  conv => lhs; rw [← e]
  have := putL_putL (M := M0) (o := 0) (L1 := body) (L2 := (M0.drop body.length).take k) (by rw [cut_len h]; omega)
  rw [Nat.zero_add] at this
  exact this

/-- A byte, stored behind what was written. -/
theorem putB {h : Heap} {db N : Nat} {M0 body T : List Int} {j : Nat} {i : Int} {v : Int} {K : Heap → Prop} (HB : Blk h db ((putL M0 0 (body ++ T)).map (Value.int .u8)) 5) (hM : body.length + T.length ≤ M0.length) (hj : j < T.length) (hi : i = ((body.length + j : Nat) : Int)) (hn : body.length + T.length ≤ N)
    (hK : ∀ h', Blk h' db ((putL M0 0 (body ++ T.set j v)).map (Value.int .u8)) 5 → Fr (· = db) h h' → K h') :
    0 ≤ i ∧ i < ((N : Nat) : Int) ∧ ptrE (some (⟨db, 0, none⟩ : Addr)) fun a1 => st1 (Addr.add (Addr.add a1 (Int.toNat i * 1)) 0) (.int .u8 v) h K := by
  subst hi
  refine putS (i := body.length + j) (j := body.length + j) HB (by simp; omega) (by simp; omega) rfl (by omega) fun h' H' F' => hK h' ?_ F'
  rwa [List.set_append_right _ _ (by omega), Nat.add_sub_cancel_left] at H'

section
/-- Where the converter stands: what was read and what was written. -/
structure CvLcS (S : Sl) (N db : Nat) (h0 : Heap) (M0 : List Int) (body out : List Int) (last : Nat) (st : M_LcS.St) (h : Heap) : Prop where
  dst : st.x_dst = ⟨some ⟨db, 0, none⟩, N, N⟩
  src : st.x_src = S
  d : st.x_d = body.length
  u : st.x_uncompressed = out.length
  lim : st.x_dLimit = (N : Int) - 10
  blk : Blk h db ((putL M0 0 body).map (Value.int .u8)) 5
  goes : ∀ s2, GoesG s2 body out last
  bb : Bts body
  fr : Fr (· = db) h0 h

variable {S : Sl} {l : List Int} {N db : Nat} {h0 : Heap} {M0 : List Int} {body out : List Int} {last : Nat} {st : M_LcS.St} {h : Heap} {Q : Ex → M_LcS.St → Heap → Prop}

set_option maxRecDepth 1000000 in
/-- The token, and a length that goes on. -/
theorem headLcS {i m j : Nat} (C : CvLcS S N db h0 M0 body out last st h) (hS : SlI h0 .u8 S l) (hne : ∀ a, 0 < S.n → S.p = some a → a.block ≠ db) (hb : Bts l) (hl : l.length < 2 ^ 20) (hs : st.x_s = i) (hi : i < l.length) (hz : zlen l (i + 1) ((l.getD i 0).toNat / 16) ((l.getD i 0).toNat / 16) = some (m, j))
    (hK : ∀ st', CvLcS S N db h0 M0 body out last st' h → st'.x_s = (j : Int) - 1 → st'.x_ll = m → st'.x_ml = (((l.getD i 0).toNat % 16 + zleast false : Nat) : Int) → M_LcS.k24 st' h Q) : M_LcS.k14 st h Q := by
  have hsl := hS.len
  have hS' : SlI h .u8 S l := SlI.fr hS C.fr (fun a h1 h2 => hne a h1 h2)
  simp only [SS, M_LcS.k14, M_LcS.k15, M_LcS.k16, M_LcS.k17, M_LcS.r21, M_LcS.r22, M_LcS.r23, M_LcS.r24, C.src, hs]
  refine hS'.ldB (Byt.of_mem hb) (j := i) rfl hi fun v hv he hev => ?_
  rw [hev] at hz hK
  have e1 : IntKind.wrap .i64 (Int.fdiv (v : Int) (2 ^ 4)) = ((v / 16 : Nat) : Int) := by rw [fdiv_nat, w_i64 (by omega) (by omega)]
  have e2 : IntKind.wrap .i64 (IntKind.wrap .u8 ((4 : Int) + bAnd .u8 (v : Int) 15)) = ((v % 16 + zleast false : Nat) : Int) := by
    rw [u8_and15 hv, w_u8 (by omega) (by omega), w_i64 (by omega) (by omega), show zleast false = 4 from rfl]; omega
  simp only [e1, e2]
  by_cases h15 : v / 16 = 15
  · rw [if_pos (by simp; omega)]
    unfold zlen at hz
    rw [if_pos h15, h15] at hz
    rw [h15]
    refine loop_rule (I := fun s' h' => h' = h ∧ CvLcS S N db h0 M0 body out last s' h ∧ s'.x_ml = ((v % 16 + zleast false : Nat) : Int) ∧ ∃ p n : Nat, s'.x_s = p ∧ s'.x_ll = n ∧ p < l.length ∧ n ≤ 15 + 255 * p ∧ zmore l (p + 1) n = some (m, j)) (μ := fun s' _ => (l.length - s'.x_s).toNat) ?_ ?_
    · exact ⟨rfl, ⟨C.dst, rfl, C.d, C.u, C.lim, C.blk, C.goes, C.bb, C.fr⟩, rfl, i, 15, rfl, rfl, hi, by omega, hz⟩
    · rintro s' h' ⟨rfl, C', e3, p, n, e4, e5, hp, hn, hm⟩
      simp only [SS, M_LcS.k19, M_LcS.k20, M_LcS.k21, M_LcS.k22, M_LcS.k23, M_LcS.r25, M_LcS.r26, M_LcS.r28, M_LcS.r29, M_LcS.r30, C'.src, e4, e5]
      have hp1 : p + 1 < l.length := by
        rcases Nat.lt_or_ge (p + 1) l.length with h | h
        · exact h
        · rw [zmore_end h] at hm; cases hm
      have ep : IntKind.wrap .i64 ((p : Int) + 1) = ((p + 1 : Nat) : Int) := by rw [w_i64 (by omega) (by omega)]; omega
      rw [ep, if_neg (by simp; omega)]
      rw [zmore_step hp1] at hm
      refine hS'.ldB (Byt.of_mem hb) (j := p + 1) rfl hp1 fun w hw hwe hwev => ?_
      rw [hwev] at hm
      have en : IntKind.wrap .i64 ((n : Int) + IntKind.wrap .i64 (w : Int)) = ((n + w : Nat) : Int) := by rw [w_i64 (x := (w : Int)) (by omega) (by omega), w_i64 (by omega) (by omega)]; omega
      rw [en]
      by_cases h255 : w < 255
      · rw [if_pos (by simp; omega)]
        rw [if_pos h255] at hm
        simp only [Option.some.injEq, Prod.mk.injEq] at hm
        obtain ⟨rfl, rfl⟩ := hm
        exact hK _ ⟨C'.dst, rfl, C'.d, C'.u, C'.lim, C'.blk, C'.goes, C'.bb, C'.fr⟩ (by simp only; omega) rfl e3
      · rw [if_neg (by simp; omega)]
        rw [if_neg h255] at hm
        exact ⟨⟨trivial, ⟨C'.dst, rfl, C'.d, C'.u, C'.lim, C'.blk, C'.goes, C'.bb, C'.fr⟩, e3, p + 1, n + w, rfl, rfl, hp1, by omega, hm⟩, by omega⟩
  · rw [if_neg (by simp; omega)]
    unfold zlen at hz
    rw [if_neg h15] at hz
    simp only [Option.some.injEq, Prod.mk.injEq] at hz
    obtain ⟨rfl, rfl⟩ := hz
    exact hK _ ⟨C.dst, rfl, C.d, C.u, C.lim, C.blk, C.goes, C.bb, C.fr⟩ (by simp only; omega) rfl rfl

set_option maxRecDepth 1000000 in
/-- The literals. -/
theorem litLcS {m j : Nat} {ml : Int} (C : CvLcS S N db h0 M0 body out last st h) (hS : SlI h0 .u8 S l) (hne : ∀ a, 0 < S.n → S.p = some a → a.block ≠ db) (hb : Bts l) (hl : l.length < 2 ^ 20) (hN : N = 16 * l.length + 64) (hM : M0.length = N) (hs : st.x_s = (j : Int) - 1) (hll : st.x_ll = m) (hml : st.x_ml = ml) (h1 : 1 ≤ j) (hjm : j + m ≤ l.length) (hroom : body.length + 16 ≤ 16 * j) (hol : out.length < 2 ^ 24)
    (hK : ∀ st' h' body', CvLcS S N db h0 M0 body' (out ++ (l.drop j).take m) last st' h' → st'.x_s = ((j + m : Nat) : Int) → st'.x_ml = ml → body'.length ≤ body.length + m + 5 → M_LcS.k29 st' h' Q) : M_LcS.k24 st h Q := by
  have hsl := hS.len
  have hcap := hS.2.1
  have hS' : SlI h .u8 S l := SlI.fr hS C.fr (fun a h1 h2 => hne a h1 h2)
  simp only [SS, M_LcS.k24, M_LcS.k25, M_LcS.k26, M_LcS.r31, M_LcS.r33, M_LcS.r34, C.src, hs, hll]
  have e0 : IntKind.wrap .i64 ((j : Int) - 1 + m) = (j : Int) - 1 + m := w_i64 (by omega) (by omega)
  have e1 : IntKind.wrap .i64 ((j : Int) - 1 + 1) = (j : Nat) := by rw [w_i64 (by omega) (by omega)]; omega
  rw [e0, e1, if_neg (by simp; omega)]
  by_cases h0' : m = 0
  · subst h0'
    rw [if_neg (by simp)]
    refine hK _ h body ?_ ?_ ?_ (by omega)
    rotate_left
    · simp only; omega
    · exact hml
    rw [List.take_zero, List.append_nil]
    exact ⟨C.dst, rfl, C.d, C.u, C.lim, C.blk, C.goes, C.bb, C.fr⟩
  rw [if_pos (by simp; omega)]
  simp only [SS, M_LcS.k27, M_LcS.k28, M_LcS.r35, M_LcS.r37, M_LcS.r38, M_LcS.r39, C.src, C.dst, C.d, C.lim, C.u, hll]
  have e2 : IntKind.wrap .i64 ((body.length : Int) + m) = (body.length : Int) + m := w_i64 (by omega) (by omega)
  have e3 : IntKind.wrap .i64 ((j : Int) + m) = ((j + m : Nat) : Int) := by rw [w_i64 (by omega) (by omega)]; omega
  rw [e2, if_neg (by simp; omega)]
  simp only [e3]
  refine ⟨by omega, by omega, by omega, by omega, by omega, by omega, ?_⟩
  rw [Int.toNat_natCast, Int.toNat_natCast, Int.toNat_natCast, subP_at (by omega), Nat.zero_add, show j + m - j = m by omega]
  have hsub := hS'.sub (lo := j) (hi := j + m) (by omega) (by omega)
  rw [List.drop_take, show j + m - j = m by omega] at hsub
  have hdl : ((l.drop j).take m).length = m := by simp; omega
  refine emitLiteralGo (M := putL M0 0 body) C.blk (by rw [putL_len (by omega)]; omega) (Nat.le_refl _) (by omega) hsub ?_ (hb.sub _ _) (by omega) fun enc h2 q1 q2 q3 q4 q5 => ?_
  · intro a h3 ha
    unfold subP at ha
    cases hp : S.p with
    | none => rw [hp] at ha; split at ha <;> cases ha
    | some a0 =>
      have := hne a0 (by omega) hp
      rw [hp] at ha
      have hbl : a.block = a0.block := by
        split at ha
        · obtain rfl := Option.some.inj ha; rfl
        · obtain rfl := Option.some.inj ha
          unfold Addr.add; split <;> rfl
      omega
  have ep := putL_putL (M := M0) (o := 0) (L1 := body) (L2 := enc) (by omega)
  rw [Nat.zero_add] at ep
  rw [ep] at q4
  have ed : IntKind.wrap .i64 ((body.length : Int) + (enc.length : Nat)) = ((body ++ enc).length : Nat) := by rw [w_i64 (by omega) (by omega)]; simp
  have eu : IntKind.wrap .i64 ((out.length : Int) + m) = ((out ++ (l.drop j).take m).length : Nat) := by rw [w_i64 (by omega) (by omega)]; simp; omega
  refine hK _ h2 (body ++ enc) ⟨rfl, rfl, ed, eu, rfl, q4, ?_, C.bb.app q3, C.fr.trans q5⟩ rfl hml (by simp; omega)
  exact fun s2 => (C.goes s2).seq (q2 s2 out last) (by simp)

set_option maxRecDepth 1000000 in
/-- The offset, and a match's length that goes on. -/
theorem offLcS {i t off n k : Nat} (C : CvLcS S N db h0 M0 body out last st h) (hS : SlI h0 .u8 S l) (hne : ∀ a, 0 < S.n → S.p = some a → a.block ≠ db) (hb : Bts l) (hl : l.length < 2 ^ 20) (hs : st.x_s = i) (hml : st.x_ml = ((t + zleast false : Nat) : Int)) (ht : t ≤ 15) (hmd : ¬ (false = true ∧ t = 0))
    (ho : leAt l i 2 = some off) (ho0 : 0 < off) (hoo : off ≤ out.length) (hol : out.length < 2 ^ 24) (hz : zlen l (i + 2) t (t + zleast false) = some (n, k)) (hk : k < l.length)
    (hK : ∀ st' h', CvLcS S N db h0 M0 body out last st' h' → st'.x_s = k → st'.x_ml = n → st'.x_offset = off → M_LcS.k43 st' h' Q) : M_LcS.k29 st h Q := by
  have hsl := hS.len
  have hcap := hS.2.1
  have hS' : SlI h .u8 S l := SlI.fr hS C.fr (fun a h1 h2 => hne a h1 h2)
  have hi2 := leAt_le ho
  have hzl := zlen_le hb hz hi2
  simp only [SS, M_LcS.k29, M_LcS.r40, C.src, hs, hml]
  rw [if_neg (by simp; omega), if_neg (by simp)]
  simp only [SS, M_LcS.k30, M_LcS.k31, M_LcS.r41, M_LcS.r43, C.src, hs]
  have e0 : IntKind.wrap .i64 (((S.n : Nat) : Int) - 2) = ((l.length - 2 : Nat) : Int) := by rw [w_i64 (by omega) (by omega)]; omega
  rw [e0, if_neg (by simp; omega)]
  refine ⟨by omega, by omega, ?_⟩
  rw [Int.toNat_natCast]
  have hfr := hS'.from (i := i) (by omega)
  have hoff : leN ((l.drop i).take 2) = off := by
    unfold leAt at ho
    rw [if_pos hi2] at ho
    exact Option.some.inj ho
  have hoff2 := leAt_lt4 hb (by omega) ho
  have hoff3 : off < 65536 := by
    have h1 := leN_lt ((l.drop i).take 2) (hb.sub i 2)
    have h2 : ((l.drop i).take 2).length ≤ 2 := by simp; omega
    have h3 : 256 ^ ((l.drop i).take 2).length ≤ 256 ^ 2 := Nat.pow_le_pow_right (by decide) h2
    omega
  refine le16 hfr (Byt.of_mem (fun x hx => hb x (List.mem_of_mem_drop hx))) (by simp; omega) fun h1 o1 => ?_
  rw [hoff]
  have C1 : ∀ st' : M_LcS.St, st'.x_dst = st.x_dst → st'.x_src = st.x_src → st'.x_d = st.x_d → st'.x_uncompressed = st.x_uncompressed → st'.x_dLimit = st.x_dLimit → CvLcS S N db h0 M0 body out last st' h1 := fun st' g1 g2 g3 g4 g5 =>
    ⟨g1.trans C.dst, g2.trans C.src, g3.trans C.d, g4.trans C.u, g5.trans C.lim, o1.Blk C.blk, C.goes, C.bb, C.fr.trans (Fr.of_old o1)⟩
  have hS1 : SlI h1 .u8 S l := hS'.ext o1.ext
  simp only [SS, M_LcS.k32, M_LcS.k33, M_LcS.k34, M_LcS.k35, M_LcS.r44, M_LcS.r45, M_LcS.r47, M_LcS.r49, C.src, C.u, hs, hml]
  have e1 : IntKind.wrap .i64 ((i : Int) + 2) = ((i + 2 : Nat) : Int) := by rw [w_i64 (by omega) (by omega)]; omega
  rw [if_neg (by simp; omega), w_i64 (x := (off : Int)) (by omega) (by omega), if_neg (by simp; omega), e1]
  by_cases h15 : t = 15
  · rw [if_pos (by rw [h15]; rfl)]
    unfold zlen at hz
    rw [if_pos h15] at hz
    simp only [SS, M_LcS.k36]
    refine loop_rule (I := fun s' h' => h' = h1 ∧ CvLcS S N db h0 M0 body out last s' h1 ∧ s'.x_offset = off ∧ ∃ p n' : Nat, s'.x_s = p ∧ s'.x_ml = n' ∧ p ≤ l.length ∧ n' ≤ 30 + 255 * p ∧ zmore l p n' = some (n, k)) (μ := fun s' _ => (l.length - s'.x_s).toNat) ?_ ?_
    · exact ⟨rfl, C1 _ rfl C.src.symm rfl C.u.symm rfl, rfl, i + 2, t + zleast false, rfl, rfl, by omega, by have h4 : zleast false ≤ 4 := (by decide); omega, hz⟩
    · rintro s' h' ⟨rfl, C', e3, p, n', e4, e5, hp, hn, hm⟩
      simp only [SS, M_LcS.k37, M_LcS.k38, M_LcS.k39, M_LcS.k40, M_LcS.k41, M_LcS.k42, M_LcS.r50, M_LcS.r52, M_LcS.r53, M_LcS.r54, M_LcS.r55, M_LcS.r56, C'.src, e4, e5]
      have hp1 : p < l.length := by
        rcases Nat.lt_or_ge p l.length with h | h
        · exact h
        · rw [zmore_end h] at hm; cases hm
      rw [if_neg (by simp; omega)]
      rw [zmore_step hp1] at hm
      refine hS1.ldB (Byt.of_mem hb) (j := p) rfl hp1 fun w hw hwe hwev => ?_
      rw [hwev] at hm
      have ep : IntKind.wrap .i64 ((p : Int) + 1) = ((p + 1 : Nat) : Int) := by rw [w_i64 (by omega) (by omega)]; omega
      have en : IntKind.wrap .i64 ((n' : Int) + IntKind.wrap .i64 (w : Int)) = ((n' + w : Nat) : Int) := by rw [w_i64 (x := (w : Int)) (by omega) (by omega), w_i64 (by omega) (by omega)]; omega
      rw [ep, en]
      by_cases h255 : w < 255
      · rw [if_pos (by simp; omega)]
        rw [if_pos h255] at hm
        simp only [Option.some.injEq, Prod.mk.injEq] at hm
        obtain ⟨rfl, rfl⟩ := hm
        rw [if_neg (by simp; omega)]
        exact hK _ _ ⟨C'.dst, rfl, C'.d, C'.u, C'.lim, C'.blk, C'.goes, C'.bb, C'.fr⟩ rfl rfl e3
      · rw [if_neg (by simp; omega)]
        rw [if_neg h255] at hm
        exact ⟨⟨trivial, ⟨C'.dst, rfl, C'.d, C'.u, C'.lim, C'.blk, C'.goes, C'.bb, C'.fr⟩, e3, p + 1, n' + w, rfl, rfl, by omega, by omega, hm⟩, by omega⟩
  · rw [if_neg (by rw [show zleast false = 4 from rfl]; simp; omega)]
    unfold zlen at hz
    rw [if_neg h15] at hz
    simp only [Option.some.injEq, Prod.mk.injEq] at hz
    obtain ⟨rfl, rfl⟩ := hz
    exact hK _ h1 (C1 _ rfl C.src.symm rfl C.u.symm rfl) rfl rfl rfl
end

section
/-- Where the converter stands: what was read and what was written. -/
structure CvLsS (S : Sl) (N db : Nat) (h0 : Heap) (M0 : List Int) (body out : List Int) (last : Nat) (st : M_LsS.St) (h : Heap) : Prop where
  dst : st.x_dst = ⟨some ⟨db, 0, none⟩, N, N⟩
  src : st.x_src = S
  d : st.x_d = body.length
  u : st.x_uncompressed = out.length
  lim : st.x_dLimit = (N : Int) - 10
  blk : Blk h db ((putL M0 0 body).map (Value.int .u8)) 5
  goes : ∀ s2, GoesG s2 body out last
  bb : Bts body
  fr : Fr (· = db) h0 h

variable {S : Sl} {l : List Int} {N db : Nat} {h0 : Heap} {M0 : List Int} {body out : List Int} {last : Nat} {st : M_LsS.St} {h : Heap} {Q : Ex → M_LsS.St → Heap → Prop}

set_option maxRecDepth 1000000 in
/-- The token, and a length that goes on. -/
theorem headLsS {i m j : Nat} (C : CvLsS S N db h0 M0 body out last st h) (hS : SlI h0 .u8 S l) (hne : ∀ a, 0 < S.n → S.p = some a → a.block ≠ db) (hb : Bts l) (hl : l.length < 2 ^ 20) (hs : st.x_s = i) (hi : i < l.length) (hz : zlen l (i + 1) ((l.getD i 0).toNat / 16) ((l.getD i 0).toNat / 16) = some (m, j))
    (hK : ∀ st', CvLsS S N db h0 M0 body out last st' h → st'.x_s = (j : Int) - 1 → st'.x_ll = m → st'.x_ml = (((l.getD i 0).toNat % 16 + zleast true : Nat) : Int) → M_LsS.k24 st' h Q) : M_LsS.k14 st h Q := by
  have hsl := hS.len
  have hS' : SlI h .u8 S l := SlI.fr hS C.fr (fun a h1 h2 => hne a h1 h2)
  simp only [SS, M_LsS.k14, M_LsS.k15, M_LsS.k16, M_LsS.k17, M_LsS.r21, M_LsS.r22, M_LsS.r23, M_LsS.r24, C.src, hs]
  refine hS'.ldB (Byt.of_mem hb) (j := i) rfl hi fun v hv he hev => ?_
  rw [hev] at hz hK
  have e1 : IntKind.wrap .i64 (Int.fdiv (v : Int) (2 ^ 4)) = ((v / 16 : Nat) : Int) := by rw [fdiv_nat, w_i64 (by omega) (by omega)]
  have e2 : IntKind.wrap .i64 (IntKind.wrap .u8 ((3 : Int) + bAnd .u8 (v : Int) 15)) = ((v % 16 + zleast true : Nat) : Int) := by
    rw [u8_and15 hv, w_u8 (by omega) (by omega), w_i64 (by omega) (by omega), show zleast true = 3 from rfl]; omega
  simp only [e1, e2]
  by_cases h15 : v / 16 = 15
  · rw [if_pos (by simp; omega)]
    unfold zlen at hz
    rw [if_pos h15, h15] at hz
    rw [h15]
    refine loop_rule (I := fun s' h' => h' = h ∧ CvLsS S N db h0 M0 body out last s' h ∧ s'.x_ml = ((v % 16 + zleast true : Nat) : Int) ∧ ∃ p n : Nat, s'.x_s = p ∧ s'.x_ll = n ∧ p < l.length ∧ n ≤ 15 + 255 * p ∧ zmore l (p + 1) n = some (m, j)) (μ := fun s' _ => (l.length - s'.x_s).toNat) ?_ ?_
    · exact ⟨rfl, ⟨C.dst, rfl, C.d, C.u, C.lim, C.blk, C.goes, C.bb, C.fr⟩, rfl, i, 15, rfl, rfl, hi, by omega, hz⟩
    · rintro s' h' ⟨rfl, C', e3, p, n, e4, e5, hp, hn, hm⟩
      simp only [SS, M_LsS.k19, M_LsS.k20, M_LsS.k21, M_LsS.k22, M_LsS.k23, M_LsS.r25, M_LsS.r26, M_LsS.r28, M_LsS.r29, M_LsS.r30, C'.src, e4, e5]
      have hp1 : p + 1 < l.length := by
        rcases Nat.lt_or_ge (p + 1) l.length with h | h
        · exact h
        · rw [zmore_end h] at hm; cases hm
      have ep : IntKind.wrap .i64 ((p : Int) + 1) = ((p + 1 : Nat) : Int) := by rw [w_i64 (by omega) (by omega)]; omega
      rw [ep, if_neg (by simp; omega)]
      rw [zmore_step hp1] at hm
      refine hS'.ldB (Byt.of_mem hb) (j := p + 1) rfl hp1 fun w hw hwe hwev => ?_
      rw [hwev] at hm
      have en : IntKind.wrap .i64 ((n : Int) + IntKind.wrap .i64 (w : Int)) = ((n + w : Nat) : Int) := by rw [w_i64 (x := (w : Int)) (by omega) (by omega), w_i64 (by omega) (by omega)]; omega
      rw [en]
      by_cases h255 : w < 255
      · rw [if_pos (by simp; omega)]
        rw [if_pos h255] at hm
        simp only [Option.some.injEq, Prod.mk.injEq] at hm
        obtain ⟨rfl, rfl⟩ := hm
        exact hK _ ⟨C'.dst, rfl, C'.d, C'.u, C'.lim, C'.blk, C'.goes, C'.bb, C'.fr⟩ (by simp only; omega) rfl e3
      · rw [if_neg (by simp; omega)]
        rw [if_neg h255] at hm
        exact ⟨⟨trivial, ⟨C'.dst, rfl, C'.d, C'.u, C'.lim, C'.blk, C'.goes, C'.bb, C'.fr⟩, e3, p + 1, n + w, rfl, rfl, hp1, by omega, hm⟩, by omega⟩
  · rw [if_neg (by simp; omega)]
    unfold zlen at hz
    rw [if_neg h15] at hz
    simp only [Option.some.injEq, Prod.mk.injEq] at hz
    obtain ⟨rfl, rfl⟩ := hz
    exact hK _ ⟨C.dst, rfl, C.d, C.u, C.lim, C.blk, C.goes, C.bb, C.fr⟩ (by simp only; omega) rfl rfl

set_option maxRecDepth 1000000 in
/-- The literals. -/
theorem litLsS {m j : Nat} {ml : Int} (C : CvLsS S N db h0 M0 body out last st h) (hS : SlI h0 .u8 S l) (hne : ∀ a, 0 < S.n → S.p = some a → a.block ≠ db) (hb : Bts l) (hl : l.length < 2 ^ 20) (hN : N = 16 * l.length + 64) (hM : M0.length = N) (hs : st.x_s = (j : Int) - 1) (hll : st.x_ll = m) (hml : st.x_ml = ml) (h1 : 1 ≤ j) (hjm : j + m ≤ l.length) (hroom : body.length + 16 ≤ 16 * j) (hol : out.length < 2 ^ 24)
    (hK : ∀ st' h' body', CvLsS S N db h0 M0 body' (out ++ (l.drop j).take m) last st' h' → st'.x_s = ((j + m : Nat) : Int) → st'.x_ml = ml → body'.length ≤ body.length + m + 5 → M_LsS.k29 st' h' Q) : M_LsS.k24 st h Q := by
  have hsl := hS.len
  have hcap := hS.2.1
  have hS' : SlI h .u8 S l := SlI.fr hS C.fr (fun a h1 h2 => hne a h1 h2)
  simp only [SS, M_LsS.k24, M_LsS.k25, M_LsS.k26, M_LsS.r31, M_LsS.r33, M_LsS.r34, C.src, hs, hll]
  have e0 : IntKind.wrap .i64 ((j : Int) - 1 + m) = (j : Int) - 1 + m := w_i64 (by omega) (by omega)
  have e1 : IntKind.wrap .i64 ((j : Int) - 1 + 1) = (j : Nat) := by rw [w_i64 (by omega) (by omega)]; omega
  rw [e0, e1, if_neg (by simp; omega)]
  by_cases h0' : m = 0
  · subst h0'
    rw [if_neg (by simp)]
    refine hK _ h body ?_ ?_ ?_ (by omega)
    rotate_left
    · simp only; omega
    · exact hml
    rw [List.take_zero, List.append_nil]
    exact ⟨C.dst, rfl, C.d, C.u, C.lim, C.blk, C.goes, C.bb, C.fr⟩
  rw [if_pos (by simp; omega)]
  simp only [SS, M_LsS.k27, M_LsS.k28, M_LsS.r35, M_LsS.r37, M_LsS.r38, M_LsS.r39, C.src, C.dst, C.d, C.lim, C.u, hll]
  have e2 : IntKind.wrap .i64 ((body.length : Int) + m) = (body.length : Int) + m := w_i64 (by omega) (by omega)
  have e3 : IntKind.wrap .i64 ((j : Int) + m) = ((j + m : Nat) : Int) := by rw [w_i64 (by omega) (by omega)]; omega
  rw [e2, if_neg (by simp; omega)]
  simp only [e3]
  refine ⟨by omega, by omega, by omega, by omega, by omega, by omega, ?_⟩
  rw [Int.toNat_natCast, Int.toNat_natCast, Int.toNat_natCast, subP_at (by omega), Nat.zero_add, show j + m - j = m by omega]
  have hsub := hS'.sub (lo := j) (hi := j + m) (by omega) (by omega)
  rw [List.drop_take, show j + m - j = m by omega] at hsub
  have hdl : ((l.drop j).take m).length = m := by simp; omega
  refine emitLiteralGo (M := putL M0 0 body) C.blk (by rw [putL_len (by omega)]; omega) (Nat.le_refl _) (by omega) hsub ?_ (hb.sub _ _) (by omega) fun enc h2 q1 q2 q3 q4 q5 => ?_
  · intro a h3 ha
    unfold subP at ha
    cases hp : S.p with
    | none => rw [hp] at ha; split at ha <;> cases ha
    | some a0 =>
      have := hne a0 (by omega) hp
      rw [hp] at ha
      have hbl : a.block = a0.block := by
        split at ha
        · obtain rfl := Option.some.inj ha; rfl
        · obtain rfl := Option.some.inj ha
          unfold Addr.add; split <;> rfl
      omega
  have ep := putL_putL (M := M0) (o := 0) (L1 := body) (L2 := enc) (by omega)
  rw [Nat.zero_add] at ep
  rw [ep] at q4
  have ed : IntKind.wrap .i64 ((body.length : Int) + (enc.length : Nat)) = ((body ++ enc).length : Nat) := by rw [w_i64 (by omega) (by omega)]; simp
  have eu : IntKind.wrap .i64 ((out.length : Int) + m) = ((out ++ (l.drop j).take m).length : Nat) := by rw [w_i64 (by omega) (by omega)]; simp; omega
  refine hK _ h2 (body ++ enc) ⟨rfl, rfl, ed, eu, rfl, q4, ?_, C.bb.app q3, C.fr.trans q5⟩ rfl hml (by simp; omega)
  exact fun s2 => (C.goes s2).seq (q2 s2 out last) (by simp)

set_option maxRecDepth 1000000 in
/-- The offset, and a match's length that goes on. -/
theorem offLsS {i t off n k : Nat} (C : CvLsS S N db h0 M0 body out last st h) (hS : SlI h0 .u8 S l) (hne : ∀ a, 0 < S.n → S.p = some a → a.block ≠ db) (hb : Bts l) (hl : l.length < 2 ^ 20) (hs : st.x_s = i) (hml : st.x_ml = ((t + zleast true : Nat) : Int)) (ht : t ≤ 15) (hmd : ¬ (true = true ∧ t = 0))
    (ho : leAt l i 2 = some off) (ho0 : 0 < off) (hoo : off ≤ out.length) (hol : out.length < 2 ^ 24) (hz : zlen l (i + 2) t (t + zleast true) = some (n, k)) (hk : k < l.length)
    (hK : ∀ st' h', CvLsS S N db h0 M0 body out last st' h' → st'.x_s = k → st'.x_ml = n → st'.x_offset = off → M_LsS.k44 st' h' Q) : M_LsS.k29 st h Q := by
  have hsl := hS.len
  have hcap := hS.2.1
  have hS' : SlI h .u8 S l := SlI.fr hS C.fr (fun a h1 h2 => hne a h1 h2)
  have hi2 := leAt_le ho
  have hzl := zlen_le hb hz hi2
  simp only [SS, M_LsS.k29, M_LsS.r40, C.src, hs, hml]
  rw [if_neg (by rw [show zleast true = 3 from rfl]; simp; intro h; exact hmd ⟨rfl, by omega⟩)]
  simp only [SS, M_LsS.k31, M_LsS.k32, M_LsS.r42, M_LsS.r44, C.src, hs]
  have e0 : IntKind.wrap .i64 (((S.n : Nat) : Int) - 2) = ((l.length - 2 : Nat) : Int) := by rw [w_i64 (by omega) (by omega)]; omega
  rw [e0, if_neg (by simp; omega)]
  refine ⟨by omega, by omega, ?_⟩
  rw [Int.toNat_natCast]
  have hfr := hS'.from (i := i) (by omega)
  have hoff : leN ((l.drop i).take 2) = off := by
    unfold leAt at ho
    rw [if_pos hi2] at ho
    exact Option.some.inj ho
  have hoff2 := leAt_lt4 hb (by omega) ho
  have hoff3 : off < 65536 := by
    have h1 := leN_lt ((l.drop i).take 2) (hb.sub i 2)
    have h2 : ((l.drop i).take 2).length ≤ 2 := by simp; omega
    have h3 : 256 ^ ((l.drop i).take 2).length ≤ 256 ^ 2 := Nat.pow_le_pow_right (by decide) h2
    omega
  refine le16 hfr (Byt.of_mem (fun x hx => hb x (List.mem_of_mem_drop hx))) (by simp; omega) fun h1 o1 => ?_
  rw [hoff]
  have C1 : ∀ st' : M_LsS.St, st'.x_dst = st.x_dst → st'.x_src = st.x_src → st'.x_d = st.x_d → st'.x_uncompressed = st.x_uncompressed → st'.x_dLimit = st.x_dLimit → CvLsS S N db h0 M0 body out last st' h1 := fun st' g1 g2 g3 g4 g5 =>
    ⟨g1.trans C.dst, g2.trans C.src, g3.trans C.d, g4.trans C.u, g5.trans C.lim, o1.Blk C.blk, C.goes, C.bb, C.fr.trans (Fr.of_old o1)⟩
  have hS1 : SlI h1 .u8 S l := hS'.ext o1.ext
  simp only [SS, M_LsS.k33, M_LsS.k34, M_LsS.k35, M_LsS.k36, M_LsS.r45, M_LsS.r46, M_LsS.r48, M_LsS.r50, C.src, C.u, hs, hml]
  have e1 : IntKind.wrap .i64 ((i : Int) + 2) = ((i + 2 : Nat) : Int) := by rw [w_i64 (by omega) (by omega)]; omega
  rw [if_neg (by simp; omega), w_i64 (x := (off : Int)) (by omega) (by omega), if_neg (by simp; omega), e1]
  by_cases h15 : t = 15
  · rw [if_pos (by rw [h15]; rfl)]
    unfold zlen at hz
    rw [if_pos h15] at hz
    simp only [SS, M_LsS.k37]
    refine loop_rule (I := fun s' h' => h' = h1 ∧ CvLsS S N db h0 M0 body out last s' h1 ∧ s'.x_offset = off ∧ ∃ p n' : Nat, s'.x_s = p ∧ s'.x_ml = n' ∧ p ≤ l.length ∧ n' ≤ 30 + 255 * p ∧ zmore l p n' = some (n, k)) (μ := fun s' _ => (l.length - s'.x_s).toNat) ?_ ?_
    · exact ⟨rfl, C1 _ rfl C.src.symm rfl C.u.symm rfl, rfl, i + 2, t + zleast true, rfl, rfl, by omega, by have h4 : zleast true ≤ 4 := (by decide); omega, hz⟩
    · rintro s' h' ⟨rfl, C', e3, p, n', e4, e5, hp, hn, hm⟩
      simp only [SS, M_LsS.k38, M_LsS.k39, M_LsS.k40, M_LsS.k41, M_LsS.k42, M_LsS.k43, M_LsS.r51, M_LsS.r53, M_LsS.r54, M_LsS.r55, M_LsS.r56, M_LsS.r57, C'.src, e4, e5]
      have hp1 : p < l.length := by
        rcases Nat.lt_or_ge p l.length with h | h
        · exact h
        · rw [zmore_end h] at hm; cases hm
      rw [if_neg (by simp; omega)]
      rw [zmore_step hp1] at hm
      refine hS1.ldB (Byt.of_mem hb) (j := p) rfl hp1 fun w hw hwe hwev => ?_
      rw [hwev] at hm
      have ep : IntKind.wrap .i64 ((p : Int) + 1) = ((p + 1 : Nat) : Int) := by rw [w_i64 (by omega) (by omega)]; omega
      have en : IntKind.wrap .i64 ((n' : Int) + IntKind.wrap .i64 (w : Int)) = ((n' + w : Nat) : Int) := by rw [w_i64 (x := (w : Int)) (by omega) (by omega), w_i64 (by omega) (by omega)]; omega
      rw [ep, en]
      by_cases h255 : w < 255
      · rw [if_pos (by simp; omega)]
        rw [if_pos h255] at hm
        simp only [Option.some.injEq, Prod.mk.injEq] at hm
        obtain ⟨rfl, rfl⟩ := hm
        rw [if_neg (by simp; omega)]
        exact hK _ _ ⟨C'.dst, rfl, C'.d, C'.u, C'.lim, C'.blk, C'.goes, C'.bb, C'.fr⟩ rfl rfl e3
      · rw [if_neg (by simp; omega)]
        rw [if_neg h255] at hm
        exact ⟨⟨trivial, ⟨C'.dst, rfl, C'.d, C'.u, C'.lim, C'.blk, C'.goes, C'.bb, C'.fr⟩, e3, p + 1, n' + w, rfl, rfl, by omega, by omega, hm⟩, by omega⟩
  · rw [if_neg (by rw [show zleast true = 3 from rfl]; simp; omega)]
    unfold zlen at hz
    rw [if_neg h15] at hz
    simp only [Option.some.injEq, Prod.mk.injEq] at hz
    obtain ⟨rfl, rfl⟩ := hz
    exact hK _ h1 (C1 _ rfl C.src.symm rfl C.u.symm rfl) rfl rfl rfl
end
end Go.Proofs.YtibleenkgmkpmaaDoor
