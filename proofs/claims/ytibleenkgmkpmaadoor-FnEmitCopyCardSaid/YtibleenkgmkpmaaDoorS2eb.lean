/- A part of the proof. -/
import Derived.Test.YtibleenkgmkpmaaDoorS2ea
set_option linter.unusedSimpArgs false
set_option linter.unusedVariables false
set_option linter.unusedSectionVars false
namespace Go.Vc
theorem len10 {L : List Int} (h : L.length = 10) : ∃ a b c d e f g i j k, L = [a, b, c, d, e, f, g, i, j, k] := by
  match L, h with
  | [a, b, c, d, e, f, g, i, j, k], _ => exact ⟨a, b, c, d, e, f, g, i, j, k, rfl⟩
end Go.Vc
namespace Go.Proofs.YtibleenkgmkpmaaDoor
open Go Go.Vc Go.Ml Go.S2

theorem tag2 {n : Nat} (h1 : 1 ≤ n) (h : n ≤ 64) : bOr .u8 (IntKind.wrap .u8 (IntKind.wrap .u8 (IntKind.wrap .i64 ((n : Int) - 1)) * 2 ^ 2)) 2 = (((n - 1) * 4 + 2 : Nat) : Int) ∧
    bOr .u8 (IntKind.wrap .u8 (IntKind.wrap .u8 (IntKind.wrap .i64 ((n : Int) - 1)) * 2 ^ 2)) 3 = (((n - 1) * 4 + 3 : Nat) : Int) := by
  rw [w_i64 (by omega) (by omega), w_u8 (x := (n : Int) - 1) (by omega) (by omega), w_u8 (by omega) (by omega)]
  have e2 : ((n : Int) - 1) * 2 ^ 2 = (((n - 1) * 4 : Nat) : Int) := by omega
  have := lor_tag2 (n - 1) (by omega)
  have e3 : bOr .u8 (((n - 1) * 4 : Nat) : Int) 2 = (((n - 1) * 4 ||| 2 : Nat) : Int) := or_u8 (by omega) (by decide)
  have e4 : bOr .u8 (((n - 1) * 4 : Nat) : Int) 3 = (((n - 1) * 4 ||| 3 : Nat) : Int) := or_u8 (by omega) (by decide)
  rw [e2, e3, e4, this.1, this.2.1]
  exact ⟨rfl, rfl⟩

/-- As tag1, the length's part being a difference of words. -/
theorem tag1' {o n : Nat} (ho : o < 2048) (h4 : 4 ≤ n) (hl : n < 12) : bOr .u8 (bOr .u8 (IntKind.wrap .u8 (IntKind.wrap .u8 (Int.fdiv (o : Int) (2 ^ 8)) * 2 ^ 5)) (IntKind.wrap .u8 (IntKind.wrap .u8 (IntKind.wrap .i64 ((n : Int) - 4)) * 2 ^ 2))) 1 = ((o / 256 * 32 + (n - 4) * 4 + 1 : Nat) : Int) := by
  rw [w_i64 (by omega) (by omega)]
  have e : (n : Int) - 4 = ((n - 4 : Nat) : Int) := by omega
  rw [e]
  exact tag1 ho (by omega)
theorem tag8 {o : Nat} (ho : o < 2048) : bOr .u8 (bOr .u8 (IntKind.wrap .u8 (IntKind.wrap .u8 (Int.fdiv (o : Int) (2 ^ 8)) * 2 ^ 5)) 16) 1 = ((o / 256 * 32 + (8 - 4) * 4 + 1 : Nat) : Int) := by
  have := tag1 (l := 4) ho (by omega)
  have e : IntKind.wrap .u8 (IntKind.wrap .u8 ((4 : Nat) : Int) * 2 ^ 2) = 16 := by decide
  rw [e] at this
  exact this
theorem leB4 (o : Nat) : leB 4 o = [((o % 256 : Nat) : Int), ((o / 2 ^ 8 % 256 : Nat) : Int), ((o / 2 ^ 16 % 256 : Nat) : Int), ((o / 2 ^ 24 % 256 : Nat) : Int)] := by simp [leB, Nat.div_div_eq_div_mul]
theorem leB2 (o : Nat) : leB 2 o = [((o % 256 : Nat) : Int), ((o / 2 ^ 8 % 256 : Nat) : Int)] := by simp [leB]
theorem copk4 {s2 : Bool} {o n : Nat} (h2 : o < 2 ^ 32) (hn : 1 ≤ n) (hn2 : n ≤ 64) : CopS s2 [(((n - 1) * 4 + 3 : Nat) : Int), ((o % 256 : Nat) : Int), ((o / 2 ^ 8 % 256 : Nat) : Int), ((o / 2 ^ 16 % 256 : Nat) : Int), ((o / 2 ^ 24 % 256 : Nat) : Int)] o n := by
  have := copk (s2 := s2) (k := 4) (o := o) (Or.inr rfl) h2 hn hn2
  rw [leB4] at this
  exact this
theorem copk2 {s2 : Bool} {o n : Nat} (h2 : o < 65536) (hn : 1 ≤ n) (hn2 : n ≤ 64) : CopS s2 [(((n - 1) * 4 + 2 : Nat) : Int), ((o % 256 : Nat) : Int), ((o / 2 ^ 8 % 256 : Nat) : Int)] o n := by
  have := copk (s2 := s2) (k := 2) (o := o) (Or.inl rfl) h2 hn hn2
  rw [leB2] at this
  exact this

section
variable {h : Heap} {db o n c off len : Nat} {M : List Int} {K : Int → Heap → Prop}

set_option maxRecDepth 1000000 in
set_option maxHeartbeats 1000000 in
theorem emitCopy (HB : Blk h db (M.map (Value.int .u8)) 5) (hon : o + n ≤ M.length) (hc : n ≤ c) (hn : 16 ≤ n) (hlen : 4 ≤ len) (hlen2 : len < 2 ^ 24) (hoff : off < 2 ^ 31)
    (hK : ∀ enc h', enc.length ≤ 16 → (CopS true enc off len) → Blk h' db ((putL M o enc).map (Value.int .u8)) 5 → Fr (· = db) h h' → K enc.length h') : c_emitCopy ⟨some ⟨db, o, none⟩, n, c⟩ off len h K := by
  apply M_emitCopy.calls
  simp only [st_reg, st_ret, st_exit, st_skip, st_test, st_block, st_cond, sq_reg, sq_ret, sq_exit, sq_skip, sq_test, sq_cond, sq_block, sq_seq, sq_loop, SK_norm, SK_exit, SK_ret, BK_norm, BK_ret, BK_same, BK_exit, LK_norm, LK_exit, LK_ret, endK_norm, endK_ret, M_emitCopy.stm, M_emitCopy.k0, M_emitCopy.k1, M_emitCopy.k2, M_emitCopy.init, M_emitCopy.res, M_emitCopy.r0, M_emitCopy.r1, M_emitCopy.r2, M_emitCopy.r3]
  by_cases g0 : (off : Int) ≥ 65536
  · rw [if_pos (by simpa using g0)]
    by_cases g1 : (len : Int) > 64
    · rw [if_pos (by simpa using g1)]
      simp only [st_reg, st_ret, st_exit, st_skip, st_test, st_block, st_cond, sq_reg, sq_ret, sq_exit, sq_skip, sq_test, sq_cond, sq_block, sq_seq, sq_loop, SK_norm, SK_exit, SK_ret, BK_norm, BK_ret, BK_same, BK_exit, LK_norm, LK_exit, LK_ret, endK_norm, endK_ret, M_emitCopy.k3, M_emitCopy.k4, M_emitCopy.k5, M_emitCopy.k6, M_emitCopy.k7, M_emitCopy.k8, M_emitCopy.k9, M_emitCopy.k10, M_emitCopy.k11, M_emitCopy.k12, M_emitCopy.k13, M_emitCopy.k14, M_emitCopy.k15, M_emitCopy.res, M_emitCopy.r4, M_emitCopy.r5, M_emitCopy.r6, M_emitCopy.r7, M_emitCopy.r8, M_emitCopy.r9, M_emitCopy.r10, M_emitCopy.r11, M_emitCopy.r12, M_emitCopy.r13, M_emitCopy.r14, M_emitCopy.r15, M_emitCopy.r16, M_emitCopy.r17, M_emitCopy.r18, M_emitCopy.r19, M_emitCopy.r20]
      have ew : IntKind.wrap .i64 ((len : Int) - 64) = ((len - 64 : Nat) : Int) := by rw [w_i64 (by omega) (by omega)]; omega
      simp only [ew]
      by_cases g2 : 4 ≤ len - 64
      · obtain ⟨x0, x1, x2, x3, x4, hx⟩ := len5 (cut_len (M := M) (o := o) (k := 5) (by omega))
        rw [← putL_self (M := M) (o := o) (k := 5) (by omega), hx] at HB
        simp only [w_u8_div, w_u8_nat]
        refine putS (j := 4) (i := 4) HB (by simp; omega) (by simp) rfl (by omega) fun h1 H1 F1 => ?_
        refine putS (j := 3) (i := 3) H1 (by simp; omega) (by simp) rfl (by omega) fun h2 H2 F2 => ?_
        refine putS (j := 2) (i := 2) H2 (by simp; omega) (by simp) rfl (by omega) fun h3 H3 F3 => ?_
        refine putS (j := 1) (i := 1) H3 (by simp; omega) (by simp) rfl (by omega) fun h4 H4 F4 => ?_
        refine putS (j := 0) (i := 0) H4 (by simp; omega) (by simp) rfl (by omega) fun h5 H5 F5 => ?_
        simp only [List.set_cons_zero, List.set_cons_succ] at H5
        have hF := (((F1.trans F2).trans F3).trans F4).trans F5
        rw [if_pos (by simp; omega)]
        refine ⟨by omega, by omega, ?_⟩
        rw [show Int.toNat (5 : Int) = 5 from rfl, subP_at (by omega)]
        refine emitRepeat H5 (by rw [putL_len (by simp; omega)]; omega) (by omega) (by omega) (by omega) (by omega) fun enc h6 q1 q2 q3 q4 => ?_
        have ep := putL_putL (M := M) (o := o) (L1 := [255, ((off % 256 : Nat) : Int), ((off / 2 ^ 8 % 256 : Nat) : Int), ((off / 2 ^ 16 % 256 : Nat) : Int), ((off / 2 ^ 24 % 256 : Nat) : Int)]) (L2 := enc) (by simp; omega)
        have ec : IntKind.wrap .i64 (5 + (enc.length : Int)) = (([255, ((off % 256 : Nat) : Int), ((off / 2 ^ 8 % 256 : Nat) : Int), ((off / 2 ^ 16 % 256 : Nat) : Int), ((off / 2 ^ 24 % 256 : Nat) : Int)] ++ enc).length : Nat) := by
          rw [w_i64 (by omega) (by omega)]; simp; omega
        rw [ec]
        refine hK _ h6 (by simp; omega) ?_ (by rw [← ep]; exact q3) (hF.trans q4)
        show CopS true _ off len
        have := (copk4 (s2 := true) (o := off) (n := 64) (by omega) (by omega) (by omega)).app q2
        rwa [show 64 + (len - 64) = len by omega] at this
      · obtain ⟨x0, x1, x2, x3, x4, x5, x6, x7, x8, x9, hx⟩ := len10 (cut_len (M := M) (o := o) (k := 10) (by omega))
        rw [← putL_self (M := M) (o := o) (k := 10) (by omega), hx] at HB
        have et : bOr .u8 (IntKind.wrap .u8 (IntKind.wrap .u8 (IntKind.wrap .i64 (((len - 64 : Nat) : Int) - 1)) * 2 ^ 2)) 3 = ((((len - 64) - 1) * 4 + 3 : Nat) : Int) := (tag2 (n := len - 64) (by omega) (by omega)).2
        simp only [w_u8_div, w_u8_nat, et, show IntKind.wrap .i64 ((5 : Int) + 0) = 5 from by decide, show IntKind.wrap .i64 ((5 : Int) + 1) = 6 from by decide, show IntKind.wrap .i64 ((5 : Int) + 2) = 7 from by decide, show IntKind.wrap .i64 ((5 : Int) + 3) = 8 from by decide, show IntKind.wrap .i64 ((5 : Int) + 4) = 9 from by decide, show IntKind.wrap .i64 ((5 : Int) + 5) = 10 from by decide]
        refine putS (j := 4) (i := 4) HB (by simp; omega) (by simp) rfl (by omega) fun h1 H1 F1 => ?_
        refine putS (j := 3) (i := 3) H1 (by simp; omega) (by simp) rfl (by omega) fun h2 H2 F2 => ?_
        refine putS (j := 2) (i := 2) H2 (by simp; omega) (by simp) rfl (by omega) fun h3 H3 F3 => ?_
        refine putS (j := 1) (i := 1) H3 (by simp; omega) (by simp) rfl (by omega) fun h4 H4 F4 => ?_
        refine putS (j := 0) (i := 0) H4 (by simp; omega) (by simp) rfl (by omega) fun h5 H5 F5 => ?_
        rw [if_neg (by simp; omega), if_neg (by simp; omega)]
        refine putS (j := 5) (i := 5) H5 (by simp; omega) (by simp) rfl (by omega) fun h6 H6 F6 => ?_
        refine putS (j := 6) (i := 6) H6 (by simp; omega) (by simp) rfl (by omega) fun h7 H7 F7 => ?_
        refine putS (j := 7) (i := 7) H7 (by simp; omega) (by simp) rfl (by omega) fun h8 H8 F8 => ?_
        refine putS (j := 8) (i := 8) H8 (by simp; omega) (by simp) rfl (by omega) fun h9 H9 F9 => ?_
        refine putS (j := 9) (i := 9) H9 (by simp; omega) (by simp) rfl (by omega) fun h10 H10 F10 => ?_
        simp only [List.set_cons_zero, List.set_cons_succ] at H10
        have hF := ((((((((F1.trans F2).trans F3).trans F4).trans F5).trans F6).trans F7).trans F8).trans F9).trans F10
        refine hK _ h10 (by simp) ?_ H10 hF
        show CopS true _ off len
        have := (copk4 (s2 := true) (o := off) (n := 64) (by omega) (by omega) (by omega)).app (copk4 (s2 := true) (o := off) (n := len - 64) (by omega) (by omega) (by omega)).rep
        rw [show 64 + (len - 64) = len by omega] at this
        exact this
    · rw [if_neg (by simpa using g1)]
      simp only [st_reg, st_ret, st_exit, st_skip, st_test, st_block, st_cond, sq_reg, sq_ret, sq_exit, sq_skip, sq_test, sq_cond, sq_block, sq_seq, sq_loop, SK_norm, SK_exit, SK_ret, BK_norm, BK_ret, BK_same, BK_exit, LK_norm, LK_exit, LK_ret, endK_norm, endK_ret, M_emitCopy.k10, M_emitCopy.k11, M_emitCopy.k12, M_emitCopy.k13, M_emitCopy.k14, M_emitCopy.k15, M_emitCopy.res, M_emitCopy.r13, M_emitCopy.r14, M_emitCopy.r15, M_emitCopy.r16, M_emitCopy.r17, M_emitCopy.r18, M_emitCopy.r19, M_emitCopy.r20]
      rw [if_neg (by simp; omega)]
      obtain ⟨x0, x1, x2, x3, x4, hx⟩ := len5 (cut_len (M := M) (o := o) (k := 5) (by omega))
      rw [← putL_self (M := M) (o := o) (k := 5) (by omega), hx] at HB
      simp only [w_u8_div, w_u8_nat, (tag2 (n := len) (by omega) (by omega)).2, show IntKind.wrap .i64 ((0 : Int) + 0) = 0 from by decide, show IntKind.wrap .i64 ((0 : Int) + 1) = 1 from by decide, show IntKind.wrap .i64 ((0 : Int) + 2) = 2 from by decide, show IntKind.wrap .i64 ((0 : Int) + 3) = 3 from by decide, show IntKind.wrap .i64 ((0 : Int) + 4) = 4 from by decide, show IntKind.wrap .i64 ((0 : Int) + 5) = 5 from by decide]
      refine putS (j := 0) (i := 0) HB (by simp; omega) (by simp) rfl (by omega) fun h1 H1 F1 => ?_
      refine putS (j := 1) (i := 1) H1 (by simp; omega) (by simp) rfl (by omega) fun h2 H2 F2 => ?_
      refine putS (j := 2) (i := 2) H2 (by simp; omega) (by simp) rfl (by omega) fun h3 H3 F3 => ?_
      refine putS (j := 3) (i := 3) H3 (by simp; omega) (by simp) rfl (by omega) fun h4 H4 F4 => ?_
      refine putS (j := 4) (i := 4) H4 (by simp; omega) (by simp) rfl (by omega) fun h5 H5 F5 => ?_
      simp only [List.set_cons_zero, List.set_cons_succ] at H5
      exact hK _ h5 (by simp) (copk4 (by omega) (by omega) (by omega)) H5 ((((F1.trans F2).trans F3).trans F4).trans F5)
  · rw [if_neg (by simpa using g0)]
    have ho : off < 65536 := by omega
    by_cases g1 : (len : Int) > 64
    · simp only [st_reg, st_ret, st_exit, st_skip, st_test, st_block, st_cond, sq_reg, sq_ret, sq_exit, sq_skip, sq_test, sq_cond, sq_block, sq_seq, sq_loop, SK_norm, SK_exit, SK_ret, BK_norm, BK_ret, BK_same, BK_exit, LK_norm, LK_exit, LK_ret, endK_norm, endK_ret, M_emitCopy.k16, M_emitCopy.k17, M_emitCopy.k18, M_emitCopy.k19, M_emitCopy.k20, M_emitCopy.k21, M_emitCopy.k22, M_emitCopy.res, M_emitCopy.r21, M_emitCopy.r22, M_emitCopy.r23, M_emitCopy.r32, M_emitCopy.r24, M_emitCopy.r25, M_emitCopy.r26, M_emitCopy.r27, M_emitCopy.r28, M_emitCopy.r29, M_emitCopy.r30, M_emitCopy.r31]
      rw [if_pos (by simpa using g1)]
      by_cases g2 : (off : Int) < 2048
      · rw [if_pos (by simpa using g2)]
        have ew : IntKind.wrap .i64 ((len : Int) - 8) = ((len - 8 : Nat) : Int) := by rw [w_i64 (by omega) (by omega)]; omega
        simp only [ew]
        obtain ⟨x0, x1, hx⟩ := len2 (cut_len (M := M) (o := o) (k := 2) (by omega))
        rw [← putL_self (M := M) (o := o) (k := 2) (by omega), hx] at HB
        rw [tag8 (o := off) (by omega), w_u8_nat]
        refine putS (j := 1) (i := 1) HB (by simp; omega) (by simp) rfl (by omega) fun h1 H1 F1 => ?_
        refine putS (j := 0) (i := 0) H1 (by simp; omega) (by simp) rfl (by omega) fun h2 H2 F2 => ?_
        simp only [List.set_cons_zero, List.set_cons_succ] at H2
        refine ⟨by omega, by omega, ?_⟩
        rw [show Int.toNat (2 : Int) = 2 from rfl, subP_at (by omega)]
        refine emitRepeat H2 (by rw [putL_len (by simp; omega)]; omega) (by omega) (by omega) (by omega) (by omega) fun enc h6 q1 q2 q3 q4 => ?_
        have ep := putL_putL (M := M) (o := o) (L1 := [((off / 256 * 32 + (8 - 4) * 4 + 1 : Nat) : Int), ((off % 256 : Nat) : Int)]) (L2 := enc) (by simp; omega)
        have ec : IntKind.wrap .i64 (2 + (enc.length : Int)) = (([((off / 256 * 32 + (8 - 4) * 4 + 1 : Nat) : Int), ((off % 256 : Nat) : Int)] ++ enc).length : Nat) := by
          rw [w_i64 (by omega) (by omega)]; simp; omega
        rw [ec]
        refine hK _ h6 (by simp; omega) ?_ (by rw [← ep]; exact q3) ((F1.trans F2).trans q4)
        have := (cop1 (s2 := true) (o := off) (n := 8) (by omega) (by omega) (by omega)).app q2
        rwa [show 8 + (len - 8) = len by omega] at this
      · rw [if_neg (by simpa using g2)]
        have ew : IntKind.wrap .i64 ((len : Int) - 60) = ((len - 60 : Nat) : Int) := by rw [w_i64 (by omega) (by omega)]; omega
        simp only [ew]
        obtain ⟨x0, x1, x2, hx⟩ := len3 (cut_len (M := M) (o := o) (k := 3) (by omega))
        rw [← putL_self (M := M) (o := o) (k := 3) (by omega), hx] at HB
        simp only [w_u8_div, w_u8_nat]
        refine putS (j := 2) (i := 2) HB (by simp; omega) (by simp) rfl (by omega) fun h1 H1 F1 => ?_
        refine putS (j := 1) (i := 1) H1 (by simp; omega) (by simp) rfl (by omega) fun h2 H2 F2 => ?_
        refine putS (j := 0) (i := 0) H2 (by simp; omega) (by simp) rfl (by omega) fun h3 H3 F3 => ?_
        simp only [List.set_cons_zero, List.set_cons_succ] at H3
        refine ⟨by omega, by omega, ?_⟩
        rw [show Int.toNat (3 : Int) = 3 from rfl, subP_at (by omega)]
        refine emitRepeat H3 (by rw [putL_len (by simp; omega)]; omega) (by omega) (by omega) (by omega) (by omega) fun enc h6 q1 q2 q3 q4 => ?_
        have ep := putL_putL (M := M) (o := o) (L1 := [238, ((off % 256 : Nat) : Int), ((off / 2 ^ 8 % 256 : Nat) : Int)]) (L2 := enc) (by simp; omega)
        have ec : IntKind.wrap .i64 (3 + (enc.length : Int)) = (([238, ((off % 256 : Nat) : Int), ((off / 2 ^ 8 % 256 : Nat) : Int)] ++ enc).length : Nat) := by
          rw [w_i64 (by omega) (by omega)]; simp; omega
        rw [ec]
        refine hK _ h6 (by simp; omega) ?_ (by rw [← ep]; exact q3) (((F1.trans F2).trans F3).trans q4)
        show CopS true _ off len
        have := (copk2 (s2 := true) (o := off) (n := 60) ho (by omega) (by omega)).app q2
        rwa [show 60 + (len - 60) = len by omega] at this
    · simp only [st_reg, st_ret, st_exit, st_skip, st_test, st_block, st_cond, sq_reg, sq_ret, sq_exit, sq_skip, sq_test, sq_cond, sq_block, sq_seq, sq_loop, SK_norm, SK_exit, SK_ret, BK_norm, BK_ret, BK_same, BK_exit, LK_norm, LK_exit, LK_ret, endK_norm, endK_ret, M_emitCopy.k16, M_emitCopy.k23, M_emitCopy.k24, M_emitCopy.k25, M_emitCopy.k26, M_emitCopy.k27, M_emitCopy.k28, M_emitCopy.res, M_emitCopy.r21, M_emitCopy.r33, M_emitCopy.r34, M_emitCopy.r35, M_emitCopy.r36, M_emitCopy.r37, M_emitCopy.r38, M_emitCopy.r39, M_emitCopy.r40]
      rw [if_neg (by simpa using g1)]
      have fin2 : ∀ h3 enc, enc.length ≤ 5 → (∀ s2, CopS s2 enc off len) → Blk h3 db ((putL M o enc).map (Value.int .u8)) 5 → Fr (· = db) h h3 → K enc.length h3 := fun h3 enc q1 q2 q3 q4 => hK enc h3 (by omega) (q2 _) q3 q4
      by_cases g : len ≥ 12 ∨ off ≥ 2048
      · have p : 0 ≤ (2 : Int) ∧ (2 : Int) < ((n : Nat) : Int) ∧ ptrE (some (⟨db, o, none⟩ : Addr)) fun a1 => st1 (Addr.add (Addr.add a1 (Int.toNat (2 : Int) * 1)) 0) (.int .u8 (IntKind.wrap .u8 (Int.fdiv (off : Int) (2 ^ 8)))) h fun h2 =>
            0 ≤ (1 : Int) ∧ (1 : Int) < ((n : Nat) : Int) ∧ ptrE (some (⟨db, o, none⟩ : Addr)) fun a1 => st1 (Addr.add (Addr.add a1 (Int.toNat (1 : Int) * 1)) 0) (.int .u8 (IntKind.wrap .u8 (off : Int))) h2 fun h2 =>
            0 ≤ (0 : Int) ∧ (0 : Int) < ((n : Nat) : Int) ∧ ptrE (some (⟨db, o, none⟩ : Addr)) fun a1 => st1 (Addr.add (Addr.add a1 (Int.toNat (0 : Int) * 1)) 0) (.int .u8 (bOr .u8 (IntKind.wrap .u8 (IntKind.wrap .u8 (IntKind.wrap .i64 ((len : Int) - 1)) * 2 ^ 2)) 2)) h2 fun h2 => K 3 h2 := by
          obtain ⟨x0, x1, x2, hx⟩ := len3 (cut_len (M := M) (o := o) (k := 3) (by omega))
          rw [← putL_self (M := M) (o := o) (k := 3) (by omega), hx] at HB
          rw [(tag2 (by omega) (by omega)).1, w_u8_div, w_u8_nat]
          refine putS (j := 2) (i := 2) HB (by simp; omega) (by simp) rfl (by omega) fun h1 H1 F1 => ?_
          refine putS (j := 1) (i := 1) H1 (by simp; omega) (by simp) rfl (by omega) fun h2 H2 F2 => ?_
          refine putS (j := 0) (i := 0) H2 (by simp; omega) (by simp) rfl (by omega) fun h3 H3 F3 => ?_
          simp only [List.set_cons_zero, List.set_cons_succ] at H3
          exact fin2 h3 _ (by simp) (fun s2 => copk2 ho (by omega) (by omega)) H3 ((F1.trans F2).trans F3)
        by_cases g2 : (len : Int) ≥ 12
        · rw [if_neg (by simpa using g2), if_pos trivial]; exact p
        · rw [if_pos (by simpa using g2), if_pos (by simp; omega)]; exact p
      · rw [if_pos (by simp; omega), if_neg (by simp; omega)]
        obtain ⟨x0, x1, hx⟩ := len2 (cut_len (M := M) (o := o) (k := 2) (by omega))
        rw [← putL_self (M := M) (o := o) (k := 2) (by omega), hx] at HB
        rw [tag1' (by omega) hlen (by omega), w_u8_nat]
        refine putS (j := 1) (i := 1) HB (by simp; omega) (by simp) rfl (by omega) fun h1 H1 F1 => ?_
        refine putS (j := 0) (i := 0) H1 (by simp; omega) (by simp) rfl (by omega) fun h2 H2 F2 => ?_
        simp only [List.set_cons_zero, List.set_cons_succ] at H2
        exact fin2 h2 _ (by simp) (fun s2 => cop1 (by omega) hlen (by omega)) H2 (F1.trans F2)

set_option maxRecDepth 1000000 in
set_option maxHeartbeats 1000000 in
theorem emitCopyNoRepeat : ∀ (len : Nat) {h : Heap} {db o n c off : Nat} {M : List Int} {K : Int → Heap → Prop}, (HB : Blk h db (M.map (Value.int .u8)) 5) → (hon : o + n ≤ M.length) → (hc : n ≤ c) → (hn : len / 12 + 10 ≤ n) → (hlen : 4 ≤ len) → (hlen2 : len < 2 ^ 24) → (hoff : off < 2 ^ 31) →
    (hK : ∀ enc h', enc.length ≤ len / 12 + 10 → (∀ s2, CopS s2 enc off len) → Blk h' db ((putL M o enc).map (Value.int .u8)) 5 → Fr (· = db) h h' → K enc.length h') → c_emitCopyNoRepeat ⟨some ⟨db, o, none⟩, n, c⟩ off len h K := by
  intro len
  induction len using Nat.strongRecOn with | _ len ih =>
  intro h db o n c off M K HB hon hc hn hlen hlen2 hoff hK
  apply M_emitCopyNoRepeat.calls
  simp only [st_reg, st_ret, st_exit, st_skip, st_test, st_block, st_cond, sq_reg, sq_ret, sq_exit, sq_skip, sq_test, sq_cond, sq_block, sq_seq, sq_loop, SK_norm, SK_exit, SK_ret, BK_norm, BK_ret, BK_same, BK_exit, LK_norm, LK_exit, LK_ret, endK_norm, endK_ret, M_emitCopyNoRepeat.stm, M_emitCopyNoRepeat.k0, M_emitCopyNoRepeat.k1, M_emitCopyNoRepeat.k2, M_emitCopyNoRepeat.init, M_emitCopyNoRepeat.res, M_emitCopyNoRepeat.r0, M_emitCopyNoRepeat.r1, M_emitCopyNoRepeat.r2, M_emitCopyNoRepeat.r3]
  by_cases g0 : (off : Int) ≥ 65536
  · rw [if_pos (by simpa using g0)]
    by_cases g1 : (len : Int) > 64
    · rw [if_pos (by simpa using g1)]
      simp only [st_reg, st_ret, st_exit, st_skip, st_test, st_block, st_cond, sq_reg, sq_ret, sq_exit, sq_skip, sq_test, sq_cond, sq_block, sq_seq, sq_loop, SK_norm, SK_exit, SK_ret, BK_norm, BK_ret, BK_same, BK_exit, LK_norm, LK_exit, LK_ret, endK_norm, endK_ret, M_emitCopyNoRepeat.k3, M_emitCopyNoRepeat.k4, M_emitCopyNoRepeat.k5, M_emitCopyNoRepeat.k6, M_emitCopyNoRepeat.k7, M_emitCopyNoRepeat.k8, M_emitCopyNoRepeat.k9, M_emitCopyNoRepeat.k10, M_emitCopyNoRepeat.k11, M_emitCopyNoRepeat.k12, M_emitCopyNoRepeat.k13, M_emitCopyNoRepeat.k14, M_emitCopyNoRepeat.k15, M_emitCopyNoRepeat.res, M_emitCopyNoRepeat.r4, M_emitCopyNoRepeat.r5, M_emitCopyNoRepeat.r6, M_emitCopyNoRepeat.r7, M_emitCopyNoRepeat.r8, M_emitCopyNoRepeat.r9, M_emitCopyNoRepeat.r10, M_emitCopyNoRepeat.r11, M_emitCopyNoRepeat.r12, M_emitCopyNoRepeat.r13, M_emitCopyNoRepeat.r14, M_emitCopyNoRepeat.r15, M_emitCopyNoRepeat.r16, M_emitCopyNoRepeat.r17, M_emitCopyNoRepeat.r18, M_emitCopyNoRepeat.r19, M_emitCopyNoRepeat.r20]
      have ew : IntKind.wrap .i64 ((len : Int) - 64) = ((len - 64 : Nat) : Int) := by rw [w_i64 (by omega) (by omega)]; omega
      simp only [ew]
      by_cases g2 : 4 ≤ len - 64
      · obtain ⟨x0, x1, x2, x3, x4, hx⟩ := len5 (cut_len (M := M) (o := o) (k := 5) (by omega))
        rw [← putL_self (M := M) (o := o) (k := 5) (by omega), hx] at HB
        simp only [w_u8_div, w_u8_nat]
        refine putS (j := 4) (i := 4) HB (by simp; omega) (by simp) rfl (by omega) fun h1 H1 F1 => ?_
        refine putS (j := 3) (i := 3) H1 (by simp; omega) (by simp) rfl (by omega) fun h2 H2 F2 => ?_
        refine putS (j := 2) (i := 2) H2 (by simp; omega) (by simp) rfl (by omega) fun h3 H3 F3 => ?_
        refine putS (j := 1) (i := 1) H3 (by simp; omega) (by simp) rfl (by omega) fun h4 H4 F4 => ?_
        refine putS (j := 0) (i := 0) H4 (by simp; omega) (by simp) rfl (by omega) fun h5 H5 F5 => ?_
        simp only [List.set_cons_zero, List.set_cons_succ] at H5
        have hF := (((F1.trans F2).trans F3).trans F4).trans F5
        rw [if_pos (by simp; omega)]
        refine ⟨by omega, by omega, ?_⟩
        rw [show Int.toNat (5 : Int) = 5 from rfl, subP_at (by omega)]
        refine ih (len - 64) (by omega) H5 (by rw [putL_len (by simp; omega)]; omega) (by omega) (by omega) (by omega) (by omega) (by omega) fun enc h6 q1 q2 q3 q4 => ?_
        have ep := putL_putL (M := M) (o := o) (L1 := [255, ((off % 256 : Nat) : Int), ((off / 2 ^ 8 % 256 : Nat) : Int), ((off / 2 ^ 16 % 256 : Nat) : Int), ((off / 2 ^ 24 % 256 : Nat) : Int)]) (L2 := enc) (by simp; omega)
        have ec : IntKind.wrap .i64 (5 + (enc.length : Int)) = (([255, ((off % 256 : Nat) : Int), ((off / 2 ^ 8 % 256 : Nat) : Int), ((off / 2 ^ 16 % 256 : Nat) : Int), ((off / 2 ^ 24 % 256 : Nat) : Int)] ++ enc).length : Nat) := by
          rw [w_i64 (by omega) (by omega)]; simp; omega
        rw [ec]
        refine hK _ h6 (by simp; omega) ?_ (by rw [← ep]; exact q3) (hF.trans q4)
        intro s2
        have := (copk4 (s2 := s2) (o := off) (n := 64) (by omega) (by omega) (by omega)).app (q2 s2).rep
        rwa [show 64 + (len - 64) = len by omega] at this
      · obtain ⟨x0, x1, x2, x3, x4, x5, x6, x7, x8, x9, hx⟩ := len10 (cut_len (M := M) (o := o) (k := 10) (by omega))
        rw [← putL_self (M := M) (o := o) (k := 10) (by omega), hx] at HB
        have et : bOr .u8 (IntKind.wrap .u8 (IntKind.wrap .u8 (IntKind.wrap .i64 (((len - 64 : Nat) : Int) - 1)) * 2 ^ 2)) 3 = ((((len - 64) - 1) * 4 + 3 : Nat) : Int) := (tag2 (n := len - 64) (by omega) (by omega)).2
        simp only [w_u8_div, w_u8_nat, et, show IntKind.wrap .i64 ((5 : Int) + 0) = 5 from by decide, show IntKind.wrap .i64 ((5 : Int) + 1) = 6 from by decide, show IntKind.wrap .i64 ((5 : Int) + 2) = 7 from by decide, show IntKind.wrap .i64 ((5 : Int) + 3) = 8 from by decide, show IntKind.wrap .i64 ((5 : Int) + 4) = 9 from by decide, show IntKind.wrap .i64 ((5 : Int) + 5) = 10 from by decide]
        refine putS (j := 4) (i := 4) HB (by simp; omega) (by simp) rfl (by omega) fun h1 H1 F1 => ?_
        refine putS (j := 3) (i := 3) H1 (by simp; omega) (by simp) rfl (by omega) fun h2 H2 F2 => ?_
        refine putS (j := 2) (i := 2) H2 (by simp; omega) (by simp) rfl (by omega) fun h3 H3 F3 => ?_
        refine putS (j := 1) (i := 1) H3 (by simp; omega) (by simp) rfl (by omega) fun h4 H4 F4 => ?_
        refine putS (j := 0) (i := 0) H4 (by simp; omega) (by simp) rfl (by omega) fun h5 H5 F5 => ?_
        rw [if_neg (by simp; omega), if_neg (by simp; omega)]
        refine putS (j := 5) (i := 5) H5 (by simp; omega) (by simp) rfl (by omega) fun h6 H6 F6 => ?_
        refine putS (j := 6) (i := 6) H6 (by simp; omega) (by simp) rfl (by omega) fun h7 H7 F7 => ?_
        refine putS (j := 7) (i := 7) H7 (by simp; omega) (by simp) rfl (by omega) fun h8 H8 F8 => ?_
        refine putS (j := 8) (i := 8) H8 (by simp; omega) (by simp) rfl (by omega) fun h9 H9 F9 => ?_
        refine putS (j := 9) (i := 9) H9 (by simp; omega) (by simp) rfl (by omega) fun h10 H10 F10 => ?_
        simp only [List.set_cons_zero, List.set_cons_succ] at H10
        have hF := ((((((((F1.trans F2).trans F3).trans F4).trans F5).trans F6).trans F7).trans F8).trans F9).trans F10
        refine hK _ h10 (by simp) ?_ H10 hF
        intro s2
        have := (copk4 (s2 := s2) (o := off) (n := 64) (by omega) (by omega) (by omega)).app (copk4 (s2 := s2) (o := off) (n := len - 64) (by omega) (by omega) (by omega)).rep
        rw [show 64 + (len - 64) = len by omega] at this
        exact this
    · rw [if_neg (by simpa using g1)]
      simp only [st_reg, st_ret, st_exit, st_skip, st_test, st_block, st_cond, sq_reg, sq_ret, sq_exit, sq_skip, sq_test, sq_cond, sq_block, sq_seq, sq_loop, SK_norm, SK_exit, SK_ret, BK_norm, BK_ret, BK_same, BK_exit, LK_norm, LK_exit, LK_ret, endK_norm, endK_ret, M_emitCopyNoRepeat.k10, M_emitCopyNoRepeat.k11, M_emitCopyNoRepeat.k12, M_emitCopyNoRepeat.k13, M_emitCopyNoRepeat.k14, M_emitCopyNoRepeat.k15, M_emitCopyNoRepeat.res, M_emitCopyNoRepeat.r13, M_emitCopyNoRepeat.r14, M_emitCopyNoRepeat.r15, M_emitCopyNoRepeat.r16, M_emitCopyNoRepeat.r17, M_emitCopyNoRepeat.r18, M_emitCopyNoRepeat.r19, M_emitCopyNoRepeat.r20]
      rw [if_neg (by simp; omega)]
      obtain ⟨x0, x1, x2, x3, x4, hx⟩ := len5 (cut_len (M := M) (o := o) (k := 5) (by omega))
      rw [← putL_self (M := M) (o := o) (k := 5) (by omega), hx] at HB
      simp only [w_u8_div, w_u8_nat, (tag2 (n := len) (by omega) (by omega)).2, show IntKind.wrap .i64 ((0 : Int) + 0) = 0 from by decide, show IntKind.wrap .i64 ((0 : Int) + 1) = 1 from by decide, show IntKind.wrap .i64 ((0 : Int) + 2) = 2 from by decide, show IntKind.wrap .i64 ((0 : Int) + 3) = 3 from by decide, show IntKind.wrap .i64 ((0 : Int) + 4) = 4 from by decide, show IntKind.wrap .i64 ((0 : Int) + 5) = 5 from by decide]
      refine putS (j := 0) (i := 0) HB (by simp; omega) (by simp) rfl (by omega) fun h1 H1 F1 => ?_
      refine putS (j := 1) (i := 1) H1 (by simp; omega) (by simp) rfl (by omega) fun h2 H2 F2 => ?_
      refine putS (j := 2) (i := 2) H2 (by simp; omega) (by simp) rfl (by omega) fun h3 H3 F3 => ?_
      refine putS (j := 3) (i := 3) H3 (by simp; omega) (by simp) rfl (by omega) fun h4 H4 F4 => ?_
      refine putS (j := 4) (i := 4) H4 (by simp; omega) (by simp) rfl (by omega) fun h5 H5 F5 => ?_
      simp only [List.set_cons_zero, List.set_cons_succ] at H5
      exact hK _ h5 (by simp) (fun s2 => copk4 (by omega) (by omega) (by omega)) H5 ((((F1.trans F2).trans F3).trans F4).trans F5)
  · rw [if_neg (by simpa using g0)]
    have ho : off < 65536 := by omega
    by_cases g1 : (len : Int) > 64
    · simp only [st_reg, st_ret, st_exit, st_skip, st_test, st_block, st_cond, sq_reg, sq_ret, sq_exit, sq_skip, sq_test, sq_cond, sq_block, sq_seq, sq_loop, SK_norm, SK_exit, SK_ret, BK_norm, BK_ret, BK_same, BK_exit, LK_norm, LK_exit, LK_ret, endK_norm, endK_ret, M_emitCopyNoRepeat.k16, M_emitCopyNoRepeat.k17, M_emitCopyNoRepeat.k18, M_emitCopyNoRepeat.k19, M_emitCopyNoRepeat.k20, M_emitCopyNoRepeat.res, M_emitCopyNoRepeat.r21, M_emitCopyNoRepeat.r22, M_emitCopyNoRepeat.r23, M_emitCopyNoRepeat.r24, M_emitCopyNoRepeat.r25, M_emitCopyNoRepeat.r26]
      rw [if_pos (by simpa using g1)]
      have ew : IntKind.wrap .i64 ((len : Int) - 60) = ((len - 60 : Nat) : Int) := by rw [w_i64 (by omega) (by omega)]; omega
      simp only [ew]
      obtain ⟨x0, x1, x2, hx⟩ := len3 (cut_len (M := M) (o := o) (k := 3) (by omega))
      rw [← putL_self (M := M) (o := o) (k := 3) (by omega), hx] at HB
      simp only [w_u8_div, w_u8_nat]
      refine putS (j := 2) (i := 2) HB (by simp; omega) (by simp) rfl (by omega) fun h1 H1 F1 => ?_
      refine putS (j := 1) (i := 1) H1 (by simp; omega) (by simp) rfl (by omega) fun h2 H2 F2 => ?_
      refine putS (j := 0) (i := 0) H2 (by simp; omega) (by simp) rfl (by omega) fun h3 H3 F3 => ?_
      simp only [List.set_cons_zero, List.set_cons_succ] at H3
      refine ⟨by omega, by omega, ?_⟩
      rw [show Int.toNat (3 : Int) = 3 from rfl, subP_at (by omega)]
      refine ih (len - 60) (by omega) H3 (by rw [putL_len (by simp; omega)]; omega) (by omega) (by omega) (by omega) (by omega) (by omega) fun enc h6 q1 q2 q3 q4 => ?_
      have ep := putL_putL (M := M) (o := o) (L1 := [238, ((off % 256 : Nat) : Int), ((off / 2 ^ 8 % 256 : Nat) : Int)]) (L2 := enc) (by simp; omega)
      have ec : IntKind.wrap .i64 (3 + (enc.length : Int)) = (([238, ((off % 256 : Nat) : Int), ((off / 2 ^ 8 % 256 : Nat) : Int)] ++ enc).length : Nat) := by
        rw [w_i64 (by omega) (by omega)]; simp; omega
      rw [ec]
      refine hK _ h6 (by simp; omega) ?_ (by rw [← ep]; exact q3) (((F1.trans F2).trans F3).trans q4)
      intro s2
      have := (copk2 (s2 := s2) (o := off) (n := 60) ho (by omega) (by omega)).app (q2 s2).rep
      rwa [show 60 + (len - 60) = len by omega] at this
    · simp only [st_reg, st_ret, st_exit, st_skip, st_test, st_block, st_cond, sq_reg, sq_ret, sq_exit, sq_skip, sq_test, sq_cond, sq_block, sq_seq, sq_loop, SK_norm, SK_exit, SK_ret, BK_norm, BK_ret, BK_same, BK_exit, LK_norm, LK_exit, LK_ret, endK_norm, endK_ret, M_emitCopyNoRepeat.k16, M_emitCopyNoRepeat.k21, M_emitCopyNoRepeat.k22, M_emitCopyNoRepeat.k23, M_emitCopyNoRepeat.k24, M_emitCopyNoRepeat.k25, M_emitCopyNoRepeat.k26, M_emitCopyNoRepeat.res, M_emitCopyNoRepeat.r21, M_emitCopyNoRepeat.r27, M_emitCopyNoRepeat.r28, M_emitCopyNoRepeat.r29, M_emitCopyNoRepeat.r30, M_emitCopyNoRepeat.r31, M_emitCopyNoRepeat.r32, M_emitCopyNoRepeat.r33, M_emitCopyNoRepeat.r34]
      rw [if_neg (by simpa using g1)]
      have fin2 : ∀ h3 enc, enc.length ≤ 5 → (∀ s2, CopS s2 enc off len) → Blk h3 db ((putL M o enc).map (Value.int .u8)) 5 → Fr (· = db) h h3 → K enc.length h3 := fun h3 enc q1 q2 q3 q4 => hK enc h3 (by omega) (fun s2 => q2 _) q3 q4
      by_cases g : len ≥ 12 ∨ off ≥ 2048
      · have p : 0 ≤ (2 : Int) ∧ (2 : Int) < ((n : Nat) : Int) ∧ ptrE (some (⟨db, o, none⟩ : Addr)) fun a1 => st1 (Addr.add (Addr.add a1 (Int.toNat (2 : Int) * 1)) 0) (.int .u8 (IntKind.wrap .u8 (Int.fdiv (off : Int) (2 ^ 8)))) h fun h2 =>
            0 ≤ (1 : Int) ∧ (1 : Int) < ((n : Nat) : Int) ∧ ptrE (some (⟨db, o, none⟩ : Addr)) fun a1 => st1 (Addr.add (Addr.add a1 (Int.toNat (1 : Int) * 1)) 0) (.int .u8 (IntKind.wrap .u8 (off : Int))) h2 fun h2 =>
            0 ≤ (0 : Int) ∧ (0 : Int) < ((n : Nat) : Int) ∧ ptrE (some (⟨db, o, none⟩ : Addr)) fun a1 => st1 (Addr.add (Addr.add a1 (Int.toNat (0 : Int) * 1)) 0) (.int .u8 (bOr .u8 (IntKind.wrap .u8 (IntKind.wrap .u8 (IntKind.wrap .i64 ((len : Int) - 1)) * 2 ^ 2)) 2)) h2 fun h2 => K 3 h2 := by
          obtain ⟨x0, x1, x2, hx⟩ := len3 (cut_len (M := M) (o := o) (k := 3) (by omega))
          rw [← putL_self (M := M) (o := o) (k := 3) (by omega), hx] at HB
          rw [(tag2 (by omega) (by omega)).1, w_u8_div, w_u8_nat]
          refine putS (j := 2) (i := 2) HB (by simp; omega) (by simp) rfl (by omega) fun h1 H1 F1 => ?_
          refine putS (j := 1) (i := 1) H1 (by simp; omega) (by simp) rfl (by omega) fun h2 H2 F2 => ?_
          refine putS (j := 0) (i := 0) H2 (by simp; omega) (by simp) rfl (by omega) fun h3 H3 F3 => ?_
          simp only [List.set_cons_zero, List.set_cons_succ] at H3
          exact fin2 h3 _ (by simp) (fun s2 => copk2 ho (by omega) (by omega)) H3 ((F1.trans F2).trans F3)
        by_cases g2 : (len : Int) ≥ 12
        · rw [if_neg (by simpa using g2), if_pos trivial]; exact p
        · rw [if_pos (by simpa using g2), if_pos (by simp; omega)]; exact p
      · rw [if_pos (by simp; omega), if_neg (by simp; omega)]
        obtain ⟨x0, x1, hx⟩ := len2 (cut_len (M := M) (o := o) (k := 2) (by omega))
        rw [← putL_self (M := M) (o := o) (k := 2) (by omega), hx] at HB
        rw [tag1' (by omega) hlen (by omega), w_u8_nat]
        refine putS (j := 1) (i := 1) HB (by simp; omega) (by simp) rfl (by omega) fun h1 H1 F1 => ?_
        refine putS (j := 0) (i := 0) H1 (by simp; omega) (by simp) rfl (by omega) fun h2 H2 F2 => ?_
        simp only [List.set_cons_zero, List.set_cons_succ] at H2
        exact fin2 h2 _ (by simp) (fun s2 => cop1 (by omega) hlen (by omega)) H2 (F1.trans F2)
end
end Go.Proofs.YtibleenkgmkpmaaDoor
