/- A part of the proof. -/
import Derived.Test.YtibleenkgmkpmaaDoorHr
import Derived.Test.YtibleenkgmkpmaaDoorS2z
import Derived.Test.YtibleenkgmkpmaaDoorModels3
set_option linter.unusedSimpArgs false
set_option linter.unusedVariables false
set_option linter.unusedSectionVars false
namespace Go.Proofs.YtibleenkgmkpmaaDoor
open Go Go.Vc Go.Ml Go.S2

theorem w_u8_div (x k : Nat) : IntKind.wrap .u8 (Int.fdiv (x : Int) (2 ^ k)) = ((x / 2 ^ k % 256 : Nat) : Int) := by rw [fdiv_nat, w_u8_nat]
theorem or_u8 {x y : Nat} (hx : x < 256) (hy : y < 256) : bOr .u8 (x : Int) (y : Int) = ((x ||| y : Nat) : Int) := or_nat rfl (by show x < 256; exact hx) (by show y < 256; exact hy)

theorem fwd_add (out : List Int) (o a : Nat) : ∀ b, fwd (fwd out o a) o b = fwd out o (a + b)
  | 0 => rfl
  | b + 1 => by
    rw [← Nat.add_assoc]
    simp only [fwd]
    rw [fwd_add out o a b, fwd_len, Nat.add_assoc out.length a b]

/-- Bytes that are a copy by an offset that is the last one, of so many bytes. -/
def RepS (s2 : Bool) (enc : List Int) (off len : Nat) : Prop := Bts enc ∧ 0 < enc.length ∧ ∀ out : List Int, 0 < off → off ≤ out.length → SeqG s2 enc out off (fwd out off len) off
/-- Bytes that are a copy. -/
def CopS (s2 : Bool) (enc : List Int) (off len : Nat) : Prop := Bts enc ∧ 0 < enc.length ∧ ∀ (out : List Int) (last : Nat), 0 < off → off ≤ out.length → SeqG s2 enc out last (fwd out off len) off
theorem CopS.rep {s2 : Bool} {enc : List Int} {off len : Nat} (H : CopS s2 enc off len) : RepS s2 enc off len := ⟨H.1, H.2.1, fun out h0 h1 => H.2.2 out off h0 h1⟩
theorem CopS.app {s2 : Bool} {e1 e2 : List Int} {off a b : Nat} (H1 : CopS s2 e1 off a) (H2 : RepS s2 e2 off b) : CopS s2 (e1 ++ e2) off (a + b) := by
  refine ⟨H1.1.app H2.1, by have := H1.2.1; simp; omega, fun out last h0 h1 => ?_⟩
  have := (H1.2.2 out last h0 h1).trans (H2.2.2 (fwd out off a) h0 (by rw [fwd_len]; omega)) (by rw [fwd_len (fwd out off a)]; omega)
  rwa [fwd_add] at this

theorem bts2 {a b : Nat} (ha : a ≤ 255) (hb : b ≤ 255) : Bts [(a : Int), (b : Int)] := by
  intro x hx
  rcases List.mem_cons.1 hx with rfl | hx
  · omega
  · obtain rfl := List.mem_singleton.1 hx; omega
theorem bts_cons {a : Nat} {l : List Int} (ha : a ≤ 255) (h : Bts l) : Bts ((a : Int) :: l) := by
  intro x hx
  rcases List.mem_cons.1 hx with rfl | hx
  · omega
  · exact h x hx

theorem cop1 {s2 : Bool} {o n : Nat} (h2 : o < 2048) (hn : 4 ≤ n) (hn2 : n ≤ 11) : CopS s2 [((o / 256 * 32 + (n - 4) * 4 + 1 : Nat) : Int), ((o % 256 : Nat) : Int)] o n :=
  ⟨bts2 (by omega) (by omega), by simp, fun _ _ h0 h1 => (elem_copy1 h0 h1 h2 hn hn2).seq⟩
theorem copk {s2 : Bool} {k o n : Nat} (hk : k = 2 ∨ k = 4) (h2 : o < 256 ^ k) (hn : 1 ≤ n) (hn2 : n ≤ 64) : CopS s2 ((((n - 1) * 4 + (k / 2 + 1) : Nat) : Int) :: leB k o) o n :=
  ⟨bts_cons (by omega) (leB_bts _ _), by simp, fun _ _ h0 h1 => (elem_copyk hk h0 h1 h2 hn hn2).seq⟩
theorem rep0 {o n : Nat} (hn : 4 ≤ n) (hn2 : n ≤ 8) : RepS true [(((n - 4) * 4 + 1 : Nat) : Int), 0] o n :=
  ⟨bts2 (b := 0) (by omega) (by omega), by simp, fun _ h0 h1 => (elem_rep0 h0 h1 hn hn2).seq⟩
theorem repk {k m o : Nat} (hk : 0 < k) (hk3 : k ≤ 3) (hm : m < 256 ^ k) : RepS true ((((k + 4) * 4 + 1 : Nat) : Int) :: 0 :: leB k m) o (m + moreBase (k + 4)) :=
  ⟨bts_cons (by omega) (bts_cons (a := 0) (by omega) (leB_bts _ _)), by simp, fun _ h0 h1 => (elem_repk hk hk3 h0 h1 hm).seq⟩

theorem tag1 {o l : Nat} (ho : o < 2048) (hl : l < 8) : bOr .u8 (bOr .u8 (IntKind.wrap .u8 (IntKind.wrap .u8 (Int.fdiv (o : Int) (2 ^ 8)) * 2 ^ 5)) (IntKind.wrap .u8 (IntKind.wrap .u8 (l : Int) * 2 ^ 2))) 1 = ((o / 256 * 32 + l * 4 + 1 : Nat) : Int) := by
  rw [w_u8_div, w_u8 (x := (l : Int)) (by omega) (by omega), w_u8 (x := ((o / 2 ^ 8 % 256 : Nat) : Int) * 2 ^ 5) (by omega) (by omega), w_u8 (by omega) (by omega)]
  have e1 : ((o / 2 ^ 8 % 256 : Nat) : Int) * 2 ^ 5 = ((o / 256 * 32 : Nat) : Int) := by omega
  have e2 : (l : Int) * 2 ^ 2 = ((l * 4 : Nat) : Int) := by omega
  rw [e1, e2, or_u8 (by omega) (by omega)]
  have hx : o / 256 * 32 ||| l * 4 < 2 ^ 8 := Nat.or_lt_two_pow (by omega) (by omega)
  have e3 : bOr .u8 ((o / 256 * 32 ||| l * 4 : Nat) : Int) 1 = ((o / 256 * 32 ||| l * 4 ||| 1 : Nat) : Int) := or_u8 hx (by decide)
  rw [e3, lor_tag1 (o / 256) (by omega) l (by omega)]

section
variable {h : Heap} {db o n c off len : Nat} {M : List Int} {K : Int → Heap → Prop}

set_option maxRecDepth 1000000 in
theorem emitRepeat (HB : Blk h db (M.map (Value.int .u8)) 5) (hon : o + n ≤ M.length) (hn : 5 ≤ n) (hlen : 4 ≤ len) (hlen2 : len < 2 ^ 24) (hoff : off < 2 ^ 31)
    (hK : ∀ enc h', enc.length ≤ 5 → RepS true enc off len → Blk h' db ((putL M o enc).map (Value.int .u8)) 5 → Fr (· = db) h h' → K enc.length h') : c_emitRepeat ⟨some ⟨db, o, none⟩, n, c⟩ off len h K := by
  apply M_emitRepeat.calls
  simp only [st_reg, st_ret, st_exit, st_skip, st_test, st_block, st_cond, sq_reg, sq_ret, sq_exit, sq_skip, sq_test, sq_cond, sq_block, sq_seq, sq_loop, SK_norm, SK_exit, SK_ret, BK_norm, BK_ret, BK_same, BK_exit, LK_norm, LK_exit, LK_ret, endK_norm, endK_ret, M_emitRepeat.stm, M_emitRepeat.k0, M_emitRepeat.k1, M_emitRepeat.k2, M_emitRepeat.k3, M_emitRepeat.k4, M_emitRepeat.k5, M_emitRepeat.k6, M_emitRepeat.init, M_emitRepeat.res, M_emitRepeat.r0, M_emitRepeat.r1, M_emitRepeat.r2, M_emitRepeat.r3, M_emitRepeat.r4, M_emitRepeat.r5, M_emitRepeat.r6, M_emitRepeat.r7, M_emitRepeat.r8, M_emitRepeat.r9]
  rw [w_i64 (x := (len : Int) - 4) (by omega) (by omega)]
  obtain ⟨l, rfl⟩ : ∃ l, len = l + 4 := ⟨len - 4, by omega⟩
  have el : (((l + 4 : Nat)) : Int) - 4 = (l : Nat) := by omega
  simp only [el]
  by_cases g8 : l ≤ 4
  · rw [if_pos (by simp; omega)]
    obtain ⟨x0, x1, hx⟩ := len2 (cut_len (M := M) (o := o) (k := 2) (by omega))
    rw [← putL_self (M := M) (o := o) (k := 2) (by omega), hx] at HB
    have ev : bOr .u8 (IntKind.wrap .u8 (IntKind.wrap .u8 (l : Int) * 2 ^ 2)) 1 = ((l * 4 + 1 : Nat) : Int) := by
      rw [w_u8 (x := (l : Int)) (by omega) (by omega), w_u8 (by omega) (by omega)]
      have e2 : (l : Int) * 2 ^ 2 = ((l * 4 : Nat) : Int) := by omega
      have e3 : bOr .u8 ((l * 4 : Nat) : Int) 1 = ((l * 4 ||| 1 : Nat) : Int) := or_u8 (by omega) (by decide)
      rw [e2, e3, (lor_tag2 l (by omega)).2.2]
    rw [ev]
    refine putS (j := 0) (i := 0) HB (by simp; omega) (by simp) rfl (by omega) fun h1 H1 F1 => ?_
    refine putS (j := 1) (i := 1) H1 (by simp; omega) (by simp) rfl (by omega) fun h2 H2 F2 => ?_
    simp only [List.set_cons_zero, List.set_cons_succ] at H2
    exact hK [((l * 4 + 1 : Nat) : Int), 0] h2 (by simp) (rep0 (n := l + 4) (by omega) (by omega)) H2 (F1.trans F2)
  rw [if_neg (by simp; omega)]
  by_cases g1 : l < 8 ∧ off < 2048
  · rw [if_pos (by simp; omega), if_pos (by simp; omega)]
    obtain ⟨x0, x1, hx⟩ := len2 (cut_len (M := M) (o := o) (k := 2) (by omega))
    rw [← putL_self (M := M) (o := o) (k := 2) (by omega), hx] at HB
    rw [tag1 g1.2 g1.1, w_u8_nat]
    refine putS (j := 1) (i := 1) HB (by simp; omega) (by simp) rfl (by omega) fun h1 H1 F1 => ?_
    refine putS (j := 0) (i := 0) H1 (by simp; omega) (by simp) rfl (by omega) fun h2 H2 F2 => ?_
    simp only [List.set_cons_zero, List.set_cons_succ] at H2
    exact hK [((off / 256 * 32 + l * 4 + 1 : Nat) : Int), ((off % 256 : Nat) : Int)] h2 (by simp) (cop1 (n := l + 4) g1.2 (by omega) (by omega)).rep H2 (F1.trans F2)
  rw [ite2_neg (by simp; omega)]
  simp only [st_reg, st_ret, st_exit, st_skip, st_test, st_block, st_cond, sq_reg, sq_ret, sq_exit, sq_skip, sq_test, sq_cond, sq_block, sq_seq, sq_loop, SK_norm, SK_exit, SK_ret, BK_norm, BK_ret, BK_same, BK_exit, LK_norm, LK_exit, LK_ret, endK_norm, endK_ret, M_emitRepeat.k7, M_emitRepeat.k8, M_emitRepeat.k9, M_emitRepeat.k10, M_emitRepeat.k11, M_emitRepeat.res, M_emitRepeat.r10, M_emitRepeat.r11, M_emitRepeat.r12, M_emitRepeat.r13, M_emitRepeat.r14, M_emitRepeat.r15]
  by_cases g2 : l < 260
  · rw [if_pos (by simp; omega)]
    obtain ⟨x0, x1, x2, hx⟩ := len3 (cut_len (M := M) (o := o) (k := 3) (by omega))
    rw [← putL_self (M := M) (o := o) (k := 3) (by omega), hx] at HB
    have e1 : (l : Int) - 4 = ((l - 4 : Nat) : Int) := by omega
    rw [w_i64 (by omega) (by omega), e1, w_u8_nat]
    refine putS (j := 2) (i := 2) HB (by simp; omega) (by simp) rfl (by omega) fun h1 H1 F1 => ?_
    refine putS (j := 1) (i := 1) H1 (by simp; omega) (by simp) rfl (by omega) fun h2 H2 F2 => ?_
    refine putS (j := 0) (i := 0) H2 (by simp; omega) (by simp) rfl (by omega) fun h3 H3 F3 => ?_
    simp only [List.set_cons_zero, List.set_cons_succ] at H3
    have hr := repk (k := 1) (m := l - 4) (o := off) (by omega) (by omega) (by omega)
    have em : l - 4 + moreBase (1 + 4) = l + 4 := by rw [show moreBase (1 + 4) = 8 from rfl]; omega
    rw [em] at hr
    exact hK [21, 0, (((l - 4) % 256 : Nat) : Int)] h3 (by simp) hr H3 ((F1.trans F2).trans F3)
  rw [if_neg (by simp; omega)]
  simp only [st_reg, st_ret, st_exit, st_skip, st_test, st_block, st_cond, sq_reg, sq_ret, sq_exit, sq_skip, sq_test, sq_cond, sq_block, sq_seq, sq_loop, SK_norm, SK_exit, SK_ret, BK_norm, BK_ret, BK_same, BK_exit, LK_norm, LK_exit, LK_ret, endK_norm, endK_ret, M_emitRepeat.k12, M_emitRepeat.k13, M_emitRepeat.k14, M_emitRepeat.k15, M_emitRepeat.k16, M_emitRepeat.k17, M_emitRepeat.res, M_emitRepeat.r16, M_emitRepeat.r17, M_emitRepeat.r18, M_emitRepeat.r19, M_emitRepeat.r20, M_emitRepeat.r21, M_emitRepeat.r22]
  by_cases g3 : l < 65792
  · rw [if_pos (by simp; omega)]
    obtain ⟨x0, x1, x2, x3, hx⟩ := len4 (cut_len (M := M) (o := o) (k := 4) (by omega))
    rw [← putL_self (M := M) (o := o) (k := 4) (by omega), hx] at HB
    have e1 : (l : Int) - 256 = ((l - 256 : Nat) : Int) := by omega
    rw [w_i64 (by omega) (by omega), e1, w_u8_div, w_u8_div]
    refine putS (j := 3) (i := 3) HB (by simp; omega) (by simp) rfl (by omega) fun h1 H1 F1 => ?_
    refine putS (j := 2) (i := 2) H1 (by simp; omega) (by simp) rfl (by omega) fun h2 H2 F2 => ?_
    refine putS (j := 1) (i := 1) H2 (by simp; omega) (by simp) rfl (by omega) fun h3 H3 F3 => ?_
    refine putS (j := 0) (i := 0) H3 (by simp; omega) (by simp) rfl (by omega) fun h4 H4 F4 => ?_
    simp only [List.set_cons_zero, List.set_cons_succ] at H4
    have hr := repk (k := 2) (m := l - 256) (o := off) (by omega) (by omega) (by omega)
    have em : l - 256 + moreBase (2 + 4) = l + 4 := by rw [show moreBase (2 + 4) = 260 from rfl]; omega
    rw [em] at hr
    have eB : [25, 0, (((l - 256) / 2 ^ 0 % 256 : Nat) : Int), (((l - 256) / 2 ^ 8 % 256 : Nat) : Int)] = (((2 + 4) * 4 + 1 : Nat) : Int) :: 0 :: leB 2 (l - 256) := by simp [leB]
    rw [eB] at H4
    exact hK _ h4 (by simp [leB_len]) hr H4 (((F1.trans F2).trans F3).trans F4)
  rw [if_neg (by simp; omega)]
  simp only [st_reg, st_ret, st_exit, st_skip, st_test, st_block, st_cond, sq_reg, sq_ret, sq_exit, sq_skip, sq_test, sq_cond, sq_block, sq_seq, sq_loop, SK_norm, SK_exit, SK_ret, BK_norm, BK_ret, BK_same, BK_exit, LK_norm, LK_exit, LK_ret, endK_norm, endK_ret, M_emitRepeat.k18, M_emitRepeat.k19, M_emitRepeat.k20, M_emitRepeat.k21, M_emitRepeat.k22, M_emitRepeat.k23, M_emitRepeat.k24, M_emitRepeat.k25, M_emitRepeat.k26, M_emitRepeat.res, M_emitRepeat.r23, M_emitRepeat.r24, M_emitRepeat.r25, M_emitRepeat.r26, M_emitRepeat.r27, M_emitRepeat.r28, M_emitRepeat.r29, M_emitRepeat.r30, M_emitRepeat.r31, M_emitRepeat.r32, M_emitRepeat.r33, M_emitRepeat.r34, M_emitRepeat.r35]
  have e1 : (l : Int) - 65536 = ((l - 65536 : Nat) : Int) := by omega
  rw [w_i64 (x := (l : Int) - 65536) (by omega) (by omega), e1, if_neg (by simp; omega)]
  obtain ⟨x0, x1, x2, x3, x4, hx⟩ := len5 (cut_len (M := M) (o := o) (k := 5) (by omega))
  rw [← putL_self (M := M) (o := o) (k := 5) (by omega), hx] at HB
  rw [w_u8_div, w_u8_div, w_u8_div]
  refine putS (j := 4) (i := 4) HB (by simp; omega) (by simp) rfl (by omega) fun h1 H1 F1 => ?_
  refine putS (j := 3) (i := 3) H1 (by simp; omega) (by simp) rfl (by omega) fun h2 H2 F2 => ?_
  refine putS (j := 2) (i := 2) H2 (by simp; omega) (by simp) rfl (by omega) fun h3 H3 F3 => ?_
  refine putS (j := 1) (i := 1) H3 (by simp; omega) (by simp) rfl (by omega) fun h4 H4 F4 => ?_
  refine putS (j := 0) (i := 0) H4 (by simp; omega) (by simp) rfl (by omega) fun h5 H5 F5 => ?_
  simp only [List.set_cons_zero, List.set_cons_succ] at H5
  rw [if_neg (by simp)]
  have hr := repk (k := 3) (m := l - 65536) (o := off) (by omega) (by omega) (by omega)
  have em : l - 65536 + moreBase (3 + 4) = l + 4 := by rw [show moreBase (3 + 4) = 65540 from rfl]; omega
  rw [em] at hr
  have eB : [29, 0, (((l - 65536) / 2 ^ 0 % 256 : Nat) : Int), (((l - 65536) / 2 ^ 8 % 256 : Nat) : Int), (((l - 65536) / 2 ^ 16 % 256 : Nat) : Int)] = (((3 + 4) * 4 + 1 : Nat) : Int) :: 0 :: leB 3 (l - 65536) := by simp [leB, Nat.div_div_eq_div_mul]
  rw [eB] at H5
  exact hK _ h5 (by simp [leB_len]) hr H5 ((((F1.trans F2).trans F3).trans F4).trans F5)
end
end Go.Proofs.YtibleenkgmkpmaaDoor
