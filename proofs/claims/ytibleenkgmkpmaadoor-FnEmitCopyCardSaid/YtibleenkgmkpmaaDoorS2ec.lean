/- A part of the proof. -/
import Derived.Test.YtibleenkgmkpmaaDoorHq
import Derived.Test.YtibleenkgmkpmaaDoorS2eb
import Derived.Test.YtibleenkgmkpmaaDoorModels3
set_option linter.unusedSimpArgs false
set_option linter.unusedVariables false
set_option linter.unusedSectionVars false
namespace Go.Proofs.YtibleenkgmkpmaaDoor
open Go Go.Vc Go.Ml Go.S2

/-- Bytes that are a literal. -/
def LitS (s2 : Bool) (enc dl : List Int) : Prop := ∀ (out : List Int) (last : Nat), SeqG s2 enc out last (out ++ dl) last

theorem copyL {h : Heap} {db o m n' : Nat} {M L dl : List Int} {s : Sl} {K : Int → Heap → Prop} (HB : Blk h db ((putL M o L).map (Value.int .u8)) 5) (hM : o + L.length + dl.length ≤ M.length) (hS : SlI h .u8 s dl) (hm : s.n = m) (hn : m ≤ n')
    (hK : ∀ h', Blk h' db ((putL M o (L ++ dl)).map (Value.int .u8)) 5 → Fr (· = db) h h' → K m h') : copyT Pg 5 (some ⟨db, o + L.length, none⟩) n' (.slice s.p s.n s.c) m h K := by
  have hl := hS.len
  have e3 : min m n' = m := by omega
  refine copy_blk (k := .u8) HB ts5 (news := dl) (by omega) ?_ (by rw [List.length_map, putL_len (by omega)]; omega) fun h' HB' HF' => ?_
  · rw [e3]
    have := src_sl hS (m := m) (by omega) (n := s.n) (c := s.c)
    rwa [List.take_of_length_le (by omega)] at this
  rw [e3]
  refine hK h' ?_ HF'
  rw [e3, ← List.map_take, ← List.map_drop, ← List.map_append, ← List.map_append] at HB'
  rw [← putL_putL (by omega)]
  unfold putL at HB' ⊢
  rwa [show m = dl.length by omega] at HB'

theorem or_u8_0 {x : Nat} (hx : x < 256) : bOr .u8 (x : Int) 0 = (x : Int) := by
  have := or_u8 (x := x) (y := 0) hx (by decide)
  simpa using this

section
variable {h : Heap} {db o n c : Nat} {M dl : List Int} {s : Sl} {K : Int → Heap → Prop}

set_option maxRecDepth 1000000 in
set_option maxHeartbeats 1000000 in
theorem emitLiteral (HB : Blk h db (M.map (Value.int .u8)) 5) (hon : o + n ≤ M.length) (hc : n ≤ c) (hn : dl.length + 6 ≤ n) (hS : SlI h .u8 s dl) (hne : ∀ a, 0 < s.n → s.p = some a → a.block ≠ db) (hb : Bts dl) (hdl : dl.length < 2 ^ 24)
    (hK : ∀ enc h', enc.length ≤ dl.length + 5 → (∀ s2, LitS s2 enc dl) → Bts enc → Blk h' db ((putL M o enc).map (Value.int .u8)) 5 → Fr (· = db) h h' → K enc.length h') : c_emitLiteral ⟨some ⟨db, o, none⟩, n, c⟩ s h K := by
  have hl := hS.len
  apply M_emitLiteral.calls
  simp only [st_reg, st_ret, st_exit, st_skip, st_test, st_block, st_cond, sq_reg, sq_ret, sq_exit, sq_skip, sq_test, sq_cond, sq_block, sq_seq, sq_loop, SK_norm, SK_exit, SK_ret, BK_norm, BK_ret, BK_same, BK_exit, LK_norm, LK_exit, LK_ret, endK_norm, endK_ret, M_emitLiteral.stm, M_emitLiteral.k0, M_emitLiteral.k1, M_emitLiteral.k2, M_emitLiteral.init, M_emitLiteral.res, M_emitLiteral.r0, M_emitLiteral.r1, M_emitLiteral.r2, M_emitLiteral.r3, M_emitLiteral.r10, M_emitLiteral.r11, M_emitLiteral.r12, M_emitLiteral.r28]
  by_cases h0 : dl.length = 0
  · rw [if_pos (by simp; omega)]
    have : dl = [] := List.length_eq_zero_iff.1 h0
    subst this
    refine hK [] h (by simp) (fun s2 out last => by rw [List.append_nil]; exact SeqG.nil) (fun x hx => by cases hx) ?_ (Fr.refl _ _)
    simpa [putL] using HB
  rw [if_neg (by simp; omega)]
  obtain ⟨m, hm⟩ : ∃ m, dl.length = m + 1 := ⟨dl.length - 1, by omega⟩
  have en : IntKind.wrap .u64 (IntKind.wrap .i64 ((s.n : Int) - 1)) = (m : Nat) := by
    rw [w_i64 (x := (s.n : Int) - 1) (by omega) (by omega), w_u64 (by omega) (by omega)]; omega
  simp only [en]
  -- the bytes, behind a head
  have tail : ∀ (L : List Int) (i : Nat) (h1 : Heap), L.length = i → i ≤ 5 → Blk h1 db ((putL M o L).map (Value.int .u8)) 5 → Fr (· = db) h h1 → Bts L → (∀ s2 out last, ElemG s2 (L ++ dl) out last (out ++ dl) last) →
      0 ≤ (i : Int) ∧ (i : Int) ≤ ((n : Nat) : Int) ∧ copyT Pg 5 (subP (some ⟨db, o, none⟩) (Int.toNat (i : Int)) c 1) (n - Int.toNat (i : Int)) (.slice s.p s.n s.c) s.n h1 fun n1 h2 => K (IntKind.wrap .i64 ((i : Int) + n1)) h2 := by
    intro L i h1 hL hi HB1 F1 hbL hel
    subst hL
    refine ⟨by omega, by omega, ?_⟩
    rw [Int.toNat_natCast, subP_at (by omega)]
    refine copyL HB1 (by omega) (SlI.fr hS F1 (fun a h1 h2 => hne a h1 h2)) rfl (by omega) fun h2 HB2 F2 => ?_
    have ec : IntKind.wrap .i64 ((L.length : Int) + (s.n : Nat)) = ((L ++ dl).length : Nat) := by rw [w_i64 (by omega) (by omega)]; simp; omega
    rw [ec]
    exact hK _ h2 (by simp; omega) (fun s2 out last => (hel s2 out last).seq) (hbL.app hb) HB2 (F1.trans F2)
  simp only [st_reg, st_ret, st_exit, st_skip, st_test, st_block, st_cond, sq_reg, sq_ret, sq_exit, sq_skip, sq_test, sq_cond, sq_block, sq_seq, sq_loop, SK_norm, SK_exit, SK_ret, BK_norm, BK_ret, BK_same, BK_exit, LK_norm, LK_exit, LK_ret, endK_norm, endK_ret, M_emitLiteral.k2, M_emitLiteral.k3, M_emitLiteral.k4, M_emitLiteral.k5, M_emitLiteral.k6, M_emitLiteral.k7, M_emitLiteral.k8, M_emitLiteral.k9, M_emitLiteral.k10, M_emitLiteral.k11, M_emitLiteral.k12, M_emitLiteral.k13, M_emitLiteral.k14, M_emitLiteral.k15, M_emitLiteral.res, M_emitLiteral.r10, M_emitLiteral.r11, M_emitLiteral.r12, M_emitLiteral.r28, M_emitLiteral.r13, M_emitLiteral.r14, M_emitLiteral.r15, M_emitLiteral.r16, M_emitLiteral.r17, M_emitLiteral.r18, M_emitLiteral.r19, M_emitLiteral.r20, M_emitLiteral.r21, M_emitLiteral.r22, M_emitLiteral.r23, M_emitLiteral.r24, M_emitLiteral.r25, M_emitLiteral.r26, M_emitLiteral.r27, M_emitLiteral.r4, M_emitLiteral.r5, M_emitLiteral.r6, M_emitLiteral.r7, M_emitLiteral.r8, M_emitLiteral.r9, en]
  by_cases g60 : m < 60
  · rw [if_pos (by simp; omega)]
    have hx : ∃ x0, (M.drop o).take 1 = [x0] := List.length_eq_one_iff.1 (cut_len (M := M) (o := o) (k := 1) (by omega))
    obtain ⟨x0, hx⟩ := hx
    rw [← putL_self (M := M) (o := o) (k := 1) (by omega), hx] at HB
    have ev : bOr .u8 (IntKind.wrap .u8 (IntKind.wrap .u8 (m : Int) * 2 ^ 2)) 0 = ((m * 4 : Nat) : Int) := by
      rw [w_u8 (x := (m : Int)) (by omega) (by omega), w_u8 (by omega) (by omega)]
      have e2 : (m : Int) * 2 ^ 2 = ((m * 4 : Nat) : Int) := by omega
      rw [e2]
      exact or_u8_0 (by omega)
    rw [ev]
    refine putS (j := 0) (i := 0) HB (by simp; omega) (by simp) rfl (by omega) fun h1 H1 F1 => ?_
    simp only [List.set_cons_zero] at H1
    exact tail _ 1 h1 rfl (by omega) H1 F1 (bts_cons (by omega) (fun x hx => by cases hx)) (fun s2 out last => elem_lit0 g60 hm)
  rw [if_neg (by simp; omega)]
  have ek : ∀ k, 0 < k → k ≤ 4 → m < 256 ^ k → ∀ s2 out last, ElemG s2 (((((59 + k) * 4 : Nat) : Int) :: leB k m) ++ dl) out last (out ++ dl) last := fun k h1 h2 h3 s2 out last => elem_litk h1 h2 h3 hm
  have bk : ∀ k, k ≤ 4 → Bts ((((59 + k) * 4 : Nat) : Int) :: leB k m) := fun k h => bts_cons (by omega) (leB_bts _ _)
  by_cases g1 : m < 256
  · rw [if_pos (by simp; omega)]
    obtain ⟨x0, x1, hx⟩ := len2 (cut_len (M := M) (o := o) (k := 2) (by omega))
    rw [← putL_self (M := M) (o := o) (k := 2) (by omega), hx] at HB
    rw [w_u8_nat]
    refine putS (j := 1) (i := 1) HB (by simp; omega) (by simp) rfl (by omega) fun h1 H1 F1 => ?_
    refine putS (j := 0) (i := 0) H1 (by simp; omega) (by simp) rfl (by omega) fun h2 H2 F2 => ?_
    simp only [List.set_cons_zero, List.set_cons_succ] at H2
    have eB : [240, ((m % 256 : Nat) : Int)] = (((59 + 1) * 4 : Nat) : Int) :: leB 1 m := by simp [leB]
    rw [eB] at H2
    exact tail _ 2 h2 (by simp [leB_len]) (by omega) H2 (F1.trans F2) (bk 1 (by omega)) (ek 1 (by omega) (by omega) (by omega))
  rw [if_neg (by simp; omega)]
  by_cases g2 : m < 65536
  · rw [if_pos (by simp; omega)]
    obtain ⟨x0, x1, x2, hx⟩ := len3 (cut_len (M := M) (o := o) (k := 3) (by omega))
    rw [← putL_self (M := M) (o := o) (k := 3) (by omega), hx] at HB
    simp only [w_u8_div, w_u8_nat]
    refine putS (j := 2) (i := 2) HB (by simp; omega) (by simp) rfl (by omega) fun h1 H1 F1 => ?_
    refine putS (j := 1) (i := 1) H1 (by simp; omega) (by simp) rfl (by omega) fun h2 H2 F2 => ?_
    refine putS (j := 0) (i := 0) H2 (by simp; omega) (by simp) rfl (by omega) fun h3 H3 F3 => ?_
    simp only [List.set_cons_zero, List.set_cons_succ] at H3
    have eB : [244, ((m % 256 : Nat) : Int), ((m / 2 ^ 8 % 256 : Nat) : Int)] = (((59 + 2) * 4 : Nat) : Int) :: leB 2 m := by simp [leB]
    rw [eB] at H3
    exact tail _ 3 h3 (by simp [leB_len]) (by omega) H3 ((F1.trans F2).trans F3) (bk 2 (by omega)) (ek 2 (by omega) (by omega) (by omega))
  rw [if_neg (by simp; omega)]
  rw [if_pos (by simp; omega)]
  obtain ⟨x0, x1, x2, x3, hx⟩ := len4 (cut_len (M := M) (o := o) (k := 4) (by omega))
  rw [← putL_self (M := M) (o := o) (k := 4) (by omega), hx] at HB
  simp only [w_u8_div, w_u8_nat]
  refine putS (j := 3) (i := 3) HB (by simp; omega) (by simp) rfl (by omega) fun h1 H1 F1 => ?_
  refine putS (j := 2) (i := 2) H1 (by simp; omega) (by simp) rfl (by omega) fun h2 H2 F2 => ?_
  refine putS (j := 1) (i := 1) H2 (by simp; omega) (by simp) rfl (by omega) fun h3 H3 F3 => ?_
  refine putS (j := 0) (i := 0) H3 (by simp; omega) (by simp) rfl (by omega) fun h4 H4 F4 => ?_
  simp only [List.set_cons_zero, List.set_cons_succ] at H4
  have eB : [248, ((m % 256 : Nat) : Int), ((m / 2 ^ 8 % 256 : Nat) : Int), ((m / 2 ^ 16 % 256 : Nat) : Int)] = (((59 + 3) * 4 : Nat) : Int) :: leB 3 m := by simp [leB, Nat.div_div_eq_div_mul]
  rw [eB] at H4
  exact tail _ 4 h4 (by simp [leB_len]) (by omega) H4 (((F1.trans F2).trans F3).trans F4) (bk 3 (by omega)) (ek 3 (by omega) (by omega) (by omega))
end
end Go.Proofs.YtibleenkgmkpmaaDoor
