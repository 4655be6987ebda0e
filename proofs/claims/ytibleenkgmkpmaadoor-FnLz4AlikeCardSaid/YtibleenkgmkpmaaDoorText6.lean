/- A part of the calculus over heaps, or of the proof over it: what functions of the program compute, and the plain law. -/
import Derived.Test.YtibleenkgmkpmaaDoorText5
import Derived.Test.YtibleenkgmkpmaaDoorModels2
import Derived.Test.YtibleenkgmkpmaaDoorModels3

set_option linter.unusedSimpArgs false
set_option linter.unusedVariables false
set_option linter.unusedSectionVars false
namespace Go.Proofs.YtibleenkgmkpmaaDoor
open Go Go.Vc Go.Ml Go.S2

section
variable {h : Heap} {db o n c : Nat} {M dl : List Int} {s : Sl} {K : Int → Heap → Prop}

set_option maxRecDepth 1000000 in
set_option maxHeartbeats 1000000 in
theorem emitLiteralGo (HB : Blk h db (M.map (Value.int .u8)) 5) (hon : o + n ≤ M.length) (hc : n ≤ c) (hn : dl.length + 6 ≤ n) (hS : SlI h .u8 s dl) (hne : ∀ a, 0 < s.n → s.p = some a → a.block ≠ db) (hb : Bts dl) (hdl : dl.length < 2 ^ 24)
    (hK : ∀ enc h', enc.length ≤ dl.length + 5 → (∀ s2, LitS s2 enc dl) → Bts enc → Blk h' db ((putL M o enc).map (Value.int .u8)) 5 → Fr (· = db) h h' → K enc.length h') : c_emitLiteralGo ⟨some ⟨db, o, none⟩, n, c⟩ s h K := by
  have hl := hS.len
  apply M_emitLiteralGo.calls
  simp only [SS, M_emitLiteralGo.stm, M_emitLiteralGo.k0, M_emitLiteralGo.k1, M_emitLiteralGo.k2, M_emitLiteralGo.init, M_emitLiteralGo.res, M_emitLiteralGo.r0, M_emitLiteralGo.r1, M_emitLiteralGo.r2, M_emitLiteralGo.r3, M_emitLiteralGo.r10, M_emitLiteralGo.r11, M_emitLiteralGo.r12, M_emitLiteralGo.r28]
  by_cases h0 : dl.length = 0
  · rw [if_pos (by simp; omega)]
    have : dl = [] := List.length_eq_zero_iff.1 h0
    subst this
    refine hK [] h (by simp) (fun s2 out last => by rw [List.append_nil]; exact SeqG.nil) (fun x hx => by cases hx) ?_ (Fr.refl _ _)
    simpa [putL] using HB
  rw [if_neg (by simp; omega)]
  obtain ⟨m, hm⟩ : ∃ m, dl.length = m + 1 := ⟨dl.length - 1, by omega⟩
  have en : IntKind.wrap .u64 (IntKind.wrap .i64 ((s.n : Int) - 1)) = (m : Nat) := by
    rw [w_i64 (x := (s.n : Int) - 1) (by omega) (by omega), w_u64 (by omega) (by omega)]; omega
  simp only [en]
  -- the bytes, behind a head
  have tail : ∀ (L : List Int) (i : Nat) (h1 : Heap), L.length = i → i ≤ 5 → Blk h1 db ((putL M o L).map (Value.int .u8)) 5 → Fr (· = db) h h1 → Bts L → (∀ s2 out last, ElemG s2 (L ++ dl) out last (out ++ dl) last) →
      0 ≤ (i : Int) ∧ (i : Int) ≤ ((n : Nat) : Int) ∧ copyT Pg 5 (subP (some ⟨db, o, none⟩) (Int.toNat (i : Int)) c 1) (n - Int.toNat (i : Int)) (.slice s.p s.n s.c) s.n h1 fun n1 h2 => K (IntKind.wrap .i64 ((i : Int) + n1)) h2 := by
    intro L i h1 hL hi HB1 F1 hbL hel
    subst hL
    refine ⟨by omega, by omega, ?_⟩
    rw [Int.toNat_natCast, subP_at (by omega)]
    refine copyL HB1 (by omega) (SlI.fr hS F1 (fun a h1 h2 => hne a h1 h2)) rfl (by omega) fun h2 HB2 F2 => ?_
    have ec : IntKind.wrap .i64 ((L.length : Int) + (s.n : Nat)) = ((L ++ dl).length : Nat) := by rw [w_i64 (by omega) (by omega)]; simp; omega
    rw [ec]
    exact hK _ h2 (by simp; omega) (fun s2 out last => (hel s2 out last).seq) (hbL.app hb) HB2 (F1.trans F2)
  simp only [SS, M_emitLiteralGo.k2, M_emitLiteralGo.k3, M_emitLiteralGo.k4, M_emitLiteralGo.k5, M_emitLiteralGo.k6, M_emitLiteralGo.k7, M_emitLiteralGo.k8, M_emitLiteralGo.k9, M_emitLiteralGo.k10, M_emitLiteralGo.k11, M_emitLiteralGo.k12, M_emitLiteralGo.k13, M_emitLiteralGo.k14, M_emitLiteralGo.k15, M_emitLiteralGo.res, M_emitLiteralGo.r10, M_emitLiteralGo.r11, M_emitLiteralGo.r12, M_emitLiteralGo.r28, M_emitLiteralGo.r13, M_emitLiteralGo.r14, M_emitLiteralGo.r15, M_emitLiteralGo.r16, M_emitLiteralGo.r17, M_emitLiteralGo.r18, M_emitLiteralGo.r19, M_emitLiteralGo.r20, M_emitLiteralGo.r21, M_emitLiteralGo.r22, M_emitLiteralGo.r23, M_emitLiteralGo.r24, M_emitLiteralGo.r25, M_emitLiteralGo.r26, M_emitLiteralGo.r27, M_emitLiteralGo.r4, M_emitLiteralGo.r5, M_emitLiteralGo.r6, M_emitLiteralGo.r7, M_emitLiteralGo.r8, M_emitLiteralGo.r9, en]
  by_cases g60 : m < 60
  · rw [if_pos (by simp; omega)]
    have hx : ∃ x0, (M.drop o).take 1 = [x0] := List.length_eq_one_iff.1 (cut_len (M := M) (o := o) (k := 1) (by omega))
    obtain ⟨x0, hx⟩ := hx
    rw [← putL_self (M := M) (o := o) (k := 1) (by omega), hx] at HB
    have ev : bOr .u8 (IntKind.wrap .u8 (IntKind.wrap .u8 (m : Int) * 2 ^ 2)) 0 = ((m * 4 : Nat) : Int) := by
      rw [w_u8 (x := (m : Int)) (by omega) (by omega), w_u8 (by omega) (by omega)]
      have e2 : (m : Int) * 2 ^ 2 = ((m * 4 : Nat) : Int) := by omega
      rw [e2]
      exact or_u8_0 (by omega)
    rw [ev]
    refine putS (j := 0) (i := 0) HB (by simp; omega) (by simp) rfl (by omega) fun h1 H1 F1 => ?_
    simp only [List.set_cons_zero] at H1
    exact tail _ 1 h1 rfl (by omega) H1 F1 (bts_cons (by omega) (fun x hx => by cases hx)) (fun s2 out last => elem_lit0 g60 hm)
  rw [if_neg (by simp; omega)]
  have ek : ∀ k, 0 < k → k ≤ 4 → m < 256 ^ k → ∀ s2 out last, ElemG s2 (((((59 + k) * 4 : Nat) : Int) :: leB k m) ++ dl) out last (out ++ dl) last := fun k h1 h2 h3 s2 out last => elem_litk h1 h2 h3 hm
  have bk : ∀ k, k ≤ 4 → Bts ((((59 + k) * 4 : Nat) : Int) :: leB k m) := fun k h => bts_cons (by omega) (leB_bts _ _)
  by_cases g1 : m < 256
  · rw [if_pos (by simp; omega)]
    obtain ⟨x0, x1, hx⟩ := len2 (cut_len (M := M) (o := o) (k := 2) (by omega))
    rw [← putL_self (M := M) (o := o) (k := 2) (by omega), hx] at HB
    rw [w_u8_nat]
    refine putS (j := 1) (i := 1) HB (by simp; omega) (by simp) rfl (by omega) fun h1 H1 F1 => ?_
    refine putS (j := 0) (i := 0) H1 (by simp; omega) (by simp) rfl (by omega) fun h2 H2 F2 => ?_
    simp only [List.set_cons_zero, List.set_cons_succ] at H2
    have eB : [240, ((m % 256 : Nat) : Int)] = (((59 + 1) * 4 : Nat) : Int) :: leB 1 m := by simp [leB]
    rw [eB] at H2
    exact tail _ 2 h2 (by simp [leB_len]) (by omega) H2 (F1.trans F2) (bk 1 (by omega)) (ek 1 (by omega) (by omega) (by omega))
  rw [if_neg (by simp; omega)]
  by_cases g2 : m < 65536
  · rw [if_pos (by simp; omega)]
    obtain ⟨x0, x1, x2, hx⟩ := len3 (cut_len (M := M) (o := o) (k := 3) (by omega))
    rw [← putL_self (M := M) (o := o) (k := 3) (by omega), hx] at HB
    simp only [w_u8_div, w_u8_nat]
    refine putS (j := 2) (i := 2) HB (by simp; omega) (by simp) rfl (by omega) fun h1 H1 F1 => ?_
    refine putS (j := 1) (i := 1) H1 (by simp; omega) (by simp) rfl (by omega) fun h2 H2 F2 => ?_
    refine putS (j := 0) (i := 0) H2 (by simp; omega) (by simp) rfl (by omega) fun h3 H3 F3 => ?_
    simp only [List.set_cons_zero, List.set_cons_succ] at H3
    have eB : [244, ((m % 256 : Nat) : Int), ((m / 2 ^ 8 % 256 : Nat) : Int)] = (((59 + 2) * 4 : Nat) : Int) :: leB 2 m := by simp [leB]
    rw [eB] at H3
    exact tail _ 3 h3 (by simp [leB_len]) (by omega) H3 ((F1.trans F2).trans F3) (bk 2 (by omega)) (ek 2 (by omega) (by omega) (by omega))
  rw [if_neg (by simp; omega)]
  rw [if_pos (by simp; omega)]
  obtain ⟨x0, x1, x2, x3, hx⟩ := len4 (cut_len (M := M) (o := o) (k := 4) (by omega))
  rw [← putL_self (M := M) (o := o) (k := 4) (by omega), hx] at HB
  simp only [w_u8_div, w_u8_nat]
  refine putS (j := 3) (i := 3) HB (by simp; omega) (by simp) rfl (by omega) fun h1 H1 F1 => ?_
  refine putS (j := 2) (i := 2) H1 (by simp; omega) (by simp) rfl (by omega) fun h2 H2 F2 => ?_
  refine putS (j := 1) (i := 1) H2 (by simp; omega) (by simp) rfl (by omega) fun h3 H3 F3 => ?_
  refine putS (j := 0) (i := 0) H3 (by simp; omega) (by simp) rfl (by omega) fun h4 H4 F4 => ?_
  simp only [List.set_cons_zero, List.set_cons_succ] at H4
  have eB : [248, ((m % 256 : Nat) : Int), ((m / 2 ^ 8 % 256 : Nat) : Int), ((m / 2 ^ 16 % 256 : Nat) : Int)] = (((59 + 3) * 4 : Nat) : Int) :: leB 3 m := by simp [leB, Nat.div_div_eq_div_mul]
  rw [eB] at H4
  exact tail _ 4 h4 (by simp [leB_len]) (by omega) H4 (((F1.trans F2).trans F3).trans F4) (bk 3 (by omega)) (ek 3 (by omega) (by omega) (by omega))
end

theorem u8_and15 {x : Nat} (hx : x ≤ 255) : bAnd .u8 (x : Int) 15 = ((x % 16 : Nat) : Int) := by
  have := and_nat (k := .u8) (x := x) (y := 15) rfl (by show x < 256; omega) (by decide)
  rw [show x &&& 15 = x % 16 from Nat.and_two_pow_sub_one_eq_mod x 4] at this
  exact this

/-- Behind what was written: a place for more. -/
theorem putL_more {M0 body : List Int} {k : Nat} (h : body.length + k ≤ M0.length) : putL M0 0 body = putL M0 0 (body ++ (M0.drop body.length).take k) := by
  have e := putL_self (M := putL M0 0 body) (o := body.length) (k := k) (by rw [putL_len (by omega)]; omega)
  have e2 : (putL M0 0 body).drop body.length = M0.drop body.length := by
    unfold putL
    rw [List.take_zero, List.nil_append, Nat.zero_add, List.drop_append_of_le_length (Nat.le_refl _), List.drop_of_length_le (Nat.le_refl _), List.nil_append]
  rw [e2] at e
  conv => lhs; rw [← e]
  have := putL_putL (M := M0) (o := 0) (L1 := body) (L2 := (M0.drop body.length).take k) (by rw [cut_len h]; omega)
  rw [Nat.zero_add] at this
  exact this

/-- A byte, stored behind what was written. -/
theorem putB {h : Heap} {db N : Nat} {M0 body T : List Int} {j : Nat} {i : Int} {v : Int} {K : Heap → Prop} (HB : Blk h db ((putL M0 0 (body ++ T)).map (Value.int .u8)) 5) (hM : body.length + T.length ≤ M0.length) (hj : j < T.length) (hi : i = ((body.length + j : Nat) : Int)) (hn : body.length + T.length ≤ N)
    (hK : ∀ h', Blk h' db ((putL M0 0 (body ++ T.set j v)).map (Value.int .u8)) 5 → Fr (· = db) h h' → K h') :
    0 ≤ i ∧ i < ((N : Nat) : Int) ∧ ptrE (some (⟨db, 0, none⟩ : Addr)) fun a1 => st1 (Addr.add (Addr.add a1 (Int.toNat i * 1)) 0) (.int .u8 v) h K := by
  subst hi
  refine putS (i := body.length + j) (j := body.length + j) HB (by simp; omega) (by simp; omega) rfl (by omega) fun h' H' F' => hK h' ?_ F'
  rwa [List.set_append_right _ _ (by omega), Nat.add_sub_cancel_left] at H'

section
/-- Where the converter stands: what was read and what was written. -/
structure CvLcS (S : Sl) (N db : Nat) (h0 : Heap) (M0 : List Int) (body out : List Int) (last : Nat) (st : M_LcS.St) (h : Heap) : Prop where
  dst : st.x_dst = ⟨some ⟨db, 0, none⟩, N, N⟩
  src : st.x_src = S
  d : st.x_d = body.length
  u : st.x_uncompressed = out.length
  lim : st.x_dLimit = (N : Int) - 10
  blk : Blk h db ((putL M0 0 body).map (Value.int .u8)) 5
  goes : ∀ s2, GoesG s2 body out last
  bb : Bts body
  fr : Fr (· = db) h0 h

variable {S : Sl} {l : List Int} {N db : Nat} {h0 : Heap} {M0 : List Int} {body out : List Int} {last : Nat} {st : M_LcS.St} {h : Heap} {Q : Ex → M_LcS.St → Heap → Prop}

set_option maxRecDepth 1000000 in
/-- The token, and a length that goes on. -/
theorem headLcS {i m j : Nat} (C : CvLcS S N db h0 M0 body out last st h) (hS : SlI h0 .u8 S l) (hne : ∀ a, 0 < S.n → S.p = some a → a.block ≠ db) (hb : Bts l) (hl : l.length < 2 ^ 20) (hs : st.x_s = i) (hi : i < l.length) (hz : zlen l (i + 1) ((l.getD i 0).toNat / 16) ((l.getD i 0).toNat / 16) = some (m, j))
    (hK : ∀ st', CvLcS S N db h0 M0 body out last st' h → st'.x_s = (j : Int) - 1 → st'.x_ll = m → st'.x_ml = (((l.getD i 0).toNat % 16 + zleast false : Nat) : Int) → M_LcS.k24 st' h Q) : M_LcS.k14 st h Q := by
  have hsl := hS.len
  have hS' : SlI h .u8 S l := SlI.fr hS C.fr (fun a h1 h2 => hne a h1 h2)
  simp only [SS, M_LcS.k14, M_LcS.k15, M_LcS.k16, M_LcS.k17, M_LcS.r21, M_LcS.r22, M_LcS.r23, M_LcS.r24, C.src, hs]
  refine hS'.ldB (Byt.of_mem hb) (j := i) rfl hi fun v hv he hev => ?_
  rw [hev] at hz hK
  have e1 : IntKind.wrap .i64 (Int.fdiv (v : Int) (2 ^ 4)) = ((v / 16 : Nat) : Int) := by rw [fdiv_nat, w_i64 (by omega) (by omega)]
  have e2 : IntKind.wrap .i64 (IntKind.wrap .u8 ((4 : Int) + bAnd .u8 (v : Int) 15)) = ((v % 16 + zleast false : Nat) : Int) := by
    rw [u8_and15 hv, w_u8 (by omega) (by omega), w_i64 (by omega) (by omega), show zleast false = 4 from rfl]; omega
  simp only [e1, e2]
  by_cases h15 : v / 16 = 15
  · rw [if_pos (by simp; omega)]
    unfold zlen at hz
    rw [if_pos h15, h15] at hz
    rw [h15]
    refine loop_rule (I := fun s' h' => h' = h ∧ CvLcS S N db h0 M0 body out last s' h ∧ s'.x_ml = ((v % 16 + zleast false : Nat) : Int) ∧ ∃ p n : Nat, s'.x_s = p ∧ s'.x_ll = n ∧ p < l.length ∧ n ≤ 15 + 255 * p ∧ zmore l (p + 1) n = some (m, j)) (μ := fun s' _ => (l.length - s'.x_s).toNat) ?_ ?_
    · exact ⟨rfl, ⟨C.dst, rfl, C.d, C.u, C.lim, C.blk, C.goes, C.bb, C.fr⟩, rfl, i, 15, rfl, rfl, hi, by omega, hz⟩
    · rintro s' h' ⟨rfl, C', e3, p, n, e4, e5, hp, hn, hm⟩
      simp only [SS, M_LcS.k19, M_LcS.k20, M_LcS.k21, M_LcS.k22, M_LcS.k23, M_LcS.r25, M_LcS.r26, M_LcS.r28, M_LcS.r29, M_LcS.r30, C'.src, e4, e5]
      have hp1 : p + 1 < l.length := by
        rcases Nat.lt_or_ge (p + 1) l.length with h | h
        · exact h
        · rw [zmore_end h] at hm; cases hm
      have ep : IntKind.wrap .i64 ((p : Int) + 1) = ((p + 1 : Nat) : Int) := by rw [w_i64 (by omega) (by omega)]; omega
      rw [ep, if_neg (by simp; omega)]
      rw [zmore_step hp1] at hm
      refine hS'.ldB (Byt.of_mem hb) (j := p + 1) rfl hp1 fun w hw hwe hwev => ?_
      rw [hwev] at hm
      have en : IntKind.wrap .i64 ((n : Int) + IntKind.wrap .i64 (w : Int)) = ((n + w : Nat) : Int) := by rw [w_i64 (x := (w : Int)) (by omega) (by omega), w_i64 (by omega) (by omega)]; omega
      rw [en]
      by_cases h255 : w < 255
      · rw [if_pos (by simp; omega)]
        rw [if_pos h255] at hm
        simp only [Option.some.injEq, Prod.mk.injEq] at hm
        obtain ⟨rfl, rfl⟩ := hm
        exact hK _ ⟨C'.dst, rfl, C'.d, C'.u, C'.lim, C'.blk, C'.goes, C'.bb, C'.fr⟩ (by simp only; omega) rfl e3
      · rw [if_neg (by simp; omega)]
        rw [if_neg h255] at hm
        exact ⟨⟨trivial, ⟨C'.dst, rfl, C'.d, C'.u, C'.lim, C'.blk, C'.goes, C'.bb, C'.fr⟩, e3, p + 1, n + w, rfl, rfl, hp1, by omega, hm⟩, by omega⟩
  · rw [if_neg (by simp; omega)]
    unfold zlen at hz
    rw [if_neg h15] at hz
    simp only [Option.some.injEq, Prod.mk.injEq] at hz
    obtain ⟨rfl, rfl⟩ := hz
    exact hK _ ⟨C.dst, rfl, C.d, C.u, C.lim, C.blk, C.goes, C.bb, C.fr⟩ (by simp only; omega) rfl rfl

set_option maxRecDepth 1000000 in
/-- The literals. -/
theorem litLcS {m j : Nat} {ml : Int} (C : CvLcS S N db h0 M0 body out last st h) (hS : SlI h0 .u8 S l) (hne : ∀ a, 0 < S.n → S.p = some a → a.block ≠ db) (hb : Bts l) (hl : l.length < 2 ^ 20) (hN : N = 16 * l.length + 64) (hM : M0.length = N) (hs : st.x_s = (j : Int) - 1) (hll : st.x_ll = m) (hml : st.x_ml = ml) (h1 : 1 ≤ j) (hjm : j + m ≤ l.length) (hroom : body.length + 16 ≤ 16 * j) (hol : out.length < 2 ^ 24)
    (hK : ∀ st' h' body', CvLcS S N db h0 M0 body' (out ++ (l.drop j).take m) last st' h' → st'.x_s = ((j + m : Nat) : Int) → st'.x_ml = ml → body'.length ≤ body.length + m + 5 → M_LcS.k29 st' h' Q) : M_LcS.k24 st h Q := by
  have hsl := hS.len
  have hcap := hS.2.1
  have hS' : SlI h .u8 S l := SlI.fr hS C.fr (fun a h1 h2 => hne a h1 h2)
  simp only [SS, M_LcS.k24, M_LcS.k25, M_LcS.k26, M_LcS.r31, M_LcS.r33, M_LcS.r34, C.src, hs, hll]
  have e0 : IntKind.wrap .i64 ((j : Int) - 1 + m) = (j : Int) - 1 + m := w_i64 (by omega) (by omega)
  have e1 : IntKind.wrap .i64 ((j : Int) - 1 + 1) = (j : Nat) := by rw [w_i64 (by omega) (by omega)]; omega
  rw [e0, e1, if_neg (by simp; omega)]
  by_cases h0' : m = 0
  · subst h0'
    rw [if_neg (by simp)]
    refine hK _ h body ?_ ?_ ?_ (by omega)
    rotate_left
    · simp only; omega
    · exact hml
    rw [List.take_zero, List.append_nil]
    exact ⟨C.dst, rfl, C.d, C.u, C.lim, C.blk, C.goes, C.bb, C.fr⟩
  rw [if_pos (by simp; omega)]
  simp only [SS, M_LcS.k27, M_LcS.k28, M_LcS.r35, M_LcS.r37, M_LcS.r38, M_LcS.r39, C.src, C.dst, C.d, C.lim, C.u, hll]
  have e2 : IntKind.wrap .i64 ((body.length : Int) + m) = (body.length : Int) + m := w_i64 (by omega) (by omega)
  have e3 : IntKind.wrap .i64 ((j : Int) + m) = ((j + m : Nat) : Int) := by rw [w_i64 (by omega) (by omega)]; omega
  rw [e2, if_neg (by simp; omega)]
  simp only [e3]
  refine ⟨by omega, by omega, by omega, by omega, by omega, by omega, ?_⟩
  rw [Int.toNat_natCast, Int.toNat_natCast, Int.toNat_natCast, subP_at (by omega), Nat.zero_add, show j + m - j = m by omega]
  have hsub := hS'.sub (lo := j) (hi := j + m) (by omega) (by omega)
  rw [List.drop_take, show j + m - j = m by omega] at hsub
  have hdl : ((l.drop j).take m).length = m := by simp; omega
  refine emitLiteralGo (M := putL M0 0 body) C.blk (by rw [putL_len (by omega)]; omega) (Nat.le_refl _) (by omega) hsub ?_ (hb.sub _ _) (by omega) fun enc h2 q1 q2 q3 q4 q5 => ?_
  · intro a h3 ha
    unfold subP at ha
    cases hp : S.p with
    | none => rw [hp] at ha; split at ha <;> cases ha
    | some a0 =>
      have := hne a0 (by omega) hp
      rw [hp] at ha
      have hbl : a.block = a0.block := by
        split at ha
        · obtain rfl := Option.some.inj ha; rfl
        · obtain rfl := Option.some.inj ha
          unfold Addr.add; split <;> rfl
      omega
  have ep := putL_putL (M := M0) (o := 0) (L1 := body) (L2 := enc) (by omega)
  rw [Nat.zero_add] at ep
  rw [ep] at q4
  have ed : IntKind.wrap .i64 ((body.length : Int) + (enc.length : Nat)) = ((body ++ enc).length : Nat) := by rw [w_i64 (by omega) (by omega)]; simp
  have eu : IntKind.wrap .i64 ((out.length : Int) + m) = ((out ++ (l.drop j).take m).length : Nat) := by rw [w_i64 (by omega) (by omega)]; simp; omega
  refine hK _ h2 (body ++ enc) ⟨rfl, rfl, ed, eu, rfl, q4, ?_, C.bb.app q3, C.fr.trans q5⟩ rfl hml (by simp; omega)
  exact fun s2 => (C.goes s2).seq (q2 s2 out last) (by simp)

set_option maxRecDepth 1000000 in
/-- The offset, and a match's length that goes on. -/
theorem offLcS {i t off n k : Nat} (C : CvLcS S N db h0 M0 body out last st h) (hS : SlI h0 .u8 S l) (hne : ∀ a, 0 < S.n → S.p = some a → a.block ≠ db) (hb : Bts l) (hl : l.length < 2 ^ 20) (hs : st.x_s = i) (hml : st.x_ml = ((t + zleast false : Nat) : Int)) (ht : t ≤ 15) (hmd : ¬ (false = true ∧ t = 0))
    (ho : leAt l i 2 = some off) (ho0 : 0 < off) (hoo : off ≤ out.length) (hol : out.length < 2 ^ 24) (hz : zlen l (i + 2) t (t + zleast false) = some (n, k)) (hk : k < l.length)
    (hK : ∀ st' h', CvLcS S N db h0 M0 body out last st' h' → st'.x_s = k → st'.x_ml = n → st'.x_offset = off → M_LcS.k43 st' h' Q) : M_LcS.k29 st h Q := by
  have hsl := hS.len
  have hcap := hS.2.1
  have hS' : SlI h .u8 S l := SlI.fr hS C.fr (fun a h1 h2 => hne a h1 h2)
  have hi2 := leAt_le ho
  have hzl := zlen_le hb hz hi2
  simp only [SS, M_LcS.k29, M_LcS.r40, C.src, hs, hml]
  rw [if_neg (by simp; omega), if_neg (by simp)]
  simp only [SS, M_LcS.k30, M_LcS.k31, M_LcS.r41, M_LcS.r43, C.src, hs]
  have e0 : IntKind.wrap .i64 (((S.n : Nat) : Int) - 2) = ((l.length - 2 : Nat) : Int) := by rw [w_i64 (by omega) (by omega)]; omega
  rw [e0, if_neg (by simp; omega)]
  refine ⟨by omega, by omega, ?_⟩
  rw [Int.toNat_natCast]
  have hfr := hS'.from (i := i) (by omega)
  have hoff : leN ((l.drop i).take 2) = off := by
    unfold leAt at ho
    rw [if_pos hi2] at ho
    exact Option.some.inj ho
  have hoff2 := leAt_lt4 hb (by omega) ho
  have hoff3 : off < 65536 := by
    have h1 := leN_lt ((l.drop i).take 2) (hb.sub i 2)
    have h2 : ((l.drop i).take 2).length ≤ 2 := by simp; omega
    have h3 : 256 ^ ((l.drop i).take 2).length ≤ 256 ^ 2 := Nat.pow_le_pow_right (by decide) h2
    omega
  refine le16 hfr (Byt.of_mem (fun x hx => hb x (List.mem_of_mem_drop hx))) (by simp; omega) fun h1 o1 => ?_
  rw [hoff]
  have C1 : ∀ st' : M_LcS.St, st'.x_dst = st.x_dst → st'.x_src = st.x_src → st'.x_d = st.x_d → st'.x_uncompressed = st.x_uncompressed → st'.x_dLimit = st.x_dLimit → CvLcS S N db h0 M0 body out last st' h1 := fun st' g1 g2 g3 g4 g5 =>
    ⟨g1.trans C.dst, g2.trans C.src, g3.trans C.d, g4.trans C.u, g5.trans C.lim, o1.Blk C.blk, C.goes, C.bb, C.fr.trans (Fr.of_old o1)⟩
  have hS1 : SlI h1 .u8 S l := hS'.ext o1.ext
  simp only [SS, M_LcS.k32, M_LcS.k33, M_LcS.k34, M_LcS.k35, M_LcS.r44, M_LcS.r45, M_LcS.r47, M_LcS.r49, C.src, C.u, hs, hml]
  have e1 : IntKind.wrap .i64 ((i : Int) + 2) = ((i + 2 : Nat) : Int) := by rw [w_i64 (by omega) (by omega)]; omega
  rw [if_neg (by simp; omega), w_i64 (x := (off : Int)) (by omega) (by omega), if_neg (by simp; omega), e1]
  by_cases h15 : t = 15
  · rw [if_pos (by rw [h15]; rfl)]
    unfold zlen at hz
    rw [if_pos h15] at hz
    simp only [SS, M_LcS.k36]
    refine loop_rule (I := fun s' h' => h' = h1 ∧ CvLcS S N db h0 M0 body out last s' h1 ∧ s'.x_offset = off ∧ ∃ p n' : Nat, s'.x_s = p ∧ s'.x_ml = n' ∧ p ≤ l.length ∧ n' ≤ 30 + 255 * p ∧ zmore l p n' = some (n, k)) (μ := fun s' _ => (l.length - s'.x_s).toNat) ?_ ?_
    · exact ⟨rfl, C1 _ rfl C.src.symm rfl C.u.symm rfl, rfl, i + 2, t + zleast false, rfl, rfl, by omega, by have h4 : zleast false ≤ 4 := (by decide); omega, hz⟩
    · rintro s' h' ⟨rfl, C', e3, p, n', e4, e5, hp, hn, hm⟩
      simp only [SS, M_LcS.k37, M_LcS.k38, M_LcS.k39, M_LcS.k40, M_LcS.k41, M_LcS.k42, M_LcS.r50, M_LcS.r52, M_LcS.r53, M_LcS.r54, M_LcS.r55, M_LcS.r56, C'.src, e4, e5]
      have hp1 : p < l.length := by
        rcases Nat.lt_or_ge p l.length with h | h
        · exact h
        · rw [zmore_end h] at hm; cases hm
      rw [if_neg (by simp; omega)]
      rw [zmore_step hp1] at hm
      refine hS1.ldB (Byt.of_mem hb) (j := p) rfl hp1 fun w hw hwe hwev => ?_
      rw [hwev] at hm
      have ep : IntKind.wrap .i64 ((p : Int) + 1) = ((p + 1 : Nat) : Int) := by rw [w_i64 (by omega) (by omega)]; omega
      have en : IntKind.wrap .i64 ((n' : Int) + IntKind.wrap .i64 (w : Int)) = ((n' + w : Nat) : Int) := by rw [w_i64 (x := (w : Int)) (by omega) (by omega), w_i64 (by omega) (by omega)]; omega
      rw [ep, en]
      by_cases h255 : w < 255
      · rw [if_pos (by simp; omega)]
        rw [if_pos h255] at hm
        simp only [Option.some.injEq, Prod.mk.injEq] at hm
        obtain ⟨rfl, rfl⟩ := hm
        rw [if_neg (by simp; omega)]
        exact hK _ _ ⟨C'.dst, rfl, C'.d, C'.u, C'.lim, C'.blk, C'.goes, C'.bb, C'.fr⟩ rfl rfl e3
      · rw [if_neg (by simp; omega)]
        rw [if_neg h255] at hm
        exact ⟨⟨trivial, ⟨C'.dst, rfl, C'.d, C'.u, C'.lim, C'.blk, C'.goes, C'.bb, C'.fr⟩, e3, p + 1, n' + w, rfl, rfl, by omega, by omega, hm⟩, by omega⟩
  · rw [if_neg (by rw [show zleast false = 4 from rfl]; simp; omega)]
    unfold zlen at hz
    rw [if_neg h15] at hz
    simp only [Option.some.injEq, Prod.mk.injEq] at hz
    obtain ⟨rfl, rfl⟩ := hz
    exact hK _ h1 (C1 _ rfl C.src.symm rfl C.u.symm rfl) rfl rfl rfl
end

section
/-- Where the converter stands: what was read and what was written. -/
structure CvLsS (S : Sl) (N db : Nat) (h0 : Heap) (M0 : List Int) (body out : List Int) (last : Nat) (st : M_LsS.St) (h : Heap) : Prop where
  dst : st.x_dst = ⟨some ⟨db, 0, none⟩, N, N⟩
  src : st.x_src = S
  d : st.x_d = body.length
  u : st.x_uncompressed = out.length
  lim : st.x_dLimit = (N : Int) - 10
  blk : Blk h db ((putL M0 0 body).map (Value.int .u8)) 5
  goes : ∀ s2, GoesG s2 body out last
  bb : Bts body
  fr : Fr (· = db) h0 h

variable {S : Sl} {l : List Int} {N db : Nat} {h0 : Heap} {M0 : List Int} {body out : List Int} {last : Nat} {st : M_LsS.St} {h : Heap} {Q : Ex → M_LsS.St → Heap → Prop}

set_option maxRecDepth 1000000 in
/-- The token, and a length that goes on. -/
theorem headLsS {i m j : Nat} (C : CvLsS S N db h0 M0 body out last st h) (hS : SlI h0 .u8 S l) (hne : ∀ a, 0 < S.n → S.p = some a → a.block ≠ db) (hb : Bts l) (hl : l.length < 2 ^ 20) (hs : st.x_s = i) (hi : i < l.length) (hz : zlen l (i + 1) ((l.getD i 0).toNat / 16) ((l.getD i 0).toNat / 16) = some (m, j))
    (hK : ∀ st', CvLsS S N db h0 M0 body out last st' h → st'.x_s = (j : Int) - 1 → st'.x_ll = m → st'.x_ml = (((l.getD i 0).toNat % 16 + zleast true : Nat) : Int) → M_LsS.k24 st' h Q) : M_LsS.k14 st h Q := by
  have hsl := hS.len
  have hS' : SlI h .u8 S l := SlI.fr hS C.fr (fun a h1 h2 => hne a h1 h2)
  simp only [SS, M_LsS.k14, M_LsS.k15, M_LsS.k16, M_LsS.k17, M_LsS.r21, M_LsS.r22, M_LsS.r23, M_LsS.r24, C.src, hs]
  refine hS'.ldB (Byt.of_mem hb) (j := i) rfl hi fun v hv he hev => ?_
  rw [hev] at hz hK
  have e1 : IntKind.wrap .i64 (Int.fdiv (v : Int) (2 ^ 4)) = ((v / 16 : Nat) : Int) := by rw [fdiv_nat, w_i64 (by omega) (by omega)]
  have e2 : IntKind.wrap .i64 (IntKind.wrap .u8 ((3 : Int) + bAnd .u8 (v : Int) 15)) = ((v % 16 + zleast true : Nat) : Int) := by
    rw [u8_and15 hv, w_u8 (by omega) (by omega), w_i64 (by omega) (by omega), show zleast true = 3 from rfl]; omega
  simp only [e1, e2]
  by_cases h15 : v / 16 = 15
  · rw [if_pos (by simp; omega)]
    unfold zlen at hz
    rw [if_pos h15, h15] at hz
    rw [h15]
    refine loop_rule (I := fun s' h' => h' = h ∧ CvLsS S N db h0 M0 body out last s' h ∧ s'.x_ml = ((v % 16 + zleast true : Nat) : Int) ∧ ∃ p n : Nat, s'.x_s = p ∧ s'.x_ll = n ∧ p < l.length ∧ n ≤ 15 + 255 * p ∧ zmore l (p + 1) n = some (m, j)) (μ := fun s' _ => (l.length - s'.x_s).toNat) ?_ ?_
    · exact ⟨rfl, ⟨C.dst, rfl, C.d, C.u, C.lim, C.blk, C.goes, C.bb, C.fr⟩, rfl, i, 15, rfl, rfl, hi, by omega, hz⟩
    · rintro s' h' ⟨rfl, C', e3, p, n, e4, e5, hp, hn, hm⟩
      simp only [SS, M_LsS.k19, M_LsS.k20, M_LsS.k21, M_LsS.k22, M_LsS.k23, M_LsS.r25, M_LsS.r26, M_LsS.r28, M_LsS.r29, M_LsS.r30, C'.src, e4, e5]
      have hp1 : p + 1 < l.length := by
        rcases Nat.lt_or_ge (p + 1) l.length with h | h
        · exact h
        · rw [zmore_end h] at hm; cases hm
      have ep : IntKind.wrap .i64 ((p : Int) + 1) = ((p + 1 : Nat) : Int) := by rw [w_i64 (by omega) (by omega)]; omega
      rw [ep, if_neg (by simp; omega)]
      rw [zmore_step hp1] at hm
      refine hS'.ldB (Byt.of_mem hb) (j := p + 1) rfl hp1 fun w hw hwe hwev => ?_
      rw [hwev] at hm
      have en : IntKind.wrap .i64 ((n : Int) + IntKind.wrap .i64 (w : Int)) = ((n + w : Nat) : Int) := by rw [w_i64 (x := (w : Int)) (by omega) (by omega), w_i64 (by omega) (by omega)]; omega
      rw [en]
      by_cases h255 : w < 255
      · rw [if_pos (by simp; omega)]
        rw [if_pos h255] at hm
        simp only [Option.some.injEq, Prod.mk.injEq] at hm
        obtain ⟨rfl, rfl⟩ := hm
        exact hK _ ⟨C'.dst, rfl, C'.d, C'.u, C'.lim, C'.blk, C'.goes, C'.bb, C'.fr⟩ (by simp only; omega) rfl e3
      · rw [if_neg (by simp; omega)]
        rw [if_neg h255] at hm
        exact ⟨⟨trivial, ⟨C'.dst, rfl, C'.d, C'.u, C'.lim, C'.blk, C'.goes, C'.bb, C'.fr⟩, e3, p + 1, n + w, rfl, rfl, hp1, by omega, hm⟩, by omega⟩
  · rw [if_neg (by simp; omega)]
    unfold zlen at hz
    rw [if_neg h15] at hz
    simp only [Option.some.injEq, Prod.mk.injEq] at hz
    obtain ⟨rfl, rfl⟩ := hz
    exact hK _ ⟨C.dst, rfl, C.d, C.u, C.lim, C.blk, C.goes, C.bb, C.fr⟩ (by simp only; omega) rfl rfl

set_option maxRecDepth 1000000 in
/-- The literals. -/
theorem litLsS {m j : Nat} {ml : Int} (C : CvLsS S N db h0 M0 body out last st h) (hS : SlI h0 .u8 S l) (hne : ∀ a, 0 < S.n → S.p = some a → a.block ≠ db) (hb : Bts l) (hl : l.length < 2 ^ 20) (hN : N = 16 * l.length + 64) (hM : M0.length = N) (hs : st.x_s = (j : Int) - 1) (hll : st.x_ll = m) (hml : st.x_ml = ml) (h1 : 1 ≤ j) (hjm : j + m ≤ l.length) (hroom : body.length + 16 ≤ 16 * j) (hol : out.length < 2 ^ 24)
    (hK : ∀ st' h' body', CvLsS S N db h0 M0 body' (out ++ (l.drop j).take m) last st' h' → st'.x_s = ((j + m : Nat) : Int) → st'.x_ml = ml → body'.length ≤ body.length + m + 5 → M_LsS.k29 st' h' Q) : M_LsS.k24 st h Q := by
  have hsl := hS.len
  have hcap := hS.2.1
  have hS' : SlI h .u8 S l := SlI.fr hS C.fr (fun a h1 h2 => hne a h1 h2)
  simp only [SS, M_LsS.k24, M_LsS.k25, M_LsS.k26, M_LsS.r31, M_LsS.r33, M_LsS.r34, C.src, hs, hll]
  have e0 : IntKind.wrap .i64 ((j : Int) - 1 + m) = (j : Int) - 1 + m := w_i64 (by omega) (by omega)
  have e1 : IntKind.wrap .i64 ((j : Int) - 1 + 1) = (j : Nat) := by rw [w_i64 (by omega) (by omega)]; omega
  rw [e0, e1, if_neg (by simp; omega)]
  by_cases h0' : m = 0
  · subst h0'
    rw [if_neg (by simp)]
    refine hK _ h body ?_ ?_ ?_ (by omega)
    rotate_left
    · simp only; omega
    · exact hml
    rw [List.take_zero, List.append_nil]
    exact ⟨C.dst, rfl, C.d, C.u, C.lim, C.blk, C.goes, C.bb, C.fr⟩
  rw [if_pos (by simp; omega)]
  simp only [SS, M_LsS.k27, M_LsS.k28, M_LsS.r35, M_LsS.r37, M_LsS.r38, M_LsS.r39, C.src, C.dst, C.d, C.lim, C.u, hll]
  have e2 : IntKind.wrap .i64 ((body.length : Int) + m) = (body.length : Int) + m := w_i64 (by omega) (by omega)
  have e3 : IntKind.wrap .i64 ((j : Int) + m) = ((j + m : Nat) : Int) := by rw [w_i64 (by omega) (by omega)]; omega
  rw [e2, if_neg (by simp; omega)]
  simp only [e3]
  refine ⟨by omega, by omega, by omega, by omega, by omega, by omega, ?_⟩
  rw [Int.toNat_natCast, Int.toNat_natCast, Int.toNat_natCast, subP_at (by omega), Nat.zero_add, show j + m - j = m by omega]
  have hsub := hS'.sub (lo := j) (hi := j + m) (by omega) (by omega)
  rw [List.drop_take, show j + m - j = m by omega] at hsub
  have hdl : ((l.drop j).take m).length = m := by simp; omega
  refine emitLiteralGo (M := putL M0 0 body) C.blk (by rw [putL_len (by omega)]; omega) (Nat.le_refl _) (by omega) hsub ?_ (hb.sub _ _) (by omega) fun enc h2 q1 q2 q3 q4 q5 => ?_
  · intro a h3 ha
    unfold subP at ha
    cases hp : S.p with
    | none => rw [hp] at ha; split at ha <;> cases ha
    | some a0 =>
      have := hne a0 (by omega) hp
      rw [hp] at ha
      have hbl : a.block = a0.block := by
        split at ha
        · obtain rfl := Option.some.inj ha; rfl
        · obtain rfl := Option.some.inj ha
          unfold Addr.add; split <;> rfl
      omega
  have ep := putL_putL (M := M0) (o := 0) (L1 := body) (L2 := enc) (by omega)
  rw [Nat.zero_add] at ep
  rw [ep] at q4
  have ed : IntKind.wrap .i64 ((body.length : Int) + (enc.length : Nat)) = ((body ++ enc).length : Nat) := by rw [w_i64 (by omega) (by omega)]; simp
  have eu : IntKind.wrap .i64 ((out.length : Int) + m) = ((out ++ (l.drop j).take m).length : Nat) := by rw [w_i64 (by omega) (by omega)]; simp; omega
  refine hK _ h2 (body ++ enc) ⟨rfl, rfl, ed, eu, rfl, q4, ?_, C.bb.app q3, C.fr.trans q5⟩ rfl hml (by simp; omega)
  exact fun s2 => (C.goes s2).seq (q2 s2 out last) (by simp)

set_option maxRecDepth 1000000 in
/-- The offset, and a match's length that goes on. -/
theorem offLsS {i t off n k : Nat} (C : CvLsS S N db h0 M0 body out last st h) (hS : SlI h0 .u8 S l) (hne : ∀ a, 0 < S.n → S.p = some a → a.block ≠ db) (hb : Bts l) (hl : l.length < 2 ^ 20) (hs : st.x_s = i) (hml : st.x_ml = ((t + zleast true : Nat) : Int)) (ht : t ≤ 15) (hmd : ¬ (true = true ∧ t = 0))
    (ho : leAt l i 2 = some off) (ho0 : 0 < off) (hoo : off ≤ out.length) (hol : out.length < 2 ^ 24) (hz : zlen l (i + 2) t (t + zleast true) = some (n, k)) (hk : k < l.length)
    (hK : ∀ st' h', CvLsS S N db h0 M0 body out last st' h' → st'.x_s = k → st'.x_ml = n → st'.x_offset = off → M_LsS.k44 st' h' Q) : M_LsS.k29 st h Q := by
  have hsl := hS.len
  have hcap := hS.2.1
  have hS' : SlI h .u8 S l := SlI.fr hS C.fr (fun a h1 h2 => hne a h1 h2)
  have hi2 := leAt_le ho
  have hzl := zlen_le hb hz hi2
  simp only [SS, M_LsS.k29, M_LsS.r40, C.src, hs, hml]
  rw [if_neg (by rw [show zleast true = 3 from rfl]; simp; intro h; exact hmd ⟨rfl, by omega⟩)]
  simp only [SS, M_LsS.k31, M_LsS.k32, M_LsS.r42, M_LsS.r44, C.src, hs]
  have e0 : IntKind.wrap .i64 (((S.n : Nat) : Int) - 2) = ((l.length - 2 : Nat) : Int) := by rw [w_i64 (by omega) (by omega)]; omega
  rw [e0, if_neg (by simp; omega)]
  refine ⟨by omega, by omega, ?_⟩
  rw [Int.toNat_natCast]
  have hfr := hS'.from (i := i) (by omega)
  have hoff : leN ((l.drop i).take 2) = off := by
    unfold leAt at ho
    rw [if_pos hi2] at ho
    exact Option.some.inj ho
  have hoff2 := leAt_lt4 hb (by omega) ho
  have hoff3 : off < 65536 := by
    have h1 := leN_lt ((l.drop i).take 2) (hb.sub i 2)
    have h2 : ((l.drop i).take 2).length ≤ 2 := by simp; omega
    have h3 : 256 ^ ((l.drop i).take 2).length ≤ 256 ^ 2 := Nat.pow_le_pow_right (by decide) h2
    omega
  refine le16 hfr (Byt.of_mem (fun x hx => hb x (List.mem_of_mem_drop hx))) (by simp; omega) fun h1 o1 => ?_
  rw [hoff]
  have C1 : ∀ st' : M_LsS.St, st'.x_dst = st.x_dst → st'.x_src = st.x_src → st'.x_d = st.x_d → st'.x_uncompressed = st.x_uncompressed → st'.x_dLimit = st.x_dLimit → CvLsS S N db h0 M0 body out last st' h1 := fun st' g1 g2 g3 g4 g5 =>
    ⟨g1.trans C.dst, g2.trans C.src, g3.trans C.d, g4.trans C.u, g5.trans C.lim, o1.Blk C.blk, C.goes, C.bb, C.fr.trans (Fr.of_old o1)⟩
  have hS1 : SlI h1 .u8 S l := hS'.ext o1.ext
  simp only [SS, M_LsS.k33, M_LsS.k34, M_LsS.k35, M_LsS.k36, M_LsS.r45, M_LsS.r46, M_LsS.r48, M_LsS.r50, C.src, C.u, hs, hml]
  have e1 : IntKind.wrap .i64 ((i : Int) + 2) = ((i + 2 : Nat) : Int) := by rw [w_i64 (by omega) (by omega)]; omega
  rw [if_neg (by simp; omega), w_i64 (x := (off : Int)) (by omega) (by omega), if_neg (by simp; omega), e1]
  by_cases h15 : t = 15
  · rw [if_pos (by rw [h15]; rfl)]
    unfold zlen at hz
    rw [if_pos h15] at hz
    simp only [SS, M_LsS.k37]
    refine loop_rule (I := fun s' h' => h' = h1 ∧ CvLsS S N db h0 M0 body out last s' h1 ∧ s'.x_offset = off ∧ ∃ p n' : Nat, s'.x_s = p ∧ s'.x_ml = n' ∧ p ≤ l.length ∧ n' ≤ 30 + 255 * p ∧ zmore l p n' = some (n, k)) (μ := fun s' _ => (l.length - s'.x_s).toNat) ?_ ?_
    · exact ⟨rfl, C1 _ rfl C.src.symm rfl C.u.symm rfl, rfl, i + 2, t + zleast true, rfl, rfl, by omega, by have h4 : zleast true ≤ 4 := (by decide); omega, hz⟩
    · rintro s' h' ⟨rfl, C', e3, p, n', e4, e5, hp, hn, hm⟩
      simp only [SS, M_LsS.k38, M_LsS.k39, M_LsS.k40, M_LsS.k41, M_LsS.k42, M_LsS.k43, M_LsS.r51, M_LsS.r53, M_LsS.r54, M_LsS.r55, M_LsS.r56, M_LsS.r57, C'.src, e4, e5]
      have hp1 : p < l.length := by
        rcases Nat.lt_or_ge p l.length with h | h
        · exact h
        · rw [zmore_end h] at hm; cases hm
      rw [if_neg (by simp; omega)]
      rw [zmore_step hp1] at hm
      refine hS1.ldB (Byt.of_mem hb) (j := p) rfl hp1 fun w hw hwe hwev => ?_
      rw [hwev] at hm
      have ep : IntKind.wrap .i64 ((p : Int) + 1) = ((p + 1 : Nat) : Int) := by rw [w_i64 (by omega) (by omega)]; omega
      have en : IntKind.wrap .i64 ((n' : Int) + IntKind.wrap .i64 (w : Int)) = ((n' + w : Nat) : Int) := by rw [w_i64 (x := (w : Int)) (by omega) (by omega), w_i64 (by omega) (by omega)]; omega
      rw [ep, en]
      by_cases h255 : w < 255
      · rw [if_pos (by simp; omega)]
        rw [if_pos h255] at hm
        simp only [Option.some.injEq, Prod.mk.injEq] at hm
        obtain ⟨rfl, rfl⟩ := hm
        rw [if_neg (by simp; omega)]
        exact hK _ _ ⟨C'.dst, rfl, C'.d, C'.u, C'.lim, C'.blk, C'.goes, C'.bb, C'.fr⟩ rfl rfl e3
      · rw [if_neg (by simp; omega)]
        rw [if_neg h255] at hm
        exact ⟨⟨trivial, ⟨C'.dst, rfl, C'.d, C'.u, C'.lim, C'.blk, C'.goes, C'.bb, C'.fr⟩, e3, p + 1, n' + w, rfl, rfl, by omega, by omega, hm⟩, by omega⟩
  · rw [if_neg (by rw [show zleast true = 3 from rfl]; simp; omega)]
    unfold zlen at hz
    rw [if_neg h15] at hz
    simp only [Option.some.injEq, Prod.mk.injEq] at hz
    obtain ⟨rfl, rfl⟩ := hz
    exact hK _ h1 (C1 _ rfl C.src.symm rfl C.u.symm rfl) rfl rfl rfl
end
end Go.Proofs.YtibleenkgmkpmaaDoor

set_option linter.unusedSimpArgs false
set_option linter.unusedVariables false
set_option linter.unusedSectionVars false
namespace Go.Proofs.YtibleenkgmkpmaaDoor
open Go Go.Vc Go.Ml Go.S2

section
variable {S : Sl} {l : List Int} {N db : Nat} {h0 : Heap} {M0 : List Int} {body out : List Int} {last : Nat} {st : M_LcS.St} {h : Heap} {Q : Ex → M_LcS.St → Heap → Prop}


theorem threeLcS {off r : Nat} {body' : List Int} (e1 : st.x_dst = ⟨some ⟨db, 0, none⟩, N, N⟩) (e7 : st.x_offset = off) (e8 : st.x_d = body'.length) (e9 : st.x_length = r) (hr : 1 ≤ r) (hr2 : r ≤ 64) (ho2 : off < 65536) (hM : M0.length = N) (hroom : body'.length + 3 ≤ N) (hN2 : N < 2 ^ 30)
    (HB : Blk h db ((putL M0 0 body').map (Value.int .u8)) 5)
    (hK : ∀ (h' : Heap) (enc : List Int) (st' : M_LcS.St), enc.length = 3 → (∀ s2, CopS s2 enc off r) → Blk h' db ((putL M0 0 (body' ++ enc)).map (Value.int .u8)) 5 → Fr (· = db) h h' → st'.x_dst = st.x_dst → st'.x_src = st.x_src → st'.x_uncompressed = st.x_uncompressed → st'.x_dLimit = st.x_dLimit → st'.x_s = st.x_s → st'.x_ml = st.x_ml → st'.x_d = (((body' ++ enc).length : Nat) : Int) → Q (.exit 7) st' h') : M_LcS.k53 st h Q := by
  have hd : ∀ j : Nat, j ≤ 3 → IntKind.wrap .i64 ((body'.length : Int) + j) = ((body'.length + j : Nat) : Int) := fun j hj => by rw [w_i64 (by omega) (by omega)]; omega
  have hd0 : IntKind.wrap .i64 ((body'.length : Int) + 0) = ((body'.length + 0 : Nat) : Int) := hd 0 (by omega)
  have hd1 : IntKind.wrap .i64 ((body'.length : Int) + 1) = ((body'.length + 1 : Nat) : Int) := hd 1 (by omega)
  have hd2 : IntKind.wrap .i64 ((body'.length : Int) + 2) = ((body'.length + 2 : Nat) : Int) := hd 2 (by omega)
  have hd3 : IntKind.wrap .i64 ((body'.length : Int) + 3) = ((body'.length + 3 : Nat) : Int) := hd 3 (by omega)
  simp only [SS, M_LcS.k53, M_LcS.k54, M_LcS.k55, M_LcS.r69, M_LcS.r70, M_LcS.r71, M_LcS.r72, e1, e7, e8, e9]
  obtain ⟨x0, x1, x2, hx⟩ := len3 (cut_len (M := M0) (o := body'.length) (k := 3) (by omega))
  rw [putL_more (k := 3) (by omega), hx] at HB
  rw [(tag2 hr hr2).1, w_u8_div, w_u8_nat]
  refine putB (j := 2) HB (by simp; omega) (by simp) hd2 (by simp; omega) fun h1 H1 F1 => ?_
  refine putB (j := 1) H1 (by simp; omega) (by simp) hd1 (by simp; omega) fun h2 H2 F2 => ?_
  refine putB (j := 0) H2 (by simp; omega) (by simp) hd0 (by simp; omega) fun h3 H3 F3 => ?_
  simp only [List.set_cons_zero, List.set_cons_succ] at H3
  exact hK h3 [(((r - 1) * 4 + 2 : Nat) : Int), ((off % 256 : Nat) : Int), ((off / 2 ^ 8 % 256 : Nat) : Int)] _ rfl (fun s2 => copk2 ho2 hr hr2) H3 ((F1.trans F2).trans F3) (by exact e1.symm) (by rfl) (by rfl) (by rfl) (by rfl) (by rfl) (by simp only [hd3]; simp)

theorem twoLcS {off r : Nat} {body' : List Int} (e1 : st.x_dst = ⟨some ⟨db, 0, none⟩, N, N⟩) (e7 : st.x_offset = off) (e8 : st.x_d = body'.length) (e9 : st.x_length = r) (hr : 4 ≤ r) (hr2 : r < 12) (ho2 : off < 2048) (hM : M0.length = N) (hroom : body'.length + 3 ≤ N) (hN2 : N < 2 ^ 30)
    (HB : Blk h db ((putL M0 0 body').map (Value.int .u8)) 5)
    (hK : ∀ (h' : Heap) (enc : List Int) (st' : M_LcS.St), enc.length = 2 → (∀ s2, CopS s2 enc off r) → Blk h' db ((putL M0 0 (body' ++ enc)).map (Value.int .u8)) 5 → Fr (· = db) h h' → st'.x_dst = st.x_dst → st'.x_src = st.x_src → st'.x_uncompressed = st.x_uncompressed → st'.x_dLimit = st.x_dLimit → st'.x_s = st.x_s → st'.x_ml = st.x_ml → st'.x_d = (((body' ++ enc).length : Nat) : Int) → Q (.exit 7) st' h') : M_LcS.k56 st h Q := by
  have hd : ∀ j : Nat, j ≤ 3 → IntKind.wrap .i64 ((body'.length : Int) + j) = ((body'.length + j : Nat) : Int) := fun j hj => by rw [w_i64 (by omega) (by omega)]; omega
  have hd0 : IntKind.wrap .i64 ((body'.length : Int) + 0) = ((body'.length + 0 : Nat) : Int) := hd 0 (by omega)
  have hd1 : IntKind.wrap .i64 ((body'.length : Int) + 1) = ((body'.length + 1 : Nat) : Int) := hd 1 (by omega)
  have hd2 : IntKind.wrap .i64 ((body'.length : Int) + 2) = ((body'.length + 2 : Nat) : Int) := hd 2 (by omega)
  simp only [SS, M_LcS.k56, M_LcS.k57, M_LcS.r73, M_LcS.r74, M_LcS.r75, e1, e7, e8, e9]
  obtain ⟨x0, x1, hx⟩ := len2 (cut_len (M := M0) (o := body'.length) (k := 2) (by omega))
  rw [putL_more (k := 2) (by omega), hx] at HB
  rw [tag1' ho2 hr hr2, w_u8_nat]
  refine putB (j := 1) HB (by simp; omega) (by simp) hd1 (by simp; omega) fun h1 H1 F1 => ?_
  refine putB (j := 0) H1 (by simp; omega) (by simp) hd0 (by simp; omega) fun h3 H3 F3 => ?_
  simp only [List.set_cons_zero, List.set_cons_succ] at H3
  exact hK h3 [((off / 256 * 32 + (r - 4) * 4 + 1 : Nat) : Int), ((off % 256 : Nat) : Int)] _ rfl (fun s2 => cop1 ho2 hr (by omega)) H3 (F1.trans F3) (by exact e1.symm) (by rfl) (by rfl) (by rfl) (by rfl) (by rfl) (by simp only [hd2]; simp)

set_option maxRecDepth 1000000 in
set_option maxHeartbeats 1000000 in
/-- A match, as copies. -/
theorem cpyLcS {off n k : Nat} (C : CvLcS S N db h0 M0 body out last st h) (hM : M0.length = N) (hs : st.x_s = k) (hml : st.x_ml = n) (ho : st.x_offset = off) (h0' : 0 < off) (h1 : off ≤ out.length) (ho2 : off < 65536) (hn : 1 ≤ n) (hn2 : n ≤ 4194304) (hol : out.length ≤ 4194304) (hroom : body.length + 3 * (n / 64) + 16 ≤ N) (hN2 : N < 2 ^ 30)
    (hK : ∀ st' h' body' last', CvLcS S N db h0 M0 body' (fwd out off n) last' st' h' → st'.x_s = k → body'.length ≤ body.length + 3 * (n / 64) + 3 → Q .norm st' h') : M_LcS.k43 st h Q := by
  simp only [SS, M_LcS.k43, M_LcS.k44, M_LcS.r58, hml]
  refine loop_rule (I := fun s' h' => s'.x_dst = ⟨some ⟨db, 0, none⟩, N, N⟩ ∧ s'.x_src = S ∧ s'.x_uncompressed = out.length ∧ s'.x_dLimit = (N : Int) - 10 ∧ s'.x_s = k ∧ s'.x_ml = n ∧ s'.x_offset = off ∧ ∃ (q : Nat) (body' : List Int) (last' : Nat), s'.x_d = body'.length ∧ s'.x_length = ((n - q : Nat) : Int) ∧ q < n ∧ q % 64 = 0 ∧ 64 * body'.length ≤ 64 * body.length + 3 * q ∧
    Blk h' db ((putL M0 0 body').map (Value.int .u8)) 5 ∧ (∀ s2, GoesG s2 body' (fwd out off q) last') ∧ Bts body' ∧ Fr (· = db) h0 h') (μ := fun s' _ => s'.x_length.toNat) ?_ ?_
  · exact ⟨C.dst, C.src, C.u, C.lim, hs, rfl, ho, 0, body, last, C.d, by simp, by omega, rfl, by omega, C.blk, C.goes, C.bb, C.fr⟩
  · rintro s' h' ⟨e1, e2, e3, e4, e5, e6, e7, q, body', last', e8, e9, hq, hq64, hbl, HB, hg, hbb, hF⟩
    have hbl2 : body'.length ≤ body.length + 3 * (n / 64) + 2 := by omega
    have hd : ∀ j : Nat, j ≤ 3 → IntKind.wrap .i64 ((body'.length : Int) + j) = ((body'.length + j : Nat) : Int) := fun j hj => by rw [w_i64 (by omega) (by omega)]; omega
    have hd0 : IntKind.wrap .i64 ((body'.length : Int) + 0) = ((body'.length + 0 : Nat) : Int) := hd 0 (by omega)
    have hd1 : IntKind.wrap .i64 ((body'.length : Int) + 1) = ((body'.length + 1 : Nat) : Int) := hd 1 (by omega)
    have hd2 : IntKind.wrap .i64 ((body'.length : Int) + 2) = ((body'.length + 2 : Nat) : Int) := hd 2 (by omega)
    have hd3 : IntKind.wrap .i64 ((body'.length : Int) + 3) = ((body'.length + 3 : Nat) : Int) := hd 3 (by omega)
    simp only [SS, M_LcS.k45, M_LcS.k46, M_LcS.k47, M_LcS.k48, M_LcS.k49, M_LcS.k50, M_LcS.k51, M_LcS.k52, M_LcS.r59, M_LcS.r60, M_LcS.r62, M_LcS.r63, M_LcS.r64, M_LcS.r65, M_LcS.r66, M_LcS.r67, M_LcS.r68, e1, e2, e3, e4, e5, e6, e7, e8, e9]
    rw [if_pos (by simp; omega), if_neg (by simp; omega)]
    -- behind the last copy
    have fin : ∀ (enc : List Int) (h2 : Heap) (st2 : M_LcS.St), enc.length ≤ 3 → (∀ s2, CopS s2 enc off (n - q)) → Blk h2 db ((putL M0 0 (body' ++ enc)).map (Value.int .u8)) 5 → Fr (· = db) h' h2 → st2.x_dst = ⟨some ⟨db, 0, none⟩, N, N⟩ → st2.x_src = S → st2.x_uncompressed = out.length → st2.x_dLimit = (N : Int) - 10 → st2.x_s = k → st2.x_ml = n → st2.x_d = (((body' ++ enc).length : Nat) : Int) → M_LcS.k58 st2 h2 Q := by
      intro enc h2 st2 g0 g1 g2 g3 g4 g5 g6 g7 g8 g9 g10
      have hlen : (body' ++ enc).length ≤ body.length + 3 * (n / 64) + 3 + 2 := by simp; omega
      have hlen3 : (body' ++ enc).length ≤ body.length + 3 * (n / 64) + 3 := by
        rw [List.length_append]; omega
      simp only [SS, M_LcS.k58, M_LcS.k59, M_LcS.r76, M_LcS.r77, g6, g7, g9, g10]
      rw [if_neg (by rw [decide_eq_true_eq]; omega)]
      have eu : IntKind.wrap .i64 ((out.length : Int) + n) = ((fwd out off n).length : Nat) := by rw [w_i64 (by omega) (by omega), fwd_len]; omega
      refine hK _ h2 (body' ++ enc) off ⟨g4, g5, ?_, eu, ?_, g2, ?_, hbb.app (g1 true).1, hF.trans g3⟩ g8 hlen3
      · simp only [g10]
      · simp only [g7]
      intro s2
      have := (hg s2).seq ((g1 s2).2.2 (fwd out off q) last' h0' (by rw [fwd_len]; omega)) (by rw [fwd_len (fwd out off q)]; omega)
      rwa [fwd_add, show q + (n - q) = n by omega] at this
    by_cases g64 : 64 < n - q
    · rw [if_pos (by simp; omega)]
      obtain ⟨x0, x1, x2, hx⟩ := len3 (cut_len (M := M0) (o := body'.length) (k := 3) (by omega))
      rw [putL_more (k := 3) (by omega), hx] at HB
      rw [w_u8_div, w_u8_nat]
      refine putB (j := 2) HB (by simp; omega) (by simp) hd2 (by simp; omega) fun h1 H1 F1 => ?_
      refine putB (j := 1) H1 (by simp; omega) (by simp) hd1 (by simp; omega) fun h2 H2 F2 => ?_
      refine putB (j := 0) H2 (by simp; omega) (by simp) hd0 (by simp; omega) fun h3 H3 F3 => ?_
      simp only [List.set_cons_zero, List.set_cons_succ] at H3
      have el : IntKind.wrap .i64 (((n - q : Nat) : Int) - 64) = ((n - (q + 64) : Nat) : Int) := by rw [w_i64 (by omega) (by omega)]; omega
      rw [el, hd3]
      have hc := fun s2 => copk2 (s2 := s2) (o := off) (n := 64) ho2 (by omega) (by omega)
      refine ⟨⟨trivial, trivial, trivial, trivial, trivial, trivial, trivial, q + 64, body' ++ [254, ((off % 256 : Nat) : Int), ((off / 2 ^ 8 % 256 : Nat) : Int)], off, by simp, rfl, by omega, by omega, by simp; omega, H3, ?_, hbb.app (hc true).1, hF.trans ((F1.trans F2).trans F3)⟩, by omega⟩
      intro s2
      have := (hg s2).seq ((hc s2).2.2 (fwd out off q) last' h0' (by rw [fwd_len]; omega)) (by rw [fwd_len (fwd out off q)]; omega)
      rwa [fwd_add] at this
    rw [if_neg (by simp; omega)]
    by_cases g : n - q ≥ 12 ∨ off ≥ 2048 ∨ n - q < 4
    · have main : ∀ st2 : M_LcS.St, st2.x_dst = ⟨some ⟨db, 0, none⟩, N, N⟩ → st2.x_src = S → st2.x_uncompressed = out.length → st2.x_dLimit = (N : Int) - 10 → st2.x_s = k → st2.x_ml = n → st2.x_offset = off → st2.x_d = body'.length → st2.x_length = ((n - q : Nat) : Int) → ∀ Q2 : Ex → M_LcS.St → Heap → Prop, (∀ st3 h3, M_LcS.k58 st3 h3 Q → Q2 (.exit 7) st3 h3) → M_LcS.k53 st2 h' Q2 := by
        intro st2 g4 g5 g6 g7 g8 g9 g10 g11 g12 Q2 hQ2
        refine threeLcS g4 g10 g11 g12 (by omega) (by omega) ho2 hM (by omega) hN2 HB fun h3 enc st3 t0 t1 t2 t3 t4 t5 t6 t7 t8 t9 t10 => ?_
        exact hQ2 st3 h3 (fin enc h3 st3 (by omega) t1 t2 t3 (t4.trans g4) (t5.trans g5) (t6.trans g6) (t7.trans g7) (t8.trans g8) (t9.trans g9) t10)
      by_cases c1 : n - q ≥ 12
      · rw [if_neg (by simp; omega), if_pos trivial]
        exact main _ (by first | rfl | assumption) (by first | rfl | assumption) (by first | rfl | assumption) (by first | rfl | assumption) (by first | rfl | assumption) (by first | rfl | assumption) (by first | rfl | assumption) (by first | rfl | assumption) (by first | rfl | assumption) _ (fun _ _ h => h)
      · rw [if_pos (by simp; omega)]
        by_cases c2 : off ≥ 2048
        · rw [if_neg (by simp; omega), if_pos trivial]
          exact main _ (by first | rfl | assumption) (by first | rfl | assumption) (by first | rfl | assumption) (by first | rfl | assumption) (by first | rfl | assumption) (by first | rfl | assumption) (by first | rfl | assumption) (by first | rfl | assumption) (by first | rfl | assumption) _ (fun _ _ h => h)
        · rw [if_pos (by simp; omega), if_pos (by simp; omega)]
          exact main _ (by first | rfl | assumption) (by first | rfl | assumption) (by first | rfl | assumption) (by first | rfl | assumption) (by first | rfl | assumption) (by first | rfl | assumption) (by first | rfl | assumption) (by first | rfl | assumption) (by first | rfl | assumption) _ (fun _ _ h => h)
    · rw [if_pos (by simp; omega), if_pos (by simp; omega), if_neg (by simp; omega)]
      refine twoLcS (off := off) (r := n - q) (body' := body') (by first | rfl | assumption) (by first | rfl | assumption) (by first | rfl | assumption) (by first | rfl | assumption) (by omega) (by omega) (by omega) hM (by omega) hN2 HB fun h3 enc st3 t0 t1 t2 t3 t4 t5 t6 t7 t8 t9 t10 => ?_
      exact fin enc h3 st3 (by omega) t1 t2 t3 (t4.trans (by first | rfl | assumption)) (t5.trans (by first | rfl | assumption)) (t6.trans (by first | rfl | assumption)) (t7.trans (by first | rfl | assumption)) (t8.trans (by first | rfl | assumption)) (t9.trans (by first | rfl | assumption)) t10
end

section
variable {S : Sl} {l : List Int} {N db : Nat} {h : Heap} {K : Sl → Int → Value → Heap → Prop}

set_option maxRecDepth 1000000 in
set_option maxHeartbeats 1000000 in
theorem convLcS {p : Option Addr} {res : List Int} (HB : Blk h db ((List.replicate N (0 : Int)).map (Value.int .u8)) 5) (hS : SlI h .u8 S l) (hne : ∀ a, 0 < S.n → S.p = some a → a.block ≠ db) (hb : Bts l) (hl : l.length ≤ 65536) (hN : N = 16 * l.length + 64) (hZ : Z false l 0 [] = some res)
    (hK : ∀ body last h', Blk h' db ((putL (List.replicate N 0) 0 body).map (Value.int .u8)) 5 → (∀ s2, GoesG s2 body res last) → Bts body → body.length ≤ 16 * l.length + 16 → Fr (· = db) h h' → K ⟨some ⟨db, 0, none⟩, body.length, N⟩ res.length .nilIface h') : c_LcS p ⟨some ⟨db, 0, none⟩, 0, N⟩ S h K := by
  have hsl := hS.len
  have hl0 := (Z_step hb hZ).1
  apply M_LcS.calls
  simp only [SS, M_LcS.stm, M_LcS.init, M_LcS.k0, M_LcS.k1, M_LcS.k2, M_LcS.k3, M_LcS.k10, M_LcS.k11, M_LcS.k12, M_LcS.r0, M_LcS.r1, M_LcS.r3, M_LcS.r4, M_LcS.r5, M_LcS.r17, M_LcS.r18]
  rw [if_neg (by simp; omega)]
  refine ⟨by omega, by omega, ?_⟩
  rw [if_neg (by simp), subP0]
  have eN : IntKind.wrap .i64 (((Int.toNat ((N : Nat) : Int) - 0 : Nat) : Int) - 10) = (N : Int) - 10 := by rw [Int.toNat_natCast, Nat.sub_zero, w_i64 (by omega) (by omega)]
  rw [eN, Int.toNat_natCast, Nat.sub_zero]
  refine loop_rule (I := fun s' h' => ∃ (i : Nat) (out body : List Int) (last : Nat), CvLcS S N db h (List.replicate N 0) body out last s' h' ∧ s'.x_s = i ∧ Z false l i out = some res ∧ body.length ≤ 16 * i ∧ out.length ≤ 4194304) (μ := fun s' _ => (l.length - s'.x_s).toNat) ?_ ?_
  · exact ⟨0, [], [], 0, ⟨rfl, rfl, rfl, rfl, rfl, HB, fun _ => GoesG.nil, fun x hx => by (cases hx), Fr.refl _ _⟩, rfl, hZ, by simp, by simp⟩
  · rintro s' h' ⟨i, out, body, last, C, hs, hZi, hbl, hol⟩
    obtain ⟨hi, m, j, hzl, hjm, hij, hor⟩ := Z_step hb hZi
    simp only [SS, M_LcS.k13, M_LcS.r19, C.src, hs]
    rw [if_neg (by simp; omega)]
    have hv := hb.getD i
    refine headLcS C hS hne hb (by omega) hs hi hzl fun s2 C2 d1 d2 d3 => ?_
    have hzle := zlen_le hb hzl (by omega)
    refine litLcS C2 hS hne hb (by omega) hN (by simp) d1 d2 d3 (by omega) hjm (by omega) (by omega) fun s3 h3 body3 C3 d4 d5 d6 => ?_
    rcases hor with ⟨q1, q2, q3⟩ | ⟨q1, q2, off, n, k, q3, q4, q5, q6, q7, q8, q9⟩
    · -- the end
      simp only [SS, M_LcS.k29, M_LcS.r40, M_LcS.r79, M_LcS.res, C3.src, C3.d, C3.dst, C3.u, d4, d5]
      rw [if_pos (by simp; omega), if_pos (by rw [q2]; rfl)]
      refine ⟨by omega, by omega, ?_⟩
      rw [subP0, Int.toNat_natCast, Nat.sub_zero, Nat.sub_zero, ← q3]
      exact hK body3 last h3 C3.blk (q3 ▸ C3.goes) C3.bb (by omega) C3.fr
    · have hol3 : (out ++ (l.drop j).take m).length = out.length + m := by simp; omega
      have hk := (Z_step hb q8).1
      refine offLcS C3 hS hne hb (by omega) d4 d5 (by omega) q2 q3 q4 (by omega) (by omega) q6 hk fun s4 h4 C4 d7 d8 d9 => ?_
      have hzm := zlen_le hb q6 (by have := leAt_le q3; omega)
      have h4' : zleast false ≤ 4 := by decide
      have h4'' : 1 ≤ zleast false := by decide
      have hoff3 : off < 65536 := by
        have h1 := leN_lt ((l.drop (j + m)).take 2) (hb.sub (j + m) 2)
        have h2 : ((l.drop (j + m)).take 2).length ≤ 2 := by simp; omega
        have h3 : 256 ^ ((l.drop (j + m)).take 2).length ≤ 256 ^ 2 := Nat.pow_le_pow_right (by decide) h2
        unfold leAt at q3
        split at q3
        · obtain rfl := Option.some.inj q3
          omega
        · cases q3
      refine cpyLcS C4 (by simp) d7 d8 d9 q4 (by omega) hoff3 (by omega) (by omega) (by omega) (by omega) (by omega) fun s5 h5 body5 last5 C5 d10 d11 => ?_
      refine ⟨⟨k, _, body5, last5, C5, d10, q8, by omega, by rw [fwd_len]; omega⟩, ?_⟩
      simp only [d10]
      omega
end

section
variable {S : Sl} {l : List Int} {N db : Nat} {h0 : Heap} {M0 : List Int} {body out : List Int} {last : Nat} {st : M_LsS.St} {h : Heap} {Q : Ex → M_LsS.St → Heap → Prop}


theorem threeLsS {off r : Nat} {body' : List Int} (e1 : st.x_dst = ⟨some ⟨db, 0, none⟩, N, N⟩) (e7 : st.x_offset = off) (e8 : st.x_d = body'.length) (e9 : st.x_length = r) (hr : 1 ≤ r) (hr2 : r ≤ 64) (ho2 : off < 65536) (hM : M0.length = N) (hroom : body'.length + 3 ≤ N) (hN2 : N < 2 ^ 30)
    (HB : Blk h db ((putL M0 0 body').map (Value.int .u8)) 5)
    (hK : ∀ (h' : Heap) (enc : List Int) (st' : M_LsS.St), enc.length = 3 → (∀ s2, CopS s2 enc off r) → Blk h' db ((putL M0 0 (body' ++ enc)).map (Value.int .u8)) 5 → Fr (· = db) h h' → st'.x_dst = st.x_dst → st'.x_src = st.x_src → st'.x_uncompressed = st.x_uncompressed → st'.x_dLimit = st.x_dLimit → st'.x_s = st.x_s → st'.x_ml = st.x_ml → st'.x_d = (((body' ++ enc).length : Nat) : Int) → Q (.exit 7) st' h') : M_LsS.k54 st h Q := by
  have hd : ∀ j : Nat, j ≤ 3 → IntKind.wrap .i64 ((body'.length : Int) + j) = ((body'.length + j : Nat) : Int) := fun j hj => by rw [w_i64 (by omega) (by omega)]; omega
  have hd0 : IntKind.wrap .i64 ((body'.length : Int) + 0) = ((body'.length + 0 : Nat) : Int) := hd 0 (by omega)
  have hd1 : IntKind.wrap .i64 ((body'.length : Int) + 1) = ((body'.length + 1 : Nat) : Int) := hd 1 (by omega)
  have hd2 : IntKind.wrap .i64 ((body'.length : Int) + 2) = ((body'.length + 2 : Nat) : Int) := hd 2 (by omega)
  have hd3 : IntKind.wrap .i64 ((body'.length : Int) + 3) = ((body'.length + 3 : Nat) : Int) := hd 3 (by omega)
  simp only [SS, M_LsS.k54, M_LsS.k55, M_LsS.k56, M_LsS.r70, M_LsS.r71, M_LsS.r72, M_LsS.r73, e1, e7, e8, e9]
  obtain ⟨x0, x1, x2, hx⟩ := len3 (cut_len (M := M0) (o := body'.length) (k := 3) (by omega))
  rw [putL_more (k := 3) (by omega), hx] at HB
  rw [(tag2 hr hr2).1, w_u8_div, w_u8_nat]
  refine putB (j := 2) HB (by simp; omega) (by simp) hd2 (by simp; omega) fun h1 H1 F1 => ?_
  refine putB (j := 1) H1 (by simp; omega) (by simp) hd1 (by simp; omega) fun h2 H2 F2 => ?_
  refine putB (j := 0) H2 (by simp; omega) (by simp) hd0 (by simp; omega) fun h3 H3 F3 => ?_
  simp only [List.set_cons_zero, List.set_cons_succ] at H3
  exact hK h3 [(((r - 1) * 4 + 2 : Nat) : Int), ((off % 256 : Nat) : Int), ((off / 2 ^ 8 % 256 : Nat) : Int)] _ rfl (fun s2 => copk2 ho2 hr hr2) H3 ((F1.trans F2).trans F3) (by exact e1.symm) (by rfl) (by rfl) (by rfl) (by rfl) (by rfl) (by simp only [hd3]; simp)

theorem twoLsS {off r : Nat} {body' : List Int} (e1 : st.x_dst = ⟨some ⟨db, 0, none⟩, N, N⟩) (e7 : st.x_offset = off) (e8 : st.x_d = body'.length) (e9 : st.x_length = r) (hr : 4 ≤ r) (hr2 : r < 12) (ho2 : off < 2048) (hM : M0.length = N) (hroom : body'.length + 3 ≤ N) (hN2 : N < 2 ^ 30)
    (HB : Blk h db ((putL M0 0 body').map (Value.int .u8)) 5)
    (hK : ∀ (h' : Heap) (enc : List Int) (st' : M_LsS.St), enc.length = 2 → (∀ s2, CopS s2 enc off r) → Blk h' db ((putL M0 0 (body' ++ enc)).map (Value.int .u8)) 5 → Fr (· = db) h h' → st'.x_dst = st.x_dst → st'.x_src = st.x_src → st'.x_uncompressed = st.x_uncompressed → st'.x_dLimit = st.x_dLimit → st'.x_s = st.x_s → st'.x_ml = st.x_ml → st'.x_d = (((body' ++ enc).length : Nat) : Int) → Q (.exit 7) st' h') : M_LsS.k57 st h Q := by
  have hd : ∀ j : Nat, j ≤ 3 → IntKind.wrap .i64 ((body'.length : Int) + j) = ((body'.length + j : Nat) : Int) := fun j hj => by rw [w_i64 (by omega) (by omega)]; omega
  have hd0 : IntKind.wrap .i64 ((body'.length : Int) + 0) = ((body'.length + 0 : Nat) : Int) := hd 0 (by omega)
  have hd1 : IntKind.wrap .i64 ((body'.length : Int) + 1) = ((body'.length + 1 : Nat) : Int) := hd 1 (by omega)
  have hd2 : IntKind.wrap .i64 ((body'.length : Int) + 2) = ((body'.length + 2 : Nat) : Int) := hd 2 (by omega)
  simp only [SS, M_LsS.k57, M_LsS.k58, M_LsS.r74, M_LsS.r75, M_LsS.r76, e1, e7, e8, e9]
  obtain ⟨x0, x1, hx⟩ := len2 (cut_len (M := M0) (o := body'.length) (k := 2) (by omega))
  rw [putL_more (k := 2) (by omega), hx] at HB
  rw [tag1' ho2 hr hr2, w_u8_nat]
  refine putB (j := 1) HB (by simp; omega) (by simp) hd1 (by simp; omega) fun h1 H1 F1 => ?_
  refine putB (j := 0) H1 (by simp; omega) (by simp) hd0 (by simp; omega) fun h3 H3 F3 => ?_
  simp only [List.set_cons_zero, List.set_cons_succ] at H3
  exact hK h3 [((off / 256 * 32 + (r - 4) * 4 + 1 : Nat) : Int), ((off % 256 : Nat) : Int)] _ rfl (fun s2 => cop1 ho2 hr (by omega)) H3 (F1.trans F3) (by exact e1.symm) (by rfl) (by rfl) (by rfl) (by rfl) (by rfl) (by simp only [hd2]; simp)

set_option maxRecDepth 1000000 in
set_option maxHeartbeats 1000000 in
/-- A match, as copies. -/
theorem cpyLsS {off n k : Nat} (C : CvLsS S N db h0 M0 body out last st h) (hM : M0.length = N) (hs : st.x_s = k) (hml : st.x_ml = n) (ho : st.x_offset = off) (h0' : 0 < off) (h1 : off ≤ out.length) (ho2 : off < 65536) (hn : 1 ≤ n) (hn2 : n ≤ 4194304) (hol : out.length ≤ 4194304) (hroom : body.length + 3 * (n / 64) + 16 ≤ N) (hN2 : N < 2 ^ 30)
    (hK : ∀ st' h' body' last', CvLsS S N db h0 M0 body' (fwd out off n) last' st' h' → st'.x_s = k → body'.length ≤ body.length + 3 * (n / 64) + 3 → Q .norm st' h') : M_LsS.k44 st h Q := by
  simp only [SS, M_LsS.k44, M_LsS.k45, M_LsS.r59, hml]
  refine loop_rule (I := fun s' h' => s'.x_dst = ⟨some ⟨db, 0, none⟩, N, N⟩ ∧ s'.x_src = S ∧ s'.x_uncompressed = out.length ∧ s'.x_dLimit = (N : Int) - 10 ∧ s'.x_s = k ∧ s'.x_ml = n ∧ s'.x_offset = off ∧ ∃ (q : Nat) (body' : List Int) (last' : Nat), s'.x_d = body'.length ∧ s'.x_length = ((n - q : Nat) : Int) ∧ q < n ∧ q % 64 = 0 ∧ 64 * body'.length ≤ 64 * body.length + 3 * q ∧
    Blk h' db ((putL M0 0 body').map (Value.int .u8)) 5 ∧ (∀ s2, GoesG s2 body' (fwd out off q) last') ∧ Bts body' ∧ Fr (· = db) h0 h') (μ := fun s' _ => s'.x_length.toNat) ?_ ?_
  · exact ⟨C.dst, C.src, C.u, C.lim, hs, rfl, ho, 0, body, last, C.d, by simp, by omega, rfl, by omega, C.blk, C.goes, C.bb, C.fr⟩
  · rintro s' h' ⟨e1, e2, e3, e4, e5, e6, e7, q, body', last', e8, e9, hq, hq64, hbl, HB, hg, hbb, hF⟩
    have hbl2 : body'.length ≤ body.length + 3 * (n / 64) + 2 := by omega
    have hd : ∀ j : Nat, j ≤ 3 → IntKind.wrap .i64 ((body'.length : Int) + j) = ((body'.length + j : Nat) : Int) := fun j hj => by rw [w_i64 (by omega) (by omega)]; omega
    have hd0 : IntKind.wrap .i64 ((body'.length : Int) + 0) = ((body'.length + 0 : Nat) : Int) := hd 0 (by omega)
    have hd1 : IntKind.wrap .i64 ((body'.length : Int) + 1) = ((body'.length + 1 : Nat) : Int) := hd 1 (by omega)
    have hd2 : IntKind.wrap .i64 ((body'.length : Int) + 2) = ((body'.length + 2 : Nat) : Int) := hd 2 (by omega)
    have hd3 : IntKind.wrap .i64 ((body'.length : Int) + 3) = ((body'.length + 3 : Nat) : Int) := hd 3 (by omega)
    simp only [SS, M_LsS.k46, M_LsS.k47, M_LsS.k48, M_LsS.k49, M_LsS.k50, M_LsS.k51, M_LsS.k52, M_LsS.k53, M_LsS.r60, M_LsS.r61, M_LsS.r63, M_LsS.r64, M_LsS.r65, M_LsS.r66, M_LsS.r67, M_LsS.r68, M_LsS.r69, e1, e2, e3, e4, e5, e6, e7, e8, e9]
    rw [if_pos (by simp; omega), if_neg (by simp; omega)]
    -- behind the last copy
    have fin : ∀ (enc : List Int) (h2 : Heap) (st2 : M_LsS.St), enc.length ≤ 3 → (∀ s2, CopS s2 enc off (n - q)) → Blk h2 db ((putL M0 0 (body' ++ enc)).map (Value.int .u8)) 5 → Fr (· = db) h' h2 → st2.x_dst = ⟨some ⟨db, 0, none⟩, N, N⟩ → st2.x_src = S → st2.x_uncompressed = out.length → st2.x_dLimit = (N : Int) - 10 → st2.x_s = k → st2.x_ml = n → st2.x_d = (((body' ++ enc).length : Nat) : Int) → M_LsS.k59 st2 h2 Q := by
      intro enc h2 st2 g0 g1 g2 g3 g4 g5 g6 g7 g8 g9 g10
      have hlen : (body' ++ enc).length ≤ body.length + 3 * (n / 64) + 3 + 2 := by simp; omega
      have hlen3 : (body' ++ enc).length ≤ body.length + 3 * (n / 64) + 3 := by
        rw [List.length_append]; omega
      simp only [SS, M_LsS.k59, M_LsS.k60, M_LsS.r77, M_LsS.r78, g6, g7, g9, g10]
      rw [if_neg (by rw [decide_eq_true_eq]; omega)]
      have eu : IntKind.wrap .i64 ((out.length : Int) + n) = ((fwd out off n).length : Nat) := by rw [w_i64 (by omega) (by omega), fwd_len]; omega
      refine hK _ h2 (body' ++ enc) off ⟨g4, g5, ?_, eu, ?_, g2, ?_, hbb.app (g1 true).1, hF.trans g3⟩ g8 hlen3
      · simp only [g10]
      · simp only [g7]
      intro s2
      have := (hg s2).seq ((g1 s2).2.2 (fwd out off q) last' h0' (by rw [fwd_len]; omega)) (by rw [fwd_len (fwd out off q)]; omega)
      rwa [fwd_add, show q + (n - q) = n by omega] at this
    by_cases g64 : 64 < n - q
    · rw [if_pos (by simp; omega)]
      obtain ⟨x0, x1, x2, hx⟩ := len3 (cut_len (M := M0) (o := body'.length) (k := 3) (by omega))
      rw [putL_more (k := 3) (by omega), hx] at HB
      rw [w_u8_div, w_u8_nat]
      refine putB (j := 2) HB (by simp; omega) (by simp) hd2 (by simp; omega) fun h1 H1 F1 => ?_
      refine putB (j := 1) H1 (by simp; omega) (by simp) hd1 (by simp; omega) fun h2 H2 F2 => ?_
      refine putB (j := 0) H2 (by simp; omega) (by simp) hd0 (by simp; omega) fun h3 H3 F3 => ?_
      simp only [List.set_cons_zero, List.set_cons_succ] at H3
      have el : IntKind.wrap .i64 (((n - q : Nat) : Int) - 64) = ((n - (q + 64) : Nat) : Int) := by rw [w_i64 (by omega) (by omega)]; omega
      rw [el, hd3]
      have hc := fun s2 => copk2 (s2 := s2) (o := off) (n := 64) ho2 (by omega) (by omega)
      refine ⟨⟨trivial, trivial, trivial, trivial, trivial, trivial, trivial, q + 64, body' ++ [254, ((off % 256 : Nat) : Int), ((off / 2 ^ 8 % 256 : Nat) : Int)], off, by simp, rfl, by omega, by omega, by simp; omega, H3, ?_, hbb.app (hc true).1, hF.trans ((F1.trans F2).trans F3)⟩, by omega⟩
      intro s2
      have := (hg s2).seq ((hc s2).2.2 (fwd out off q) last' h0' (by rw [fwd_len]; omega)) (by rw [fwd_len (fwd out off q)]; omega)
      rwa [fwd_add] at this
    rw [if_neg (by simp; omega)]
    by_cases g : n - q ≥ 12 ∨ off ≥ 2048 ∨ n - q < 4
    · have main : ∀ st2 : M_LsS.St, st2.x_dst = ⟨some ⟨db, 0, none⟩, N, N⟩ → st2.x_src = S → st2.x_uncompressed = out.length → st2.x_dLimit = (N : Int) - 10 → st2.x_s = k → st2.x_ml = n → st2.x_offset = off → st2.x_d = body'.length → st2.x_length = ((n - q : Nat) : Int) → ∀ Q2 : Ex → M_LsS.St → Heap → Prop, (∀ st3 h3, M_LsS.k59 st3 h3 Q → Q2 (.exit 7) st3 h3) → M_LsS.k54 st2 h' Q2 := by
        intro st2 g4 g5 g6 g7 g8 g9 g10 g11 g12 Q2 hQ2
        refine threeLsS g4 g10 g11 g12 (by omega) (by omega) ho2 hM (by omega) hN2 HB fun h3 enc st3 t0 t1 t2 t3 t4 t5 t6 t7 t8 t9 t10 => ?_
        exact hQ2 st3 h3 (fin enc h3 st3 (by omega) t1 t2 t3 (t4.trans g4) (t5.trans g5) (t6.trans g6) (t7.trans g7) (t8.trans g8) (t9.trans g9) t10)
      by_cases c1 : n - q ≥ 12
      · rw [if_neg (by simp; omega), if_pos trivial]
        exact main _ (by first | rfl | assumption) (by first | rfl | assumption) (by first | rfl | assumption) (by first | rfl | assumption) (by first | rfl | assumption) (by first | rfl | assumption) (by first | rfl | assumption) (by first | rfl | assumption) (by first | rfl | assumption) _ (fun _ _ h => h)
      · rw [if_pos (by simp; omega)]
        by_cases c2 : off ≥ 2048
        · rw [if_neg (by simp; omega), if_pos trivial]
          exact main _ (by first | rfl | assumption) (by first | rfl | assumption) (by first | rfl | assumption) (by first | rfl | assumption) (by first | rfl | assumption) (by first | rfl | assumption) (by first | rfl | assumption) (by first | rfl | assumption) (by first | rfl | assumption) _ (fun _ _ h => h)
        · rw [if_pos (by simp; omega), if_pos (by simp; omega)]
          exact main _ (by first | rfl | assumption) (by first | rfl | assumption) (by first | rfl | assumption) (by first | rfl | assumption) (by first | rfl | assumption) (by first | rfl | assumption) (by first | rfl | assumption) (by first | rfl | assumption) (by first | rfl | assumption) _ (fun _ _ h => h)
    · rw [if_pos (by simp; omega), if_pos (by simp; omega), if_neg (by simp; omega)]
      refine twoLsS (off := off) (r := n - q) (body' := body') (by first | rfl | assumption) (by first | rfl | assumption) (by first | rfl | assumption) (by first | rfl | assumption) (by omega) (by omega) (by omega) hM (by omega) hN2 HB fun h3 enc st3 t0 t1 t2 t3 t4 t5 t6 t7 t8 t9 t10 => ?_
      exact fin enc h3 st3 (by omega) t1 t2 t3 (t4.trans (by first | rfl | assumption)) (t5.trans (by first | rfl | assumption)) (t6.trans (by first | rfl | assumption)) (t7.trans (by first | rfl | assumption)) (t8.trans (by first | rfl | assumption)) (t9.trans (by first | rfl | assumption)) t10
end

section
variable {S : Sl} {l : List Int} {N db : Nat} {h : Heap} {K : Sl → Int → Value → Heap → Prop}

set_option maxRecDepth 1000000 in
set_option maxHeartbeats 1000000 in
theorem convLsS {p : Option Addr} {res : List Int} (HB : Blk h db ((List.replicate N (0 : Int)).map (Value.int .u8)) 5) (hS : SlI h .u8 S l) (hne : ∀ a, 0 < S.n → S.p = some a → a.block ≠ db) (hb : Bts l) (hl : l.length ≤ 65536) (hN : N = 16 * l.length + 64) (hZ : Z true l 0 [] = some res)
    (hK : ∀ body last h', Blk h' db ((putL (List.replicate N 0) 0 body).map (Value.int .u8)) 5 → (∀ s2, GoesG s2 body res last) → Bts body → body.length ≤ 16 * l.length + 16 → Fr (· = db) h h' → K ⟨some ⟨db, 0, none⟩, body.length, N⟩ res.length .nilIface h') : c_LsS p ⟨some ⟨db, 0, none⟩, 0, N⟩ S h K := by
  have hsl := hS.len
  have hl0 := (Z_step hb hZ).1
  apply M_LsS.calls
  simp only [SS, M_LsS.stm, M_LsS.init, M_LsS.k0, M_LsS.k1, M_LsS.k2, M_LsS.k3, M_LsS.k10, M_LsS.k11, M_LsS.k12, M_LsS.r0, M_LsS.r1, M_LsS.r3, M_LsS.r4, M_LsS.r5, M_LsS.r17, M_LsS.r18]
  rw [if_neg (by simp; omega)]
  refine ⟨by omega, by omega, ?_⟩
  rw [if_neg (by simp), subP0]
  have eN : IntKind.wrap .i64 (((Int.toNat ((N : Nat) : Int) - 0 : Nat) : Int) - 10) = (N : Int) - 10 := by rw [Int.toNat_natCast, Nat.sub_zero, w_i64 (by omega) (by omega)]
  rw [eN, Int.toNat_natCast, Nat.sub_zero]
  refine loop_rule (I := fun s' h' => ∃ (i : Nat) (out body : List Int) (last : Nat), CvLsS S N db h (List.replicate N 0) body out last s' h' ∧ s'.x_s = i ∧ Z true l i out = some res ∧ body.length ≤ 16 * i ∧ out.length ≤ 4194304) (μ := fun s' _ => (l.length - s'.x_s).toNat) ?_ ?_
  · exact ⟨0, [], [], 0, ⟨rfl, rfl, rfl, rfl, rfl, HB, fun _ => GoesG.nil, fun x hx => by (cases hx), Fr.refl _ _⟩, rfl, hZ, by simp, by simp⟩
  · rintro s' h' ⟨i, out, body, last, C, hs, hZi, hbl, hol⟩
    obtain ⟨hi, m, j, hzl, hjm, hij, hor⟩ := Z_step hb hZi
    simp only [SS, M_LsS.k13, M_LsS.r19, C.src, hs]
    rw [if_neg (by simp; omega)]
    have hv := hb.getD i
    refine headLsS C hS hne hb (by omega) hs hi hzl fun s2 C2 d1 d2 d3 => ?_
    have hzle := zlen_le hb hzl (by omega)
    refine litLsS C2 hS hne hb (by omega) hN (by simp) d1 d2 d3 (by omega) hjm (by omega) (by omega) fun s3 h3 body3 C3 d4 d5 d6 => ?_
    rcases hor with ⟨q1, q2, q3⟩ | ⟨q1, q2, off, n, k, q3, q4, q5, q6, q7, q8, q9⟩
    · -- the end
      simp only [SS, M_LsS.k29, M_LsS.r40, M_LsS.k31, M_LsS.k30, M_LsS.r41, M_LsS.r80, M_LsS.res, C3.src, C3.d, C3.dst, C3.u, d4, d5]
      rw [if_pos (by rw [q2]; rfl), if_pos (by simp; omega)]
      refine ⟨by omega, by omega, ?_⟩
      rw [subP0, Int.toNat_natCast, Nat.sub_zero, Nat.sub_zero, ← q3]
      exact hK body3 last h3 C3.blk (q3 ▸ C3.goes) C3.bb (by omega) C3.fr
    · have hol3 : (out ++ (l.drop j).take m).length = out.length + m := by simp; omega
      have hk := (Z_step hb q8).1
      refine offLsS C3 hS hne hb (by omega) d4 d5 (by omega) q2 q3 q4 (by omega) (by omega) q6 hk fun s4 h4 C4 d7 d8 d9 => ?_
      have hzm := zlen_le hb q6 (by have := leAt_le q3; omega)
      have h4' : zleast true ≤ 4 := by decide
      have h4'' : 1 ≤ zleast true := by decide
      have hoff3 : off < 65536 := by
        have h1 := leN_lt ((l.drop (j + m)).take 2) (hb.sub (j + m) 2)
        have h2 : ((l.drop (j + m)).take 2).length ≤ 2 := by simp; omega
        have h3 : 256 ^ ((l.drop (j + m)).take 2).length ≤ 256 ^ 2 := Nat.pow_le_pow_right (by decide) h2
        unfold leAt at q3
        split at q3
        · obtain rfl := Option.some.inj q3
          omega
        · cases q3
      refine cpyLsS C4 (by simp) d7 d8 d9 q4 (by omega) hoff3 (by omega) (by omega) (by omega) (by omega) (by omega) fun s5 h5 body5 last5 C5 d10 d11 => ?_
      refine ⟨⟨k, _, body5, last5, C5, d10, q8, by omega, by rw [fwd_len]; omega⟩, ?_⟩
      simp only [d10]
      omega
end
end Go.Proofs.YtibleenkgmkpmaaDoor

set_option linter.unusedSimpArgs false
set_option linter.unusedVariables false
set_option linter.unusedSectionVars false
namespace Go.Proofs.YtibleenkgmkpmaaDoor
open Go Go.Vc Go.Ml Go.S2

theorem implLz4ConvertSn {h : Heap} {S : Sl} {l res : List Int} (hS : SlI h .u8 S l) (hsB : ∀ a, 0 < S.n → S.p = some a → a.block < h.size) (hb : Bts l) (hl : l.length ≤ 65536) (hZ : Z false l 0 [] = some res) {K : Sl → Int → Bool → Heap → Prop}
    (hK : ∀ s body last h', Own h.size h' .u8 5 s body → (∀ s2, GoesG s2 body res last) → Bts body → body.length ≤ 2 ^ 21 → Old h h' → K s res.length true h') : c_impl_Lz4Convert S true h K := by
  have hsl := hS.len
  apply M_impl_Lz4Convert.calls
  simp only [SS, M_impl_Lz4Convert.k4, M_impl_Lz4Convert.k3, M_impl_Lz4Convert.k2, M_impl_Lz4Convert.k1, M_impl_Lz4Convert.k0, M_impl_Lz4Convert.stm, M_impl_Lz4Convert.r0, M_impl_Lz4Convert.r1, M_impl_Lz4Convert.r2, M_impl_Lz4Convert.r3, M_impl_Lz4Convert.r4, M_impl_Lz4Convert.r5, M_impl_Lz4Convert.r6, M_impl_Lz4Convert.r7, M_impl_Lz4Convert.r8, M_impl_Lz4Convert.init, M_impl_Lz4Convert.res, withH_eq, ptrE_some, add_mk, Nat.zero_add, Nat.add_zero]
  have o1 := Old.new h (zcells Pg 107) 107
  generalize hnew h (zcells Pg 107) 107 = h1 at *
  have hs1 := o1.size
  rw [if_pos trivial]
  have ew : IntKind.wrap .i64 (IntKind.wrap .i64 (16 * ((S.n : Nat) : Int)) + 64) = ((16 * l.length + 64 : Nat) : Int) := by rw [w_i64 (x := 16 * ((S.n : Nat) : Int)) (by omega) (by omega), w_i64 (by omega) (by omega)]; omega
  rw [ew]
  refine mkT_cap (z := .int .u8 0) (by omega) ts5 tb5 (by kernel_rfl) ?_
  have o2 := Old.new h1 (List.replicate (16 * l.length + 64) (.int .u8 0)) 5
  have hb2 := Blk.new h1 (List.replicate (16 * l.length + 64) (.int .u8 0)) 5
  generalize hnew h1 (List.replicate (16 * l.length + 64) (.int .u8 0)) 5 = h2 at *
  rw [← List.map_replicate (f := Value.int .u8) (a := 0)] at hb2
  have hS2 := (hS.ext o1.ext).ext o2.ext
  have key : c_LcS (some ⟨h.size, 0, none⟩) ⟨some ⟨h1.size, 0, none⟩, 0, 16 * l.length + 64⟩ S h2 fun s r e h6 => nilE e fun b1 => if (!b1) = true then K ⟨none, 0, 0⟩ 0 false h6 else c_impl_copied s h6 fun w2 h1 => K w2 r true h1 := by
    refine convLcS hb2 hS2 (fun a h0 ha => by have := hsB a h0 ha; omega) hb hl rfl hZ fun body last h3 q1 q2 q3 q4 q5 => ?_
    simp only [nilE, isNilI]
    rw [if_neg (by simp)]
    have o3 : Old h h3 := o1.trans (Keep.old ((Keep.of_old o2).trans (Keep.of_fr q5 (Nat.le_refl _))))
    refine copiedS (sl_putL (N := 0) q1 (by omega)) (by omega) fun s h4 HO o4 => ?_
    exact hK s body last h4 (HO.mono (by have := o3.size; omega)) q2 q3 (by omega) (o3.trans o4)
  exact key

theorem implLz4sConvertSn {h : Heap} {S : Sl} {l res : List Int} (hS : SlI h .u8 S l) (hsB : ∀ a, 0 < S.n → S.p = some a → a.block < h.size) (hb : Bts l) (hl : l.length ≤ 65536) (hZ : Z true l 0 [] = some res) {K : Sl → Int → Bool → Heap → Prop}
    (hK : ∀ s body last h', Own h.size h' .u8 5 s body → (∀ s2, GoesG s2 body res last) → Bts body → body.length ≤ 2 ^ 21 → Old h h' → K s res.length true h') : c_impl_Lz4sConvert S true h K := by
  have hsl := hS.len
  apply M_impl_Lz4sConvert.calls
  simp only [SS, M_impl_Lz4sConvert.k4, M_impl_Lz4sConvert.k3, M_impl_Lz4sConvert.k2, M_impl_Lz4sConvert.k1, M_impl_Lz4sConvert.k0, M_impl_Lz4sConvert.stm, M_impl_Lz4sConvert.r0, M_impl_Lz4sConvert.r1, M_impl_Lz4sConvert.r2, M_impl_Lz4sConvert.r3, M_impl_Lz4sConvert.r4, M_impl_Lz4sConvert.r5, M_impl_Lz4sConvert.r6, M_impl_Lz4sConvert.r7, M_impl_Lz4sConvert.r8, M_impl_Lz4sConvert.init, M_impl_Lz4sConvert.res, withH_eq, ptrE_some, add_mk, Nat.zero_add, Nat.add_zero]
  have o1 := Old.new h (zcells Pg 104) 104
  generalize hnew h (zcells Pg 104) 104 = h1 at *
  have hs1 := o1.size
  rw [if_pos trivial]
  have ew : IntKind.wrap .i64 (IntKind.wrap .i64 (16 * ((S.n : Nat) : Int)) + 64) = ((16 * l.length + 64 : Nat) : Int) := by rw [w_i64 (x := 16 * ((S.n : Nat) : Int)) (by omega) (by omega), w_i64 (by omega) (by omega)]; omega
  rw [ew]
  refine mkT_cap (z := .int .u8 0) (by omega) ts5 tb5 (by kernel_rfl) ?_
  have o2 := Old.new h1 (List.replicate (16 * l.length + 64) (.int .u8 0)) 5
  have hb2 := Blk.new h1 (List.replicate (16 * l.length + 64) (.int .u8 0)) 5
  generalize hnew h1 (List.replicate (16 * l.length + 64) (.int .u8 0)) 5 = h2 at *
  rw [← List.map_replicate (f := Value.int .u8) (a := 0)] at hb2
  have hS2 := (hS.ext o1.ext).ext o2.ext
  have key : c_LsS (some ⟨h.size, 0, none⟩) ⟨some ⟨h1.size, 0, none⟩, 0, 16 * l.length + 64⟩ S h2 fun s r e h6 => nilE e fun b1 => if (!b1) = true then K ⟨none, 0, 0⟩ 0 false h6 else c_impl_copied s h6 fun w2 h1 => K w2 r true h1 := by
    refine convLsS hb2 hS2 (fun a h0 ha => by have := hsB a h0 ha; omega) hb hl rfl hZ fun body last h3 q1 q2 q3 q4 q5 => ?_
    simp only [nilE, isNilI]
    rw [if_neg (by simp)]
    have o3 : Old h h3 := o1.trans (Keep.old ((Keep.of_old o2).trans (Keep.of_fr q5 (Nat.le_refl _))))
    refine copiedS (sl_putL (N := 0) q1 (by omega)) (by omega) fun s h4 HO o4 => ?_
    exact hK s body last h4 (HO.mono (by have := o3.size; omega)) q2 q3 (by omega) (o3.trans o4)
  exact key

theorem join {h : Heap} {S S' : Sl} {l l' : List Int} (hS : SlI h .u8 S l) (hS' : SlI h .u8 S' l') (hl : l.length < 2 ^ 36) (hl' : l'.length < 2 ^ 36) {K : Sl → Heap → Prop} (hK : ∀ s h', Own h.size h' .u8 5 s (l ++ l') → Old h h' → K s h') : c_laws_join S S' h K := by
  have hsl := hS.len
  have hsl' := hS'.len
  apply M_laws_join.calls
  simp only [SS, M_laws_join.k1, M_laws_join.k0, M_laws_join.stm, M_laws_join.r0, M_laws_join.r1, M_laws_join.r2, M_laws_join.r3, M_laws_join.init, M_laws_join.res]
  have ew : IntKind.wrap .i64 ((S.n : Int) + (S'.n : Nat)) = ((l.length + l'.length : Nat) : Int) := by rw [w_i64 (by omega) (by omega)]; omega
  rw [ew]
  refine mkT_cap (z := .int .u8 0) (by omega) ts5 tb5 (by kernel_rfl) ?_
  have o1 := Old.new h (List.replicate (l.length + l'.length) (.int .u8 0)) 5
  have HN : Own h.size (hnew h (List.replicate (l.length + l'.length) (.int .u8 0)) 5) .u8 5 ⟨some ⟨h.size, 0, none⟩, 0, l.length + l'.length⟩ [] :=
    ⟨rfl, Nat.zero_le _, Or.inr ⟨h.size, _, rfl, Nat.le_refl _, Blk.new _ _ _, by simp, by simp⟩⟩
  generalize hnew h (List.replicate (l.length + l'.length) (.int .u8 0)) 5 = h1 at *
  have hs1 := o1.size
  refine append_own (s := ⟨some ⟨h.size, 0, none⟩, 0, l.length + l'.length⟩) (l := []) (news := l) HN ts5 tb5 z5 hsl.symm ?_ (by simp only; omega) hs1 fun p' c' h2 HO2 HF2 _ => ?_
  · have := src_sl (hS.ext o1.ext) (m := S.n) (Nat.le_refl _) (n := S.n) (c := S.c)
    rwa [List.take_of_length_le (by omega)] at this
  have k2 : Keep h.size h h2 := (Keep.of_old o1).trans (HN.keep HF2)
  have o2 : Old h h2 := Keep.old k2
  refine append_own (s := ⟨p', 0 + S.n, c'⟩) (l := [] ++ l) (news := l') HO2 ts5 tb5 z5 hsl'.symm ?_ (by simp only; omega) k2.size fun p3 c3 h3 HO3 HF3 _ => ?_
  · have := src_sl (hS'.ext o2.ext) (m := S'.n) (Nat.le_refl _) (n := S'.n) (c := S'.c)
    rwa [List.take_of_length_le (by omega)] at this
  simp only [List.nil_append] at HO3
  exact hK _ h3 HO3 (Keep.old (k2.trans (HO2.keep HF3)))

theorem lawLz4 {md : Bool} {h : Heap} {S : Sl} {l : List Int} (hS : SlI h .u8 S l) (hsB : ∀ a, 0 < S.n → S.p = some a → a.block < h.size) (hb : Bts l) (hl : l.length < 2 ^ 20) {K : Sl → Int → Heap → Prop}
    (hK : ∀ (s : Sl) (r : Nat) (h' : Heap), (r = 1 → ∃ out, Z md l 0 [] = some out ∧ SlI h' .u8 s out ∧ Bts out ∧ out.length < 2 ^ 24) → Old h h' → K s r h') : c_laws_lz4 S md h K := by
  apply M_laws_lz4.calls
  simp only [SS, M_laws_lz4.k0, M_laws_lz4.stm, M_laws_lz4.r0, M_laws_lz4.r1, M_laws_lz4.r2, M_laws_lz4.r3, M_laws_lz4.init, M_laws_lz4.res]
  cases md with
  | true => rw [if_pos rfl]; exact Lz4sDecode hS hsB hb hl hK
  | false => rw [if_neg (by simp)]; exact Lz4Decode hS hsB hb hl hK

theorem convertSn {md : Bool} {h : Heap} {S : Sl} {l res : List Int} (hS : SlI h .u8 S l) (hsB : ∀ a, 0 < S.n → S.p = some a → a.block < h.size) (hb : Bts l) (hl : l.length ≤ 65536) (hZ : Z md l 0 [] = some res) {K : Sl → Int → Bool → Heap → Prop}
    (hK : ∀ s body last h', Own h.size h' .u8 5 s body → (∀ s2, GoesG s2 body res last) → Bts body → body.length ≤ 2 ^ 21 → Old h h' → K s res.length true h') : c_laws_convert S md true h K := by
  apply M_laws_convert.calls
  simp only [SS, M_laws_convert.k0, M_laws_convert.stm, M_laws_convert.r0, M_laws_convert.r1, M_laws_convert.r2, M_laws_convert.r3, M_laws_convert.init, M_laws_convert.res]
  cases md with
  | true => rw [if_pos rfl]; exact implLz4sConvertSn hS hsB hb hl hZ hK
  | false => rw [if_neg (by simp)]; exact implLz4ConvertSn hS hsB hb hl hZ hK

theorem Own.below {B : Nat} {h : Heap} {k : IntKind} {e : TypeId} {s : Sl} {l : List Int} (H : Own B h k e s l) : ∀ a, s.p = some a → a.block < h.size := by
  intro a ha
  rcases H.mem with ⟨h1, _⟩ | ⟨b, cs, hp, _, hbk, _⟩
  · rw [h1] at ha; cases ha
  · rw [hp] at ha
    obtain rfl := Option.some.inj ha
    exact hbk.lt

theorem law_Lz4Snappy {md : Bool} {h : Heap} {S : Sl} {l : List Int} (hS : SlI h .u8 S l) (hsB : ∀ a, 0 < S.n → S.p = some a → a.block < h.size) (hb : Bts l) : c_laws_FnLz4Snappy S md h fun b h' => b = true ∧ Old h h' := by
  have hsl := hS.len
  apply M_laws_FnLz4Snappy.calls
  simp only [SS, M_laws_FnLz4Snappy.stm, M_laws_FnLz4Snappy.init, M_laws_FnLz4Snappy.k0, M_laws_FnLz4Snappy.k1, M_laws_FnLz4Snappy.k2, M_laws_FnLz4Snappy.r0, M_laws_FnLz4Snappy.r1, M_laws_FnLz4Snappy.r2, M_laws_FnLz4Snappy.r3, M_laws_FnLz4Snappy.r4, M_laws_FnLz4Snappy.r5, M_laws_FnLz4Snappy.res, hsl]
  by_cases c0 : ((l.length : Nat) : Int) > 2147483647
  · rw [if_pos (by simpa using c0)]; exact ⟨trivial, Old.refl _⟩
  rw [if_neg (by simpa using c0)]
  by_cases c1 : ((l.length : Nat) : Int) > 65536
  · rw [if_pos (by simpa using c1)]; exact ⟨trivial, Old.refl _⟩
  rw [if_neg (by simpa using c1)]
  refine lawLz4 hS hsB hb (by omega) fun want r h1 hr o1 => ?_
  simp only [SS, M_laws_FnLz4Snappy.k3, M_laws_FnLz4Snappy.r6, M_laws_FnLz4Snappy.r7, M_laws_FnLz4Snappy.res]
  by_cases r1 : r = 1
  case neg => rw [if_neg (by simp; omega), if_pos trivial]; exact ⟨trivial, o1⟩
  rw [if_pos (by simp [r1])]
  obtain ⟨out, hZ, hO, hob, hol⟩ := hr r1
  have hwn := hO.len
  by_cases c2 : want.n = 0
  · rw [if_neg (by simp [c2]), if_pos trivial]; exact ⟨trivial, o1⟩
  rw [if_pos (by simp; omega)]
  by_cases c3 : ((want.n : Nat) : Int) > 1048576
  · rw [if_pos (by simpa using c3)]; exact ⟨trivial, o1⟩
  rw [if_neg (by simpa using c3)]
  simp only [SS, M_laws_FnLz4Snappy.k4, M_laws_FnLz4Snappy.k5, M_laws_FnLz4Snappy.k6, M_laws_FnLz4Snappy.r8, M_laws_FnLz4Snappy.r9, M_laws_FnLz4Snappy.r10, M_laws_FnLz4Snappy.r11, M_laws_FnLz4Snappy.r12, M_laws_FnLz4Snappy.res]
  have s1 := o1.size
  refine convertSn (hS.ext o1.ext) (fun a h0 ha => by have := hsB a h0 ha; omega) hb (by omega) hZ fun b body last h2 HB hg hbb hbl o2 => ?_
  rw [if_pos (by simp), if_neg (by simp; omega)]
  refine uvarint (n := out.length) (by omega) fun u h3 HU o3 => ?_
  have hvl := varB_len 10 out.length
  refine join HU.sl (HB.old o3).sl (by omega) (by omega) fun w h4 HW o4 => ?_
  have hd := decd_of (hg false) (by omega)
  refine SnappyDecode HW.sl (fun a _ ha => Own.below HW a ha) (Byt.of_mem ((varB_bts _ _).app hbb)) (by simp; omega) fun sl r h5 r1 r2 o5 => ?_
  rw [hd] at r1 r2
  simp only at r1 r2
  subst r1
  rw [if_pos (by simp)]
  have oo := ((o2.trans o3).trans o4).trans o5
  refine eq (r2 rfl) (hO.ext oo.ext) (Byt.of_mem hob) (Byt.of_mem hob) (by omega) fun b hb5 => ?_
  exact ⟨hb5.2 rfl, o1.trans oo⟩
end Go.Proofs.YtibleenkgmkpmaaDoor
