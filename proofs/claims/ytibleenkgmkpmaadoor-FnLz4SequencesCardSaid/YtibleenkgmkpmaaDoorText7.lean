/- A part of the calculus over heaps, or of the proof over it: what functions of the program compute, and the plain law. -/
import Derived.Test.YtibleenkgmkpmaaDoorText5
import Derived.Test.YtibleenkgmkpmaaDoorModels2
import Derived.Test.YtibleenkgmkpmaaDoorModels3

set_option linter.unusedSimpArgs false
set_option linter.unusedVariables false
set_option linter.unusedSectionVars false
namespace Go.Proofs.YtibleenkgmkpmaaDoor
open Go Go.Vc Go.Ml Go.S2

section
variable {h : Heap} {db o n c off len : Nat} {M : List Int} {K : Int → Heap → Prop}

set_option maxRecDepth 1000000 in
theorem emitRepeat16 (HB : Blk h db (M.map (Value.int .u8)) 5) (hon : o + n ≤ M.length) (hn : 5 ≤ n) (hlen : 4 ≤ len) (hlen2 : len < 2 ^ 24) (hoff : off < 2 ^ 31)
    (hK : ∀ enc h', enc.length ≤ 5 → RepS true enc off len → Blk h' db ((putL M o enc).map (Value.int .u8)) 5 → Fr (· = db) h h' → K enc.length h') : c_emitRepeat16 ⟨some ⟨db, o, none⟩, n, c⟩ off len h K := by
  apply M_emitRepeat16.calls
  simp only [SS, M_emitRepeat16.stm, M_emitRepeat16.k0, M_emitRepeat16.k1, M_emitRepeat16.k2, M_emitRepeat16.k3, M_emitRepeat16.k4, M_emitRepeat16.k5, M_emitRepeat16.k6, M_emitRepeat16.init, M_emitRepeat16.res, M_emitRepeat16.r0, M_emitRepeat16.r1, M_emitRepeat16.r2, M_emitRepeat16.r3, M_emitRepeat16.r4, M_emitRepeat16.r5, M_emitRepeat16.r6, M_emitRepeat16.r7, M_emitRepeat16.r8, M_emitRepeat16.r9]
  rw [w_i64 (x := (len : Int) - 4) (by omega) (by omega)]
  obtain ⟨l, rfl⟩ : ∃ l, len = l + 4 := ⟨len - 4, by omega⟩
  have el : (((l + 4 : Nat)) : Int) - 4 = (l : Nat) := by omega
  simp only [el]
  by_cases g8 : l ≤ 4
  · rw [if_pos (by simp; omega)]
    obtain ⟨x0, x1, hx⟩ := len2 (cut_len (M := M) (o := o) (k := 2) (by omega))
    rw [← putL_self (M := M) (o := o) (k := 2) (by omega), hx] at HB
    have ev : bOr .u8 (IntKind.wrap .u8 (IntKind.wrap .u8 (l : Int) * 2 ^ 2)) 1 = ((l * 4 + 1 : Nat) : Int) := by
      rw [w_u8 (x := (l : Int)) (by omega) (by omega), w_u8 (by omega) (by omega)]
      have e2 : (l : Int) * 2 ^ 2 = ((l * 4 : Nat) : Int) := by omega
      have e3 : bOr .u8 ((l * 4 : Nat) : Int) 1 = ((l * 4 ||| 1 : Nat) : Int) := or_u8 (by omega) (by decide)
      rw [e2, e3, (lor_tag2 l (by omega)).2.2]
    rw [ev]
    refine putS (j := 0) (i := 0) HB (by simp; omega) (by simp) rfl (by omega) fun h1 H1 F1 => ?_
    refine putS (j := 1) (i := 1) H1 (by simp; omega) (by simp) rfl (by omega) fun h2 H2 F2 => ?_
    simp only [List.set_cons_zero, List.set_cons_succ] at H2
    exact hK [((l * 4 + 1 : Nat) : Int), 0] h2 (by simp) (rep0 (n := l + 4) (by omega) (by omega)) H2 (F1.trans F2)
  rw [if_neg (by simp; omega)]
  by_cases g1 : l < 8 ∧ off < 2048
  · rw [if_pos (by simp; omega), if_pos (by simp; omega)]
    obtain ⟨x0, x1, hx⟩ := len2 (cut_len (M := M) (o := o) (k := 2) (by omega))
    rw [← putL_self (M := M) (o := o) (k := 2) (by omega), hx] at HB
    rw [tag1 g1.2 g1.1, w_u8_nat]
    refine putS (j := 1) (i := 1) HB (by simp; omega) (by simp) rfl (by omega) fun h1 H1 F1 => ?_
    refine putS (j := 0) (i := 0) H1 (by simp; omega) (by simp) rfl (by omega) fun h2 H2 F2 => ?_
    simp only [List.set_cons_zero, List.set_cons_succ] at H2
    exact hK [((off / 256 * 32 + l * 4 + 1 : Nat) : Int), ((off % 256 : Nat) : Int)] h2 (by simp) (cop1 (n := l + 4) g1.2 (by omega) (by omega)).rep H2 (F1.trans F2)
  rw [ite2_neg (by simp; omega)]
  simp only [SS, M_emitRepeat16.k7, M_emitRepeat16.k8, M_emitRepeat16.k9, M_emitRepeat16.k10, M_emitRepeat16.k11, M_emitRepeat16.res, M_emitRepeat16.r10, M_emitRepeat16.r11, M_emitRepeat16.r12, M_emitRepeat16.r13, M_emitRepeat16.r14, M_emitRepeat16.r15]
  by_cases g2 : l < 260
  · rw [if_pos (by simp; omega)]
    obtain ⟨x0, x1, x2, hx⟩ := len3 (cut_len (M := M) (o := o) (k := 3) (by omega))
    rw [← putL_self (M := M) (o := o) (k := 3) (by omega), hx] at HB
    have e1 : (l : Int) - 4 = ((l - 4 : Nat) : Int) := by omega
    rw [w_i64 (by omega) (by omega), e1, w_u8_nat]
    refine putS (j := 2) (i := 2) HB (by simp; omega) (by simp) rfl (by omega) fun h1 H1 F1 => ?_
    refine putS (j := 1) (i := 1) H1 (by simp; omega) (by simp) rfl (by omega) fun h2 H2 F2 => ?_
    refine putS (j := 0) (i := 0) H2 (by simp; omega) (by simp) rfl (by omega) fun h3 H3 F3 => ?_
    simp only [List.set_cons_zero, List.set_cons_succ] at H3
    have hr := repk (k := 1) (m := l - 4) (o := off) (by omega) (by omega) (by omega)
    have em : l - 4 + moreBase (1 + 4) = l + 4 := by rw [show moreBase (1 + 4) = 8 from rfl]; omega
    rw [em] at hr
    exact hK [21, 0, (((l - 4) % 256 : Nat) : Int)] h3 (by simp) hr H3 ((F1.trans F2).trans F3)
  rw [if_neg (by simp; omega)]
  simp only [SS, M_emitRepeat16.k12, M_emitRepeat16.k13, M_emitRepeat16.k14, M_emitRepeat16.k15, M_emitRepeat16.k16, M_emitRepeat16.k17, M_emitRepeat16.res, M_emitRepeat16.r16, M_emitRepeat16.r17, M_emitRepeat16.r18, M_emitRepeat16.r19, M_emitRepeat16.r20, M_emitRepeat16.r21, M_emitRepeat16.r22]
  by_cases g3 : l < 65792
  · rw [if_pos (by simp; omega)]
    obtain ⟨x0, x1, x2, x3, hx⟩ := len4 (cut_len (M := M) (o := o) (k := 4) (by omega))
    rw [← putL_self (M := M) (o := o) (k := 4) (by omega), hx] at HB
    have e1 : (l : Int) - 256 = ((l - 256 : Nat) : Int) := by omega
    rw [w_i64 (by omega) (by omega), e1, w_u8_div, w_u8_div]
    refine putS (j := 3) (i := 3) HB (by simp; omega) (by simp) rfl (by omega) fun h1 H1 F1 => ?_
    refine putS (j := 2) (i := 2) H1 (by simp; omega) (by simp) rfl (by omega) fun h2 H2 F2 => ?_
    refine putS (j := 1) (i := 1) H2 (by simp; omega) (by simp) rfl (by omega) fun h3 H3 F3 => ?_
    refine putS (j := 0) (i := 0) H3 (by simp; omega) (by simp) rfl (by omega) fun h4 H4 F4 => ?_
    simp only [List.set_cons_zero, List.set_cons_succ] at H4
    have hr := repk (k := 2) (m := l - 256) (o := off) (by omega) (by omega) (by omega)
    have em : l - 256 + moreBase (2 + 4) = l + 4 := by rw [show moreBase (2 + 4) = 260 from rfl]; omega
    rw [em] at hr
    have eB : [25, 0, (((l - 256) / 2 ^ 0 % 256 : Nat) : Int), (((l - 256) / 2 ^ 8 % 256 : Nat) : Int)] = (((2 + 4) * 4 + 1 : Nat) : Int) :: 0 :: leB 2 (l - 256) := by simp [leB]
    rw [eB] at H4
    exact hK _ h4 (by simp [leB_len]) hr H4 (((F1.trans F2).trans F3).trans F4)
  rw [if_neg (by simp; omega)]
  simp only [SS, M_emitRepeat16.k18, M_emitRepeat16.k19, M_emitRepeat16.k20, M_emitRepeat16.k21, M_emitRepeat16.k22, M_emitRepeat16.k23, M_emitRepeat16.k24, M_emitRepeat16.k25, M_emitRepeat16.k26, M_emitRepeat16.k27, M_emitRepeat16.res, M_emitRepeat16.r23, M_emitRepeat16.r24, M_emitRepeat16.r25, M_emitRepeat16.r26, M_emitRepeat16.r27, M_emitRepeat16.r28, M_emitRepeat16.r29, M_emitRepeat16.r30, M_emitRepeat16.r31, M_emitRepeat16.r32, M_emitRepeat16.r33, M_emitRepeat16.r34, M_emitRepeat16.r35, M_emitRepeat16.r36, M_emitRepeat16.r37]
  have e1 : (l : Int) - 65536 = ((l - 65536 : Nat) : Int) := by omega
  rw [w_i64 (x := (l : Int) - 65536) (by omega) (by omega), e1, if_neg (by simp; omega)]
  obtain ⟨x0, x1, x2, x3, x4, hx⟩ := len5 (cut_len (M := M) (o := o) (k := 5) (by omega))
  rw [← putL_self (M := M) (o := o) (k := 5) (by omega), hx] at HB
  rw [w_u8_div, w_u8_div, w_u8_div]
  refine putS (j := 4) (i := 4) HB (by simp; omega) (by simp) rfl (by omega) fun h1 H1 F1 => ?_
  refine putS (j := 3) (i := 3) H1 (by simp; omega) (by simp) rfl (by omega) fun h2 H2 F2 => ?_
  refine putS (j := 2) (i := 2) H2 (by simp; omega) (by simp) rfl (by omega) fun h3 H3 F3 => ?_
  refine putS (j := 1) (i := 1) H3 (by simp; omega) (by simp) rfl (by omega) fun h4 H4 F4 => ?_
  refine putS (j := 0) (i := 0) H4 (by simp; omega) (by simp) rfl (by omega) fun h5 H5 F5 => ?_
  simp only [List.set_cons_zero, List.set_cons_succ] at H5
  rw [if_neg (by simp)]
  have hr := repk (k := 3) (m := l - 65536) (o := off) (by omega) (by omega) (by omega)
  have em : l - 65536 + moreBase (3 + 4) = l + 4 := by rw [show moreBase (3 + 4) = 65540 from rfl]; omega
  rw [em] at hr
  have eB : [29, 0, (((l - 65536) / 2 ^ 0 % 256 : Nat) : Int), (((l - 65536) / 2 ^ 8 % 256 : Nat) : Int), (((l - 65536) / 2 ^ 16 % 256 : Nat) : Int)] = (((3 + 4) * 4 + 1 : Nat) : Int) :: 0 :: leB 3 (l - 65536) := by simp [leB, Nat.div_div_eq_div_mul]
  rw [eB] at H5
  exact hK _ h5 (by simp [leB_len]) hr H5 ((((F1.trans F2).trans F3).trans F4).trans F5)
end

section
/-- Where the converter stands: what was read and what was written. -/
structure CvLc2 (S : Sl) (N db : Nat) (h0 : Heap) (M0 : List Int) (body out : List Int) (last : Nat) (st : M_Lc2.St) (h : Heap) : Prop where
  dst : st.x_dst = ⟨some ⟨db, 0, none⟩, N, N⟩
  src : st.x_src = S
  d : st.x_d = body.length
  u : st.x_uncompressed = out.length
  lim : st.x_dLimit = (N : Int) - 10
  blk : Blk h db ((putL M0 0 body).map (Value.int .u8)) 5
  goes : GoesG true body out last
  bb : Bts body
  fr : Fr (· = db) h0 h
  lo : st.x_lastOffset = last

variable {S : Sl} {l : List Int} {N db : Nat} {h0 : Heap} {M0 : List Int} {body out : List Int} {last : Nat} {st : M_Lc2.St} {h : Heap} {Q : Ex → M_Lc2.St → Heap → Prop}

set_option maxRecDepth 1000000 in
/-- The token, and a length that goes on. -/
theorem headLc2 {i m j : Nat} (C : CvLc2 S N db h0 M0 body out last st h) (hS : SlI h0 .u8 S l) (hne : ∀ a, 0 < S.n → S.p = some a → a.block ≠ db) (hb : Bts l) (hl : l.length < 2 ^ 20) (hs : st.x_s = i) (hi : i < l.length) (hz : zlen l (i + 1) ((l.getD i 0).toNat / 16) ((l.getD i 0).toNat / 16) = some (m, j))
    (hK : ∀ st', CvLc2 S N db h0 M0 body out last st' h → st'.x_s = (j : Int) - 1 → st'.x_ll = m → st'.x_ml = (((l.getD i 0).toNat % 16 + zleast false : Nat) : Int) → M_Lc2.k25 st' h Q) : M_Lc2.k15 st h Q := by
  have hsl := hS.len
  have hS' : SlI h .u8 S l := SlI.fr hS C.fr (fun a h1 h2 => hne a h1 h2)
  simp only [SS, M_Lc2.k15, M_Lc2.k16, M_Lc2.k17, M_Lc2.k18, M_Lc2.r22, M_Lc2.r23, M_Lc2.r24, M_Lc2.r25, C.src, hs]
  refine hS'.ldB (Byt.of_mem hb) (j := i) rfl hi fun v hv he hev => ?_
  rw [hev] at hz hK
  have e1 : IntKind.wrap .i64 (Int.fdiv (v : Int) (2 ^ 4)) = ((v / 16 : Nat) : Int) := by rw [fdiv_nat, w_i64 (by omega) (by omega)]
  have e2 : IntKind.wrap .i64 (IntKind.wrap .u8 ((4 : Int) + bAnd .u8 (v : Int) 15)) = ((v % 16 + zleast false : Nat) : Int) := by
    rw [u8_and15 hv, w_u8 (by omega) (by omega), w_i64 (by omega) (by omega), show zleast false = 4 from rfl]; omega
  simp only [e1, e2]
  by_cases h15 : v / 16 = 15
  · rw [if_pos (by simp; omega)]
    unfold zlen at hz
    rw [if_pos h15, h15] at hz
    rw [h15]
    refine loop_rule (I := fun s' h' => h' = h ∧ CvLc2 S N db h0 M0 body out last s' h ∧ s'.x_ml = ((v % 16 + zleast false : Nat) : Int) ∧ ∃ p n : Nat, s'.x_s = p ∧ s'.x_ll = n ∧ p < l.length ∧ n ≤ 15 + 255 * p ∧ zmore l (p + 1) n = some (m, j)) (μ := fun s' _ => (l.length - s'.x_s).toNat) ?_ ?_
    · exact ⟨rfl, ⟨C.dst, rfl, C.d, C.u, C.lim, C.blk, C.goes, C.bb, C.fr, C.lo⟩, rfl, i, 15, rfl, rfl, hi, by omega, hz⟩
    · rintro s' h' ⟨rfl, C', e3, p, n, e4, e5, hp, hn, hm⟩
      simp only [SS, M_Lc2.k20, M_Lc2.k21, M_Lc2.k22, M_Lc2.k23, M_Lc2.k24, M_Lc2.r26, M_Lc2.r27, M_Lc2.r29, M_Lc2.r30, M_Lc2.r31, C'.src, e4, e5]
      have hp1 : p + 1 < l.length := by
        rcases Nat.lt_or_ge (p + 1) l.length with h | h
        · exact h
        · rw [zmore_end h] at hm; cases hm
      have ep : IntKind.wrap .i64 ((p : Int) + 1) = ((p + 1 : Nat) : Int) := by rw [w_i64 (by omega) (by omega)]; omega
      rw [ep, if_neg (by simp; omega)]
      rw [zmore_step hp1] at hm
      refine hS'.ldB (Byt.of_mem hb) (j := p + 1) rfl hp1 fun w hw hwe hwev => ?_
      rw [hwev] at hm
      have en : IntKind.wrap .i64 ((n : Int) + IntKind.wrap .i64 (w : Int)) = ((n + w : Nat) : Int) := by rw [w_i64 (x := (w : Int)) (by omega) (by omega), w_i64 (by omega) (by omega)]; omega
      rw [en]
      by_cases h255 : w < 255
      · rw [if_pos (by simp; omega)]
        rw [if_pos h255] at hm
        simp only [Option.some.injEq, Prod.mk.injEq] at hm
        obtain ⟨rfl, rfl⟩ := hm
        exact hK _ ⟨C'.dst, rfl, C'.d, C'.u, C'.lim, C'.blk, C'.goes, C'.bb, C'.fr, C'.lo⟩ (by simp only; omega) rfl e3
      · rw [if_neg (by simp; omega)]
        rw [if_neg h255] at hm
        exact ⟨⟨trivial, ⟨C'.dst, rfl, C'.d, C'.u, C'.lim, C'.blk, C'.goes, C'.bb, C'.fr, C'.lo⟩, e3, p + 1, n + w, rfl, rfl, hp1, by omega, hm⟩, by omega⟩
  · rw [if_neg (by simp; omega)]
    unfold zlen at hz
    rw [if_neg h15] at hz
    simp only [Option.some.injEq, Prod.mk.injEq] at hz
    obtain ⟨rfl, rfl⟩ := hz
    exact hK _ ⟨C.dst, rfl, C.d, C.u, C.lim, C.blk, C.goes, C.bb, C.fr, C.lo⟩ (by simp only; omega) rfl rfl

set_option maxRecDepth 1000000 in
/-- The literals. -/
theorem litLc2 {m j : Nat} {ml : Int} (C : CvLc2 S N db h0 M0 body out last st h) (hS : SlI h0 .u8 S l) (hne : ∀ a, 0 < S.n → S.p = some a → a.block ≠ db) (hb : Bts l) (hl : l.length < 2 ^ 20) (hN : N = 16 * l.length + 64) (hM : M0.length = N) (hs : st.x_s = (j : Int) - 1) (hll : st.x_ll = m) (hml : st.x_ml = ml) (h1 : 1 ≤ j) (hjm : j + m ≤ l.length) (hroom : body.length + 16 ≤ 16 * j) (hol : out.length < 2 ^ 24)
    (hK : ∀ st' h' body', CvLc2 S N db h0 M0 body' (out ++ (l.drop j).take m) last st' h' → st'.x_s = ((j + m : Nat) : Int) → st'.x_ml = ml → body'.length ≤ body.length + m + 5 → M_Lc2.k30 st' h' Q) : M_Lc2.k25 st h Q := by
  have hsl := hS.len
  have hcap := hS.2.1
  have hS' : SlI h .u8 S l := SlI.fr hS C.fr (fun a h1 h2 => hne a h1 h2)
  simp only [SS, M_Lc2.k25, M_Lc2.k26, M_Lc2.k27, M_Lc2.r32, M_Lc2.r34, M_Lc2.r35, C.src, hs, hll]
  have e0 : IntKind.wrap .i64 ((j : Int) - 1 + m) = (j : Int) - 1 + m := w_i64 (by omega) (by omega)
  have e1 : IntKind.wrap .i64 ((j : Int) - 1 + 1) = (j : Nat) := by rw [w_i64 (by omega) (by omega)]; omega
  rw [e0, e1, if_neg (by simp; omega)]
  by_cases h0' : m = 0
  · subst h0'
    rw [if_neg (by simp)]
    refine hK _ h body ?_ ?_ ?_ (by omega)
    rotate_left
    · simp only; omega
    · exact hml
    rw [List.take_zero, List.append_nil]
    exact ⟨C.dst, rfl, C.d, C.u, C.lim, C.blk, C.goes, C.bb, C.fr, C.lo⟩
  rw [if_pos (by simp; omega)]
  simp only [SS, M_Lc2.k28, M_Lc2.k29, M_Lc2.r36, M_Lc2.r38, M_Lc2.r39, M_Lc2.r40, C.src, C.dst, C.d, C.lim, C.u, hll]
  have e2 : IntKind.wrap .i64 ((body.length : Int) + m) = (body.length : Int) + m := w_i64 (by omega) (by omega)
  have e3 : IntKind.wrap .i64 ((j : Int) + m) = ((j + m : Nat) : Int) := by rw [w_i64 (by omega) (by omega)]; omega
  have e13 : IntKind.wrap .i64 ((N : Int) - 13) = (N : Int) - 13 := w_i64 (by omega) (by omega)
  rw [e2, e13, if_neg (by simp; omega)]
  simp only [e3]
  refine ⟨by omega, by omega, by omega, by omega, by omega, by omega, ?_⟩
  rw [Int.toNat_natCast, Int.toNat_natCast, Int.toNat_natCast, subP_at (by omega), Nat.zero_add, show j + m - j = m by omega]
  have hsub := hS'.sub (lo := j) (hi := j + m) (by omega) (by omega)
  rw [List.drop_take, show j + m - j = m by omega] at hsub
  have hdl : ((l.drop j).take m).length = m := by simp; omega
  refine emitLiteralGo (M := putL M0 0 body) C.blk (by rw [putL_len (by omega)]; omega) (Nat.le_refl _) (by omega) hsub ?_ (hb.sub _ _) (by omega) fun enc h2 q1 q2 q3 q4 q5 => ?_
  · intro a h3 ha
    unfold subP at ha
    cases hp : S.p with
    | none => rw [hp] at ha; split at ha <;> cases ha
    | some a0 =>
      have := hne a0 (by omega) hp
      rw [hp] at ha
      have hbl : a.block = a0.block := by
        split at ha
        · obtain rfl := Option.some.inj ha; rfl
        · obtain rfl := Option.some.inj ha
          unfold Addr.add; split <;> rfl
      omega
  have ep := putL_putL (M := M0) (o := 0) (L1 := body) (L2 := enc) (by omega)
  rw [Nat.zero_add] at ep
  rw [ep] at q4
  have ed : IntKind.wrap .i64 ((body.length : Int) + (enc.length : Nat)) = ((body ++ enc).length : Nat) := by rw [w_i64 (by omega) (by omega)]; simp
  have eu : IntKind.wrap .i64 ((out.length : Int) + m) = ((out ++ (l.drop j).take m).length : Nat) := by rw [w_i64 (by omega) (by omega)]; simp; omega
  refine hK _ h2 (body ++ enc) ⟨rfl, rfl, ed, eu, rfl, q4, ?_, C.bb.app q3, C.fr.trans q5, by exact C.lo⟩ rfl (by exact hml) (by simp; omega)
  exact C.goes.seq (q2 true out last) (by simp)

set_option maxRecDepth 1000000 in
/-- The offset, and a match's length that goes on. -/
theorem offLc2 {i t off n k : Nat} (C : CvLc2 S N db h0 M0 body out last st h) (hS : SlI h0 .u8 S l) (hne : ∀ a, 0 < S.n → S.p = some a → a.block ≠ db) (hb : Bts l) (hl : l.length < 2 ^ 20) (hs : st.x_s = i) (hml : st.x_ml = ((t + zleast false : Nat) : Int)) (ht : t ≤ 15) (hmd : ¬ (false = true ∧ t = 0))
    (ho : leAt l i 2 = some off) (ho0 : 0 < off) (hoo : off ≤ out.length) (hol : out.length < 2 ^ 24) (hz : zlen l (i + 2) t (t + zleast false) = some (n, k)) (hk : k < l.length)
    (hK : ∀ st' h', CvLc2 S N db h0 M0 body out last st' h' → st'.x_s = k → st'.x_ml = n → st'.x_offset = off → M_Lc2.k44 st' h' Q) : M_Lc2.k30 st h Q := by
  have hsl := hS.len
  have hcap := hS.2.1
  have hS' : SlI h .u8 S l := SlI.fr hS C.fr (fun a h1 h2 => hne a h1 h2)
  have hi2 := leAt_le ho
  have hzl := zlen_le hb hz hi2
  simp only [SS, M_Lc2.k30, M_Lc2.r41, C.src, hs, hml]
  rw [if_neg (by simp; omega), if_neg (by simp)]
  simp only [SS, M_Lc2.k31, M_Lc2.k32, M_Lc2.r42, M_Lc2.r44, C.src, hs]
  have e0 : IntKind.wrap .i64 (((S.n : Nat) : Int) - 2) = ((l.length - 2 : Nat) : Int) := by rw [w_i64 (by omega) (by omega)]; omega
  rw [e0, if_neg (by simp; omega)]
  refine ⟨by omega, by omega, ?_⟩
  rw [Int.toNat_natCast]
  have hfr := hS'.from (i := i) (by omega)
  have hoff : leN ((l.drop i).take 2) = off := by
    unfold leAt at ho
    rw [if_pos hi2] at ho
    exact Option.some.inj ho
  have hoff2 := leAt_lt4 hb (by omega) ho
  have hoff3 : off < 65536 := by
    have h1 := leN_lt ((l.drop i).take 2) (hb.sub i 2)
    have h2 : ((l.drop i).take 2).length ≤ 2 := by simp; omega
    have h3 : 256 ^ ((l.drop i).take 2).length ≤ 256 ^ 2 := Nat.pow_le_pow_right (by decide) h2
    omega
  refine le16 hfr (Byt.of_mem (fun x hx => hb x (List.mem_of_mem_drop hx))) (by simp; omega) fun h1 o1 => ?_
  rw [hoff]
  have C1 : ∀ st' : M_Lc2.St, st'.x_dst = st.x_dst → st'.x_src = st.x_src → st'.x_d = st.x_d → st'.x_uncompressed = st.x_uncompressed → st'.x_dLimit = st.x_dLimit → st'.x_lastOffset = st.x_lastOffset → CvLc2 S N db h0 M0 body out last st' h1 := fun st' g1 g2 g3 g4 g5 g6 =>
    ⟨g1.trans C.dst, g2.trans C.src, g3.trans C.d, g4.trans C.u, g5.trans C.lim, o1.Blk C.blk, C.goes, C.bb, C.fr.trans (Fr.of_old o1), g6.trans C.lo⟩
  have hS1 : SlI h1 .u8 S l := hS'.ext o1.ext
  simp only [SS, M_Lc2.k33, M_Lc2.k34, M_Lc2.k35, M_Lc2.k36, M_Lc2.r45, M_Lc2.r46, M_Lc2.r48, M_Lc2.r50, C.src, C.u, hs, hml]
  have e1 : IntKind.wrap .i64 ((i : Int) + 2) = ((i + 2 : Nat) : Int) := by rw [w_i64 (by omega) (by omega)]; omega
  rw [if_neg (by simp; omega), w_i64 (x := (off : Int)) (by omega) (by omega), if_neg (by simp; omega), e1]
  by_cases h15 : t = 15
  · rw [if_pos (by rw [h15]; rfl)]
    unfold zlen at hz
    rw [if_pos h15] at hz
    simp only [SS, M_Lc2.k37]
    refine loop_rule (I := fun s' h' => h' = h1 ∧ CvLc2 S N db h0 M0 body out last s' h1 ∧ s'.x_offset = off ∧ ∃ p n' : Nat, s'.x_s = p ∧ s'.x_ml = n' ∧ p ≤ l.length ∧ n' ≤ 30 + 255 * p ∧ zmore l p n' = some (n, k)) (μ := fun s' _ => (l.length - s'.x_s).toNat) ?_ ?_
    · exact ⟨rfl, C1 _ rfl C.src.symm rfl C.u.symm rfl rfl, rfl, i + 2, t + zleast false, rfl, rfl, by omega, by have h4 : zleast false ≤ 4 := (by decide); omega, hz⟩
    · rintro s' h' ⟨rfl, C', e3, p, n', e4, e5, hp, hn, hm⟩
      simp only [SS, M_Lc2.k38, M_Lc2.k39, M_Lc2.k40, M_Lc2.k41, M_Lc2.k42, M_Lc2.k43, M_Lc2.r51, M_Lc2.r53, M_Lc2.r54, M_Lc2.r55, M_Lc2.r56, M_Lc2.r57, C'.src, e4, e5]
      have hp1 : p < l.length := by
        rcases Nat.lt_or_ge p l.length with h | h
        · exact h
        · rw [zmore_end h] at hm; cases hm
      rw [if_neg (by simp; omega)]
      rw [zmore_step hp1] at hm
      refine hS1.ldB (Byt.of_mem hb) (j := p) rfl hp1 fun w hw hwe hwev => ?_
      rw [hwev] at hm
      have ep : IntKind.wrap .i64 ((p : Int) + 1) = ((p + 1 : Nat) : Int) := by rw [w_i64 (by omega) (by omega)]; omega
      have en : IntKind.wrap .i64 ((n' : Int) + IntKind.wrap .i64 (w : Int)) = ((n' + w : Nat) : Int) := by rw [w_i64 (x := (w : Int)) (by omega) (by omega), w_i64 (by omega) (by omega)]; omega
      rw [ep, en]
      by_cases h255 : w < 255
      · rw [if_pos (by simp; omega)]
        rw [if_pos h255] at hm
        simp only [Option.some.injEq, Prod.mk.injEq] at hm
        obtain ⟨rfl, rfl⟩ := hm
        rw [if_neg (by simp; omega)]
        exact hK _ _ ⟨C'.dst, rfl, C'.d, C'.u, C'.lim, C'.blk, C'.goes, C'.bb, C'.fr, C'.lo⟩ rfl rfl e3
      · rw [if_neg (by simp; omega)]
        rw [if_neg h255] at hm
        exact ⟨⟨trivial, ⟨C'.dst, rfl, C'.d, C'.u, C'.lim, C'.blk, C'.goes, C'.bb, C'.fr, C'.lo⟩, e3, p + 1, n' + w, rfl, rfl, by omega, by omega, hm⟩, by omega⟩
  · rw [if_neg (by rw [show zleast false = 4 from rfl]; simp; omega)]
    unfold zlen at hz
    rw [if_neg h15] at hz
    simp only [Option.some.injEq, Prod.mk.injEq] at hz
    obtain ⟨rfl, rfl⟩ := hz
    exact hK _ h1 (C1 _ rfl C.src.symm rfl C.u.symm rfl rfl) rfl rfl rfl
end

section
variable {h : Heap} {db o n c off len : Nat} {M : List Int} {st : M_Lc2.St} {Q : Ex → M_Lc2.St → Heap → Prop}

set_option maxRecDepth 1000000 in
set_option maxHeartbeats 1000000 in
/-- A match by the last offset. -/
theorem repLc2 (f1 : st.x_dstq23 = ⟨some ⟨db, o, none⟩, n, c⟩) (f2 : st.x_length = len) (f3 : st.x_offset = off) (HB : Blk h db (M.map (Value.int .u8)) 5) (hon : o + n ≤ M.length) (hn : 6 ≤ n) (hlen : 4 ≤ len) (hlen2 : len < 2 ^ 24) (hoff : off < 2 ^ 31)
    (hK : ∀ enc h' st', enc.length ≤ 5 → RepS true enc off len → Blk h' db ((putL M o enc).map (Value.int .u8)) 5 → Fr (· = db) h h' → st'.x_dst = st.x_dst → st'.x_src = st.x_src → st'.x_s = st.x_s → st'.x_ml = st.x_ml → st'.x_offset = st.x_offset → st'.x_uncompressed = st.x_uncompressed → st'.x_dLimit = st.x_dLimit → st'.x_lastOffset = st.x_lastOffset → st'.x_d = IntKind.wrap .i64 (st.x_d + enc.length) → Q .norm st' h') : M_Lc2.k48 st h Q := by
  simp only [SS, M_Lc2.k48]
  refine loop_rule (I := fun s' h' => s' = st ∧ h' = h) (μ := fun _ _ => 0) ⟨rfl, rfl⟩ ?_
  rintro s' h' ⟨rfl, rfl⟩
  simp only [SS, M_Lc2.k49, M_Lc2.k50, M_Lc2.k51, M_Lc2.k52, M_Lc2.k53, M_Lc2.k54, M_Lc2.k55, M_Lc2.k56, M_Lc2.r63, M_Lc2.r64, M_Lc2.r65, M_Lc2.r66, M_Lc2.r67, M_Lc2.r68, M_Lc2.r69, M_Lc2.r70, M_Lc2.r71, M_Lc2.r72, f1, f2, f3]
  rw [if_pos (by simp; omega)]
  rw [w_i64 (x := (len : Int) - 4) (by omega) (by omega)]
  obtain ⟨l, rfl⟩ : ∃ l, len = l + 4 := ⟨len - 4, by omega⟩
  have el : (((l + 4 : Nat)) : Int) - 4 = (l : Nat) := by omega
  simp only [el]
  by_cases g8 : l ≤ 4
  · rw [if_pos (by simp; omega)]
    obtain ⟨x0, x1, hx⟩ := len2 (cut_len (M := M) (o := o) (k := 2) (by omega))
    rw [← putL_self (M := M) (o := o) (k := 2) (by omega), hx] at HB
    have ev : bOr .u8 (IntKind.wrap .u8 (IntKind.wrap .u8 (l : Int) * 2 ^ 2)) 1 = ((l * 4 + 1 : Nat) : Int) := by
      rw [w_u8 (x := (l : Int)) (by omega) (by omega), w_u8 (by omega) (by omega)]
      have e2 : (l : Int) * 2 ^ 2 = ((l * 4 : Nat) : Int) := by omega
      have e3 : bOr .u8 ((l * 4 : Nat) : Int) 1 = ((l * 4 ||| 1 : Nat) : Int) := or_u8 (by omega) (by decide)
      rw [e2, e3, (lor_tag2 l (by omega)).2.2]
    rw [ev]
    refine putS (j := 0) (i := 0) HB (by simp; omega) (by simp) rfl (by omega) fun h1 H1 F1 => ?_
    refine putS (j := 1) (i := 1) H1 (by simp; omega) (by simp) rfl (by omega) fun h2 H2 F2 => ?_
    simp only [List.set_cons_zero, List.set_cons_succ] at H2
    exact hK [((l * 4 + 1 : Nat) : Int), 0] h2 _ (by simp) (rep0 (n := l + 4) (by omega) (by omega)) H2 (F1.trans F2) (by rfl) (by rfl) (by rfl) (by rfl) (by first | rfl | exact f3.symm) (by rfl) (by rfl) (by rfl) (by rfl)
  rw [if_neg (by simp; omega)]
  by_cases g1 : l < 8 ∧ off < 2048
  · rw [if_pos (by simp; omega), if_pos (by simp; omega)]
    obtain ⟨x0, x1, hx⟩ := len2 (cut_len (M := M) (o := o) (k := 2) (by omega))
    rw [← putL_self (M := M) (o := o) (k := 2) (by omega), hx] at HB
    rw [tag1 g1.2 g1.1, w_u8_nat]
    refine putS (j := 1) (i := 1) HB (by simp; omega) (by simp) rfl (by omega) fun h1 H1 F1 => ?_
    refine putS (j := 0) (i := 0) H1 (by simp; omega) (by simp) rfl (by omega) fun h2 H2 F2 => ?_
    simp only [List.set_cons_zero, List.set_cons_succ] at H2
    exact hK [((off / 256 * 32 + l * 4 + 1 : Nat) : Int), ((off % 256 : Nat) : Int)] h2 _ (by simp) (cop1 (n := l + 4) g1.2 (by omega) (by omega)).rep H2 (F1.trans F2) (by rfl) (by rfl) (by rfl) (by rfl) (by first | rfl | exact f3.symm) (by rfl) (by rfl) (by rfl) (by rfl)
  rw [ite2_neg (by simp; omega)]
  simp only [SS, M_Lc2.k57, M_Lc2.k58, M_Lc2.k59, M_Lc2.k60, M_Lc2.k61, M_Lc2.r73, M_Lc2.r74, M_Lc2.r75, M_Lc2.r76, M_Lc2.r77, M_Lc2.r78]
  by_cases g2 : l < 260
  · rw [if_pos (by simp; omega)]
    obtain ⟨x0, x1, x2, hx⟩ := len3 (cut_len (M := M) (o := o) (k := 3) (by omega))
    rw [← putL_self (M := M) (o := o) (k := 3) (by omega), hx] at HB
    have e1 : (l : Int) - 4 = ((l - 4 : Nat) : Int) := by omega
    rw [w_i64 (by omega) (by omega), e1, w_u8_nat]
    refine putS (j := 2) (i := 2) HB (by simp; omega) (by simp) rfl (by omega) fun h1 H1 F1 => ?_
    refine putS (j := 1) (i := 1) H1 (by simp; omega) (by simp) rfl (by omega) fun h2 H2 F2 => ?_
    refine putS (j := 0) (i := 0) H2 (by simp; omega) (by simp) rfl (by omega) fun h3 H3 F3 => ?_
    simp only [List.set_cons_zero, List.set_cons_succ] at H3
    have hr := repk (k := 1) (m := l - 4) (o := off) (by omega) (by omega) (by omega)
    have em : l - 4 + moreBase (1 + 4) = l + 4 := by rw [show moreBase (1 + 4) = 8 from rfl]; omega
    rw [em] at hr
    exact hK [21, 0, (((l - 4) % 256 : Nat) : Int)] h3 _ (by simp) hr H3 ((F1.trans F2).trans F3) (by rfl) (by rfl) (by rfl) (by rfl) (by first | rfl | exact f3.symm) (by rfl) (by rfl) (by rfl) (by rfl)
  rw [if_neg (by simp; omega)]
  simp only [SS, M_Lc2.k62, M_Lc2.k63, M_Lc2.k64, M_Lc2.k65, M_Lc2.k66, M_Lc2.k67, M_Lc2.r79, M_Lc2.r80, M_Lc2.r81, M_Lc2.r82, M_Lc2.r83, M_Lc2.r84, M_Lc2.r85]
  by_cases g3 : l < 65792
  · rw [if_pos (by simp; omega)]
    obtain ⟨x0, x1, x2, x3, hx⟩ := len4 (cut_len (M := M) (o := o) (k := 4) (by omega))
    rw [← putL_self (M := M) (o := o) (k := 4) (by omega), hx] at HB
    have e1 : (l : Int) - 256 = ((l - 256 : Nat) : Int) := by omega
    rw [w_i64 (by omega) (by omega), e1, w_u8_div, w_u8_div]
    refine putS (j := 3) (i := 3) HB (by simp; omega) (by simp) rfl (by omega) fun h1 H1 F1 => ?_
    refine putS (j := 2) (i := 2) H1 (by simp; omega) (by simp) rfl (by omega) fun h2 H2 F2 => ?_
    refine putS (j := 1) (i := 1) H2 (by simp; omega) (by simp) rfl (by omega) fun h3 H3 F3 => ?_
    refine putS (j := 0) (i := 0) H3 (by simp; omega) (by simp) rfl (by omega) fun h4 H4 F4 => ?_
    simp only [List.set_cons_zero, List.set_cons_succ] at H4
    have hr := repk (k := 2) (m := l - 256) (o := off) (by omega) (by omega) (by omega)
    have em : l - 256 + moreBase (2 + 4) = l + 4 := by rw [show moreBase (2 + 4) = 260 from rfl]; omega
    rw [em] at hr
    have eB : [25, 0, (((l - 256) / 2 ^ 0 % 256 : Nat) : Int), (((l - 256) / 2 ^ 8 % 256 : Nat) : Int)] = (((2 + 4) * 4 + 1 : Nat) : Int) :: 0 :: leB 2 (l - 256) := by simp [leB]
    rw [eB] at H4
    exact hK _ h4 _ (by simp [leB_len]) hr H4 (((F1.trans F2).trans F3).trans F4) (by rfl) (by rfl) (by rfl) (by rfl) (by first | rfl | exact f3.symm) (by rfl) (by rfl) (by rfl) (by rfl)
  rw [if_neg (by simp; omega)]
  simp only [SS, M_Lc2.k68, M_Lc2.k69, M_Lc2.k70, M_Lc2.k71, M_Lc2.k72, M_Lc2.k73, M_Lc2.k74, M_Lc2.k75, M_Lc2.k76, M_Lc2.k77, M_Lc2.r86, M_Lc2.r87, M_Lc2.r88, M_Lc2.r89, M_Lc2.r90, M_Lc2.r91, M_Lc2.r92, M_Lc2.r93, M_Lc2.r94, M_Lc2.r95, M_Lc2.r96, M_Lc2.r97]
  have e1 : (l : Int) - 65536 = ((l - 65536 : Nat) : Int) := by omega
  rw [w_i64 (x := (l : Int) - 65536) (by omega) (by omega), e1, if_neg (by simp; omega)]
  obtain ⟨x0, x1, x2, x3, x4, hx⟩ := len5 (cut_len (M := M) (o := o) (k := 5) (by omega))
  rw [← putL_self (M := M) (o := o) (k := 5) (by omega), hx] at HB
  rw [w_u8_div, w_u8_div, w_u8_div]
  refine putS (j := 4) (i := 4) HB (by simp; omega) (by simp) rfl (by omega) fun h1 H1 F1 => ?_
  refine putS (j := 3) (i := 3) H1 (by simp; omega) (by simp) rfl (by omega) fun h2 H2 F2 => ?_
  refine putS (j := 2) (i := 2) H2 (by simp; omega) (by simp) rfl (by omega) fun h3 H3 F3 => ?_
  refine putS (j := 1) (i := 1) H3 (by simp; omega) (by simp) rfl (by omega) fun h4 H4 F4 => ?_
  refine putS (j := 0) (i := 0) H4 (by simp; omega) (by simp) rfl (by omega) fun h5 H5 F5 => ?_
  simp only [List.set_cons_zero, List.set_cons_succ] at H5
  rw [if_neg (by simp)]
  have hr := repk (k := 3) (m := l - 65536) (o := off) (by omega) (by omega) (by omega)
  have em : l - 65536 + moreBase (3 + 4) = l + 4 := by rw [show moreBase (3 + 4) = 65540 from rfl]; omega
  rw [em] at hr
  have eB : [29, 0, (((l - 65536) / 2 ^ 0 % 256 : Nat) : Int), (((l - 65536) / 2 ^ 8 % 256 : Nat) : Int), (((l - 65536) / 2 ^ 16 % 256 : Nat) : Int)] = (((3 + 4) * 4 + 1 : Nat) : Int) :: 0 :: leB 3 (l - 65536) := by simp [leB, Nat.div_div_eq_div_mul]
  rw [eB] at H5
  exact hK _ h5 _ (by simp [leB_len]) hr H5 ((((F1.trans F2).trans F3).trans F4).trans F5) (by rfl) (by rfl) (by rfl) (by rfl) (by first | rfl | exact f3.symm) (by rfl) (by rfl) (by rfl) (by rfl)

set_option maxRecDepth 1000000 in
set_option maxHeartbeats 1000000 in
/-- A match by another offset. -/
theorem copLc2 (f1 : st.x_dstq26 = ⟨some ⟨db, o, none⟩, n, c⟩) (f2 : st.x_lengthq25 = len) (f3 : st.x_offset = off) (HB : Blk h db (M.map (Value.int .u8)) 5) (hon : o + n ≤ M.length) (hc : n ≤ c) (hn : 16 ≤ n) (hlen : 4 ≤ len) (hlen2 : len < 2 ^ 24) (ho : off < 65536)
    (hK : ∀ enc h' st', enc.length ≤ 10 → CopS true enc off len → Blk h' db ((putL M o enc).map (Value.int .u8)) 5 → Fr (· = db) h h' → st'.x_dst = st.x_dst → st'.x_src = st.x_src → st'.x_s = st.x_s → st'.x_ml = st.x_ml → st'.x_offset = st.x_offset → st'.x_uncompressed = st.x_uncompressed → st'.x_dLimit = st.x_dLimit → st'.x_d = IntKind.wrap .i64 (st.x_d + enc.length) → Q .norm st' h') : M_Lc2.k82 st h Q := by
  simp only [SS, M_Lc2.k82]
  refine loop_rule (I := fun s' h' => s' = st ∧ h' = h) (μ := fun _ _ => 0) ⟨rfl, rfl⟩ ?_
  rintro s' h' ⟨rfl, rfl⟩
  simp only [SS, M_Lc2.k83, M_Lc2.k84, M_Lc2.r103, M_Lc2.r104, f1, f2, f3]
  rw [if_pos (by simp; omega)]
  by_cases g1 : (len : Int) > 64
  · rw [if_pos (by simpa using g1)]
    simp only [SS, M_Lc2.k85, M_Lc2.k86, M_Lc2.k87, M_Lc2.k88, M_Lc2.k89, M_Lc2.k90, M_Lc2.r105, M_Lc2.r106, M_Lc2.r107, M_Lc2.r108, M_Lc2.r109, M_Lc2.r110, M_Lc2.r111, M_Lc2.r112, M_Lc2.r113, M_Lc2.r114, M_Lc2.r115, f1, f2, f3]
    by_cases g2 : (off : Int) < 2048
    · rw [if_pos (by simpa using g2)]
      have ew : IntKind.wrap .i64 ((len : Int) - 8) = ((len - 8 : Nat) : Int) := by rw [w_i64 (by omega) (by omega)]; omega
      simp only [ew]
      obtain ⟨x0, x1, hx⟩ := len2 (cut_len (M := M) (o := o) (k := 2) (by omega))
      rw [← putL_self (M := M) (o := o) (k := 2) (by omega), hx] at HB
      rw [tag8 (o := off) (by omega), w_u8_nat]
      refine putS (j := 1) (i := 1) HB (by simp; omega) (by simp) rfl (by omega) fun h1 H1 F1 => ?_
      refine putS (j := 0) (i := 0) H1 (by simp; omega) (by simp) rfl (by omega) fun h2 H2 F2 => ?_
      simp only [List.set_cons_zero, List.set_cons_succ] at H2
      refine ⟨by omega, by omega, ?_⟩
      rw [show Int.toNat (2 : Int) = 2 from rfl, subP_at (by omega)]
      refine emitRepeat16 H2 (by rw [putL_len (by simp; omega)]; omega) (by omega) (by omega) (by omega) (by omega) fun enc h6 q1 q2 q3 q4 => ?_
      have ep := putL_putL (M := M) (o := o) (L1 := [((off / 256 * 32 + (8 - 4) * 4 + 1 : Nat) : Int), ((off % 256 : Nat) : Int)]) (L2 := enc) (by simp; omega)
      have ec : IntKind.wrap .i64 (2 + (enc.length : Int)) = (([((off / 256 * 32 + (8 - 4) * 4 + 1 : Nat) : Int), ((off % 256 : Nat) : Int)] ++ enc).length : Nat) := by
        rw [w_i64 (by omega) (by omega)]; simp; omega
      rw [ec]
      refine hK ([((off / 256 * 32 + (8 - 4) * 4 + 1 : Nat) : Int), ((off % 256 : Nat) : Int)] ++ enc) h6 _ (by simp; omega) ?_ (by rw [← ep]; exact q3) ((F1.trans F2).trans q4) (by rfl) (by rfl) (by rfl) (by rfl) (by first | rfl | exact f3.symm) (by rfl) (by rfl) (by rfl)
      have := (cop1 (s2 := true) (o := off) (n := 8) (by omega) (by omega) (by omega)).app q2
      rwa [show 8 + (len - 8) = len by omega] at this
    · rw [if_neg (by simpa using g2)]
      have ew : IntKind.wrap .i64 ((len : Int) - 60) = ((len - 60 : Nat) : Int) := by rw [w_i64 (by omega) (by omega)]; omega
      simp only [ew]
      obtain ⟨x0, x1, x2, hx⟩ := len3 (cut_len (M := M) (o := o) (k := 3) (by omega))
      rw [← putL_self (M := M) (o := o) (k := 3) (by omega), hx] at HB
      simp only [w_u8_div, w_u8_nat]
      refine putS (j := 2) (i := 2) HB (by simp; omega) (by simp) rfl (by omega) fun h1 H1 F1 => ?_
      refine putS (j := 1) (i := 1) H1 (by simp; omega) (by simp) rfl (by omega) fun h2 H2 F2 => ?_
      refine putS (j := 0) (i := 0) H2 (by simp; omega) (by simp) rfl (by omega) fun h3 H3 F3 => ?_
      simp only [List.set_cons_zero, List.set_cons_succ] at H3
      refine ⟨by omega, by omega, ?_⟩
      rw [show Int.toNat (3 : Int) = 3 from rfl, subP_at (by omega)]
      refine emitRepeat16 H3 (by rw [putL_len (by simp; omega)]; omega) (by omega) (by omega) (by omega) (by omega) fun enc h6 q1 q2 q3 q4 => ?_
      have ep := putL_putL (M := M) (o := o) (L1 := [238, ((off % 256 : Nat) : Int), ((off / 2 ^ 8 % 256 : Nat) : Int)]) (L2 := enc) (by simp; omega)
      have ec : IntKind.wrap .i64 (3 + (enc.length : Int)) = (([238, ((off % 256 : Nat) : Int), ((off / 2 ^ 8 % 256 : Nat) : Int)] ++ enc).length : Nat) := by
        rw [w_i64 (by omega) (by omega)]; simp; omega
      rw [ec]
      refine hK ([238, ((off % 256 : Nat) : Int), ((off / 2 ^ 8 % 256 : Nat) : Int)] ++ enc) h6 _ (by simp; omega) ?_ (by rw [← ep]; exact q3) (((F1.trans F2).trans F3).trans q4) (by rfl) (by rfl) (by rfl) (by rfl) (by first | rfl | exact f3.symm) (by rfl) (by rfl) (by rfl)
      have := (copk2 (s2 := true) (o := off) (n := 60) ho (by omega) (by omega)).app q2
      rwa [show 60 + (len - 60) = len by omega] at this
  · rw [if_neg (by simpa using g1)]
    simp only [SS, M_Lc2.k91, M_Lc2.k92, M_Lc2.k93, M_Lc2.k94, M_Lc2.k95, M_Lc2.k96, M_Lc2.r116, M_Lc2.r117, M_Lc2.r118, M_Lc2.r119, M_Lc2.r120, M_Lc2.r121, M_Lc2.r122, M_Lc2.r123, f1, f2, f3]
    by_cases g : len ≥ 12 ∨ off ≥ 2048
    · obtain ⟨x0, x1, x2, hx⟩ := len3 (cut_len (M := M) (o := o) (k := 3) (by omega))
      rw [← putL_self (M := M) (o := o) (k := 3) (by omega), hx] at HB
      rw [(tag2 (n := len) (by omega) (by omega)).1, w_u8_div, w_u8_nat]
      by_cases g2 : (len : Int) ≥ 12
      · rw [if_neg (by simpa using g2), if_pos trivial]
        refine putS (j := 2) (i := 2) HB (by simp; omega) (by simp) rfl (by omega) fun h1 H1 F1 => ?_
        refine putS (j := 1) (i := 1) H1 (by simp; omega) (by simp) rfl (by omega) fun h2 H2 F2 => ?_
        refine putS (j := 0) (i := 0) H2 (by simp; omega) (by simp) rfl (by omega) fun h3 H3 F3 => ?_
        simp only [List.set_cons_zero, List.set_cons_succ] at H3
        exact hK _ h3 _ (by simp) (copk2 ho (by omega) (by omega)) H3 ((F1.trans F2).trans F3) (by rfl) (by rfl) (by rfl) (by rfl) (by first | rfl | exact f3.symm) (by rfl) (by rfl) (by rfl)
      · rw [if_pos (by simpa using g2), if_pos (by simp; omega)]
        refine putS (j := 2) (i := 2) HB (by simp; omega) (by simp) rfl (by omega) fun h1 H1 F1 => ?_
        refine putS (j := 1) (i := 1) H1 (by simp; omega) (by simp) rfl (by omega) fun h2 H2 F2 => ?_
        refine putS (j := 0) (i := 0) H2 (by simp; omega) (by simp) rfl (by omega) fun h3 H3 F3 => ?_
        simp only [List.set_cons_zero, List.set_cons_succ] at H3
        exact hK _ h3 _ (by simp) (copk2 ho (by omega) (by omega)) H3 ((F1.trans F2).trans F3) (by rfl) (by rfl) (by rfl) (by rfl) (by first | rfl | exact f3.symm) (by rfl) (by rfl) (by rfl)
    · rw [if_pos (by simp; omega), if_neg (by simp; omega)]
      obtain ⟨x0, x1, hx⟩ := len2 (cut_len (M := M) (o := o) (k := 2) (by omega))
      rw [← putL_self (M := M) (o := o) (k := 2) (by omega), hx] at HB
      rw [tag1' (by omega) hlen (by omega), w_u8_nat]
      refine putS (j := 1) (i := 1) HB (by simp; omega) (by simp) rfl (by omega) fun h1 H1 F1 => ?_
      refine putS (j := 0) (i := 0) H1 (by simp; omega) (by simp) rfl (by omega) fun h2 H2 F2 => ?_
      simp only [List.set_cons_zero, List.set_cons_succ] at H2
      exact hK _ h2 _ (by simp) (cop1 (by omega) hlen (by omega)) H2 (F1.trans F2) (by rfl) (by rfl) (by rfl) (by rfl) (by first | rfl | exact f3.symm) (by rfl) (by rfl) (by rfl)
end

section
/-- Where the converter stands: what was read and what was written. -/
structure CvLs2 (S : Sl) (N db : Nat) (h0 : Heap) (M0 : List Int) (body out : List Int) (last : Nat) (st : M_Ls2.St) (h : Heap) : Prop where
  dst : st.x_dst = ⟨some ⟨db, 0, none⟩, N, N⟩
  src : st.x_src = S
  d : st.x_d = body.length
  u : st.x_uncompressed = out.length
  lim : st.x_dLimit = (N : Int) - 10
  blk : Blk h db ((putL M0 0 body).map (Value.int .u8)) 5
  goes : GoesG true body out last
  bb : Bts body
  fr : Fr (· = db) h0 h
  lo : st.x_lastOffset = last

variable {S : Sl} {l : List Int} {N db : Nat} {h0 : Heap} {M0 : List Int} {body out : List Int} {last : Nat} {st : M_Ls2.St} {h : Heap} {Q : Ex → M_Ls2.St → Heap → Prop}

set_option maxRecDepth 1000000 in
/-- The token, and a length that goes on. -/
theorem headLs2 {i m j : Nat} (C : CvLs2 S N db h0 M0 body out last st h) (hS : SlI h0 .u8 S l) (hne : ∀ a, 0 < S.n → S.p = some a → a.block ≠ db) (hb : Bts l) (hl : l.length < 2 ^ 20) (hs : st.x_s = i) (hi : i < l.length) (hz : zlen l (i + 1) ((l.getD i 0).toNat / 16) ((l.getD i 0).toNat / 16) = some (m, j))
    (hK : ∀ st', CvLs2 S N db h0 M0 body out last st' h → st'.x_s = (j : Int) - 1 → st'.x_ll = m → st'.x_ml = (((l.getD i 0).toNat % 16 + zleast true : Nat) : Int) → M_Ls2.k25 st' h Q) : M_Ls2.k15 st h Q := by
  have hsl := hS.len
  have hS' : SlI h .u8 S l := SlI.fr hS C.fr (fun a h1 h2 => hne a h1 h2)
  simp only [SS, M_Ls2.k15, M_Ls2.k16, M_Ls2.k17, M_Ls2.k18, M_Ls2.r22, M_Ls2.r23, M_Ls2.r24, M_Ls2.r25, C.src, hs]
  refine hS'.ldB (Byt.of_mem hb) (j := i) rfl hi fun v hv he hev => ?_
  rw [hev] at hz hK
  have e1 : IntKind.wrap .i64 (Int.fdiv (v : Int) (2 ^ 4)) = ((v / 16 : Nat) : Int) := by rw [fdiv_nat, w_i64 (by omega) (by omega)]
  have e2 : IntKind.wrap .i64 (IntKind.wrap .u8 ((3 : Int) + bAnd .u8 (v : Int) 15)) = ((v % 16 + zleast true : Nat) : Int) := by
    rw [u8_and15 hv, w_u8 (by omega) (by omega), w_i64 (by omega) (by omega), show zleast true = 3 from rfl]; omega
  simp only [e1, e2]
  by_cases h15 : v / 16 = 15
  · rw [if_pos (by simp; omega)]
    unfold zlen at hz
    rw [if_pos h15, h15] at hz
    rw [h15]
    refine loop_rule (I := fun s' h' => h' = h ∧ CvLs2 S N db h0 M0 body out last s' h ∧ s'.x_ml = ((v % 16 + zleast true : Nat) : Int) ∧ ∃ p n : Nat, s'.x_s = p ∧ s'.x_ll = n ∧ p < l.length ∧ n ≤ 15 + 255 * p ∧ zmore l (p + 1) n = some (m, j)) (μ := fun s' _ => (l.length - s'.x_s).toNat) ?_ ?_
    · exact ⟨rfl, ⟨C.dst, rfl, C.d, C.u, C.lim, C.blk, C.goes, C.bb, C.fr, C.lo⟩, rfl, i, 15, rfl, rfl, hi, by omega, hz⟩
    · rintro s' h' ⟨rfl, C', e3, p, n, e4, e5, hp, hn, hm⟩
      simp only [SS, M_Ls2.k20, M_Ls2.k21, M_Ls2.k22, M_Ls2.k23, M_Ls2.k24, M_Ls2.r26, M_Ls2.r27, M_Ls2.r29, M_Ls2.r30, M_Ls2.r31, C'.src, e4, e5]
      have hp1 : p + 1 < l.length := by
        rcases Nat.lt_or_ge (p + 1) l.length with h | h
        · exact h
        · rw [zmore_end h] at hm; cases hm
      have ep : IntKind.wrap .i64 ((p : Int) + 1) = ((p + 1 : Nat) : Int) := by rw [w_i64 (by omega) (by omega)]; omega
      rw [ep, if_neg (by simp; omega)]
      rw [zmore_step hp1] at hm
      refine hS'.ldB (Byt.of_mem hb) (j := p + 1) rfl hp1 fun w hw hwe hwev => ?_
      rw [hwev] at hm
      have en : IntKind.wrap .i64 ((n : Int) + IntKind.wrap .i64 (w : Int)) = ((n + w : Nat) : Int) := by rw [w_i64 (x := (w : Int)) (by omega) (by omega), w_i64 (by omega) (by omega)]; omega
      rw [en]
      by_cases h255 : w < 255
      · rw [if_pos (by simp; omega)]
        rw [if_pos h255] at hm
        simp only [Option.some.injEq, Prod.mk.injEq] at hm
        obtain ⟨rfl, rfl⟩ := hm
        exact hK _ ⟨C'.dst, rfl, C'.d, C'.u, C'.lim, C'.blk, C'.goes, C'.bb, C'.fr, C'.lo⟩ (by simp only; omega) rfl e3
      · rw [if_neg (by simp; omega)]
        rw [if_neg h255] at hm
        exact ⟨⟨trivial, ⟨C'.dst, rfl, C'.d, C'.u, C'.lim, C'.blk, C'.goes, C'.bb, C'.fr, C'.lo⟩, e3, p + 1, n + w, rfl, rfl, hp1, by omega, hm⟩, by omega⟩
  · rw [if_neg (by simp; omega)]
    unfold zlen at hz
    rw [if_neg h15] at hz
    simp only [Option.some.injEq, Prod.mk.injEq] at hz
    obtain ⟨rfl, rfl⟩ := hz
    exact hK _ ⟨C.dst, rfl, C.d, C.u, C.lim, C.blk, C.goes, C.bb, C.fr, C.lo⟩ (by simp only; omega) rfl rfl

set_option maxRecDepth 1000000 in
/-- The literals. -/
theorem litLs2 {m j : Nat} {ml : Int} (C : CvLs2 S N db h0 M0 body out last st h) (hS : SlI h0 .u8 S l) (hne : ∀ a, 0 < S.n → S.p = some a → a.block ≠ db) (hb : Bts l) (hl : l.length < 2 ^ 20) (hN : N = 16 * l.length + 64) (hM : M0.length = N) (hs : st.x_s = (j : Int) - 1) (hll : st.x_ll = m) (hml : st.x_ml = ml) (h1 : 1 ≤ j) (hjm : j + m ≤ l.length) (hroom : body.length + 16 ≤ 16 * j) (hol : out.length < 2 ^ 24)
    (hK : ∀ st' h' body', CvLs2 S N db h0 M0 body' (out ++ (l.drop j).take m) last st' h' → st'.x_s = ((j + m : Nat) : Int) → st'.x_ml = ml → body'.length ≤ body.length + m + 5 → M_Ls2.k30 st' h' Q) : M_Ls2.k25 st h Q := by
  have hsl := hS.len
  have hcap := hS.2.1
  have hS' : SlI h .u8 S l := SlI.fr hS C.fr (fun a h1 h2 => hne a h1 h2)
  simp only [SS, M_Ls2.k25, M_Ls2.k26, M_Ls2.k27, M_Ls2.r32, M_Ls2.r34, M_Ls2.r35, C.src, hs, hll]
  have e0 : IntKind.wrap .i64 ((j : Int) - 1 + m) = (j : Int) - 1 + m := w_i64 (by omega) (by omega)
  have e1 : IntKind.wrap .i64 ((j : Int) - 1 + 1) = (j : Nat) := by rw [w_i64 (by omega) (by omega)]; omega
  rw [e0, e1, if_neg (by simp; omega)]
  by_cases h0' : m = 0
  · subst h0'
    rw [if_neg (by simp)]
    refine hK _ h body ?_ ?_ ?_ (by omega)
    rotate_left
    · simp only; omega
    · exact hml
    rw [List.take_zero, List.append_nil]
    exact ⟨C.dst, rfl, C.d, C.u, C.lim, C.blk, C.goes, C.bb, C.fr, C.lo⟩
  rw [if_pos (by simp; omega)]
  simp only [SS, M_Ls2.k28, M_Ls2.k29, M_Ls2.r36, M_Ls2.r38, M_Ls2.r39, M_Ls2.r40, C.src, C.dst, C.d, C.lim, C.u, hll]
  have e2 : IntKind.wrap .i64 ((body.length : Int) + m) = (body.length : Int) + m := w_i64 (by omega) (by omega)
  have e3 : IntKind.wrap .i64 ((j : Int) + m) = ((j + m : Nat) : Int) := by rw [w_i64 (by omega) (by omega)]; omega
  have e13 : IntKind.wrap .i64 ((N : Int) - 13) = (N : Int) - 13 := w_i64 (by omega) (by omega)
  rw [e2, e13, if_neg (by simp; omega)]
  simp only [e3]
  refine ⟨by omega, by omega, by omega, by omega, by omega, by omega, ?_⟩
  rw [Int.toNat_natCast, Int.toNat_natCast, Int.toNat_natCast, subP_at (by omega), Nat.zero_add, show j + m - j = m by omega]
  have hsub := hS'.sub (lo := j) (hi := j + m) (by omega) (by omega)
  rw [List.drop_take, show j + m - j = m by omega] at hsub
  have hdl : ((l.drop j).take m).length = m := by simp; omega
  refine emitLiteralGo (M := putL M0 0 body) C.blk (by rw [putL_len (by omega)]; omega) (Nat.le_refl _) (by omega) hsub ?_ (hb.sub _ _) (by omega) fun enc h2 q1 q2 q3 q4 q5 => ?_
  · intro a h3 ha
    unfold subP at ha
    cases hp : S.p with
    | none => rw [hp] at ha; split at ha <;> cases ha
    | some a0 =>
      have := hne a0 (by omega) hp
      rw [hp] at ha
      have hbl : a.block = a0.block := by
        split at ha
        · obtain rfl := Option.some.inj ha; rfl
        · obtain rfl := Option.some.inj ha
          unfold Addr.add; split <;> rfl
      omega
  have ep := putL_putL (M := M0) (o := 0) (L1 := body) (L2 := enc) (by omega)
  rw [Nat.zero_add] at ep
  rw [ep] at q4
  have ed : IntKind.wrap .i64 ((body.length : Int) + (enc.length : Nat)) = ((body ++ enc).length : Nat) := by rw [w_i64 (by omega) (by omega)]; simp
  have eu : IntKind.wrap .i64 ((out.length : Int) + m) = ((out ++ (l.drop j).take m).length : Nat) := by rw [w_i64 (by omega) (by omega)]; simp; omega
  refine hK _ h2 (body ++ enc) ⟨rfl, rfl, ed, eu, rfl, q4, ?_, C.bb.app q3, C.fr.trans q5, by exact C.lo⟩ rfl (by exact hml) (by simp; omega)
  exact C.goes.seq (q2 true out last) (by simp)

set_option maxRecDepth 1000000 in
/-- The offset, and a match's length that goes on. -/
theorem offLs2 {i t off n k : Nat} (C : CvLs2 S N db h0 M0 body out last st h) (hS : SlI h0 .u8 S l) (hne : ∀ a, 0 < S.n → S.p = some a → a.block ≠ db) (hb : Bts l) (hl : l.length < 2 ^ 20) (hs : st.x_s = i) (hml : st.x_ml = ((t + zleast true : Nat) : Int)) (ht : t ≤ 15) (hmd : ¬ (true = true ∧ t = 0))
    (ho : leAt l i 2 = some off) (ho0 : 0 < off) (hoo : off ≤ out.length) (hol : out.length < 2 ^ 24) (hz : zlen l (i + 2) t (t + zleast true) = some (n, k)) (hk : k < l.length)
    (hK : ∀ st' h', CvLs2 S N db h0 M0 body out last st' h' → st'.x_s = k → st'.x_ml = n → st'.x_offset = off → M_Ls2.k45 st' h' Q) : M_Ls2.k30 st h Q := by
  have hsl := hS.len
  have hcap := hS.2.1
  have hS' : SlI h .u8 S l := SlI.fr hS C.fr (fun a h1 h2 => hne a h1 h2)
  have hi2 := leAt_le ho
  have hzl := zlen_le hb hz hi2
  simp only [SS, M_Ls2.k30, M_Ls2.r41, C.src, hs, hml]
  rw [if_neg (by rw [show zleast true = 3 from rfl]; simp; intro h; exact hmd ⟨rfl, by omega⟩)]
  simp only [SS, M_Ls2.k32, M_Ls2.k33, M_Ls2.r43, M_Ls2.r45, C.src, hs]
  have e0 : IntKind.wrap .i64 (((S.n : Nat) : Int) - 2) = ((l.length - 2 : Nat) : Int) := by rw [w_i64 (by omega) (by omega)]; omega
  rw [e0, if_neg (by simp; omega)]
  refine ⟨by omega, by omega, ?_⟩
  rw [Int.toNat_natCast]
  have hfr := hS'.from (i := i) (by omega)
  have hoff : leN ((l.drop i).take 2) = off := by
    unfold leAt at ho
    rw [if_pos hi2] at ho
    exact Option.some.inj ho
  have hoff2 := leAt_lt4 hb (by omega) ho
  have hoff3 : off < 65536 := by
    have h1 := leN_lt ((l.drop i).take 2) (hb.sub i 2)
    have h2 : ((l.drop i).take 2).length ≤ 2 := by simp; omega
    have h3 : 256 ^ ((l.drop i).take 2).length ≤ 256 ^ 2 := Nat.pow_le_pow_right (by decide) h2
    omega
  refine le16 hfr (Byt.of_mem (fun x hx => hb x (List.mem_of_mem_drop hx))) (by simp; omega) fun h1 o1 => ?_
  rw [hoff]
  have C1 : ∀ st' : M_Ls2.St, st'.x_dst = st.x_dst → st'.x_src = st.x_src → st'.x_d = st.x_d → st'.x_uncompressed = st.x_uncompressed → st'.x_dLimit = st.x_dLimit → st'.x_lastOffset = st.x_lastOffset → CvLs2 S N db h0 M0 body out last st' h1 := fun st' g1 g2 g3 g4 g5 g6 =>
    ⟨g1.trans C.dst, g2.trans C.src, g3.trans C.d, g4.trans C.u, g5.trans C.lim, o1.Blk C.blk, C.goes, C.bb, C.fr.trans (Fr.of_old o1), g6.trans C.lo⟩
  have hS1 : SlI h1 .u8 S l := hS'.ext o1.ext
  simp only [SS, M_Ls2.k34, M_Ls2.k35, M_Ls2.k36, M_Ls2.k37, M_Ls2.r46, M_Ls2.r47, M_Ls2.r49, M_Ls2.r51, C.src, C.u, hs, hml]
  have e1 : IntKind.wrap .i64 ((i : Int) + 2) = ((i + 2 : Nat) : Int) := by rw [w_i64 (by omega) (by omega)]; omega
  rw [if_neg (by simp; omega), w_i64 (x := (off : Int)) (by omega) (by omega), if_neg (by simp; omega), e1]
  by_cases h15 : t = 15
  · rw [if_pos (by rw [h15]; rfl)]
    unfold zlen at hz
    rw [if_pos h15] at hz
    simp only [SS, M_Ls2.k38]
    refine loop_rule (I := fun s' h' => h' = h1 ∧ CvLs2 S N db h0 M0 body out last s' h1 ∧ s'.x_offset = off ∧ ∃ p n' : Nat, s'.x_s = p ∧ s'.x_ml = n' ∧ p ≤ l.length ∧ n' ≤ 30 + 255 * p ∧ zmore l p n' = some (n, k)) (μ := fun s' _ => (l.length - s'.x_s).toNat) ?_ ?_
    · exact ⟨rfl, C1 _ rfl C.src.symm rfl C.u.symm rfl rfl, rfl, i + 2, t + zleast true, rfl, rfl, by omega, by have h4 : zleast true ≤ 4 := (by decide); omega, hz⟩
    · rintro s' h' ⟨rfl, C', e3, p, n', e4, e5, hp, hn, hm⟩
      simp only [SS, M_Ls2.k39, M_Ls2.k40, M_Ls2.k41, M_Ls2.k42, M_Ls2.k43, M_Ls2.k44, M_Ls2.r52, M_Ls2.r54, M_Ls2.r55, M_Ls2.r56, M_Ls2.r57, M_Ls2.r58, C'.src, e4, e5]
      have hp1 : p < l.length := by
        rcases Nat.lt_or_ge p l.length with h | h
        · exact h
        · rw [zmore_end h] at hm; cases hm
      rw [if_neg (by simp; omega)]
      rw [zmore_step hp1] at hm
      refine hS1.ldB (Byt.of_mem hb) (j := p) rfl hp1 fun w hw hwe hwev => ?_
      rw [hwev] at hm
      have ep : IntKind.wrap .i64 ((p : Int) + 1) = ((p + 1 : Nat) : Int) := by rw [w_i64 (by omega) (by omega)]; omega
      have en : IntKind.wrap .i64 ((n' : Int) + IntKind.wrap .i64 (w : Int)) = ((n' + w : Nat) : Int) := by rw [w_i64 (x := (w : Int)) (by omega) (by omega), w_i64 (by omega) (by omega)]; omega
      rw [ep, en]
      by_cases h255 : w < 255
      · rw [if_pos (by simp; omega)]
        rw [if_pos h255] at hm
        simp only [Option.some.injEq, Prod.mk.injEq] at hm
        obtain ⟨rfl, rfl⟩ := hm
        rw [if_neg (by simp; omega)]
        exact hK _ _ ⟨C'.dst, rfl, C'.d, C'.u, C'.lim, C'.blk, C'.goes, C'.bb, C'.fr, C'.lo⟩ rfl rfl e3
      · rw [if_neg (by simp; omega)]
        rw [if_neg h255] at hm
        exact ⟨⟨trivial, ⟨C'.dst, rfl, C'.d, C'.u, C'.lim, C'.blk, C'.goes, C'.bb, C'.fr, C'.lo⟩, e3, p + 1, n' + w, rfl, rfl, by omega, by omega, hm⟩, by omega⟩
  · rw [if_neg (by rw [show zleast true = 3 from rfl]; simp; omega)]
    unfold zlen at hz
    rw [if_neg h15] at hz
    simp only [Option.some.injEq, Prod.mk.injEq] at hz
    obtain ⟨rfl, rfl⟩ := hz
    exact hK _ h1 (C1 _ rfl C.src.symm rfl C.u.symm rfl rfl) rfl rfl rfl
end

section
variable {h : Heap} {db o n c off len : Nat} {M : List Int} {st : M_Ls2.St} {Q : Ex → M_Ls2.St → Heap → Prop}

set_option maxRecDepth 1000000 in
set_option maxHeartbeats 1000000 in
/-- A match by the last offset. -/
theorem repLs2 (f1 : st.x_dstq23 = ⟨some ⟨db, o, none⟩, n, c⟩) (f2 : st.x_length = len) (f3 : st.x_offset = off) (HB : Blk h db (M.map (Value.int .u8)) 5) (hon : o + n ≤ M.length) (hn : 6 ≤ n) (hlen : 4 ≤ len) (hlen2 : len < 2 ^ 24) (hoff : off < 2 ^ 31)
    (hK : ∀ enc h' st', enc.length ≤ 5 → RepS true enc off len → Blk h' db ((putL M o enc).map (Value.int .u8)) 5 → Fr (· = db) h h' → st'.x_dst = st.x_dst → st'.x_src = st.x_src → st'.x_s = st.x_s → st'.x_ml = st.x_ml → st'.x_offset = st.x_offset → st'.x_uncompressed = st.x_uncompressed → st'.x_dLimit = st.x_dLimit → st'.x_lastOffset = st.x_lastOffset → st'.x_d = IntKind.wrap .i64 (st.x_d + enc.length) → Q .norm st' h') : M_Ls2.k49 st h Q := by
  simp only [SS, M_Ls2.k49]
  refine loop_rule (I := fun s' h' => s' = st ∧ h' = h) (μ := fun _ _ => 0) ⟨rfl, rfl⟩ ?_
  rintro s' h' ⟨rfl, rfl⟩
  simp only [SS, M_Ls2.k50, M_Ls2.k51, M_Ls2.k52, M_Ls2.k53, M_Ls2.k54, M_Ls2.k55, M_Ls2.k56, M_Ls2.k57, M_Ls2.r64, M_Ls2.r65, M_Ls2.r66, M_Ls2.r67, M_Ls2.r68, M_Ls2.r69, M_Ls2.r70, M_Ls2.r71, M_Ls2.r72, M_Ls2.r73, f1, f2, f3]
  rw [if_pos (by simp; omega)]
  rw [w_i64 (x := (len : Int) - 4) (by omega) (by omega)]
  obtain ⟨l, rfl⟩ : ∃ l, len = l + 4 := ⟨len - 4, by omega⟩
  have el : (((l + 4 : Nat)) : Int) - 4 = (l : Nat) := by omega
  simp only [el]
  by_cases g8 : l ≤ 4
  · rw [if_pos (by simp; omega)]
    obtain ⟨x0, x1, hx⟩ := len2 (cut_len (M := M) (o := o) (k := 2) (by omega))
    rw [← putL_self (M := M) (o := o) (k := 2) (by omega), hx] at HB
    have ev : bOr .u8 (IntKind.wrap .u8 (IntKind.wrap .u8 (l : Int) * 2 ^ 2)) 1 = ((l * 4 + 1 : Nat) : Int) := by
      rw [w_u8 (x := (l : Int)) (by omega) (by omega), w_u8 (by omega) (by omega)]
      have e2 : (l : Int) * 2 ^ 2 = ((l * 4 : Nat) : Int) := by omega
      have e3 : bOr .u8 ((l * 4 : Nat) : Int) 1 = ((l * 4 ||| 1 : Nat) : Int) := or_u8 (by omega) (by decide)
      rw [e2, e3, (lor_tag2 l (by omega)).2.2]
    rw [ev]
    refine putS (j := 0) (i := 0) HB (by simp; omega) (by simp) rfl (by omega) fun h1 H1 F1 => ?_
    refine putS (j := 1) (i := 1) H1 (by simp; omega) (by simp) rfl (by omega) fun h2 H2 F2 => ?_
    simp only [List.set_cons_zero, List.set_cons_succ] at H2
    exact hK [((l * 4 + 1 : Nat) : Int), 0] h2 _ (by simp) (rep0 (n := l + 4) (by omega) (by omega)) H2 (F1.trans F2) (by rfl) (by rfl) (by rfl) (by rfl) (by first | rfl | exact f3.symm) (by rfl) (by rfl) (by rfl) (by rfl)
  rw [if_neg (by simp; omega)]
  by_cases g1 : l < 8 ∧ off < 2048
  · rw [if_pos (by simp; omega), if_pos (by simp; omega)]
    obtain ⟨x0, x1, hx⟩ := len2 (cut_len (M := M) (o := o) (k := 2) (by omega))
    rw [← putL_self (M := M) (o := o) (k := 2) (by omega), hx] at HB
    rw [tag1 g1.2 g1.1, w_u8_nat]
    refine putS (j := 1) (i := 1) HB (by simp; omega) (by simp) rfl (by omega) fun h1 H1 F1 => ?_
    refine putS (j := 0) (i := 0) H1 (by simp; omega) (by simp) rfl (by omega) fun h2 H2 F2 => ?_
    simp only [List.set_cons_zero, List.set_cons_succ] at H2
    exact hK [((off / 256 * 32 + l * 4 + 1 : Nat) : Int), ((off % 256 : Nat) : Int)] h2 _ (by simp) (cop1 (n := l + 4) g1.2 (by omega) (by omega)).rep H2 (F1.trans F2) (by rfl) (by rfl) (by rfl) (by rfl) (by first | rfl | exact f3.symm) (by rfl) (by rfl) (by rfl) (by rfl)
  rw [ite2_neg (by simp; omega)]
  simp only [SS, M_Ls2.k58, M_Ls2.k59, M_Ls2.k60, M_Ls2.k61, M_Ls2.k62, M_Ls2.r74, M_Ls2.r75, M_Ls2.r76, M_Ls2.r77, M_Ls2.r78, M_Ls2.r79]
  by_cases g2 : l < 260
  · rw [if_pos (by simp; omega)]
    obtain ⟨x0, x1, x2, hx⟩ := len3 (cut_len (M := M) (o := o) (k := 3) (by omega))
    rw [← putL_self (M := M) (o := o) (k := 3) (by omega), hx] at HB
    have e1 : (l : Int) - 4 = ((l - 4 : Nat) : Int) := by omega
    rw [w_i64 (by omega) (by omega), e1, w_u8_nat]
    refine putS (j := 2) (i := 2) HB (by simp; omega) (by simp) rfl (by omega) fun h1 H1 F1 => ?_
    refine putS (j := 1) (i := 1) H1 (by simp; omega) (by simp) rfl (by omega) fun h2 H2 F2 => ?_
    refine putS (j := 0) (i := 0) H2 (by simp; omega) (by simp) rfl (by omega) fun h3 H3 F3 => ?_
    simp only [List.set_cons_zero, List.set_cons_succ] at H3
    have hr := repk (k := 1) (m := l - 4) (o := off) (by omega) (by omega) (by omega)
    have em : l - 4 + moreBase (1 + 4) = l + 4 := by rw [show moreBase (1 + 4) = 8 from rfl]; omega
    rw [em] at hr
    exact hK [21, 0, (((l - 4) % 256 : Nat) : Int)] h3 _ (by simp) hr H3 ((F1.trans F2).trans F3) (by rfl) (by rfl) (by rfl) (by rfl) (by first | rfl | exact f3.symm) (by rfl) (by rfl) (by rfl) (by rfl)
  rw [if_neg (by simp; omega)]
  simp only [SS, M_Ls2.k63, M_Ls2.k64, M_Ls2.k65, M_Ls2.k66, M_Ls2.k67, M_Ls2.k68, M_Ls2.r80, M_Ls2.r81, M_Ls2.r82, M_Ls2.r83, M_Ls2.r84, M_Ls2.r85, M_Ls2.r86]
  by_cases g3 : l < 65792
  · rw [if_pos (by simp; omega)]
    obtain ⟨x0, x1, x2, x3, hx⟩ := len4 (cut_len (M := M) (o := o) (k := 4) (by omega))
    rw [← putL_self (M := M) (o := o) (k := 4) (by omega), hx] at HB
    have e1 : (l : Int) - 256 = ((l - 256 : Nat) : Int) := by omega
    rw [w_i64 (by omega) (by omega), e1, w_u8_div, w_u8_div]
    refine putS (j := 3) (i := 3) HB (by simp; omega) (by simp) rfl (by omega) fun h1 H1 F1 => ?_
    refine putS (j := 2) (i := 2) H1 (by simp; omega) (by simp) rfl (by omega) fun h2 H2 F2 => ?_
    refine putS (j := 1) (i := 1) H2 (by simp; omega) (by simp) rfl (by omega) fun h3 H3 F3 => ?_
    refine putS (j := 0) (i := 0) H3 (by simp; omega) (by simp) rfl (by omega) fun h4 H4 F4 => ?_
    simp only [List.set_cons_zero, List.set_cons_succ] at H4
    have hr := repk (k := 2) (m := l - 256) (o := off) (by omega) (by omega) (by omega)
    have em : l - 256 + moreBase (2 + 4) = l + 4 := by rw [show moreBase (2 + 4) = 260 from rfl]; omega
    rw [em] at hr
    have eB : [25, 0, (((l - 256) / 2 ^ 0 % 256 : Nat) : Int), (((l - 256) / 2 ^ 8 % 256 : Nat) : Int)] = (((2 + 4) * 4 + 1 : Nat) : Int) :: 0 :: leB 2 (l - 256) := by simp [leB]
    rw [eB] at H4
    exact hK _ h4 _ (by simp [leB_len]) hr H4 (((F1.trans F2).trans F3).trans F4) (by rfl) (by rfl) (by rfl) (by rfl) (by first | rfl | exact f3.symm) (by rfl) (by rfl) (by rfl) (by rfl)
  rw [if_neg (by simp; omega)]
  simp only [SS, M_Ls2.k69, M_Ls2.k70, M_Ls2.k71, M_Ls2.k72, M_Ls2.k73, M_Ls2.k74, M_Ls2.k75, M_Ls2.k76, M_Ls2.k77, M_Ls2.k78, M_Ls2.r87, M_Ls2.r88, M_Ls2.r89, M_Ls2.r90, M_Ls2.r91, M_Ls2.r92, M_Ls2.r93, M_Ls2.r94, M_Ls2.r95, M_Ls2.r96, M_Ls2.r97, M_Ls2.r98]
  have e1 : (l : Int) - 65536 = ((l - 65536 : Nat) : Int) := by omega
  rw [w_i64 (x := (l : Int) - 65536) (by omega) (by omega), e1, if_neg (by simp; omega)]
  obtain ⟨x0, x1, x2, x3, x4, hx⟩ := len5 (cut_len (M := M) (o := o) (k := 5) (by omega))
  rw [← putL_self (M := M) (o := o) (k := 5) (by omega), hx] at HB
  rw [w_u8_div, w_u8_div, w_u8_div]
  refine putS (j := 4) (i := 4) HB (by simp; omega) (by simp) rfl (by omega) fun h1 H1 F1 => ?_
  refine putS (j := 3) (i := 3) H1 (by simp; omega) (by simp) rfl (by omega) fun h2 H2 F2 => ?_
  refine putS (j := 2) (i := 2) H2 (by simp; omega) (by simp) rfl (by omega) fun h3 H3 F3 => ?_
  refine putS (j := 1) (i := 1) H3 (by simp; omega) (by simp) rfl (by omega) fun h4 H4 F4 => ?_
  refine putS (j := 0) (i := 0) H4 (by simp; omega) (by simp) rfl (by omega) fun h5 H5 F5 => ?_
  simp only [List.set_cons_zero, List.set_cons_succ] at H5
  rw [if_neg (by simp)]
  have hr := repk (k := 3) (m := l - 65536) (o := off) (by omega) (by omega) (by omega)
  have em : l - 65536 + moreBase (3 + 4) = l + 4 := by rw [show moreBase (3 + 4) = 65540 from rfl]; omega
  rw [em] at hr
  have eB : [29, 0, (((l - 65536) / 2 ^ 0 % 256 : Nat) : Int), (((l - 65536) / 2 ^ 8 % 256 : Nat) : Int), (((l - 65536) / 2 ^ 16 % 256 : Nat) : Int)] = (((3 + 4) * 4 + 1 : Nat) : Int) :: 0 :: leB 3 (l - 65536) := by simp [leB, Nat.div_div_eq_div_mul]
  rw [eB] at H5
  exact hK _ h5 _ (by simp [leB_len]) hr H5 ((((F1.trans F2).trans F3).trans F4).trans F5) (by rfl) (by rfl) (by rfl) (by rfl) (by first | rfl | exact f3.symm) (by rfl) (by rfl) (by rfl) (by rfl)

set_option maxRecDepth 1000000 in
set_option maxHeartbeats 1000000 in
/-- A match by another offset. -/
theorem copLs2 (f1 : st.x_dstq26 = ⟨some ⟨db, o, none⟩, n, c⟩) (f2 : st.x_lengthq25 = len) (f3 : st.x_offset = off) (HB : Blk h db (M.map (Value.int .u8)) 5) (hon : o + n ≤ M.length) (hc : n ≤ c) (hn : 16 ≤ n) (hlen : 4 ≤ len) (hlen2 : len < 2 ^ 24) (ho : off < 65536)
    (hK : ∀ enc h' st', enc.length ≤ 10 → CopS true enc off len → Blk h' db ((putL M o enc).map (Value.int .u8)) 5 → Fr (· = db) h h' → st'.x_dst = st.x_dst → st'.x_src = st.x_src → st'.x_s = st.x_s → st'.x_ml = st.x_ml → st'.x_offset = st.x_offset → st'.x_uncompressed = st.x_uncompressed → st'.x_dLimit = st.x_dLimit → st'.x_d = IntKind.wrap .i64 (st.x_d + enc.length) → Q .norm st' h') : M_Ls2.k83 st h Q := by
  simp only [SS, M_Ls2.k83]
  refine loop_rule (I := fun s' h' => s' = st ∧ h' = h) (μ := fun _ _ => 0) ⟨rfl, rfl⟩ ?_
  rintro s' h' ⟨rfl, rfl⟩
  simp only [SS, M_Ls2.k84, M_Ls2.k85, M_Ls2.r104, M_Ls2.r105, f1, f2, f3]
  rw [if_pos (by simp; omega)]
  by_cases g1 : (len : Int) > 64
  · rw [if_pos (by simpa using g1)]
    simp only [SS, M_Ls2.k86, M_Ls2.k87, M_Ls2.k88, M_Ls2.k89, M_Ls2.k90, M_Ls2.k91, M_Ls2.r106, M_Ls2.r107, M_Ls2.r108, M_Ls2.r109, M_Ls2.r110, M_Ls2.r111, M_Ls2.r112, M_Ls2.r113, M_Ls2.r114, M_Ls2.r115, M_Ls2.r116, f1, f2, f3]
    by_cases g2 : (off : Int) < 2048
    · rw [if_pos (by simpa using g2)]
      have ew : IntKind.wrap .i64 ((len : Int) - 8) = ((len - 8 : Nat) : Int) := by rw [w_i64 (by omega) (by omega)]; omega
      simp only [ew]
      obtain ⟨x0, x1, hx⟩ := len2 (cut_len (M := M) (o := o) (k := 2) (by omega))
      rw [← putL_self (M := M) (o := o) (k := 2) (by omega), hx] at HB
      rw [tag8 (o := off) (by omega), w_u8_nat]
      refine putS (j := 1) (i := 1) HB (by simp; omega) (by simp) rfl (by omega) fun h1 H1 F1 => ?_
      refine putS (j := 0) (i := 0) H1 (by simp; omega) (by simp) rfl (by omega) fun h2 H2 F2 => ?_
      simp only [List.set_cons_zero, List.set_cons_succ] at H2
      refine ⟨by omega, by omega, ?_⟩
      rw [show Int.toNat (2 : Int) = 2 from rfl, subP_at (by omega)]
      refine emitRepeat16 H2 (by rw [putL_len (by simp; omega)]; omega) (by omega) (by omega) (by omega) (by omega) fun enc h6 q1 q2 q3 q4 => ?_
      have ep := putL_putL (M := M) (o := o) (L1 := [((off / 256 * 32 + (8 - 4) * 4 + 1 : Nat) : Int), ((off % 256 : Nat) : Int)]) (L2 := enc) (by simp; omega)
      have ec : IntKind.wrap .i64 (2 + (enc.length : Int)) = (([((off / 256 * 32 + (8 - 4) * 4 + 1 : Nat) : Int), ((off % 256 : Nat) : Int)] ++ enc).length : Nat) := by
        rw [w_i64 (by omega) (by omega)]; simp; omega
      rw [ec]
      refine hK ([((off / 256 * 32 + (8 - 4) * 4 + 1 : Nat) : Int), ((off % 256 : Nat) : Int)] ++ enc) h6 _ (by simp; omega) ?_ (by rw [← ep]; exact q3) ((F1.trans F2).trans q4) (by rfl) (by rfl) (by rfl) (by rfl) (by first | rfl | exact f3.symm) (by rfl) (by rfl) (by rfl)
      have := (cop1 (s2 := true) (o := off) (n := 8) (by omega) (by omega) (by omega)).app q2
      rwa [show 8 + (len - 8) = len by omega] at this
    · rw [if_neg (by simpa using g2)]
      have ew : IntKind.wrap .i64 ((len : Int) - 60) = ((len - 60 : Nat) : Int) := by rw [w_i64 (by omega) (by omega)]; omega
      simp only [ew]
      obtain ⟨x0, x1, x2, hx⟩ := len3 (cut_len (M := M) (o := o) (k := 3) (by omega))
      rw [← putL_self (M := M) (o := o) (k := 3) (by omega), hx] at HB
      simp only [w_u8_div, w_u8_nat]
      refine putS (j := 2) (i := 2) HB (by simp; omega) (by simp) rfl (by omega) fun h1 H1 F1 => ?_
      refine putS (j := 1) (i := 1) H1 (by simp; omega) (by simp) rfl (by omega) fun h2 H2 F2 => ?_
      refine putS (j := 0) (i := 0) H2 (by simp; omega) (by simp) rfl (by omega) fun h3 H3 F3 => ?_
      simp only [List.set_cons_zero, List.set_cons_succ] at H3
      refine ⟨by omega, by omega, ?_⟩
      rw [show Int.toNat (3 : Int) = 3 from rfl, subP_at (by omega)]
      refine emitRepeat16 H3 (by rw [putL_len (by simp; omega)]; omega) (by omega) (by omega) (by omega) (by omega) fun enc h6 q1 q2 q3 q4 => ?_
      have ep := putL_putL (M := M) (o := o) (L1 := [238, ((off % 256 : Nat) : Int), ((off / 2 ^ 8 % 256 : Nat) : Int)]) (L2 := enc) (by simp; omega)
      have ec : IntKind.wrap .i64 (3 + (enc.length : Int)) = (([238, ((off % 256 : Nat) : Int), ((off / 2 ^ 8 % 256 : Nat) : Int)] ++ enc).length : Nat) := by
        rw [w_i64 (by omega) (by omega)]; simp; omega
      rw [ec]
      refine hK ([238, ((off % 256 : Nat) : Int), ((off / 2 ^ 8 % 256 : Nat) : Int)] ++ enc) h6 _ (by simp; omega) ?_ (by rw [← ep]; exact q3) (((F1.trans F2).trans F3).trans q4) (by rfl) (by rfl) (by rfl) (by rfl) (by first | rfl | exact f3.symm) (by rfl) (by rfl) (by rfl)
      have := (copk2 (s2 := true) (o := off) (n := 60) ho (by omega) (by omega)).app q2
      rwa [show 60 + (len - 60) = len by omega] at this
  · rw [if_neg (by simpa using g1)]
    simp only [SS, M_Ls2.k92, M_Ls2.k93, M_Ls2.k94, M_Ls2.k95, M_Ls2.k96, M_Ls2.k97, M_Ls2.r117, M_Ls2.r118, M_Ls2.r119, M_Ls2.r120, M_Ls2.r121, M_Ls2.r122, M_Ls2.r123, M_Ls2.r124, f1, f2, f3]
    by_cases g : len ≥ 12 ∨ off ≥ 2048
    · obtain ⟨x0, x1, x2, hx⟩ := len3 (cut_len (M := M) (o := o) (k := 3) (by omega))
      rw [← putL_self (M := M) (o := o) (k := 3) (by omega), hx] at HB
      rw [(tag2 (n := len) (by omega) (by omega)).1, w_u8_div, w_u8_nat]
      by_cases g2 : (len : Int) ≥ 12
      · rw [if_neg (by simpa using g2), if_pos trivial]
        refine putS (j := 2) (i := 2) HB (by simp; omega) (by simp) rfl (by omega) fun h1 H1 F1 => ?_
        refine putS (j := 1) (i := 1) H1 (by simp; omega) (by simp) rfl (by omega) fun h2 H2 F2 => ?_
        refine putS (j := 0) (i := 0) H2 (by simp; omega) (by simp) rfl (by omega) fun h3 H3 F3 => ?_
        simp only [List.set_cons_zero, List.set_cons_succ] at H3
        exact hK _ h3 _ (by simp) (copk2 ho (by omega) (by omega)) H3 ((F1.trans F2).trans F3) (by rfl) (by rfl) (by rfl) (by rfl) (by first | rfl | exact f3.symm) (by rfl) (by rfl) (by rfl)
      · rw [if_pos (by simpa using g2), if_pos (by simp; omega)]
        refine putS (j := 2) (i := 2) HB (by simp; omega) (by simp) rfl (by omega) fun h1 H1 F1 => ?_
        refine putS (j := 1) (i := 1) H1 (by simp; omega) (by simp) rfl (by omega) fun h2 H2 F2 => ?_
        refine putS (j := 0) (i := 0) H2 (by simp; omega) (by simp) rfl (by omega) fun h3 H3 F3 => ?_
        simp only [List.set_cons_zero, List.set_cons_succ] at H3
        exact hK _ h3 _ (by simp) (copk2 ho (by omega) (by omega)) H3 ((F1.trans F2).trans F3) (by rfl) (by rfl) (by rfl) (by rfl) (by first | rfl | exact f3.symm) (by rfl) (by rfl) (by rfl)
    · rw [if_pos (by simp; omega), if_neg (by simp; omega)]
      obtain ⟨x0, x1, hx⟩ := len2 (cut_len (M := M) (o := o) (k := 2) (by omega))
      rw [← putL_self (M := M) (o := o) (k := 2) (by omega), hx] at HB
      rw [tag1' (by omega) hlen (by omega), w_u8_nat]
      refine putS (j := 1) (i := 1) HB (by simp; omega) (by simp) rfl (by omega) fun h1 H1 F1 => ?_
      refine putS (j := 0) (i := 0) H1 (by simp; omega) (by simp) rfl (by omega) fun h2 H2 F2 => ?_
      simp only [List.set_cons_zero, List.set_cons_succ] at H2
      exact hK _ h2 _ (by simp) (cop1 (by omega) hlen (by omega)) H2 (F1.trans F2) (by rfl) (by rfl) (by rfl) (by rfl) (by first | rfl | exact f3.symm) (by rfl) (by rfl) (by rfl)
end
end Go.Proofs.YtibleenkgmkpmaaDoor

set_option linter.unusedSimpArgs false
set_option linter.unusedVariables false
set_option linter.unusedSectionVars false
namespace Go.Proofs.YtibleenkgmkpmaaDoor
open Go Go.Vc Go.Ml Go.S2

section
variable {S : Sl} {l : List Int} {N db : Nat} {h0 : Heap} {M0 : List Int} {body out : List Int} {last : Nat} {st : M_Lc2.St} {h : Heap} {Q : Ex → M_Lc2.St → Heap → Prop}

set_option maxRecDepth 1000000 in
theorem cpyLc2 {off n k : Nat} (C : CvLc2 S N db h0 M0 body out last st h) (hM : M0.length = N) (hs : st.x_s = k) (hml : st.x_ml = n) (ho : st.x_offset = off) (h0' : 0 < off) (h1 : off ≤ out.length) (ho2 : off < 65536) (hn : 4 ≤ n) (hn2 : n ≤ 4194304) (hol : out.length ≤ 4194304) (hroom : body.length + 32 ≤ N) (hN2 : N < 2 ^ 30)
    (hK : ∀ st' h' body', CvLc2 S N db h0 M0 body' (fwd out off n) off st' h' → st'.x_s = k → body'.length ≤ body.length + 10 → Q .norm st' h') : M_Lc2.k44 st h Q := by
  simp only [SS, M_Lc2.k44, M_Lc2.k45, M_Lc2.k46, M_Lc2.k47, M_Lc2.k79, M_Lc2.k80, M_Lc2.k81, M_Lc2.r59, M_Lc2.r61, M_Lc2.r62, M_Lc2.r101, M_Lc2.r102, C.dst, C.d, C.lo, hml, ho]
  have hpl : (putL M0 0 body).length = N := by rw [putL_len (by omega)]; exact hM
  have fin : ∀ (enc : List Int) (h2 : Heap) (st2 : M_Lc2.St), enc.length ≤ 10 → Bts enc → SeqG true enc out last (fwd out off n) off → Blk h2 db ((putL (putL M0 0 body) body.length enc).map (Value.int .u8)) 5 → Fr (· = db) h h2 → st2.x_dst = ⟨some ⟨db, 0, none⟩, N, N⟩ → st2.x_src = S → st2.x_uncompressed = out.length → st2.x_dLimit = (N : Int) - 10 → st2.x_s = k → st2.x_ml = n → st2.x_lastOffset = off → st2.x_d = IntKind.wrap .i64 ((body.length : Int) + enc.length) → M_Lc2.k97 st2 h2 Q := by
    intro enc h2 st2 g0 g1 g2 g3 g4 g5 g6 g7 g8 g9 g10 g11 g12
    have ep := putL_putL (M := M0) (o := 0) (L1 := body) (L2 := enc) (by omega)
    rw [Nat.zero_add] at ep
    rw [ep] at g3
    have ed : IntKind.wrap .i64 ((body.length : Int) + (enc.length : Nat)) = ((body ++ enc).length : Nat) := by rw [w_i64 (by omega) (by omega)]; simp
    rw [ed] at g12
    simp only [SS, M_Lc2.k97, M_Lc2.k98, M_Lc2.r125, M_Lc2.r126, g7, g8, g10, g12]
    rw [if_neg (by rw [decide_eq_true_eq, List.length_append]; omega)]
    have eu : IntKind.wrap .i64 ((out.length : Int) + n) = ((fwd out off n).length : Nat) := by rw [w_i64 (by omega) (by omega), fwd_len]; omega
    refine hK _ h2 (body ++ enc) ⟨g5, g6, ?_, eu, ?_, g3, ?_, C.bb.app g1, C.fr.trans g4, g11⟩ g9 (by simp; omega)
    · simp only [g12]
    · simp only [g8]
    · exact C.goes.seq g2 (by rw [fwd_len]; omega)
  by_cases hoe : (off : Int) = last
  · rw [if_pos (by simp [hoe]), if_neg (by simp)]
    have hol' : off = last := by omega
    refine ⟨by omega, by omega, ?_⟩
    rw [Int.toNat_natCast, subP_at (by omega), Nat.zero_add]
    refine repLc2 (o := body.length) (n := N - body.length) (c := N - body.length) (len := n) (off := off) (by rfl) (by rfl) (by first | rfl | assumption) C.blk (by omega) (by omega) (by omega) (by omega) (by omega) fun enc h2 st2 q1 q2 q3 q4 t1 t2 t3 t4 t5 t6 t7 t8 t9 => ?_
    refine fin enc h2 st2 (by omega) q2.1 ?_ q3 q4 (t1.trans (by first | rfl | exact C.dst)) (t2.trans (by first | rfl | exact C.src)) (t6.trans (by first | rfl | exact C.u)) (t7.trans (by first | rfl | exact C.lim)) (t3.trans (by first | rfl | exact hs)) (t4.trans (by first | rfl | exact hml)) (t8.trans ?_) (t9.trans ?_)
    · rw [← hol']; exact q2.2.2 out h0' h1
    · first | exact C.lo.trans hoe.symm | exact hoe.symm | rfl
    · first | rfl | (rw [C.d]) | simp only
  · rw [if_neg (by simp [hoe]), if_neg (by simp)]
    refine ⟨by omega, by omega, ?_⟩
    rw [Int.toNat_natCast, subP_at (by omega), Nat.zero_add]
    refine copLc2 (o := body.length) (n := N - body.length) (c := N - body.length) (len := n) (off := off) (by rfl) (by rfl) (by first | rfl | assumption) C.blk (by omega) (by omega) (by omega) (by omega) (by omega) ho2 fun enc h2 st2 q1 q2 q3 q4 t1 t2 t3 t4 t5 t6 t7 t9 => ?_
    simp only [SS, M_Lc2.r124]
    refine fin enc h2 _ (by omega) q2.1 (q2.2.2 out last h0' h1) q3 q4 ?_ ?_ ?_ ?_ ?_ ?_ ?_ ?_
    · exact t1.trans (by first | rfl | exact C.dst)
    · exact t2.trans (by first | rfl | exact C.src)
    · exact t6.trans (by first | rfl | exact C.u)
    · exact t7.trans (by first | rfl | exact C.lim)
    · exact t3.trans (by first | rfl | exact hs)
    · exact t4.trans (by first | rfl | exact hml)
    · exact t5.trans (by first | rfl | exact ho)
    · exact t9.trans (by first | rfl | (rw [C.d]) | simp only)
end

section
variable {S : Sl} {l : List Int} {N db : Nat} {h : Heap} {K : Sl → Int → Value → Heap → Prop}

set_option maxRecDepth 1000000 in
set_option maxHeartbeats 1000000 in
theorem convLc2 {p : Option Addr} {res : List Int} (HB : Blk h db ((List.replicate N (0 : Int)).map (Value.int .u8)) 5) (hS : SlI h .u8 S l) (hne : ∀ a, 0 < S.n → S.p = some a → a.block ≠ db) (hb : Bts l) (hl : l.length ≤ 65536) (hN : N = 16 * l.length + 64) (hZ : Z false l 0 [] = some res)
    (hK : ∀ body last h', Blk h' db ((putL (List.replicate N 0) 0 body).map (Value.int .u8)) 5 → GoesG true body res last → Bts body → body.length ≤ 16 * l.length + 16 → Fr (· = db) h h' → K ⟨some ⟨db, 0, none⟩, body.length, N⟩ res.length .nilIface h') : c_Lc2 p ⟨some ⟨db, 0, none⟩, 0, N⟩ S h K := by
  have hsl := hS.len
  have hl0 := (Z_step hb hZ).1
  apply M_Lc2.calls
  simp only [SS, M_Lc2.stm, M_Lc2.init, M_Lc2.k0, M_Lc2.k1, M_Lc2.k2, M_Lc2.k3, M_Lc2.k10, M_Lc2.k11, M_Lc2.k12, M_Lc2.r0, M_Lc2.r1, M_Lc2.r3, M_Lc2.r4, M_Lc2.r5, M_Lc2.r17, M_Lc2.r18, M_Lc2.r19, M_Lc2.k13]
  rw [if_neg (by simp; omega)]
  refine ⟨by omega, by omega, ?_⟩
  rw [if_neg (by simp), subP0]
  have eN : IntKind.wrap .i64 (((Int.toNat ((N : Nat) : Int) - 0 : Nat) : Int) - 10) = (N : Int) - 10 := by rw [Int.toNat_natCast, Nat.sub_zero, w_i64 (by omega) (by omega)]
  rw [eN, Int.toNat_natCast, Nat.sub_zero]
  refine loop_rule (I := fun s' h' => ∃ (i : Nat) (out body : List Int) (last : Nat), CvLc2 S N db h (List.replicate N 0) body out last s' h' ∧ s'.x_s = i ∧ Z false l i out = some res ∧ body.length ≤ 16 * i ∧ out.length ≤ 4194304) (μ := fun s' _ => (l.length - s'.x_s).toNat) ?_ ?_
  · exact ⟨0, [], [], 0, ⟨rfl, rfl, rfl, rfl, rfl, HB, GoesG.nil, fun x hx => by (cases hx), Fr.refl _ _, rfl⟩, rfl, hZ, by simp, by simp⟩
  · rintro s' h' ⟨i, out, body, last, C, hs, hZi, hbl, hol⟩
    obtain ⟨hi, m, j, hzl, hjm, hij, hor⟩ := Z_step hb hZi
    simp only [SS, M_Lc2.k14, M_Lc2.r20, C.src, hs]
    rw [if_neg (by simp; omega)]
    have hv := hb.getD i
    refine headLc2 C hS hne hb (by omega) hs hi hzl fun s2 C2 d1 d2 d3 => ?_
    have hzle := zlen_le hb hzl (by omega)
    refine litLc2 C2 hS hne hb (by omega) hN (by simp) d1 d2 d3 (by omega) hjm (by omega) (by omega) fun s3 h3 body3 C3 d4 d5 d6 => ?_
    rcases hor with ⟨q1, q2, q3⟩ | ⟨q1, q2, off, n, k, q3, q4, q5, q6, q7, q8, q9⟩
    · -- the end
      simp only [SS, M_Lc2.k30, M_Lc2.r41, M_Lc2.r128, M_Lc2.res, C3.src, C3.d, C3.dst, C3.u, d4, d5]
      rw [if_pos (by simp; omega), if_pos (by rw [q2]; rfl)]
      refine ⟨by omega, by omega, ?_⟩
      rw [subP0, Int.toNat_natCast, Nat.sub_zero, Nat.sub_zero, ← q3]
      exact hK body3 last h3 C3.blk (q3 ▸ C3.goes) C3.bb (by omega) C3.fr
    · have hol3 : (out ++ (l.drop j).take m).length = out.length + m := by simp; omega
      have hk := (Z_step hb q8).1
      refine offLc2 C3 hS hne hb (by omega) d4 d5 (by omega) q2 q3 q4 (by omega) (by omega) q6 hk fun s4 h4 C4 d7 d8 d9 => ?_
      have hzm := zlen_le hb q6 (by have := leAt_le q3; omega)
      have h4' : zleast false ≤ 4 := by decide
      have h4'' : 1 ≤ zleast false := by decide
      have hoff3 : off < 65536 := by
        have h1 := leN_lt ((l.drop (j + m)).take 2) (hb.sub (j + m) 2)
        have h2 : ((l.drop (j + m)).take 2).length ≤ 2 := by simp; omega
        have h3 : 256 ^ ((l.drop (j + m)).take 2).length ≤ 256 ^ 2 := Nat.pow_le_pow_right (by decide) h2
        unfold leAt at q3
        split at q3
        · obtain rfl := Option.some.inj q3
          omega
        · cases q3
      refine cpyLc2 C4 (by simp) d7 d8 d9 q4 (by omega) hoff3 ?_ (by omega) (by omega) (by omega) (by omega) fun s5 h5 body5 C5 d10 d11 => ?_
      · have : zleast false = 4 := rfl; omega
      refine ⟨⟨k, _, body5, off, C5, d10, q8, by omega, by rw [fwd_len]; omega⟩, ?_⟩
      simp only [d10]
      omega
end

section
variable {S : Sl} {l : List Int} {N db : Nat} {h0 : Heap} {M0 : List Int} {body out : List Int} {last : Nat} {st : M_Ls2.St} {h : Heap} {Q : Ex → M_Ls2.St → Heap → Prop}

set_option maxRecDepth 1000000 in
theorem cpyLs2 {off n k : Nat} (C : CvLs2 S N db h0 M0 body out last st h) (hM : M0.length = N) (hs : st.x_s = k) (hml : st.x_ml = n) (ho : st.x_offset = off) (h0' : 0 < off) (h1 : off ≤ out.length) (ho2 : off < 65536) (hn : 4 ≤ n) (hn2 : n ≤ 4194304) (hol : out.length ≤ 4194304) (hroom : body.length + 32 ≤ N) (hN2 : N < 2 ^ 30)
    (hK : ∀ st' h' body', CvLs2 S N db h0 M0 body' (fwd out off n) off st' h' → st'.x_s = k → body'.length ≤ body.length + 10 → Q .norm st' h') : M_Ls2.k45 st h Q := by
  simp only [SS, M_Ls2.k45, M_Ls2.k46, M_Ls2.k47, M_Ls2.k48, M_Ls2.k80, M_Ls2.k81, M_Ls2.k82, M_Ls2.r60, M_Ls2.r62, M_Ls2.r63, M_Ls2.r102, M_Ls2.r103, C.dst, C.d, C.lo, hml, ho]
  have hpl : (putL M0 0 body).length = N := by rw [putL_len (by omega)]; exact hM
  have fin : ∀ (enc : List Int) (h2 : Heap) (st2 : M_Ls2.St), enc.length ≤ 10 → Bts enc → SeqG true enc out last (fwd out off n) off → Blk h2 db ((putL (putL M0 0 body) body.length enc).map (Value.int .u8)) 5 → Fr (· = db) h h2 → st2.x_dst = ⟨some ⟨db, 0, none⟩, N, N⟩ → st2.x_src = S → st2.x_uncompressed = out.length → st2.x_dLimit = (N : Int) - 10 → st2.x_s = k → st2.x_ml = n → st2.x_lastOffset = off → st2.x_d = IntKind.wrap .i64 ((body.length : Int) + enc.length) → M_Ls2.k98 st2 h2 Q := by
    intro enc h2 st2 g0 g1 g2 g3 g4 g5 g6 g7 g8 g9 g10 g11 g12
    have ep := putL_putL (M := M0) (o := 0) (L1 := body) (L2 := enc) (by omega)
    rw [Nat.zero_add] at ep
    rw [ep] at g3
    have ed : IntKind.wrap .i64 ((body.length : Int) + (enc.length : Nat)) = ((body ++ enc).length : Nat) := by rw [w_i64 (by omega) (by omega)]; simp
    rw [ed] at g12
    simp only [SS, M_Ls2.k98, M_Ls2.k99, M_Ls2.r126, M_Ls2.r127, g7, g8, g10, g12]
    rw [if_neg (by rw [decide_eq_true_eq, List.length_append]; omega)]
    have eu : IntKind.wrap .i64 ((out.length : Int) + n) = ((fwd out off n).length : Nat) := by rw [w_i64 (by omega) (by omega), fwd_len]; omega
    refine hK _ h2 (body ++ enc) ⟨g5, g6, ?_, eu, ?_, g3, ?_, C.bb.app g1, C.fr.trans g4, g11⟩ g9 (by simp; omega)
    · simp only [g12]
    · simp only [g8]
    · exact C.goes.seq g2 (by rw [fwd_len]; omega)
  by_cases hoe : (off : Int) = last
  · rw [if_pos (by simp [hoe]), if_neg (by simp)]
    have hol' : off = last := by omega
    refine ⟨by omega, by omega, ?_⟩
    rw [Int.toNat_natCast, subP_at (by omega), Nat.zero_add]
    refine repLs2 (o := body.length) (n := N - body.length) (c := N - body.length) (len := n) (off := off) (by rfl) (by rfl) (by first | rfl | assumption) C.blk (by omega) (by omega) (by omega) (by omega) (by omega) fun enc h2 st2 q1 q2 q3 q4 t1 t2 t3 t4 t5 t6 t7 t8 t9 => ?_
    refine fin enc h2 st2 (by omega) q2.1 ?_ q3 q4 (t1.trans (by first | rfl | exact C.dst)) (t2.trans (by first | rfl | exact C.src)) (t6.trans (by first | rfl | exact C.u)) (t7.trans (by first | rfl | exact C.lim)) (t3.trans (by first | rfl | exact hs)) (t4.trans (by first | rfl | exact hml)) (t8.trans ?_) (t9.trans ?_)
    · rw [← hol']; exact q2.2.2 out h0' h1
    · first | exact C.lo.trans hoe.symm | exact hoe.symm | rfl
    · first | rfl | (rw [C.d]) | simp only
  · rw [if_neg (by simp [hoe]), if_neg (by simp)]
    refine ⟨by omega, by omega, ?_⟩
    rw [Int.toNat_natCast, subP_at (by omega), Nat.zero_add]
    refine copLs2 (o := body.length) (n := N - body.length) (c := N - body.length) (len := n) (off := off) (by rfl) (by rfl) (by first | rfl | assumption) C.blk (by omega) (by omega) (by omega) (by omega) (by omega) ho2 fun enc h2 st2 q1 q2 q3 q4 t1 t2 t3 t4 t5 t6 t7 t9 => ?_
    simp only [SS, M_Ls2.r125]
    refine fin enc h2 _ (by omega) q2.1 (q2.2.2 out last h0' h1) q3 q4 ?_ ?_ ?_ ?_ ?_ ?_ ?_ ?_
    · exact t1.trans (by first | rfl | exact C.dst)
    · exact t2.trans (by first | rfl | exact C.src)
    · exact t6.trans (by first | rfl | exact C.u)
    · exact t7.trans (by first | rfl | exact C.lim)
    · exact t3.trans (by first | rfl | exact hs)
    · exact t4.trans (by first | rfl | exact hml)
    · exact t5.trans (by first | rfl | exact ho)
    · exact t9.trans (by first | rfl | (rw [C.d]) | simp only)
end

section
variable {S : Sl} {l : List Int} {N db : Nat} {h : Heap} {K : Sl → Int → Value → Heap → Prop}

set_option maxRecDepth 1000000 in
set_option maxHeartbeats 1000000 in
theorem convLs2 {p : Option Addr} {res : List Int} (HB : Blk h db ((List.replicate N (0 : Int)).map (Value.int .u8)) 5) (hS : SlI h .u8 S l) (hne : ∀ a, 0 < S.n → S.p = some a → a.block ≠ db) (hb : Bts l) (hl : l.length ≤ 65536) (hN : N = 16 * l.length + 64) (hZ : Z true l 0 [] = some res)
    (hK : ∀ body last h', Blk h' db ((putL (List.replicate N 0) 0 body).map (Value.int .u8)) 5 → GoesG true body res last → Bts body → body.length ≤ 16 * l.length + 16 → Fr (· = db) h h' → K ⟨some ⟨db, 0, none⟩, body.length, N⟩ res.length .nilIface h') : c_Ls2 p ⟨some ⟨db, 0, none⟩, 0, N⟩ S h K := by
  have hsl := hS.len
  have hl0 := (Z_step hb hZ).1
  apply M_Ls2.calls
  simp only [SS, M_Ls2.stm, M_Ls2.init, M_Ls2.k0, M_Ls2.k1, M_Ls2.k2, M_Ls2.k3, M_Ls2.k10, M_Ls2.k11, M_Ls2.k12, M_Ls2.r0, M_Ls2.r1, M_Ls2.r3, M_Ls2.r4, M_Ls2.r5, M_Ls2.r17, M_Ls2.r18, M_Ls2.r19, M_Ls2.k13]
  rw [if_neg (by simp; omega)]
  refine ⟨by omega, by omega, ?_⟩
  rw [if_neg (by simp), subP0]
  have eN : IntKind.wrap .i64 (((Int.toNat ((N : Nat) : Int) - 0 : Nat) : Int) - 10) = (N : Int) - 10 := by rw [Int.toNat_natCast, Nat.sub_zero, w_i64 (by omega) (by omega)]
  rw [eN, Int.toNat_natCast, Nat.sub_zero]
  refine loop_rule (I := fun s' h' => ∃ (i : Nat) (out body : List Int) (last : Nat), CvLs2 S N db h (List.replicate N 0) body out last s' h' ∧ s'.x_s = i ∧ Z true l i out = some res ∧ body.length ≤ 16 * i ∧ out.length ≤ 4194304) (μ := fun s' _ => (l.length - s'.x_s).toNat) ?_ ?_
  · exact ⟨0, [], [], 0, ⟨rfl, rfl, rfl, rfl, rfl, HB, GoesG.nil, fun x hx => by (cases hx), Fr.refl _ _, rfl⟩, rfl, hZ, by simp, by simp⟩
  · rintro s' h' ⟨i, out, body, last, C, hs, hZi, hbl, hol⟩
    obtain ⟨hi, m, j, hzl, hjm, hij, hor⟩ := Z_step hb hZi
    simp only [SS, M_Ls2.k14, M_Ls2.r20, C.src, hs]
    rw [if_neg (by simp; omega)]
    have hv := hb.getD i
    refine headLs2 C hS hne hb (by omega) hs hi hzl fun s2 C2 d1 d2 d3 => ?_
    have hzle := zlen_le hb hzl (by omega)
    refine litLs2 C2 hS hne hb (by omega) hN (by simp) d1 d2 d3 (by omega) hjm (by omega) (by omega) fun s3 h3 body3 C3 d4 d5 d6 => ?_
    rcases hor with ⟨q1, q2, q3⟩ | ⟨q1, q2, off, n, k, q3, q4, q5, q6, q7, q8, q9⟩
    · -- the end
      simp only [SS, M_Ls2.k30, M_Ls2.r41, M_Ls2.k32, M_Ls2.k31, M_Ls2.r42, M_Ls2.r129, M_Ls2.res, C3.src, C3.d, C3.dst, C3.u, d4, d5]
      rw [if_pos (by rw [q2]; rfl), if_pos (by simp; omega)]
      refine ⟨by omega, by omega, ?_⟩
      rw [subP0, Int.toNat_natCast, Nat.sub_zero, Nat.sub_zero, ← q3]
      exact hK body3 last h3 C3.blk (q3 ▸ C3.goes) C3.bb (by omega) C3.fr
    · have hol3 : (out ++ (l.drop j).take m).length = out.length + m := by simp; omega
      have hk := (Z_step hb q8).1
      refine offLs2 C3 hS hne hb (by omega) d4 d5 (by omega) q2 q3 q4 (by omega) (by omega) q6 hk fun s4 h4 C4 d7 d8 d9 => ?_
      have hzm := zlen_le hb q6 (by have := leAt_le q3; omega)
      have h4' : zleast true ≤ 4 := by decide
      have h4'' : 1 ≤ zleast true := by decide
      have hoff3 : off < 65536 := by
        have h1 := leN_lt ((l.drop (j + m)).take 2) (hb.sub (j + m) 2)
        have h2 : ((l.drop (j + m)).take 2).length ≤ 2 := by simp; omega
        have h3 : 256 ^ ((l.drop (j + m)).take 2).length ≤ 256 ^ 2 := Nat.pow_le_pow_right (by decide) h2
        unfold leAt at q3
        split at q3
        · obtain rfl := Option.some.inj q3
          omega
        · cases q3
      refine cpyLs2 C4 (by simp) d7 d8 d9 q4 (by omega) hoff3 ?_ (by omega) (by omega) (by omega) (by omega) fun s5 h5 body5 C5 d10 d11 => ?_
      · have : zleast true = 3 := rfl; have : (l.getD i 0).toNat % 16 ≠ 0 := (fun h => q2 ⟨rfl, h⟩); omega
      refine ⟨⟨k, _, body5, off, C5, d10, q8, by omega, by rw [fwd_len]; omega⟩, ?_⟩
      simp only [d10]
      omega
end
end Go.Proofs.YtibleenkgmkpmaaDoor
