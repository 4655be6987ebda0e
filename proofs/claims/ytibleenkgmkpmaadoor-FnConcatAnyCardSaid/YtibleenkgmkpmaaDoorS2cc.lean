/- A part of the proof. -/
import Derived.Test.YtibleenkgmkpmaaDoorS2cb
set_option linter.unusedSimpArgs false
set_option linter.unusedVariables false
set_option linter.unusedSectionVars false
namespace Go.Proofs.YtibleenkgmkpmaaDoor
open Go Go.Vc Go.Ml Go.S2

/-- What blocks stand for. -/
def outs : List (Bl × List Int) → List Int
  | [] => []
  | x :: r => x.2 ++ outs r
theorem outs_app : ∀ (a b : List (Bl × List Int)), outs (a ++ b) = outs a ++ outs b
  | [], b => by simp [outs]
  | x :: a, b => by simp [outs, outs_app a b]

/-- Blocks that go, one behind the other. -/
theorem goes_cat : ∀ (l : List (Bl × List Int)), (∀ x ∈ l, ∃ last, Goes x.1.body x.2 last) → ∃ last, Goes (cat (l.map (·.1))) (outs l) last
  | [], _ => ⟨0, Goes.nil⟩
  | x :: r, h => by
    obtain ⟨l1, h1⟩ := h x List.mem_cons_self
    obtain ⟨l2, h2⟩ := goes_cat r (fun y hy => h y (List.mem_cons_of_mem _ hy))
    exact ⟨_, h1.cat h2⟩
theorem outs_len : ∀ (l : List (Bl × List Int)), (∀ x ∈ l, x.1.n = x.2.length) → (outs l).length = sumN (l.map (·.1))
  | [], _ => rfl
  | x :: r, h => by
    have h1 := h x List.mem_cons_self
    have h2 := outs_len r (fun y hy => h y (List.mem_cons_of_mem _ hy))
    simp [outs, sumN, h1, h2]
theorem outs_bts : ∀ (l : List (Bl × List Int)), (∀ x ∈ l, Bts x.2) → Bts (outs l)
  | [], _ => fun x hx => by cases hx
  | x :: r, h => (h x List.mem_cons_self).app (outs_bts r (fun y hy => h y (List.mem_cons_of_mem _ hy)))
theorem cat_bts : ∀ (l : List Bl), (∀ x ∈ l, Bts x.body) → Bts (cat l)
  | [], _ => fun x hx => by cases hx
  | x :: r, h => (h x List.mem_cons_self).app (cat_bts r (fun y hy => h y (List.mem_cons_of_mem _ hy)))
theorem sumB_le : ∀ (l : List Bl) (m : Nat), (∀ x ∈ l, x.body.length ≤ m) → sumB l ≤ l.length * m
  | [], _, _ => by simp [sumB]
  | x :: r, m, h => by
    have h1 := h x List.mem_cons_self
    have h2 := sumB_le r m (fun y hy => h y (List.mem_cons_of_mem _ hy))
    simp only [sumB, List.length_cons, Nat.add_mul, Nat.one_mul]
    omega

theorem said_zero : said [0] = some [] := by
  have hd : dlen [0] = some (0, 1) := by decide
  unfold said
  rw [hd]
  simp only
  rw [dec_stop (by simp)]
  rfl

theorem sl_newV (h : Heap) (l : List Value) (e : TypeId) : SlV (hnew h l e) ⟨some ⟨h.size, 0, none⟩, l.length, l.length⟩ l :=
  ⟨rfl, Nat.le_refl _, fun _ => ⟨h.size, 0, rfl, fun i hi => by rw [Nat.zero_add, (Blk.new h l e).cell]⟩⟩

/-- impl.S2Concat, of blocks that go. -/
theorem implConcat {h : Heap} {S : Sl} {bs : List Bl} (H : Bls h.size h S bs) (hn : bs.length ≤ 100) (hsN : sumN bs < 2 ^ 30) (hsB : sumB bs < 2 ^ 30) {E : Value} (hE : hcell h ⟨0, 0, none⟩ = some E) (hB0 : 0 < h.size)
    {K : Sl → Bool → Heap → Prop} (hK : ∀ s h' l, Own h.size h' .u8 5 s l → (sumN bs = 0 → l = [0]) → (0 < sumN bs → l = varB 10 (sumN bs) ++ cat bs) → Old h h' → K s true h') : c_impl_S2Concat ⟨none, 0, 0⟩ S h K := by
  apply M_impl_S2Concat.calls
  simp only [st_reg, st_ret, st_exit, st_skip, st_test, st_block, st_cond, sq_reg, sq_ret, sq_exit, sq_skip, sq_test, sq_cond, sq_block, sq_seq, sq_loop, SK_norm, SK_exit, SK_ret, BK_norm, BK_ret, BK_same, BK_exit, LK_norm, LK_exit, LK_ret, endK_norm, endK_ret, M_impl_S2Concat.stm, M_impl_S2Concat.r0, M_impl_S2Concat.r1, M_impl_S2Concat.init, M_impl_S2Concat.res]
  refine copiedS (l := []) ⟨rfl, Nat.le_refl _, fun h0 => by simp at h0⟩ (by simp) fun sl h1 HO o1 => ?_
  have s1 := o1.size
  have told : ∀ (s : Sl) (h2 : Heap) (l : List Int), Own h.size h2 .u8 5 s l → l.length < 2 ^ 36 → (sumN bs = 0 → l = [0]) → (0 < sumN bs → l = varB 10 (sumN bs) ++ cat bs) → Keep h.size h1 h2 → c_impl_told s .nilIface h2 fun w b h => K w b h := by
    intro s h2 l HO2 hll g0 g1 k2
    have s2 := k2.size
    apply M_impl_told.calls
    simp only [st_reg, st_ret, st_exit, st_skip, st_test, st_block, st_cond, sq_reg, sq_ret, sq_exit, sq_skip, sq_test, sq_cond, sq_block, sq_seq, sq_loop, SK_norm, SK_exit, SK_ret, BK_norm, BK_ret, BK_same, BK_exit, LK_norm, LK_exit, LK_ret, endK_norm, endK_ret, M_impl_told.stm, M_impl_told.k0, M_impl_told.init, M_impl_told.res, M_impl_told.r0, M_impl_told.r1, M_impl_told.r2, M_impl_told.r3, nilE, isNilI]
    rw [if_neg (by simp)]
    refine copiedS HO2.sl hll fun s3 h3 HO3 o3 => ?_
    exact hK s3 h3 l (HO3.mono (by omega)) g0 g1 (Keep.old ((Keep.of_old o1).trans (k2.trans (Keep.of_old o3))))
  refine ConcatBlocks s1 hB0 HO (H.keep (Keep.of_old o1)) hn hsN hsB (E := E) ((Keep.of_old (B := h.size) o1).cell (by simp only; omega) hE) ?_ ?_
  · intro hz s h2 HO2 k2
    exact told s h2 [0] HO2 (by simp) (fun _ => rfl) (fun h => by omega) k2
  · intro hp s h2 HO2 k2
    have := varB_len 10 (sumN bs)
    exact told s h2 _ HO2 (by simp [cat_len]; omega) (fun h => by omega) (fun _ => rfl) k2

set_option maxRecDepth 10000 in
set_option maxHeartbeats 1600000 in
theorem law_ConcatAny {h : Heap} {S : Sl} {pss : List (Sl × List Pc)} {rep : Bool} (H : Pcss h.size h S pss) {E : Value} (hE : hcell h ⟨0, 0, none⟩ = some E) (hnE : isNilI E = some false) : c_laws_FnConcatAny S rep h fun b h' => b = true ∧ Old h h' := by
  have hl := H.len
  have hB0 : 0 < h.size := by
    rcases Nat.eq_zero_or_pos h.size with h1 | h1
    · unfold hcell at hE
      rw [Array.getElem?_eq_none (by omega)] at hE
      cases hE
    · exact h1
  apply M_laws_FnConcatAny.calls
  simp only [st_reg, st_ret, st_exit, st_skip, st_test, st_block, st_cond, sq_reg, sq_ret, sq_exit, sq_skip, sq_test, sq_cond, sq_block, sq_seq, sq_loop, SK_norm, SK_exit, SK_ret, BK_norm, BK_ret, BK_same, BK_exit, LK_norm, LK_exit, LK_ret, endK_norm, endK_ret, M_laws_FnConcatAny.stm, M_laws_FnConcatAny.init, M_laws_FnConcatAny.k0, M_laws_FnConcatAny.k1, M_laws_FnConcatAny.r0, M_laws_FnConcatAny.r1, M_laws_FnConcatAny.r2, M_laws_FnConcatAny.r3, M_laws_FnConcatAny.r4, M_laws_FnConcatAny.res]
  refine zzFits3 H (Nat.le_refl _) fun b h1 hb1 k1 => ?_
  cases b with
  | false => rw [if_pos (by simp)]; exact ⟨trivial, Keep.old k1⟩
  | true =>
  rw [if_neg (by simp)]
  by_cases c1 : ((S.n : Nat) : Int) < 1
  · rw [if_neg (by simp; omega), if_pos trivial]; exact ⟨trivial, Keep.old k1⟩
  rw [if_pos (by simp; omega)]
  by_cases c2 : ((S.n : Nat) : Int) > 8
  · rw [if_pos (by simpa using c2)]; exact ⟨trivial, Keep.old k1⟩
  rw [if_neg (by simpa using c2)]
  simp only [st_reg, st_ret, st_exit, st_skip, st_test, st_block, st_cond, sq_reg, sq_ret, sq_exit, sq_skip, sq_test, sq_cond, sq_block, sq_seq, sq_loop, SK_norm, SK_exit, SK_ret, BK_norm, BK_ret, BK_same, BK_exit, LK_norm, LK_exit, LK_ret, endK_norm, endK_ret, M_laws_FnConcatAny.k2, M_laws_FnConcatAny.k3, M_laws_FnConcatAny.k4, M_laws_FnConcatAny.k5, M_laws_FnConcatAny.r5, M_laws_FnConcatAny.r6, M_laws_FnConcatAny.r7]
  refine loop_rule (I := fun s' h' => s'.x_repeats = rep ∧ s'.t25 = S ∧ s'.t26 = pss.length ∧ ∃ (i : Nat) (bs : List (Bl × List Int)), s'.t27 = i ∧ i ≤ pss.length ∧ bs.length = i ∧ Keep h.size h h' ∧
    OwnV h.size h' 22 s'.x_blocks (bs.map fun x => .slice x.1.s.p x.1.s.n x.1.s.c) ∧ Own h.size h' .u8 5 s'.x_all (outs bs) ∧ (∀ b, s'.x_blocks.p = some ⟨b, 0, none⟩ → s'.x_all.p ≠ some ⟨b, 0, none⟩) ∧
    ∀ x ∈ bs, SlI h' .u8 x.1.s x.1.bytes ∧ Bts x.1.body ∧ Bts x.2 ∧ x.1.n = x.2.length ∧ x.1.body.length ≤ 24000 ∧ x.2.length ≤ 3960000 ∧ (∃ last, Goes x.1.body x.2 last) ∧ (∀ a, x.1.s.p = some a → a.block < h'.size) ∧
      (∀ b, s'.x_blocks.p = some ⟨b, 0, none⟩ → ∀ a, x.1.s.p = some a → a.block ≠ b) ∧ (∀ b, s'.x_all.p = some ⟨b, 0, none⟩ → ∀ a, x.1.s.p = some a → a.block ≠ b)) (μ := fun s' _ => (pss.length - s'.t27).toNat) ?_ ?_
  · exact ⟨rfl, rfl, by rw [← hl], 0, [], rfl, by omega, rfl, k1, OwnV.nil _ _ _, Own.nil _ _ _ _, fun b hb => (by cases hb), fun x hx => (by cases hx)⟩
  · rintro s' h' ⟨e0, e1, e2, i, bs, e3, hi, hbl, hk, HV, HO, hne, hall⟩
    have hs := hk.size
    simp only [st_reg, st_ret, st_exit, st_skip, st_test, st_block, st_cond, sq_reg, sq_ret, sq_exit, sq_skip, sq_test, sq_cond, sq_block, sq_seq, sq_loop, SK_norm, SK_exit, SK_ret, BK_norm, BK_ret, BK_same, BK_exit, LK_norm, LK_exit, LK_ret, endK_norm, endK_ret, M_laws_FnConcatAny.k6, M_laws_FnConcatAny.k7, M_laws_FnConcatAny.r8, e0, e1, e2, e3]
    by_cases hc : (i : Int) < pss.length
    · rw [if_pos (by simpa using hc)]
      simp only [st_reg, st_ret, st_exit, st_skip, st_test, st_block, st_cond, sq_reg, sq_ret, sq_exit, sq_skip, sq_test, sq_cond, sq_block, sq_seq, sq_loop, SK_norm, SK_exit, SK_ret, BK_norm, BK_ret, BK_same, BK_exit, LK_norm, LK_exit, LK_ret, endK_norm, endK_ret, M_laws_FnConcatAny.k8, M_laws_FnConcatAny.r9, e0, e1, e2, e3]
      refine (H.keep hk).ld (i := i) (by omega) fun P => ?_
      simp only [st_reg, st_ret, st_exit, st_skip, st_test, st_block, st_cond, sq_reg, sq_ret, sq_exit, sq_skip, sq_test, sq_cond, sq_block, sq_seq, sq_loop, SK_norm, SK_exit, SK_ret, BK_norm, BK_ret, BK_same, BK_exit, LK_norm, LK_exit, LK_ret, endK_norm, endK_ret, M_laws_FnConcatAny.k9, M_laws_FnConcatAny.r10, M_laws_FnConcatAny.r11, M_laws_FnConcatAny.res, e0, e1, e2, e3]
      refine pieces (P.mono hs) (Nat.le_refl _) ((hb1 rfl).2 _ (List.getElem_mem _)) fun b h2 hb2 k2 => ?_
      have o2 : Old h' h2 := Keep.old k2
      have hk2 := hk.trans (Keep.of_old o2)
      cases b with
      | false => rw [if_pos (by simp)]; exact ⟨trivial, Keep.old hk2⟩
      | true =>
      rw [if_neg (by simp)]
      simp only [st_reg, st_ret, st_exit, st_skip, st_test, st_block, st_cond, sq_reg, sq_ret, sq_exit, sq_skip, sq_test, sq_cond, sq_block, sq_seq, sq_loop, SK_norm, SK_exit, SK_ret, BK_norm, BK_ret, BK_same, BK_exit, LK_norm, LK_exit, LK_ret, endK_norm, endK_ret, M_laws_FnConcatAny.k10, M_laws_FnConcatAny.r12, e0, e1, e2, e3]
      have hs2 := o2.size
      refine S2Write (B := h2.size) ((P.keep (Keep.of_old o2)).mono (by omega)) (Nat.le_refl _) (hb2 rfl).1 (hb2 rfl).2 fun sb so body out h3 W k3 => ?_
      have o3 : Old h2 h3 := Keep.old k3
      have hs3 := o3.size
      have o23 := o2.trans o3
      have o4 := Old.new h3 [.slice sb.p sb.n sb.c] 22
      simp only [M_laws_FnConcatAny.r13, M_laws_FnConcatAny.r14, M_laws_FnConcatAny.r15, withH_eq, ptrE_some, add_mk, Nat.zero_add, Nat.add_zero]
      have hsn := sl_newV h3 [.slice sb.p sb.n sb.c] 22
      generalize hnew h3 [.slice sb.p sb.n sb.c] 22 = h4 at *
      have hs4 := o4.size
      have hVn := HV.len
      rw [List.length_map] at hVn
      have hon := HO.len
      have hBl := sumB_le
      have hsmall : (outs bs).length ≤ 31680000 := by
        have : ∀ (l : List (Bl × List Int)), (∀ x ∈ l, x.2.length ≤ 3960000) → (outs l).length ≤ l.length * 3960000 := by
          intro l
          induction l with
          | nil => intro _; simp [outs]
          | cons x r ih =>
            intro hx
            have h1 := hx x List.mem_cons_self
            have h2 := ih (fun y hy => hx y (List.mem_cons_of_mem _ hy))
            simp only [outs, List.length_append, List.length_cons, Nat.add_mul, Nat.one_mul]
            omega
        have := this bs (fun x hx => (hall x hx).2.2.2.2.2.1)
        trace_state; omega
      refine append_ownV (news := [.slice sb.p sb.n sb.c]) (HV.old (o23.trans o4)) ts22 tb22 z22 rfl (fun v hv => by obtain rfl := List.mem_singleton.1 hv; rfl) (srcV hsn) (by omega) (by omega) fun pb cb h5 HV5 HF5 HW5 => ?_
      have hs5 := HF5.size
      have hso := W.o.len
      have HO5 : Own h.size h5 .u8 5 s'.x_all (outs bs) := (HO.old (o23.trans o4)).fr HF5 (fun b hb hp => hne b hp hb)
      have W5 : SlI h5 .u8 so out := SlI.fr (W.o.ext o4.ext) HF5 (fun a h0 ha hp => by
        have := (W.newo a ha).1
        have := HV.lt hp
        omega)
      have hlo := W.lo
      refine append_own (s := s'.x_all) (news := out) HO5 ts5 tb5 z5 hso.symm ?_ (by omega) (by omega) fun pa ca h6 HO6 HF6 HW6 => ?_
      · have := src_sl W5 (m := so.n) (Nat.le_refl _) (n := so.n) (c := so.c)
        rwa [List.take_of_length_le (by omega)] at this
      have hs6 := HF6.size
      simp (disch := omega) only [w_i64, w_u64, w_i32, w_u32, w_u16, w_u8, w_i16, Nat.reducePow]
      have bnew : ∀ b, pb = some ⟨b, 0, none⟩ → s'.x_blocks.p = some ⟨b, 0, none⟩ ∨ h4.size ≤ b := HW5
      have anew : ∀ b, pa = some ⟨b, 0, none⟩ → s'.x_all.p = some ⟨b, 0, none⟩ ∨ h5.size ≤ b := HW6
      have apart : ∀ (a : Addr), a.block < h3.size → (∀ b, s'.x_blocks.p = some ⟨b, 0, none⟩ → a.block ≠ b) → (∀ b, s'.x_all.p = some ⟨b, 0, none⟩ → a.block ≠ b) →
          (∀ b, pb = some ⟨b, 0, none⟩ → a.block ≠ b) ∧ (∀ b, pa = some ⟨b, 0, none⟩ → a.block ≠ b) := by
        intro a ha g1 g2
        refine ⟨fun b hb => ?_, fun b hb => ?_⟩
        · rcases bnew b hb with h | h
          · exact g1 b h
          · omega
        · rcases anew b hb with h | h
          · exact g2 b h
          · omega
      have kk : Keep h.size h h6 := (hk.trans (Keep.of_old (o23.trans o4))).trans (((HF5.mono fun x _ hx => HV.ge hx) : Keep h.size h4 h5).trans (HO5.keep HF6))
      refine ⟨⟨trivial, trivial, trivial, i + 1, bs ++ [(⟨sb, out.length, body⟩, out)], by omega, by omega, by simp [hbl], kk, ?_, ?_, ?_, ?_⟩, by omega⟩
      · rw [List.map_append]
        refine HV5.fr HF6 (fun b hb hp => ?_)
        rcases bnew b hb with h | h
        · exact hne b h hp
        · have := HO.lt hp
          omega
      · rw [outs_app]
        simpa [outs] using HO6
      · intro b hb hp
        have hb5 := HV5.lt hb
        rcases bnew b hb with h | h
        · rcases anew b hp with h' | h'
          · exact hne b h h'
          · omega
        · rcases anew b hp with h' | h'
          · have := HO.lt h'
            omega
          · omega
      · intro x hx
        rcases List.mem_append.1 hx with hx | hx
        · obtain ⟨q1, q2, q3, q4, q5, q6, q7, q8, q9, q10⟩ := hall x hx
          refine ⟨?_, q2, q3, q4, q5, q6, q7, fun a ha => by have := q8 a ha; omega, fun b hb a ha => ?_, fun b hb a ha => ?_⟩
          · exact SlI.fr (SlI.fr (q1.ext (o23.trans o4).ext) HF5 (fun a _ ha hp => q9 _ hp a ha rfl)) HF6 (fun a _ ha hp => q10 _ hp a ha rfl)
          · exact (apart a (by have := q8 a ha; omega) (fun b hb => q9 b hb a ha) (fun b hb => q10 b hb a ha)).1 b hb
          · exact (apart a (by have := q8 a ha; omega) (fun b hb => q9 b hb a ha) (fun b hb => q10 b hb a ha)).2 b hb
        · obtain rfl := List.mem_singleton.1 hx
          have n1 : ∀ a, sb.p = some a → ∀ b, s'.x_blocks.p = some ⟨b, 0, none⟩ → a.block ≠ b := fun a ha b hb => by
            have := W.newb a ha
            have := HV.lt hb
            omega
          have n2 : ∀ a, sb.p = some a → ∀ b, s'.x_all.p = some ⟨b, 0, none⟩ → a.block ≠ b := fun a ha b hb => by
            have := W.newb a ha
            have := HO.lt hb
            omega
          refine ⟨?_, W.bb, W.bo, rfl, W.lb, W.lo, W.g, fun a ha => by have := W.below a ha; omega, fun b hb a ha => ?_, fun b hb a ha => ?_⟩
          · exact SlI.fr (SlI.fr (W.b.ext o4.ext) HF5 (fun a _ ha hp => n1 a ha _ hp rfl)) HF6 (fun a _ ha hp => n2 a ha _ hp rfl)
          · exact (apart a (W.below a ha) (n1 a ha) (n2 a ha)).1 b hb
          · exact (apart a (W.below a ha) (n1 a ha) (n2 a ha)).2 b hb
    · rw [if_neg (by simpa using hc)]
      have hon := HO.len
      simp only [st_reg, st_ret, st_exit, st_skip, st_test, st_block, st_cond, sq_reg, sq_ret, sq_exit, sq_skip, sq_test, sq_cond, sq_block, sq_seq, sq_loop, SK_norm, SK_exit, SK_ret, BK_norm, BK_ret, BK_same, BK_exit, LK_norm, LK_exit, LK_ret, endK_norm, endK_ret, M_laws_FnConcatAny.k11, M_laws_FnConcatAny.k12, M_laws_FnConcatAny.r16, M_laws_FnConcatAny.r17, M_laws_FnConcatAny.r18, M_laws_FnConcatAny.res]
      by_cases hbig : ((s'.x_all.n : Nat) : Int) > 1048576
      · rw [if_pos (by simpa using hbig)]; exact ⟨trivial, Keep.old hk⟩
      rw [if_neg (by simpa using hbig)]
      have hN : (outs bs).length = sumN (bs.map (·.1)) := outs_len bs (fun x hx => (hall x hx).2.2.2.1)
      have hBl : sumB (bs.map (·.1)) ≤ (bs.map (·.1)).length * 24000 := sumB_le _ _ (fun y hy => by
        obtain ⟨x, hx, rfl⟩ := List.mem_map.1 hy
        exact (hall x hx).2.2.2.2.1)
      rw [List.length_map] at hBl
      have HB : Bls h'.size h' s'.x_blocks (bs.map (·.1)) := by
        refine ⟨?_, fun a h0 ha => ?_, fun y hy => ?_⟩
        · have := HV.sl
          rwa [List.map_map]
        · rcases HV.mem with ⟨h1, _⟩ | ⟨b, cs, hp, _, hbk, _⟩
          · rw [h1] at ha; cases ha
          · rw [hp] at ha
            obtain rfl := Option.some.inj ha
            exact hbk.lt
        · obtain ⟨x, hx, rfl⟩ := List.mem_map.1 hy
          obtain ⟨q1, q2, q3, q4, q5, q6, q7, q8, q9, q10⟩ := hall x hx
          exact ⟨q1, (varB_bts _ _).app q2, by omega, by omega, fun a _ ha => q8 a ha⟩
      have hE' : hcell h' ⟨0, 0, none⟩ = some E := hk.cell (by simp only; omega) hE
      obtain ⟨lst, hgo⟩ := goes_cat bs (fun x hx => (hall x hx).2.2.2.2.2.2.1)
      refine implConcat HB (by simp; omega) (by omega) (by omega) hE' (by omega) fun sl h2 l HO2 g0 g1 o2 => ?_
      have hs2 := o2.size
      have hsaid : said l = some (outs bs) := by
        rcases Nat.eq_zero_or_pos (sumN (bs.map (·.1))) with hz | hz
        · rw [g0 hz, said_zero]
          have : outs bs = [] := List.length_eq_zero_iff.1 (by omega)
          rw [this]
        · rw [g1 hz]
          unfold said
          rw [dlen_varB (by omega)]
          simp only
          rw [← dec_drop (by simp), List.drop_append_of_le_length (Nat.le_refl _), List.drop_of_length_le (Nat.le_refl _), List.nil_append, ← hN]
          exact hgo.done
      have hbt : Bts l := by
        rcases Nat.eq_zero_or_pos (sumN (bs.map (·.1))) with hz | hz
        · rw [g0 hz]; intro x hx; obtain rfl := List.mem_singleton.1 hx; decide
        · rw [g1 hz]
          refine (varB_bts _ _).app (cat_bts _ fun y hy => ?_)
          obtain ⟨x, hx, rfl⟩ := List.mem_map.1 hy
          exact (hall x hx).2.1
      have hll : l.length < 2 ^ 36 := by
        rcases Nat.eq_zero_or_pos (sumN (bs.map (·.1))) with hz | hz
        · rw [g0 hz]; simp
        · rw [g1 hz]
          have := varB_len 10 (sumN (bs.map (·.1)))
          simp [cat_len]; omega
      simp only [st_reg, st_ret, st_exit, st_skip, st_test, st_block, st_cond, sq_reg, sq_ret, sq_exit, sq_skip, sq_test, sq_cond, sq_block, sq_seq, sq_loop, SK_norm, SK_exit, SK_ret, BK_norm, BK_ret, BK_same, BK_exit, LK_norm, LK_exit, LK_ret, endK_norm, endK_ret, M_laws_FnConcatAny.k13, M_laws_FnConcatAny.k14, M_laws_FnConcatAny.r19, M_laws_FnConcatAny.r20, M_laws_FnConcatAny.r21, M_laws_FnConcatAny.r22, M_laws_FnConcatAny.res]
      rw [if_neg (by simp)]
      refine implDecode HO2.sl (fun a _ ha => ?_) (Byt.of_mem hbt) hll ((Keep.of_old (B := h'.size) o2).cell (by simp only; omega) hE') hnE fun sl' b h3 hb3 hs3 o3 => ?_
      · rcases HO2.mem with ⟨h1, _⟩ | ⟨b, cs, hp, _, hbk, _⟩
        · rw [h1] at ha; cases ha
        · rw [hp] at ha
          obtain rfl := Option.some.inj ha
          exact hbk.lt
      have hbt' : b = true := by rw [hb3, hsaid]; rfl
      subst hbt'
      rw [if_pos rfl]
      have hob := outs_bts bs (fun x hx => (hall x hx).2.2.1)
      refine eq (hs3 _ hsaid) (HO.old (o2.trans o3)).sl (Byt.of_mem hob) (Byt.of_mem hob) (by omega) fun b hb5 => ?_
      exact ⟨hb5.2 rfl, Keep.old (hk.trans (Keep.of_old (o2.trans o3)))⟩
end Go.Proofs.YtibleenkgmkpmaaDoor
