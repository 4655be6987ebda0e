/- A part of the proof. -/
import Derived.Test.YtibleenkgmkpmaaDoorS2u
import Derived.Test.YtibleenkgmkpmaaDoorModels2
set_option linter.unusedSimpArgs false
set_option linter.unusedVariables false
set_option linter.unusedSectionVars false
namespace Go.Vc
theorem or_i64 {x y : Nat} (hx : x < 2 ^ 63) (hy : y < 2 ^ 63) : bOr .i64 (x : Int) (y : Int) = ((x ||| y : Nat) : Int) := by
  unfold bOr
  have hB : IntKind.i64.bits = 64 := rfl
  rw [BitVec.toNat_or, ofInt_toNat (by rw [hB]; omega), ofInt_toNat (by rw [hB]; omega)]
  have : x ||| y < 2 ^ 63 := Nat.or_lt_two_pow hx hy
  exact w_i64 (by omega) (by omega)
end Go.Vc
namespace Go.Proofs.YtibleenkgmkpmaaDoor
open Go Go.Vc Go.Ml Go.S2

/-- What one piece adds to what is written. -/
structure Next (body out : List Int) (last : Nat) (body' out' : List Int) (last' : Nat) : Prop where
  le : out.length ≤ out'.length
  most : out'.length ≤ out.length + 66000
  len : body'.length ≤ body.length + 400
  bb : Bts body → Bts body'
  bo : Bts out → Bts out'
  goes : Goes body out last → Goes body' out' last'
theorem Next.refl (body out : List Int) (last : Nat) : Next body out last body out last := ⟨by omega, by omega, by omega, id, id, id⟩
theorem Next.elem {body out enc out' : List Int} {last last' : Nat} (he : Elem enc out last out' last') (h1 : out.length ≤ out'.length) (h2 : out'.length ≤ out.length + 66000) (h3 : enc.length ≤ 400) (h4 : Bts enc) (h5 : Bts out → Bts out') :
    Next body out last (body ++ enc) out' last' := ⟨h1, h2, by simp; omega, fun h => h.app h4, h5, fun H => H.elem he h1⟩

section
variable {B : Nat} {h : Heap} {wb : Nat} {body out : List Int} {last : Nat} {K : Heap → Prop}

theorem literal {D : Sl} {dl : List Int} {form : Nat} (H : Wri B h wb body out last) (hB : B ≤ h.size) (hD : SlI h .u8 D dl) (hDB : ∀ a, 0 < D.n → D.p = some a → a.block < B) (hDb : Bts dl) (hdl : dl.length ≤ 300) (hform : form < 2 ^ 32) (hbl : body.length < 2 ^ 38) (hol : out.length < 2 ^ 38)
    (hK : ∀ h' body' out' last', Wri B h' wb body' out' last' → Next body out last body' out' last' → Keep B h h' → K h') : c_writer_literal (some ⟨wb, 0, none⟩) D form h K := by
  have hdn := hD.len
  apply M_writer_literal.calls
  simp only [st_reg, st_ret, st_exit, st_skip, st_test, st_block, st_cond, sq_reg, sq_ret, sq_exit, sq_skip, sq_test, sq_cond, sq_block, sq_seq, sq_loop, SK_norm, SK_exit, SK_ret, BK_norm, BK_ret, BK_same, BK_exit, LK_norm, LK_exit, LK_ret, endK_norm, endK_ret, M_writer_literal.stm, M_writer_literal.k0, M_writer_literal.k1, M_writer_literal.k2, M_writer_literal.k3, M_writer_literal.k4, M_writer_literal.init, M_writer_literal.res, M_writer_literal.r0, M_writer_literal.r1, M_writer_literal.r2, M_writer_literal.r3, M_writer_literal.r4, M_writer_literal.r5, M_writer_literal.r6, M_writer_literal.r7, M_writer_literal.r8, hdn]
  rw [w_i64 (by omega) (by omega)]
  by_cases h0 : dl.length = 0
  · rw [if_pos (by simp; omega)]
    exact hK h body out last H (Next.refl _ _ _) (Keep.refl _ _)
  rw [if_neg (by simp; omega)]
  obtain ⟨n, hn⟩ : ∃ n, dl.length = n + 1 := ⟨dl.length - 1, by omega⟩
  have en : ((dl.length : Nat) : Int) - 1 = n := by omega
  rw [en]
  -- from where the number of the length's bytes is known
  have fin : ∀ (least k : Nat) (st : M_writer_literal.St), st.x_w = some ⟨wb, 0, none⟩ → st.x_data = D → st.x_n = n → st.x_form = form → st.x_least = least → least ≤ 4 → (∀ k, least ≤ k → k ≤ 4 → (k = 0 → n < 60) ∧ n < 256 ^ (max k 1)) → M_writer_literal.k5 st h (endK (M_writer_literal.res K)) := by
    intro least _ st f1 f2 f3 f4 f5 hle hk
    simp only [st_reg, st_ret, st_exit, st_skip, st_test, st_block, st_cond, sq_reg, sq_ret, sq_exit, sq_skip, sq_test, sq_cond, sq_block, sq_seq, sq_loop, SK_norm, SK_exit, SK_ret, BK_norm, BK_ret, BK_same, BK_exit, LK_norm, LK_exit, LK_ret, endK_norm, endK_ret, M_writer_literal.k5, M_writer_literal.res, M_writer_literal.r9, f1, f2, f3, f4, f5]
    refine within (n := form) (a := least) (b := 4) (by omega) hle (by omega) ?_
    have hkr : least ≤ least + form % (4 - least + 1) ∧ least + form % (4 - least + 1) ≤ 4 := by
      have := Nat.mod_lt form (show 4 - least + 1 > 0 by omega)
      omega
    generalize least + form % (4 - least + 1) = k at hkr
    have hk := hk k hkr.1 hkr.2
    -- the data, behind the head
    have tail : ∀ (head : List Int) (h1 : Heap), Wri B h1 wb (body ++ head) out last → Keep B h h1 → head.length ≤ 10 → Elem (head ++ dl) out last (out ++ dl) last → Bts head → ∀ st' : M_writer_literal.St, st'.x_w = some ⟨wb, 0, none⟩ → st'.x_data = D →
        M_writer_literal.r14 st' h1 fun s h => M_writer_literal.r15 s h fun _ h => K h := by
      intro head h1 H1 hk1 hhl hel hbh st' g1 g2
      simp only [M_writer_literal.r14, M_writer_literal.r15, g1, g2, withH_eq, ptrE_some, add_mk, Nat.zero_add, Nat.add_zero]
      have hs1 := hk1.size
      obtain ⟨p, n', c, hc, happ⟩ := H1.get0 (by omega)
      refine ⟨p, n', c, hc, ?_⟩
      refine happ h1 dl _ _ _ (Old.refl h1) (by omega) ?_ (by simp; omega) fun h2 H2 hk2 => ?_
      · have := src_sl (hD.keepB hDB hk1) (m := D.n) (Nat.le_refl _) (n := D.n) (c := D.c)
        rwa [List.take_of_length_le (by omega)] at this
      have hs2 := hk2.size
      obtain ⟨p, n', c, hc, _, happ⟩ := H2.get1 (by omega)
      refine ⟨p, n', c, hc, ?_⟩
      refine happ h2 dl _ _ _ (Old.refl h2) (by omega) ?_ (by omega) fun h3 H3 hk3 => ?_
      · have := src_sl (hD.keepB hDB (hk1.trans hk2)) (m := D.n) (Nat.le_refl _) (n := D.n) (c := D.c)
        rwa [List.take_of_length_le (by omega)] at this
      rw [List.append_assoc] at H3
      exact hK h3 _ _ _ H3 (Next.elem hel (by simp) (by simp; omega) (by simp; omega) (hbh.app hDb) (fun h => h.app hDb)) ((hk1.trans hk2).trans hk3)
    simp only [st_reg, st_ret, st_exit, st_skip, st_test, st_block, st_cond, sq_reg, sq_ret, sq_exit, sq_skip, sq_test, sq_cond, sq_block, sq_seq, sq_loop, SK_norm, SK_exit, SK_ret, BK_norm, BK_ret, BK_same, BK_exit, LK_norm, LK_exit, LK_ret, endK_norm, endK_ret, M_writer_literal.k6, M_writer_literal.r10, M_writer_literal.r11, M_writer_literal.r12, M_writer_literal.r13, M_writer_literal.res, withH_eq, ptrE_some, add_mk, Nat.zero_add, Nat.add_zero]
    by_cases hk0 : k = 0
    · rw [if_pos (by simp [hk0])]
      have hn60 := hk.1 hk0
      obtain ⟨p, n', c, hc, happ⟩ := H.get0 hB
      refine ⟨p, n', c, hc, ?_⟩
      have ev : IntKind.wrap .u8 (IntKind.wrap .i64 ((n : Int) * 2 ^ 2)) = ((n * 4 : Nat) : Int) := by
        rw [w_i64 (x := (n : Int) * 2 ^ 2) (by omega) (by omega), w_u8 (by omega) (by omega)]; omega
      rw [ev]
      refine happ _ [((n * 4 : Nat) : Int)] _ _ _ (Old.new _ _ _) rfl (src_sl (sl_new h .u8 [((n * 4 : Nat) : Int)] 5) (m := 1) (by simp)) (by omega) fun h1 H1 hk1 => ?_
      refine tail [((n * 4 : Nat) : Int)] h1 H1 ((Keep.of_old (Old.new _ _ _)).trans hk1) (by simp) (elem_lit0 hn60 hn) ?_ _ rfl rfl
      intro x hx
      obtain rfl := List.mem_singleton.1 hx
      omega
    · rw [if_neg (by simp; omega)]
      obtain ⟨p, n', c, hc, happ⟩ := H.get0 hB
      refine ⟨p, n', c, hc, ?_⟩
      have ev : IntKind.wrap .u8 (IntKind.wrap .i64 (IntKind.wrap .i64 (59 + (k : Int)) * 2 ^ 2)) = (((59 + k) * 4 : Nat) : Int) := by
        rw [w_i64 (x := 59 + (k : Int)) (by omega) (by omega), w_i64 (by omega) (by omega), w_u8 (by omega) (by omega)]; omega
      rw [ev]
      refine happ _ [(((59 + k) * 4 : Nat) : Int)] _ _ _ (Old.new _ _ _) rfl (src_sl (sl_new h .u8 [(((59 + k) * 4 : Nat) : Int)] 5) (m := 1) (by simp)) (by omega) fun h1 H1 hk1 => ?_
      have hkk1 := (Keep.of_old (Old.new h [.int .u8 (((59 + k) * 4 : Nat) : Int)] 5)).trans hk1
      have hs1 := hkk1.size
      have hkm : max k 1 = k := by omega
      have hn256 : n < 256 ^ k := by rw [hkm] at hk; exact hk.2
      have fin2 : ∀ h2, Wri B h2 wb (body ++ [(((59 + k) * 4 : Nat) : Int)] ++ leB k n) out last → Keep B h1 h2 → ∀ st' : M_writer_literal.St, st'.x_w = some ⟨wb, 0, none⟩ → st'.x_data = D →
          M_writer_literal.r14 st' h2 fun s h => M_writer_literal.r15 s h fun _ h => K h := by
        intro h2 H2 hk2 st' g1 g2
        rw [List.append_assoc] at H2
        refine tail _ h2 H2 (hkk1.trans hk2) (by simp [leB_len]; omega) (elem_litk (by omega) (by omega) hn256 hn) ?_ st' g1 g2
        intro x hx
        rcases List.mem_cons.1 hx with rfl | hx
        · omega
        · exact leB_bts _ _ x hx
      refine ⟨?_, ?_⟩
      · obtain ⟨p, n', c, hc, happ⟩ := H1.get0 (by omega)
        refine ⟨p, n', c, hc, ?_⟩
        refine bytesOf (by omega) (by omega) fun s h2 HO o2 => ?_
        have hsl := HO.len
        have hsk : s.n = k := by rw [← hsl, leB_len]
        refine happ h2 (leB k n) _ _ _ o2 hsl ?_ (by simp; omega) fun h3 H3 hk3 => ?_
        · have := src_sl HO.sl (m := s.n) (Nat.le_refl _) (n := s.n) (c := s.c)
          rwa [List.take_of_length_le (by omega)] at this
        exact fin2 h3 H3 ((Keep.of_old o2).trans hk3) _ rfl rfl
      · refine bytesOf (by omega) (by omega) fun s h2 HO o2 => ?_
        have hsl := HO.len
        have hsk : s.n = k := by rw [← hsl, leB_len]
        have hs2 := o2.size
        obtain ⟨p, n', c, hc, happ⟩ := (H1.old o2).get0 (by omega)
        refine ⟨p, n', c, hc, ?_⟩
        refine happ h2 (leB k n) _ _ _ (Old.refl _) hsl ?_ (by simp; omega) fun h3 H3 hk3 => ?_
        · have := src_sl HO.sl (m := s.n) (Nat.le_refl _) (n := s.n) (c := s.c)
          rwa [List.take_of_length_le (by omega)] at this
        exact fin2 h3 H3 ((Keep.of_old o2).trans hk3) _ rfl rfl
  by_cases g60 : n < 60
  · rw [if_neg (by simp; omega), if_neg (by simp; omega), if_neg (by simp; omega)]
    exact fin 0 0 _ rfl rfl rfl rfl rfl (by omega) (fun k h1 h2 => ⟨fun _ => g60, by
      have : 256 ^ 1 ≤ 256 ^ (max k 1) := Nat.pow_le_pow_right (by decide) (by omega)
      omega⟩)
  · rw [if_pos (by simp; omega)]
    by_cases g256 : n < 256
    · rw [if_neg (by simp; omega), if_neg (by simp; omega)]
      exact fin 1 0 _ rfl rfl rfl rfl rfl (by omega) (fun k h1 h2 => ⟨fun _ => by omega, by
        have : 256 ^ 1 ≤ 256 ^ (max k 1) := Nat.pow_le_pow_right (by decide) (by omega)
        omega⟩)
    · rw [if_pos (by simp; omega), if_neg (by simp; omega)]
      exact fin 2 0 _ rfl rfl rfl rfl rfl (by omega) (fun k h1 h2 => ⟨fun _ => by omega, by
        have : 256 ^ 2 ≤ 256 ^ (max k 1) := Nat.pow_le_pow_right (by decide) (by omega)
        omega⟩)
end
end Go.Proofs.YtibleenkgmkpmaaDoor
