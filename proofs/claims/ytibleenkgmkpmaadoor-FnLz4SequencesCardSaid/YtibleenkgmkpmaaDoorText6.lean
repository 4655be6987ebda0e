/- A part of the calculus over heaps, or of the proof over it: what functions of the program compute, and the plain law. -/
import Derived.Test.YtibleenkgmkpmaaDoorText5
import Derived.Test.YtibleenkgmkpmaaDoorModels2

set_option linter.unusedSimpArgs false
set_option linter.unusedVariables false
set_option linter.unusedSectionVars false
namespace Go.Proofs.YtibleenkgmkpmaaDoor
open Go Go.Vc Go.Ml Go.S2

section
variable {S : Sl} {l : List Int} {N db : Nat} {h0 : Heap} {M0 : List Int} {body out : List Int} {last : Nat} {st : M_LcS.St} {h : Heap} {Q : Ex → M_LcS.St → Heap → Prop}


theorem threeLcS {off r : Nat} {body' : List Int} (e1 : st.x_dst = ⟨some ⟨db, 0, none⟩, N, N⟩) (e7 : st.x_offset = off) (e8 : st.x_d = body'.length) (e9 : st.x_length = r) (hr : 1 ≤ r) (hr2 : r ≤ 64) (ho2 : off < 65536) (hM : M0.length = N) (hroom : body'.length + 3 ≤ N) (hN2 : N < 2 ^ 30)
    (HB : Blk h db ((putL M0 0 body').map (Value.int .u8)) 5)
    (hK : ∀ (h' : Heap) (enc : List Int) (st' : M_LcS.St), enc.length = 3 → (∀ s2, CopS s2 enc off r) → Blk h' db ((putL M0 0 (body' ++ enc)).map (Value.int .u8)) 5 → Fr (· = db) h h' → st'.x_dst = st.x_dst → st'.x_src = st.x_src → st'.x_uncompressed = st.x_uncompressed → st'.x_dLimit = st.x_dLimit → st'.x_s = st.x_s → st'.x_ml = st.x_ml → st'.x_d = (((body' ++ enc).length : Nat) : Int) → Q (.exit 7) st' h') : M_LcS.k53 st h Q := by
  have hd : ∀ j : Nat, j ≤ 3 → IntKind.wrap .i64 ((body'.length : Int) + j) = ((body'.length + j : Nat) : Int) := fun j hj => by rw [w_i64 (by omega) (by omega)]; omega
  have hd0 : IntKind.wrap .i64 ((body'.length : Int) + 0) = ((body'.length + 0 : Nat) : Int) := hd 0 (by omega)
  have hd1 : IntKind.wrap .i64 ((body'.length : Int) + 1) = ((body'.length + 1 : Nat) : Int) := hd 1 (by omega)
  have hd2 : IntKind.wrap .i64 ((body'.length : Int) + 2) = ((body'.length + 2 : Nat) : Int) := hd 2 (by omega)
  have hd3 : IntKind.wrap .i64 ((body'.length : Int) + 3) = ((body'.length + 3 : Nat) : Int) := hd 3 (by omega)
  simp only [SS, M_LcS.k53, M_LcS.k54, M_LcS.k55, M_LcS.r69, M_LcS.r70, M_LcS.r71, M_LcS.r72, e1, e7, e8, e9]
  obtain ⟨x0, x1, x2, hx⟩ := len3 (cut_len (M := M0) (o := body'.length) (k := 3) (by omega))
  rw [putL_more (k := 3) (by omega), hx] at HB
  rw [(tag2 hr hr2).1, w_u8_div, w_u8_nat]
  refine putB (j := 2) HB (by simp; omega) (by simp) hd2 (by simp; omega) fun h1 H1 F1 => ?_
  refine putB (j := 1) H1 (by simp; omega) (by simp) hd1 (by simp; omega) fun h2 H2 F2 => ?_
  refine putB (j := 0) H2 (by simp; omega) (by simp) hd0 (by simp; omega) fun h3 H3 F3 => ?_
  simp only [List.set_cons_zero, List.set_cons_succ] at H3
  exact hK h3 [(((r - 1) * 4 + 2 : Nat) : Int), ((off % 256 : Nat) : Int), ((off / 2 ^ 8 % 256 : Nat) : Int)] _ rfl (fun s2 => copk2 ho2 hr hr2) H3 ((F1.trans F2).trans F3) (by exact e1.symm) (by rfl) (by rfl) (by rfl) (by rfl) (by rfl) (by simp only [hd3]; simp)

theorem twoLcS {off r : Nat} {body' : List Int} (e1 : st.x_dst = ⟨some ⟨db, 0, none⟩, N, N⟩) (e7 : st.x_offset = off) (e8 : st.x_d = body'.length) (e9 : st.x_length = r) (hr : 4 ≤ r) (hr2 : r < 12) (ho2 : off < 2048) (hM : M0.length = N) (hroom : body'.length + 3 ≤ N) (hN2 : N < 2 ^ 30)
    (HB : Blk h db ((putL M0 0 body').map (Value.int .u8)) 5)
    (hK : ∀ (h' : Heap) (enc : List Int) (st' : M_LcS.St), enc.length = 2 → (∀ s2, CopS s2 enc off r) → Blk h' db ((putL M0 0 (body' ++ enc)).map (Value.int .u8)) 5 → Fr (· = db) h h' → st'.x_dst = st.x_dst → st'.x_src = st.x_src → st'.x_uncompressed = st.x_uncompressed → st'.x_dLimit = st.x_dLimit → st'.x_s = st.x_s → st'.x_ml = st.x_ml → st'.x_d = (((body' ++ enc).length : Nat) : Int) → Q (.exit 7) st' h') : M_LcS.k56 st h Q := by
  have hd : ∀ j : Nat, j ≤ 3 → IntKind.wrap .i64 ((body'.length : Int) + j) = ((body'.length + j : Nat) : Int) := fun j hj => by rw [w_i64 (by omega) (by omega)]; omega
  have hd0 : IntKind.wrap .i64 ((body'.length : Int) + 0) = ((body'.length + 0 : Nat) : Int) := hd 0 (by omega)
  have hd1 : IntKind.wrap .i64 ((body'.length : Int) + 1) = ((body'.length + 1 : Nat) : Int) := hd 1 (by omega)
  have hd2 : IntKind.wrap .i64 ((body'.length : Int) + 2) = ((body'.length + 2 : Nat) : Int) := hd 2 (by omega)
  simp only [SS, M_LcS.k56, M_LcS.k57, M_LcS.r73, M_LcS.r74, M_LcS.r75, e1, e7, e8, e9]
  obtain ⟨x0, x1, hx⟩ := len2 (cut_len (M := M0) (o := body'.length) (k := 2) (by omega))
  rw [putL_more (k := 2) (by omega), hx] at HB
  rw [tag1' ho2 hr hr2, w_u8_nat]
  refine putB (j := 1) HB (by simp; omega) (by simp) hd1 (by simp; omega) fun h1 H1 F1 => ?_
  refine putB (j := 0) H1 (by simp; omega) (by simp) hd0 (by simp; omega) fun h3 H3 F3 => ?_
  simp only [List.set_cons_zero, List.set_cons_succ] at H3
  exact hK h3 [((off / 256 * 32 + (r - 4) * 4 + 1 : Nat) : Int), ((off % 256 : Nat) : Int)] _ rfl (fun s2 => cop1 ho2 hr (by omega)) H3 (F1.trans F3) (by exact e1.symm) (by rfl) (by rfl) (by rfl) (by rfl) (by rfl) (by simp only [hd2]; simp)

set_option maxRecDepth 1000000 in
set_option maxHeartbeats 1000000 in
/-- A match, as copies. -/
theorem cpyLcS {off n k : Nat} (C : CvLcS S N db h0 M0 body out last st h) (hM : M0.length = N) (hs : st.x_s = k) (hml : st.x_ml = n) (ho : st.x_offset = off) (h0' : 0 < off) (h1 : off ≤ out.length) (ho2 : off < 65536) (hn : 1 ≤ n) (hn2 : n ≤ 4194304) (hol : out.length ≤ 4194304) (hroom : body.length + 3 * (n / 64) + 16 ≤ N) (hN2 : N < 2 ^ 30)
    (hK : ∀ st' h' body' last', CvLcS S N db h0 M0 body' (fwd out off n) last' st' h' → st'.x_s = k → body'.length ≤ body.length + 3 * (n / 64) + 3 → Q .norm st' h') : M_LcS.k43 st h Q := by
  simp only [SS, M_LcS.k43, M_LcS.k44, M_LcS.r58, hml]
  refine loop_rule (I := fun s' h' => s'.x_dst = ⟨some ⟨db, 0, none⟩, N, N⟩ ∧ s'.x_src = S ∧ s'.x_uncompressed = out.length ∧ s'.x_dLimit = (N : Int) - 10 ∧ s'.x_s = k ∧ s'.x_ml = n ∧ s'.x_offset = off ∧ ∃ (q : Nat) (body' : List Int) (last' : Nat), s'.x_d = body'.length ∧ s'.x_length = ((n - q : Nat) : Int) ∧ q < n ∧ q % 64 = 0 ∧ 64 * body'.length ≤ 64 * body.length + 3 * q ∧
    Blk h' db ((putL M0 0 body').map (Value.int .u8)) 5 ∧ (∀ s2, GoesG s2 body' (fwd out off q) last') ∧ Bts body' ∧ Fr (· = db) h0 h') (μ := fun s' _ => s'.x_length.toNat) ?_ ?_
  · exact ⟨C.dst, C.src, C.u, C.lim, hs, rfl, ho, 0, body, last, C.d, by simp, by omega, rfl, by omega, C.blk, C.goes, C.bb, C.fr⟩
  · rintro s' h' ⟨e1, e2, e3, e4, e5, e6, e7, q, body', last', e8, e9, hq, hq64, hbl, HB, hg, hbb, hF⟩
    have hbl2 : body'.length ≤ body.length + 3 * (n / 64) + 2 := by omega
    have hd : ∀ j : Nat, j ≤ 3 → IntKind.wrap .i64 ((body'.length : Int) + j) = ((body'.length + j : Nat) : Int) := fun j hj => by rw [w_i64 (by omega) (by omega)]; omega
    have hd0 : IntKind.wrap .i64 ((body'.length : Int) + 0) = ((body'.length + 0 : Nat) : Int) := hd 0 (by omega)
    have hd1 : IntKind.wrap .i64 ((body'.length : Int) + 1) = ((body'.length + 1 : Nat) : Int) := hd 1 (by omega)
    have hd2 : IntKind.wrap .i64 ((body'.length : Int) + 2) = ((body'.length + 2 : Nat) : Int) := hd 2 (by omega)
    have hd3 : IntKind.wrap .i64 ((body'.length : Int) + 3) = ((body'.length + 3 : Nat) : Int) := hd 3 (by omega)
    simp only [SS, M_LcS.k45, M_LcS.k46, M_LcS.k47, M_LcS.k48, M_LcS.k49, M_LcS.k50, M_LcS.k51, M_LcS.k52, M_LcS.r59, M_LcS.r60, M_LcS.r62, M_LcS.r63, M_LcS.r64, M_LcS.r65, M_LcS.r66, M_LcS.r67, M_LcS.r68, e1, e2, e3, e4, e5, e6, e7, e8, e9]
    rw [if_pos (by simp; omega), if_neg (by simp; omega)]
    -- behind the last copy
    have fin : ∀ (enc : List Int) (h2 : Heap) (st2 : M_LcS.St), enc.length ≤ 3 → (∀ s2, CopS s2 enc off (n - q)) → Blk h2 db ((putL M0 0 (body' ++ enc)).map (Value.int .u8)) 5 → Fr (· = db) h' h2 → st2.x_dst = ⟨some ⟨db, 0, none⟩, N, N⟩ → st2.x_src = S → st2.x_uncompressed = out.length → st2.x_dLimit = (N : Int) - 10 → st2.x_s = k → st2.x_ml = n → st2.x_d = (((body' ++ enc).length : Nat) : Int) → M_LcS.k58 st2 h2 Q := by
      intro enc h2 st2 g0 g1 g2 g3 g4 g5 g6 g7 g8 g9 g10
      have hlen : (body' ++ enc).length ≤ body.length + 3 * (n / 64) + 3 + 2 := by simp; omega
      have hlen3 : (body' ++ enc).length ≤ body.length + 3 * (n / 64) + 3 := by
        rw [List.length_append]; omega
      simp only [SS, M_LcS.k58, M_LcS.k59, M_LcS.r76, M_LcS.r77, g6, g7, g9, g10]
      rw [if_neg (by rw [decide_eq_true_eq]; omega)]
      have eu : IntKind.wrap .i64 ((out.length : Int) + n) = ((fwd out off n).length : Nat) := by rw [w_i64 (by omega) (by omega), fwd_len]; omega
      refine hK _ h2 (body' ++ enc) off ⟨g4, g5, ?_, eu, ?_, g2, ?_, hbb.app (g1 true).1, hF.trans g3⟩ g8 hlen3
      · simp only [g10]
      · simp only [g7]
      intro s2
      have := (hg s2).seq ((g1 s2).2.2 (fwd out off q) last' h0' (by rw [fwd_len]; omega)) (by rw [fwd_len (fwd out off q)]; omega)
      rwa [fwd_add, show q + (n - q) = n by omega] at this
    by_cases g64 : 64 < n - q
    · rw [if_pos (by simp; omega)]
      obtain ⟨x0, x1, x2, hx⟩ := len3 (cut_len (M := M0) (o := body'.length) (k := 3) (by omega))
      rw [putL_more (k := 3) (by omega), hx] at HB
      rw [w_u8_div, w_u8_nat]
      refine putB (j := 2) HB (by simp; omega) (by simp) hd2 (by simp; omega) fun h1 H1 F1 => ?_
      refine putB (j := 1) H1 (by simp; omega) (by simp) hd1 (by simp; omega) fun h2 H2 F2 => ?_
      refine putB (j := 0) H2 (by simp; omega) (by simp) hd0 (by simp; omega) fun h3 H3 F3 => ?_
      simp only [List.set_cons_zero, List.set_cons_succ] at H3
      have el : IntKind.wrap .i64 (((n - q : Nat) : Int) - 64) = ((n - (q + 64) : Nat) : Int) := by rw [w_i64 (by omega) (by omega)]; omega
      rw [el, hd3]
      have hc := fun s2 => copk2 (s2 := s2) (o := off) (n := 64) ho2 (by omega) (by omega)
      refine ⟨⟨trivial, trivial, trivial, trivial, trivial, trivial, trivial, q + 64, body' ++ [254, ((off % 256 : Nat) : Int), ((off / 2 ^ 8 % 256 : Nat) : Int)], off, by simp, rfl, by omega, by omega, by simp; omega, H3, ?_, hbb.app (hc true).1, hF.trans ((F1.trans F2).trans F3)⟩, by omega⟩
      intro s2
      have := (hg s2).seq ((hc s2).2.2 (fwd out off q) last' h0' (by rw [fwd_len]; omega)) (by rw [fwd_len (fwd out off q)]; omega)
      rwa [fwd_add] at this
    rw [if_neg (by simp; omega)]
    by_cases g : n - q ≥ 12 ∨ off ≥ 2048 ∨ n - q < 4
    · have main : ∀ st2 : M_LcS.St, st2.x_dst = ⟨some ⟨db, 0, none⟩, N, N⟩ → st2.x_src = S → st2.x_uncompressed = out.length → st2.x_dLimit = (N : Int) - 10 → st2.x_s = k → st2.x_ml = n → st2.x_offset = off → st2.x_d = body'.length → st2.x_length = ((n - q : Nat) : Int) → ∀ Q2 : Ex → M_LcS.St → Heap → Prop, (∀ st3 h3, M_LcS.k58 st3 h3 Q → Q2 (.exit 7) st3 h3) → M_LcS.k53 st2 h' Q2 := by
        intro st2 g4 g5 g6 g7 g8 g9 g10 g11 g12 Q2 hQ2
        refine threeLcS g4 g10 g11 g12 (by omega) (by omega) ho2 hM (by omega) hN2 HB fun h3 enc st3 t0 t1 t2 t3 t4 t5 t6 t7 t8 t9 t10 => ?_
        exact hQ2 st3 h3 (fin enc h3 st3 (by omega) t1 t2 t3 (t4.trans g4) (t5.trans g5) (t6.trans g6) (t7.trans g7) (t8.trans g8) (t9.trans g9) t10)
      by_cases c1 : n - q ≥ 12
      · rw [if_neg (by simp; omega), if_pos trivial]
        exact main _ (by first | rfl | assumption) (by first | rfl | assumption) (by first | rfl | assumption) (by first | rfl | assumption) (by first | rfl | assumption) (by first | rfl | assumption) (by first | rfl | assumption) (by first | rfl | assumption) (by first | rfl | assumption) _ (fun _ _ h => h)
      · rw [if_pos (by simp; omega)]
        by_cases c2 : off ≥ 2048
        · rw [if_neg (by simp; omega), if_pos trivial]
          exact main _ (by first | rfl | assumption) (by first | rfl | assumption) (by first | rfl | assumption) (by first | rfl | assumption) (by first | rfl | assumption) (by first | rfl | assumption) (by first | rfl | assumption) (by first | rfl | assumption) (by first | rfl | assumption) _ (fun _ _ h => h)
        · rw [if_pos (by simp; omega), if_pos (by simp; omega)]
          exact main _ (by first | rfl | assumption) (by first | rfl | assumption) (by first | rfl | assumption) (by first | rfl | assumption) (by first | rfl | assumption) (by first | rfl | assumption) (by first | rfl | assumption) (by first | rfl | assumption) (by first | rfl | assumption) _ (fun _ _ h => h)
    · rw [if_pos (by simp; omega), if_pos (by simp; omega), if_neg (by simp; omega)]
      refine twoLcS (off := off) (r := n - q) (body' := body') (by first | rfl | assumption) (by first | rfl | assumption) (by first | rfl | assumption) (by first | rfl | assumption) (by omega) (by omega) (by omega) hM (by omega) hN2 HB fun h3 enc st3 t0 t1 t2 t3 t4 t5 t6 t7 t8 t9 t10 => ?_
      exact fin enc h3 st3 (by omega) t1 t2 t3 (t4.trans (by first | rfl | assumption)) (t5.trans (by first | rfl | assumption)) (t6.trans (by first | rfl | assumption)) (t7.trans (by first | rfl | assumption)) (t8.trans (by first | rfl | assumption)) (t9.trans (by first | rfl | assumption)) t10
end

section
variable {S : Sl} {l : List Int} {N db : Nat} {h : Heap} {K : Sl → Int → Value → Heap → Prop}

set_option maxRecDepth 1000000 in
set_option maxHeartbeats 1000000 in
theorem convLcS {p : Option Addr} {res : List Int} (HB : Blk h db ((List.replicate N (0 : Int)).map (Value.int .u8)) 5) (hS : SlI h .u8 S l) (hne : ∀ a, 0 < S.n → S.p = some a → a.block ≠ db) (hb : Bts l) (hl : l.length ≤ 65536) (hN : N = 16 * l.length + 64) (hZ : Z false l 0 [] = some res)
    (hK : ∀ body last h', Blk h' db ((putL (List.replicate N 0) 0 body).map (Value.int .u8)) 5 → (∀ s2, GoesG s2 body res last) → Bts body → body.length ≤ 16 * l.length + 16 → Fr (· = db) h h' → K ⟨some ⟨db, 0, none⟩, body.length, N⟩ res.length .nilIface h') : c_LcS p ⟨some ⟨db, 0, none⟩, 0, N⟩ S h K := by
  have hsl := hS.len
  have hl0 := (Z_step hb hZ).1
  apply M_LcS.calls
  simp only [SS, M_LcS.stm, M_LcS.init, M_LcS.k0, M_LcS.k1, M_LcS.k2, M_LcS.k3, M_LcS.k10, M_LcS.k11, M_LcS.k12, M_LcS.r0, M_LcS.r1, M_LcS.r3, M_LcS.r4, M_LcS.r5, M_LcS.r17, M_LcS.r18]
  rw [if_neg (by simp; omega)]
  refine ⟨by omega, by omega, ?_⟩
  rw [if_neg (by simp), subP0]
  have eN : IntKind.wrap .i64 (((Int.toNat ((N : Nat) : Int) - 0 : Nat) : Int) - 10) = (N : Int) - 10 := by rw [Int.toNat_natCast, Nat.sub_zero, w_i64 (by omega) (by omega)]
  rw [eN, Int.toNat_natCast, Nat.sub_zero]
  refine loop_rule (I := fun s' h' => ∃ (i : Nat) (out body : List Int) (last : Nat), CvLcS S N db h (List.replicate N 0) body out last s' h' ∧ s'.x_s = i ∧ Z false l i out = some res ∧ body.length ≤ 16 * i ∧ out.length ≤ 4194304) (μ := fun s' _ => (l.length - s'.x_s).toNat) ?_ ?_
  · exact ⟨0, [], [], 0, ⟨rfl, rfl, rfl, rfl, rfl, HB, fun _ => GoesG.nil, fun x hx => by (cases hx), Fr.refl _ _⟩, rfl, hZ, by simp, by simp⟩
  · rintro s' h' ⟨i, out, body, last, C, hs, hZi, hbl, hol⟩
    obtain ⟨hi, m, j, hzl, hjm, hij, hor⟩ := Z_step hb hZi
    simp only [SS, M_LcS.k13, M_LcS.r19, C.src, hs]
    rw [if_neg (by simp; omega)]
    have hv := hb.getD i
    refine headLcS C hS hne hb (by omega) hs hi hzl fun s2 C2 d1 d2 d3 => ?_
    have hzle := zlen_le hb hzl (by omega)
    refine litLcS C2 hS hne hb (by omega) hN (by simp) d1 d2 d3 (by omega) hjm (by omega) (by omega) fun s3 h3 body3 C3 d4 d5 d6 => ?_
    rcases hor with ⟨q1, q2, q3⟩ | ⟨q1, q2, off, n, k, q3, q4, q5, q6, q7, q8, q9⟩
    · -- the end
      simp only [SS, M_LcS.k29, M_LcS.r40, M_LcS.r79, M_LcS.res, C3.src, C3.d, C3.dst, C3.u, d4, d5]
      rw [if_pos (by simp; omega), if_pos (by rw [q2]; rfl)]
      refine ⟨by omega, by omega, ?_⟩
      rw [subP0, Int.toNat_natCast, Nat.sub_zero, Nat.sub_zero, ← q3]
      exact hK body3 last h3 C3.blk (q3 ▸ C3.goes) C3.bb (by omega) C3.fr
    · have hol3 : (out ++ (l.drop j).take m).length = out.length + m := by simp; omega
      have hk := (Z_step hb q8).1
      refine offLcS C3 hS hne hb (by omega) d4 d5 (by omega) q2 q3 q4 (by omega) (by omega) q6 hk fun s4 h4 C4 d7 d8 d9 => ?_
      have hzm := zlen_le hb q6 (by have := leAt_le q3; omega)
      have h4' : zleast false ≤ 4 := by decide
      have h4'' : 1 ≤ zleast false := by decide
      have hoff3 : off < 65536 := by
        have h1 := leN_lt ((l.drop (j + m)).take 2) (hb.sub (j + m) 2)
        have h2 : ((l.drop (j + m)).take 2).length ≤ 2 := by simp; omega
        have h3 : 256 ^ ((l.drop (j + m)).take 2).length ≤ 256 ^ 2 := Nat.pow_le_pow_right (by decide) h2
        unfold leAt at q3
        split at q3
        · obtain rfl := Option.some.inj q3
          omega
        · cases q3
      refine cpyLcS C4 (by simp) d7 d8 d9 q4 (by omega) hoff3 (by omega) (by omega) (by omega) (by omega) (by omega) fun s5 h5 body5 last5 C5 d10 d11 => ?_
      refine ⟨⟨k, _, body5, last5, C5, d10, q8, by omega, by rw [fwd_len]; omega⟩, ?_⟩
      simp only [d10]
      omega
end

section
variable {S : Sl} {l : List Int} {N db : Nat} {h0 : Heap} {M0 : List Int} {body out : List Int} {last : Nat} {st : M_LsS.St} {h : Heap} {Q : Ex → M_LsS.St → Heap → Prop}


theorem threeLsS {off r : Nat} {body' : List Int} (e1 : st.x_dst = ⟨some ⟨db, 0, none⟩, N, N⟩) (e7 : st.x_offset = off) (e8 : st.x_d = body'.length) (e9 : st.x_length = r) (hr : 1 ≤ r) (hr2 : r ≤ 64) (ho2 : off < 65536) (hM : M0.length = N) (hroom : body'.length + 3 ≤ N) (hN2 : N < 2 ^ 30)
    (HB : Blk h db ((putL M0 0 body').map (Value.int .u8)) 5)
    (hK : ∀ (h' : Heap) (enc : List Int) (st' : M_LsS.St), enc.length = 3 → (∀ s2, CopS s2 enc off r) → Blk h' db ((putL M0 0 (body' ++ enc)).map (Value.int .u8)) 5 → Fr (· = db) h h' → st'.x_dst = st.x_dst → st'.x_src = st.x_src → st'.x_uncompressed = st.x_uncompressed → st'.x_dLimit = st.x_dLimit → st'.x_s = st.x_s → st'.x_ml = st.x_ml → st'.x_d = (((body' ++ enc).length : Nat) : Int) → Q (.exit 7) st' h') : M_LsS.k54 st h Q := by
  have hd : ∀ j : Nat, j ≤ 3 → IntKind.wrap .i64 ((body'.length : Int) + j) = ((body'.length + j : Nat) : Int) := fun j hj => by rw [w_i64 (by omega) (by omega)]; omega
  have hd0 : IntKind.wrap .i64 ((body'.length : Int) + 0) = ((body'.length + 0 : Nat) : Int) := hd 0 (by omega)
  have hd1 : IntKind.wrap .i64 ((body'.length : Int) + 1) = ((body'.length + 1 : Nat) : Int) := hd 1 (by omega)
  have hd2 : IntKind.wrap .i64 ((body'.length : Int) + 2) = ((body'.length + 2 : Nat) : Int) := hd 2 (by omega)
  have hd3 : IntKind.wrap .i64 ((body'.length : Int) + 3) = ((body'.length + 3 : Nat) : Int) := hd 3 (by omega)
  simp only [SS, M_LsS.k54, M_LsS.k55, M_LsS.k56, M_LsS.r70, M_LsS.r71, M_LsS.r72, M_LsS.r73, e1, e7, e8, e9]
  obtain ⟨x0, x1, x2, hx⟩ := len3 (cut_len (M := M0) (o := body'.length) (k := 3) (by omega))
  rw [putL_more (k := 3) (by omega), hx] at HB
  rw [(tag2 hr hr2).1, w_u8_div, w_u8_nat]
  refine putB (j := 2) HB (by simp; omega) (by simp) hd2 (by simp; omega) fun h1 H1 F1 => ?_
  refine putB (j := 1) H1 (by simp; omega) (by simp) hd1 (by simp; omega) fun h2 H2 F2 => ?_
  refine putB (j := 0) H2 (by simp; omega) (by simp) hd0 (by simp; omega) fun h3 H3 F3 => ?_
  simp only [List.set_cons_zero, List.set_cons_succ] at H3
  exact hK h3 [(((r - 1) * 4 + 2 : Nat) : Int), ((off % 256 : Nat) : Int), ((off / 2 ^ 8 % 256 : Nat) : Int)] _ rfl (fun s2 => copk2 ho2 hr hr2) H3 ((F1.trans F2).trans F3) (by exact e1.symm) (by rfl) (by rfl) (by rfl) (by rfl) (by rfl) (by simp only [hd3]; simp)

theorem twoLsS {off r : Nat} {body' : List Int} (e1 : st.x_dst = ⟨some ⟨db, 0, none⟩, N, N⟩) (e7 : st.x_offset = off) (e8 : st.x_d = body'.length) (e9 : st.x_length = r) (hr : 4 ≤ r) (hr2 : r < 12) (ho2 : off < 2048) (hM : M0.length = N) (hroom : body'.length + 3 ≤ N) (hN2 : N < 2 ^ 30)
    (HB : Blk h db ((putL M0 0 body').map (Value.int .u8)) 5)
    (hK : ∀ (h' : Heap) (enc : List Int) (st' : M_LsS.St), enc.length = 2 → (∀ s2, CopS s2 enc off r) → Blk h' db ((putL M0 0 (body' ++ enc)).map (Value.int .u8)) 5 → Fr (· = db) h h' → st'.x_dst = st.x_dst → st'.x_src = st.x_src → st'.x_uncompressed = st.x_uncompressed → st'.x_dLimit = st.x_dLimit → st'.x_s = st.x_s → st'.x_ml = st.x_ml → st'.x_d = (((body' ++ enc).length : Nat) : Int) → Q (.exit 7) st' h') : M_LsS.k57 st h Q := by
  have hd : ∀ j : Nat, j ≤ 3 → IntKind.wrap .i64 ((body'.length : Int) + j) = ((body'.length + j : Nat) : Int) := fun j hj => by rw [w_i64 (by omega) (by omega)]; omega
  have hd0 : IntKind.wrap .i64 ((body'.length : Int) + 0) = ((body'.length + 0 : Nat) : Int) := hd 0 (by omega)
  have hd1 : IntKind.wrap .i64 ((body'.length : Int) + 1) = ((body'.length + 1 : Nat) : Int) := hd 1 (by omega)
  have hd2 : IntKind.wrap .i64 ((body'.length : Int) + 2) = ((body'.length + 2 : Nat) : Int) := hd 2 (by omega)
  simp only [SS, M_LsS.k57, M_LsS.k58, M_LsS.r74, M_LsS.r75, M_LsS.r76, e1, e7, e8, e9]
  obtain ⟨x0, x1, hx⟩ := len2 (cut_len (M := M0) (o := body'.length) (k := 2) (by omega))
  rw [putL_more (k := 2) (by omega), hx] at HB
  rw [tag1' ho2 hr hr2, w_u8_nat]
  refine putB (j := 1) HB (by simp; omega) (by simp) hd1 (by simp; omega) fun h1 H1 F1 => ?_
  refine putB (j := 0) H1 (by simp; omega) (by simp) hd0 (by simp; omega) fun h3 H3 F3 => ?_
  simp only [List.set_cons_zero, List.set_cons_succ] at H3
  exact hK h3 [((off / 256 * 32 + (r - 4) * 4 + 1 : Nat) : Int), ((off % 256 : Nat) : Int)] _ rfl (fun s2 => cop1 ho2 hr (by omega)) H3 (F1.trans F3) (by exact e1.symm) (by rfl) (by rfl) (by rfl) (by rfl) (by rfl) (by simp only [hd2]; simp)

set_option maxRecDepth 1000000 in
set_option maxHeartbeats 1000000 in
/-- A match, as copies. -/
theorem cpyLsS {off n k : Nat} (C : CvLsS S N db h0 M0 body out last st h) (hM : M0.length = N) (hs : st.x_s = k) (hml : st.x_ml = n) (ho : st.x_offset = off) (h0' : 0 < off) (h1 : off ≤ out.length) (ho2 : off < 65536) (hn : 1 ≤ n) (hn2 : n ≤ 4194304) (hol : out.length ≤ 4194304) (hroom : body.length + 3 * (n / 64) + 16 ≤ N) (hN2 : N < 2 ^ 30)
    (hK : ∀ st' h' body' last', CvLsS S N db h0 M0 body' (fwd out off n) last' st' h' → st'.x_s = k → body'.length ≤ body.length + 3 * (n / 64) + 3 → Q .norm st' h') : M_LsS.k44 st h Q := by
  simp only [SS, M_LsS.k44, M_LsS.k45, M_LsS.r59, hml]
  refine loop_rule (I := fun s' h' => s'.x_dst = ⟨some ⟨db, 0, none⟩, N, N⟩ ∧ s'.x_src = S ∧ s'.x_uncompressed = out.length ∧ s'.x_dLimit = (N : Int) - 10 ∧ s'.x_s = k ∧ s'.x_ml = n ∧ s'.x_offset = off ∧ ∃ (q : Nat) (body' : List Int) (last' : Nat), s'.x_d = body'.length ∧ s'.x_length = ((n - q : Nat) : Int) ∧ q < n ∧ q % 64 = 0 ∧ 64 * body'.length ≤ 64 * body.length + 3 * q ∧
    Blk h' db ((putL M0 0 body').map (Value.int .u8)) 5 ∧ (∀ s2, GoesG s2 body' (fwd out off q) last') ∧ Bts body' ∧ Fr (· = db) h0 h') (μ := fun s' _ => s'.x_length.toNat) ?_ ?_
  · exact ⟨C.dst, C.src, C.u, C.lim, hs, rfl, ho, 0, body, last, C.d, by simp, by omega, rfl, by omega, C.blk, C.goes, C.bb, C.fr⟩
  · rintro s' h' ⟨e1, e2, e3, e4, e5, e6, e7, q, body', last', e8, e9, hq, hq64, hbl, HB, hg, hbb, hF⟩
    have hbl2 : body'.length ≤ body.length + 3 * (n / 64) + 2 := by omega
    have hd : ∀ j : Nat, j ≤ 3 → IntKind.wrap .i64 ((body'.length : Int) + j) = ((body'.length + j : Nat) : Int) := fun j hj => by rw [w_i64 (by omega) (by omega)]; omega
    have hd0 : IntKind.wrap .i64 ((body'.length : Int) + 0) = ((body'.length + 0 : Nat) : Int) := hd 0 (by omega)
    have hd1 : IntKind.wrap .i64 ((body'.length : Int) + 1) = ((body'.length + 1 : Nat) : Int) := hd 1 (by omega)
    have hd2 : IntKind.wrap .i64 ((body'.length : Int) + 2) = ((body'.length + 2 : Nat) : Int) := hd 2 (by omega)
    have hd3 : IntKind.wrap .i64 ((body'.length : Int) + 3) = ((body'.length + 3 : Nat) : Int) := hd 3 (by omega)
    simp only [SS, M_LsS.k46, M_LsS.k47, M_LsS.k48, M_LsS.k49, M_LsS.k50, M_LsS.k51, M_LsS.k52, M_LsS.k53, M_LsS.r60, M_LsS.r61, M_LsS.r63, M_LsS.r64, M_LsS.r65, M_LsS.r66, M_LsS.r67, M_LsS.r68, M_LsS.r69, e1, e2, e3, e4, e5, e6, e7, e8, e9]
    rw [if_pos (by simp; omega), if_neg (by simp; omega)]
    -- behind the last copy
    have fin : ∀ (enc : List Int) (h2 : Heap) (st2 : M_LsS.St), enc.length ≤ 3 → (∀ s2, CopS s2 enc off (n - q)) → Blk h2 db ((putL M0 0 (body' ++ enc)).map (Value.int .u8)) 5 → Fr (· = db) h' h2 → st2.x_dst = ⟨some ⟨db, 0, none⟩, N, N⟩ → st2.x_src = S → st2.x_uncompressed = out.length → st2.x_dLimit = (N : Int) - 10 → st2.x_s = k → st2.x_ml = n → st2.x_d = (((body' ++ enc).length : Nat) : Int) → M_LsS.k59 st2 h2 Q := by
      intro enc h2 st2 g0 g1 g2 g3 g4 g5 g6 g7 g8 g9 g10
      have hlen : (body' ++ enc).length ≤ body.length + 3 * (n / 64) + 3 + 2 := by simp; omega
      have hlen3 : (body' ++ enc).length ≤ body.length + 3 * (n / 64) + 3 := by
        rw [List.length_append]; omega
      simp only [SS, M_LsS.k59, M_LsS.k60, M_LsS.r77, M_LsS.r78, g6, g7, g9, g10]
      rw [if_neg (by rw [decide_eq_true_eq]; omega)]
      have eu : IntKind.wrap .i64 ((out.length : Int) + n) = ((fwd out off n).length : Nat) := by rw [w_i64 (by omega) (by omega), fwd_len]; omega
      refine hK _ h2 (body' ++ enc) off ⟨g4, g5, ?_, eu, ?_, g2, ?_, hbb.app (g1 true).1, hF.trans g3⟩ g8 hlen3
      · simp only [g10]
      · simp only [g7]
      intro s2
      have := (hg s2).seq ((g1 s2).2.2 (fwd out off q) last' h0' (by rw [fwd_len]; omega)) (by rw [fwd_len (fwd out off q)]; omega)
      rwa [fwd_add, show q + (n - q) = n by omega] at this
    by_cases g64 : 64 < n - q
    · rw [if_pos (by simp; omega)]
      obtain ⟨x0, x1, x2, hx⟩ := len3 (cut_len (M := M0) (o := body'.length) (k := 3) (by omega))
      rw [putL_more (k := 3) (by omega), hx] at HB
      rw [w_u8_div, w_u8_nat]
      refine putB (j := 2) HB (by simp; omega) (by simp) hd2 (by simp; omega) fun h1 H1 F1 => ?_
      refine putB (j := 1) H1 (by simp; omega) (by simp) hd1 (by simp; omega) fun h2 H2 F2 => ?_
      refine putB (j := 0) H2 (by simp; omega) (by simp) hd0 (by simp; omega) fun h3 H3 F3 => ?_
      simp only [List.set_cons_zero, List.set_cons_succ] at H3
      have el : IntKind.wrap .i64 (((n - q : Nat) : Int) - 64) = ((n - (q + 64) : Nat) : Int) := by rw [w_i64 (by omega) (by omega)]; omega
      rw [el, hd3]
      have hc := fun s2 => copk2 (s2 := s2) (o := off) (n := 64) ho2 (by omega) (by omega)
      refine ⟨⟨trivial, trivial, trivial, trivial, trivial, trivial, trivial, q + 64, body' ++ [254, ((off % 256 : Nat) : Int), ((off / 2 ^ 8 % 256 : Nat) : Int)], off, by simp, rfl, by omega, by omega, by simp; omega, H3, ?_, hbb.app (hc true).1, hF.trans ((F1.trans F2).trans F3)⟩, by omega⟩
      intro s2
      have := (hg s2).seq ((hc s2).2.2 (fwd out off q) last' h0' (by rw [fwd_len]; omega)) (by rw [fwd_len (fwd out off q)]; omega)
      rwa [fwd_add] at this
    rw [if_neg (by simp; omega)]
    by_cases g : n - q ≥ 12 ∨ off ≥ 2048 ∨ n - q < 4
    · have main : ∀ st2 : M_LsS.St, st2.x_dst = ⟨some ⟨db, 0, none⟩, N, N⟩ → st2.x_src = S → st2.x_uncompressed = out.length → st2.x_dLimit = (N : Int) - 10 → st2.x_s = k → st2.x_ml = n → st2.x_offset = off → st2.x_d = body'.length → st2.x_length = ((n - q : Nat) : Int) → ∀ Q2 : Ex → M_LsS.St → Heap → Prop, (∀ st3 h3, M_LsS.k59 st3 h3 Q → Q2 (.exit 7) st3 h3) → M_LsS.k54 st2 h' Q2 := by
        intro st2 g4 g5 g6 g7 g8 g9 g10 g11 g12 Q2 hQ2
        refine threeLsS g4 g10 g11 g12 (by omega) (by omega) ho2 hM (by omega) hN2 HB fun h3 enc st3 t0 t1 t2 t3 t4 t5 t6 t7 t8 t9 t10 => ?_
        exact hQ2 st3 h3 (fin enc h3 st3 (by omega) t1 t2 t3 (t4.trans g4) (t5.trans g5) (t6.trans g6) (t7.trans g7) (t8.trans g8) (t9.trans g9) t10)
      by_cases c1 : n - q ≥ 12
      · rw [if_neg (by simp; omega), if_pos trivial]
        exact main _ (by first | rfl | assumption) (by first | rfl | assumption) (by first | rfl | assumption) (by first | rfl | assumption) (by first | rfl | assumption) (by first | rfl | assumption) (by first | rfl | assumption) (by first | rfl | assumption) (by first | rfl | assumption) _ (fun _ _ h => h)
      · rw [if_pos (by simp; omega)]
        by_cases c2 : off ≥ 2048
        · rw [if_neg (by simp; omega), if_pos trivial]
          exact main _ (by first | rfl | assumption) (by first | rfl | assumption) (by first | rfl | assumption) (by first | rfl | assumption) (by first | rfl | assumption) (by first | rfl | assumption) (by first | rfl | assumption) (by first | rfl | assumption) (by first | rfl | assumption) _ (fun _ _ h => h)
        · rw [if_pos (by simp; omega), if_pos (by simp; omega)]
          exact main _ (by first | rfl | assumption) (by first | rfl | assumption) (by first | rfl | assumption) (by first | rfl | assumption) (by first | rfl | assumption) (by first | rfl | assumption) (by first | rfl | assumption) (by first | rfl | assumption) (by first | rfl | assumption) _ (fun _ _ h => h)
    · rw [if_pos (by simp; omega), if_pos (by simp; omega), if_neg (by simp; omega)]
      refine twoLsS (off := off) (r := n - q) (body' := body') (by first | rfl | assumption) (by first | rfl | assumption) (by first | rfl | assumption) (by first | rfl | assumption) (by omega) (by omega) (by omega) hM (by omega) hN2 HB fun h3 enc st3 t0 t1 t2 t3 t4 t5 t6 t7 t8 t9 t10 => ?_
      exact fin enc h3 st3 (by omega) t1 t2 t3 (t4.trans (by first | rfl | assumption)) (t5.trans (by first | rfl | assumption)) (t6.trans (by first | rfl | assumption)) (t7.trans (by first | rfl | assumption)) (t8.trans (by first | rfl | assumption)) (t9.trans (by first | rfl | assumption)) t10
end

section
variable {S : Sl} {l : List Int} {N db : Nat} {h : Heap} {K : Sl → Int → Value → Heap → Prop}

set_option maxRecDepth 1000000 in
set_option maxHeartbeats 1000000 in
theorem convLsS {p : Option Addr} {res : List Int} (HB : Blk h db ((List.replicate N (0 : Int)).map (Value.int .u8)) 5) (hS : SlI h .u8 S l) (hne : ∀ a, 0 < S.n → S.p = some a → a.block ≠ db) (hb : Bts l) (hl : l.length ≤ 65536) (hN : N = 16 * l.length + 64) (hZ : Z true l 0 [] = some res)
    (hK : ∀ body last h', Blk h' db ((putL (List.replicate N 0) 0 body).map (Value.int .u8)) 5 → (∀ s2, GoesG s2 body res last) → Bts body → body.length ≤ 16 * l.length + 16 → Fr (· = db) h h' → K ⟨some ⟨db, 0, none⟩, body.length, N⟩ res.length .nilIface h') : c_LsS p ⟨some ⟨db, 0, none⟩, 0, N⟩ S h K := by
  have hsl := hS.len
  have hl0 := (Z_step hb hZ).1
  apply M_LsS.calls
  simp only [SS, M_LsS.stm, M_LsS.init, M_LsS.k0, M_LsS.k1, M_LsS.k2, M_LsS.k3, M_LsS.k10, M_LsS.k11, M_LsS.k12, M_LsS.r0, M_LsS.r1, M_LsS.r3, M_LsS.r4, M_LsS.r5, M_LsS.r17, M_LsS.r18]
  rw [if_neg (by simp; omega)]
  refine ⟨by omega, by omega, ?_⟩
  rw [if_neg (by simp), subP0]
  have eN : IntKind.wrap .i64 (((Int.toNat ((N : Nat) : Int) - 0 : Nat) : Int) - 10) = (N : Int) - 10 := by rw [Int.toNat_natCast, Nat.sub_zero, w_i64 (by omega) (by omega)]
  rw [eN, Int.toNat_natCast, Nat.sub_zero]
  refine loop_rule (I := fun s' h' => ∃ (i : Nat) (out body : List Int) (last : Nat), CvLsS S N db h (List.replicate N 0) body out last s' h' ∧ s'.x_s = i ∧ Z true l i out = some res ∧ body.length ≤ 16 * i ∧ out.length ≤ 4194304) (μ := fun s' _ => (l.length - s'.x_s).toNat) ?_ ?_
  · exact ⟨0, [], [], 0, ⟨rfl, rfl, rfl, rfl, rfl, HB, fun _ => GoesG.nil, fun x hx => by (cases hx), Fr.refl _ _⟩, rfl, hZ, by simp, by simp⟩
  · rintro s' h' ⟨i, out, body, last, C, hs, hZi, hbl, hol⟩
    obtain ⟨hi, m, j, hzl, hjm, hij, hor⟩ := Z_step hb hZi
    simp only [SS, M_LsS.k13, M_LsS.r19, C.src, hs]
    rw [if_neg (by simp; omega)]
    have hv := hb.getD i
    refine headLsS C hS hne hb (by omega) hs hi hzl fun s2 C2 d1 d2 d3 => ?_
    have hzle := zlen_le hb hzl (by omega)
    refine litLsS C2 hS hne hb (by omega) hN (by simp) d1 d2 d3 (by omega) hjm (by omega) (by omega) fun s3 h3 body3 C3 d4 d5 d6 => ?_
    rcases hor with ⟨q1, q2, q3⟩ | ⟨q1, q2, off, n, k, q3, q4, q5, q6, q7, q8, q9⟩
    · -- the end
      simp only [SS, M_LsS.k29, M_LsS.r40, M_LsS.k31, M_LsS.k30, M_LsS.r41, M_LsS.r80, M_LsS.res, C3.src, C3.d, C3.dst, C3.u, d4, d5]
      rw [if_pos (by rw [q2]; rfl), if_pos (by simp; omega)]
      refine ⟨by omega, by omega, ?_⟩
      rw [subP0, Int.toNat_natCast, Nat.sub_zero, Nat.sub_zero, ← q3]
      exact hK body3 last h3 C3.blk (q3 ▸ C3.goes) C3.bb (by omega) C3.fr
    · have hol3 : (out ++ (l.drop j).take m).length = out.length + m := by simp; omega
      have hk := (Z_step hb q8).1
      refine offLsS C3 hS hne hb (by omega) d4 d5 (by omega) q2 q3 q4 (by omega) (by omega) q6 hk fun s4 h4 C4 d7 d8 d9 => ?_
      have hzm := zlen_le hb q6 (by have := leAt_le q3; omega)
      have h4' : zleast true ≤ 4 := by decide
      have h4'' : 1 ≤ zleast true := by decide
      have hoff3 : off < 65536 := by
        have h1 := leN_lt ((l.drop (j + m)).take 2) (hb.sub (j + m) 2)
        have h2 : ((l.drop (j + m)).take 2).length ≤ 2 := by simp; omega
        have h3 : 256 ^ ((l.drop (j + m)).take 2).length ≤ 256 ^ 2 := Nat.pow_le_pow_right (by decide) h2
        unfold leAt at q3
        split at q3
        · obtain rfl := Option.some.inj q3
          omega
        · cases q3
      refine cpyLsS C4 (by simp) d7 d8 d9 q4 (by omega) hoff3 (by omega) (by omega) (by omega) (by omega) (by omega) fun s5 h5 body5 last5 C5 d10 d11 => ?_
      refine ⟨⟨k, _, body5, last5, C5, d10, q8, by omega, by rw [fwd_len]; omega⟩, ?_⟩
      simp only [d10]
      omega
end
end Go.Proofs.YtibleenkgmkpmaaDoor

set_option linter.unusedSimpArgs false
set_option linter.unusedVariables false
set_option linter.unusedSectionVars false
namespace Go.Proofs.YtibleenkgmkpmaaDoor
open Go Go.Vc Go.Ml Go.S2

theorem implLz4ConvertSn {h : Heap} {S : Sl} {l res : List Int} (hS : SlI h .u8 S l) (hsB : ∀ a, 0 < S.n → S.p = some a → a.block < h.size) (hb : Bts l) (hl : l.length ≤ 65536) (hZ : Z false l 0 [] = some res) {K : Sl → Int → Bool → Heap → Prop}
    (hK : ∀ s body last h', Own h.size h' .u8 5 s body → (∀ s2, GoesG s2 body res last) → Bts body → body.length ≤ 2 ^ 21 → Old h h' → K s res.length true h') : c_impl_Lz4Convert S true h K := by
  have hsl := hS.len
  apply M_impl_Lz4Convert.calls
  simp only [SS, M_impl_Lz4Convert.k4, M_impl_Lz4Convert.k3, M_impl_Lz4Convert.k2, M_impl_Lz4Convert.k1, M_impl_Lz4Convert.k0, M_impl_Lz4Convert.stm, M_impl_Lz4Convert.r0, M_impl_Lz4Convert.r1, M_impl_Lz4Convert.r2, M_impl_Lz4Convert.r3, M_impl_Lz4Convert.r4, M_impl_Lz4Convert.r5, M_impl_Lz4Convert.r6, M_impl_Lz4Convert.r7, M_impl_Lz4Convert.r8, M_impl_Lz4Convert.init, M_impl_Lz4Convert.res, withH_eq, ptrE_some, add_mk, Nat.zero_add, Nat.add_zero]
  have o1 := Old.new h (zcells Pg 107) 107
  generalize hnew h (zcells Pg 107) 107 = h1 at *
  have hs1 := o1.size
  rw [if_pos trivial]
  have ew : IntKind.wrap .i64 (IntKind.wrap .i64 (16 * ((S.n : Nat) : Int)) + 64) = ((16 * l.length + 64 : Nat) : Int) := by rw [w_i64 (x := 16 * ((S.n : Nat) : Int)) (by omega) (by omega), w_i64 (by omega) (by omega)]; omega
  rw [ew]
  refine mkT_cap (z := .int .u8 0) (by omega) ts5 tb5 (by kernel_rfl) ?_
  have o2 := Old.new h1 (List.replicate (16 * l.length + 64) (.int .u8 0)) 5
  have hb2 := Blk.new h1 (List.replicate (16 * l.length + 64) (.int .u8 0)) 5
  generalize hnew h1 (List.replicate (16 * l.length + 64) (.int .u8 0)) 5 = h2 at *
  rw [← List.map_replicate (f := Value.int .u8) (a := 0)] at hb2
  have hS2 := (hS.ext o1.ext).ext o2.ext
  have key : c_LcS (some ⟨h.size, 0, none⟩) ⟨some ⟨h1.size, 0, none⟩, 0, 16 * l.length + 64⟩ S h2 fun s r e h6 => nilE e fun b1 => if (!b1) = true then K ⟨none, 0, 0⟩ 0 false h6 else c_impl_copied s h6 fun w2 h1 => K w2 r true h1 := by
    refine convLcS hb2 hS2 (fun a h0 ha => by have := hsB a h0 ha; omega) hb hl rfl hZ fun body last h3 q1 q2 q3 q4 q5 => ?_
    simp only [nilE, isNilI]
    rw [if_neg (by simp)]
    have o3 : Old h h3 := o1.trans (Keep.old ((Keep.of_old o2).trans (Keep.of_fr q5 (Nat.le_refl _))))
    refine copiedS (sl_putL (N := 0) q1 (by omega)) (by omega) fun s h4 HO o4 => ?_
    exact hK s body last h4 (HO.mono (by have := o3.size; omega)) q2 q3 (by omega) (o3.trans o4)
  exact key

theorem implLz4sConvertSn {h : Heap} {S : Sl} {l res : List Int} (hS : SlI h .u8 S l) (hsB : ∀ a, 0 < S.n → S.p = some a → a.block < h.size) (hb : Bts l) (hl : l.length ≤ 65536) (hZ : Z true l 0 [] = some res) {K : Sl → Int → Bool → Heap → Prop}
    (hK : ∀ s body last h', Own h.size h' .u8 5 s body → (∀ s2, GoesG s2 body res last) → Bts body → body.length ≤ 2 ^ 21 → Old h h' → K s res.length true h') : c_impl_Lz4sConvert S true h K := by
  have hsl := hS.len
  apply M_impl_Lz4sConvert.calls
  simp only [SS, M_impl_Lz4sConvert.k4, M_impl_Lz4sConvert.k3, M_impl_Lz4sConvert.k2, M_impl_Lz4sConvert.k1, M_impl_Lz4sConvert.k0, M_impl_Lz4sConvert.stm, M_impl_Lz4sConvert.r0, M_impl_Lz4sConvert.r1, M_impl_Lz4sConvert.r2, M_impl_Lz4sConvert.r3, M_impl_Lz4sConvert.r4, M_impl_Lz4sConvert.r5, M_impl_Lz4sConvert.r6, M_impl_Lz4sConvert.r7, M_impl_Lz4sConvert.r8, M_impl_Lz4sConvert.init, M_impl_Lz4sConvert.res, withH_eq, ptrE_some, add_mk, Nat.zero_add, Nat.add_zero]
  have o1 := Old.new h (zcells Pg 104) 104
  generalize hnew h (zcells Pg 104) 104 = h1 at *
  have hs1 := o1.size
  rw [if_pos trivial]
  have ew : IntKind.wrap .i64 (IntKind.wrap .i64 (16 * ((S.n : Nat) : Int)) + 64) = ((16 * l.length + 64 : Nat) : Int) := by rw [w_i64 (x := 16 * ((S.n : Nat) : Int)) (by omega) (by omega), w_i64 (by omega) (by omega)]; omega
  rw [ew]
  refine mkT_cap (z := .int .u8 0) (by omega) ts5 tb5 (by kernel_rfl) ?_
  have o2 := Old.new h1 (List.replicate (16 * l.length + 64) (.int .u8 0)) 5
  have hb2 := Blk.new h1 (List.replicate (16 * l.length + 64) (.int .u8 0)) 5
  generalize hnew h1 (List.replicate (16 * l.length + 64) (.int .u8 0)) 5 = h2 at *
  rw [← List.map_replicate (f := Value.int .u8) (a := 0)] at hb2
  have hS2 := (hS.ext o1.ext).ext o2.ext
  have key : c_LsS (some ⟨h.size, 0, none⟩) ⟨some ⟨h1.size, 0, none⟩, 0, 16 * l.length + 64⟩ S h2 fun s r e h6 => nilE e fun b1 => if (!b1) = true then K ⟨none, 0, 0⟩ 0 false h6 else c_impl_copied s h6 fun w2 h1 => K w2 r true h1 := by
    refine convLsS hb2 hS2 (fun a h0 ha => by have := hsB a h0 ha; omega) hb hl rfl hZ fun body last h3 q1 q2 q3 q4 q5 => ?_
    simp only [nilE, isNilI]
    rw [if_neg (by simp)]
    have o3 : Old h h3 := o1.trans (Keep.old ((Keep.of_old o2).trans (Keep.of_fr q5 (Nat.le_refl _))))
    refine copiedS (sl_putL (N := 0) q1 (by omega)) (by omega) fun s h4 HO o4 => ?_
    exact hK s body last h4 (HO.mono (by have := o3.size; omega)) q2 q3 (by omega) (o3.trans o4)
  exact key

theorem join {h : Heap} {S S' : Sl} {l l' : List Int} (hS : SlI h .u8 S l) (hS' : SlI h .u8 S' l') (hl : l.length < 2 ^ 36) (hl' : l'.length < 2 ^ 36) {K : Sl → Heap → Prop} (hK : ∀ s h', Own h.size h' .u8 5 s (l ++ l') → Old h h' → K s h') : c_laws_join S S' h K := by
  have hsl := hS.len
  have hsl' := hS'.len
  apply M_laws_join.calls
  simp only [SS, M_laws_join.k1, M_laws_join.k0, M_laws_join.stm, M_laws_join.r0, M_laws_join.r1, M_laws_join.r2, M_laws_join.r3, M_laws_join.init, M_laws_join.res]
  have ew : IntKind.wrap .i64 ((S.n : Int) + (S'.n : Nat)) = ((l.length + l'.length : Nat) : Int) := by rw [w_i64 (by omega) (by omega)]; omega
  rw [ew]
  refine mkT_cap (z := .int .u8 0) (by omega) ts5 tb5 (by kernel_rfl) ?_
  have o1 := Old.new h (List.replicate (l.length + l'.length) (.int .u8 0)) 5
  have HN : Own h.size (hnew h (List.replicate (l.length + l'.length) (.int .u8 0)) 5) .u8 5 ⟨some ⟨h.size, 0, none⟩, 0, l.length + l'.length⟩ [] :=
    ⟨rfl, Nat.zero_le _, Or.inr ⟨h.size, _, rfl, Nat.le_refl _, Blk.new _ _ _, by simp, by simp⟩⟩
  generalize hnew h (List.replicate (l.length + l'.length) (.int .u8 0)) 5 = h1 at *
  have hs1 := o1.size
  refine append_own (s := ⟨some ⟨h.size, 0, none⟩, 0, l.length + l'.length⟩) (l := []) (news := l) HN ts5 tb5 z5 hsl.symm ?_ (by simp only; omega) hs1 fun p' c' h2 HO2 HF2 _ => ?_
  · have := src_sl (hS.ext o1.ext) (m := S.n) (Nat.le_refl _) (n := S.n) (c := S.c)
    rwa [List.take_of_length_le (by omega)] at this
  have k2 : Keep h.size h h2 := (Keep.of_old o1).trans (HN.keep HF2)
  have o2 : Old h h2 := Keep.old k2
  refine append_own (s := ⟨p', 0 + S.n, c'⟩) (l := [] ++ l) (news := l') HO2 ts5 tb5 z5 hsl'.symm ?_ (by simp only; omega) k2.size fun p3 c3 h3 HO3 HF3 _ => ?_
  · have := src_sl (hS'.ext o2.ext) (m := S'.n) (Nat.le_refl _) (n := S'.n) (c := S'.c)
    rwa [List.take_of_length_le (by omega)] at this
  simp only [List.nil_append] at HO3
  exact hK _ h3 HO3 (Keep.old (k2.trans (HO2.keep HF3)))

theorem convertSn {md : Bool} {h : Heap} {S : Sl} {l res : List Int} (hS : SlI h .u8 S l) (hsB : ∀ a, 0 < S.n → S.p = some a → a.block < h.size) (hb : Bts l) (hl : l.length ≤ 65536) (hZ : Z md l 0 [] = some res) {K : Sl → Int → Bool → Heap → Prop}
    (hK : ∀ s body last h', Own h.size h' .u8 5 s body → (∀ s2, GoesG s2 body res last) → Bts body → body.length ≤ 2 ^ 21 → Old h h' → K s res.length true h') : c_laws_convert S md true h K := by
  apply M_laws_convert.calls
  simp only [SS, M_laws_convert.k0, M_laws_convert.stm, M_laws_convert.r0, M_laws_convert.r1, M_laws_convert.r2, M_laws_convert.r3, M_laws_convert.init, M_laws_convert.res]
  cases md with
  | true => rw [if_pos rfl]; exact implLz4sConvertSn hS hsB hb hl hZ hK
  | false => rw [if_neg (by simp)]; exact implLz4ConvertSn hS hsB hb hl hZ hK

theorem Own.below {B : Nat} {h : Heap} {k : IntKind} {e : TypeId} {s : Sl} {l : List Int} (H : Own B h k e s l) : ∀ a, s.p = some a → a.block < h.size := by
  intro a ha
  rcases H.mem with ⟨h1, _⟩ | ⟨b, cs, hp, _, hbk, _⟩
  · rw [h1] at ha; cases ha
  · rw [hp] at ha
    obtain rfl := Option.some.inj ha
    exact hbk.lt

end Go.Proofs.YtibleenkgmkpmaaDoor
