/- A part of the proof. -/
import Derived.Test.YtibleenkgmkpmaaDoorS2w
set_option linter.unusedSimpArgs false
set_option linter.unusedVariables false
set_option linter.unusedSectionVars false
namespace Go.Proofs.YtibleenkgmkpmaaDoor
open Go Go.Vc Go.Ml Go.S2

def repLo (k : Nat) : Nat := [4, 8, 260, 65540].getD k 0
def repHi (k : Nat) : Nat := [8, 263, 65795, 66000].getD k 0
theorem rep_facts {k : Nat} (hk : k ≤ 3) : repLo k ≤ repHi k ∧ repHi k ≤ 66000 ∧ 4 ≤ repLo k ∧ repHi k - repLo k < 256 ^ (max k 1) ∧ (0 < k → repLo k = moreBase (k + 4)) ∧ (k = 0 → repLo k = 4 ∧ repHi k = 8) := by
  have : k = 0 ∨ k = 1 ∨ k = 2 ∨ k = 3 := by omega
  rcases this with rfl | rfl | rfl | rfl <;> decide

section
variable {B : Nat} {h : Heap} {wb : Nat} {body out : List Int} {last : Nat} {K : Heap → Prop}

theorem repeatW {off len : Nat} {v : Int} {D : Sl} (H : Wri B h wb body out last) (hB : B ≤ h.size) (hoff : off < 2 ^ 32) (hlen : len < 2 ^ 32) (hbl : body.length < 2 ^ 38) (hol : out.length < 2 ^ 38)
    (hK : ∀ h' body' out' last', Wri B h' wb body' out' last' → Next body out last body' out' last' → Keep B h h' → K h') : c_writer_repeat (some ⟨wb, 0, none⟩) v D off len h K := by
  apply M_writer_repeat.calls
  simp only [st_reg, st_ret, st_exit, st_skip, st_test, st_block, st_cond, sq_reg, sq_ret, sq_exit, sq_skip, sq_test, sq_cond, sq_block, sq_seq, sq_loop, SK_norm, SK_exit, SK_ret, BK_norm, BK_ret, BK_same, BK_exit, LK_norm, LK_exit, LK_ret, endK_norm, endK_ret, M_writer_repeat.stm, M_writer_repeat.init, M_writer_repeat.k0, M_writer_repeat.r0, M_writer_repeat.r1, M_writer_repeat.res, withH_eq, ptrE_some, add_mk, Nat.zero_add, Nat.add_zero]
  have hPB := Blk.new h [.int .u8 v, .slice D.p D.n D.c, .int .u32 (off : Int), .int .u32 (len : Int)] 73
  have o1 := Old.new h [.int .u8 v, .slice D.p D.n D.c, .int .u32 (off : Int), .int .u32 (len : Int)] 73
  generalize hnew h [.int .u8 v, .slice D.p D.n D.c, .int .u32 (off : Int), .int .u32 (len : Int)] 73 = h1 at *
  have hs1 := o1.size
  have H1 := H.old o1
  have quit : K h1 := hK h1 _ _ _ H1 (Next.refl _ _ _) (Keep.of_old o1)
  refine ⟨last, H1.get3, ?_⟩
  by_cases h0 : last = 0
  · rw [if_neg (by simp [h0]), if_pos trivial]
    exact ⟨quit, quit⟩
  rw [if_pos (by simp; omega)]
  have main : last ≤ out.length → ∀ st : M_writer_repeat.St, st.x_w = some ⟨wb, 0, none⟩ → st.x_pq3 = some ⟨h.size, 0, none⟩ → M_writer_repeat.k1 st h1 (endK (M_writer_repeat.res K)) := by
    intro hlo st f1 f2
    simp only [st_reg, st_ret, st_exit, st_skip, st_test, st_block, st_cond, sq_reg, sq_ret, sq_exit, sq_skip, sq_test, sq_cond, sq_block, sq_seq, sq_loop, SK_norm, SK_exit, SK_ret, BK_norm, BK_ret, BK_same, BK_exit, LK_norm, LK_exit, LK_ret, endK_norm, endK_ret, M_writer_repeat.k1, M_writer_repeat.r2, f1, f2, withH_eq, ptrE_some, add_mk, Nat.zero_add, Nat.add_zero]
    refine ⟨off, hPB.get rfl, ?_⟩
    refine within (n := off) (a := 0) (b := 3) (by omega) (by omega) (by omega) ?_
    obtain ⟨k, hk⟩ : ∃ k, 0 + off % (3 - 0 + 1) = k := ⟨_, rfl⟩
    have hk3 : k ≤ 3 := by omega
    rw [hk]
    have hf := rep_facts hk3
    have hcase : k = 0 ∨ k = 1 ∨ k = 2 ∨ k = 3 := by omega
    simp only [st_reg, st_ret, st_exit, st_skip, st_test, st_block, st_cond, sq_reg, sq_ret, sq_exit, sq_skip, sq_test, sq_cond, sq_block, sq_seq, sq_loop, SK_norm, SK_exit, SK_ret, BK_norm, BK_ret, BK_same, BK_exit, LK_norm, LK_exit, LK_ret, endK_norm, endK_ret, M_writer_repeat.k2, M_writer_repeat.k3, M_writer_repeat.r3, M_writer_repeat.r4, f1, f2, withH_eq, ptrE_some, add_mk, Nat.zero_add, Nat.add_zero]
    have o2 := Old.new h1 [.int .i64 (4 : Int), .int .i64 (8 : Int), .int .i64 (260 : Int), .int .i64 (65540 : Int)] 3
    have hb2 := Blk.new h1 [.int .i64 (4 : Int), .int .i64 (8 : Int), .int .i64 (260 : Int), .int .i64 (65540 : Int)] 3
    generalize hnew h1 [.int .i64 (4 : Int), .int .i64 (8 : Int), .int .i64 (260 : Int), .int .i64 (65540 : Int)] 3 = h2 at *
    refine ⟨by omega, by omega, repLo k, ?_, last, (H1.old o2).get3, ?_⟩
    · rw [show Int.toNat (k : Int) * 1 = k by omega]
      refine hb2.get ?_
      rcases hcase with rfl | rfl | rfl | rfl <;> rfl
    have o3 := Old.new h2 [.int .i64 (8 : Int), .int .i64 (263 : Int), .int .i64 (65795 : Int), .int .i64 (66000 : Int)] 3
    have hb3 := Blk.new h2 [.int .i64 (8 : Int), .int .i64 (263 : Int), .int .i64 (65795 : Int), .int .i64 (66000 : Int)] 3
    generalize hnew h2 [.int .i64 (8 : Int), .int .i64 (263 : Int), .int .i64 (65795 : Int), .int .i64 (66000 : Int)] 3 = h3 at *
    have hs2 := o2.size
    have hs3 := o3.size
    refine ⟨by omega, by omega, repHi k, ?_, ?_⟩
    · rw [show Int.toNat (k : Int) * 1 = k by omega]
      refine hb3.get ?_
      rcases hcase with rfl | rfl | rfl | rfl <;> rfl
    have H3 := (H1.old o2).old o3
    have hP3 := o3.Blk (o2.Blk hPB)
    refine H3.longest (by omega) (by omega) ?_
    simp only [st_reg, st_ret, st_exit, st_skip, st_test, st_block, st_cond, sq_reg, sq_ret, sq_exit, sq_skip, sq_test, sq_cond, sq_block, sq_seq, sq_loop, SK_norm, SK_exit, SK_ret, BK_norm, BK_ret, BK_same, BK_exit, LK_norm, LK_exit, LK_ret, endK_norm, endK_ret, M_writer_repeat.k4, M_writer_repeat.k5, M_writer_repeat.r5, M_writer_repeat.r6, f1, f2, withH_eq, ptrE_some, add_mk, Nat.zero_add, Nat.add_zero]
    rw [if_neg (by simp <;> omega)]
    refine ⟨len, hP3.get rfl, ?_⟩
    refine within (n := len) (a := repLo k) (b := repHi k) (by omega) (by omega) (by omega) ?_
    obtain ⟨n, hn⟩ : ∃ n, repLo k + len % (repHi k - repLo k + 1) = n := ⟨_, rfl⟩
    have hnr : repLo k ≤ n ∧ n ≤ repHi k := by
      have := Nat.mod_lt len (show repHi k - repLo k + 1 > 0 by omega)
      omega
    rw [hn]
    have hko : Keep B h h3 := Keep.of_old (o1.trans (o2.trans o3))
    -- from where the tag is known
    have fin : ∀ (tag : Nat) (st : M_writer_repeat.St), st.x_w = some ⟨wb, 0, none⟩ → st.x_bytes = k → st.x_least = repLo k → st.x_length = n → st.x_tag = tag → (k = 0 → tag = n - 4) → (0 < k → tag = k + 4) → M_writer_repeat.k8 st h3 (endK (M_writer_repeat.res K)) := by
      intro tag st g1 g2 g3 g4 g5 t0 t1
      have htag : tag < 8 := by
        rcases Nat.eq_zero_or_pos k with h | h
        · have := t0 h; have := hf.2.2.2.2.2 h; omega
        · have := t1 h; omega
      simp only [st_reg, st_ret, st_exit, st_skip, st_test, st_block, st_cond, sq_reg, sq_ret, sq_exit, sq_skip, sq_test, sq_cond, sq_block, sq_seq, sq_loop, SK_norm, SK_exit, SK_ret, BK_norm, BK_ret, BK_same, BK_exit, LK_norm, LK_exit, LK_ret, endK_norm, endK_ret, M_writer_repeat.k8, M_writer_repeat.r10, M_writer_repeat.r11, M_writer_repeat.r12, M_writer_repeat.res, g1, g2, g3, g4, g5, withH_eq, ptrE_some, add_mk, Nat.zero_add, Nat.add_zero]
      obtain ⟨p, n', c, hcl, happ⟩ := H3.get0 (by omega)
      refine ⟨p, n', c, hcl, ?_⟩
      have ev : IntKind.wrap .u8 (bOr .i64 (IntKind.wrap .i64 ((tag : Int) * 2 ^ 2)) 1) = ((tag * 4 + 1 : Nat) : Int) := by
        rw [w_i64 (by omega) (by omega)]
        have e2 : (tag : Int) * 2 ^ 2 = ((tag * 4 : Nat) : Int) := by omega
        have e3 : bOr .i64 ((tag * 4 : Nat) : Int) 1 = ((tag * 4 ||| 1 : Nat) : Int) := or_i64 (by omega) (by decide)
        rw [e2, e3, (lor_tag2 tag (by omega)).2.2, w_u8_nat, Nat.mod_eq_of_lt (by omega)]
      rw [ev]
      refine happ _ [((tag * 4 + 1 : Nat) : Int), 0] _ _ _ (Old.new _ _ _) rfl (src_sl (sl_new h3 .u8 [((tag * 4 + 1 : Nat) : Int), 0] 5) (m := 2) (by simp)) (by omega) fun h4 H4 hk4 => ?_
      have hkk4 := (Keep.of_old (Old.new h3 [.int .u8 ((tag * 4 + 1 : Nat) : Int), .int .u8 0] 5)).trans hk4
      have hs4 := hkk4.size
      have em : IntKind.wrap .i64 ((n : Int) - (repLo k : Nat)) = ((n - repLo k : Nat) : Int) := by rw [w_i64 (by omega) (by omega)]; omega
      rw [em]
      have fin2 : ∀ h5, Wri B h5 wb (body ++ [((tag * 4 + 1 : Nat) : Int), 0] ++ leB k (n - repLo k)) out last → Keep B h4 h5 → ∃ v3 : Int, hcell h5 ⟨wb, 3, none⟩ = some (.int .i64 v3) ∧ c_state_copied (some ⟨wb, 1, none⟩) v3 n h5 fun _ h => K h := by
        intro h5 H5 hk5
        have hs5 := hk5.size
        rw [List.append_assoc] at H5
        refine ⟨last, H5.get3, ?_⟩
        refine H5.copied (off := last) (len := n) (by omega) rfl rfl (by omega) (by omega) (by omega) fun h6 H6 hk6 => ?_
        refine hK h6 _ _ _ H6 (Next.elem ?_ (by rw [fwd_len]; omega) (by rw [fwd_len]; omega) (by simp [leB_len]; omega) ?_ (fun h => fwd_byt h n)) (hko.trans (hkk4.trans (hk5.trans hk6)))
        · rcases Nat.eq_zero_or_pos k with hk0 | hk0
          · have := t0 hk0
            have := hf.2.2.2.2.2 hk0
            subst hk0
            rw [t0 rfl]
            exact elem_rep0 (by omega) (by omega) (by omega) (by omega)
          · have e1 := hf.2.2.2.2.1 hk0
            have e2 : n = n - repLo k + moreBase (k + 4) := by omega
            rw [t1 hk0]
            have e3 : max k 1 = k := by omega
            have := elem_repk (k := k) (m := n - repLo k) (out := out) (last := last) (by omega) (by omega) (by omega) (by omega) (by have := hf.2.2.2.1; rw [e3] at this; omega)
            rw [← e2] at this
            exact this
        · intro x hx
          rcases List.mem_append.1 hx with hx | hx
          · rcases List.mem_cons.1 hx with rfl | hx
            · omega
            · obtain rfl := List.mem_singleton.1 hx
              omega
          · exact leB_bts _ _ x hx
      refine ⟨?_, ?_⟩
      · obtain ⟨p, n', c, hc, happ⟩ := H4.get0 (by omega)
        refine ⟨p, n', c, hc, ?_⟩
        refine bytesOf (by omega) (by omega) fun s h5 HO o5 => ?_
        have hsl := HO.len
        have hsk : s.n = k := by rw [← hsl, leB_len]
        refine happ h5 (leB k (n - repLo k)) _ _ _ o5 hsl ?_ (by simp; omega) fun h6 H6 hk6 => ?_
        · have := src_sl HO.sl (m := s.n) (Nat.le_refl _) (n := s.n) (c := s.c)
          rwa [List.take_of_length_le (by omega)] at this
        exact fin2 h6 H6 ((Keep.of_old o5).trans hk6)
      · refine bytesOf (by omega) (by omega) fun s h5 HO o5 => ?_
        have hsl := HO.len
        have hsk : s.n = k := by rw [← hsl, leB_len]
        have hs5 := o5.size
        obtain ⟨p, n', c, hc, happ⟩ := (H4.old o5).get0 (by omega)
        refine ⟨p, n', c, hc, ?_⟩
        refine happ h5 (leB k (n - repLo k)) _ _ _ (Old.refl _) hsl ?_ (by simp; omega) fun h6 H6 hk6 => ?_
        · have := src_sl HO.sl (m := s.n) (Nat.le_refl _) (n := s.n) (c := s.c)
          rwa [List.take_of_length_le (by omega)] at this
        exact fin2 h6 H6 ((Keep.of_old o5).trans hk6)
    simp only [st_reg, st_ret, st_exit, st_skip, st_test, st_block, st_cond, sq_reg, sq_ret, sq_exit, sq_skip, sq_test, sq_cond, sq_block, sq_seq, sq_loop, SK_norm, SK_exit, SK_ret, BK_norm, BK_ret, BK_same, BK_exit, LK_norm, LK_exit, LK_ret, endK_norm, endK_ret, M_writer_repeat.k6, M_writer_repeat.k7, M_writer_repeat.r7, M_writer_repeat.r8, M_writer_repeat.r9, f1, f2, withH_eq, ptrE_some, add_mk, Nat.zero_add, Nat.add_zero]
    by_cases hk0 : k = 0
    · rw [if_pos (by simp [hk0])]
      have := hf.2.2.2.2.2 hk0
      exact fin (n - 4) _ rfl rfl rfl rfl (by simp only; rw [w_i64 (by omega) (by omega)]; omega) (fun _ => rfl) (fun h => by omega)
    · rw [if_neg (by simp; omega)]
      exact fin (k + 4) _ rfl rfl rfl rfl (by simp only; rw [w_i64 (by omega) (by omega)]; omega) (fun h => by omega) (fun _ => rfl)
  by_cases hlo : last ≤ out.length
  · refine ⟨⟨last, H1.get3, H1.back (by omega) (by omega) ?_⟩, H1.back (by omega) (by omega) ⟨last, H1.get3, ?_⟩⟩
    · rw [if_neg (by simp; omega)]; exact main hlo _ rfl rfl
    · rw [if_neg (by simp; omega)]; exact main hlo _ rfl rfl
  · refine ⟨⟨last, H1.get3, H1.back (by omega) (by omega) ?_⟩, H1.back (by omega) (by omega) ⟨last, H1.get3, ?_⟩⟩
    · rw [if_pos (by simp; omega)]; exact quit
    · rw [if_pos (by simp; omega)]; exact quit
end
end Go.Proofs.YtibleenkgmkpmaaDoor
