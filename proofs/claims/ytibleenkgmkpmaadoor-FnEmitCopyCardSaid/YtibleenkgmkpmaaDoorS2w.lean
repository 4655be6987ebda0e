/- A part of the proof. -/
import Derived.Test.YtibleenkgmkpmaaDoorS2v
set_option linter.unusedSimpArgs false
set_option linter.unusedVariables false
set_option linter.unusedSectionVars false
namespace Go.Proofs.YtibleenkgmkpmaaDoor
open Go Go.Vc Go.Ml Go.S2

theorem lor_tag1 : ∀ a, a < 8 → ∀ b, b < 8 → ((a * 32 ||| b * 4) ||| 1) = a * 32 + b * 4 + 1 := by decide +kernel
theorem lor_tag2 : ∀ a, a < 64 → (a * 4 ||| 2) = a * 4 + 2 ∧ (a * 4 ||| 3) = a * 4 + 3 ∧ (a * 4 ||| 1) = a * 4 + 1 := by decide +kernel

section
variable {B : Nat} {h : Heap} {wb : Nat} {body out : List Int} {last : Nat} {K : Heap → Prop}

theorem copy {k off len : Nat} {v : Int} {D : Sl} (H : Wri B h wb body out last) (hB : B ≤ h.size) (hk : k = 1 ∨ k = 2 ∨ k = 4) (hoff : off < 2 ^ 32) (hlen : len < 2 ^ 32) (hbl : body.length < 2 ^ 38) (hol : out.length < 2 ^ 38)
    (hK : ∀ h' body' out' last', Wri B h' wb body' out' last' → Next body out last body' out' last' → Keep B h h' → K h') : c_writer_copy (some ⟨wb, 0, none⟩) k v D off len h K := by
  apply M_writer_copy.calls
  simp only [st_reg, st_ret, st_exit, st_skip, st_test, st_block, st_cond, sq_reg, sq_ret, sq_exit, sq_skip, sq_test, sq_cond, sq_block, sq_seq, sq_loop, SK_norm, SK_exit, SK_ret, BK_norm, BK_ret, BK_same, BK_exit, LK_norm, LK_exit, LK_ret, endK_norm, endK_ret, M_writer_copy.stm, M_writer_copy.init, M_writer_copy.k0, M_writer_copy.r0, M_writer_copy.r1, withH_eq, ptrE_some, add_mk, Nat.zero_add, Nat.add_zero]
  have hPB := Blk.new h [.int .u8 v, .slice D.p D.n D.c, .int .u32 (off : Int), .int .u32 (len : Int)] 73
  have o1 := Old.new h [.int .u8 v, .slice D.p D.n D.c, .int .u32 (off : Int), .int .u32 (len : Int)] 73
  generalize hnew h [.int .u8 v, .slice D.p D.n D.c, .int .u32 (off : Int), .int .u32 (len : Int)] 73 = h1 at *
  have hs1 := o1.size
  have H1 := H.old o1
  have fin : ∀ (least most far : Nat) (st : M_writer_copy.St), st.x_w = some ⟨wb, 0, none⟩ → st.x_bytes = k → st.x_pq5 = some ⟨h.size, 0, none⟩ → st.x_least = least → st.x_most = most → st.x_far = far →
      (k = 1 ∧ least = 4 ∧ most = 11 ∧ far = 2047 ∨ (k = 2 ∨ k = 4) ∧ least = 1 ∧ most = 64 ∧ far = 256 ^ k - 1) → M_writer_copy.k2 st h1 (endK (M_writer_copy.res K)) := by
    intro least most far st f1 f2 f3 f4 f5 f6 hc
    have hfar : far < 2 ^ 32 := by
      rcases hc with ⟨_, _, _, rfl⟩ | ⟨rfl | rfl, _, _, rfl⟩ <;> omega
    simp only [st_reg, st_ret, st_exit, st_skip, st_test, st_block, st_cond, sq_reg, sq_ret, sq_exit, sq_skip, sq_test, sq_cond, sq_block, sq_seq, sq_loop, SK_norm, SK_exit, SK_ret, BK_norm, BK_ret, BK_same, BK_exit, LK_norm, LK_exit, LK_ret, endK_norm, endK_ret, M_writer_copy.k2, M_writer_copy.k3, M_writer_copy.r4, M_writer_copy.r5, M_writer_copy.res, f1, f2, f3, f4, f5, f6]
    refine H1.back (by omega) (by omega) ?_
    have emin : (if ((out.length : Nat) : Int) < (far : Int) then ((out.length : Nat) : Int) else (far : Int)) = ((min out.length far : Nat) : Int) := by split <;> omega
    rw [emin]
    by_cases hz : min out.length far < 1
    · rw [if_pos (by simp <;> omega)]
      exact hK h1 _ _ _ H1 (Next.refl _ _ _) (Keep.of_old o1)
    rw [if_neg (by simp <;> omega)]
    simp only [st_reg, st_ret, st_exit, st_skip, st_test, st_block, st_cond, sq_reg, sq_ret, sq_exit, sq_skip, sq_test, sq_cond, sq_block, sq_seq, sq_loop, SK_norm, SK_exit, SK_ret, BK_norm, BK_ret, BK_same, BK_exit, LK_norm, LK_exit, LK_ret, endK_norm, endK_ret, M_writer_copy.k4, M_writer_copy.k5, M_writer_copy.r6, M_writer_copy.r7, f1, f2, f3, f4, f5, f6, withH_eq, ptrE_some, add_mk, Nat.zero_add, Nat.add_zero]
    refine ⟨off, hPB.get rfl, ?_⟩
    refine within (n := off) (a := 1) (b := min out.length far) (by omega) (by omega) (by omega) ?_
    obtain ⟨o, ho⟩ : ∃ o, 1 + off % (min out.length far - 1 + 1) = o := ⟨_, rfl⟩
    have hor : 1 ≤ o ∧ o ≤ out.length ∧ o ≤ far := by
      have := Nat.mod_lt off (show min out.length far - 1 + 1 > 0 by omega)
      omega
    rw [ho]
    refine H1.longest (by omega) (by omega) ?_
    simp only [st_reg, st_ret, st_exit, st_skip, st_test, st_block, st_cond, sq_reg, sq_ret, sq_exit, sq_skip, sq_test, sq_cond, sq_block, sq_seq, sq_loop, SK_norm, SK_exit, SK_ret, BK_norm, BK_ret, BK_same, BK_exit, LK_norm, LK_exit, LK_ret, endK_norm, endK_ret, M_writer_copy.k6, M_writer_copy.r8, f1, f2, f3, f4, f5, f6, withH_eq, ptrE_some, add_mk, Nat.zero_add, Nat.add_zero]
    rw [if_neg (by simp <;> omega)]
    simp only [st_reg, st_ret, st_exit, st_skip, st_test, st_block, st_cond, sq_reg, sq_ret, sq_exit, sq_skip, sq_test, sq_cond, sq_block, sq_seq, sq_loop, SK_norm, SK_exit, SK_ret, BK_norm, BK_ret, BK_same, BK_exit, LK_norm, LK_exit, LK_ret, endK_norm, endK_ret, M_writer_copy.k7, M_writer_copy.r9, f1, f2, f3, f4, f5, f6, withH_eq, ptrE_some, add_mk, Nat.zero_add, Nat.add_zero]
    refine ⟨len, hPB.get rfl, ?_⟩
    refine within (n := len) (a := least) (b := most) (by omega) (by omega) (by omega) ?_
    obtain ⟨n, hn⟩ : ∃ n, least + len % (most - least + 1) = n := ⟨_, rfl⟩
    have hnr : least ≤ n ∧ n ≤ most := by
      have := Nat.mod_lt len (show most - least + 1 > 0 by omega)
      omega
    rw [hn]
    have tail : ∀ (enc : List Int) (h2 : Heap), Wri B h2 wb (body ++ enc) out last → Keep B h1 h2 → enc.length ≤ 10 → Elem enc out last (fwd out o n) o → Bts enc → ∀ st' : M_writer_copy.St, st'.x_w = some ⟨wb, 0, none⟩ → st'.x_offset = o → st'.x_length = n →
        M_writer_copy.r14 st' h2 fun s h => M_writer_copy.r15 s h fun _ h => K h := by
      intro enc h2 H2 hk2 hel he hbe st' g1 g2 g3
      simp only [M_writer_copy.r14, M_writer_copy.r15, g1, g2, g3, withH_eq, ptrE_some, add_mk, Nat.zero_add, Nat.add_zero]
      have hs2 := hk2.size
      refine H2.set3 fun h3 H3 hk3 => ?_
      have hs3 := hk3.size
      refine H3.copied (off := o) (len := n) (by omega) rfl rfl (by omega) (by omega) (by omega) fun h4 H4 hk4 => ?_
      exact hK h4 _ _ _ H4 (Next.elem he (by rw [fwd_len]; omega) (by rw [fwd_len]; omega) (by omega) hbe (fun h => fwd_byt h n)) ((Keep.of_old o1).trans (hk2.trans (hk3.trans hk4)))
    simp only [st_reg, st_ret, st_exit, st_skip, st_test, st_block, st_cond, sq_reg, sq_ret, sq_exit, sq_skip, sq_test, sq_cond, sq_block, sq_seq, sq_loop, SK_norm, SK_exit, SK_ret, BK_norm, BK_ret, BK_same, BK_exit, LK_norm, LK_exit, LK_ret, endK_norm, endK_ret, M_writer_copy.k8, M_writer_copy.r10, M_writer_copy.r11, M_writer_copy.r12, M_writer_copy.r13, M_writer_copy.res, f1, f2, f3, f4, f5, f6, withH_eq, ptrE_some, add_mk, Nat.zero_add, Nat.add_zero]
    by_cases hk1 : k = 1
    · rw [if_pos (by simp [hk1])]
      have hc1 : least = 4 ∧ most = 11 ∧ far = 2047 := by omega
      obtain ⟨p, n', c, hcl, happ⟩ := H1.get0 (by omega)
      refine ⟨p, n', c, hcl, ?_⟩
      have ev : IntKind.wrap .u8 (bOr .i64 (bOr .i64 (IntKind.wrap .i64 (Int.fdiv (o : Int) (2 ^ 8) * 2 ^ 5)) (IntKind.wrap .i64 (IntKind.wrap .i64 ((n : Int) - 4) * 2 ^ 2))) 1) = ((o / 256 * 32 + (n - 4) * 4 + 1 : Nat) : Int) := by
        rw [fdiv_nat, w_i64 (x := (n : Int) - 4) (by omega) (by omega), w_i64 (x := ((o / 2 ^ 8 : Nat) : Int) * 2 ^ 5) (by omega) (by omega), w_i64 (by omega) (by omega)]
        have e1 : ((o / 2 ^ 8 : Nat) : Int) * 2 ^ 5 = ((o / 256 * 32 : Nat) : Int) := by omega
        have e2 : ((n : Int) - 4) * 2 ^ 2 = (((n - 4) * 4 : Nat) : Int) := by omega
        rw [e1, e2, or_i64 (by omega) (by omega)]
        have hx : o / 256 * 32 ||| (n - 4) * 4 < 2 ^ 63 := Nat.or_lt_two_pow (by omega) (by omega)
        have e3 : bOr .i64 ((o / 256 * 32 ||| (n - 4) * 4 : Nat) : Int) 1 = ((o / 256 * 32 ||| (n - 4) * 4 ||| 1 : Nat) : Int) := or_i64 hx (by decide)
        rw [e3, lor_tag1 (o / 256) (by omega) (n - 4) (by omega), w_u8_nat, Nat.mod_eq_of_lt (by omega)]
      rw [ev, w_u8_nat]
      refine happ _ [((o / 256 * 32 + (n - 4) * 4 + 1 : Nat) : Int), ((o % 256 : Nat) : Int)] _ _ _ (Old.new _ _ _) rfl (src_sl (sl_new h1 .u8 [((o / 256 * 32 + (n - 4) * 4 + 1 : Nat) : Int), ((o % 256 : Nat) : Int)] 5) (m := 2) (by simp)) (by omega) fun h2 H2 hk2 => ?_
      refine tail _ h2 H2 ((Keep.of_old (Old.new _ _ _)).trans hk2) (by simp) (elem_copy1 (by omega) (by omega) (by omega) (by omega) (by omega)) ?_ _ rfl rfl rfl
      intro x hx
      rcases List.mem_cons.1 hx with rfl | hx
      · omega
      · obtain rfl := List.mem_singleton.1 hx
        omega
    · have hk24 : k = 2 ∨ k = 4 := by omega
      have hc1 : least = 1 ∧ most = 64 ∧ far = 256 ^ k - 1 := by omega
      rw [if_neg (by simp; omega)]
      obtain ⟨p, n', c, hcl, happ⟩ := H1.get0 (by omega)
      refine ⟨p, n', c, hcl, ?_⟩
      have ev : IntKind.wrap .u8 (bOr .i64 (IntKind.wrap .i64 (IntKind.wrap .i64 ((n : Int) - 1) * 2 ^ 2)) (IntKind.wrap .i64 (IntKind.wrap .i64 (Int.tdiv (k : Int) 2) + 1))) = (((n - 1) * 4 + (k / 2 + 1) : Nat) : Int) := by
        have e0 : Int.tdiv (k : Int) 2 = ((k / 2 : Nat) : Int) := rfl
        rw [e0, w_i64 (x := (n : Int) - 1) (by omega) (by omega), w_i64 (x := ((k / 2 : Nat) : Int)) (by omega) (by omega), w_i64 (by omega) (by omega), w_i64 (by omega) (by omega)]
        have e1 : ((k / 2 : Nat) : Int) + 1 = ((k / 2 + 1 : Nat) : Int) := by omega
        have e2 : ((n : Int) - 1) * 2 ^ 2 = (((n - 1) * 4 : Nat) : Int) := by omega
        rw [e1, e2, or_i64 (by omega) (by omega)]
        have := lor_tag2 (n - 1) (by omega)
        rcases hk24 with rfl | rfl
        · rw [show 2 / 2 + 1 = 2 by rfl, this.1, w_u8_nat, Nat.mod_eq_of_lt (by omega)]
        · rw [show 4 / 2 + 1 = 3 by rfl, this.2.1, w_u8_nat, Nat.mod_eq_of_lt (by omega)]
      rw [ev]
      refine happ _ [(((n - 1) * 4 + (k / 2 + 1) : Nat) : Int)] _ _ _ (Old.new _ _ _) rfl (src_sl (sl_new h1 .u8 [(((n - 1) * 4 + (k / 2 + 1) : Nat) : Int)] 5) (m := 1) (by simp)) (by omega) fun h2 H2 hk2 => ?_
      have hkk2 := (Keep.of_old (Old.new h1 [.int .u8 (((n - 1) * 4 + (k / 2 + 1) : Nat) : Int)] 5)).trans hk2
      have hs2 := hkk2.size
      have ho256 : o < 256 ^ k := by
        have : 0 < 256 ^ k := Nat.pow_pos (by decide)
        omega
      have fin2 : ∀ h3, Wri B h3 wb (body ++ [(((n - 1) * 4 + (k / 2 + 1) : Nat) : Int)] ++ leB k o) out last → Keep B h2 h3 → ∀ st' : M_writer_copy.St, st'.x_w = some ⟨wb, 0, none⟩ → st'.x_offset = o → st'.x_length = n →
          M_writer_copy.r14 st' h3 fun s h => M_writer_copy.r15 s h fun _ h => K h := by
        intro h3 H3 hk3 st' g1 g2 g3
        rw [List.append_assoc] at H3
        refine tail _ h3 H3 (hkk2.trans hk3) (by simp [leB_len]; omega) (elem_copyk hk24 (by omega) (by omega) ho256 (by omega) (by omega)) ?_ st' g1 g2 g3
        intro x hx
        rcases List.mem_cons.1 hx with rfl | hx
        · omega
        · exact leB_bts _ _ x hx
      refine ⟨?_, ?_⟩
      · obtain ⟨p, n', c, hc, happ⟩ := H2.get0 (by omega)
        refine ⟨p, n', c, hc, ?_⟩
        refine bytesOf (by omega) (by omega) fun s h3 HO o3 => ?_
        have hsl := HO.len
        have hsk : s.n = k := by rw [← hsl, leB_len]
        refine happ h3 (leB k o) _ _ _ o3 hsl ?_ (by simp; omega) fun h4 H4 hk4 => ?_
        · have := src_sl HO.sl (m := s.n) (Nat.le_refl _) (n := s.n) (c := s.c)
          rwa [List.take_of_length_le (by omega)] at this
        exact fin2 h4 H4 ((Keep.of_old o3).trans hk4) _ rfl rfl rfl
      · refine bytesOf (by omega) (by omega) fun s h3 HO o3 => ?_
        have hsl := HO.len
        have hsk : s.n = k := by rw [← hsl, leB_len]
        have hs3 := o3.size
        obtain ⟨p, n', c, hc, happ⟩ := (H2.old o3).get0 (by omega)
        refine ⟨p, n', c, hc, ?_⟩
        refine happ h3 (leB k o) _ _ _ (Old.refl _) hsl ?_ (by simp; omega) fun h4 H4 hk4 => ?_
        · have := src_sl HO.sl (m := s.n) (Nat.le_refl _) (n := s.n) (c := s.c)
          rwa [List.take_of_length_le (by omega)] at this
        exact fin2 h4 H4 ((Keep.of_old o3).trans hk4) _ rfl rfl rfl
  simp only [st_reg, st_ret, st_exit, st_skip, st_test, st_block, st_cond, sq_reg, sq_ret, sq_exit, sq_skip, sq_test, sq_cond, sq_block, sq_seq, sq_loop, SK_norm, SK_exit, SK_ret, BK_norm, BK_ret, BK_same, BK_exit, LK_norm, LK_exit, LK_ret, endK_norm, endK_ret, M_writer_copy.k1, M_writer_copy.r2, M_writer_copy.r3]
  rcases hk with rfl | rfl | rfl
  · rw [if_neg (by decide), if_pos (by simp)]
    exact fin 4 11 2047 _ rfl rfl rfl rfl rfl rfl (by omega)
  · rw [if_neg (by decide), if_neg (by simp)]
    exact fin 1 64 65535 _ rfl rfl rfl rfl rfl (by simp only; decide) (by omega)
  · rw [if_neg (by decide), if_neg (by simp)]
    exact fin 1 64 4294967295 _ rfl rfl rfl rfl rfl (by simp only; decide) (by omega)
end
end Go.Proofs.YtibleenkgmkpmaaDoor
