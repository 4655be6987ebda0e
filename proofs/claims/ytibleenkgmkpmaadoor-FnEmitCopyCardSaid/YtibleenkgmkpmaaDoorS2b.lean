/- A part of the proof. -/
import Derived.Test.YtibleenkgmkpmaaDoorS2a
import Derived.Test.YtibleenkgmkpmaaDoorModels1
set_option linter.unusedSimpArgs false
set_option linter.unusedVariables false
set_option linter.unusedSectionVars false
namespace Go.Proofs.YtibleenkgmkpmaaDoor
open Go Go.Vc Go.Ml Go.S2

theorem ts5 : typeSize Pg 5 = 1 := by kernel_rfl
theorem tb5 : typeBytes Pg 5 ≤ 8 := by rw [show typeBytes Pg 5 = 1 by kernel_rfl]; decide
theorem z5 : (zcells Pg 5).length = 1 := by rw [show zcells Pg 5 = [.int .u8 0] by kernel_rfl]; rfl

/-- The slices' blocks: the old one, or a new one. -/
def Follows (h : Heap) (p p' : Option Addr) : Prop := ∀ b, p' = some ⟨b, 0, none⟩ → p = some ⟨b, 0, none⟩ ∨ h.size ≤ b

/-- A copy within what was made; 'false' where it reaches back too far. -/
theorem copied {B sb o : Nat} {e : TypeId} {cs : List Value} {p : Option Addr} {n c : Nat} {out : List Int} {h : Heap} (H : Blk h sb cs e) (h0 : cs[o]? = some (.slice p n c)) (h1 : cs[o + 1]? = some (.slice none 0 0))
    (hO : Own B h .u8 5 ⟨p, n, c⟩ out) (hne : ∀ b, p = some ⟨b, 0, none⟩ → b ≠ sb) (hB : B ≤ h.size) {off len : Nat} {a b : Int} (ha : a = off) (hb : b = len) (hlen : out.length + len < 2 ^ 39) (hoff : off < 2 ^ 40) {K : Bool → Heap → Prop}
    (hbad : off = 0 ∨ out.length < off → K false h)
    (hok : 0 < off → off ≤ out.length → ∀ p' n' c' h', Own B h' .u8 5 ⟨p', n', c'⟩ (fwd out off len) → Blk h' sb (cs.set o (.slice p' n' c')) e → Fr (fun b => b = sb ∨ p = some ⟨b, 0, none⟩) h h' → Follows h p p' → K true h') :
    c_state_copied (some ⟨sb, o, none⟩) a b h K := by
  subst ha hb
  have hnl : out.length = n := hO.len
  apply M_state_copied.calls
  simp only [st_reg, st_ret, st_exit, st_skip, st_test, st_block, st_cond, sq_reg, sq_ret, sq_exit, sq_skip, sq_test, sq_cond, sq_block, sq_seq, sq_loop, SK_norm, SK_exit, SK_ret, BK_norm, BK_ret, BK_same, BK_exit, LK_norm, LK_exit, LK_ret, endK_norm, endK_ret, M_state_copied.stm, M_state_copied.k0, M_state_copied.k1, M_state_copied.init, M_state_copied.res, M_state_copied.r0, M_state_copied.r1, M_state_copied.r2, M_state_copied.r3, withH_eq, ptrE_some, add_mk, Nat.zero_add, Nat.add_zero]
  by_cases hz : off = 0
  · rw [if_pos (by simp [hz])]
    exact hbad (Or.inl hz)
  rw [if_neg (by simp [hz])]
  refine ⟨p, n, c, H.get h0, ?_⟩
  rw [w_i64 (by omega) (by omega)]
  by_cases hr : off ≤ out.length
  case neg =>
    simp only [st_reg, st_ret, st_exit, st_skip, st_test, st_block, st_cond, sq_reg, sq_ret, sq_exit, sq_skip, sq_test, sq_cond, sq_block, sq_seq, sq_loop, SK_norm, SK_exit, SK_ret, BK_norm, BK_ret, BK_same, BK_exit, LK_norm, LK_exit, LK_ret, endK_norm, endK_ret, M_state_copied.k2, M_state_copied.k7, M_state_copied.k8, M_state_copied.res, M_state_copied.r4, M_state_copied.r10, M_state_copied.r11, M_state_copied.r12, withH_eq, ptrE_some, add_mk, Nat.zero_add, Nat.add_zero]
    rw [if_neg (by simp <;> omega)]
    refine ⟨none, 0, 0, H.get h1, ?_⟩
    rw [w_i64 (by omega) (by omega), if_pos (by simp <;> omega)]
    exact hbad (Or.inr (by omega))
  simp only [st_reg, st_ret, st_exit, st_skip, st_test, st_block, st_cond, sq_reg, sq_ret, sq_exit, sq_skip, sq_test, sq_cond, sq_block, sq_seq, sq_loop, SK_norm, SK_exit, SK_ret, BK_norm, BK_ret, BK_same, BK_exit, LK_norm, LK_exit, LK_ret, endK_norm, endK_ret, M_state_copied.k2, M_state_copied.k3, M_state_copied.k4, M_state_copied.r4, M_state_copied.r5, M_state_copied.r9, withH_eq, ptrE_some, add_mk, Nat.zero_add, Nat.add_zero]
  rw [if_pos (by simp <;> omega)]
  refine loop_rule (I := fun s' h' => s'.x_s = some ⟨sb, o, none⟩ ∧ s'.x_offset = off ∧ s'.x_length = len ∧ s'.x_from = (n : Int) - off ∧ ∃ i : Nat, s'.x_i = i ∧ i ≤ len ∧
    ∃ p' n' c', Blk h' sb (cs.set o (.slice p' n' c')) e ∧ Own B h' .u8 5 ⟨p', n', c'⟩ (fwd out off i) ∧ Fr (fun b => b = sb ∨ p = some ⟨b, 0, none⟩) h h' ∧ Follows h p p') (μ := fun s' _ => (len - s'.x_i).toNat) ?_ ?_
  · refine ⟨rfl, rfl, rfl, rfl, 0, rfl, by omega, p, n, c, ?_, hO, Fr.refl _ _, fun b hb => Or.inl hb⟩
    have : cs.set o (.slice p n c) = cs := by
      apply List.ext_getElem?
      intro i
      rw [List.getElem?_set]
      split
      · rename_i hi; subst hi
        split
        · exact h0.symm
        · rename_i hl; rw [List.getElem?_eq_none (by omega)]
      · rfl
    rw [this]; exact H
  · rintro s' h' ⟨e1, e2, e3, e4, i, e5, hi, p', n', c', HB, HO, HF, HW⟩
    have hn' : n' = out.length + i := by have := HO.len; rw [fwd_len] at this; exact this.symm
    have ho : o < cs.length := by
      rcases Nat.lt_or_ge o cs.length with h | h
      · exact h
      · rw [List.getElem?_eq_none h] at h0; cases h0
    have hset : (cs.set o (.slice p' n' c'))[o]? = some (.slice p' n' c') := by rw [List.getElem?_set, if_pos rfl, if_pos ho]
    simp only [st_reg, st_ret, st_exit, st_skip, st_test, st_block, st_cond, sq_reg, sq_ret, sq_exit, sq_skip, sq_test, sq_cond, sq_block, sq_seq, sq_loop, SK_norm, SK_exit, SK_ret, BK_norm, BK_ret, BK_same, BK_exit, LK_norm, LK_exit, LK_ret, endK_norm, endK_ret, M_state_copied.k5, M_state_copied.k6, M_state_copied.r6, M_state_copied.r8, M_state_copied.r7, withH_eq, ptrE_some, add_mk, Nat.zero_add, Nat.add_zero, e1, e2, e3, e4, e5]
    by_cases hc : (i : Int) < len
    · rw [if_pos (by simpa using hc)]
      refine ⟨p', n', c', HB.get hset, p', n', c', HB.get hset, ?_⟩
      simp (disch := omega) only [w_i64, w_u64, w_i32, w_u32, w_u16, w_u8, w_i16, Nat.reducePow]
      have hsl : SlI h' .u8 ⟨p', n', c'⟩ (fwd out off i) := HO.sl
      refine hsl.ld (by omega) (by simp only; omega) ?_
      have ev : ((n : Int) - off + i).toNat = out.length + i - off := by omega
      rw [ev]
      have O1 := Old.new h' [.int .u8 ((fwd out off i).getD (out.length + i - off) 0)] 5
      have S1 := sl_new h' .u8 [(fwd out off i).getD (out.length + i - off) 0] 5
      have hsz : h'.size ≥ h.size := HF.size
      have hsz2 := hB
      refine append_own (s := ⟨p', n', c'⟩) (news := [(fwd out off i).getD (out.length + i - off) 0]) (HO.old O1) ts5 tb5 z5 rfl ?_ (by simp only; omega) (by simp; omega) fun p2 c2 h2 HO2 HF2 HW2 => ?_
      · exact src_sl S1 (m := 1) (by simp)
      have hsb : sb < h.size := H.lt
      have hne' : ∀ b, p' = some ⟨b, 0, none⟩ → b ≠ sb := by
        intro b hb
        rcases HW b hb with h | h
        · exact hne b h
        · omega
      have HB2 : Blk h2 sb (cs.set o (.slice p' n' c')) e := HF2.Blk (O1.Blk HB) (fun hp => hne' sb hp rfl)
      refine st1_blk HB2 (by simp [ho]) ?_
      rw [List.set_set]
      refine ⟨⟨by first | rfl | trivial | exact e1, by first | rfl | trivial | exact e2, by first | rfl | trivial | exact e3, by first | rfl | trivial | exact e4, i + 1, ?_, by omega, p2, n' + 1, c2, Blk.put HB2.lt _ _, ?_, ?_, ?_⟩, ?_⟩
      · omega
      · refine Own.put HO2 ?_
        intro b hb
        rcases HW2 b hb with h | h
        · exact hne' b h
        · simp at h; omega
      · refine HF.trans' (((Fr.of_old (S := fun b => p' = some ⟨b, 0, none⟩) O1).trans HF2).trans' (Fr.put (b := sb)) (U := fun b => b = sb ∨ p' = some ⟨b, 0, none⟩) (fun x _ hx => Or.inr hx) (fun x _ hx => Or.inl hx)) (fun x _ hx => hx) ?_
        intro x hx hh
        rcases hh with hh | hh
        · exact Or.inl hh
        · rcases HW x hh with h | h
          · exact Or.inr h
          · omega
      · intro b hb
        rcases HW2 b hb with h | h
        · exact HW b h
        · simp at h; exact Or.inr (by omega)
      · omega
    · rw [if_neg (by simpa using hc)]
      obtain rfl : i = len := by omega
      simp only [st_reg, st_ret, st_exit, st_skip, st_test, st_block, st_cond, sq_reg, sq_ret, sq_exit, sq_skip, sq_test, sq_cond, sq_block, sq_seq, sq_loop, SK_norm, SK_exit, SK_ret, BK_norm, BK_ret, BK_same, BK_exit, LK_norm, LK_exit, LK_ret, endK_norm, endK_ret, M_state_copied.r0, M_state_copied.r1, M_state_copied.r2, M_state_copied.r3, M_state_copied.r4, M_state_copied.r5, M_state_copied.r6, M_state_copied.r7, M_state_copied.r8, M_state_copied.r9, M_state_copied.r10, M_state_copied.r11, M_state_copied.r12, M_state_copied.r13, M_state_copied.r14, M_state_copied.r15, M_state_copied.r16, M_state_copied.r17, M_state_copied.init, M_state_copied.res]
      exact hok (by omega) hr p' n' c' h' HO HB HF HW
end Go.Proofs.YtibleenkgmkpmaaDoor
