/- A part of the proof. -/
import Derived.Test.YtibleenkgmkpmaaDoorHp
namespace Go.Vc

/-- A stretch of a list, written over. -/
def putL (M : List Int) (o : Nat) (L : List Int) : List Int := M.take o ++ L ++ M.drop (o + L.length)
theorem putL_len {M L : List Int} {o : Nat} (h : o + L.length ≤ M.length) : (putL M o L).length = M.length := by simp [putL]; omega
theorem putL_self {M : List Int} {o k : Nat} (h : o + k ≤ M.length) : putL M o ((M.drop o).take k) = M := by
  have hl : ((M.drop o).take k).length = k := by simp; omega
  unfold putL
  rw [hl, ← List.drop_drop, List.append_assoc, List.take_append_drop, List.take_append_drop]
theorem putL_set {M L : List Int} {o j : Nat} {v : Int} (h : o + L.length ≤ M.length) (hj : j < L.length) : (putL M o L).set (o + j) v = putL M o (L.set j v) := by
  have hl : (M.take o).length = o := by simp; omega
  unfold putL
  rw [List.append_assoc, List.set_append_right _ _ (by omega), hl, Nat.add_sub_cancel_left, List.set_append_left _ _ hj, List.length_set, List.append_assoc]
theorem putL_putL {M L1 L2 : List Int} {o : Nat} (h : o + L1.length + L2.length ≤ M.length) : putL (putL M o L1) (o + L1.length) L2 = putL M o (L1 ++ L2) := by
  have hl : (M.take o).length = o := by simp; omega
  unfold putL
  rw [List.take_append_of_le_length (by simp; omega), List.take_of_length_le (by simp; omega)]
  rw [List.drop_append, List.drop_of_length_le (by simp; omega), List.nil_append, List.drop_drop]
  have e : o + L1.length + ((o + L1.length + L2.length) - (M.take o ++ L1).length) = o + (L1 ++ L2).length := by simp; omega
  rw [e]
  simp

/-- A byte, stored in a slice of a block. -/
theorem putS {h : Heap} {db o n : Nat} {e : TypeId} {M L : List Int} {j i : Nat} {v : Int} {K : Heap → Prop} (HB : Blk h db ((putL M o L).map (Value.int .u8)) e) (hM : o + L.length ≤ M.length) (hj : j < L.length) (hi : i = j) (hn : j < n)
    (hK : ∀ h', Blk h' db ((putL M o (L.set j v)).map (Value.int .u8)) e → Fr (· = db) h h' → K h') :
    0 ≤ (i : Int) ∧ (i : Int) < ((n : Nat) : Int) ∧ ptrE (some (⟨db, o, none⟩ : Addr)) fun a1 => st1 (Addr.add (Addr.add a1 (Int.toNat (i : Int) * 1)) 0) (.int .u8 v) h K := by
  subst hi
  refine ⟨by omega, by omega, ?_⟩
  rw [ptrE_some, show Int.toNat (i : Int) * 1 = i by omega, add_mk, add_mk, Nat.add_zero]
  refine st1_blk HB (by rw [List.length_map, putL_len hM]; omega) ?_
  rw [← List.map_set, putL_set hM hj]
  exact hK _ (Blk.put HB.lt _ _) Fr.put

theorem len2 {L : List Int} (h : L.length = 2) : ∃ a b, L = [a, b] := by
  match L, h with
  | [a, b], _ => exact ⟨a, b, rfl⟩
theorem len3 {L : List Int} (h : L.length = 3) : ∃ a b c, L = [a, b, c] := by
  match L, h with
  | [a, b, c], _ => exact ⟨a, b, c, rfl⟩
theorem len4 {L : List Int} (h : L.length = 4) : ∃ a b c d, L = [a, b, c, d] := by
  match L, h with
  | [a, b, c, d], _ => exact ⟨a, b, c, d, rfl⟩
theorem len5 {L : List Int} (h : L.length = 5) : ∃ a b c d e, L = [a, b, c, d, e] := by
  match L, h with
  | [a, b, c, d, e], _ => exact ⟨a, b, c, d, e, rfl⟩
theorem cut_len {M : List Int} {o k : Nat} (h : o + k ≤ M.length) : ((M.drop o).take k).length = k := by simp; omega
end Go.Vc
