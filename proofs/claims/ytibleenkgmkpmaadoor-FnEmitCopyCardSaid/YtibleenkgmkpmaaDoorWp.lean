/- A part of the proof. -/
import Derived.Test.YtibleenkgmkpmaaDoorWq
namespace Go.Vc
open Go.ChangeShapes Go.WideShapes Go.ChangeAt Go.RowKit

section
variable {H : Type} {enc : TypeId × Value → H} {P : Program} {W : World} {sp : Nat → Bool} {held : Bool} {fuel : Nat} {t e : TypeId} {cs : List Value} {x : DataW H × List MemPlace}

theorem cells_at {base : Nat} {a : Addr} {n : Nat} (h : W.cells? base a n = some cs) : cs.length = n ∧ ∀ j, j < n → hcell W.heap (a.add j) = cs[j]? := by
  unfold World.cells? at h
  split at h
  · refine ⟨by simpa using mapM_some_length h, fun j hj => ?_⟩
    rw [← cell_eq]
    exact mapM_some_get h j j (by simp [hj])
  · cases h

theorem hcell_plain {h : Heap} {a : Addr} {v : Value} (hv : hcell h (a.add 0) = some v) : ∃ b o, a = ⟨b, o, none⟩ ∧ b < h.size := by
  have e0 : a.add 0 = a := by simp [Addr.add]
  rw [e0] at hv
  obtain ⟨b, o, s⟩ := a
  unfold hcell at hv
  have hb : b < h.size := by
    rcases Nat.lt_or_ge b h.size with h1 | h1
    · exact h1
    · simp only at hv
      rw [Array.getElem?_eq_none h1] at hv
      cases hv
  cases s with
  | none => exact ⟨b, o, rfl, hb⟩
  | some s => split at hv <;> simp at hv

theorem open_slc (ht : P.underlying t = some (.slice e)) (h : DataW.trod enc P W 0 sp held fuel t cs = some x) :
    ∃ s : Sl, cs = [.slice s.p s.n s.c] ∧ s.n ≤ s.c ∧ s.c ≤ maxLen ∧ ((s.p = none ∧ s.n = 0 ∧ s.c = 0) ∨ ∃ a, s.p = some a ∧ ∀ i, i < s.n → ∃ cs' y m, W.cells? 0 (a.add (i * P.cellsOf e)) (P.cellsOf e) = some cs' ∧ DataW.trod enc P W 0 sp held m e cs' = some y) := by
  rcases DataW.trod_slice ht h with ⟨h0, _⟩ | ⟨a, len, cap, elems, rest, n, _, rfl, _, _, hl, hm, hlen, hel, _, _⟩
  · exact ⟨⟨none, 0, 0⟩, h0, Nat.le_refl _, by decide, Or.inl ⟨rfl, rfl, rfl⟩⟩
  · refine ⟨⟨some a, len, cap⟩, rfl, hl, hm, Or.inr ⟨a, rfl, fun i hi => ?_⟩⟩
    simp only at hi
    have := hel i hi
    have hi' : i < elems.length := by omega
    rw [List.getElem?_eq_getElem hi', Option.bind_eq_some_iff] at this
    obtain ⟨cs', h1, h2⟩ := this
    exact ⟨cs', _, n, h1, h2⟩

theorem open_str {fs : Array Field} (ht : P.underlying t = some (.struct fs)) (h : DataW.trod enc P W 0 sp held fuel t cs = some x) :
    cs.length = P.cellsOf t ∧ ∀ (i : Nat) (f : Field), fs[i]? = some f → ∃ m y, DataW.trod enc P W 0 sp held m f.type ((cs.drop f.offset).take (P.cellsOf f.type)) = some y := by
  obtain ⟨xs, n, _, _, hl, hx, hf⟩ := DataW.trod_struct ht h
  refine ⟨hl, fun i f hi => ?_⟩
  have hlt : i < xs.length := by
    rw [hx]
    obtain ⟨h1, _⟩ := Array.getElem?_eq_some_iff.1 hi
    exact h1
  exact ⟨n, xs[i], by rw [hf i f hi, List.getElem?_eq_getElem hlt]⟩

theorem open_byt {k : IntKind} (ht : P.underlying t = some (.slice e)) (he : P.underlying e = some (.int k)) (hc : P.cellsOf e = 1) (h : DataW.trod enc P W 0 sp held fuel t cs = some x) :
    ∃ (s : Sl) (l : List Int), cs = [.slice s.p s.n s.c] ∧ SlI W.heap k s l ∧ (∀ x ∈ l, (Lit.int k x).wf = true) ∧ s.c ≤ maxLen ∧ ∀ a, 0 < s.n → s.p = some a → a.block < W.heap.size := by
  obtain ⟨s, rfl, hl, hm, hor⟩ := open_slc ht h
  rcases hor with ⟨h1, h2, h3⟩ | ⟨a, ha, hel⟩
  · exact ⟨s, [], rfl, ⟨h2.symm, hl, fun h0 => by omega⟩, by simp, hm, fun a h0 => by omega⟩
  · have each : ∀ i, i < s.n → ∃ n : Int, hcell W.heap (a.add i) = some (.int k n) ∧ (Lit.int k n).wf = true := by
      intro i hi
      obtain ⟨cs', y, m, h1, h2⟩ := hel i hi
      rw [hc, Nat.mul_one] at h1
      obtain ⟨n, rfl, _, hw⟩ := DataW.trod_int he h2
      obtain ⟨_, h3⟩ := cells_at h1
      have := h3 0 (by omega)
      have e0 : (a.add i).add 0 = a.add i := by simp [Addr.add]
      rw [e0] at this
      exact ⟨n, this, hw⟩
    refine ⟨s, (List.range s.n).map fun i => match hcell W.heap (a.add i) with
      | some (.int _ n) => n
      | _ => 0, rfl, ⟨by simp, hl, fun h0 => ?_⟩, ?_, hm, ?_⟩
    · have hn : 0 < s.n := by omega
      obtain ⟨n0, hn0, _⟩ := each 0 hn
      obtain ⟨b, o, rfl, _⟩ := hcell_plain hn0
      refine ⟨b, o, ha, fun i hi => ?_⟩
      have hi' : i < s.n := by simpa using hi
      obtain ⟨n, hn1, _⟩ := each i hi'
      rw [add_mk] at hn1
      rw [List.getD_eq_getElem?_getD, List.getElem?_map, List.getElem?_range hi']
      simp only [Option.map_some, Option.getD_some, add_mk, hn1]
    · intro z hz
      obtain ⟨i, hi, rfl⟩ := List.mem_map.1 hz
      obtain ⟨n, hn1, hw⟩ := each i (by simpa using hi)
      simp only [hn1]
      exact hw
    · intro a' h0 ha'
      rw [ha] at ha'
      obtain rfl := Option.some.inj ha'
      obtain ⟨n0, hn0, _⟩ := each 0 h0
      obtain ⟨b, o, rfl, hb⟩ := hcell_plain hn0
      exact hb
end

theorem one_list {α : Type} {l : List α} {a : α} {i : Nat} (h : (l.drop i).take 1 = [a]) : l[i]? = some a := by
  have h1 : ((l.drop i).take 1)[0]? = some a := by rw [h]; rfl
  rw [List.getElem?_take, if_pos (by omega), List.getElem?_drop, Nat.add_zero] at h1
  exact h1
theorem nat_of_wf {k : IntKind} (hk : k.signed = false) {x : Int} (h : (Lit.int k x).wf = true) : ∃ n : Nat, x = n ∧ n < 2 ^ k.bits := by
  unfold Lit.wf at h
  simp only [IntKind.min, IntKind.max, hk, Bool.false_eq_true, if_false, Bool.and_eq_true, decide_eq_true_eq] at h
  refine ⟨x.toNat, by omega, ?_⟩
  have h1 := h.1
  have h2 := h.2
  have h3 : x < (2 ^ k.bits : Int) := by omega
  have : ((x.toNat : Nat) : Int) < ((2 ^ k.bits : Nat) : Int) := by rw [Int.toNat_of_nonneg (by omega)]; push_cast; exact h3
  exact_mod_cast this
end Go.Vc
