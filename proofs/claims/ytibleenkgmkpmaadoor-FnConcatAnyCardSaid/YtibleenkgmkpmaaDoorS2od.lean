/- A part of the proof. -/
import Derived.Test.YtibleenkgmkpmaaDoorS2o
import Derived.Test.YtibleenkgmkpmaaDoorS2cc
set_option linter.unusedSimpArgs false
set_option linter.unusedVariables false
set_option linter.unusedSectionVars false
namespace Go.Proofs.YtibleenkgmkpmaaDoor
open Go Go.Vc Go.Ml Go.S2 Go.ChangeShapes Go.WideShapes Go.ChangeAt Go.RowKit

section
variable {H : Type} {enc : TypeId × Value → H} {W : World} {sp : Nat → Bool} {held : Bool}

/-- A slice of slices of pieces, opened. -/
theorem open_pcss {t fuel : Nat} {cs : List Value} {x : DataW H × List MemPlace} (ht : Tryd.prog.underlying t = some (.slice 32)) (h : DataW.trod enc Tryd.prog W 0 sp held fuel t cs = some x) :
    ∃ (s : Sl) (pss : List (Sl × List Pc)), cs = [.slice s.p s.n s.c] ∧ Pcss W.heap.size W.heap s pss := by
  have c32 : Tryd.prog.cellsOf 32 = 1 := by kernel_rfl
  obtain ⟨s, rfl, hl, hm, hor⟩ := open_slc ht h
  rcases hor with ⟨h1, h2, h3⟩ | ⟨a, ha, hel⟩
  · exact ⟨s, [], rfl, h2.symm, fun h0 => by omega⟩
  · rw [c32] at hel
    have each : ∀ i, i < s.n → ∃ p : Sl × List Pc, ∃ b o, a.add (i * 1) = ⟨b, o, none⟩ ∧ b < W.heap.size ∧ hcell W.heap ⟨b, o, none⟩ = some (.slice p.1.p p.1.n p.1.c) ∧ Pcs W.heap.size W.heap p.1 p.2 := by
      intro i hi
      obtain ⟨cs', y, m, h1, h2⟩ := hel i hi
      obtain ⟨s1, ps, rfl, _, _, HP⟩ := open_pcs h2
      obtain ⟨_, hc⟩ := cells_at h1
      have k0 := hc 0 (by omega)
      obtain ⟨b, o, hbo, hb2⟩ := hcell_plain k0
      rw [hbo, add_mk] at k0
      exact ⟨⟨s1, ps⟩, b, o, hbo, hb2, k0, HP⟩
    have pick : ∃ f : Nat → Sl × List Pc, ∀ i, i < s.n → ∃ b o, a.add (i * 1) = ⟨b, o, none⟩ ∧ b < W.heap.size ∧ hcell W.heap ⟨b, o, none⟩ = some (.slice (f i).1.p (f i).1.n (f i).1.c) ∧ Pcs W.heap.size W.heap (f i).1 (f i).2 := by
      refine ⟨fun i => if hi : i < s.n then Classical.choose (each i hi) else ⟨⟨none, 0, 0⟩, []⟩, fun i hi => ?_⟩
      simp only [hi, dif_pos]
      exact Classical.choose_spec (each i hi)
    obtain ⟨f, hf⟩ := pick
    refine ⟨s, (List.range s.n).map f, rfl, by simp, fun h0 => ?_⟩
    obtain ⟨b, o, hbo, hb, _⟩ := hf 0 h0
    have ea : a = ⟨b, o, none⟩ := by simpa [Addr.add] using hbo
    subst ea
    refine ⟨b, o, ha, hb, fun i hi => ?_⟩
    have hi' : i < s.n := by simpa using hi
    obtain ⟨b', o', hbo', _, hc, P⟩ := hf i hi'
    rw [add_mk, Nat.mul_one] at hbo'
    simp only [Addr.mk.injEq] at hbo'
    obtain ⟨rfl, rfl, _⟩ := hbo'
    simpa using And.intro hc P
end
end Go.Proofs.YtibleenkgmkpmaaDoor
