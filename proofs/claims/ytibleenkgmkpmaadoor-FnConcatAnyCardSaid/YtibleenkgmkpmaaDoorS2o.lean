/- A part of the proof. -/
import Derived.Test.YtibleenkgmkpmaaDoorWp
import Derived.Test.YtibleenkgmkpmaaDoorS2z
set_option linter.unusedSimpArgs false
set_option linter.unusedVariables false
set_option linter.unusedSectionVars false
namespace Go.Proofs.YtibleenkgmkpmaaDoor
open Go Go.Vc Go.Ml Go.S2 Go.ChangeShapes Go.WideShapes Go.ChangeAt Go.RowKit

section
variable {H : Type} {enc : TypeId × Value → H} {W : World} {sp : Nat → Bool} {held : Bool}

/-- A piece's cells, opened. -/
theorem open_pc {fuel : Nat} {cs : List Value} {x : DataW H × List MemPlace} (h : DataW.trod enc Tryd.prog W 0 sp held fuel 73 cs = some x) :
    ∃ (kind off len : Nat) (D : Sl) (l : List Int), cs = [.int .u8 (kind : Nat), .slice D.p D.n D.c, .int .u32 (off : Nat), .int .u32 (len : Nat)] ∧ kind ≤ 255 ∧ off < 2 ^ 32 ∧ len < 2 ^ 32 ∧ SlI W.heap .u8 D l ∧ Bts l ∧ ∀ a, 0 < D.n → D.p = some a → a.block < W.heap.size := by
  obtain ⟨hl, hf⟩ := open_str (fs := #[{ name := "Kind", type := 5, offset := 0, embedded := false, tag := "", pkgPath := "", byteOffset := 0 }, { name := "Data", type := 22, offset := 1, embedded := false, tag := "", pkgPath := "", byteOffset := 8 }, { name := "Offset", type := 71, offset := 2, embedded := false, tag := "", pkgPath := "", byteOffset := 32 }, { name := "Length", type := 71, offset := 3, embedded := false, tag := "", pkgPath := "", byteOffset := 36 }]) (by kernel_rfl) h
  have c5 : Tryd.prog.cellsOf 5 = 1 := by kernel_rfl
  have c22 : Tryd.prog.cellsOf 22 = 1 := by kernel_rfl
  have c71 : Tryd.prog.cellsOf 71 = 1 := by kernel_rfl
  have c73 : Tryd.prog.cellsOf 73 = 4 := by kernel_rfl
  rw [c73] at hl
  obtain ⟨m0, y0, h0⟩ : ∃ m y, DataW.trod enc Tryd.prog W 0 sp held m 5 ((cs.drop 0).take (Tryd.prog.cellsOf 5)) = some y := hf 0 _ rfl
  obtain ⟨m1, y1, h1⟩ : ∃ m y, DataW.trod enc Tryd.prog W 0 sp held m 22 ((cs.drop 1).take (Tryd.prog.cellsOf 22)) = some y := hf 1 _ rfl
  obtain ⟨m2, y2, h2⟩ : ∃ m y, DataW.trod enc Tryd.prog W 0 sp held m 71 ((cs.drop 2).take (Tryd.prog.cellsOf 71)) = some y := hf 2 _ rfl
  obtain ⟨m3, y3, h3⟩ : ∃ m y, DataW.trod enc Tryd.prog W 0 sp held m 71 ((cs.drop 3).take (Tryd.prog.cellsOf 71)) = some y := hf 3 _ rfl
  rw [c5] at h0
  rw [c22] at h1
  rw [c71] at h2 h3
  obtain ⟨v0, e0, _, w0⟩ := DataW.trod_int (k := .u8) (by kernel_rfl) h0
  obtain ⟨D, l, e1, hS, hw, _, hb⟩ := open_byt (k := .u8) (e := 5) (by kernel_rfl) (by kernel_rfl) c5 h1
  obtain ⟨v2, e2, _, w2⟩ := DataW.trod_int (k := .u32) (by kernel_rfl) h2
  obtain ⟨v3, e3, _, w3⟩ := DataW.trod_int (k := .u32) (by kernel_rfl) h3
  obtain ⟨n0, rfl, q0⟩ := nat_of_wf rfl w0
  obtain ⟨n2, rfl, q2⟩ := nat_of_wf rfl w2
  obtain ⟨n3, rfl, q3⟩ := nat_of_wf rfl w3
  have g0 := one_list e0
  have g1 := one_list e1
  have g2 := one_list e2
  have g3 := one_list e3
  refine ⟨n0, n2, n3, D, l, ?_, by have : (2 : Nat) ^ IntKind.u8.bits = 256 := rfl; omega, q2, q3, hS, byt_of_wf hw, hb⟩
  apply List.ext_getElem?
  intro i
  rcases Nat.lt_or_ge i 4 with hi | hi
  · have : i = 0 ∨ i = 1 ∨ i = 2 ∨ i = 3 := by omega
    rcases this with rfl | rfl | rfl | rfl
    · exact g0
    · exact g1
    · exact g2
    · exact g3
  · rw [List.getElem?_eq_none (by omega), List.getElem?_eq_none (by simpa using hi)]

/-- A slice of pieces, opened. -/
theorem open_pcs {fuel : Nat} {cs : List Value} {x : DataW H × List MemPlace} (h : DataW.trod enc Tryd.prog W 0 sp held fuel 32 cs = some x) :
    ∃ (s : Sl) (ps : List Pc), cs = [.slice s.p s.n s.c] ∧ s.n ≤ s.c ∧ s.c ≤ maxLen ∧ Pcs W.heap.size W.heap s ps := by
  have c73 : Tryd.prog.cellsOf 73 = 4 := by kernel_rfl
  obtain ⟨s, rfl, hl, hm, hor⟩ := open_slc (e := 73) (by kernel_rfl) h
  rcases hor with ⟨h1, h2, h3⟩ | ⟨a, ha, hel⟩
  · exact ⟨s, [], rfl, hl, hm, h2.symm, fun h0 => by omega⟩
  · rw [c73] at hel
    have each : ∀ i, i < s.n → ∃ p : Pc, (∃ b o, a.add (i * 4) = ⟨b, o, none⟩ ∧ b < W.heap.size ∧ PcAt W.heap.size W.heap b o p) := by
      intro i hi
      obtain ⟨cs', y, m, h1, h2⟩ := hel i hi
      obtain ⟨kind, off, len, D, l, rfl, q1, q2, q3, hS, hb, hlt⟩ := open_pc h2
      obtain ⟨_, hc⟩ := cells_at h1
      have k0 := hc 0 (by omega)
      obtain ⟨b, o, hbo, hb2⟩ := hcell_plain k0
      have k1 := hc 1 (by omega)
      have k2 := hc 2 (by omega)
      have k3 := hc 3 (by omega)
      rw [hbo, add_mk] at k0 k1 k2 k3
      exact ⟨⟨kind, D, l, off, len⟩, b, o, hbo, hb2, k0, k1, k2, k3, hS, hb, hlt, q1, q2, q3⟩
    have pick : ∃ f : Nat → Pc, ∀ i, i < s.n → ∃ b o, a.add (i * 4) = ⟨b, o, none⟩ ∧ b < W.heap.size ∧ PcAt W.heap.size W.heap b o (f i) := by
      refine ⟨fun i => if hi : i < s.n then Classical.choose (each i hi) else ⟨0, ⟨none, 0, 0⟩, [], 0, 0⟩, fun i hi => ?_⟩
      simp only [hi, dif_pos]
      exact Classical.choose_spec (each i hi)
    obtain ⟨f, hf⟩ := pick
    refine ⟨s, (List.range s.n).map f, rfl, hl, hm, by simp, fun h0 => ?_⟩
    obtain ⟨b, o, hbo, hb, _⟩ := hf 0 h0
    have ea : a = ⟨b, o, none⟩ := by simpa [Addr.add] using hbo
    subst ea
    refine ⟨b, o, ha, hb, fun i hi => ?_⟩
    have hi' : i < s.n := by simpa using hi
    obtain ⟨b', o', hbo', _, P⟩ := hf i hi'
    rw [add_mk] at hbo'
    simp only [Addr.mk.injEq] at hbo'
    obtain ⟨rfl, rfl, _⟩ := hbo'
    simpa using P
end
end Go.Proofs.YtibleenkgmkpmaaDoor
