/- A part of a calculus over heaps: what the steps of the Go model compute, told by terms that the kernel reduces. Nothing of the law is stated here. -/
import Derived.Test.YtibleenkgmkpmaaDoorWr
import Derived.LaidLaws
namespace Go.Vc
open Go.ChangeShapes Go.WideShapes Go.ChangeAt Go.RowKit

/-- Is the i-th of a list an error that the variable g holds? -/
def errOk (P : Program) (laid : List (String × DataW Unit)) (i g : Nat) : Bool :=
  match laid[i]? with
  | some (n, .iface _ _) => decide (P.globalNamed n = some g) && (match (P.globals[g]?).map (·.type) with
    | some t => (match P.underlying t with
      | some (.interface _) => true
      | _ => false)
    | none => false)
  | _ => false
/-- A variable that is laid with an error: it holds no nil. -/
theorem err_of_laid {P : Program} {W : World} {laid : List (String × DataW Unit)} {g i : Nat} (ho : errOk P laid i g = true) (hL : laidMet P laid W) : ∃ u v, hcell W.heap ⟨g, 0, none⟩ = some (.iface u v) := by
  obtain ⟨ps, hV, _, _⟩ := hL
  unfold errOk at ho
  split at ho
  · rename_i n nm d hi
    simp only [Bool.and_eq_true, decide_eq_true_eq] at ho
    obtain ⟨hg, ho⟩ := ho
    split at ho
    · rename_i t ht
      split at ho
      · rename_i ms hu
        obtain ⟨g', t', cs, fuel, p, h1, h2, h3, h4⟩ := laidVars_at hV hi
        rw [hg] at h1
        obtain rfl := Option.some.inj h1
        rw [ht] at h2
        obtain rfl := Option.some.inj h2
        obtain ⟨_, u, v, hcs, _, _⟩ := iface_of_trod hu h4
        refine ⟨u, v, ?_⟩
        have := World.var?_cell hg h3 0
        rw [cell_eq] at this
        rw [this, ← Array.getElem?_toList, hcs]
        rfl
      · cases ho
    · cases ho
  · cases ho

/-- How many blocks lie before a call's own. -/
noncomputable def lowOf (P : Program) : Nat := (World.holding P default ⟨#[], #[], []⟩).heap.size
/-- A settled world with these blocks behind it and these blocks laid. -/
noncomputable def laidI (P : Program) (os : Os) (new : Array Obj) (ls : List (Nat × List Value)) : World :=
  { World.holding P os ⟨new, #[], []⟩ with heap := ls.foldl (fun h x => h.modify x.1 (layCells x.2)) (World.holding P os ⟨new, #[], []⟩).heap }
end Go.Vc
