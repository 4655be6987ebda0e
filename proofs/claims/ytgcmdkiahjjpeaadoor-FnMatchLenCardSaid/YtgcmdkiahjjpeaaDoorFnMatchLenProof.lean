/- PROVED HERE: the tied card of the law FnMatchLen: for every input the law returns true, and each argument reads behind the call as it read before. -/
import Derived.Test.YtgcmdkiahjjpeaaDoorCards
import Derived.Test.YtgcmdkiahjjpeaaDoorTie
import Derived.Deep.DeepHandedRow
import Derived.Test.YtgcmdkiahjjpeaaDoorWr
import Derived.Test.YtgcmdkiahjjpeaaDoorMlLaw
set_option linter.unusedSimpArgs false
set_option linter.unusedVariables false
set_option linter.unusedSectionVars false
namespace Go.Proofs.YtgcmdkiahjjpeaaDoor.Fin
open Go Go.Vc Go.Ml Go.ChangeShapes Go.WideShapes Go.ChangeAt Go.RowKit

theorem own : ownKnob Tryd.prog.godebug = none := by kernel_rfl
theorem laidOut : laidOutB Tryd.prog = true := by kernel_rfl

/-- WHAT THE ROW's LIST GIVES: the two tables hold their numbers. -/
theorem tabs {W : World} (h : laidMetH Tryd.prog Rows.fnMatchLenRow.laid W) : Tabs W.heap := by
  constructor
  · have := tab_of_laid (P := Tryd.prog) (W := W) (laid := Rows.fnMatchLenRow.laid) (name := "math/bits.deBruijn32tab") (k := .u8) (zs := Lib.deBruijn32tab.map Int.ofNat) (g := 0) (i := 0) (by kernel_rfl) (by kernel_rfl) h
    intro i hi
    have h2 := this i (by rw [List.length_map]; exact hi)
    simpa [List.getD, hi] using h2
  · have := tab_of_laid (P := Tryd.prog) (W := W) (laid := Rows.fnMatchLenRow.laid) (name := "math/bits.deBruijn64tab") (k := .u8) (zs := Lib.deBruijn64tab.map Int.ofNat) (g := 1) (i := 1) (by kernel_rfl) (by kernel_rfl) h
    intro i hi
    have h2 := this i (by rw [List.length_map]; exact hi)
    simpa [List.getD, hi] using h2

/-- FOR EVERY ARGUMENT AND EVERY WORLD THAT HOLDS THE TABLES. -/
theorem contract (H : Type) (enc : TypeId × Value → H) (W : World) (base : Nat) (args : Array Value) (ds gs : List (DataW H)) (before : List MemPlace)
    (hval : ∀ (j : Nat) t v, Tryd.f3.params[j]? = some t → args[j]? = some v → Value.okWide Tryd.prog W .any base t v)
    (hW : DataW.Whole enc Tryd.prog Tryd.f3.params.toList Rows.fnMatchLenSpec.vars false W args.toList ds gs before) (hL : laidMetH Tryd.prog Rows.fnMatchLenRow.laid W) :
    Calls Tryd.prog 3 args W fun e W' => ∃ v, e = .returned v ∧ Rows.fnMatchLenSpec.post enc Tryd.prog Tryd.f3 false true false false W args v W' := by
  have hW' := hW
  obtain ⟨p, q, hA0, hV, rfl, hfz, hnd⟩ := hW
  have hA : DataW.TrodAll enc Tryd.prog W 0 (fun _ => true) true Tryd.f3.params.toList args.toList ds p := hA0
  rw [Tryd.params3] at hA hval
  obtain ⟨v0, v1, d0, d1, p0, p1, rfl, rfl, rfl, h0, h1⟩ := trodAll_two hA
  obtain ⟨rfl, rfl⟩ := trodVars_none hV
  obtain ⟨s0, rfl, _, l0, H0, w0, _⟩ := open_sl (P := Tryd.prog) (e := 5) (k := .u8) (by kernel_rfl) (by kernel_rfl) (by kernel_rfl) (hval 0 22 v0 rfl rfl) h0
  obtain ⟨s1, rfl, _, l1, H1, w1, _⟩ := open_sl (P := Tryd.prog) (e := 5) (k := .u8) (by kernel_rfl) (by kernel_rfl) (by kernel_rfl) (hval 1 22 v1 rfl rfl) h1
  have hc : CallsH Pg 3 #[(.slice s0.p s0.n s0.c), (.slice s1.p s1.n s1.c)] W.heap _ := law H0 H1 (Byt.of_mem (byt_of_wf w0)) (Byt.of_mem (byt_of_wf w1)) (tabs hL)
  refine (hc.2 W rfl).mono fun e W' ⟨v, he, ha, r, hv, hr, ho⟩ => ?_
  subst hr
  subst hv
  exact ⟨_, he, post_law (tb := 4) laidOut (by kernel_rfl) (by kernel_rfl) (by kernel_rfl) rfl rfl rfl rfl hW' (below_of_old ha ho)⟩

/-- A WORLD FOR THE WITNESS: the settled one, the tables (blocks 0 and 1) holding what their initialisers lay. -/
noncomputable def laidWorld (os : Os) : World :=
  laidW Tryd.prog os [(0, Lib.deBruijn32tab.map fun n => Value.int .u8 (Int.ofNat n)), (1, Lib.deBruijn64tab.map fun n => Value.int .u8 (Int.ofNat n))]
def wargs : Array Value := #[.slice none 0 0, .slice none 0 0]
theorem laid_met (os : Os) : laidMet Tryd.prog Rows.fnMatchLenRow.laid ((laidWorld os).forCall (fun _ _ => 0) ⟨#[], wargs, []⟩).memory :=
  laidMet_of_run' 8 (by kernel_rfl) (by kernel_rfl)
theorem reads (os : Os) {H : Type} (enc : TypeId × Value → H) : ∃ places, DataW.whole enc Tryd.prog ((laidWorld os).forCall (fun _ _ => 0) ⟨#[], wargs, []⟩).memory Tryd.f3.params.toList Rows.fnMatchLenSpec.vars false wargs.toList 8 = some ([.nil, .nil], [], places) :=
  ⟨[], by kernel_rfl⟩

set_option maxRecDepth 100000 in
theorem lifted (os : Os) (started : os.Started) (H : Type) (enc : TypeId × Value → H) (F : Stop.Interp) :
    ReturnsInHanded {} Tryd.checked os 3 .any ((OpenSpec.ofChange Rows.fnMatchLenSpec).preRow enc Tryd.prog Tryd.f3 Rows.fnMatchLenRow.domain false Rows.fnMatchLenRow.laid) (((OpenSpec.ofChange Rows.fnMatchLenSpec).at F).post enc Tryd.prog Tryd.f3 false true false false) := by
  obtain ⟨places, hx⟩ := reads os enc
  refine returnsInHanded_of_row (C := Tryd.checked) (s := OpenSpec.ofChange Rows.fnMatchLenSpec) own started (by kernel_rfl) Tryd.func3
    (witness_row_at (enc := enc) (C := Tryd.checked) false (laidWorld os) wargs rfl (by kernel_rfl) (by kernel_rfl) (by kernel_rfl)
      (OpenSpec.preRow_of_cond 8 hx (by kernel_rfl) (fun k hk => by cases hk) (by kernel_rfl) (laid_met os))) ?_
  intro W base args ds gs before hval hW _ _ _ hL _ _
  exact contract H enc W base args ds gs before hval hW hL

theorem said : Rows.FnMatchLenSaid :=
  OpenClaim.holds_of_cond 3 Tryd.f3 rfl rfl rfl rfl rfl rfl rfl ⟨rfl, rfl, rfl, rfl, rfl⟩ rfl rfl rfl rfl rfl (by kernel_rfl) Tryd.func3 (by kernel_rfl)
    (of_decide_eq_true (by kernel_rfl)) (by unfold Func.isWrapper; first | (rw [if_pos (by decide +kernel)]; kernel_rfl) | (rw [if_neg (by decide +kernel)]; exact ⟨rfl, rfl⟩))
    (fun os started H enc _ F => by rw [OpenClaim.pre_eq_preRow]; exact lifted os started H enc F)

/-- No parameter wants a stand-in; the program's own looks are off. -/
theorem plain (f : FuncId) (fn : Func) (hf : Tryd.pinned.checked.prog.funcNamed "pub-pemmican/laws.FnMatchLen" = some f) (hfn : Tryd.pinned.checked.prog.funcs[f]? = some fn) :
    false = Tryd.pinned.checked.prog.looks [] ∧ ∀ (j : Nat) t, fn.params[j]? = some t → Tryd.pinned.checked.prog.wantsStandIn t = false := by
  obtain rfl : f = 3 := Option.some.inj ((show Tryd.prog.funcNamed "pub-pemmican/laws.FnMatchLen" = some 3 by kernel_rfl).symm.trans hf) |>.symm
  obtain rfl : fn = Tryd.f3 := (Option.some.inj (Tryd.func3.symm.trans hfn)).symm
  refine ⟨by kernel_rfl, fun j t ht => ?_⟩
  have hall : (Tryd.f3.params.toList.all fun t => !Tryd.prog.wantsStandIn t) = true := by kernel_rfl
  have := List.all_eq_true.1 hall t (by have := Array.mem_of_getElem? ht; simpa using this)
  have h2 : Tryd.prog.wantsStandIn t = false := by simpa using this
  exact h2

/-- ████ THE CARD ████ -/
theorem card : Rows.FnMatchLenCardSaid :=
  Claim7.holds_tied_plain_at .later [] _ _ _ _ said (fun _ h => by cases h) (by kernel_rfl) (fun _ h => by cases h) fnMatchLen_row_tie rfl ⟨rfl, rfl⟩ (by kernel_rfl) rfl plain (by kernel_rfl)

#print axioms card
end Go.Proofs.YtgcmdkiahjjpeaaDoor.Fin
