/-
  For every slice of bytes, read as LZ4 or as LZ4s: the law laws.FnLz4Alike answers true, and the input reads as it did. Conditions: none but what the row lists: the package's three errors hold what their initialisers lay.
-/
import Derived.Test.YtibleenkgmkpmaaDoorCards
import Derived.Test.YtibleenkgmkpmaaDoorTie
import Derived.Deep.DeepHandedRow
import Derived.Test.YtibleenkgmkpmaaDoorText2
import Derived.Test.YtibleenkgmkpmaaDoorText9

set_option linter.unusedSimpArgs false
set_option linter.unusedVariables false
set_option linter.unusedSectionVars false
namespace Go.Proofs.YtibleenkgmkpmaaDoor.La
open Go Go.Vc Go.Ml Go.ChangeShapes Go.WideShapes Go.ChangeAt Go.RowKit

theorem own : ownKnob Tryd.prog.godebug = none := by kernel_rfl
theorem laidOut : laidOutB Tryd.prog = true := by kernel_rfl

/-- WHAT THE ROW's LIST GIVES: the error is there. -/
theorem err {W : World} (h : laidMetH Tryd.prog Rows.fnLz4AlikeRow.laid W) : ∃ u v, hcell W.heap ⟨0, 0, none⟩ = some (.iface u v) :=
  err_of_laid (P := Tryd.prog) (laid := Rows.fnLz4AlikeRow.laid) (i := 0) (by kernel_rfl) h

set_option maxRecDepth 100000 in
/-- FOR EVERY ARGUMENT AND EVERY WORLD THAT HOLDS WHAT THE ROW LISTS. -/
theorem contract (H : Type) (enc : TypeId × Value → H) (W : World) (base : Nat) (args : Array Value) (ds gs : List (DataW H)) (before : List MemPlace)
    (hval : ∀ (j : Nat) t v, Tryd.f9.params[j]? = some t → args[j]? = some v → Value.okWide Tryd.prog W .any base t v)
    (hW : DataW.Whole enc Tryd.prog Tryd.f9.params.toList Rows.fnLz4AlikeSpec.vars false W args.toList ds gs before) (hL : laidMetH Tryd.prog Rows.fnLz4AlikeRow.laid W) :
    Calls Tryd.prog 9 args W fun e W' => ∃ v, e = .returned v ∧ Rows.fnLz4AlikeSpec.post enc Tryd.prog Tryd.f9 false true false false W args v W' := by
  have hW' := hW
  obtain ⟨p, q, hA0, hV, rfl, hfz, hnd⟩ := hW
  have hA : DataW.TrodAll enc Tryd.prog W 0 (fun _ => true) true Tryd.f9.params.toList args.toList ds p := hA0
  rw [Tryd.params9] at hA hval
  obtain ⟨v0, v1, d0, d1, p0, p1, rfl, rfl, rfl, h0, _⟩ := trodAll_two hA
  obtain ⟨s0, rfl, _, l0, H0, w0, hb0⟩ := open_sl (P := Tryd.prog) (e := 5) (k := .u8) (by kernel_rfl) (by kernel_rfl) (by kernel_rfl) (hval 0 22 v0 rfl rfl) h0
  obtain ⟨b1, rfl⟩ := okWide_bool (by kernel_rfl) (hval 1 4 v1 rfl rfl)
  obtain ⟨u, v, hE⟩ := err hL
  obtain ⟨rfl, rfl⟩ := trodVars_none hV
  have hc : CallsH Pg 9 #[(.slice s0.p s0.n s0.c), (.bool b1)] W.heap _ := law_Lz4Alike H0 (fun a h1 h2 => (hb0 a h2).resolve_right (by have := H0.2.1; omega)) (byt_of_wf w0) hE rfl
  refine (hc.2 W rfl).mono fun e W' ⟨v, he, ha, r, hv, hr, ho⟩ => ?_
  subst hr
  subst hv
  exact ⟨_, he, post_law (tb := 4) laidOut (by kernel_rfl) (by kernel_rfl) (by kernel_rfl) rfl rfl rfl rfl hW' (below_of_old ha ho)⟩

/-- A WORLD FOR THE WITNESS: the settled one, what is listed holding what its initialisers lay. -/
abbrev txt0 : ByteArray := { data := #[115, 50, 58, 32, 99, 111, 114, 114, 117, 112, 116, 32, 105, 110, 112, 117, 116] }
abbrev txt1 : ByteArray := { data := #[115, 50, 58, 32, 100, 101, 99, 111, 100, 101, 100, 32, 98, 108, 111, 99, 107, 32, 105, 115, 32, 116, 111, 111, 32, 108, 97, 114, 103, 101] }
abbrev txt2 : ByteArray := { data := #[115, 50, 58, 32, 100, 101, 115, 116, 105, 110, 97, 116, 105, 111, 110, 32, 116, 111, 111, 32, 115, 109, 97, 108, 108] }
noncomputable def laidWorld (os : Os) : World :=
  laidI Tryd.prog os #[.cells #[.string txt0] 136, .cells #[.string txt1] 136, .cells #[.string txt2] 136] [(0, [.iface 134 (.pointer (some ⟨lowOf Tryd.prog, 0, none⟩))]), (1, [.iface 134 (.pointer (some ⟨lowOf Tryd.prog + 1, 0, none⟩))]), (2, [.iface 134 (.pointer (some ⟨lowOf Tryd.prog + 2, 0, none⟩))])]
def wargs : Array Value := #[.slice none 0 0, .bool false]
theorem laid_met (os : Os) : laidMet Tryd.prog Rows.fnLz4AlikeRow.laid ((laidWorld os).forCall (fun _ _ => 0) ⟨#[], wargs, []⟩).memory :=
  laidMet_of_run' 8 (by kernel_rfl) (by kernel_rfl)
theorem reads (os : Os) {H : Type} (enc : TypeId × Value → H) : ∃ places, DataW.whole enc Tryd.prog ((laidWorld os).forCall (fun _ _ => 0) ⟨#[], wargs, []⟩).memory Tryd.f9.params.toList Rows.fnLz4AlikeSpec.vars false wargs.toList 8 = some ([.nil, .lit (.bool false)], [], places) :=
  ⟨[], by kernel_rfl⟩

set_option maxRecDepth 100000 in
theorem lifted (os : Os) (started : os.Started) (H : Type) (enc : TypeId × Value → H) (F : Stop.Interp) :
    ReturnsInHanded {} Tryd.checked os 9 .any ((OpenSpec.ofChange Rows.fnLz4AlikeSpec).preRow enc Tryd.prog Tryd.f9 Rows.fnLz4AlikeRow.domain false Rows.fnLz4AlikeRow.laid) (((OpenSpec.ofChange Rows.fnLz4AlikeSpec).at F).post enc Tryd.prog Tryd.f9 false true false false) := by
  obtain ⟨places, hx⟩ := reads os enc
  refine returnsInHanded_of_row (C := Tryd.checked) (s := OpenSpec.ofChange Rows.fnLz4AlikeSpec) own started (by kernel_rfl) Tryd.func9
    (witness_row_at (enc := enc) (C := Tryd.checked) false (laidWorld os) wargs rfl (by kernel_rfl) (by kernel_rfl) (by kernel_rfl)
      (OpenSpec.preRow_of_cond 8 hx (by kernel_rfl) (fun k hk => by cases hk) (by kernel_rfl) (laid_met os))) ?_
  intro W base args ds gs before hval hW _ _ _ hL _ _
  exact contract H enc W base args ds gs before hval hW hL

theorem said : Rows.FnLz4AlikeSaid :=
  OpenClaim.holds_of_cond 9 Tryd.f9 rfl rfl rfl rfl rfl rfl rfl ⟨rfl, rfl, rfl, rfl, rfl⟩ rfl rfl rfl rfl rfl (by kernel_rfl) Tryd.func9 (by kernel_rfl)
    (of_decide_eq_true (by kernel_rfl)) (by unfold Func.isWrapper; first | (rw [if_pos (by decide +kernel)]; kernel_rfl) | (rw [if_neg (by decide +kernel)]; exact ⟨rfl, rfl⟩))
    (fun os started H enc _ F => by rw [OpenClaim.pre_eq_preRow]; exact lifted os started H enc F)

/-- No parameter wants a stand-in; the program's own looks are off. -/
theorem plain (f : FuncId) (fn : Func) (hf : Tryd.pinned.checked.prog.funcNamed "pub-pemmican/laws.FnLz4Alike" = some f) (hfn : Tryd.pinned.checked.prog.funcs[f]? = some fn) :
    false = Tryd.pinned.checked.prog.looks [] ∧ ∀ (j : Nat) t, fn.params[j]? = some t → Tryd.pinned.checked.prog.wantsStandIn t = false := by
  obtain rfl : f = 9 := Option.some.inj ((show Tryd.prog.funcNamed "pub-pemmican/laws.FnLz4Alike" = some 9 by kernel_rfl).symm.trans hf) |>.symm
  obtain rfl : fn = Tryd.f9 := (Option.some.inj (Tryd.func9.symm.trans hfn)).symm
  refine ⟨by kernel_rfl, fun j t ht => ?_⟩
  have hall : (Tryd.f9.params.toList.all fun t => !Tryd.prog.wantsStandIn t) = true := by kernel_rfl
  have := List.all_eq_true.1 hall t (by have := Array.mem_of_getElem? ht; simpa using this)
  have h2 : Tryd.prog.wantsStandIn t = false := by simpa using this
  exact h2

/-- ████ THE CARD ████ -/
theorem card : Rows.FnLz4AlikeCardSaid :=
  Claim7.holds_tied_plain_at .later [] _ _ _ _ said (fun _ h => by cases h) (by kernel_rfl) (fun _ h => by cases h) fnLz4Alike_row_tie rfl ⟨rfl, rfl⟩ (by kernel_rfl) rfl plain (by kernel_rfl)

#print axioms card
end Go.Proofs.YtibleenkgmkpmaaDoor.La
