/-
  For every slice of sequences and every end, written as LZ4 or as LZ4s and converted to S2 or to Snappy: the law laws.FnLz4Sequences answers true, and the input reads as it did. Conditions: none but what the row lists: the package's three errors hold what their initialisers lay.
-/
import Derived.Test.YtibleenkgmkpmaaDoorCards
import Derived.Test.YtibleenkgmkpmaaDoorTie
import Derived.Deep.DeepHandedRow
import Derived.Test.YtibleenkgmkpmaaDoorText2
import Derived.Test.YtibleenkgmkpmaaDoorText9

set_option linter.unusedSimpArgs false
set_option linter.unusedVariables false
set_option linter.unusedSectionVars false
namespace Go.Proofs.YtibleenkgmkpmaaDoor.Lq
open Go Go.Vc Go.Ml Go.ChangeShapes Go.WideShapes Go.ChangeAt Go.RowKit

theorem own : ownKnob Tryd.prog.godebug = none := by kernel_rfl
theorem laidOut : laidOutB Tryd.prog = true := by kernel_rfl

/-- WHAT THE ROW's LIST GIVES: the error is there. -/
theorem err {W : World} (h : laidMetH Tryd.prog Rows.fnLz4SequencesRow.laid W) : ∃ u v, hcell W.heap ⟨0, 0, none⟩ = some (.iface u v) :=
  err_of_laid (P := Tryd.prog) (laid := Rows.fnLz4SequencesRow.laid) (i := 0) (by kernel_rfl) h

set_option maxRecDepth 100000 in
/-- FOR EVERY ARGUMENT AND EVERY WORLD THAT HOLDS WHAT THE ROW LISTS. -/
theorem contract (H : Type) (enc : TypeId × Value → H) (W : World) (base : Nat) (args : Array Value) (ds gs : List (DataW H)) (before : List MemPlace)
    (hval : ∀ (j : Nat) t v, Tryd.f10.params[j]? = some t → args[j]? = some v → Value.okWide Tryd.prog W .any base t v)
    (hW : DataW.Whole enc Tryd.prog Tryd.f10.params.toList Rows.fnLz4SequencesSpec.vars false W args.toList ds gs before) (hL : laidMetH Tryd.prog Rows.fnLz4SequencesRow.laid W) :
    Calls Tryd.prog 10 args W fun e W' => ∃ v, e = .returned v ∧ Rows.fnLz4SequencesSpec.post enc Tryd.prog Tryd.f10 false true false false W args v W' := by
  have hW' := hW
  obtain ⟨p, q, hA0, hV, rfl, hfz, hnd⟩ := hW
  have hA : DataW.TrodAll enc Tryd.prog W 0 (fun _ => true) true Tryd.f10.params.toList args.toList ds p := hA0
  rw [Tryd.params10] at hA hval
  obtain ⟨v0, v1, v2, v3, d0, d1, d2, d3, p0, p1, p2, p3, rfl, rfl, rfl, ⟨g0, h0⟩, h1, h2, h3⟩ := trodAll_four hA
  obtain ⟨a0, n0, c0, rfl⟩ := okWide_slice (e := 58) (by kernel_rfl) (hval 0 54 v0 rfl rfl)
  obtain ⟨s1, rfl, _, l1, H1, w1, hb1⟩ := open_sl (P := Tryd.prog) (e := 5) (k := .u8) (by kernel_rfl) (by kernel_rfl) (by kernel_rfl) (hval 1 22 v1 rfl rfl) h1
  obtain ⟨b2, rfl⟩ := okWide_bool (by kernel_rfl) (hval 2 4 v2 rfl rfl)
  obtain ⟨b3, rfl⟩ := okWide_bool (by kernel_rfl) (hval 3 4 v3 rfl rfl)
  obtain ⟨s0, ps, e0, _, _, HP⟩ := open_sqs h0
  obtain ⟨rfl, rfl, rfl⟩ : a0 = s0.p ∧ n0 = s0.n ∧ c0 = s0.c := by simpa [Value.cells] using e0
  obtain ⟨u, v, hE⟩ := err hL
  obtain ⟨rfl, rfl⟩ := trodVars_none hV
  have hc : CallsH Pg 10 #[(.slice s0.p s0.n s0.c), (.slice s1.p s1.n s1.c), (.bool b2), (.bool b3)] W.heap _ := law_Lz4Sequences HP H1 (fun a h1 h2 => (hb1 a h2).resolve_right (by have := H1.2.1; omega)) (byt_of_wf w1) hE rfl
  refine (hc.2 W rfl).mono fun e W' ⟨v, he, ha, r, hv, hr, ho⟩ => ?_
  subst hr
  subst hv
  exact ⟨_, he, post_law (tb := 4) laidOut (by kernel_rfl) (by kernel_rfl) (by kernel_rfl) rfl rfl rfl rfl hW' (below_of_old ha ho)⟩

/-- A WORLD FOR THE WITNESS: the settled one, what is listed holding what its initialisers lay. -/
abbrev txt0 : ByteArray := { data := #[115, 50, 58, 32, 99, 111, 114, 114, 117, 112, 116, 32, 105, 110, 112, 117, 116] }
abbrev txt1 : ByteArray := { data := #[115, 50, 58, 32, 100, 101, 99, 111, 100, 101, 100, 32, 98, 108, 111, 99, 107, 32, 105, 115, 32, 116, 111, 111, 32, 108, 97, 114, 103, 101] }
abbrev txt2 : ByteArray := { data := #[115, 50, 58, 32, 100, 101, 115, 116, 105, 110, 97, 116, 105, 111, 110, 32, 116, 111, 111, 32, 115, 109, 97, 108, 108] }
noncomputable def laidWorld (os : Os) : World :=
  laidI Tryd.prog os #[.cells #[.string txt0] 136, .cells #[.string txt1] 136, .cells #[.string txt2] 136] [(0, [.iface 134 (.pointer (some ⟨lowOf Tryd.prog, 0, none⟩))]), (1, [.iface 134 (.pointer (some ⟨lowOf Tryd.prog + 1, 0, none⟩))]), (2, [.iface 134 (.pointer (some ⟨lowOf Tryd.prog + 2, 0, none⟩))])]
def wargs : Array Value := #[.slice none 0 0, .slice none 0 0, .bool false, .bool false]
theorem laid_met (os : Os) : laidMet Tryd.prog Rows.fnLz4SequencesRow.laid ((laidWorld os).forCall (fun _ _ => 0) ⟨#[], wargs, []⟩).memory :=
  laidMet_of_run' 8 (by kernel_rfl) (by kernel_rfl)
theorem reads (os : Os) {H : Type} (enc : TypeId × Value → H) : ∃ places, DataW.whole enc Tryd.prog ((laidWorld os).forCall (fun _ _ => 0) ⟨#[], wargs, []⟩).memory Tryd.f10.params.toList Rows.fnLz4SequencesSpec.vars false wargs.toList 8 = some ([.nil, .nil, .lit (.bool false), .lit (.bool false)], [], places) :=
  ⟨[], by kernel_rfl⟩

set_option maxRecDepth 100000 in
theorem lifted (os : Os) (started : os.Started) (H : Type) (enc : TypeId × Value → H) (F : Stop.Interp) :
    ReturnsInHanded {} Tryd.checked os 10 .any ((OpenSpec.ofChange Rows.fnLz4SequencesSpec).preRow enc Tryd.prog Tryd.f10 Rows.fnLz4SequencesRow.domain false Rows.fnLz4SequencesRow.laid) (((OpenSpec.ofChange Rows.fnLz4SequencesSpec).at F).post enc Tryd.prog Tryd.f10 false true false false) := by
  obtain ⟨places, hx⟩ := reads os enc
  refine returnsInHanded_of_row (C := Tryd.checked) (s := OpenSpec.ofChange Rows.fnLz4SequencesSpec) own started (by kernel_rfl) Tryd.func10
    (witness_row_at (enc := enc) (C := Tryd.checked) false (laidWorld os) wargs rfl (by kernel_rfl) (by kernel_rfl) (by kernel_rfl)
      (OpenSpec.preRow_of_cond 8 hx (by kernel_rfl) (fun k hk => by cases hk) (by kernel_rfl) (laid_met os))) ?_
  intro W base args ds gs before hval hW _ _ _ hL _ _
  exact contract H enc W base args ds gs before hval hW hL

theorem said : Rows.FnLz4SequencesSaid :=
  OpenClaim.holds_of_cond 10 Tryd.f10 rfl rfl rfl rfl rfl rfl rfl ⟨rfl, rfl, rfl, rfl, rfl⟩ rfl rfl rfl rfl rfl (by kernel_rfl) Tryd.func10 (by kernel_rfl)
    (of_decide_eq_true (by kernel_rfl)) (by unfold Func.isWrapper; first | (rw [if_pos (by decide +kernel)]; kernel_rfl) | (rw [if_neg (by decide +kernel)]; exact ⟨rfl, rfl⟩))
    (fun os started H enc _ F => by rw [OpenClaim.pre_eq_preRow]; exact lifted os started H enc F)

/-- No parameter wants a stand-in; the program's own looks are off. -/
theorem plain (f : FuncId) (fn : Func) (hf : Tryd.pinned.checked.prog.funcNamed "pub-pemmican/laws.FnLz4Sequences" = some f) (hfn : Tryd.pinned.checked.prog.funcs[f]? = some fn) :
    false = Tryd.pinned.checked.prog.looks [] ∧ ∀ (j : Nat) t, fn.params[j]? = some t → Tryd.pinned.checked.prog.wantsStandIn t = false := by
  obtain rfl : f = 10 := Option.some.inj ((show Tryd.prog.funcNamed "pub-pemmican/laws.FnLz4Sequences" = some 10 by kernel_rfl).symm.trans hf) |>.symm
  obtain rfl : fn = Tryd.f10 := (Option.some.inj (Tryd.func10.symm.trans hfn)).symm
  refine ⟨by kernel_rfl, fun j t ht => ?_⟩
  have hall : (Tryd.f10.params.toList.all fun t => !Tryd.prog.wantsStandIn t) = true := by kernel_rfl
  have := List.all_eq_true.1 hall t (by have := Array.mem_of_getElem? ht; simpa using this)
  have h2 : Tryd.prog.wantsStandIn t = false := by simpa using this
  exact h2

/-- ████ THE CARD ████ -/
theorem card : Rows.FnLz4SequencesCardSaid :=
  Claim7.holds_tied_plain_at .later [] _ _ _ _ said (fun _ h => by cases h) (by kernel_rfl) (fun _ h => by cases h) fnLz4Sequences_row_tie rfl ⟨rfl, rfl⟩ (by kernel_rfl) rfl plain (by kernel_rfl)

#print axioms card
end Go.Proofs.YtibleenkgmkpmaaDoor.Lq
