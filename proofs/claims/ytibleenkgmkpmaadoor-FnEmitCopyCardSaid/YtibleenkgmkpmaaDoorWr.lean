/- A part of a calculus over heaps: what the steps of the Go model compute, told by terms that the kernel reduces. Nothing of the law is stated here. -/
import Derived.Test.YtibleenkgmkpmaaDoorVc12
import Derived.OpenShut
import Derived.Carry
import Derived.ChangeSlices
import Derived.WalkKit
import Derived.ProofKit
import Derived.Lib.LaidTab
namespace Go.Vc
open Go.ChangeShapes Go.WideShapes Go.ChangeAt Go.RowKit

theorem below_of_old {W W' : World} (ha : Alike W W') (ho : Old W.heap W'.heap) : Below W.heap.size W W' :=
  ⟨ha.os, ha.tape, ha.output, ho.size, fun k hk => ho.blk k hk⟩

/-- Each argument reads behind the call as it read before. -/
theorem trodAll_stay {H : Type} {enc : TypeId × Value → H} {P : Program} (hl : laidOutB P = true) {W W' : World} (hb : Below W.heap.size W W') {sp : Nat → Bool} :
    ∀ {ts : List TypeId} {vs : List Value} {ds : List (DataW H)} {p : List MemPlace}, ts.all (fun t => P.readableRec t && decide (t < P.types.size)) = true →
      DataW.TrodAll enc P W 0 (fun _ => true) true ts vs ds p → (∀ x ∈ p, x.block < W.heap.size) → (∀ x ∈ p, sp x.block = true) → DataW.TrodAll enc P W' 0 sp true ts vs ds p
  | [], _, _, _, _, h, _, _ => by
    obtain ⟨rfl, rfl, rfl⟩ := trodAll_nil h
    exact trodAll_mk0
  | t :: ts, _, _, _, hp, h, hlt, hsp => by
    obtain ⟨v, vs, d, ds, p, q, rfl, rfl, rfl, h1, h2⟩ := trodAll_cons h
    simp only [List.all_cons, Bool.and_eq_true, decide_eq_true_eq] at hp
    exact trodAll_cons_mk (WideElems.Trod_stays hl hp.1.1 hp.1.2 h1 (fun x hx => hb.same (hlt x (List.mem_append.2 (.inl hx)))) (fun x hx => hsp x (List.mem_append.2 (.inl hx))))
      (trodAll_stay hl hb (by simpa using hp.2) h2 (fun x hx => hlt x (List.mem_append.2 (.inr hx))) (fun x hx => hsp x (List.mem_append.2 (.inr hx))))

/-- ████ WHAT A LAW'S ROW ASKS BEHIND THE CALL, of a call that answers 'true' and leaves all old memory as it was. ████ -/
theorem post_law {H : Type} {enc : TypeId × Value → H} {P : Program} {f : Func} {s : ChangeSpec} {apart fresh handsOn : Bool} {W W' : World} {args : Array Value} {ds gs : List (DataW H)} {before : List MemPlace} {tb : TypeId}
    (hl : laidOutB P = true) (hpar : f.params.toList.all (fun t => P.readableRec t && decide (t < P.types.size)) = true) (hres : f.resultTypes = #[tb]) (htb : P.underlying tb = some .bool)
    (hvars : s.vars = []) (hr : (s.fn H (ds ++ gs)).results = [.lit (.bool true)]) (ha : (s.fn H (ds ++ gs)).args = ds) (hv : (s.fn H (ds ++ gs)).vars = [])
    (hW : DataW.Whole enc P f.params.toList s.vars apart W args.toList ds gs before) (hb : Below W.heap.size W W') : s.post enc P f apart fresh handsOn false W args (.bool true) W' := by
  have hW' := hW
  obtain ⟨p, q, hA, hV, rfl, _, _⟩ := hW
  rw [hvars] at hV
  obtain ⟨rfl, rfl⟩ := trodVars_none hV
  have hlt : ∀ x ∈ p ++ [], x.block < W.heap.size := fun x hx => by simpa using hW'.lt x hx
  refine ⟨ds, [], p ++ [], [], p, [], hW', ?_, ?_, ?_, hb.frame _, fun h => by cases h⟩
  · rw [hr, hres]
    exact trodAll_mk1 (shut_bool htb _)
  · rw [ha]
    exact trodAll_stay hl hb hpar hA (fun x hx => hlt x (by simpa using hx)) (fun x hx => by have := hlt x (by simpa using hx); simpa using this)
  · rw [hv, hvars]
    rfl

/-- An argument of numbers, opened: nil or not. -/
theorem open_sl {H : Type} {enc : TypeId × Value → H} {P : Program} {W : World} {base : Nat} {t e : TypeId} {k : IntKind} {v : Value} {d : DataW H} {ps : List MemPlace}
    (ht : P.underlying t = some (.slice e)) (he : P.underlying e = some (.int k)) (hc : P.cellsOf e = 1) (hv : Value.okWide P W .any base t v) (h : DataW.Trod enc P W 0 (fun _ => true) true t v d ps) :
    ∃ s : Sl, v = .slice s.p s.n s.c ∧ s.c ≤ maxLen ∧ ∃ l : List Int, SlI W.heap k s l ∧ (∀ x ∈ l, (Lit.int k x).wf = true) ∧ (∀ a, s.p = some a → a.block < W.heap.size ∨ s.c = 0) := by
  obtain ⟨a, len, cap, rfl⟩ := okWide_slice ht hv
  obtain ⟨fuel, hf⟩ := h
  rcases open_ints ht he hc hf with ⟨hcs, hx⟩ | ⟨a', len', cap', zs, hcs, _, hl, hm, hz, hx, hcell, hwz⟩
  · simp [Value.cells] at hcs
    obtain ⟨rfl, rfl, rfl⟩ := hcs
    exact ⟨⟨none, 0, 0⟩, rfl, by simp, [], ⟨rfl, Nat.le_refl _, fun h => by simp at h⟩, by simp, by simp⟩
  · simp [Value.cells] at hcs
    obtain ⟨rfl, rfl, rfl⟩ := hcs
    simp only [if_true] at hz
    have lt : ∀ (i : Nat) x, W.cell? (a'.add i) = some x → a'.block < W.heap.size := by
      intro i x hx
      have hbl : (a'.add i).block = a'.block := by unfold Addr.add; split <;> rfl
      rcases Nat.lt_or_ge a'.block W.heap.size with h1 | h1
      · exact h1
      · rw [World.cell?, hbl, Array.getElem?_eq_none h1] at hx
        cases hx
    refine ⟨⟨some a', len, cap⟩, rfl, hm, zs.take len, ⟨by simp; omega, hl, fun h0 => ?_⟩, fun x hx => hwz x (List.mem_of_mem_take hx), ?_⟩
    · simp only at h0
      have h1 := hcell 0 (by omega)
      have hsp : a'.spot = none := by
        have e0 : a'.add 0 = a' := by simp [Addr.add]
        rw [e0, World.cell?] at h1
        cases hs : a'.spot with
        | none => rfl
        | some x => rw [hs] at h1; split at h1 <;> simp at h1
      obtain ⟨b, o, sp⟩ := a'
      simp only at hsp
      subst hsp
      refine ⟨b, o, rfl, fun i hi => ?_⟩
      have hi' : i < len := by simp at hi; omega
      have := hcell i (by omega)
      rw [add_mk] at this
      rw [getD_take _ hi']
      exact this
    · intro a ha
      obtain rfl := Option.some.inj ha
      by_cases hc0 : cap = 0
      · exact Or.inr hc0
      · exact Or.inl (lt 0 _ (hcell 0 (by omega)))

theorem byt_of_wf {l : List Int} (h : ∀ x ∈ l, (Lit.int .u8 x).wf = true) : ∀ x ∈ l, 0 ≤ x ∧ x ≤ 255 := by
  intro x hx
  have := h x hx
  simp [Lit.wf, IntKind.min, IntKind.max, IntKind.signed, IntKind.bits] at this
  omega

theorem laidVars_at {P : Program} {W : World} : ∀ {laid : List (String × DataW Unit)} {ps : List MemPlace} {i : Nat} {n : String} {d : DataW Unit}, DataW.LaidVars P W laid ps → laid[i]? = some (n, d) →
    ∃ g t cs fuel p, P.globalNamed n = some g ∧ (P.globals[g]?).map (·.type) = some t ∧ W.var? P n = some cs ∧ DataW.trod (fun _ => ()) P W 0 (fun _ => true) false fuel t cs.toList = some (d, p)
  | [], _, i, _, _, _, hi => by simp at hi
  | (m, e) :: r, ps, 0, n, d, h, hi => by
    obtain ⟨g, t, cs, fuel, p, q, h1, h2, h3, h4, _, _⟩ := h
    simp only [List.getElem?_cons_zero, Option.some.injEq, Prod.mk.injEq] at hi
    obtain ⟨rfl, rfl⟩ := hi
    exact ⟨g, t, cs, fuel, p, h1, h2, h3, h4⟩
  | (m, e) :: r, ps, i + 1, n, d, h, hi => by
    obtain ⟨g, t, cs, fuel, p, q, _, _, _, _, h5, _⟩ := h
    exact laidVars_at h5 (by simpa using hi)

/-- Is NAME the variable g, an array of n integers of kind k? -/
def tabOk (P : Program) (name : String) (g : Nat) (k : IntKind) (n : Nat) : Bool :=
  decide (P.globalNamed name = some g) && (match (P.globals[g]?).map (·.type) with
    | some t => (match P.underlying t with
      | some (.array m e) => m == n && (match P.underlying e with
        | some (.int k') => decide (k' = k)
        | _ => false) && P.cellsOf e == 1 && P.cellsOf t == n
      | _ => false)
    | none => false)

/-- A table that is laid: its cells, in memory. -/
theorem tab_of_laid {P : Program} {W : World} {laid : List (String × DataW Unit)} {name : String} {k : IntKind} {zs : List Int} {g i : Nat} (ho : tabOk P name g k zs.length = true) (hi : laid[i]? = some (name, Lib.tabData k zs)) (hL : laidMet P laid W) :
    ∀ j, j < zs.length → hcell W.heap ⟨g, j, none⟩ = some (.int k (zs.getD j 0)) := by
  obtain ⟨ps, hV, _, _⟩ := hL
  obtain ⟨g', t, cs, fuel, p, h1, h2, h3, h4⟩ := laidVars_at hV hi
  unfold tabOk at ho
  rw [h1] at ho
  simp only [Bool.and_eq_true, decide_eq_true_eq, Option.some.injEq] at ho
  obtain ⟨rfl, ho⟩ := ho
  rw [h2] at ho
  simp only at ho
  split at ho
  · rename_i m e ht
    simp only [Bool.and_eq_true, beq_iff_eq] at ho
    obtain ⟨⟨⟨rfl, ho1⟩, hc⟩, hct⟩ := ho
    split at ho1
    · rename_i k' he
      obtain rfl := of_decide_eq_true ho1
      have : Lib.TabIs P W name k' zs := by
        unfold Lib.TabIs
        rw [h3, ← Lib.cells_of_tab ht he hc hct h4]
      exact fun j hj => this.cell h1 j hj
    · cases ho1
  · cases ho

/-- A block's cells, laid anew. -/
def layCells (l : List Value) : Obj → Obj
  | .cells _ t frozen => .cells l.toArray t frozen
  | o => o
/-- A settled world with these blocks laid. -/
noncomputable def laidW (P : Program) (os : Os) (ls : List (Nat × List Value)) : World :=
  { World.holding P os ⟨#[], #[], []⟩ with heap := ls.foldl (fun h x => h.modify x.1 (layCells x.2)) (World.holding P os ⟨#[], #[], []⟩).heap }

end Go.Vc
