/- A part of a calculus over heaps: what the steps of the Go model compute, told by terms that the kernel reduces. Nothing of the law is stated here. -/
import Derived.Test.YtibleenkgmkpmaaDoorVc5
namespace Go.Vc
variable {P : Program}

theorem evList_sound {ev : Operand → Option Value} {ρ : Operand → Value} (hev : ∀ x v, ev x = some v → ρ x = v) : ∀ {l : List Operand} {vs : List Value}, evList ev l = some vs → l.map ρ = vs
  | [], vs, h => by simp only [evList, Option.some.injEq] at h; subst h; rfl
  | x :: r, vs, h => by
    simp only [evList] at h
    split at h
    · rename_i v us h1 h2
      simp only [Option.some.injEq] at h
      subst h
      simp [hev _ _ h1, evList_sound hev h2]
    · cases h

theorem evParts_sound {ev : Operand → Option Value} {ρ : Operand → Value} (hev : ∀ x v, ev x = some v → ρ x = v) : ∀ {l : List (Nat × Operand)} {vs : List (Nat × Value)}, evParts ev l = some vs →
    l.map (fun p => (p.1, ρ p.2)) = vs
  | [], vs, h => by simp only [evParts, Option.some.injEq] at h; subst h; rfl
  | (i, x) :: r, vs, h => by
    simp only [evParts] at h
    split at h
    · rename_i v us h1 h2
      simp only [Option.some.injEq] at h
      subst h
      simp [hev _ _ h1, evParts_sound hev h2]
    · cases h

/-- Every cell that is there in the first heap holds the same in the second. -/
def HExt (h h' : Heap) : Prop := ∀ a v, hcell h a = some v → hcell h' a = some v
theorem HExt.refl (h : Heap) : HExt h h := fun _ _ h => h
theorem HExt.trans {a b c : Heap} (h : HExt a b) (k : HExt b c) : HExt a c := fun x v hx => k x v (h x v hx)

def isLoad : Op → Bool
  | .load _ _ => true
  | _ => false

/-- What 'execOp' does with a value, in every world of a class. -/
def Yields (P : Program) (s : Sem Next) (C : World → Prop) (v : Value) : Prop := ∀ w : World, C w → s.run P w = .ok (.value v) w

theorem yields_of {s : Sem Value} {C : World → Prop} {v : Value} (hs : ∀ w : World, C w → s.run P w = .ok v w) : Yields P (do pure (.value (← s))) C v := by
  intro w hw
  simp [hs w hw]

theorem callVal_sound {ev : Operand → Option Value} {ρ : Operand → Value} (hev : ∀ x v, ev x = some v → ρ x = v) {c : Call} {ty : TypeId} {C : World → Prop} {K : Value → Prop} (H : callVal P ev c K) :
    ∃ v, K v ∧ Yields P (do let d ← resolve ρ c ty; invoke d.target d.args) C v := by
  obtain ⟨callee, args, argTypes⟩ := c
  have key : ∀ (b : Builtin) (v : Value), (∀ w : World, (builtin b argTypes ty (args.map fun | .const _ => true | _ => false) (args.map ρ)).run P w = .ok (.value v) w) →
      Yields P (do let d ← resolve ρ ⟨.builtin b, args, argTypes⟩ ty; invoke d.target d.args) C v := by
    intro b v hb w _
    simp only [Sem.run_bind, resolve, Sem.run_pure, Result.andThen, invoke]
    exact hb w
  unfold callVal at H
  simp only at H
  split at H
  · split at H
    · rename_i x t hargs htys
      cases hx : ev x with
      | none => rw [hx] at H; exact H.elim
      | some u =>
        rw [hx] at H
        obtain ⟨v, hK, hr⟩ := lenP_sound (ty := ty) H
        refine ⟨v, hK, key _ _ fun w => ?_⟩
        have e1 : args = #[x] := by rw [← Array.toArray_toList (xs := args), hargs]
        have e2 : argTypes = #[t] := by rw [← Array.toArray_toList (xs := argTypes), htys]
        subst e1; subst e2
        simp [builtin, hev _ _ hx, hr w]
    · exact H.elim
  · split at H
    · rename_i x t hargs htys
      cases hx : ev x with
      | none => rw [hx] at H; exact H.elim
      | some u =>
        rw [hx] at H
        obtain ⟨v, hK, hr⟩ := capP_sound (ty := ty) H
        refine ⟨v, hK, key _ _ fun w => ?_⟩
        have e1 : args = #[x] := by rw [← Array.toArray_toList (xs := args), hargs]
        have e2 : argTypes = #[t] := by rw [← Array.toArray_toList (xs := argTypes), htys]
        subst e1; subst e2
        simp [builtin, hev _ _ hx, hr w]
    · exact H.elim
  · split at H
    · rename_i x y hargs
      split at H
      · rename_i k a k' b hx hy
        refine ⟨_, H, key _ _ fun w => ?_⟩
        have e1 : args = #[x, y] := by rw [← Array.toArray_toList (xs := args), hargs]
        subst e1
        simp only [builtin, List.map_toArray, List.map_cons, List.map_nil, hev _ _ hx, hev _ _ hy, Sem.run_bind, run_min_int2, Result.andThen]
        rfl
      · exact H.elim
    · exact H.elim
  · split at H
    · rename_i x y hargs
      split at H
      · rename_i k a k' b hx hy
        refine ⟨_, H, key _ _ fun w => ?_⟩
        have e1 : args = #[x, y] := by rw [← Array.toArray_toList (xs := args), hargs]
        subst e1
        simp only [builtin, List.map_toArray, List.map_cons, List.map_nil, hev _ _ hx, hev _ _ hy, Sem.run_bind, run_max_int2, Result.andThen]
        rfl
      · exact H.elim
    · exact H.elim
  · exact H.elim

theorem valOp_sound {ev : Operand → Option Value} {ρ : Operand → Value} (hev : ∀ x v, ev x = some v → ρ x = v) {o : Oper} {h : Heap} {K : Value → Prop} (H : valOp P ev o.op h K)
    {C : World → Prop} (hC : isLoad o.op = false ∨ ∀ w, C w → HExt h w.heap) : ∃ v, K v ∧ Yields P (execOp ρ o) C v := by
  obtain ⟨dst, op, type, pos, after, guard⟩ := o
  simp only at H hC
  cases op <;> simp only [valOp] at H
  case move x =>
    cases hx : ev x with
    | none => rw [hx] at H; exact H.elim
    | some v => rw [hx] at H; exact ⟨v, H, fun w _ => by simp [execOp, hev _ _ hx]⟩
  case assign x =>
    cases hx : ev x with
    | none => rw [hx] at H; exact H.elim
    | some v => rw [hx] at H; exact ⟨v, H, fun w _ => by simp [execOp, hev _ _ hx]⟩
  case pick c a b =>
    split at H
    · rename_i hc
      cases hx : ev a with
      | none => rw [hx] at H; exact H.elim
      | some v => rw [hx] at H; exact ⟨v, H, fun w _ => by simp [execOp, hev _ _ hx, hev _ _ hc, asBool]⟩
    · rename_i hc
      cases hx : ev b with
      | none => rw [hx] at H; exact H.elim
      | some v => rw [hx] at H; exact ⟨v, H, fun w _ => by simp [execOp, hev _ _ hx, hev _ _ hc, asBool]⟩
    · exact H.elim
  case load t a =>
    split at H
    · rename_i p ha
      obtain ⟨ad, rfl, H⟩ := ptrE_elim H
      obtain ⟨v, hK, hr⟩ := ldP_sound H
      refine ⟨v, hK, yields_of fun w hw => ?_⟩
      have hext : HExt h w.heap := by
        rcases hC with hC | hC
        · simp [isLoad] at hC
        · exact hC w hw
      rw [hev _ _ ha]
      simp [Instr.loadAt, Instr.sureAddr, hr w hext]
    · exact H.elim
  case nilCheck x =>
    split at H
    · rename_i p hp
      obtain ⟨a, rfl, hK⟩ := ptrE_elim H
      exact ⟨_, hK, fun w _ => by simp [execOp, hev _ _ hp]⟩
    · exact H.elim
  case binOp op t x y yt =>
    split at H
    · rename_i a b hx hy
      cases hok : eqOk P op t y with
      | false => rw [hok] at H; exact H.elim
      | true =>
        rw [hok] at H
        obtain ⟨v, hK, hr⟩ := binP_sound (ox := x) hok H
        refine ⟨v, hK, yields_of fun w _ => ?_⟩
        rw [hev _ _ hx, hev _ _ hy]
        exact hr w
    · exact H.elim
  case unOp op t x =>
    cases hx : ev x with
    | none => rw [hx] at H; exact H.elim
    | some a =>
      rw [hx] at H
      obtain ⟨v, hK, hr⟩ := unP_sound (P := P) H
      exact ⟨v, hK, yields_of fun w _ => by rw [hev _ _ hx]; exact hr w⟩
  case convert s d x =>
    cases hx : ev x with
    | none => rw [hx] at H; exact H.elim
    | some a =>
      rw [hx] at H
      obtain ⟨v, hK, hr⟩ := convP_sound H
      exact ⟨v, hK, yields_of fun w _ => by rw [hev _ _ hx]; exact hr w⟩
  case makeInterface t x =>
    split at H
    · exact H.elim
    · rename_i v d hnot hx hd
      refine ⟨_, H, yields_of fun w _ => ?_⟩
      rw [hev _ _ hx]
      unfold Instr.makeInterface
      simp only [Sem.run_bind, run_underlying hd, Result.andThen]
      cases d <;> first | rfl | (exact (hnot _ rfl).elim)
    · exact H.elim
  case makeFunc fn first captured =>
    split at H
    · rename_i a b ha hb
      refine ⟨_, H, yields_of fun w _ => ?_⟩
      have e1 : first.map ρ = a.toArray := by apply Array.ext'; simpa using evList_sound hev ha
      have e2 : captured.map ρ = b.toArray := by apply Array.ext'; simpa using evList_sound hev hb
      rw [e1, e2]
      rfl
    · exact H.elim
  case slice t x lo hi mx =>
    cases hx : ev x with
    | none => rw [hx] at H; exact H.elim
    | some v =>
      rw [hx] at H
      simp only at H
      have go : ∀ {lo' hi' mx' : Option Value}, lo.map ρ = lo' → hi.map ρ = hi' → mx.map ρ = mx' → slP P t v lo' hi' mx' K →
          ∃ u, K u ∧ Yields P (do pure (.value (← Instr.sliceAt t (ρ x) (lo.map ρ) (hi.map ρ) (mx.map ρ)))) C u := by
        intro lo' hi' mx' e1 e2 e3 hs
        obtain ⟨u, hK, hr⟩ := slP_sound hs
        exact ⟨u, hK, yields_of fun w _ => by rw [hev _ _ hx, e1, e2, e3]; exact hr w⟩
      cases lo with
      | none =>
        cases hi with
        | none =>
          cases mx with
          | none => exact go rfl rfl rfl H
          | some m => exact H.elim
        | some u =>
          cases mx with
          | none =>
            simp only at H
            cases h1 : ev u with
            | none => rw [h1] at H; exact H.elim
            | some a => rw [h1] at H; exact go rfl (by simp [hev _ _ h1]) rfl H
          | some m =>
            simp only at H
            split at H
            · rename_i a b h1 h2; exact go rfl (by simp [hev _ _ h1]) (by simp [hev _ _ h2]) H
            · exact H.elim
      | some l =>
        cases hi with
        | none =>
          cases mx with
          | none =>
            simp only at H
            cases h1 : ev l with
            | none => rw [h1] at H; exact H.elim
            | some a => rw [h1] at H; exact go (by simp [hev _ _ h1]) rfl rfl H
          | some m => exact H.elim
        | some u =>
          cases mx with
          | none =>
            simp only at H
            split at H
            · rename_i a b h1 h2; exact go (by simp [hev _ _ h1]) (by simp [hev _ _ h2]) rfl H
            · exact H.elim
          | some m =>
            simp only at H
            split at H
            · rename_i a b c h1 h2 h3; exact go (by simp [hev _ _ h1]) (by simp [hev _ _ h2]) (by simp [hev _ _ h3]) H
            · exact H.elim
  case fieldAddr s x f =>
    cases hx : ev x with
    | none => rw [hx] at H; exact H.elim
    | some a =>
      rw [hx] at H
      obtain ⟨v, hK, hr⟩ := fldAddrP_sound H
      exact ⟨v, hK, yields_of fun w _ => by rw [hev _ _ hx]; exact hr w⟩
  case field t x f =>
    cases hx : ev x with
    | none => rw [hx] at H; exact H.elim
    | some a =>
      rw [hx] at H
      obtain ⟨v, hK, hr⟩ := fldP_sound H
      exact ⟨v, hK, yields_of fun w _ => by rw [hev _ _ hx]; exact hr w⟩
  case indexAddr t x i =>
    split at H
    · rename_i a b hx hy
      obtain ⟨v, hK, hr⟩ := idxAddrP_sound H
      exact ⟨v, hK, yields_of fun w _ => by rw [hev _ _ hx, hev _ _ hy]; exact hr w⟩
    · exact H.elim
  case index t x i =>
    split at H
    · rename_i a b hx hy
      obtain ⟨v, hK, hr⟩ := idxP_sound H
      exact ⟨v, hK, yields_of fun w _ => by rw [hev _ _ hx, hev _ _ hy]; exact hr w⟩
    · exact H.elim
  case extract x i =>
    cases hx : ev x with
    | none => rw [hx] at H; exact H.elim
    | some a =>
      rw [hx] at H
      obtain ⟨v, hK, hr⟩ := extP_sound (P := P) H
      exact ⟨v, hK, yields_of fun w _ => by rw [hev _ _ hx]; exact hr w⟩
  case build t parts =>
    cases hx : evParts ev parts.toList with
    | none => rw [hx] at H; exact H.elim
    | some ps =>
      rw [hx] at H
      obtain ⟨v, hK, hr⟩ := buildP_sound H
      refine ⟨v, hK, yields_of fun w _ => ?_⟩
      have e1 : (parts.map fun (p : Nat × Operand) => (p.1, ρ p.2)) = ps.toArray := by apply Array.ext'; simpa using evParts_sound hev hx
      have := hr w
      rw [← e1] at this
      exact this
  case call c => exact callVal_sound hev H

end Go.Vc
