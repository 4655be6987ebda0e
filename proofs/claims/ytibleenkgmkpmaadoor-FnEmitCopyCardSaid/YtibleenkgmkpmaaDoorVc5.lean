/- A part of a calculus over heaps: what the steps of the Go model compute, told by terms that the kernel reduces. Nothing of the law is stated here. -/
import Derived.Test.YtibleenkgmkpmaaDoorVc4
namespace Go.Vc
variable {P : Program}

theorem foldl_put (off : Nat) : ∀ (v : List Value) (j : Nat) (cs : Array Value), off + j + v.length ≤ cs.size →
    ((v.zipIdx j).foldl (fun cs (p : Value × Nat) => cs.setIfInBounds (off + p.2) p.1) cs).toList = cs.toList.take (off + j) ++ v ++ cs.toList.drop (off + j + v.length)
  | [], j, cs, _ => by simp
  | x :: v, j, cs, h => by
    simp only [List.length_cons] at h
    simp only [List.zipIdx_cons, List.foldl_cons]
    rw [foldl_put off v (j + 1) _ (by simp; omega)]
    have hlt : off + j < cs.toList.length := by simp; omega
    simp only [Array.toList_setIfInBounds, List.length_cons]
    rw [List.take_set, List.drop_set_of_lt (by omega)]
    rw [show off + (j + 1) = off + j + 1 by omega, List.take_succ_eq_append_getElem hlt]
    rw [show off + j + (v.length + 1) = off + j + 1 + v.length by omega]
    rw [List.set_append_right _ _ (by simp; omega)]
    have : off + j - (List.take (off + j) cs.toList).length = 0 := by simp; omega
    rw [this]
    simp

theorem fillL_sound {place place' : Nat → Option (Nat × Nat)} (hp : ∀ i x, place i = some x → place' i = some x) : ∀ {parts : List (Nat × Value)} {cells cs : List Value} {arr : Array Value}, arr.toList = cells → fillL place cells parts = some cs →
    Instr.fill place' arr parts = some cs.toArray
  | [], cells, cs, arr, ha, h => by
    simp only [fillL, Option.some.injEq] at h
    subst h; subst ha
    simp [Instr.fill]
  | (i, v) :: r, cells, cs, arr, ha, h => by
    subst ha
    simp only [fillL] at h
    cases hpl : place i with
    | none => rw [hpl] at h; cases h
    | some x =>
      obtain ⟨off, size⟩ := x
      rw [hpl] at h
      simp only at h
      cases h1 : Nat.beq v.cells.toList.length size with
      | false => rw [h1] at h; cases h
      | true =>
        cases h2 : Nat.ble (off + v.cells.toList.length) arr.toList.length with
        | false => rw [h1, h2] at h; cases h
        | true =>
          rw [h1, h2] at h
          simp only [Bool.and_self, cond_true] at h
          have e1 : v.cells.size = size := by have := Nat.eq_of_beq_eq_true h1; simpa using this
          have e2 : off + v.cells.size ≤ arr.size := by have := Nat.le_of_ble_eq_true h2; simpa using this
          simp only [Instr.fill, hp _ _ hpl]
          rw [if_neg (by simp [e1]; omega)]
          refine fillL_sound hp ?_ h
          rw [← Array.foldl_toList]
          have := foldl_put off v.cells.toList 0 arr (by simpa using e2)
          simpa using this

theorem mapM_places {fs : List Field} (h : allSized P fs = true) (w : World) :
    (fs.mapM fun f => do pure (f.offset, ← sizeOf f.type) : Sem (List (Nat × Nat))).run P w = .ok (fs.map fun f => (f.offset, ((P.info? f.type).map (·.size)).getD 0)) w := by
  induction fs with
  | nil => rfl
  | cons f r ih =>
    simp only [allSized, Bool.and_eq_true] at h
    obtain ⟨i, hi⟩ := Option.isSome_iff_exists.1 h.1
    have ih' := ih h.2
    simp only [List.mapM_cons, Sem.run_bind, run_sizeOf' hi, Result.andThen, Sem.run_pure]
    rw [ih']
    simp [hi]

theorem buildP_sound {t : TypeId} {parts : List (Nat × Value)} {K : Value → Prop} (H : buildP P t parts K) : ∃ v, K v ∧ ∀ w : World, (Instr.build t parts.toArray).run P w = .ok v w := by
  unfold buildP at H
  split at H
  · rename_i i fs hi hd
    cases hz : i.zero with
    | none => rw [hz] at H; exact H.elim
    | some z =>
      rw [hz] at H
      simp only at H
      cases ha : allSized P fs.toList with
      | false => rw [ha] at H; exact H.elim
      | true =>
        rw [ha] at H
        simp only [cond_true] at H
        cases hf : fillL (structPlace P fs) z.cells.toList parts with
        | none => rw [hf] at H; exact H.elim
        | some cs =>
          rw [hf] at H
          refine ⟨_, H, fun w => ?_⟩
          unfold Instr.build
          simp only [Sem.run_bind, run_zeroValue' hi hz, run_underlying hd, Result.andThen]
          have hm := mapM_places (P := P) ha w
          rw [Array.mapM_eq_mapM_toList]
          simp only [Sem.run_map, hm, Result.andThen]
          rw [fillL_sound (place := structPlace P fs) ?_ rfl hf]
          · rfl
          · intro k x hx
            unfold structPlace at hx
            simp only [List.getElem?_toArray, List.getElem?_map]
            cases hfk : fs.toList[k]? with
            | none => rw [hfk] at hx; cases hx
            | some f =>
              rw [hfk] at hx
              simp only at hx
              cases hj : P.info? f.type with
              | none => rw [hj] at hx; cases hx
              | some j => rw [hj] at hx; simpa [hj] using hx
  · rename_i i n e hi hd
    split at H
    · rename_i z j hz hj
      cases hf : fillL (fun k => some (k * j.size, j.size)) z.cells.toList parts with
      | none => rw [hf] at H; exact H.elim
      | some cs =>
        rw [hf] at H
        refine ⟨_, H, fun w => ?_⟩
        unfold Instr.build
        simp only [Sem.run_bind, run_zeroValue' hi hz, run_underlying hd, Result.andThen, run_sizeOf' hj]
        rw [fillL_sound (place := fun k => some (k * j.size, j.size)) (fun _ _ h => h) rfl hf]
        rfl
    · exact H.elim
  · exact H.elim

theorem lenP_sound {t ty : TypeId} {x : Value} {K : Value → Prop} (H : lenP P t x K) : ∃ v, K v ∧ ∀ w : World, (Builtin.len_ #[t] ty #[x]).run P w = .ok v w := by
  unfold lenP at H
  cases hd : P.underlying t with
  | none => rw [hd] at H; exact H.elim
  | some d =>
    rw [hd] at H
    cases d <;> (try (cases x <;> simp only at H; done))
    case string =>
      cases x <;> (try (simp only at H; done))
      exact ⟨_, H, fun w => by simp [Builtin.len_, run_underlying hd, goInt]⟩
    case slice e =>
      cases x <;> (try (simp only at H; done))
      exact ⟨_, H, fun w => by simp [Builtin.len_, run_underlying hd, goInt]⟩
    case array n e =>
      refine ⟨_, H, fun w => ?_⟩
      cases x <;> simp [Builtin.len_, run_underlying hd, goInt]
    case pointer arr =>
      simp only at H
      cases ha : P.underlying arr with
      | none => rw [ha] at H; exact H.elim
      | some b =>
        rw [ha] at H
        cases b <;> (try (simp only at H; done))
        refine ⟨_, H, fun w => ?_⟩
        cases x <;> simp [Builtin.len_, run_underlying hd, run_underlying ha, goInt]

theorem capP_sound {t ty : TypeId} {x : Value} {K : Value → Prop} (H : capP P t x K) : ∃ v, K v ∧ ∀ w : World, (Builtin.cap_ #[t] ty #[x]).run P w = .ok v w := by
  unfold capP at H
  cases hd : P.underlying t with
  | none => rw [hd] at H; exact H.elim
  | some d =>
    rw [hd] at H
    cases d <;> (try (cases x <;> simp only at H; done))
    case slice e =>
      cases x <;> (try (simp only at H; done))
      exact ⟨_, H, fun w => by simp [Builtin.cap_, run_underlying hd, goInt]⟩

end Go.Vc
