/- A part of a calculus over heaps: what the steps of the Go model compute, told by terms that the kernel reduces. Nothing of the law is stated here. -/
import Derived.WalkKit
import Derived.StillTail
namespace Go.Vc

/-! ### Heaps -/
abbrev Heap := Array Obj

def hcell (h : Heap) (a : Addr) : Option Value :=
  match h[a.block]? with
  | some (.cells c _ _) => if a.spot.isSome then none else c[a.off]?
  | _ => none

def hfrozen (h : Heap) (a : Addr) : Bool :=
  match h[a.block]? with
  | some (.cells _ _ (lo, hi)) => lo ≤ a.off && a.off < hi
  | _ => false

def hset (h : Heap) (a : Addr) (v : Value) : Heap :=
  h.modify a.block fun
    | .cells c elem frozen => .cells (if a.spot.isSome then c else c.setIfInBounds a.off v) elem frozen
    | o => o

theorem cell_eq (w : World) (a : Addr) : w.cell? a = hcell w.heap a := rfl
theorem frozen_eq (w : World) (a : Addr) : w.frozen? a = hfrozen w.heap a := rfl
theorem setCell_eq (w : World) (a : Addr) (v : Value) : w.setCell a v = { w with heap := hset w.heap a v } := rfl

/-- What the world bears beside the heap and the count of draws. -/
structure Alike (w w' : World) : Prop where
  os : w'.os = w.os
  tape : w'.tape = w.tape
  output : w'.output = w.output

theorem Alike.refl (w : World) : Alike w w := ⟨rfl, rfl, rfl⟩
theorem Alike.trans {a b c : World} (h : Alike a b) (k : Alike b c) : Alike a c :=
  ⟨k.os.trans h.os, k.tape.trans h.tape, k.output.trans h.output⟩

/-! ### Frames as association lists, the newest first -/
abbrev Env := List (Nat × Value)

def Env.get : Env → Nat → Option Value
  | [], _ => none
  | (i, v) :: r, j => bif Nat.beq i j then some v else Env.get r j

def Env.ev (e : Env) : Operand → Option Value
  | .tmp t => e.get t
  | .const v => some v
  | .global g => some (.pointer (some ⟨g, 0, none⟩))
  | .func f => some (.func (.func f) #[] #[])

structure Rel (n : Nat) (e : Env) (a : Act) : Prop where
  size : a.tmps.size = n
  defers : a.defers = []
  ok : ∀ i v, e.get i = some v → a.tmps.getD i undef = v

theorem Rel.ev {n : Nat} {e : Env} {a : Act} (h : Rel n e a) {x : Operand} {v : Value} (hx : e.ev x = some v) : a.eval x = v := by
  cases x with
  | tmp t => exact h.ok t v hx
  | const c => simpa [Env.ev, Act.eval] using hx
  | global g => simpa [Env.ev, Act.eval] using hx
  | func f => simpa [Env.ev, Act.eval] using hx

theorem Rel.put {n : Nat} {e : Env} {a : Act} (h : Rel n e a) {d : Nat} (hd : d < n) (v : Value) : Rel n ((d, v) :: e) (a.put (some d) v) := by
  refine ⟨by simp [Act.put, h.size], by simp [Act.put, h.defers], ?_⟩
  intro i u hu
  have hs : d < a.tmps.size := by rw [h.size]; exact hd
  simp only [Env.get] at hu
  cases hb : Nat.beq d i with
  | true =>
    have hdi : d = i := Nat.eq_of_beq_eq_true hb
    subst hdi
    rw [hb] at hu
    simp at hu
    subst hu
    simp [Act.put, hs]
  | false =>
    rw [hb] at hu
    simp at hu
    have hdi : d ≠ i := fun h' => by subst h'; simp at hb
    have := h.ok i u hu
    simp only [Act.put]
    simp only [Array.getD_eq_getD_getElem?] at this ⊢
    rw [Array.getElem?_setIfInBounds_ne hdi]
    exact this

theorem Rel.put_none {n : Nat} {e : Env} {a : Act} (h : Rel n e a) (v : Value) : Rel n e (a.put none v) := by
  simpa [Act.put] using h

/-- Every pair of the first list is met in the second. -/
def SubP : Env → Env → Prop
  | [], _ => True
  | (i, v) :: r, e => e.get i = some v ∧ SubP r e

theorem SubP.get {e : Env} : ∀ {d : Env}, SubP d e → ∀ i v, d.get i = some v → e.get i = some v
  | [], _, i, v, h => by simp [Env.get] at h
  | (j, u) :: r, hs, i, v, h => by
    simp only [Env.get] at h
    cases hb : Nat.beq j i with
    | true =>
      rw [hb] at h; simp at h; subst h
      have : j = i := Nat.eq_of_beq_eq_true hb
      subst this
      exact hs.1
    | false =>
      rw [hb] at h; simp at h
      exact SubP.get hs.2 i v h

theorem Rel.sub {n : Nat} {e d : Env} {a : Act} (h : Rel n e a) (hs : SubP d e) : Rel n d a :=
  ⟨h.size, h.defers, fun i v hv => h.ok i v (hs.get i v hv)⟩

/-- A value that is known to be a Bool: written out. -/
theorem Rel.known {n : Nat} {e : Env} {a : Act} (h : Rel n e a) {d : Nat} {v : Value} (hd : e.get d = some v) : Rel n ((d, v) :: e) a := by
  refine ⟨h.size, h.defers, fun i u hu => ?_⟩
  simp only [Env.get] at hu
  cases hb : Nat.beq d i with
  | true =>
    rw [hb] at hu; simp at hu; subst hu
    have : d = i := Nat.eq_of_beq_eq_true hb
    subst this
    exact h.ok _ _ hd
  | false => rw [hb] at hu; simp at hu; exact h.ok i u hu

end Go.Vc
