/- A part of a calculus over heaps: what the steps of the Go model compute, told by terms that the kernel reduces. Nothing of the law is stated here. -/
import Derived.Test.YtibleenkgmkpmaaDoorVc9
namespace Go.Vc

/-! ### Frames read back -/
structure Sl where
  p : Option Addr
  n : Nat
  c : Nat

@[reducible] def Sl.v (s : Sl) : Value := .slice s.p s.n s.c
def Sl.nil : Sl := ⟨none, 0, 0⟩

def getV (e : Env) (i : Nat) (K : Value → Prop) : Prop :=
  match e.get i with
  | some v => K v
  | none => False
theorem getV_elim {e : Env} {i : Nat} {K : Value → Prop} (H : getV e i K) : ∃ v, e.get i = some v ∧ K v := by
  unfold getV at H
  split at H
  · exact ⟨_, by assumption, H⟩
  · exact H.elim

def asI (k : IntKind) (v : Value) (K : Int → Prop) : Prop :=
  match v with
  | .int k' n => bif kEq k' k then K n else False
  | _ => False
theorem asI_elim {k : IntKind} {v : Value} {K : Int → Prop} (H : asI k v K) : ∃ n, v = .int k n ∧ K n := by
  unfold asI at H
  split at H
  · rename_i k' n
    cases hk : kEq k' k with
    | false => rw [hk] at H; exact H.elim
    | true => rw [hk] at H; exact ⟨n, by rw [kEq_eq hk], H⟩
  · exact H.elim

def asB (v : Value) (K : Bool → Prop) : Prop :=
  match v with
  | .bool b => K b
  | _ => False
theorem asB_elim {v : Value} {K : Bool → Prop} (H : asB v K) : ∃ b, v = .bool b ∧ K b := by
  unfold asB at H
  split at H
  · exact ⟨_, rfl, H⟩
  · exact H.elim

def asS (v : Value) (K : Option Addr → Nat → Nat → Prop) : Prop :=
  match v with
  | .slice p n c => K p n c
  | _ => False
theorem asS_elim {v : Value} {K : Option Addr → Nat → Nat → Prop} (H : asS v K) : ∃ p n c, v = .slice p n c ∧ K p n c := by
  unfold asS at H
  split at H
  · exact ⟨_, _, _, rfl, H⟩
  · exact H.elim

def asP (v : Value) (K : Option Addr → Prop) : Prop :=
  match v with
  | .pointer p => K p
  | _ => False
theorem asP_elim {v : Value} {K : Option Addr → Prop} (H : asP v K) : ∃ p, v = .pointer p ∧ K p := by
  unfold asP at H
  split at H
  · exact ⟨_, rfl, H⟩
  · exact H.elim

def asStr (v : Value) (K : ByteArray → Prop) : Prop :=
  match v with
  | .string p => K p
  | _ => False
theorem asStr_elim {v : Value} {K : ByteArray → Prop} (H : asStr v K) : ∃ p, v = .string p ∧ K p := by
  unfold asStr at H
  split at H
  · exact ⟨_, rfl, H⟩
  · exact H.elim

def asA (v : Value) (K : List Value → Prop) : Prop :=
  match v with
  | .agg cs => K cs.toList
  | _ => False
theorem asA_elim {v : Value} {K : List Value → Prop} (H : asA v K) : ∃ l, v = .agg l.toArray ∧ K l := by
  unfold asA at H
  split at H
  · exact ⟨_, by simp, H⟩
  · exact H.elim

def asT (v : Value) (K : List Value → Prop) : Prop :=
  match v with
  | .tuple cs => K cs.toList
  | _ => False
theorem asT_elim {v : Value} {K : List Value → Prop} (H : asT v K) : ∃ l, v = .tuple l.toArray ∧ K l := by
  unfold asT at H
  split at H
  · exact ⟨_, by simp, H⟩
  · exact H.elim

def asC (l : List Value) (K : Value → List Value → Prop) : Prop :=
  match l with
  | v :: r => K v r
  | [] => False
theorem asC_elim {l : List Value} {K : Value → List Value → Prop} (H : asC l K) : ∃ v r, l = v :: r ∧ K v r := by
  unfold asC at H
  split at H
  · exact ⟨_, _, rfl, H⟩
  · exact H.elim

def asN (l : List Value) (K : Prop) : Prop :=
  match l with
  | [] => K
  | _ => False
theorem asN_elim {l : List Value} {K : Prop} (H : asN l K) : l = [] ∧ K := by
  unfold asN at H
  split at H
  · exact ⟨rfl, H⟩
  · exact H.elim

end Go.Vc
