/- A part of the proof. -/
import Derived.Test.YtibleenkgmkpmaaDoorMl0
namespace Go.S2
open Go.Ml

/-- An element of a block: a literal's bytes, or a copy's offset and length. -/
structure El where
  lit : Bool
  src : Nat
  off : Nat
  len : Nat
  rep : Bool
  next : Nat

/-- A number of some bytes, the least one first. -/
def leAt (l : List Int) (i n : Nat) : Option Nat := if i + n ≤ l.length then some (leN ((l.drop i).take n)) else none

def litEl (l : List Int) (f m : Nat) : Option El := if m + 1 ≤ l.length - f then some ⟨true, f, 0, m + 1, false, f + (m + 1)⟩ else none

def readLit (l : List Int) (i : Nat) : Option El :=
  let n := (l.getD i 0).toNat / 4
  if n < 60 then litEl l (i + 1) n
  else match leAt l (i + 1) (n - 59) with
    | none => none
    | some m => litEl l (i + 1 + (n - 59)) m

def moreBase (n : Nat) : Nat := if n = 5 then 8 else if n = 6 then 260 else 65540

def copyEl (o : Option Nat) (n x : Nat) : Option El :=
  match o with
  | none => none
  | some o => some ⟨false, 0, o, n, false, x⟩

def readEl (l : List Int) (i : Nat) (s2 : Bool) : Option El :=
  let tag := (l.getD i 0).toNat
  if tag % 4 = 0 then readLit l i
  else if tag % 4 = 1 then match leAt l (i + 1) 1 with
    | none => none
    | some low =>
      if 0 < tag / 32 * 256 + low ∨ s2 = false then some ⟨false, 0, tag / 32 * 256 + low, tag / 4 % 8 + 4, false, i + 2⟩
      else if tag / 4 % 8 ≤ 4 then some ⟨false, 0, 0, tag / 4 % 8 + 4, true, i + 2⟩
      else match leAt l (i + 2) (tag / 4 % 8 - 4) with
        | none => none
        | some more => some ⟨false, 0, 0, more + moreBase (tag / 4 % 8), true, i + 2 + (tag / 4 % 8 - 4)⟩
  else if tag % 4 = 2 then copyEl (leAt l (i + 1) 2) (tag / 4 + 1) (i + 3)
  else copyEl (leAt l (i + 1) 4) (tag / 4 + 1) (i + 5)

/-- A copy from the bytes that were made, forwards. -/
def fwd (out : List Int) (off : Nat) : Nat → List Int
  | 0 => out
  | k + 1 => fwd out off k ++ [(fwd out off k).getD (out.length + k - off) 0]

theorem fwd_len (out : List Int) (off : Nat) : ∀ k, (fwd out off k).length = out.length + k
  | 0 => by simp [fwd]
  | k + 1 => by simp [fwd, fwd_len out off k]; omega

theorem fwd_pre (out : List Int) (off : Nat) : ∀ k, (fwd out off k).take out.length = out
  | 0 => by simp [fwd]
  | k + 1 => by
    simp only [fwd]
    rw [List.take_append_of_le_length (by rw [fwd_len]; omega), fwd_pre out off k]

/-- What one element makes of what was made. -/
def stepE (l : List Int) (s2 : Bool) (n i : Nat) (out : List Int) (last : Nat) : Option (Nat × List Int × Nat) :=
  match readEl l i s2 with
  | none => none
  | some e =>
    if n < out.length + e.len then none
    else if e.lit then some (e.next, out ++ (l.drop e.src).take e.len, last)
    else
      let o := if e.rep then last else e.off
      if o = 0 ∨ out.length < o then none else some (e.next, fwd out o e.len, o)

def run (l : List Int) (s2 : Bool) (n : Nat) : Nat → Nat → List Int → Nat → Option (List Int)
  | 0, _, out, _ => if out.length = n then some out else none
  | f + 1, i, out, last =>
    if l.length ≤ i then (if out.length = n then some out else none)
    else match stepE l s2 n i out last with
      | none => none
      | some (i', out', last') => run l s2 n f i' out' last'

theorem litEl_src {l : List Int} {f m : Nat} {e : El} (h : litEl l f m = some e) : e.lit = true ∧ e.src + e.len ≤ l.length ∧ f < e.next ∧ e.next ≤ l.length := by
  unfold litEl at h
  split at h
  · simp only [Option.some.injEq] at h
    subst h
    refine ⟨rfl, ?_, ?_, ?_⟩ <;> simp only <;> omega
  · cases h

theorem readLit_src {l : List Int} {i : Nat} {e : El} (h : readLit l i = some e) : e.lit = true ∧ e.src + e.len ≤ l.length ∧ i < e.next ∧ e.next ≤ l.length := by
  unfold readLit at h
  simp only at h
  split at h
  · have := litEl_src h
    exact ⟨this.1, this.2.1, by omega, this.2.2.2⟩
  · split at h
    · cases h
    · have := litEl_src h
      exact ⟨this.1, this.2.1, by omega, this.2.2.2⟩

theorem leAt_le {l : List Int} {i n m : Nat} (h : leAt l i n = some m) : i + n ≤ l.length := by
  unfold leAt at h
  split at h
  · assumption
  · cases h

theorem readEl_src {l : List Int} {i : Nat} {s2 : Bool} {e : El} (h : readEl l i s2 = some e) : (e.lit = true → e.src + e.len ≤ l.length) ∧ i < e.next ∧ e.next ≤ l.length := by
  unfold readEl at h
  simp only at h
  split at h
  · have := readLit_src h
    exact ⟨fun _ => this.2.1, this.2.2⟩
  · split at h
    · split at h
      · cases h
      · rename_i low hlow
        have := leAt_le hlow
        split at h
        · simp only [Option.some.injEq] at h
          subst h
          exact ⟨fun h => by simp at h, by simp only; omega, by simp only; omega⟩
        · split at h
          · simp only [Option.some.injEq] at h
            subst h
            exact ⟨fun h => by simp at h, by simp only; omega, by simp only; omega⟩
          · split at h
            · cases h
            · rename_i more hmore
              have := leAt_le hmore
              simp only [Option.some.injEq] at h
              subst h
              exact ⟨fun h => by simp at h, by simp only; omega, by simp only; omega⟩
    · unfold copyEl at h
      split at h
      · split at h
        · cases h
        · rename_i o ho
          have := leAt_le ho
          simp only [Option.some.injEq] at h
          subst h
          exact ⟨fun h => by simp at h, by simp only; omega, by simp only; omega⟩
      · split at h
        · cases h
        · rename_i o ho
          have := leAt_le ho
          simp only [Option.some.injEq] at h
          subst h
          exact ⟨fun h => by simp at h, by simp only; omega, by simp only; omega⟩

theorem stepE_next {l : List Int} {s2 : Bool} {n i i' : Nat} {out out' : List Int} {last last' : Nat} (h : stepE l s2 n i out last = some (i', out', last')) : i < i' ∧ i' ≤ l.length ∧ out'.length ≤ n := by
  unfold stepE at h
  split at h
  · cases h
  · rename_i e he
    have := readEl_src he
    split at h
    · cases h
    · rename_i hn
      split at h
      · rename_i hl
        simp only [Option.some.injEq, Prod.mk.injEq] at h
        obtain ⟨rfl, rfl, rfl⟩ := h
        refine ⟨this.2.1, this.2.2, ?_⟩
        simp
        omega
      · simp only at h
        generalize (if e.rep = true then last else e.off) = o at h
        split at h
        · cases h
        · simp only [Option.some.injEq, Prod.mk.injEq] at h
          obtain ⟨rfl, rfl, rfl⟩ := h
          refine ⟨this.2.1, this.2.2, ?_⟩
          rw [fwd_len]
          omega

theorem run_fuel (l : List Int) (s2 : Bool) (n : Nat) : ∀ (f g i : Nat) (out : List Int) (last : Nat), l.length ≤ i + f → l.length ≤ i + g → run l s2 n f i out last = run l s2 n g i out last
  | 0, 0, _, _, _, _, _ => rfl
  | 0, g + 1, i, out, last, hf, _ => by simp [run, show l.length ≤ i by omega]
  | f + 1, 0, i, out, last, _, hg => by simp [run, show l.length ≤ i by omega]
  | f + 1, g + 1, i, out, last, hf, hg => by
    simp only [run]
    split
    · rfl
    · cases hs : stepE l s2 n i out last with
      | none => rfl
      | some x =>
        obtain ⟨i', out', last'⟩ := x
        have := stepE_next hs
        exact run_fuel l s2 n f g i' out' last' (by omega) (by omega)

/-- What a block's elements stand for, from a place on. -/
def dec (l : List Int) (s2 : Bool) (n i : Nat) (out : List Int) (last : Nat) : Option (List Int) := run l s2 n (l.length - i) i out last

theorem dec_stop {l : List Int} {s2 : Bool} {n i : Nat} {out : List Int} {last : Nat} (h : l.length ≤ i) : dec l s2 n i out last = if out.length = n then some out else none := by
  unfold dec
  rw [show l.length - i = 0 by omega]
  rfl
theorem dec_bad {l : List Int} {s2 : Bool} {n i : Nat} {out : List Int} {last : Nat} (h : i < l.length) (hs : stepE l s2 n i out last = none) : dec l s2 n i out last = none := by
  unfold dec
  rw [show l.length - i = (l.length - i - 1) + 1 by omega]
  simp [run, hs, show ¬ l.length ≤ i by omega]
theorem dec_go {l : List Int} {s2 : Bool} {n i i' : Nat} {out out' : List Int} {last last' : Nat} (h : i < l.length) (hs : stepE l s2 n i out last = some (i', out', last')) : dec l s2 n i out last = dec l s2 n i' out' last' := by
  have := stepE_next hs
  unfold dec
  rw [show l.length - i = (l.length - i - 1) + 1 by omega]
  simp only [run, hs, show ¬ l.length ≤ i by omega, if_false]
  exact run_fuel l s2 n _ _ _ _ _ (by omega) (by omega)

theorem leN_take_succ (l : List Int) (i n : Nat) (h : i < l.length) : leN ((l.drop i).take (n + 1)) = (l.getD i 0).toNat + 256 * leN ((l.drop (i + 1)).take n) := by
  rw [List.drop_eq_getElem_cons h, List.take_succ_cons, leN, List.getD_eq_getElem?_getD, List.getElem?_eq_getElem h]
  rfl

/-- A copy that does not reach into itself. -/
theorem fwd_apart (out : List Int) (off : Nat) : ∀ k, k ≤ off → off ≤ out.length → fwd out off k = out ++ (out.drop (out.length - off)).take k
  | 0, _, _ => by simp [fwd]
  | k + 1, hk, ho => by
    simp only [fwd]
    rw [fwd_apart out off k (by omega) ho]
    have hi : out.length + k - off < out.length := by omega
    have e1 : (out ++ (out.drop (out.length - off)).take k).getD (out.length + k - off) 0 = out[out.length + k - off] := by
      rw [List.getD_eq_getElem?_getD, List.getElem?_append_left hi, List.getElem?_eq_getElem hi]; rfl
    rw [e1, List.append_assoc]
    congr 1
    have hd : k < (out.drop (out.length - off)).length := by simp; omega
    rw [List.take_add_one, List.getElem?_eq_getElem hd]
    simp only [List.getElem_drop, Option.toList]
    congr 2
    congr 1
    omega

theorem leAt_lt4 {l : List Int} (hb : ∀ x ∈ l, 0 ≤ x ∧ x ≤ 255) {i n m : Nat} (hn : n ≤ 4) (h : leAt l i n = some m) : m < 2 ^ 32 := by
  unfold leAt at h
  split at h
  · obtain rfl := Option.some.inj h
    have h1 := leN_lt ((l.drop i).take n) (fun x hx => hb x (List.mem_of_mem_drop (List.mem_of_mem_take hx)))
    have h2 : ((l.drop i).take n).length ≤ 4 := by simp; omega
    have h3 : 256 ^ ((l.drop i).take n).length ≤ 256 ^ 4 := Nat.pow_le_pow_right (by decide) h2
    omega
  · cases h

theorem litEl_small {l : List Int} {f m : Nat} {e : El} (h : litEl l f m = some e) : e.len ≤ l.length ∧ e.off = 0 := by
  unfold litEl at h
  split at h
  · simp only [Option.some.injEq] at h
    subst h
    exact ⟨by simp only; omega, rfl⟩
  · cases h

theorem readEl_small {l : List Int} (hb : ∀ x ∈ l, 0 ≤ x ∧ x ≤ 255) {i : Nat} {s2 : Bool} {e : El} (hv : (l.getD i 0).toNat ≤ 255) (h : readEl l i s2 = some e) : e.len ≤ l.length + 2 ^ 33 ∧ e.off < 2 ^ 33 := by
  unfold readEl at h
  simp only at h
  split at h
  · unfold readLit at h
    simp only at h
    split at h
    · have := litEl_small h; omega
    · split at h
      · cases h
      · have := litEl_small h; omega
  · split at h
    · split at h
      · cases h
      · rename_i low hlow
        have := leAt_lt4 hb (by omega) hlow
        split at h
        · simp only [Option.some.injEq] at h
          subst h
          refine ⟨?_, ?_⟩ <;> simp only <;> omega
        · split at h
          · simp only [Option.some.injEq] at h
            subst h
            refine ⟨?_, ?_⟩ <;> simp only <;> omega
          · split at h
            · cases h
            · rename_i more hmore
              have := leAt_lt4 hb (by omega) hmore
              simp only [Option.some.injEq] at h
              subst h
              have hmb : moreBase ((l.getD i 0).toNat / 4 % 8) ≤ 65540 := by unfold moreBase; split <;> (try split) <;> omega
              refine ⟨?_, ?_⟩ <;> simp only <;> omega
    · unfold copyEl at h
      split at h
      · split at h
        · cases h
        · rename_i o ho
          have := leAt_lt4 hb (by omega) ho
          simp only [Option.some.injEq] at h
          subst h
          refine ⟨?_, ?_⟩ <;> simp only <;> omega
      · split at h
        · cases h
        · rename_i o ho
          have := leAt_lt4 hb (by omega) ho
          simp only [Option.some.injEq] at h
          subst h
          refine ⟨?_, ?_⟩ <;> simp only <;> omega

end Go.S2
