/- A part of the proof. -/
import Derived.Test.YtibleenkgmkpmaaDoorS2p
namespace Go.S2

/-- The length that a block begins with, as the reference reads it: it, how many bytes it has, and no (0), yes (1) or open (2). -/
def slen (l : List Int) : Nat → Nat → Nat → Nat × Nat × Nat
  | 0, _, _ => if 5 < l.length then (0, 0, 2) else (0, 0, 0)
  | f + 1, i, n =>
    if l.length ≤ i then (if 5 < l.length then (0, 0, 2) else (0, 0, 0))
    else
      let b := (l.getD i 0).toNat
      let n' := if i < 9 ∧ n < 2 ^ 40 then n + b % 128 * 2 ^ (7 * i) else n
      if 128 ≤ b then slen l f (i + 1) n'
      else if 2 ^ 32 ≤ n' then (0, 0, 0)
      else if (0 < i ∧ b = 0) ∨ 4 < i then (n', i + 1, 2)
      else (n', i + 1, 1)
def s2len (l : List Int) : Nat × Nat × Nat := slen l 10 0 0

/-- The length, as the program reads it. -/
def vlen (l : List Int) : Nat → Nat → Nat → Option (Nat × Nat)
  | 0, _, _ => none
  | f + 1, i, n =>
    if l.length ≤ i then none
    else
      let b := (l.getD i 0).toNat
      let n' := n + b % 128 * 2 ^ (7 * i)
      if 128 ≤ b then vlen l f (i + 1) n'
      else if 2 ^ 32 ≤ n' then none
      else some (n', i + 1)
def dlen (l : List Int) : Option (Nat × Nat) := vlen l 5 0 0

theorem slen_late (l : List Int) : ∀ (f i n : Nat), 5 ≤ i → (i < l.length ∨ 5 < l.length) → (slen l f i n).2.2 ≠ 1
  | 0, i, n, hi, hl => by unfold slen; split <;> simp
  | f + 1, i, n, hi, hl => by
    unfold slen
    split
    · split <;> simp
    · simp only
      generalize (if i < 9 ∧ n < 2 ^ 40 then n + (l.getD i 0).toNat % 128 * 2 ^ (7 * i) else n) = n'
      by_cases h1 : 128 ≤ (l.getD i 0).toNat
      · rw [if_pos h1]
        refine slen_late l f _ _ (by omega) (by omega)
      · rw [if_neg h1]
        by_cases h2 : 2 ^ 32 ≤ n'
        · rw [if_pos h2]; simp
        · rw [if_neg h2, if_pos (by omega)]; simp

theorem slen_ok (l : List Int) : ∀ (f i n : Nat), (slen l f i n).2.2 ≤ 2 ∧ (slen l f i n).2.1 ≤ l.length ∧ (slen l f i n).2.1 ≤ i + f ∧ (slen l f i n).1 < 2 ^ 32
  | 0, i, n => by unfold slen; split <;> simp
  | f + 1, i, n => by
    unfold slen
    split
    · split <;> simp
    · simp only
      generalize (if i < 9 ∧ n < 2 ^ 40 then n + (l.getD i 0).toNat % 128 * 2 ^ (7 * i) else n) = n'
      by_cases h1 : 128 ≤ (l.getD i 0).toNat
      · rw [if_pos h1]
        have := slen_ok l f (i + 1) n'
        omega
      · rw [if_neg h1]
        by_cases h2 : 2 ^ 32 ≤ n'
        · rw [if_pos h2]; simp
        · rw [if_neg h2]
          split <;> simp <;> omega

theorem pow7 {i : Nat} (h : i ≤ 4) : 2 ^ (7 * i) ≤ 2 ^ 28 := Nat.pow_le_pow_right (by decide) (by omega)

theorem slen_vlen (l : List Int) : ∀ (f i n : Nat), i + f = 5 → n < 2 ^ (7 * i) →
    ((slen l (f + 5) i n).2.2 = 1 → vlen l f i n = some ((slen l (f + 5) i n).1, (slen l (f + 5) i n).2.1)) ∧ ((slen l (f + 5) i n).2.2 = 0 → vlen l f i n = none)
  | 0, i, n, hi, hn => by
    refine ⟨fun h => ?_, fun _ => rfl⟩
    by_cases hl : i < l.length
    · exact absurd h (slen_late l 5 i n (by omega) (Or.inl hl))
    · exfalso
      unfold slen at h
      rw [if_pos (by omega)] at h
      split at h <;> simp at h
  | f + 1, i, n, hi, hn => by
    have hp := pow7 (i := i) (by omega)
    rw [show f + 1 + 5 = (f + 5) + 1 by omega]
    unfold slen vlen
    by_cases hl : l.length ≤ i
    · rw [if_pos hl, if_pos hl]
      split <;> simp
    rw [if_neg hl, if_neg hl]
    simp only
    have hcond : i < 9 ∧ n < 2 ^ 40 := ⟨by omega, by omega⟩
    rw [if_pos hcond]
    generalize hb : (l.getD i 0).toNat = b
    by_cases h1 : 128 ≤ b
    · rw [if_pos h1, if_pos h1]
      refine slen_vlen l f (i + 1) _ (by omega) ?_
      rw [show 7 * (i + 1) = 7 * i + 7 by omega, Nat.pow_add]
      have : b % 128 * 2 ^ (7 * i) ≤ 127 * 2 ^ (7 * i) := Nat.mul_le_mul_right _ (by omega)
      omega
    rw [if_neg h1, if_neg h1]
    by_cases h2 : 2 ^ 32 ≤ n + b % 128 * 2 ^ (7 * i)
    · rw [if_pos h2, if_pos h2]; simp
    rw [if_neg h2, if_neg h2]
    split <;> simp

theorem dlen_yes {l : List Int} (h : (s2len l).2.2 = 1) : dlen l = some ((s2len l).1, (s2len l).2.1) := (slen_vlen l 5 0 0 rfl (by decide)).1 h
theorem dlen_no {l : List Int} (h : (s2len l).2.2 = 0) : dlen l = none := (slen_vlen l 5 0 0 rfl (by decide)).2 h

theorem vlen_some (l : List Int) : ∀ (f i n : Nat) {v k : Nat}, vlen l f i n = some (v, k) → v < 2 ^ 32 ∧ k ≤ l.length ∧ i < k ∧ k ≤ i + f
  | 0, _, _, _, _, h => by simp [vlen] at h
  | f + 1, i, n, v, k, h => by
    unfold vlen at h
    split at h
    · cases h
    · simp only at h
      split at h
      · have := vlen_some l f _ _ h
        omega
      · split at h
        · cases h
        · simp only [Option.some.injEq, Prod.mk.injEq] at h
          omega
theorem vlen_ok {l : List Int} {v k : Nat} (h : dlen l = some (v, k)) : v < 2 ^ 32 ∧ k ≤ l.length ∧ 0 < k ∧ k ≤ 5 := by
  have := vlen_some l 5 0 0 h
  omega

/-- A block decoded, as the reference does it: the bytes and no (0), yes (1) or open (2). -/
def decd (l : List Int) (s2 : Bool) : List Int × Nat :=
  let r := s2len l
  if r.2.2 = 0 then ([], 0)
  else if 4194304 < r.1 then ([], 2)
  else match dec l s2 r.1 r.2.1 [] 0 with
    | none => ([], 0)
    | some out => if r.2.2 = 2 then ([], 2) else (out, 1)
end Go.S2
