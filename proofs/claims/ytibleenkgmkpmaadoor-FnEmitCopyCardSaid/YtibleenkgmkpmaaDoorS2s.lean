/- A part of the proof. -/
import Derived.Test.YtibleenkgmkpmaaDoorS2r
namespace Go.S2
open Go.Ml

/-- A number in k bytes, the least one first. -/
def leB : Nat → Nat → List Int
  | 0, _ => []
  | k + 1, n => ((n % 256 : Nat) : Int) :: leB k (n / 256)
theorem leB_len : ∀ (k n : Nat), (leB k n).length = k
  | 0, _ => rfl
  | k + 1, n => by simp [leB, leB_len k]
theorem leB_bts : ∀ (k n : Nat), Bts (leB k n)
  | 0, _ => fun x hx => by cases hx
  | k + 1, n => fun x hx => by
    rcases List.mem_cons.1 hx with rfl | hx
    · omega
    · exact leB_bts k _ x hx
theorem leB_N : ∀ (k n : Nat), n < 256 ^ k → leN (leB k n) = n
  | 0, n, h => by simp at h; simp [leB, leN, h]
  | k + 1, n, h => by
    simp only [leB, leN]
    rw [leB_N k (n / 256) (by rw [Nat.pow_succ] at h; omega)]
    omega
theorem leB_succ : ∀ (k n : Nat), leB (k + 1) n = leB k n ++ [((n / 256 ^ k % 256 : Nat) : Int)]
  | 0, n => by simp [leB]
  | k + 1, n => by
    rw [leB, leB_succ k (n / 256)]
    simp only [leB, List.cons_append]
    congr 3
    rw [Nat.div_div_eq_div_mul, Nat.pow_succ, Nat.mul_comm]

/-- A number in groups of seven bits. -/
def varB : Nat → Nat → List Int
  | 0, _ => []
  | f + 1, n => if n < 128 then [(n : Int)] else ((n % 128 + 128 : Nat) : Int) :: varB f (n / 128)

theorem varB_bts : ∀ (f n : Nat), Bts (varB f n)
  | 0, _ => fun x hx => by cases hx
  | f + 1, n => by
    unfold varB
    split
    · intro x hx
      obtain rfl := List.mem_singleton.1 hx
      omega
    · intro x hx
      rcases List.mem_cons.1 hx with rfl | hx
      · omega
      · exact varB_bts f _ x hx
theorem varB_len : ∀ (f n : Nat), (varB f n).length ≤ f
  | 0, _ => by simp [varB]
  | f + 1, n => by
    unfold varB
    split
    · simp
    · simp only [List.length_cons]
      have := varB_len f (n / 128)
      omega

theorem at_pre (p : List Int) (x : Int) (r : List Int) : (p ++ x :: r).getD p.length 0 = x := by
  rw [List.getD_eq_getElem?_getD, List.getElem?_append_right (Nat.le_refl _)]
  simp

theorem slen_varB : ∀ (f : Nat) (p t : List Int) (acc m g : Nat), acc < 2 ^ (7 * p.length) → acc + m * 2 ^ (7 * p.length) < 2 ^ 32 → (0 < p.length → 0 < m) → m < 2 ^ (7 * (f + 1)) → p.length + f + 1 ≤ g →
    slen (p ++ varB (f + 1) m ++ t) (g - p.length) p.length acc = (acc + m * 2 ^ (7 * p.length), p.length + (varB (f + 1) m).length, 1) := by
  intro f
  induction f with
  | zero =>
    intro p t acc m g ha hn hm hf hg
    have h5 : p.length ≤ 4 := by
      rcases Nat.lt_or_ge 4 p.length with h | h
      · have h1 : 2 ^ 35 ≤ 2 ^ (7 * p.length) := Nat.pow_le_pow_right (by decide) (by omega)
        have h2 : 1 * 2 ^ (7 * p.length) ≤ m * 2 ^ (7 * p.length) := Nat.mul_le_mul_right _ (hm (by omega))
        omega
      · exact h
    have hm128 : m < 128 := by simpa using hf
    have e : varB (0 + 1) m = [(m : Int)] := by simp [varB, hm128]
    rw [e, show g - p.length = (g - p.length - 1) + 1 by omega]
    unfold slen
    rw [if_neg (by simp)]
    simp only
    rw [List.append_assoc, List.singleton_append, at_pre]
    have hp := pow7 h5
    have hcond : p.length < 9 ∧ acc < 2 ^ 40 := ⟨by omega, by omega⟩
    rw [if_pos hcond, Int.toNat_natCast, if_neg (by omega), Nat.mod_eq_of_lt hm128, if_neg (by omega), if_neg (by omega)]
    rfl
  | succ f ih =>
    intro p t acc m g ha hn hm hf hg
    have h5 : p.length ≤ 4 := by
      rcases Nat.lt_or_ge 4 p.length with h | h
      · have h1 : 2 ^ 35 ≤ 2 ^ (7 * p.length) := Nat.pow_le_pow_right (by decide) (by omega)
        have h2 : 1 * 2 ^ (7 * p.length) ≤ m * 2 ^ (7 * p.length) := Nat.mul_le_mul_right _ (hm (by omega))
        omega
      · exact h
    have hp := pow7 h5
    have hcond : p.length < 9 ∧ acc < 2 ^ 40 := ⟨by omega, by omega⟩
    rw [show g - p.length = (g - p.length - 1) + 1 by omega]
    by_cases hm128 : m < 128
    · have e : varB (f + 1 + 1) m = [(m : Int)] := by rw [varB, if_pos hm128]
      rw [e]
      unfold slen
      rw [if_neg (by simp)]
      simp only
      rw [List.append_assoc, List.singleton_append, at_pre]
      rw [if_pos hcond, Int.toNat_natCast, if_neg (by omega), Nat.mod_eq_of_lt hm128, if_neg (by omega), if_neg (by omega)]
      rfl
    · have e : varB (f + 1 + 1) m = ((m % 128 + 128 : Nat) : Int) :: varB (f + 1) (m / 128) := by rw [varB, if_neg hm128]
      rw [e]
      unfold slen
      rw [if_neg (by simp)]
      simp only
      rw [List.append_assoc, List.cons_append, at_pre, if_pos hcond, Int.toNat_natCast, if_pos (by omega)]
      have hmm : m * 2 ^ (7 * p.length) = m / 128 * 2 ^ (7 * p.length + 7) + m % 128 * 2 ^ (7 * p.length) := by
        rw [Nat.pow_add, show (2 : Nat) ^ 7 = 128 by rfl]
        have : m = m / 128 * 128 + m % 128 := by omega
        conv => lhs; rw [this]
        rw [Nat.add_mul, Nat.mul_assoc, Nat.mul_comm 128]
      have hmod : m % 128 * 2 ^ (7 * p.length) ≤ 127 * 2 ^ (7 * p.length) := Nat.mul_le_mul_right _ (by omega)
      have hlen : (p ++ [((m % 128 + 128 : Nat) : Int)]).length = p.length + 1 := by simp
      have e7 : 7 * (p.length + 1) = 7 * p.length + 7 := by omega
      have hpow : 2 ^ (7 * p.length + 7) = 128 * 2 ^ (7 * p.length) := by rw [Nat.pow_add, Nat.mul_comm]
      have := ih (p ++ [((m % 128 + 128 : Nat) : Int)]) t (acc + (m % 128 + 128) % 128 * 2 ^ (7 * p.length)) (m / 128) g
        (by rw [hlen, e7, hpow, show (m % 128 + 128) % 128 = m % 128 by omega]; omega)
        (by rw [hlen, e7, show (m % 128 + 128) % 128 = m % 128 by omega]; omega) (fun _ => by omega)
        (by have e8 : 7 * (f + 1 + 1) = 7 * (f + 1) + 7 := by omega
            rw [e8, Nat.pow_add] at hf
            omega) (by rw [hlen]; omega)
      rw [hlen, e7] at this
      rw [show g - p.length - 1 = g - (p.length + 1) by omega]
      have ea : p ++ ((m % 128 + 128 : Nat) : Int) :: (varB (f + 1) (m / 128) ++ t) = p ++ [((m % 128 + 128 : Nat) : Int)] ++ varB (f + 1) (m / 128) ++ t := by simp
      rw [ea, this]
      simp only [Prod.mk.injEq, List.length_cons]
      refine ⟨?_, by omega, trivial⟩
      rw [show (m % 128 + 128) % 128 = m % 128 by omega]
      omega

theorem s2len_varB {n : Nat} (hn : n < 2 ^ 32) (t : List Int) : s2len (varB 10 n ++ t) = (n, (varB 10 n).length, 1) := by
  have := slen_varB 9 [] t 0 n 10 (by decide) (by simpa using hn) (by simp) (by simp only [Nat.reduceAdd, Nat.reduceMul]; omega) (by simp)
  simpa [s2len] using this

end Go.S2
