/- A part of the proof. -/
import Derived.Lib.TrailingZeros
namespace Go.Ml

/-- How many first elements are the same. -/
def pre : List Int → List Int → Nat
  | x :: r, y :: t => if x = y then pre r t + 1 else 0
  | _, _ => 0

theorem pre_le : ∀ (a b : List Int), pre a b ≤ a.length ∧ pre a b ≤ b.length
  | [], b => by simp [pre]
  | x :: r, [] => by simp [pre]
  | x :: r, y :: t => by
    have := pre_le r t
    simp only [pre, List.length_cons]
    split <;> omega

theorem pre_self_of_get : ∀ (a b : List Int), a.length = b.length → (∀ i, i < a.length → a.getD i 0 = b.getD i 0) → pre a b = a.length
  | [], b, _, _ => by simp [pre]
  | x :: r, [], h, _ => by simp at h
  | x :: r, y :: t, h, hg => by
    have h0 := hg 0 (by simp)
    simp at h0
    subst h0
    simp only [pre, if_true, List.length_cons]
    rw [pre_self_of_get r t (by simpa using h) (fun i hi => by have := hg (i + 1) (by simp; omega); simpa using this)]

/-- The place of the first difference is what 'pre' tells. -/
theorem pre_eq : ∀ (a b : List Int) (n : Nat), n < a.length → n < b.length → (∀ i, i < n → a.getD i 0 = b.getD i 0) → a.getD n 0 ≠ b.getD n 0 → pre a b = n
  | [], _, n, h, _, _, _ => by simp at h
  | _ :: _, [], n, _, h, _, _ => by simp at h
  | x :: r, y :: t, n, h1, h2, hg, hne => by
    cases n with
    | zero => simp at hne; simp [pre, hne]
    | succ n =>
      have h0 := hg 0 (by omega)
      simp at h0
      subst h0
      simp only [pre, if_true]
      rw [pre_eq r t n (by simpa using h1) (by simpa using h2) (fun i hi => by have := hg (i + 1) (by omega); simpa using this) (by simpa using hne)]

theorem pre_append (c : List Int) : ∀ (a b : List Int), pre (c ++ a) (c ++ b) = c.length + pre a b := by
  induction c with
  | nil => simp
  | cons x r ih => intro a b; simp only [List.cons_append, pre, if_true, ih, List.length_cons]; omega

/-- If the first n elements are the same, 'pre' goes on behind them. -/
theorem pre_drop (a b : List Int) (n : Nat) (ha : n ≤ a.length) (hb : n ≤ b.length) (h : ∀ i, i < n → a.getD i 0 = b.getD i 0) : pre a b = n + pre (a.drop n) (b.drop n) := by
  have e : a.take n = b.take n := by
    apply List.ext_getElem (by simp; omega)
    intro i h1 h2
    have hi : i < n := by simp at h1; omega
    have := h i hi
    simp only [List.getElem_take]
    rw [List.getD_eq_getElem?_getD, List.getD_eq_getElem?_getD, List.getElem?_eq_getElem (by omega), List.getElem?_eq_getElem (by omega)] at this
    simpa using this
  have := pre_append (a.take n) (a.drop n) (b.drop n)
  rw [List.take_append_drop] at this
  conv at this => lhs; rw [e]
  rw [List.take_append_drop] at this
  rw [this]; simp; omega

/-- The number that bytes make, the least one first. -/
def leN : List Int → Nat
  | [] => 0
  | x :: r => x.toNat + 256 * leN r

theorem leN_lt : ∀ (l : List Int), (∀ x ∈ l, 0 ≤ x ∧ x ≤ 255) → leN l < 256 ^ l.length
  | [], _ => by simp [leN]
  | x :: r, h => by
    have h1 := leN_lt r (fun y hy => h y (List.mem_cons_of_mem _ hy))
    have h2 := h x List.mem_cons_self
    simp only [leN, List.length_cons, Nat.pow_succ]
    omega

theorem xor_zero {a b : Nat} (h : a ^^^ b = 0) : a = b := by
  have h1 : a ^^^ b ^^^ b = a := by rw [Nat.xor_assoc, Nat.xor_self, Nat.xor_zero]
  rw [h, Nat.zero_xor] at h1
  exact h1.symm

/-- Two such numbers of as many bytes: where they part. -/
theorem xor_pre : ∀ (a b : List Int), a.length = b.length → (∀ x ∈ a, 0 ≤ x ∧ x ≤ 255) → (∀ x ∈ b, 0 ≤ x ∧ x ≤ 255) → ∀ k m, leN a ^^^ leN b = 2 ^ k * (2 * m + 1) → pre a b = k / 8
  | [], [], _, _, _, k, m, h => by
    have h1 : 0 < 2 ^ k := Nat.two_pow_pos k
    have h2 : 0 < 2 ^ k * (2 * m + 1) := Nat.mul_pos h1 (by omega)
    rw [← h] at h2
    simp [leN] at h2
  | [], _ :: _, hl, _, _, _, _, _ => by simp at hl
  | _ :: _, [], hl, _, _, _, _, _ => by simp at hl
  | x :: r, y :: t, hl, ha, hb, k, m, h => by
    have hx := ha x List.mem_cons_self
    have hy := hb y List.mem_cons_self
    simp only [leN] at h
    have hmod : ∀ n, ((x.toNat + 256 * leN r) ^^^ (y.toNat + 256 * leN t)) % 2 ^ n = ((x.toNat + 256 * leN r) % 2 ^ n) ^^^ ((y.toNat + 256 * leN t) % 2 ^ n) := fun n => Nat.xor_mod_two_pow
    have h8 := hmod 8
    have e1 : (x.toNat + 256 * leN r) % 2 ^ 8 = x.toNat := by omega
    have e2 : (y.toNat + 256 * leN t) % 2 ^ 8 = y.toNat := by omega
    rw [e1, e2, h] at h8
    have hdiv : ((x.toNat + 256 * leN r) ^^^ (y.toNat + 256 * leN t)) / 2 ^ 8 = leN r ^^^ leN t := by
      rw [Nat.xor_div_two_pow]
      congr 1 <;> omega
    rw [h] at hdiv
    simp only [pre]
    by_cases hxy : x = y
    · subst hxy
      rw [if_pos rfl]
      simp only [Nat.xor_self] at h8
      -- 256 divides the odd multiple: k is at least 8
      have hk : 8 ≤ k := by
        apply Nat.le_of_not_lt
        intro hlt
        have hp : 2 ^ 8 = 2 ^ k * 2 ^ (8 - k) := by rw [← Nat.pow_add]; congr 1; omega
        rw [hp, Nat.mul_mod_mul_left] at h8
        have hpos : 0 < 2 ^ k := Nat.two_pow_pos k
        have h0 : (2 * m + 1) % 2 ^ (8 - k) = 0 := by
          rcases Nat.mul_eq_zero.1 h8 with h | h
          · omega
          · exact h
        have hp2 : 2 ^ (8 - k) = 2 * 2 ^ (8 - k - 1) := by rw [← Nat.pow_succ']; congr 1; omega
        have := Nat.dvd_of_mod_eq_zero h0
        rw [hp2] at this
        have h2 : 2 ∣ 2 * m + 1 := Nat.dvd_trans (Nat.dvd_mul_right 2 _) this
        omega
      have hk2 : 2 ^ k = 2 ^ 8 * 2 ^ (k - 8) := by rw [← Nat.pow_add]; congr 1; omega
      rw [hk2, Nat.mul_assoc, Nat.mul_div_cancel_left _ (Nat.two_pow_pos 8)] at hdiv
      rw [xor_pre r t (by simpa using hl) (fun z hz => ha z (List.mem_cons_of_mem _ hz)) (fun z hz => hb z (List.mem_cons_of_mem _ hz)) (k - 8) m hdiv.symm]
      omega
    · rw [if_neg hxy]
      -- the first byte differs: k is below 8
      have hk : k < 8 := by
        apply Nat.lt_of_not_le
        intro hle
        have hk2 : 2 ^ k = 2 ^ 8 * 2 ^ (k - 8) := by rw [← Nat.pow_add]; congr 1; omega
        rw [hk2, Nat.mul_assoc, Nat.mul_mod_right] at h8
        have := xor_zero h8.symm
        omega
      omega

theorem pre_take : ∀ (n : Nat) (a b : List Int), pre (a.take n) (b.take n) = min n (pre a b)
  | 0, a, b => by simp [pre]
  | n + 1, [], b => by simp [pre]
  | n + 1, _ :: _, [] => by simp [pre]
  | n + 1, x :: r, y :: t => by
    simp only [List.take_succ_cons, pre]
    split
    · rw [pre_take n r t]; omega
    · omega

theorem leN_inj : ∀ (a b : List Int), a.length = b.length → (∀ x ∈ a, 0 ≤ x ∧ x ≤ 255) → (∀ x ∈ b, 0 ≤ x ∧ x ≤ 255) → leN a = leN b → a = b
  | [], [], _, _, _, _ => rfl
  | [], _ :: _, hl, _, _, _ => by simp at hl
  | _ :: _, [], hl, _, _, _ => by simp at hl
  | x :: r, y :: t, hl, ha, hb, h => by
    have hx := ha x List.mem_cons_self
    have hy := hb y List.mem_cons_self
    simp only [leN] at h
    have h1 : x = y := by omega
    have h2 : leN r = leN t := by omega
    rw [h1, leN_inj r t (by simpa using hl) (fun z hz => ha z (List.mem_cons_of_mem _ hz)) (fun z hz => hb z (List.mem_cons_of_mem _ hz)) h2]

/-- What the xor of n bytes tells of two texts. -/
theorem xor_tells {a b : List Int} {n k m : Nat} (ha : n ≤ a.length) (hb : n ≤ b.length) (hA : ∀ x ∈ a, 0 ≤ x ∧ x ≤ 255) (hB : ∀ x ∈ b, 0 ≤ x ∧ x ≤ 255)
    (hk : k < 8 * n) (h : leN (a.take n) ^^^ leN (b.take n) = 2 ^ k * (2 * m + 1)) : pre a b = k / 8 := by
  have := xor_pre (a.take n) (b.take n) (by simp; omega) (fun x hx => hA x (List.mem_of_mem_take hx)) (fun x hx => hB x (List.mem_of_mem_take hx)) k m h
  rw [pre_take] at this
  omega
theorem xor_none {a b : List Int} {n : Nat} (ha : n ≤ a.length) (hb : n ≤ b.length) (hA : ∀ x ∈ a, 0 ≤ x ∧ x ≤ 255) (hB : ∀ x ∈ b, 0 ≤ x ∧ x ≤ 255)
    (h : leN (a.take n) ^^^ leN (b.take n) = 0) : pre a b = n + pre (a.drop n) (b.drop n) := by
  have e := leN_inj (a.take n) (b.take n) (by simp; omega) (fun x hx => hA x (List.mem_of_mem_take hx)) (fun x hx => hB x (List.mem_of_mem_take hx)) (xor_zero h)
  refine pre_drop a b n ha hb fun i hi => ?_
  have := congrArg (fun l => l.getD i 0) e
  simpa [List.getD, hi] using this

end Go.Ml
