/- A part of a calculus over heaps: what the steps of the Go model compute, told by terms that the kernel reduces. Nothing of the law is stated here. -/
import Derived.Test.YtibleenkgmkpmaaDoorVc10
namespace Go.Vc
variable {σ : Type}

/-! ### Statements, opened by simp -/
section
variable {a b c : Stm σ} {s : σ} {h : Heap} {Q : Ex → σ → Heap → Prop}
@[simp] theorem st_reg {r} : Stm.reg (σ := σ) r s h Q = r s h (fun s h => Q .norm s h) := propext Iff.rfl
@[simp] theorem st_ret : Stm.ret (σ := σ) s h Q = Q .ret s h := propext Iff.rfl
@[simp] theorem st_exit {i : Nat} : Stm.exit (σ := σ) i s h Q = Q (.exit i) s h := propext Iff.rfl
@[simp] theorem st_skip : Stm.skip (σ := σ) s h Q = Q .norm s h := propext Iff.rfl
@[simp] theorem st_test {r} : Stm.test (σ := σ) r a b s h Q = r s h (fun c s h => if c = true then a s h Q else b s h Q) := propext Iff.rfl
@[simp] theorem st_cond {f} : Stm.cond (σ := σ) f a b s h Q = (if f s = true then a s h Q else b s h Q) := propext Iff.rfl
@[simp] theorem st_block {i : Nat} : Stm.block (σ := σ) i a s h Q = a s h (BK i Q) := propext Iff.rfl
@[simp] theorem sq_reg {r} : Stm.seq (.reg r) b s h Q = r s h (fun s h => b s h Q) := propext Iff.rfl
@[simp] theorem sq_ret : Stm.seq .ret b s h Q = Q .ret s h := propext Iff.rfl
@[simp] theorem sq_exit {i : Nat} : Stm.seq (.exit i) b s h Q = Q (.exit i) s h := propext Iff.rfl
@[simp] theorem sq_skip : Stm.seq .skip b s h Q = b s h Q := propext Iff.rfl
@[simp] theorem sq_test {r} : Stm.seq (.test r a b) c s h Q = r s h (fun x s h => if x = true then Stm.seq a c s h Q else Stm.seq b c s h Q) := propext Iff.rfl
theorem sq_cond {f} : Stm.seq (.cond f a b) c s h Q = (if f s = true then Stm.seq a c s h Q else Stm.seq b c s h Q) := propext Iff.rfl
@[simp] theorem sq_block {i : Nat} : Stm.seq (.block i a) b s h Q = a s h (BK i (SK b Q)) := propext Iff.rfl
theorem sq_loop : Stm.seq (.loop a) b s h Q = Stm.loop a s h (SK b Q) := propext Iff.rfl
@[simp] theorem sq_seq : Stm.seq (.seq a b) c s h Q = Stm.seq a (.seq b c) s h Q := by
  show a s h (SK b (SK c Q)) = a s h (SK (Stm.seq b c) Q)
  have e : SK b (SK c Q) = SK (Stm.seq b c) Q := by
    funext e s h
    cases e <;> rfl
  rw [e]
@[simp] theorem SK_norm : SK b Q .norm s h = b s h Q := propext Iff.rfl
@[simp] theorem SK_exit {i : Nat} : SK b Q (.exit i) s h = Q (.exit i) s h := propext Iff.rfl
@[simp] theorem SK_ret : SK b Q .ret s h = Q .ret s h := propext Iff.rfl
@[simp] theorem BK_norm {k : Nat} : BK k Q .norm s h = Q .norm s h := propext Iff.rfl
@[simp] theorem BK_ret {k : Nat} : BK k Q .ret s h = Q .ret s h := propext Iff.rfl
@[simp] theorem BK_same {k : Nat} : BK k Q (.exit k) s h = Q .norm s h := by simp [BK]
theorem BK_exit {k i : Nat} : BK k Q (.exit i) s h = (if i = k then Q .norm s h else Q (.exit i) s h) := propext Iff.rfl
@[simp] theorem endK_norm {f : σ → Heap → Prop} : endK f .norm s h = f s h := propext Iff.rfl
@[simp] theorem endK_ret {f : σ → Heap → Prop} : endK f .ret s h = f s h := propext Iff.rfl

theorem loop_rule (I : σ → Heap → Prop) (μ : σ → Heap → Nat) (h0 : I s h) (hr : ∀ s h, I s h → a s h (LK I μ (μ s h) Q)) : Stm.loop a s h Q := ⟨I, μ, h0, hr⟩
@[simp] theorem LK_norm {I : σ → Heap → Prop} {μ : σ → Heap → Nat} {m : Nat} : LK I μ m Q .norm s h = (I s h ∧ μ s h < m) := propext Iff.rfl
@[simp] theorem LK_exit {I : σ → Heap → Prop} {μ : σ → Heap → Nat} {m i : Nat} : LK I μ m Q (.exit i) s h = Q (.exit i) s h := propext Iff.rfl
@[simp] theorem LK_ret {I : σ → Heap → Prop} {μ : σ → Heap → Nat} {m : Nat} : LK I μ m Q .ret s h = Q .ret s h := propext Iff.rfl
end

/-! ### Numbers -/
theorem w_i64 {x : Int} (h1 : -9223372036854775808 ≤ x) (h2 : x ≤ 9223372036854775807) : IntKind.wrap .i64 x = x := by rw [IntKind.wrap_i64]; omega
theorem w_u64 {x : Int} (h1 : 0 ≤ x) (h2 : x ≤ 18446744073709551615) : IntKind.wrap .u64 x = x := by rw [IntKind.wrap_u64]; omega
theorem w_i32 {x : Int} (h1 : -2147483648 ≤ x) (h2 : x ≤ 2147483647) : IntKind.wrap .i32 x = x := by rw [IntKind.wrap_i32]; omega
theorem w_u32 {x : Int} (h1 : 0 ≤ x) (h2 : x ≤ 4294967295) : IntKind.wrap .u32 x = x := by rw [IntKind.wrap_u32]; omega
theorem w_u16 {x : Int} (h1 : 0 ≤ x) (h2 : x ≤ 65535) : IntKind.wrap .u16 x = x := by rw [IntKind.wrap_u16]; omega
theorem w_u8 {x : Int} (h1 : 0 ≤ x) (h2 : x ≤ 255) : IntKind.wrap .u8 x = x := by rw [IntKind.wrap_u8]; omega
theorem wrap_i16 (n : Int) : IntKind.i16.wrap n = (n + 32768) % 65536 - 32768 := by
  simp only [IntKind.wrap, IntKind.bits, IntKind.signed]
  simp
  split <;> omega
theorem w_i16 {x : Int} (h1 : -32768 ≤ x) (h2 : x ≤ 32767) : IntKind.wrap .i16 x = x := by rw [wrap_i16]; omega

theorem fdiv_pow (x : Int) (n : Nat) : Int.fdiv x (2 ^ n) = x / 2 ^ n := Int.fdiv_eq_ediv_of_nonneg x (by exact Int.pow_nonneg (by decide))

/-! Bits of numbers that are not below 0, as natural numbers. -/
theorem ofInt_toNat {k : IntKind} {x : Nat} (h : x < 2 ^ k.bits) : (BitVec.ofInt k.bits (x : Int)).toNat = x := by
  simp [Nat.mod_eq_of_lt h]
theorem wrapU {k : IntKind} (hk : k.signed = false) {x : Nat} (h : x < 2 ^ k.bits) : k.wrap (x : Int) = x := by
  unfold IntKind.wrap
  rw [hk]
  simp only [Bool.false_and, Bool.false_eq_true, if_false]
  have h' : (x : Int) < 2 ^ k.bits := by exact_mod_cast h
  exact Int.emod_eq_of_lt (by omega) h'
theorem and_nat {k : IntKind} (hk : k.signed = false) {x y : Nat} (hx : x < 2 ^ k.bits) (hy : y < 2 ^ k.bits) : bAnd k (x : Int) (y : Int) = ((x &&& y : Nat) : Int) := by
  unfold bAnd
  rw [BitVec.toNat_and, ofInt_toNat hx, ofInt_toNat hy]
  exact wrapU hk (Nat.and_lt_two_pow x hy)
theorem or_nat {k : IntKind} (hk : k.signed = false) {x y : Nat} (hx : x < 2 ^ k.bits) (hy : y < 2 ^ k.bits) : bOr k (x : Int) (y : Int) = ((x ||| y : Nat) : Int) := by
  unfold bOr
  rw [BitVec.toNat_or, ofInt_toNat hx, ofInt_toNat hy]
  exact wrapU hk (Nat.or_lt_two_pow hx hy)
theorem xor_nat {k : IntKind} (hk : k.signed = false) {x y : Nat} (hx : x < 2 ^ k.bits) (hy : y < 2 ^ k.bits) : bXor k (x : Int) (y : Int) = ((x ^^^ y : Nat) : Int) := by
  unfold bXor
  rw [BitVec.toNat_xor, ofInt_toNat hx, ofInt_toNat hy]
  exact wrapU hk (Nat.xor_lt_two_pow hx hy)

/-- 'or' of what does not meet is a sum. -/
theorem or_add {x y n : Nat} (hx : x < 2 ^ n) : x ||| (y * 2 ^ n) = x + y * 2 ^ n := by
  rw [Nat.or_comm, Nat.mul_comm y, ← Nat.two_pow_add_eq_or_of_lt hx, Nat.add_comm]

theorem and_mask (x n : Nat) : x &&& (2 ^ n - 1) = x % 2 ^ n := Nat.and_two_pow_sub_one_eq_mod x n

/-! ### Memory -/
theorem add_mk (b o n : Nat) : Addr.add ⟨b, o, none⟩ n = ⟨b, o + n, none⟩ := by
  unfold Addr.add
  split <;> simp_all

/-- The slice's elements are numbers of a kind. -/
def SlI (h : Heap) (k : IntKind) (s : Sl) (l : List Int) : Prop :=
  l.length = s.n ∧ s.n ≤ s.c ∧ (0 < s.n → ∃ b o, s.p = some ⟨b, o, none⟩ ∧ ∀ i, i < l.length → hcell h ⟨b, o + i, none⟩ = some (.int k (l.getD i 0)))

theorem SlI.ext {h h' : Heap} {k : IntKind} {s : Sl} {l : List Int} (H : SlI h k s l) (he : HExt h h') : SlI h' k s l :=
  ⟨H.1, H.2.1, fun h0 => let ⟨b, o, hp, hc⟩ := H.2.2 h0; ⟨b, o, hp, fun i hi => he _ _ (hc i hi)⟩⟩

/-- An element, loaded. -/
theorem SlI.ld {h : Heap} {k : IntKind} {s : Sl} {l : List Int} (H : SlI h k s l) {i : Int} (h0 : 0 ≤ i) (h1 : i < (s.n : Int)) {K : Int → Prop} (hK : K (l.getD i.toNat 0)) :
    0 ≤ i ∧ i < ((s.n : Nat) : Int) ∧ ptrE s.p fun a => ∃ v : Int, hcell h (Addr.add a (Int.toNat i * 1)) = some (.int k v) ∧ K v := by
  refine ⟨h0, h1, ?_⟩
  obtain ⟨b, o, hp, hc⟩ := H.2.2 (by omega)
  rw [hp]
  refine ⟨_, ?_, hK⟩
  rw [add_mk, Nat.mul_one]
  exact hc _ (by rw [H.1]; omega)

theorem getD_drop (l : List Int) (n i : Nat) : (l.drop n).getD i 0 = l.getD (n + i) 0 := by simp [List.getD]
theorem getD_take (l : List Int) {n i : Nat} (h : i < n) : (l.take n).getD i 0 = l.getD i 0 := by simp [List.getD, h]

/-- s[lo:hi]. -/
theorem SlI.sub {h : Heap} {k : IntKind} {s : Sl} {l : List Int} (H : SlI h k s l) {lo hi : Nat} (h1 : lo ≤ hi) (h2 : hi ≤ s.n) : SlI h k ⟨subP s.p lo s.c 1, hi - lo, s.c - lo⟩ ((l.take hi).drop lo) := by
  refine ⟨by simp [H.1]; omega, ?_, fun h0 => ?_⟩
  · have := H.2.1; simp only; omega
  · simp only at h0
    obtain ⟨b, o, hp, hc⟩ := H.2.2 (by omega)
    have hne : ¬ s.c = lo := by have := H.2.1; omega
    refine ⟨b, o + lo, by simp [subP, hp, hne, add_mk], fun i hi' => ?_⟩
    have hlen : i < hi - lo := by
      have : ((l.take hi).drop lo).length = hi - lo := by simp [H.1]; omega
      omega
    rw [getD_drop, getD_take _ (by omega), Nat.add_assoc]
    exact hc _ (by rw [H.1]; omega)

/-- All bytes are from 0 to 255. -/
def Byt (l : List Int) : Prop := ∀ i, 0 ≤ l.getD i 0 ∧ l.getD i 0 ≤ 255
theorem Byt.drop {l : List Int} (h : Byt l) (n : Nat) : Byt (l.drop n) := fun i => by rw [getD_drop]; exact h _
theorem Byt.take {l : List Int} (h : Byt l) (n : Nat) : Byt (l.take n) := fun i => by
  by_cases hi : i < n
  · rw [getD_take _ hi]; exact h i
  · have : (l.take n).getD i 0 = 0 := by rw [List.getD_eq_getElem?_getD, List.getElem?_take, if_neg hi]; rfl
    rw [this]; omega

/-- All that was there is as it was. -/
structure Old (h h' : Heap) : Prop where
  size : h.size ≤ h'.size
  blk : ∀ b, b < h.size → h'[b]? = h[b]?
theorem Old.refl (h : Heap) : Old h h := ⟨Nat.le_refl _, fun _ _ => rfl⟩
theorem Old.trans {a b c : Heap} (h : Old a b) (k : Old b c) : Old a c :=
  ⟨Nat.le_trans h.size k.size, fun i hi => (k.blk i (Nat.lt_of_lt_of_le hi h.size)).trans (h.blk i hi)⟩
theorem Old.push (h : Heap) (o : Obj) : Old h (h.push o) :=
  ⟨by simp, fun b hb => by rw [Array.getElem?_push, if_neg (by omega)]⟩
theorem Old.new (h : Heap) (cs : List Value) (e : TypeId) : Old h (hnew h cs e) := Old.push h _
theorem Old.ext {h h' : Heap} (H : Old h h') : HExt h h' := by
  intro a v hv
  unfold hcell at *
  have : a.block < h.size := by
    rcases Nat.lt_or_ge a.block h.size with h1 | h1
    · exact h1
    · rw [Array.getElem?_eq_none h1] at hv; cases hv
  rw [H.blk _ this]
  exact hv

end Go.Vc
