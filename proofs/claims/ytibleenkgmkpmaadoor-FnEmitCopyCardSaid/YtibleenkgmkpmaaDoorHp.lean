/- A part of a calculus over heaps: what the steps of the Go model compute, told by terms that the kernel reduces. Nothing of the law is stated here. -/
import Derived.Test.YtibleenkgmkpmaaDoorVc12
namespace Go.Vc

theorem Byt.mem {l : List Int} (h : Byt l) : ∀ x ∈ l, 0 ≤ x ∧ x ≤ 255 := by
  intro x hx
  obtain ⟨i, hi, rfl⟩ := List.mem_iff_getElem.1 hx
  have := h i
  rwa [List.getD_eq_getElem?_getD, List.getElem?_eq_getElem hi] at this
theorem Byt.of_mem {l : List Int} (h : ∀ x ∈ l, 0 ≤ x ∧ x ≤ 255) : Byt l := by
  intro i
  rw [List.getD_eq_getElem?_getD]
  cases hi : l[i]? with
  | none => simp
  | some x => simpa using h x (List.mem_of_getElem? hi)

theorem or_addI {k : IntKind} (hk : k.signed = false) (n : Nat) {x y : Int} (hx0 : 0 ≤ x) (hx : x < 2 ^ n) (hy : 0 ≤ y) (hb : x + y * 2 ^ n < 2 ^ k.bits) : bOr k x (y * 2 ^ n) = x + y * 2 ^ n := by
  obtain ⟨a, rfl⟩ := Int.eq_ofNat_of_zero_le hx0
  obtain ⟨b, rfl⟩ := Int.eq_ofNat_of_zero_le hy
  have hx' : a < 2 ^ n := by exact_mod_cast hx
  have hb' : a + b * 2 ^ n < 2 ^ k.bits := by exact_mod_cast hb
  have e : ((b : Int) * 2 ^ n) = ((b * 2 ^ n : Nat) : Int) := by simp
  rw [e, or_nat hk (by omega) (by omega), or_add hx']
  simp

/-- A table of bytes, in a block. -/
def Tab (h : Heap) (b : Nat) (l : List Nat) : Prop := ∀ i, i < l.length → hcell h ⟨b, i, none⟩ = some (.int .u8 (l.getD i 0 : Nat))
theorem Tab.ext {h h' : Heap} {b : Nat} {l : List Nat} (H : Tab h b l) (he : HExt h h') : Tab h' b l := fun i hi => he _ _ (H i hi)

/-- s[i:]. -/
theorem SlI.from {h : Heap} {k : IntKind} {s : Sl} {l : List Int} (H : SlI h k s l) {i : Nat} (hi : i ≤ s.n) : SlI h k ⟨subP s.p i s.c 1, s.n - i, s.c - i⟩ (l.drop i) := by
  have := H.sub (lo := i) (hi := s.n) hi (Nat.le_refl _)
  rwa [show l.take s.n = l from by rw [← H.1]; exact List.take_length] at this

theorem byte_nat {x : Int} (h : 0 ≤ x ∧ x ≤ 255) : ∃ n : Nat, x = n ∧ n ≤ 255 := ⟨x.toNat, by omega, by omega⟩
/-- b[:n]. -/
theorem SlI.cut {h : Heap} {k : IntKind} {s : Sl} {l : List Int} (H : SlI h k s l) {n : Nat} (hn : n ≤ s.n) : SlI h k ⟨subP s.p 0 s.c 1, n, s.c⟩ (l.take n) := by
  have := H.sub (lo := 0) (hi := n) (by omega) hn
  simpa using this
theorem SlI.len {h : Heap} {k : IntKind} {s : Sl} {l : List Int} (H : SlI h k s l) : s.n = l.length := H.1.symm

/-! ### Blocks of memory -/
/-- Block b holds these cells, none of them frozen. -/
def Blk (h : Heap) (b : Nat) (cs : List Value) (e : TypeId) : Prop := h[b]? = some (.cells cs.toArray e (0, 0))

/-- Block b, laid anew. -/
def hput (h : Heap) (b : Nat) (cs : List Value) (e : TypeId) : Heap := h.setIfInBounds b (.cells cs.toArray e (0, 0))

theorem Blk.lt {h : Heap} {b : Nat} {cs : List Value} {e : TypeId} (H : Blk h b cs e) : b < h.size := by
  unfold Blk at H
  rcases Nat.lt_or_ge b h.size with h1 | h1
  · exact h1
  · rw [Array.getElem?_eq_none h1] at H; cases H

theorem Blk.cell {h : Heap} {b : Nat} {cs : List Value} {e : TypeId} (H : Blk h b cs e) (i : Nat) : hcell h ⟨b, i, none⟩ = cs[i]? := by
  unfold hcell
  rw [H]
  simp
theorem Blk.cell0 {h : Heap} {b : Nat} {cs : List Value} {e : TypeId} (H : Blk h b cs e) (i : Nat) : hcell h (Addr.add ⟨b, 0, none⟩ i) = cs[i]? := by
  rw [add_mk, Nat.zero_add]; exact H.cell i
theorem Blk.new (h : Heap) (cs : List Value) (e : TypeId) : Blk (hnew h cs e) h.size cs e := by simp [Blk, hnew]
theorem Blk.put {h : Heap} {b : Nat} (hb : b < h.size) (cs : List Value) (e : TypeId) : Blk (hput h b cs e) b cs e := by
  simp [Blk, hput, hb]
theorem Blk.put_ne {h : Heap} {b b' : Nat} {cs cs' : List Value} {e e' : TypeId} (H : Blk h b cs e) (hn : b ≠ b') : Blk (hput h b' cs' e') b cs e := by
  unfold Blk hput at *
  rw [Array.getElem?_setIfInBounds_ne (by omega)]
  exact H

theorem hset_blk {h : Heap} {b i : Nat} {cs : List Value} {e : TypeId} (H : Blk h b cs e) (v : Value) : hset h ⟨b, i, none⟩ v = hput h b (cs.set i v) e := by
  have hb := H.lt
  unfold hset hput
  apply Array.ext_getElem?
  intro k
  rw [Array.getElem?_modify]
  by_cases hk : b = k
  · subst hk
    rw [if_pos rfl, H]
    simp [hb]
  · simp only [hk, if_false]
    rw [Array.getElem?_setIfInBounds_ne hk]

/-- A store into a block that is known. -/
theorem st1_blk {h : Heap} {b i : Nat} {cs : List Value} {e : TypeId} {v : Value} {K : Heap → Prop} (H : Blk h b cs e) (hi : i < cs.length) (hK : K (hput h b (cs.set i v) e)) : st1 ⟨b, i, none⟩ v h K := by
  refine ⟨⟨cs[i], by rw [H.cell, List.getElem?_eq_getElem hi]⟩, ?_, ?_⟩
  · unfold hfrozen
    rw [H]
    simp
  · rw [hset_blk H]; exact hK

theorem hput_put (h : Heap) (b : Nat) (cs cs' : List Value) (e e' : TypeId) : hput (hput h b cs e) b cs' e' = hput h b cs' e' := by
  unfold hput
  apply Array.ext_getElem?
  intro k
  by_cases hk : b = k
  · subst hk
    by_cases hb : b < h.size
    · simp [hb]
    · simp [hb]
  · simp [hk]
theorem hput_new (h : Heap) (cs cs' : List Value) (e e' : TypeId) : hput (hnew h cs e) h.size cs' e' = hnew h cs' e' := by
  unfold hput hnew
  apply Array.ext_getElem?
  intro k
  by_cases hk : h.size = k
  · subst hk; simp
  · rw [Array.getElem?_setIfInBounds_ne hk, Array.getElem?_push, Array.getElem?_push, if_neg (by omega), if_neg (by omega)]
@[simp] theorem size_hnew (h : Heap) (cs : List Value) (e : TypeId) : (hnew h cs e).size = h.size + 1 := by simp [hnew]
@[simp] theorem size_hput (h : Heap) (b : Nat) (cs : List Value) (e : TypeId) : (hput h b cs e).size = h.size := by simp [hput]

/-! ### Frames -/
/-- But for the blocks of S all that was there is as it was. -/
structure Fr (S : Nat → Prop) (h h' : Heap) : Prop where
  size : h.size ≤ h'.size
  blk : ∀ b, b < h.size → ¬ S b → h'[b]? = h[b]?
theorem Fr.refl (S : Nat → Prop) (h : Heap) : Fr S h h := ⟨Nat.le_refl _, fun _ _ _ => rfl⟩
theorem Fr.trans' {S T U : Nat → Prop} {a b c : Heap} (h : Fr S a b) (k : Fr T b c) (hS : ∀ x, x < a.size → S x → U x) (hT : ∀ x, x < a.size → T x → U x) : Fr U a c :=
  ⟨Nat.le_trans h.size k.size, fun i hi hn => (k.blk i (Nat.lt_of_lt_of_le hi h.size) (fun x => hn (hT i hi x))).trans (h.blk i hi (fun x => hn (hS i hi x)))⟩
theorem Fr.trans {S : Nat → Prop} {a b c : Heap} (h : Fr S a b) (k : Fr S b c) : Fr S a c := h.trans' k (fun _ _ h => h) (fun _ _ h => h)
theorem Fr.mono {S T : Nat → Prop} {a b : Heap} (h : Fr S a b) (hS : ∀ x, x < a.size → S x → T x) : Fr T a b := ⟨h.size, fun i hi hn => h.blk i hi (fun x => hn (hS i hi x))⟩
theorem Fr.of_old {S : Nat → Prop} {a b : Heap} (h : Old a b) : Fr S a b := ⟨h.size, fun i hi _ => h.blk i hi⟩
theorem Fr.old {S : Nat → Prop} {a b : Heap} (h : Fr S a b) (hS : ∀ x, x < a.size → ¬ S x) : Old a b := ⟨h.size, fun i hi => h.blk i hi (hS i hi)⟩
theorem Fr.put {h : Heap} {b : Nat} {cs : List Value} {e : TypeId} : Fr (· = b) h (hput h b cs e) :=
  ⟨by simp, fun i hi hn => by unfold hput; rw [Array.getElem?_setIfInBounds_ne (by omega)]⟩
theorem Fr.Blk {S : Nat → Prop} {h h' : Heap} {b : Nat} {cs : List Value} {e : TypeId} (F : Fr S h h') (H : Blk h b cs e) (hb : ¬ S b) : Blk h' b cs e := by
  unfold Vc.Blk at *
  rw [F.blk b _ hb]
  · exact H
  · rcases Nat.lt_or_ge b h.size with h1 | h1
    · exact h1
    · rw [Array.getElem?_eq_none h1] at H; cases H
theorem Old.Blk {h h' : Heap} {b : Nat} {cs : List Value} {e : TypeId} (F : Old h h') (H : Blk h b cs e) : Blk h' b cs e := (Fr.of_old (S := fun _ => False) F).Blk H (fun x => x)

/-- All blocks below B are as they were. -/
def Keep (B : Nat) (h h' : Heap) : Prop := Fr (fun b => B ≤ b) h h'
theorem Keep.trans {B : Nat} {a b c : Heap} (h : Keep B a b) (k : Keep B b c) : Keep B a c := Fr.trans h k
theorem Keep.refl (B : Nat) (h : Heap) : Keep B h h := Fr.refl _ h
theorem Keep.of_old {B : Nat} {a b : Heap} (h : Old a b) : Keep B a b := Fr.of_old h
theorem Keep.old {a b : Heap} (h : Keep a.size a b) : Old a b := Fr.old h (fun x hx hS => by omega)
theorem Keep.of_fr {B b : Nat} {h h' : Heap} (F : Fr (· = b) h h') (hb : B ≤ b) : Keep B h h' := F.mono (fun x _ hx => by omega)
theorem Old.keep {B : Nat} {a b c : Heap} (h : Old a b) (k : Keep B b c) : Keep B a c := (Keep.of_old h).trans k

/-- A cell in a block that is kept. -/
theorem Fr.cell {S : Nat → Prop} {h h' : Heap} {a : Addr} {v : Value} (F : Fr S h h') (hb : ¬ S a.block) (hv : hcell h a = some v) : hcell h' a = some v := by
  unfold hcell at *
  have : a.block < h.size := by
    rcases Nat.lt_or_ge a.block h.size with h1 | h1
    · exact h1
    · rw [Array.getElem?_eq_none h1] at hv; cases hv
  rw [F.blk _ this hb]
  exact hv

/-- The block of a slice, where it has elements. -/
theorem SlI.fr {S : Nat → Prop} {h h' : Heap} {k : IntKind} {s : Sl} {l : List Int} (H : SlI h k s l) (F : Fr S h h') (hb : ∀ a, 0 < s.n → s.p = some a → ¬ S a.block) : SlI h' k s l :=
  ⟨H.1, H.2.1, fun h0 => by
    obtain ⟨b, o, hp, hc⟩ := H.2.2 h0
    exact ⟨b, o, hp, fun i hi => F.cell (show ¬ S b from hb _ h0 hp) (hc i hi)⟩⟩
theorem SlI.lt {h : Heap} {k : IntKind} {s : Sl} {l : List Int} (H : SlI h k s l) {a : Addr} (h0 : 0 < s.n) (hp : s.p = some a) : a.block < h.size := by
  obtain ⟨b, o, hp', hc⟩ := H.2.2 h0
  rw [hp] at hp'
  obtain rfl := Option.some.inj hp'
  have := hc 0 (by rw [H.1]; exact h0)
  unfold hcell at this
  rcases Nat.lt_or_ge b h.size with h1 | h1
  · exact h1
  · rw [Array.getElem?_eq_none h1] at this; cases this
theorem SlI.keep {B : Nat} {h0 h h' : Heap} {k : IntKind} {s : Sl} {l : List Int} (H0 : SlI h0 k s l) (hB : h0.size ≤ B) (H : SlI h k s l) (F : Keep B h h') : SlI h' k s l :=
  H.fr F (fun a h1 h2 => by have := H0.lt h1 h2; omega)

/-! ### A slice of its own: it may grow -/
/-- The slice's memory is a block of its own, from B on; it holds these numbers first. -/
structure Own (B : Nat) (h : Heap) (k : IntKind) (e : TypeId) (s : Sl) (l : List Int) : Prop where
  len : l.length = s.n
  cap : s.n ≤ s.c
  mem : (s.p = none ∧ s.c = 0) ∨ ∃ b cs, s.p = some ⟨b, 0, none⟩ ∧ B ≤ b ∧ Blk h b cs e ∧ cs.length = s.c ∧ cs.take s.n = l.map (Value.int k)

theorem Own.nil (B : Nat) (h : Heap) (k : IntKind) (e : TypeId) : Own B h k e ⟨none, 0, 0⟩ [] := ⟨rfl, Nat.le_refl _, Or.inl ⟨rfl, rfl⟩⟩
theorem Own.fr {B : Nat} {S : Nat → Prop} {h h' : Heap} {k : IntKind} {e : TypeId} {s : Sl} {l : List Int} (H : Own B h k e s l) (F : Fr S h h') (hb : ∀ b, s.p = some ⟨b, 0, none⟩ → ¬ S b) : Own B h' k e s l :=
  ⟨H.len, H.cap, H.mem.imp id fun ⟨b, cs, hp, hB, hK, hl, ht⟩ => ⟨b, cs, hp, hB, F.Blk hK (hb b hp), hl, ht⟩⟩
theorem Own.old {B : Nat} {h h' : Heap} {k : IntKind} {e : TypeId} {s : Sl} {l : List Int} (H : Own B h k e s l) (F : Old h h') : Own B h' k e s l := H.fr (Fr.of_old (S := fun _ => False) F) (fun _ _ x => x)
theorem Own.sl {B : Nat} {h : Heap} {k : IntKind} {e : TypeId} {s : Sl} {l : List Int} (H : Own B h k e s l) : SlI h k s l := by
  refine ⟨H.len, H.cap, fun h0 => ?_⟩
  rcases H.mem with ⟨hp, hc⟩ | ⟨b, cs, hp, hB, hK, hl, ht⟩
  · have := H.cap; omega
  · refine ⟨b, 0, hp, fun i hi => ?_⟩
    rw [Nat.zero_add, hK.cell]
    have hi' : i < s.n := by rw [← H.len]; exact hi
    have : (cs.take s.n)[i]? = (l.map (Value.int k))[i]? := by rw [ht]
    rw [List.getElem?_take, if_pos hi'] at this
    rw [this, List.getElem?_map, List.getElem?_eq_getElem hi, List.getD_eq_getElem?_getD, List.getElem?_eq_getElem hi]
    rfl
theorem Own.mono {B B' : Nat} {h : Heap} {k : IntKind} {e : TypeId} {s : Sl} {l : List Int} (H : Own B h k e s l) (hB : B' ≤ B) : Own B' h k e s l :=
  ⟨H.len, H.cap, H.mem.imp id fun ⟨b, cs, hp, hb, r⟩ => ⟨b, cs, hp, Nat.le_trans hB hb, r⟩⟩

/-- Cells that are stored one behind the other. -/
theorem stP_blk {e : TypeId} {b : Nat} : ∀ {vs cs : List Value} {o i : Nat} {h : Heap} {K : Heap → Prop}, Blk h b cs e → (∀ v ∈ vs, v.oneCell' = true) → o + i + vs.length ≤ cs.length →
    (∀ h', h' = (if vs = [] then h else hput h b (cs.take (o + i) ++ vs ++ cs.drop (o + i + vs.length)) e) → K h') → stP vs ⟨b, o, none⟩ i h K
  | [], cs, o, i, h, K, _, _, _, hK => hK h (by simp)
  | v :: r, cs, o, i, h, K, H, ho, hl, hK => by
    have hv := ho v List.mem_cons_self
    simp only [List.length_cons] at hl
    have hst : stP (v :: r) ⟨b, o, none⟩ i h K = st1 (Addr.add ⟨b, o, none⟩ i) v h fun h' => stP r ⟨b, o, none⟩ (i + 1) h' K := by
      cases v <;> first | rfl | (simp [Value.oneCell'] at hv)
    rw [hst, add_mk]
    refine st1_blk H (by omega) ?_
    refine stP_blk (Blk.put H.lt _ _) (fun u hu => ho u (List.mem_cons_of_mem _ hu)) (by simp; omega) fun h' hh => hK h' ?_
    rw [hh]
    have e1 : cs.set (o + i) v = cs.take (o + i) ++ v :: cs.drop (o + i + 1) := by rw [List.set_eq_take_append_cons_drop, if_pos (by omega)]
    have l1 : (cs.take (o + i)).length = o + i := by simp; omega
    by_cases hr : r = []
    · subst hr
      simp [e1]
    · simp only [hr, if_false, List.cons_ne_nil, hput_put]
      congr 1
      rw [e1]
      have t1 : (cs.take (o + i) ++ v :: cs.drop (o + i + 1)).take (o + (i + 1)) = cs.take (o + i) ++ [v] := by
        rw [List.take_append, List.take_of_length_le (by rw [l1]; omega), l1, show o + (i + 1) - (o + i) = 1 by omega]
        rfl
      have t2 : (cs.take (o + i) ++ v :: cs.drop (o + i + 1)).drop (o + (i + 1) + r.length) = cs.drop (o + i + (r.length + 1)) := by
        rw [List.drop_append, l1, List.drop_of_length_le (by rw [l1]; omega), show o + (i + 1) + r.length - (o + i) = r.length + 1 by omega]
        simp
        congr 1
        omega
      rw [t1, t2]
      simp

/-- A slice's elements, as what is appended or copied. -/
theorem src_sl {h : Heap} {k : IntKind} {s : Sl} {l : List Int} (H : SlI h k s l) {m : Nat} (hm : m ≤ s.n) {n c : Nat} : srcCells h m (.slice s.p n c) ((l.take m).map (Value.int k)) := by
  cases hp : s.p with
  | none =>
    have h0 : s.n = 0 := by
      rcases Nat.eq_zero_or_pos s.n with h0 | h0
      · exact h0
      · obtain ⟨b, o, hb, _⟩ := H.2.2 h0
        rw [hp] at hb; cases hb
    have : m = 0 := by omega
    subst this
    simp [srcCells]
  | some a =>
    intro j v hj
    rw [List.getElem?_map] at hj
    have hjl : j < (l.take m).length := by
      rcases Nat.lt_or_ge j (l.take m).length with h1 | h1
      · exact h1
      · rw [List.getElem?_eq_none h1] at hj; cases hj
    have hjm : j < m := by simp at hjl; omega
    have hjl' : j < l.length := by rw [H.1]; omega
    obtain ⟨b, o, hb, hc⟩ := H.2.2 (by omega)
    rw [hp] at hb
    obtain rfl := Option.some.inj hb
    rw [add_mk, hc j hjl']
    rw [List.getElem?_take, if_pos hjm, List.getElem?_eq_getElem hjl'] at hj
    rw [List.getD_eq_getElem?_getD, List.getElem?_eq_getElem hjl']
    simpa using hj

theorem zero_len (z : Array Value) (n : Nat) : (Builtin.zeroCells z n).toList.length = n * z.size := by simp [Builtin.zeroCells]

/-- append to a slice of one's own. -/
theorem append_own {P : Program} {B : Nat} {h : Heap} {k : IntKind} {e : TypeId} {s : Sl} {l news : List Int} {x : Value} {m : Nat} {K : Option Addr → Nat → Nat → Heap → Prop}
    (H : Own B h k e s l) (h1 : typeSize P e = 1) (hb : typeBytes P e ≤ 8) (hz : (zcells P e).length = 1) (hm : news.length = m) (hsrc : srcCells h m x (news.map (Value.int k)))
    (hlen : s.n + m ≤ 2 ^ 40) (hB : B ≤ h.size)
    (hK : ∀ p' c' h', Own B h' k e ⟨p', s.n + m, c'⟩ (l ++ news) → Fr (fun b => s.p = some ⟨b, 0, none⟩) h h' → (∀ b, p' = some ⟨b, 0, none⟩ → s.p = some ⟨b, 0, none⟩ ∨ h.size ≤ b) → K p' (s.n + m) c' h') :
    appendT P e s.p s.n s.c x m h K := by
  refine ⟨news.map (Value.int k), by rw [h1]; simp [hm], hsrc, ?_⟩
  by_cases hc : s.n + m ≤ s.c
  · rw [if_pos hc]
    rcases H.mem with ⟨hp, hc0⟩ | ⟨b, cs, hp, hbB, hK', hl, ht⟩
    · have hm0 : m = 0 := by omega
      have hn0 : s.n = 0 := by omega
      have hnews : news = [] := by rw [hm0] at hm; exact List.length_eq_zero_iff.1 hm
      have hl0 : l = [] := by have := H.len; rw [hn0] at this; exact List.length_eq_zero_iff.1 this
      rw [hp]
      refine hK none s.c h ⟨by simp [hnews, hl0, hn0, hm0], hc, Or.inl ⟨rfl, hc0⟩⟩ (Fr.refl _ _) (fun b hb => by cases hb)
    · rw [hp]
      simp only [h1, Nat.mul_one, add_mk, Nat.zero_add]
      refine stP_blk hK' (fun v hv => by obtain ⟨z, _, rfl⟩ := List.mem_map.1 hv; rfl) (by simp [hm]; omega) fun h' hh => ?_
      have F : Fr (fun b => s.p = some ⟨b, 0, none⟩) h h' := by
        rw [hh]
        split
        · exact Fr.refl _ _
        · exact Fr.put.mono (fun x _ hx => by rw [hp, hx])
      refine hK (some ⟨b, 0, none⟩) s.c h' ⟨by simp [H.len, hm], hc, Or.inr ?_⟩ F (fun b' hb' => Or.inl (by rw [hp]; exact hb'))
      by_cases hn : news = []
      · have hm0 : m = 0 := by rw [hn] at hm; simpa using hm.symm
        rw [hn] at hh
        simp at hh
        rw [hh]
        exact ⟨b, cs, rfl, hbB, hK', hl, by simp [hn, hm0, ht]⟩
      · rw [if_neg (by simpa using hn)] at hh
        rw [hh]
        have hcl := H.cap
        refine ⟨b, _, rfl, hbB, Blk.put hK'.lt _ _, ?_, ?_⟩
        · simp [hl, hm]; omega
        · simp only [Nat.add_zero, List.length_map, hm]
          rw [List.take_append_of_le_length (by simp [hl, hm]; omega), List.take_of_length_le (by simp [hl, hm]; omega), ht, List.map_append]
  · rw [if_neg hc]
    have hbig : (s.n + m) * typeBytes P e ≤ (s.n + m) * 8 := Nat.mul_le_mul_left _ hb
    refine ⟨by omega, by omega, l.map (Value.int k), by rw [h1]; simp [H.len], ?_, ?_⟩
    · have := src_sl H.sl (m := s.n) (Nat.le_refl _) (n := s.n) (c := s.c)
      rwa [List.take_of_length_le (by rw [H.len]; exact Nat.le_refl _)] at this
    · intro cap h2 h3
      refine hK _ cap _ ⟨by simp [H.len, hm], h2, Or.inr ⟨h.size, _, rfl, hB, Blk.new _ _ _, ?_, ?_⟩⟩ (Fr.of_old (Old.new _ _ _)) (fun b hb => ?_)
      · have : (zcells P e).toArray.size = 1 := by simpa using hz
        rw [List.length_append, List.length_append, zero_len, this]
        simp [H.len, hm]
        omega
      · rw [List.take_append_of_le_length (by simp [H.len, hm]), List.take_of_length_le (by simp [H.len, hm]), List.map_append]
      · obtain rfl : h.size = b := by simpa using hb
        exact Or.inr (Nat.le_refl _)

/-- copy into a block that is known. -/
theorem copy_blk {P : Program} {h : Heap} {k : IntKind} {e e' : TypeId} {b o n m : Nat} {cs : List Value} {x : Value} {news : List Int} {K : Int → Heap → Prop}
    (H : Blk h b cs e') (h1 : typeSize P e = 1) (hm : news.length = min m n) (hsrc : srcCells h (min m n) x (news.map (Value.int k))) (hl : o + min m n ≤ cs.length)
    (hK : ∀ h', Blk h' b (cs.take o ++ news.map (Value.int k) ++ cs.drop (o + min m n)) e' → Fr (· = b) h h' → K ((min m n : Nat) : Int) h') : copyT P e (some ⟨b, o, none⟩) n x m h K := by
  refine ⟨news.map (Value.int k), by rw [h1]; simp [hm], hsrc, ?_⟩
  refine stP_blk H (fun v hv => by obtain ⟨z, _, rfl⟩ := List.mem_map.1 hv; rfl) (by simp [hm]; omega) fun h' hh => ?_
  simp only [Nat.add_zero, List.length_map, hm] at hh
  by_cases hn : news = []
  · have h0 : min m n = 0 := by rw [hn] at hm; simpa using hm.symm
    rw [hn] at hh
    simp at hh
    rw [hh]
    refine hK h ?_ (Fr.refl _ _)
    rw [hn, h0]
    simpa using H
  · rw [if_neg (by simpa using hn)] at hh
    rw [hh]
    exact hK _ (Blk.put H.lt _ _) Fr.put

end Go.Vc
namespace Go.Vc
/-! ### Numbers, more -/
theorem and_i64 {x y : Nat} (hx : x < 2 ^ 63) (hy : y < 2 ^ 63) : bAnd .i64 (x : Int) (y : Int) = ((x &&& y : Nat) : Int) := by
  unfold bAnd
  have hB : IntKind.i64.bits = 64 := rfl
  rw [BitVec.toNat_and, ofInt_toNat (by rw [hB]; omega), ofInt_toNat (by rw [hB]; omega)]
  have : x &&& y < 2 ^ 63 := Nat.and_lt_two_pow x hy
  exact w_i64 (by omega) (by omega)
theorem fdiv_nat (x n : Nat) : Int.fdiv (x : Int) (2 ^ n) = ((x / 2 ^ n : Nat) : Int) := by
  rw [fdiv_pow]
  norm_cast
theorem and3 (x : Nat) : x &&& 3 = x % 4 := Nat.and_two_pow_sub_one_eq_mod x 2
theorem and7 (x : Nat) : x &&& 7 = x % 8 := Nat.and_two_pow_sub_one_eq_mod x 3
theorem and127 (x : Nat) : x &&& 127 = x % 128 := Nat.and_two_pow_sub_one_eq_mod x 7

/-- An element, loaded: a byte as a natural number. -/
theorem SlI.ldB {h : Heap} {s : Sl} {l : List Int} (H : SlI h .u8 s l) (hb : ∀ i, 0 ≤ l.getD i 0 ∧ l.getD i 0 ≤ 255) {i : Int} {j : Nat} (hi : i = j) (h1 : j < l.length) {K : Int → Prop} (hK : ∀ v : Nat, v ≤ 255 → l.getD j 0 = v → (l.getD j 0).toNat = v → K v) :
    0 ≤ i ∧ i < ((s.n : Nat) : Int) ∧ ptrE s.p fun a => ∃ v : Int, hcell h (Addr.add a (Int.toNat i * 1)) = some (.int .u8 v) ∧ K v := by
  subst hi
  have hl := H.1
  refine H.ld (by omega) (by omega) ?_
  rw [Int.toNat_natCast]
  have := hb j
  have e : l.getD j 0 = ((l.getD j 0).toNat : Int) := by omega
  have hk := hK (l.getD j 0).toNat (by omega) e rfl
  rw [← e] at hk
  exact hk

/-- Six cells, stored one behind the other. -/
theorem st6 {h : Heap} {b : Nat} {e : TypeId} {c0 c1 c2 c3 c4 c5 v0 v1 v2 v3 v4 v5 : Value} {K : Heap → Prop} (H : Blk h b [c0, c1, c2, c3, c4, c5] e) (hK : K (hput h b [v0, v1, v2, v3, v4, v5] e)) :
    st1 (Addr.add ⟨b, 0, none⟩ 0) v0 h fun h => st1 (Addr.add ⟨b, 0, none⟩ 1) v1 h fun h => st1 (Addr.add ⟨b, 0, none⟩ 2) v2 h fun h => st1 (Addr.add ⟨b, 0, none⟩ 3) v3 h fun h =>
      st1 (Addr.add ⟨b, 0, none⟩ 4) v4 h fun h => st1 (Addr.add ⟨b, 0, none⟩ 5) v5 h K := by
  have hl := H.lt
  simp only [add_mk, Nat.zero_add]
  refine st1_blk H (by simp) ?_
  refine st1_blk (Blk.put hl _ _) (by simp) ?_
  refine st1_blk (Blk.put (by simpa using hl) _ _) (by simp) ?_
  refine st1_blk (Blk.put (by simpa using hl) _ _) (by simp) ?_
  refine st1_blk (Blk.put (by simpa using hl) _ _) (by simp) ?_
  refine st1_blk (Blk.put (by simpa using hl) _ _) (by simp) ?_
  simpa only [hput_put, List.set_cons_zero, List.set_cons_succ] using hK
end Go.Vc
namespace Go.Vc
theorem ptrE_some {a : Addr} {K : Addr → Prop} : ptrE (some a) K = K a := propext Iff.rfl
theorem withH_eq {x : Heap} {K : Heap → Prop} : withH x K = K x := propext Iff.rfl
theorem Blk.get {h : Heap} {b : Nat} {cs : List Value} {e : TypeId} (H : Blk h b cs e) {i : Nat} {v : Value} (hv : cs[i]? = some v) : hcell h ⟨b, i, none⟩ = some v := by rw [H.cell]; exact hv
end Go.Vc
namespace Go.Vc
theorem i64_and3 {x : Nat} (hx : x < 2 ^ 63) : bAnd .i64 (x : Int) 3 = ((x % 4 : Nat) : Int) := by rw [← and3]; exact and_i64 hx (by decide)
theorem i64_and7 {x : Nat} (hx : x < 2 ^ 63) : bAnd .i64 (x : Int) 7 = ((x % 8 : Nat) : Int) := by rw [← and7]; exact and_i64 hx (by decide)
theorem i64_and127 {x : Nat} (hx : x < 2 ^ 63) : bAnd .i64 (x : Int) 127 = ((x % 128 : Nat) : Int) := by rw [← and127]; exact and_i64 hx (by decide)
theorem u8_and3 {x : Nat} (hx : x ≤ 255) : bAnd .u8 (x : Int) 3 = ((x % 4 : Nat) : Int) := by rw [← and3]; exact and_nat rfl (by show x < 256; omega) (by decide)
theorem u8_and127 {x : Nat} (hx : x ≤ 255) : bAnd .u8 (x : Int) 127 = ((x % 128 : Nat) : Int) := by rw [← and127]; exact and_nat rfl (by show x < 256; omega) (by decide)
end Go.Vc
namespace Go.Vc
theorem sl_new (h : Heap) (k : IntKind) (l : List Int) (e : TypeId) : SlI (hnew h (l.map (Value.int k)) e) k ⟨some ⟨h.size, 0, none⟩, l.length, l.length⟩ l := by
  refine ⟨rfl, Nat.le_refl _, fun _ => ⟨h.size, 0, rfl, fun i hi => ?_⟩⟩
  rw [Nat.zero_add, (Blk.new h _ e).cell, List.getElem?_map, List.getElem?_eq_getElem hi, List.getD_eq_getElem?_getD, List.getElem?_eq_getElem hi]
  rfl
theorem Own.put {B b : Nat} {h : Heap} {k : IntKind} {e e' : TypeId} {s : Sl} {l : List Int} {cs : List Value} (H : Own B h k e s l) (hn : ∀ b', s.p = some ⟨b', 0, none⟩ → b' ≠ b) : Own B (hput h b cs e') k e s l :=
  H.fr Fr.put (fun b' hb => hn b' hb)
end Go.Vc
namespace Go.Vc
theorem SlI.keepB {B : Nat} {h h' : Heap} {k : IntKind} {s : Sl} {l : List Int} (H : SlI h k s l) (hB : ∀ a, 0 < s.n → s.p = some a → a.block < B) (F : Keep B h h') : SlI h' k s l :=
  SlI.fr (S := fun b => B ≤ b) H F (fun a h1 h2 hh => absurd (hB a h1 h2) (Nat.not_lt.2 hh))
end Go.Vc
namespace Go.Vc
theorem Own.ge {B b : Nat} {h : Heap} {k : IntKind} {e : TypeId} {s : Sl} {l : List Int} (H : Own B h k e s l) (hp : s.p = some ⟨b, 0, none⟩) : B ≤ b := by
  rcases H.mem with ⟨h0, _⟩ | ⟨b', cs, hp', hB, _⟩
  · rw [hp] at h0; cases h0
  · rw [hp] at hp'
    have : b = b' := by simpa using hp'
    omega
theorem Own.keep {B : Nat} {h h1 h2 : Heap} {k : IntKind} {e : TypeId} {s : Sl} {l : List Int} (H : Own B h k e s l) (F : Fr (fun b => s.p = some ⟨b, 0, none⟩) h1 h2) : Keep B h1 h2 :=
  F.mono (fun _ _ hx => H.ge hx)
theorem Keep.put {B b : Nat} {h0 h : Heap} {cs : List Value} {e : TypeId} (H : Keep B h0 h) (hb : B ≤ b) : Keep B h0 (hput h b cs e) := H.trans (Keep.of_fr Fr.put hb)
end Go.Vc
namespace Go.Vc
theorem subP0 (p : Option Addr) (c : Nat) : subP p 0 c 1 = p := by
  unfold subP
  split
  · rfl
  · cases p <;> simp [Addr.add]
theorem subP_at {b o k c : Nat} (h : c ≠ k) : subP (some ⟨b, o, none⟩) k c 1 = some ⟨b, o + k, none⟩ := by
  simp [subP, h, add_mk]
theorem take_set_succ {α : Type} (l : List α) (i : Nat) (v : α) (h : i < l.length) : (l.set i v).take (i + 1) = l.take i ++ [v] := by
  rw [List.take_add_one, List.take_set_of_le (Nat.le_refl i)]
  simp [h]
end Go.Vc
