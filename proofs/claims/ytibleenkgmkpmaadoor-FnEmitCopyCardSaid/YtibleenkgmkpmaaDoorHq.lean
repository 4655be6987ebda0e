/- A part of the proof. -/
import Derived.Test.YtibleenkgmkpmaaDoorHp
namespace Go.Vc

/-- A growable slice of one's own, of values of one cell each. -/
structure OwnV (B : Nat) (h : Heap) (e : TypeId) (s : Sl) (l : List Value) : Prop where
  len : l.length = s.n
  cap : s.n ≤ s.c
  mem : (s.p = none ∧ s.c = 0) ∨ ∃ b cs, s.p = some ⟨b, 0, none⟩ ∧ B ≤ b ∧ Blk h b cs e ∧ cs.length = s.c ∧ cs.take s.n = l

theorem OwnV.nil (B : Nat) (h : Heap) (e : TypeId) : OwnV B h e ⟨none, 0, 0⟩ [] := ⟨rfl, Nat.le_refl _, Or.inl ⟨rfl, rfl⟩⟩
theorem OwnV.fr {B : Nat} {S : Nat → Prop} {h h' : Heap} {e : TypeId} {s : Sl} {l : List Value} (H : OwnV B h e s l) (F : Fr S h h') (hb : ∀ b, s.p = some ⟨b, 0, none⟩ → ¬ S b) : OwnV B h' e s l :=
  ⟨H.len, H.cap, H.mem.imp id fun ⟨b, cs, hp, hB, hK, hl, ht⟩ => ⟨b, cs, hp, hB, F.Blk hK (hb b hp), hl, ht⟩⟩
theorem OwnV.old {B : Nat} {h h' : Heap} {e : TypeId} {s : Sl} {l : List Value} (H : OwnV B h e s l) (F : Old h h') : OwnV B h' e s l := H.fr (Fr.of_old (S := fun _ => False) F) (fun _ _ x => x)
theorem OwnV.ge {B b : Nat} {h : Heap} {e : TypeId} {s : Sl} {l : List Value} (H : OwnV B h e s l) (hp : s.p = some ⟨b, 0, none⟩) : B ≤ b := by
  rcases H.mem with ⟨h0, _⟩ | ⟨b', cs, hp', hB, _⟩
  · rw [hp] at h0; cases h0
  · rw [hp] at hp'
    have : b = b' := by simpa using hp'
    omega
theorem OwnV.lt {B b : Nat} {h : Heap} {e : TypeId} {s : Sl} {l : List Value} (H : OwnV B h e s l) (hp : s.p = some ⟨b, 0, none⟩) : b < h.size := by
  rcases H.mem with ⟨h0, _⟩ | ⟨b', cs, hp', hB, hk, _⟩
  · rw [hp] at h0; cases h0
  · rw [hp] at hp'
    have : b = b' := by simpa using hp'
    have := hk.lt
    omega
theorem Own.lt {B b : Nat} {h : Heap} {k : IntKind} {e : TypeId} {s : Sl} {l : List Int} (H : Own B h k e s l) (hp : s.p = some ⟨b, 0, none⟩) : b < h.size := by
  rcases H.mem with ⟨h0, _⟩ | ⟨b', cs, hp', hB, hk, _⟩
  · rw [hp] at h0; cases h0
  · rw [hp] at hp'
    have : b = b' := by simpa using hp'
    have := hk.lt
    omega
theorem Own.v {B : Nat} {h : Heap} {k : IntKind} {e : TypeId} {s : Sl} {l : List Int} (H : Own B h k e s l) : OwnV B h e s (l.map (Value.int k)) := ⟨by rw [List.length_map]; exact H.len, H.cap, H.mem⟩

/-- A slice of values of one cell each. -/
structure SlV (h : Heap) (s : Sl) (l : List Value) : Prop where
  len : l.length = s.n
  cap : s.n ≤ s.c
  mem : 0 < s.n → ∃ b o, s.p = some ⟨b, o, none⟩ ∧ ∀ i, i < l.length → hcell h ⟨b, o + i, none⟩ = l[i]?
theorem OwnV.sl {B : Nat} {h : Heap} {e : TypeId} {s : Sl} {l : List Value} (H : OwnV B h e s l) : SlV h s l := by
  refine ⟨H.len, H.cap, fun h0 => ?_⟩
  rcases H.mem with ⟨hp, hc⟩ | ⟨b, cs, hp, hB, hK, hl, ht⟩
  · have := H.cap; omega
  · refine ⟨b, 0, hp, fun i hi => ?_⟩
    have hl' := H.len
    rw [Nat.zero_add, hK.cell, ← ht, List.getElem?_take, if_pos (by omega)]
theorem SlV.fr {S : Nat → Prop} {h h' : Heap} {s : Sl} {l : List Value} (H : SlV h s l) (F : Fr S h h') (hS : ∀ a, 0 < s.n → s.p = some a → ¬ S a.block) : SlV h' s l := by
  refine ⟨H.len, H.cap, fun h0 => ?_⟩
  obtain ⟨b, o, hp, hx⟩ := H.mem h0
  refine ⟨b, o, hp, fun i hi => ?_⟩
  have h1 := hx i hi
  rw [List.getElem?_eq_getElem hi] at h1 ⊢
  exact F.cell (hS ⟨b, o, none⟩ h0 hp) h1
theorem SlV.ext {h h' : Heap} {s : Sl} {l : List Value} (H : SlV h s l) (o : Old h h') : SlV h' s l := H.fr (Fr.of_old (S := fun _ => False) o) (fun _ _ _ x => x)

theorem srcV {h : Heap} {s : Sl} {l : List Value} (H : SlV h s l) {n c : Nat} : srcCells h s.n (.slice s.p n c) l := by
  cases hp : s.p with
  | none =>
    have h0 : s.n = 0 := by
      rcases Nat.eq_zero_or_pos s.n with h0 | h0
      · exact h0
      · obtain ⟨b, o, hb, _⟩ := H.mem h0
        rw [hp] at hb; cases hb
    have hl := H.len
    rw [h0] at hl ⊢
    obtain rfl := List.length_eq_zero_iff.1 hl
    simp [srcCells]
  | some a =>
    intro j v hj
    have hjl : j < l.length := by
      rcases Nat.lt_or_ge j l.length with h1 | h1
      · exact h1
      · rw [List.getElem?_eq_none h1] at hj; cases hj
    have hl := H.len
    obtain ⟨b, o, hb, hc⟩ := H.mem (by omega)
    rw [hp] at hb
    obtain rfl := Option.some.inj hb
    rw [add_mk, hc j hjl, hj]

/-- append to a slice of one's own. -/
theorem append_ownV {P : Program} {B : Nat} {h : Heap} {e : TypeId} {s : Sl} {l news : List Value} {x : Value} {m : Nat} {K : Option Addr → Nat → Nat → Heap → Prop}
    (H : OwnV B h e s l) (h1 : typeSize P e = 1) (hb : typeBytes P e ≤ 64) (hz : (zcells P e).length = 1) (hm : news.length = m) (hone : ∀ v ∈ news, v.oneCell' = true) (hsrc : srcCells h m x news)
    (hlen : s.n + m ≤ 2 ^ 40) (hB : B ≤ h.size)
    (hK : ∀ p' c' h', OwnV B h' e ⟨p', s.n + m, c'⟩ (l ++ news) → Fr (fun b => s.p = some ⟨b, 0, none⟩) h h' → (∀ b, p' = some ⟨b, 0, none⟩ → s.p = some ⟨b, 0, none⟩ ∨ h.size ≤ b) → K p' (s.n + m) c' h') :
    appendT P e s.p s.n s.c x m h K := by
  refine ⟨news, by rw [h1]; simp [hm], hsrc, ?_⟩
  by_cases hc : s.n + m ≤ s.c
  · rw [if_pos hc]
    rcases H.mem with ⟨hp, hc0⟩ | ⟨b, cs, hp, hbB, hK', hl, ht⟩
    · have hm0 : m = 0 := by omega
      have hn0 : s.n = 0 := by omega
      have hnews : news = [] := by rw [hm0] at hm; exact List.length_eq_zero_iff.1 hm
      have hl0 : l = [] := by have := H.len; rw [hn0] at this; exact List.length_eq_zero_iff.1 this
      rw [hp]
      refine hK none s.c h ⟨by simp [hnews, hl0, hn0, hm0], hc, Or.inl ⟨rfl, hc0⟩⟩ (Fr.refl _ _) (fun b hb => by cases hb)
    · rw [hp]
      simp only [h1, Nat.mul_one, add_mk, Nat.zero_add]
      refine stP_blk hK' hone (by omega) fun h' hh => ?_
      have F : Fr (fun b => s.p = some ⟨b, 0, none⟩) h h' := by
        rw [hh]
        split
        · exact Fr.refl _ _
        · exact Fr.put.mono (fun x _ hx => by rw [hp, hx])
      refine hK (some ⟨b, 0, none⟩) s.c h' ⟨by simp [H.len, hm], hc, Or.inr ?_⟩ F (fun b' hb' => Or.inl (by rw [hp]; exact hb'))
      by_cases hn : news = []
      · have hm0 : m = 0 := by rw [hn] at hm; simpa using hm.symm
        rw [if_pos hn] at hh
        rw [hh]
        exact ⟨b, cs, rfl, hbB, hK', hl, by simp [hn, hm0, ht]⟩
      · rw [if_neg hn] at hh
        rw [hh]
        have hcl := H.cap
        refine ⟨b, _, rfl, hbB, Blk.put hK'.lt _ _, ?_, ?_⟩
        · simp [hl, hm]; omega
        · simp only [Nat.add_zero, hm]
          rw [List.take_append_of_le_length (by simp [hl, hm]; omega), List.take_of_length_le (by simp [hl, hm]; omega), ht]
  · rw [if_neg hc]
    have hbig : (s.n + m) * typeBytes P e ≤ (s.n + m) * 64 := Nat.mul_le_mul_left _ hb
    refine ⟨by omega, by omega, l, by rw [h1]; simp [H.len], srcV H.sl, ?_⟩
    · intro cap h2 h3
      refine hK _ cap _ ⟨by simp [H.len, hm], h2, Or.inr ⟨h.size, _, rfl, hB, Blk.new _ _ _, ?_, ?_⟩⟩ (Fr.of_old (Old.new _ _ _)) (fun b hb => ?_)
      · have : (zcells P e).toArray.size = 1 := by simpa using hz
        rw [List.length_append, List.length_append, zero_len, this]
        simp [H.len, hm]
        omega
      · rw [List.take_append_of_le_length (by simp [H.len, hm]), List.take_of_length_le (by simp [H.len, hm])]
      · obtain rfl : h.size = b := by simpa using hb
        exact Or.inr (Nat.le_refl _)
theorem sl_newV (h : Heap) (l : List Value) (e : TypeId) : SlV (hnew h l e) ⟨some ⟨h.size, 0, none⟩, l.length, l.length⟩ l :=
  ⟨rfl, Nat.le_refl _, fun _ => ⟨h.size, 0, rfl, fun i hi => by rw [Nat.zero_add, (Blk.new h l e).cell]⟩⟩

end Go.Vc
