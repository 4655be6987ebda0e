/- A part of the proof. -/
import Derived.Test.YtibleenkgmkpmaaDoorS2q
namespace Go.S2
open Go.Ml

/-- An element, counted from a later place. -/
def sh (u : Nat) (e : El) : El := { e with src := e.src - u, next := e.next - u }

theorem drop_getD (l : List Int) (u i : Nat) : (l.drop u).getD i 0 = l.getD (u + i) 0 := by simp [List.getD_eq_getElem?_getD, List.getElem?_drop]

theorem leAt_drop {l : List Int} {u i n : Nat} (hu : u ≤ l.length) : leAt (l.drop u) i n = leAt l (u + i) n := by
  unfold leAt
  rw [List.length_drop, List.drop_drop]
  by_cases h : i + n ≤ l.length - u
  · rw [if_pos h, if_pos (by omega)]
  · rw [if_neg h, if_neg (by omega)]

theorem litEl_drop {l : List Int} {u f m : Nat} : litEl (l.drop u) f m = (litEl l (u + f) m).map (sh u) := by
  unfold litEl
  rw [List.length_drop, show l.length - u - f = l.length - (u + f) by omega]
  split
  · simp [sh, show u + f - u = f by omega, show u + f + (m + 1) - u = f + (m + 1) by omega]
  · rfl

theorem copyEl_map (u : Nat) (o : Option Nat) (n x : Nat) : copyEl o n x = (copyEl o n (u + x)).map (sh u) := by
  unfold copyEl
  cases o <;> simp [sh]

theorem readEl_drop {l : List Int} {u i : Nat} {s2 : Bool} (hu : u ≤ l.length) : readEl (l.drop u) i s2 = (readEl l (u + i) s2).map (sh u) := by
  unfold readEl readLit
  simp only [drop_getD, leAt_drop hu, litEl_drop, ← Nat.add_assoc]
  by_cases h0 : (l.getD (u + i) 0).toNat % 4 = 0
  · simp only [h0, if_true]
    split
    · rfl
    · split <;> simp_all
  · simp only [h0, if_false]
    by_cases h1 : (l.getD (u + i) 0).toNat % 4 = 1
    · simp only [h1, if_true]
      split
      · rfl
      · split
        · simp [sh]; omega
        · split
          · simp [sh]; omega
          · split
            · rfl
            · simp [sh]; omega
    · simp only [h1, if_false]
      split
      · rw [copyEl_map u, ← Nat.add_assoc]
      · rw [copyEl_map u, ← Nat.add_assoc]

theorem stepE_drop {l : List Int} {u n i last : Nat} {s2 : Bool} {out : List Int} (hu : u ≤ l.length) :
    stepE (l.drop u) s2 n i out last = (stepE l s2 n (u + i) out last).map fun x => (x.1 - u, x.2.1, x.2.2) := by
  unfold stepE
  rw [readEl_drop hu]
  cases hr : readEl l (u + i) s2 with
  | none => rfl
  | some e =>
    simp only [Option.map]
    have e1 : (sh u e).len = e.len := rfl
    have e2 : (sh u e).lit = e.lit := rfl
    have e3 : (sh u e).rep = e.rep := rfl
    have e4 : (sh u e).off = e.off := rfl
    have e5 : (sh u e).next = e.next - u := rfl
    rw [e1, e2, e3, e4, e5]
    by_cases h1 : n < out.length + e.len
    · simp only [h1, if_true]
    simp only [h1, if_false]
    cases hl : e.lit with
    | true =>
      have hs : u ≤ e.src := by
        unfold readEl at hr
        simp only at hr
        split at hr
        · unfold readLit at hr
          simp only at hr
          split at hr
          · unfold litEl at hr
            split at hr
            · simp only [Option.some.injEq] at hr; subst hr; simp only; omega
            · cases hr
          · split at hr
            · cases hr
            · unfold litEl at hr
              split at hr
              · simp only [Option.some.injEq] at hr; subst hr; simp only; omega
              · cases hr
        · exfalso
          unfold copyEl at hr
          repeat' split at hr
          all_goals first | (simp only [Option.some.injEq] at hr; subst hr; simp at hl; done) | (simp at hr; done)
      have e6 : (sh u e).src = e.src - u := rfl
      simp only [if_true, e6, List.drop_drop, show u + (e.src - u) = e.src by omega]
    | false =>
      simp only [Bool.false_eq_true, if_false]
      generalize (if e.rep = true then last else e.off) = o
      by_cases ho : o = 0 ∨ out.length < o
      · simp only [ho, if_true]
      · simp only [ho, if_false]

theorem run_drop {l : List Int} {u n : Nat} {s2 : Bool} (hu : u ≤ l.length) : ∀ (f i : Nat) (out : List Int) (last : Nat), run (l.drop u) s2 n f i out last = run l s2 n f (u + i) out last
  | 0, _, _, _ => rfl
  | f + 1, i, out, last => by
    simp only [run, List.length_drop]
    by_cases h : l.length - u ≤ i
    · rw [if_pos h, if_pos (show l.length ≤ u + i by omega)]
    · rw [if_neg h, if_neg (show ¬ l.length ≤ u + i by omega), stepE_drop hu]
      cases hs : stepE l s2 n (u + i) out last with
      | none => rfl
      | some x =>
        obtain ⟨a, b, c⟩ := x
        have := stepE_next hs
        simp only [Option.map]
        rw [run_drop hu f, show u + (a - u) = a by omega]

theorem dec_drop {l : List Int} {u n last : Nat} {s2 : Bool} {out : List Int} (hu : u ≤ l.length) : dec (l.drop u) s2 n 0 out last = dec l s2 n u out last := by
  unfold dec
  rw [List.length_drop, Nat.sub_zero, run_drop hu]; rfl

theorem run_len {l : List Int} {s2 : Bool} {n : Nat} : ∀ {f i : Nat} {out : List Int} {last : Nat} {res : List Int}, run l s2 n f i out last = some res → res.length = n
  | 0, i, out, last, res, h => by
    simp only [run] at h
    split at h
    · rename_i hn; obtain rfl := Option.some.inj h; exact hn
    · cases h
  | f + 1, i, out, last, res, h => by
    simp only [run] at h
    split at h
    · split at h
      · rename_i hn; obtain rfl := Option.some.inj h; exact hn
      · cases h
    · split at h
      · cases h
      · exact run_len h
theorem dec_len {l : List Int} {s2 : Bool} {n i : Nat} {out : List Int} {last : Nat} {res : List Int} (h : dec l s2 n i out last = some res) : res.length = n := run_len h

def Bts (l : List Int) : Prop := ∀ x ∈ l, 0 ≤ x ∧ x ≤ 255
theorem Bts.app {a b : List Int} (ha : Bts a) (hb : Bts b) : Bts (a ++ b) := fun x hx => (List.mem_append.1 hx).elim (ha x) (hb x)
theorem Bts.sub {a : List Int} (ha : Bts a) (i n : Nat) : Bts ((a.drop i).take n) := fun x hx => ha x (List.mem_of_mem_drop (List.mem_of_mem_take hx))
theorem Bts.getD {a : List Int} (ha : Bts a) (i : Nat) : 0 ≤ a.getD i 0 ∧ a.getD i 0 ≤ 255 := by
  rw [List.getD_eq_getElem?_getD]
  cases h : a[i]? with
  | none => simp
  | some x => exact ha x (List.mem_of_getElem? h)
theorem fwd_byt {out : List Int} {off : Nat} (h : Bts out) : ∀ k, Bts (fwd out off k)
  | 0 => h
  | k + 1 => (fwd_byt h k).app (fun x hx => by
      obtain rfl := List.mem_singleton.1 hx
      exact (fwd_byt h k).getD _)
theorem stepE_byt {l : List Int} {s2 : Bool} {n i i' : Nat} {out out' : List Int} {last last' : Nat} (hl : Bts l) (ho : Bts out) (h : stepE l s2 n i out last = some (i', out', last')) : Bts out' := by
  unfold stepE at h
  split at h
  · cases h
  · split at h
    · cases h
    · split at h
      · simp only [Option.some.injEq, Prod.mk.injEq] at h
        obtain ⟨rfl, rfl, rfl⟩ := h
        exact ho.app (hl.sub _ _)
      · rename_i e _ _ _
        simp only at h
        generalize (if e.rep = true then last else e.off) = o at h
        split at h
        · cases h
        · simp only [Option.some.injEq, Prod.mk.injEq] at h
          obtain ⟨rfl, rfl, rfl⟩ := h
          exact fwd_byt ho _
theorem run_byt {l : List Int} {s2 : Bool} {n : Nat} (hl : Bts l) : ∀ {f i : Nat} {out : List Int} {last : Nat} {res : List Int}, Bts out → run l s2 n f i out last = some res → Bts res
  | 0, i, out, last, res, ho, h => by
    simp only [run] at h
    split at h
    · obtain rfl := Option.some.inj h; exact ho
    · cases h
  | f + 1, i, out, last, res, ho, h => by
    simp only [run] at h
    split at h
    · split at h
      · obtain rfl := Option.some.inj h; exact ho
      · cases h
    · split at h
      · cases h
      · rename_i hs
        exact run_byt hl (stepE_byt hl ho hs) h
theorem dec_byt {l : List Int} {s2 : Bool} {n i : Nat} {out : List Int} {last : Nat} {res : List Int} (hl : Bts l) (ho : Bts out) (h : dec l s2 n i out last = some res) : Bts res := run_byt hl ho h

end Go.S2
