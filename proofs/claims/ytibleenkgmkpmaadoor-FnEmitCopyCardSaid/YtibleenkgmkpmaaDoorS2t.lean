/- A part of the proof. -/
import Derived.Test.YtibleenkgmkpmaaDoorS2s
namespace Go.S2
open Go.Ml

/-- These bytes are one element: it makes out' of out. -/
def Elem0 (s2 : Bool) (enc : List Int) (out : List Int) (last : Nat) (out' : List Int) (last' : Nat) : Prop :=
  0 < enc.length ∧ ∀ (t : List Int) (N : Nat), out'.length ≤ N → stepE (enc ++ t) s2 N 0 out last = some (enc.length, out', last')

theorem leAt_app (p : List Int) (k n : Nat) (t : List Int) (h : n < 256 ^ k) : leAt (p ++ leB k n ++ t) p.length k = some n := by
  unfold leAt
  rw [if_pos (by simp [leB_len])]
  rw [List.append_assoc, List.drop_append_of_le_length (Nat.le_refl _), List.drop_of_length_le (Nat.le_refl _), List.nil_append]
  rw [List.take_append_of_le_length (by rw [leB_len]; exact Nat.le_refl _), List.take_of_length_le (by rw [leB_len]; exact Nat.le_refl _), leB_N k n h]

theorem hd_getD (x : Int) (r : List Int) : (x :: r).getD 0 0 = x := rfl

/-- A literal. -/
theorem elem0_lit0 {s2 : Bool} {n : Nat} {data out : List Int} {last : Nat} (hn : n < 60) (hd : data.length = n + 1) : Elem0 s2 (((n * 4 : Nat) : Int) :: data) out last (out ++ data) last := by
  refine ⟨by simp, fun t N hN => ?_⟩
  have hr : readEl (((n * 4 : Nat) : Int) :: data ++ t) 0 s2 = some ⟨true, 1, 0, n + 1, false, 1 + (n + 1)⟩ := by
    have h0 : ((((n * 4 : Nat) : Int) :: data ++ t).getD 0 0).toNat = n * 4 := rfl
    unfold readEl readLit litEl
    simp only
    rw [h0, if_pos (by omega), show n * 4 / 4 = n by omega, if_pos hn, if_pos (by simp; omega)]
  unfold stepE
  rw [hr]
  simp only
  rw [if_neg (by simp at hN; omega), if_pos trivial]
  simp only [List.cons_append, List.drop_succ_cons, List.drop_zero, List.length_cons]
  rw [List.take_append_of_le_length (by omega), List.take_of_length_le (by omega)]
  simp; omega

theorem elem0_litk {s2 : Bool} {n k : Nat} {data out : List Int} {last : Nat} (hk : 0 < k) (hk4 : k ≤ 4) (hn : n < 256 ^ k) (hd : data.length = n + 1) : Elem0 s2 ((((59 + k) * 4 : Nat) : Int) :: leB k n ++ data) out last (out ++ data) last := by
  refine ⟨by simp, fun t N hN => ?_⟩
  have hl := leAt_app [(((59 + k) * 4 : Nat) : Int)] k n (data ++ t) hn
  simp only [List.length_singleton] at hl
  have el : (((59 + k) * 4 : Nat) : Int) :: leB k n ++ data ++ t = [(((59 + k) * 4 : Nat) : Int)] ++ leB k n ++ (data ++ t) := by simp
  have hr : readEl ((((59 + k) * 4 : Nat) : Int) :: leB k n ++ data ++ t) 0 s2 = some ⟨true, 1 + k, 0, n + 1, false, 1 + k + (n + 1)⟩ := by
    rw [el]
    have h0 : (([(((59 + k) * 4 : Nat) : Int)] ++ leB k n ++ (data ++ t)).getD 0 0).toNat = (59 + k) * 4 := rfl
    unfold readEl readLit
    simp only
    rw [h0, if_pos (by omega), show (59 + k) * 4 / 4 = 59 + k by omega, if_neg (by omega), show 59 + k - 59 = k by omega, Nat.zero_add, hl]
    simp only
    unfold litEl
    rw [if_pos (by simp [leB_len]; omega)]
  unfold stepE
  rw [hr]
  simp only
  rw [if_neg (by simp at hN; omega), if_pos trivial, el]
  rw [List.drop_append_of_le_length (by simp [leB_len]; omega), List.drop_of_length_le (by simp [leB_len]; omega), List.nil_append, List.take_append_of_le_length (by omega), List.take_of_length_le (by omega)]
  simp [leB_len]; omega

theorem step_copy {s2 : Bool} {l : List Int} {out : List Int} {last N : Nat} {e : El} (hr : readEl l 0 s2 = some e) (hl : e.lit = false) {o : Nat} (ho : o = if e.rep then last else e.off) (h0 : 0 < o) (h1 : o ≤ out.length) (hN : out.length + e.len ≤ N) :
    stepE l s2 N 0 out last = some (e.next, fwd out o e.len, o) := by
  unfold stepE
  rw [hr]
  simp only [hl, Bool.false_eq_true, if_false, ← ho]
  rw [if_neg (by omega), if_neg (by omega)]

theorem elem0_copy1 {s2 : Bool} {o n : Nat} {out : List Int} {last : Nat} (h0 : 0 < o) (h1 : o ≤ out.length) (h2 : o < 2048) (hn : 4 ≤ n) (hn2 : n ≤ 11) :
    Elem0 s2 [((o / 256 * 32 + (n - 4) * 4 + 1 : Nat) : Int), ((o % 256 : Nat) : Int)] out last (fwd out o n) o := by
  refine ⟨by simp, fun t N hN => ?_⟩
  rw [fwd_len] at hN
  refine step_copy (e := ⟨false, 0, o, n, false, 2⟩) ?_ rfl rfl h0 h1 hN
  have hh : (([((o / 256 * 32 + (n - 4) * 4 + 1 : Nat) : Int), ((o % 256 : Nat) : Int)] ++ t).getD 0 0).toNat = o / 256 * 32 + (n - 4) * 4 + 1 := rfl
  unfold readEl
  simp only
  rw [hh, if_neg (by omega), if_pos (by omega)]
  simp only [List.cons_append, List.nil_append]
  have hl : leAt (((o / 256 * 32 + (n - 4) * 4 + 1 : Nat) : Int) :: ((o % 256 : Nat) : Int) :: t) (0 + 1) 1 = some (o % 256) := by
    unfold leAt
    rw [if_pos (by simp)]
    simp [leN]
    omega
  rw [hl]
  simp only
  rw [if_pos (Or.inl (by omega))]
  congr 2 <;> omega

theorem elem0_copyk {s2 : Bool} {k o n : Nat} {out : List Int} {last : Nat} (hk : k = 2 ∨ k = 4) (h0 : 0 < o) (h1 : o ≤ out.length) (h2 : o < 256 ^ k) (hn : 1 ≤ n) (hn2 : n ≤ 64) :
    Elem0 s2 ((((n - 1) * 4 + (k / 2 + 1) : Nat) : Int) :: leB k o) out last (fwd out o n) o := by
  refine ⟨by simp, fun t N hN => ?_⟩
  rw [fwd_len] at hN
  refine (step_copy (e := ⟨false, 0, o, n, false, k + 1⟩) ?_ rfl rfl h0 h1 hN).trans (by simp [leB_len])
  have hl := leAt_app [(((n - 1) * 4 + (k / 2 + 1) : Nat) : Int)] k o t h2
  simp only [List.length_singleton, List.singleton_append, List.cons_append, List.nil_append] at hl
  have hh : (((((n - 1) * 4 + (k / 2 + 1) : Nat) : Int) :: leB k o ++ t).getD 0 0).toNat = (n - 1) * 4 + (k / 2 + 1) := rfl
  unfold readEl
  simp only
  rw [hh]
  simp only [List.cons_append]
  rcases hk with rfl | rfl
  · rw [if_neg (by omega), if_neg (by omega), if_pos (by omega), Nat.zero_add, hl]
    simp only [copyEl]
    congr 2; omega
  · rw [if_neg (by omega), if_neg (by omega), if_neg (by omega), Nat.zero_add, hl]
    simp only [copyEl]
    congr 2; omega

theorem elem0_rep0 {n : Nat} {out : List Int} {last : Nat} (h0 : 0 < last) (h1 : last ≤ out.length) (hn : 4 ≤ n) (hn2 : n ≤ 8) : Elem0 true [(((n - 4) * 4 + 1 : Nat) : Int), 0] out last (fwd out last n) last := by
  refine ⟨by simp, fun t N hN => ?_⟩
  rw [fwd_len] at hN
  refine step_copy (e := ⟨false, 0, 0, n, true, 2⟩) ?_ rfl rfl h0 h1 hN
  have hh : (([(((n - 4) * 4 + 1 : Nat) : Int), 0] ++ t).getD 0 0).toNat = (n - 4) * 4 + 1 := rfl
  unfold readEl
  simp only
  rw [hh]
  simp only [List.cons_append, List.nil_append]
  have hl : leAt ((((n - 4) * 4 + 1 : Nat) : Int) :: 0 :: t) (0 + 1) 1 = some 0 := by
    unfold leAt
    rw [if_pos (by simp)]
    simp [leN]
  rw [if_neg (by omega), if_pos (by omega), hl]
  simp only
  rw [if_neg (by simp; omega), if_pos (by omega)]
  congr 2
  omega

theorem elem0_repk {k m : Nat} {out : List Int} {last : Nat} (hk : 0 < k) (hk3 : k ≤ 3) (h0 : 0 < last) (h1 : last ≤ out.length) (hm : m < 256 ^ k) : Elem0 true ((((k + 4) * 4 + 1 : Nat) : Int) :: 0 :: leB k m) out last (fwd out last (m + moreBase (k + 4))) last := by
  refine ⟨by simp, fun t N hN => ?_⟩
  rw [fwd_len] at hN
  refine (step_copy (e := ⟨false, 0, 0, m + moreBase (k + 4), true, 2 + k⟩) ?_ rfl rfl h0 h1 hN).trans (by simp [leB_len]; omega)
  have hl2 := leAt_app [(((k + 4) * 4 + 1 : Nat) : Int), 0] k m t hm
  simp only [List.length_cons, List.length_nil, List.cons_append, List.nil_append] at hl2
  have hh : (((((k + 4) * 4 + 1 : Nat) : Int) :: 0 :: leB k m ++ t).getD 0 0).toNat = (k + 4) * 4 + 1 := rfl
  unfold readEl
  simp only
  rw [hh]
  simp only [List.cons_append]
  have hl : leAt ((((k + 4) * 4 + 1 : Nat) : Int) :: 0 :: (leB k m ++ t)) (0 + 1) 1 = some 0 := by
    unfold leAt
    rw [if_pos (by simp)]
    simp [leN]
  rw [if_neg (by omega), if_pos (by omega), hl]
  simp only
  rw [if_neg (by simp; omega), if_neg (by omega), show ((k + 4) * 4 + 1) / 4 % 8 = k + 4 by omega, show k + 4 - 4 = k by omega, Nat.zero_add, hl2]

/-- The last offset: of what was before, or of a copy since. -/
def lastOf (L0 last : Nat) : Nat := if last = 0 then L0 else last
theorem lastOf_pos {L0 last : Nat} (h : 0 < last) : lastOf L0 last = last := if_neg (by omega)
theorem lastOf_zero (last : Nat) : lastOf 0 last = last := by unfold lastOf; split <;> omega

/-- These bytes are one element, whatever stands before: it makes out' of out. -/
def ElemG (s2 : Bool) (enc : List Int) (out : List Int) (last : Nat) (out' : List Int) (last' : Nat) : Prop :=
  0 < enc.length ∧ ∀ (pre : List Int) (L0 : Nat) (t : List Int) (N : Nat), pre.length + out'.length ≤ N → stepE (enc ++ t) s2 N 0 (pre ++ out) (lastOf L0 last) = some (enc.length, pre ++ out', lastOf L0 last')
abbrev Elem := ElemG true

theorem fwd_app (pre out : List Int) (off : Nat) (h : off ≤ out.length) (h0 : 0 < off) : ∀ k, fwd (pre ++ out) off k = pre ++ fwd out off k
  | 0 => rfl
  | k + 1 => by
    simp only [fwd]
    rw [fwd_app pre out off h h0 k, List.append_assoc]
    congr 3
    have e : (pre ++ out).length + k - off = pre.length + (out.length + k - off) := by simp; omega
    rw [e, List.getD_eq_getElem?_getD, List.getElem?_append_right (by omega), List.getD_eq_getElem?_getD, Nat.add_sub_cancel_left]

theorem elem_lit0 {s2 : Bool} {n : Nat} {data out : List Int} {last : Nat} (hn : n < 60) (hd : data.length = n + 1) : ElemG s2 (((n * 4 : Nat) : Int) :: data) out last (out ++ data) last := by
  refine ⟨by simp, fun pre L0 t N hN => ?_⟩
  have := (elem0_lit0 (s2 := s2) (out := pre ++ out) (last := lastOf L0 last) hn hd).2 t N (by simp at hN ⊢; omega)
  rwa [List.append_assoc] at this

theorem elem_litk {s2 : Bool} {n k : Nat} {data out : List Int} {last : Nat} (hk : 0 < k) (hk4 : k ≤ 4) (hn : n < 256 ^ k) (hd : data.length = n + 1) : ElemG s2 ((((59 + k) * 4 : Nat) : Int) :: leB k n ++ data) out last (out ++ data) last := by
  refine ⟨by simp, fun pre L0 t N hN => ?_⟩
  have := (elem0_litk (s2 := s2) (out := pre ++ out) (last := lastOf L0 last) hk hk4 hn hd).2 t N (by simp at hN ⊢; omega)
  rwa [List.append_assoc pre] at this

theorem elem_copy1 {s2 : Bool} {o n : Nat} {out : List Int} {last : Nat} (h0 : 0 < o) (h1 : o ≤ out.length) (h2 : o < 2048) (hn : 4 ≤ n) (hn2 : n ≤ 11) :
    ElemG s2 [((o / 256 * 32 + (n - 4) * 4 + 1 : Nat) : Int), ((o % 256 : Nat) : Int)] out last (fwd out o n) o := by
  refine ⟨by simp, fun pre L0 t N hN => ?_⟩
  have := (elem0_copy1 (s2 := s2) (out := pre ++ out) (last := lastOf L0 last) h0 (by simp; omega) h2 hn hn2).2 t N (by rw [fwd_app _ _ _ h1 h0]; simp; omega)
  rw [lastOf_pos (last := o) h0]
  rwa [fwd_app _ _ _ h1 h0] at this

theorem elem_copyk {s2 : Bool} {k o n : Nat} {out : List Int} {last : Nat} (hk : k = 2 ∨ k = 4) (h0 : 0 < o) (h1 : o ≤ out.length) (h2 : o < 256 ^ k) (hn : 1 ≤ n) (hn2 : n ≤ 64) :
    ElemG s2 ((((n - 1) * 4 + (k / 2 + 1) : Nat) : Int) :: leB k o) out last (fwd out o n) o := by
  refine ⟨by simp, fun pre L0 t N hN => ?_⟩
  have := (elem0_copyk (s2 := s2) (out := pre ++ out) (last := lastOf L0 last) hk h0 (by simp; omega) h2 hn hn2).2 t N (by rw [fwd_app _ _ _ h1 h0]; simp; omega)
  rw [lastOf_pos (last := o) h0]
  rwa [fwd_app _ _ _ h1 h0] at this

theorem elem_rep0 {n : Nat} {out : List Int} {last : Nat} (h0 : 0 < last) (h1 : last ≤ out.length) (hn : 4 ≤ n) (hn2 : n ≤ 8) : Elem [(((n - 4) * 4 + 1 : Nat) : Int), 0] out last (fwd out last n) last := by
  refine ⟨by simp, fun pre L0 t N hN => ?_⟩
  have := (elem0_rep0 (out := pre ++ out) (last := last) h0 (by simp; omega) hn hn2).2 t N (by rw [fwd_app _ _ _ h1 h0]; simp; omega)
  rw [lastOf_pos h0]
  rwa [fwd_app _ _ _ h1 h0] at this

theorem elem_repk {k m : Nat} {out : List Int} {last : Nat} (hk : 0 < k) (hk3 : k ≤ 3) (h0 : 0 < last) (h1 : last ≤ out.length) (hm : m < 256 ^ k) : Elem ((((k + 4) * 4 + 1 : Nat) : Int) :: 0 :: leB k m) out last (fwd out last (m + moreBase (k + 4))) last := by
  refine ⟨by simp, fun pre L0 t N hN => ?_⟩
  have := (elem0_repk (out := pre ++ out) (last := last) hk hk3 h0 (by simp; omega) hm).2 t N (by rw [fwd_app _ _ _ h1 h0]; simp; omega)
  rw [lastOf_pos h0]
  rwa [fwd_app _ _ _ h1 h0] at this

theorem dec_drop2 {l : List Int} {u n i last : Nat} {s2 : Bool} {out : List Int} (hu : u ≤ l.length) : dec (l.drop u) s2 n i out last = dec l s2 n (u + i) out last := by
  unfold dec
  rw [List.length_drop, run_drop hu, Nat.sub_sub]

/-- These bytes are elements that make out' of out, whatever stands before and behind. -/
def SeqG (s2 : Bool) (enc : List Int) (out : List Int) (last : Nat) (out' : List Int) (last' : Nat) : Prop :=
  ∀ (pre : List Int) (L0 : Nat) (t : List Int) (N : Nat), pre.length + out'.length ≤ N → dec (enc ++ t) s2 N 0 (pre ++ out) (lastOf L0 last) = dec (enc ++ t) s2 N enc.length (pre ++ out') (lastOf L0 last')

theorem SeqG.nil {s2 : Bool} {out : List Int} {last : Nat} : SeqG s2 [] out last out last := fun _ _ _ _ _ => rfl

theorem ElemG.seq {s2 : Bool} {enc out out' : List Int} {last last' : Nat} (he : ElemG s2 enc out last out' last') : SeqG s2 enc out last out' last' := by
  intro pre L0 t N hN
  have := he.2 pre L0 t N hN
  have h0 := he.1
  exact dec_go (by simp; omega) this

theorem SeqG.trans {s2 : Bool} {e1 e2 o1 o2 o3 : List Int} {l1 l2 l3 : Nat} (H1 : SeqG s2 e1 o1 l1 o2 l2) (H2 : SeqG s2 e2 o2 l2 o3 l3) (hle : o2.length ≤ o3.length) : SeqG s2 (e1 ++ e2) o1 l1 o3 l3 := by
  intro pre L0 t N hN
  have h1 := H1 pre L0 (e2 ++ t) N (by omega)
  have h2 := H2 pre L0 t N hN
  have hd : (e1 ++ (e2 ++ t)).drop e1.length = e2 ++ t := by
    rw [List.drop_append_of_le_length (Nat.le_refl _), List.drop_of_length_le (Nat.le_refl _), List.nil_append]
  have d1 := dec_drop2 (l := e1 ++ (e2 ++ t)) (u := e1.length) (n := N) (i := 0) (last := lastOf L0 l2) (s2 := s2) (out := pre ++ o2) (by simp)
  have d2 := dec_drop2 (l := e1 ++ (e2 ++ t)) (u := e1.length) (n := N) (i := e2.length) (last := lastOf L0 l3) (s2 := s2) (out := pre ++ o3) (by simp)
  rw [hd] at d1 d2
  rw [Nat.add_zero] at d1
  rw [List.append_assoc, h1, ← d1, h2, d2, List.length_append]

/-- What is written goes on: whatever stands behind it and before it. -/
def GoesG (s2 : Bool) (body out : List Int) (last : Nat) : Prop := SeqG s2 body [] 0 out last
abbrev Goes := GoesG true

theorem GoesG.nil {s2 : Bool} : GoesG s2 [] [] 0 := SeqG.nil
theorem Goes.nil : Goes [] [] 0 := SeqG.nil
theorem GoesG.seq {s2 : Bool} {body out enc out' : List Int} {last last' : Nat} (H : GoesG s2 body out last) (he : SeqG s2 enc out last out' last') (hle : out.length ≤ out'.length) : GoesG s2 (body ++ enc) out' last' := SeqG.trans H he hle
theorem GoesG.elem {s2 : Bool} {body out enc out' : List Int} {last last' : Nat} (H : GoesG s2 body out last) (he : ElemG s2 enc out last out' last') (hle : out.length ≤ out'.length) : GoesG s2 (body ++ enc) out' last' := H.seq he.seq hle

theorem GoesG.cat {s2 : Bool} {b1 o1 b2 o2 : List Int} {l1 l2 : Nat} (H1 : GoesG s2 b1 o1 l1) (H2 : GoesG s2 b2 o2 l2) : GoesG s2 (b1 ++ b2) (o1 ++ o2) (lastOf l1 l2) := by
  refine SeqG.trans H1 (o2 := o1) (l2 := l1) ?_ (by simp)
  intro pre L0 t N hN
  rw [List.length_append] at hN
  have h2 := H2 (pre ++ o1) (lastOf L0 l1) t N (by simp; omega)
  rw [List.append_nil, List.append_assoc] at h2
  have e0 : lastOf (lastOf L0 l1) 0 = lastOf L0 l1 := rfl
  have e1 : lastOf (lastOf L0 l1) l2 = lastOf L0 (lastOf l1 l2) := by
    by_cases h1 : l1 = 0 <;> by_cases h2 : l2 = 0 <;> simp [lastOf, h1, h2]
  rw [e0, e1] at h2
  exact h2

theorem GoesG.done {s2 : Bool} {body out : List Int} {last : Nat} (H : GoesG s2 body out last) : dec body s2 out.length 0 [] 0 = some out := by
  have := H [] 0 [] out.length (by simp)
  rw [List.append_nil, List.nil_append, List.nil_append] at this
  have e0 : lastOf 0 0 = 0 := rfl
  rw [e0] at this
  rw [this, dec_stop (Nat.le_refl _), if_pos rfl]

end Go.S2
