/- A part of the calculus over heaps, or of the proof over it: what functions of the program compute, and the plain law. -/
import Derived.Test.YtibleenkgmkpmaaDoorText3
import Derived.Test.YtibleenkgmkpmaaDoorText2
import Derived.Test.YtibleenkgmkpmaaDoorModels1

set_option linter.unusedSimpArgs false
set_option linter.unusedVariables false
set_option linter.unusedSectionVars false
namespace Go.Proofs.YtibleenkgmkpmaaDoor
open Go Go.Vc Go.Ml Go.S2

theorem zEl : zcells Pg 113 = [.bool false, .int .i64 0, .int .i64 0, .int .i64 0, .bool false, .int .i64 0] := by kernel_rfl

theorem leN_len {l : List Int} (hb : Byt l) (i n : Nat) (hn : n ≤ 4) : leN ((l.drop i).take n) < 2 ^ 32 := by
  have h1 := leN_lt ((l.drop i).take n) ((hb.drop i).take n).mem
  have h2 : ((l.drop i).take n).length ≤ 4 := by simp; omega
  have h3 : 256 ^ ((l.drop i).take n).length ≤ 256 ^ 4 := Nat.pow_le_pow_right (by decide) h2
  omega

/-- A number that may lack, as the program tells it. -/
def leI : Option Nat → Int
  | none => -1
  | some m => m
theorem leI_none : leI none = -1 := rfl
theorem leI_some (m : Nat) : leI (some m) = m := rfl

theorem leAt_lt {l : List Int} (hb : Byt l) {i n m : Nat} (hn : n ≤ 4) (h : leAt l i n = some m) : m < 2 ^ 32 := by
  unfold leAt at h
  split at h
  · obtain rfl := Option.some.inj h
    exact leN_len hb _ _ hn
  · cases h

theorem little {s : Sl} {h : Heap} {l : List Int} (hs : SlI h .u8 s l) (hb : Byt l) (hl : l.length < 2 ^ 40) {i n : Nat} {a b : Int} (ha : a = i) (hbn : b = n) (hi : i < 2 ^ 40) (hn : n ≤ 4) {K : Int → Heap → Prop}
    (hK : ∀ r, r = leI (leAt l i n) → K r h) : c_spec_little s a b h K := by
  subst ha hbn
  have hsl := hs.len
  apply M_spec_little.calls
  simp only [SS, M_spec_little.k5, M_spec_little.k4, M_spec_little.k3, M_spec_little.k2, M_spec_little.k1, M_spec_little.k0, M_spec_little.stm, M_spec_little.r0, M_spec_little.r1, M_spec_little.r2, M_spec_little.r3, M_spec_little.r4, M_spec_little.r5, M_spec_little.r6, M_spec_little.r7, M_spec_little.r8, M_spec_little.init, M_spec_little.res]
  rw [w_i64 (by omega) (by omega), w_i64 (by omega) (by omega)]
  replace hK := hK _ rfl
  unfold leAt at hK
  by_cases h1 : i + n ≤ l.length
  case neg =>
    rw [if_neg h1] at hK
    rw [if_pos (by simp <;> omega)]
    exact hK
  rw [if_pos h1] at hK
  rw [if_neg (by simp <;> omega)]
  refine loop_rule (I := fun s' h' => s'.x_src = s ∧ s'.x_at = i ∧ h' = h ∧ ∃ j, j ≤ n ∧ s'.x_i = (j : Int) - 1 ∧ s'.x_n = leN ((l.drop (i + j)).take (n - j))) (μ := fun s' _ => (s'.x_i + 1).toNat) ?_ ?_
  · exact ⟨rfl, rfl, rfl, n, by omega, rfl, by simp [leN]⟩
  · rintro s' h' ⟨rfl, e1, rfl, j, hj, e2, e3⟩
    simp only [SS, M_spec_little.r0, M_spec_little.r1, M_spec_little.r2, M_spec_little.r3, M_spec_little.r4, M_spec_little.r5, M_spec_little.r6, M_spec_little.r7, M_spec_little.r8, M_spec_little.init, M_spec_little.res]
    by_cases hc : s'.x_i ≥ 0
    · rw [if_pos (by simpa using hc)]
      rw [e1, e2, w_i64 (by omega) (by omega)]
      refine hs.ldB hb (j := i + (j - 1)) (by omega) (by omega) fun v hv he hev => ?_
      have hlt := leN_len hb (i + j) (n - j) (by omega)
      have hs2 : leN ((l.drop (i + (j - 1))).take (n - (j - 1))) = v + 256 * leN ((l.drop (i + j)).take (n - j)) := by
        have := leN_take_succ l (i + (j - 1)) (n - j) (by omega)
        rw [show n - j + 1 = n - (j - 1) by omega, show i + (j - 1) + 1 = i + j by omega, hev] at this
        exact this
      refine ⟨⟨trivial, rfl, trivial, j - 1, by omega, ?_, ?_⟩, ?_⟩
      · rw [w_i64 (by omega) (by omega)]; omega
      · simp (disch := omega) only [e3, hs2, w_i64, w_u64, w_i32, w_u32, w_u16, w_u8, w_i16, Nat.reducePow]
        omega
      · rw [w_i64 (by omega) (by omega)]; omega
    · rw [if_neg (by simpa using hc)]
      have : j = 0 := by omega
      subst this
      simp only [SS, M_spec_little.r0, M_spec_little.r1, M_spec_little.r2, M_spec_little.r3, M_spec_little.r4, M_spec_little.r5, M_spec_little.r6, M_spec_little.r7, M_spec_little.r8, M_spec_little.init, M_spec_little.res, e3]
      exact hK

/-- What a reader of elements gives back. -/
def ElK (K : Bool → Int → Int → Int → Bool → Int → Bool → Heap → Prop) (h : Heap) : Option El → Prop
  | none => ∀ b f o n r x, K b f o n r x false h
  | some e => K e.lit e.src e.off e.len e.rep e.next true h

/-- An element's cells. -/
@[reducible] def elC (b : Bool) (f o n : Int) (r : Bool) (x : Int) : List Value := [.bool b, .int .i64 f, .int .i64 o, .int .i64 n, .bool r, .int .i64 x]
theorem ldEl {h : Heap} {a : Nat} {e : TypeId} {b : Bool} {f o n : Int} {r : Bool} {x : Int} (H : Blk h a (elC b f o n r x) e) {K : Bool → Int → Int → Int → Bool → Int → Prop} (hK : K b f o n r x) :
    ∃ b1 : Bool, hcell h (⟨a, 0, none⟩) = some (.bool b1) ∧ ∃ v1 : Int, hcell h (⟨a, 1, none⟩) = some (.int .i64 v1) ∧ ∃ v2 : Int, hcell h (⟨a, 2, none⟩) = some (.int .i64 v2) ∧
      ∃ v3 : Int, hcell h (⟨a, 3, none⟩) = some (.int .i64 v3) ∧ ∃ b2 : Bool, hcell h (⟨a, 4, none⟩) = some (.bool b2) ∧ ∃ v4 : Int, hcell h (⟨a, 5, none⟩) = some (.int .i64 v4) ∧ K b1 v1 v2 v3 b2 v4 :=
  ⟨b, by exact H.get rfl, f, by exact H.get rfl, o, by exact H.get rfl, n, by exact H.get rfl, r, by exact H.get rfl, x, by exact H.get rfl, hK⟩
theorem stEl {h : Heap} {a : Nat} {e : TypeId} {b b' : Bool} {f o n f' o' n' : Int} {r r' : Bool} {x x' : Int} {K : Heap → Prop} (H : Blk h a (elC b f o n r x) e) (hK : K (hput h a (elC b' f' o' n' r' x') e)) :
    st1 (⟨a, 0, none⟩) (.bool b') h fun h => st1 (⟨a, 1, none⟩) (.int .i64 f') h fun h => st1 (⟨a, 2, none⟩) (.int .i64 o') h fun h => st1 (⟨a, 3, none⟩) (.int .i64 n') h fun h =>
      st1 (⟨a, 4, none⟩) (.bool r') h fun h => st1 (⟨a, 5, none⟩) (.int .i64 x') h K := by
  have := st6 (v0 := .bool b') (v1 := .int .i64 f') (v2 := .int .i64 o') (v3 := .int .i64 n') (v4 := .bool r') (v5 := .int .i64 x') H hK
  simpa only [add_mk, Nat.zero_add] using this
theorem old_new_put {h : Heap} {cs cs' : List Value} {e e' : TypeId} : Old h (hput (hnew h cs e) h.size cs' e') := by rw [hput_new]; exact Old.new _ _ _

theorem readLiteral {s : Sl} {h : Heap} {l : List Int} (hs : SlI h .u8 s l) (hb : Byt l) (hl : l.length < 2 ^ 40) {i : Nat} {a : Int} (ha : a = i) (hi : i < l.length) {K : Bool → Int → Int → Int → Bool → Int → Bool → Heap → Prop}
    (hK : ∀ h', Old h h' → ElK K h' (readLit l i)) : c_spec_readLiteral s a h K := by
  subst ha
  have hsl := hs.len
  apply M_spec_readLiteral.calls
  simp only [SS, M_spec_readLiteral.k8, M_spec_readLiteral.k7, M_spec_readLiteral.k6, M_spec_readLiteral.k5, M_spec_readLiteral.k4, M_spec_readLiteral.k3, M_spec_readLiteral.k2, M_spec_readLiteral.k1, M_spec_readLiteral.k0, M_spec_readLiteral.stm, M_spec_readLiteral.r0, M_spec_readLiteral.r1, M_spec_readLiteral.r2, M_spec_readLiteral.r3, M_spec_readLiteral.r4, M_spec_readLiteral.r5, M_spec_readLiteral.r6, M_spec_readLiteral.r7, M_spec_readLiteral.r8, M_spec_readLiteral.r9, M_spec_readLiteral.r10, M_spec_readLiteral.r11, M_spec_readLiteral.r12, M_spec_readLiteral.init, M_spec_readLiteral.res, withH_eq, ptrE_some, add_mk, Nat.zero_add, Nat.add_zero, zEl]
  have hB : Blk (hnew h (elC false 0 0 0 false 0) 113) h.size (elC false 0 0 0 false 0) 113 := Blk.new h _ 113
  have hs1 := hs.ext (Old.new h (elC false 0 0 0 false 0) 113).ext
  have bad : ∀ b f o n r x, readLit l i = none → K b f o n r x false (hput (hnew h (elC false 0 0 0 false 0) 113) h.size (elC b f o n r x) 113) := by
    intro b f o n r x hr
    have := hK _ (old_new_put (h := h) (cs := elC false 0 0 0 false 0) (cs' := elC b f o n r x) (e := 113) (e' := 113))
    rw [hr] at this
    exact this _ _ _ _ _ _
  refine hs1.ldB hb (j := i) rfl hi fun v hv he hev => ?_
  simp (disch := omega) only [fdiv_nat, w_i64, w_u64, w_i32, w_u32, w_u16, w_u8, w_i16, Nat.reducePow]
  by_cases hn : v / 4 < 60
  · have hn' : ¬ ((v / 2 ^ 2 : Nat) : Int) ≥ 60 := by omega
    simp only [hn', decide_false, Bool.false_eq_true, if_false]
    have hr : readLit l i = litEl l (i + 1) (v / 4) := by unfold readLit; simp only [hev, hn, if_true]
    unfold litEl at hr
    by_cases hc : v / 4 + 1 ≤ l.length - (i + 1)
    · rw [if_pos hc] at hr
      rw [if_neg (by simp <;> omega)]
      refine stEl hB (ldEl (Blk.put (by simp) _ _) ?_)
      have := hK _ (old_new_put (h := h) (cs := elC false 0 0 0 false 0) (cs' := elC true (i + 1) 0 ((v / 4 : Nat) + 1) false (i + 1 + ((v / 4 : Nat) + 1))) (e := 113) (e' := 113))
      rw [hr] at this
      simp only [ElK] at this
      exact_mod_cast this
    · rw [if_neg hc] at hr
      rw [if_pos (by simp <;> omega)]
      exact stEl hB (ldEl (Blk.put (by simp) _ _) (bad _ _ _ _ _ _ hr))
  · have hn' : ((v / 2 ^ 2 : Nat) : Int) ≥ 60 := by omega
    simp only [hn', decide_true, if_true]
    refine little hs1 hb hl (i := i + 1) (n := v / 4 - 59) (by omega) (by omega) (by omega) (by omega) fun r0 hr0 => ?_
    cases hle : leAt l (i + 1) (v / 4 - 59) with
    | none =>
      have hr : readLit l i = none := by unfold readLit; simp only [hev, hn, if_false, hle]
      rw [hle, leI_none] at hr0; subst hr0
      rw [if_pos (by simp)]
      exact stEl hB (ldEl (Blk.put (by simp) _ _) (bad _ _ _ _ _ _ hr))
    | some m =>
      have hr : readLit l i = litEl l (i + 1 + (v / 4 - 59)) m := by unfold readLit; simp only [hev, hn, if_false, hle]
      have hm : m < 2 ^ 32 := by
        unfold leAt at hle
        split at hle
        · obtain rfl := Option.some.inj hle
          exact leN_len hb _ _ (by omega)
        · cases hle
      have hle2 := leAt_le hle
      rw [hle, leI_some] at hr0; subst hr0
      rw [if_neg (by simp <;> omega)]
      simp (disch := omega) only [w_i64, w_u64, w_i32, w_u32, w_u16, w_u8, w_i16, Nat.reducePow]
      unfold litEl at hr
      by_cases hc : m + 1 ≤ l.length - (i + 1 + (v / 4 - 59))
      · rw [if_pos hc] at hr
        rw [if_neg (by simp <;> omega)]
        refine stEl hB (ldEl (Blk.put (by simp) _ _) ?_)
        have := hK _ (old_new_put (h := h) (cs := elC false 0 0 0 false 0) (cs' := elC true ((i + 1 + (v / 4 - 59) : Nat) : Int) 0 (m + 1) false (((i + 1 + (v / 4 - 59) : Nat) : Int) + (m + 1))) (e := 113) (e' := 113))
        rw [hr] at this
        simp only [ElK] at this
        have e1 : ((i : Int) + 1 + (((v / 2 ^ 2 : Nat) : Int) - 59)) = ((i + 1 + (v / 4 - 59) : Nat) : Int) := by omega
        rw [e1]
        exact_mod_cast this
      · rw [if_neg hc] at hr
        rw [if_pos (by simp <;> omega)]
        exact stEl hB (ldEl (Blk.put (by simp) _ _) (bad _ _ _ _ _ _ hr))

theorem readElement {s : Sl} {h : Heap} {l : List Int} (hs : SlI h .u8 s l) (hb : Byt l) (hl : l.length < 2 ^ 40) {i : Nat} {a : Int} (ha : a = i) (hi : i < l.length) {s2 : Bool} {K : Bool → Int → Int → Int → Bool → Int → Bool → Heap → Prop}
    (hK : ∀ h', Old h h' → ElK K h' (readEl l i s2)) : c_spec_readElement s a s2 h K := by
  subst ha
  have hsl := hs.len
  apply M_spec_readElement.calls
  simp only [SS, M_spec_readElement.stm, M_spec_readElement.k0, M_spec_readElement.k1, M_spec_readElement.k2, M_spec_readElement.init, M_spec_readElement.r0, M_spec_readElement.r1, M_spec_readElement.r2, M_spec_readElement.r3, M_spec_readElement.r4, withH_eq, ptrE_some, add_mk, Nat.zero_add, Nat.add_zero, zEl]
  have hB : Blk (hnew h (elC false 0 0 0 false 0) 113) h.size (elC false 0 0 0 false 0) 113 := Blk.new h _ 113
  have o1 := Old.new h (elC false 0 0 0 false 0) 113
  have hs1 := hs.ext o1.ext
  generalize hnew h (elC false 0 0 0 false 0) 113 = h1 at *
  -- the end: the result's block is laid anew
  have fin : ∀ h2, Old h1 h2 → ∀ b f o n r x t, (∀ h', Old h h' → K b f o n r x t h') → K b f o n r x t (hput h2 h.size (elC b f o n r x) 113) := by
    intro h2 o2 b f o n r x t hk
    exact hk _ (Keep.old (((Keep.of_old o1).trans (Keep.of_old o2)).trans (Keep.of_fr Fr.put (Nat.le_refl _))))
  have fin0 : readEl l i s2 = none → ∀ b f o n r x h', Old h h' → K b f o n r x false h' := by
    intro hr b f o n r x h' ho
    have := hK h' ho
    rw [hr] at this
    exact this _ _ _ _ _ _
  refine hs1.ldB hb (j := i) rfl hi fun v hv he hev => ?_
  simp (disch := omega) only [fdiv_nat, w_i64, w_u64, w_i32, w_u32, w_u16, w_u8, w_i16, Nat.reducePow, i64_and3]
  by_cases c0 : v % 4 = 0
  · -- a literal
    rw [if_pos (by simp [c0])]
    have hr : readEl l i s2 = readLit l i := by unfold readEl; simp only [hev, c0, if_true]
    simp only [SS, withH_eq, ptrE_some, add_mk, Nat.zero_add, Nat.add_zero, M_spec_readElement.r4, M_spec_readElement.res]
    refine readLiteral hs1 hb hl rfl hi fun h2 o2 => ?_
    cases hl : readLit l i with
    | none =>
      intro b f o n r x
      exact stEl (o2.Blk hB) (ldEl (Blk.put (o2.Blk hB).lt _ _) (fin h2 o2 _ _ _ _ _ _ _ (fun h' ho => fin0 (by rw [hr, hl]) _ _ _ _ _ _ _ ho)))
    | some e =>
      refine stEl (o2.Blk hB) (ldEl (Blk.put (o2.Blk hB).lt _ _) (fin h2 o2 _ _ _ _ _ _ _ (fun h' ho => ?_)))
      have := hK h' ho
      rw [hr, hl] at this
      exact this
  rw [if_neg (by simp <;> omega)]
  simp only [SS, M_spec_readElement.k3, M_spec_readElement.r5]
  have hA : ∀ cs, Blk (hnew h1 cs 113) h.size (elC false 0 0 0 false 0) 113 := fun cs => (Old.new h1 cs 113).Blk hB
  have hne : h.size ≠ h1.size := by have := hB.lt; omega
  -- what is given back is an element in a second block
  have give : ∀ b f o n r x t, (∀ h', Old h h' → K b f o n r x t h') → K b f o n r x t (hput (hnew h1 (elC b f o n r x) 113) h.size (elC b f o n r x) 113) :=
    fun b f o n r x t hk => fin _ (Old.new _ _ _) _ _ _ _ _ _ _ hk
  by_cases c1 : v % 4 = 1
  · rw [if_pos (by simp [c1])]
    simp only [SS, M_spec_readElement.k4, M_spec_readElement.k5, M_spec_readElement.k6, M_spec_readElement.r6, M_spec_readElement.r7, M_spec_readElement.r8, M_spec_readElement.r9, withH_eq, ptrE_some, add_mk, Nat.zero_add, Nat.add_zero, zEl]
    refine little hs1 hb hl (i := i + 1) (n := 1) (by rw [w_i64 (by omega) (by omega)]; omega) (by omega) (by omega) (by omega) fun r0 hr0 => ?_
    cases hlow : leAt l (i + 1) 1 with
    | none =>
      have hr : readEl l i s2 = none := by unfold readEl; simp only [hev, c1, hlow]; simp
      rw [hlow, leI_none] at hr0; subst hr0
      simp (disch := omega) only [fdiv_nat, w_i64, w_u64, w_i32, w_u32, w_u16, w_u8, w_i16, Nat.reducePow, i64_and7]
      refine stEl (Blk.new _ _ _) ?_
      rw [if_pos (by simp), hput_new]
      simp only [M_spec_readElement.res, withH_eq, ptrE_some, add_mk, Nat.zero_add, Nat.add_zero]
      refine stEl (hA _) (ldEl (Blk.put (hA _).lt _ _) (fin _ (Old.new _ _ _) _ _ _ _ _ _ _ (fun h' ho => fin0 hr _ _ _ _ _ _ _ ho)))
    | some low =>
      have hlo : low ≤ 255 := by
        unfold leAt at hlow
        split at hlow
        · obtain rfl := Option.some.inj hlow
          have := leN_lt ((l.drop (i + 1)).take 1) ((hb.drop (i + 1)).take 1).mem
          have h2 : ((l.drop (i + 1)).take 1).length ≤ 1 := by simp; omega
          have h3 : 256 ^ ((l.drop (i + 1)).take 1).length ≤ 256 ^ 1 := Nat.pow_le_pow_right (by decide) h2
          omega
        · cases hlow
      have hle2 := leAt_le hlow
      rw [hlow, leI_some] at hr0; subst hr0
      simp (disch := omega) only [fdiv_nat, w_i64, w_u64, w_i32, w_u32, w_u16, w_u8, w_i16, Nat.reducePow, i64_and7]
      refine stEl (Blk.new _ _ _) ?_
      rw [if_neg (by simp <;> omega), hput_new]
      generalize hT : v / 32 * 256 + low = T
      have eT : ((v / 32 : Nat) : Int) * 2 ^ 8 + (low : Int) = (T : Int) := by omega
      simp only [SS, M_spec_readElement.k7, M_spec_readElement.r10, M_spec_readElement.r11, withH_eq, ptrE_some, add_mk, Nat.zero_add, Nat.add_zero, eT]
      refine ⟨T, (Blk.new _ _ _).get rfl, ?_⟩
      have plain : 0 < T ∨ s2 = false → ∀ h', Old h h' → K false 0 T (((v / 4 % 8 : Nat) : Int) + 4) false ((i : Int) + 2) true h' := by
        intro hoff h' ho
        have hr : readEl l i s2 = some ⟨false, 0, T, v / 4 % 8 + 4, false, i + 2⟩ := by unfold readEl; simp only [hev, c1, hlow, hT, hoff, if_true]; simp
        have := hK h' ho
        rw [hr] at this
        simp only [ElK] at this
        exact_mod_cast this
      by_cases hT0 : 0 < T
      · rw [if_neg (by simp <;> omega), if_pos (by simp)]
        simp only [M_spec_readElement.res, withH_eq, ptrE_some, add_mk, Nat.zero_add, Nat.add_zero]
        refine ldEl (Blk.new _ _ _) (stEl (hA _) (ldEl (Blk.put (hA _).lt _ _) (fin _ (Old.new _ _ _) _ _ _ _ _ _ _ ?_)))
        exact plain (Or.inl hT0)
      rw [if_pos (by simp <;> omega)]
      cases s2 with
      | false =>
        rw [if_pos (by simp)]
        simp only [M_spec_readElement.res, withH_eq, ptrE_some, add_mk, Nat.zero_add, Nat.add_zero]
        refine ldEl (Blk.new _ _ _) (stEl (hA _) (ldEl (Blk.put (hA _).lt _ _) (fin _ (Old.new _ _ _) _ _ _ _ _ _ _ ?_)))
        exact plain (Or.inr rfl)
      | true =>
      rw [if_neg (by simp)]
      obtain rfl : T = 0 := by omega
      simp only [SS, M_spec_readElement.k8, M_spec_readElement.k9, M_spec_readElement.k10, M_spec_readElement.r12, M_spec_readElement.r13, M_spec_readElement.r14, M_spec_readElement.r15, withH_eq, ptrE_some, add_mk, Nat.zero_add, Nat.add_zero]
      refine st1_blk (Blk.new _ _ _) (by simp) ?_
      simp only [hput_new, List.set_cons_succ, List.set_cons_zero]
      simp (disch := omega) only [fdiv_nat, w_i64, w_u64, w_i32, w_u32, w_u16, w_u8, w_i16, Nat.reducePow, i64_and7]
      have hz : ¬ (0 < v / 32 * 256 + low ∨ true = false) := by simp; omega
      by_cases h4 : v / 4 % 8 ≤ 4
      · rw [if_pos (by simp <;> omega)]
        have hr : readEl l i true = some ⟨false, 0, 0, v / 4 % 8 + 4, true, i + 2⟩ := by unfold readEl; simp only [hev, c1, hlow, hz, h4, if_true]; simp
        simp only [M_spec_readElement.res, withH_eq, ptrE_some, add_mk, Nat.zero_add, Nat.add_zero]
        refine ldEl (Blk.new _ _ _) (stEl (hA _) (ldEl (Blk.put (hA _).lt _ _) (fin _ (Old.new _ _ _) _ _ _ _ _ _ _ ?_)))
        intro h' ho
        have := hK h' ho
        rw [hr] at this
        simp only [ElK] at this
        exact_mod_cast this
      rw [if_neg (by simp <;> omega)]
      simp only [SS, M_spec_readElement.k11, M_spec_readElement.k12, M_spec_readElement.k13, M_spec_readElement.k14, M_spec_readElement.r16, M_spec_readElement.r17, M_spec_readElement.r18, M_spec_readElement.r19, M_spec_readElement.r20, M_spec_readElement.r21, withH_eq, ptrE_some, add_mk, Nat.zero_add, Nat.add_zero]
      refine ⟨_, (Blk.new _ _ _).get rfl, ?_⟩
      refine little (hs1.ext (Old.new h1 _ 113).ext) hb hl (i := i + 2) (n := v / 4 % 8 - 4) (by omega) (by omega) (by omega) (by omega) fun r0 hr0 => ?_
      cases hmore : leAt l (i + 2) (v / 4 % 8 - 4) with
      | none =>
        have hr : readEl l i true = none := by unfold readEl; simp only [hev, c1, hlow, hz, h4, hmore]; simp
        rw [hmore, leI_none] at hr0; subst hr0
        rw [if_pos (by simp)]
        simp only [M_spec_readElement.res, withH_eq, ptrE_some, add_mk, Nat.zero_add, Nat.add_zero]
        exact stEl (hA _) (ldEl (Blk.put (hA _).lt _ _) (fin _ (Old.new _ _ _) _ _ _ _ _ _ _ (fun h' ho => fin0 hr _ _ _ _ _ _ _ ho)))
      | some more =>
        have hr : readEl l i true = some ⟨false, 0, 0, more + moreBase (v / 4 % 8), true, i + 2 + (v / 4 % 8 - 4)⟩ := by unfold readEl; simp only [hev, c1, hlow, hz, h4, hmore]; simp
        have hmo : more < 2 ^ 32 := by
          unfold leAt at hmore
          split at hmore
          · obtain rfl := Option.some.inj hmore
            exact leN_len hb _ _ (by omega)
          · cases hmore
        have hle3 := leAt_le hmore
        rw [hmore, leI_some] at hr0; subst hr0
        rw [if_neg (by simp <;> omega)]
        have hB3 := Blk.new h1 [.bool false, .int .i64 0, .int .i64 (0 : Nat), .int .i64 (((v / 4 % 8 : Nat) : Int) + 4), .bool true, .int .i64 ((i : Int) + 2)] 113
        have o3 := Old.new h1 [.bool false, .int .i64 0, .int .i64 (0 : Nat), .int .i64 (((v / 4 % 8 : Nat) : Int) + 4), .bool true, .int .i64 ((i : Int) + 2)] 113
        generalize hnew h1 [.bool false, .int .i64 0, .int .i64 (0 : Nat), .int .i64 (((v / 4 % 8 : Nat) : Int) + 4), .bool true, .int .i64 ((i : Int) + 2)] 113 = h3 at *
        refine ⟨by omega, by omega, (moreBase (v / 4 % 8) : Nat), (Blk.new h3 _ _).get ?_, ?_⟩
        · have : v / 4 % 8 = 5 ∨ v / 4 % 8 = 6 ∨ v / 4 % 8 = 7 := by omega
          rcases this with h | h | h <;> rw [h] <;> rfl
        have hmb : moreBase (v / 4 % 8) ≤ 65540 := by unfold moreBase; split <;> (try split) <;> omega
        have o4 := Old.new h3 [Value.int IntKind.i64 0, Value.int IntKind.i64 8, Value.int IntKind.i64 260, Value.int IntKind.i64 65540] 3
        have hB4 := o4.Blk hB3
        generalize hnew h3 [Value.int IntKind.i64 0, Value.int IntKind.i64 8, Value.int IntKind.i64 260, Value.int IntKind.i64 65540] 3 = h4 at *
        simp (disch := omega) only [w_i64, w_u64, w_i32, w_u32, w_u16, w_u8, w_i16, Nat.reducePow]
        refine st1_blk hB4 (by simp) ?_
        simp only [List.set_cons_succ, List.set_cons_zero]
        have hB5 := Blk.put hB4.lt [.bool false, .int .i64 0, .int .i64 (0 : Nat), .int .i64 ((more : Int) + (moreBase (v / 4 % 8) : Nat)), .bool true, .int .i64 ((i : Int) + 2)] 113
        have o5 : Old h1 (hput h4 h1.size [.bool false, .int .i64 0, .int .i64 (0 : Nat), .int .i64 ((more : Int) + (moreBase (v / 4 % 8) : Nat)), .bool true, .int .i64 ((i : Int) + 2)] 113) :=
          Keep.old (((Keep.of_old o3).trans (Keep.of_old o4)).trans (Keep.of_fr Fr.put (Nat.le_refl _)))
        generalize hput h4 h1.size [.bool false, .int .i64 0, .int .i64 (0 : Nat), .int .i64 ((more : Int) + (moreBase (v / 4 % 8) : Nat)), .bool true, .int .i64 ((i : Int) + 2)] 113 = h5 at *
        refine ⟨_, hB5.get rfl, ?_⟩
        refine st1_blk hB5 (by simp) ?_
        simp only [List.set_cons_succ, List.set_cons_zero]
        simp (disch := omega) only [w_i64, w_u64, w_i32, w_u32, w_u16, w_u8, w_i16, Nat.reducePow]
        have hB6 := Blk.put hB5.lt (elC false 0 (0 : Nat) ((more : Int) + (moreBase (v / 4 % 8) : Nat)) true ((i : Int) + 2 + (((v / 4 % 8 : Nat) : Int) - 4))) 113
        have o6 : Old h1 (hput h5 h1.size (elC false 0 (0 : Nat) ((more : Int) + (moreBase (v / 4 % 8) : Nat)) true ((i : Int) + 2 + (((v / 4 % 8 : Nat) : Int) - 4))) 113) :=
          Keep.old ((Keep.of_old o5).trans (Keep.of_fr Fr.put (Nat.le_refl _)))
        generalize hput h5 h1.size (elC false 0 (0 : Nat) ((more : Int) + (moreBase (v / 4 % 8) : Nat)) true ((i : Int) + 2 + (((v / 4 % 8 : Nat) : Int) - 4))) 113 = h6 at *
        simp only [M_spec_readElement.res, withH_eq, ptrE_some, add_mk, Nat.zero_add, Nat.add_zero]
        refine ldEl hB6 (stEl (o6.Blk hB) (ldEl (Blk.put (o6.Blk hB).lt _ _) (fin _ o6 _ _ _ _ _ _ _ ?_)))
        intro h' ho
        have := hK h' ho
        rw [hr] at this
        simp only [ElK] at this
        have e1 : ((i : Int) + 2 + (((v / 4 % 8 : Nat) : Int) - 4)) = ((i + 2 + (v / 4 % 8 - 4) : Nat) : Int) := by omega
        rw [e1]
        exact_mod_cast this
  · rw [if_neg (by simp <;> omega)]
    have cend : ∀ (n x : Nat), readEl l i s2 = copyEl (leAt l (i + 1) n) (v / 4 + 1) x →
        ∀ (h' : Heap), Old h h' → K false 0 (leI (leAt l (i + 1) n)) (((v / 4 : Nat) : Int) + 1) false (x : Int) (decide (leI (leAt l (i + 1) n) ≥ 0)) h' := by
      intro n x hr h' ho
      cases hle : leAt l (i + 1) n with
      | none =>
        rw [hle] at hr
        exact fin0 hr _ _ _ _ _ _ _ ho
      | some o =>
        rw [hle] at hr
        have := hK h' ho
        rw [hr] at this
        simp only [ElK] at this
        rw [leI_some, decide_eq_true (by omega)]
        exact_mod_cast this
    by_cases c2 : v % 4 = 2
    · simp only [SS, M_spec_readElement.k15, M_spec_readElement.k16, M_spec_readElement.r22, M_spec_readElement.r23, M_spec_readElement.r24, withH_eq, ptrE_some, add_mk, Nat.zero_add, Nat.add_zero, zEl]
      rw [if_pos (by simp [c2])]
      refine little hs1 hb hl (i := i + 1) (n := 2) (by rw [w_i64 (by omega) (by omega)]; omega) (by omega) (by omega) (by omega) fun r0 hr0 => ?_
      subst hr0
      simp (disch := omega) only [fdiv_nat, w_i64, w_u64, w_i32, w_u32, w_u16, w_u8, w_i16, Nat.reducePow]
      refine stEl (Blk.new _ _ _) ?_
      rw [hput_new]
      simp only [M_spec_readElement.res, withH_eq, ptrE_some, add_mk, Nat.zero_add, Nat.add_zero]
      have hr : readEl l i s2 = copyEl (leAt l (i + 1) 2) (v / 4 + 1) (i + 3) := by
        unfold readEl; simp only [hev, c2]; simp
      have ce := cend 2 (i + 3) hr
      push_cast at ce
      refine ldEl (Blk.new _ _ _) ⟨⟨_, (Blk.new _ _ _).get rfl, ?_⟩, ?_⟩
      all_goals refine stEl (hA _) ?_
      · exact ldEl (Blk.put (hA _).lt _ _) (fin _ (Old.new _ _ _) _ _ _ _ _ _ _ ce)
      · exact ⟨_, ((Blk.new _ _ _).put_ne (by omega)).get rfl, ldEl (Blk.put (hA _).lt _ _) (fin _ (Old.new _ _ _) _ _ _ _ _ _ _ ce)⟩
    · simp only [SS, M_spec_readElement.k15, M_spec_readElement.k17, M_spec_readElement.r22, M_spec_readElement.r25, M_spec_readElement.r26, withH_eq, ptrE_some, add_mk, Nat.zero_add, Nat.add_zero, zEl]
      rw [if_neg (by simp <;> omega)]
      refine little hs1 hb hl (i := i + 1) (n := 4) (by rw [w_i64 (by omega) (by omega)]; omega) (by omega) (by omega) (by omega) fun r0 hr0 => ?_
      subst hr0
      simp (disch := omega) only [fdiv_nat, w_i64, w_u64, w_i32, w_u32, w_u16, w_u8, w_i16, Nat.reducePow]
      refine stEl (Blk.new _ _ _) ?_
      rw [hput_new]
      simp only [M_spec_readElement.res, withH_eq, ptrE_some, add_mk, Nat.zero_add, Nat.add_zero]
      have hr : readEl l i s2 = copyEl (leAt l (i + 1) 4) (v / 4 + 1) (i + 5) := by
        unfold readEl; simp only [hev, c2, c1, c0, if_false]
      have ce := cend 4 (i + 5) hr
      push_cast at ce
      refine ldEl (Blk.new _ _ _) ⟨⟨_, (Blk.new _ _ _).get rfl, ?_⟩, ?_⟩
      all_goals refine stEl (hA _) ?_
      · exact ldEl (Blk.put (hA _).lt _ _) (fin _ (Old.new _ _ _) _ _ _ _ _ _ _ ce)
      · exact ⟨_, ((Blk.new _ _ _).put_ne (by omega)).get rfl, ldEl (Blk.put (hA _).lt _ _) (fin _ (Old.new _ _ _) _ _ _ _ _ _ _ ce)⟩
end Go.Proofs.YtibleenkgmkpmaaDoor

set_option linter.unusedSimpArgs false
set_option linter.unusedVariables false
set_option linter.unusedSectionVars false
namespace Go.Proofs.YtibleenkgmkpmaaDoor
open Go Go.Vc Go.Ml Go.S2

theorem ts5 : typeSize Pg 5 = 1 := by kernel_rfl
theorem tb5 : typeBytes Pg 5 ≤ 8 := by rw [show typeBytes Pg 5 = 1 by kernel_rfl]; decide
theorem z5 : (zcells Pg 5).length = 1 := by rw [show zcells Pg 5 = [.int .u8 0] by kernel_rfl]; rfl

/-- The slices' blocks: the old one, or a new one. -/
def Follows (h : Heap) (p p' : Option Addr) : Prop := ∀ b, p' = some ⟨b, 0, none⟩ → p = some ⟨b, 0, none⟩ ∨ h.size ≤ b

/-- A copy within what was made; 'false' where it reaches back too far. -/
theorem copied {B sb o : Nat} {e : TypeId} {cs : List Value} {p : Option Addr} {n c : Nat} {out : List Int} {h : Heap} (H : Blk h sb cs e) (h0 : cs[o]? = some (.slice p n c)) (h1 : cs[o + 1]? = some (.slice none 0 0))
    (hO : Own B h .u8 5 ⟨p, n, c⟩ out) (hne : ∀ b, p = some ⟨b, 0, none⟩ → b ≠ sb) (hB : B ≤ h.size) {off len : Nat} {a b : Int} (ha : a = off) (hb : b = len) (hlen : out.length + len < 2 ^ 39) (hoff : off < 2 ^ 40) {K : Bool → Heap → Prop}
    (hbad : off = 0 ∨ out.length < off → K false h)
    (hok : 0 < off → off ≤ out.length → ∀ p' n' c' h', Own B h' .u8 5 ⟨p', n', c'⟩ (fwd out off len) → Blk h' sb (cs.set o (.slice p' n' c')) e → Fr (fun b => b = sb ∨ p = some ⟨b, 0, none⟩) h h' → Follows h p p' → K true h') :
    c_state_copied (some ⟨sb, o, none⟩) a b h K := by
  subst ha hb
  have hnl : out.length = n := hO.len
  apply M_state_copied.calls
  simp only [SS, M_state_copied.stm, M_state_copied.k0, M_state_copied.k1, M_state_copied.init, M_state_copied.res, M_state_copied.r0, M_state_copied.r1, M_state_copied.r2, M_state_copied.r3, withH_eq, ptrE_some, add_mk, Nat.zero_add, Nat.add_zero]
  by_cases hz : off = 0
  · rw [if_pos (by simp [hz])]
    exact hbad (Or.inl hz)
  rw [if_neg (by simp [hz])]
  refine ⟨p, n, c, H.get h0, ?_⟩
  rw [w_i64 (by omega) (by omega)]
  by_cases hr : off ≤ out.length
  case neg =>
    simp only [SS, M_state_copied.k2, M_state_copied.k7, M_state_copied.k8, M_state_copied.res, M_state_copied.r4, M_state_copied.r10, M_state_copied.r11, M_state_copied.r12, withH_eq, ptrE_some, add_mk, Nat.zero_add, Nat.add_zero]
    rw [if_neg (by simp <;> omega)]
    refine ⟨none, 0, 0, H.get h1, ?_⟩
    rw [w_i64 (by omega) (by omega), if_pos (by simp <;> omega)]
    exact hbad (Or.inr (by omega))
  simp only [SS, M_state_copied.k2, M_state_copied.k3, M_state_copied.k4, M_state_copied.r4, M_state_copied.r5, M_state_copied.r9, withH_eq, ptrE_some, add_mk, Nat.zero_add, Nat.add_zero]
  rw [if_pos (by simp <;> omega)]
  refine loop_rule (I := fun s' h' => s'.x_s = some ⟨sb, o, none⟩ ∧ s'.x_offset = off ∧ s'.x_length = len ∧ s'.x_from = (n : Int) - off ∧ ∃ i : Nat, s'.x_i = i ∧ i ≤ len ∧
    ∃ p' n' c', Blk h' sb (cs.set o (.slice p' n' c')) e ∧ Own B h' .u8 5 ⟨p', n', c'⟩ (fwd out off i) ∧ Fr (fun b => b = sb ∨ p = some ⟨b, 0, none⟩) h h' ∧ Follows h p p') (μ := fun s' _ => (len - s'.x_i).toNat) ?_ ?_
  · refine ⟨rfl, rfl, rfl, rfl, 0, rfl, by omega, p, n, c, ?_, hO, Fr.refl _ _, fun b hb => Or.inl hb⟩
    have : cs.set o (.slice p n c) = cs := by
      apply List.ext_getElem?
      intro i
      rw [List.getElem?_set]
      split
      · rename_i hi; subst hi
        split
        · exact h0.symm
        · rename_i hl; rw [List.getElem?_eq_none (by omega)]
      · rfl
    rw [this]; exact H
  · rintro s' h' ⟨e1, e2, e3, e4, i, e5, hi, p', n', c', HB, HO, HF, HW⟩
    have hn' : n' = out.length + i := by have := HO.len; rw [fwd_len] at this; exact this.symm
    have ho : o < cs.length := by
      rcases Nat.lt_or_ge o cs.length with h | h
      · exact h
      · rw [List.getElem?_eq_none h] at h0; cases h0
    have hset : (cs.set o (.slice p' n' c'))[o]? = some (.slice p' n' c') := by rw [List.getElem?_set, if_pos rfl, if_pos ho]
    simp only [SS, M_state_copied.k5, M_state_copied.k6, M_state_copied.r6, M_state_copied.r8, M_state_copied.r7, withH_eq, ptrE_some, add_mk, Nat.zero_add, Nat.add_zero, e1, e2, e3, e4, e5]
    by_cases hc : (i : Int) < len
    · rw [if_pos (by simpa using hc)]
      refine ⟨p', n', c', HB.get hset, p', n', c', HB.get hset, ?_⟩
      simp (disch := omega) only [w_i64, w_u64, w_i32, w_u32, w_u16, w_u8, w_i16, Nat.reducePow]
      have hsl : SlI h' .u8 ⟨p', n', c'⟩ (fwd out off i) := HO.sl
      refine hsl.ld (by omega) (by simp only; omega) ?_
      have ev : ((n : Int) - off + i).toNat = out.length + i - off := by omega
      rw [ev]
      have O1 := Old.new h' [.int .u8 ((fwd out off i).getD (out.length + i - off) 0)] 5
      have S1 := sl_new h' .u8 [(fwd out off i).getD (out.length + i - off) 0] 5
      have hsz : h'.size ≥ h.size := HF.size
      have hsz2 := hB
      refine append_own (s := ⟨p', n', c'⟩) (news := [(fwd out off i).getD (out.length + i - off) 0]) (HO.old O1) ts5 tb5 z5 rfl ?_ (by simp only; omega) (by simp; omega) fun p2 c2 h2 HO2 HF2 HW2 => ?_
      · exact src_sl S1 (m := 1) (by simp)
      have hsb : sb < h.size := H.lt
      have hne' : ∀ b, p' = some ⟨b, 0, none⟩ → b ≠ sb := by
        intro b hb
        rcases HW b hb with h | h
        · exact hne b h
        · omega
      have HB2 : Blk h2 sb (cs.set o (.slice p' n' c')) e := HF2.Blk (O1.Blk HB) (fun hp => hne' sb hp rfl)
      refine st1_blk HB2 (by simp [ho]) ?_
      rw [List.set_set]
      refine ⟨⟨by first | rfl | trivial | exact e1, by first | rfl | trivial | exact e2, by first | rfl | trivial | exact e3, by first | rfl | trivial | exact e4, i + 1, ?_, by omega, p2, n' + 1, c2, Blk.put HB2.lt _ _, ?_, ?_, ?_⟩, ?_⟩
      · omega
      · refine Own.put HO2 ?_
        intro b hb
        rcases HW2 b hb with h | h
        · exact hne' b h
        · simp at h; omega
      · refine HF.trans' (((Fr.of_old (S := fun b => p' = some ⟨b, 0, none⟩) O1).trans HF2).trans' (Fr.put (b := sb)) (U := fun b => b = sb ∨ p' = some ⟨b, 0, none⟩) (fun x _ hx => Or.inr hx) (fun x _ hx => Or.inl hx)) (fun x _ hx => hx) ?_
        intro x hx hh
        rcases hh with hh | hh
        · exact Or.inl hh
        · rcases HW x hh with h | h
          · exact Or.inr h
          · omega
      · intro b hb
        rcases HW2 b hb with h | h
        · exact HW b h
        · simp at h; exact Or.inr (by omega)
      · omega
    · rw [if_neg (by simpa using hc)]
      obtain rfl : i = len := by omega
      simp only [SS, M_state_copied.r0, M_state_copied.r1, M_state_copied.r2, M_state_copied.r3, M_state_copied.r4, M_state_copied.r5, M_state_copied.r6, M_state_copied.r7, M_state_copied.r8, M_state_copied.r9, M_state_copied.r10, M_state_copied.r11, M_state_copied.r12, M_state_copied.r13, M_state_copied.r14, M_state_copied.r15, M_state_copied.r16, M_state_copied.r17, M_state_copied.init, M_state_copied.res]
      exact hok (by omega) hr p' n' c' h' HO HB HF HW
end Go.Proofs.YtibleenkgmkpmaaDoor

set_option linter.unusedSimpArgs false
set_option linter.unusedVariables false
set_option linter.unusedSectionVars false
namespace Go.Proofs.YtibleenkgmkpmaaDoor
open Go Go.Vc Go.Ml Go.S2

/-- A block that is being decoded, in memory: what was made, no dictionary, the last offset, nothing left open. -/
structure Sta (B : Nat) (h : Heap) (sb o : Nat) (e : TypeId) (rest : Nat → Option Value) (out : List Int) (last : Nat) : Prop where
  ge : B ≤ sb
  ex : ∃ cs p n c, Blk h sb cs e ∧ cs[o]? = some (.slice p n c) ∧ cs[o + 1]? = some (.slice none 0 0) ∧ cs[o + 2]? = some (.int .i64 last) ∧ cs[o + 3]? = some (.bool false) ∧
    (∀ j, j ≠ o → j ≠ o + 2 → cs[j]? = rest j) ∧ Own B h .u8 5 ⟨p, n, c⟩ out ∧ ∀ b, p = some ⟨b, 0, none⟩ → b ≠ sb

theorem Sta.old {B : Nat} {h h' : Heap} {sb o : Nat} {e : TypeId} {rest : Nat → Option Value} {out : List Int} {last : Nat} (H : Sta B h sb o e rest out last) (ho : Old h h') : Sta B h' sb o e rest out last := by
  obtain ⟨hg, cs, p, n, c, hb, h0, h1, h2, h3, hr, hO, hn⟩ := H
  exact ⟨hg, cs, p, n, c, ho.Blk hb, h0, h1, h2, h3, hr, hO.old ho, hn⟩

theorem br {h2 : Heap} {x sb i : Nat} {e e' : TypeId} {ce cs : List Value} {b : Bool} {v2 last : Int} {P : Heap → Prop} (hE : Blk h2 x ce e') (h2v : ce[2]? = some (.int .i64 v2)) (H : Blk h2 sb cs e) (hi : i < cs.length) (hl : cs[i]? = some (.int .i64 last))
    (hP : ∀ hx csx, Blk hx sb csx e → csx[i]? = some (.int .i64 (if b then last else v2)) → (∀ j, j ≠ i → csx[j]? = cs[j]?) → Fr (· = sb) h2 hx → P hx) :
    if (!b) = true then ∃ v2 : Int, hcell h2 ⟨x, 2, none⟩ = some (.int .i64 v2) ∧ st1 ⟨sb, i, none⟩ (.int .i64 v2) h2 fun h4 => P h4 else P h2 := by
  cases b with
  | true =>
    rw [if_neg (by simp)]
    exact hP h2 cs H hl (fun _ _ => rfl) (Fr.refl _ _)
  | false =>
    rw [if_pos (by simp)]
    refine ⟨v2, hE.get h2v, st1_blk H hi ?_⟩
    refine hP _ _ (Blk.put H.lt _ _) ?_ ?_ Fr.put
    · rw [List.getElem?_set, if_pos rfl, if_pos hi]; rfl
    · intro j hj
      rw [List.getElem?_set, if_neg (by omega)]

section
variable {B sb o : Nat} {e : TypeId} {rest : Nat → Option Value} {S : Sl} {l : List Int} {s2 : Bool} {N : Nat} {h0 : Heap} {R : Option (List Int)} {K : Int → Heap → Prop}

theorem elements {i : Nat} {out : List Int} {last : Nat} {a nn : Int} (hs : SlI h0 .u8 S l) (hsB : ∀ a, 0 < S.n → S.p = some a → a.block < B) (hb : Byt l) (hl : l.length < 2 ^ 36) (hN : N < 2 ^ 36) (hB : B ≤ h0.size)
    (H : Sta B h0 sb o e rest out last) (hout : out.length ≤ N) (hi : i ≤ l.length) (ha : a = i) (hnn : nn = N) (hlast : last < 2 ^ 36)
    (hbad : dec l s2 N i out last = none → ∀ h', Keep B h0 h' → K 0 h')
    (hok : ∀ res, dec l s2 N i out last = some res → ∀ h' last', Sta B h' sb o e rest res last' → Keep B h0 h' → K 1 h') :
    c_state_elements (some ⟨sb, o, none⟩) S a nn s2 h0 K := by
  subst ha hnn
  generalize hR : dec l s2 N i out last = R at hbad hok
  have hsl := hs.len
  apply M_state_elements.calls
  simp only [SS, M_state_elements.stm, M_state_elements.k0, M_state_elements.init, M_state_elements.r0, withH_eq, ptrE_some, add_mk, Nat.zero_add, Nat.add_zero]
  refine loop_rule (I := fun s' h' => s'.x_s = some ⟨sb, o, none⟩ ∧ s'.x_src = S ∧ s'.x_n = N ∧ s'.x_s2 = s2 ∧ ∃ (i : Nat) (out : List Int) (last : Nat), s'.x_at = i ∧ i ≤ l.length ∧ out.length ≤ N ∧ last < 2 ^ 36 ∧ Sta B h' sb o e rest out last ∧ Keep B h0 h' ∧ dec l s2 N i out last = R)
    (μ := fun s' _ => (l.length - s'.x_at).toNat) ?_ ?_
  · exact ⟨rfl, rfl, rfl, rfl, i, out, last, rfl, hi, hout, hlast, H, Keep.refl _ _, hR⟩
  · clear hR hi hout hlast H i out last
    rintro s' h ⟨e1, e2, e3, e4, i, out, last, e5, hi, hout, hlast, H, hK, hR⟩
    have hsz := hK.size
    have hsh : SlI h .u8 S l := hs.keepB hsB hK
    simp only [SS, M_state_elements.k1, M_state_elements.k2, M_state_elements.r1, M_state_elements.r2, withH_eq, ptrE_some, add_mk, Nat.zero_add, Nat.add_zero, e1, e2, e3, e4, e5]
    by_cases hc : (i : Int) < S.n
    case neg =>
      rw [if_neg (by simpa using hc)]
      simp only [SS, M_state_elements.k9, M_state_elements.res, M_state_elements.r14, M_state_elements.r15, M_state_elements.r16, withH_eq, ptrE_some, add_mk, Nat.zero_add, Nat.add_zero, e1, e3]
      obtain ⟨hg, cs, p, n, c, hbk, c0, c1, c2, c3, hr, hO, hn⟩ := H
      have hlen : out.length = n := hO.len
      rw [dec_stop (by omega)] at hR
      refine ⟨p, n, c, hbk.get c0, ?_⟩
      by_cases hnn : out.length = N
      · rw [if_pos hnn] at hR
        rw [if_neg (by simp <;> omega)]
        exact hok out hR.symm h last ⟨hg, cs, p, n, c, hbk, c0, c1, c2, c3, hr, hO, hn⟩ hK
      · rw [if_neg hnn] at hR
        rw [if_pos (by simp <;> omega)]
        exact hbad hR.symm h hK
    rw [if_pos (by simpa using hc)]
    refine readElement hsh hb (by omega) rfl (by omega) fun h1 o1 => ?_
    have bad : stepE l s2 N i out last = none → ∀ h', Keep B h0 h' → K 0 h' := fun hst h' hk => hbad (by rw [← hR]; exact dec_bad (by omega) hst) h' hk
    have hzz : (elC false 0 0 0 false 0) = zcells Pg 113 := zEl.symm
    cases hre : readEl l i s2 with
    | none =>
      intro b f o' n' r x
      rw [← hzz]
      refine stEl (Blk.new _ _ _) ?_
      rw [hput_new]
      simp only [SS, M_state_elements.k3, M_state_elements.res, M_state_elements.r3, M_state_elements.r4, withH_eq, ptrE_some, add_mk, Nat.zero_add, Nat.add_zero, e1, e3]
      rw [if_neg (by simp)]
      simp only [if_true]
      exact bad (by unfold stepE; simp only [hre]) _ (hK.trans ((Keep.of_old o1).trans (Keep.of_old (Old.new _ _ _))))
    | some el =>
      have hsm := readEl_small hb.mem (by have := hb i; omega) hre
      have hsrc := readEl_src hre
      simp only [ElK]
      rw [← hzz]
      refine stEl (Blk.new _ _ _) ?_
      rw [hput_new]
      simp only [SS, M_state_elements.k3, M_state_elements.k4, M_state_elements.res, M_state_elements.r3, M_state_elements.r4, M_state_elements.r5, withH_eq, ptrE_some, add_mk, Nat.zero_add, Nat.add_zero, e1, e3]
      rw [if_pos (by simp)]
      have o2 := o1.trans (Old.new h1 (elC el.lit el.src el.off el.len el.rep el.next) 113)
      have hE := Blk.new h1 (elC el.lit el.src el.off el.len el.rep el.next) 113
      have hEB : B ≤ h1.size := by have := o1.size; omega
      have hEh : h.size ≤ h1.size := o1.size
      generalize hnew h1 (elC el.lit el.src el.off el.len el.rep el.next) 113 = h2 at *
      have H2 := H.old o2
      have hK2 := hK.trans (Keep.of_old o2)
      have hsz2 := hK2.size
      obtain ⟨hg, cs, p, n, c, hbk, c0, c1, c2, c3, hr, hO, hn⟩ := H2
      have hlen : out.length = n := hO.len
      have hol : ∀ {j : Nat} {v : Value}, cs[j]? = some v → j < cs.length := by
        intro j v hj
        rcases Nat.lt_or_ge j cs.length with h | h
        · exact h
        · rw [List.getElem?_eq_none h] at hj; cases hj
      have ho := hol c0
      have ho2 := hol c2
      have hne2 : h1.size ≠ sb := by
        obtain ⟨_, cs', _, _, _, hbk', _⟩ := H
        have := hbk'.lt
        omega
      refine ⟨p, n, c, hbk.get c0, el.len, hE.get rfl, ?_⟩
      rw [w_i64 (by omega) (by omega)]
      by_cases hbig : N < out.length + el.len
      · rw [if_pos (by simp <;> omega)]
        exact bad (by unfold stepE; simp only [hre, hbig, if_true]) _ hK2
      rw [if_neg (by simp <;> omega)]
      refine ⟨el.next, hE.get rfl, ?_⟩
      simp only [SS, M_state_elements.k5, M_state_elements.r6, M_state_elements.r7, withH_eq, ptrE_some, add_mk, Nat.zero_add, Nat.add_zero, e1, e3]
      refine ⟨el.lit, hE.get rfl, ?_⟩
      have hne : ∀ b, p = some ⟨b, 0, none⟩ → b ≠ sb := hn
      cases hlit : el.lit with
      | true =>
        rw [if_pos rfl]
        have hst : stepE l s2 N i out last = some (el.next, out ++ (l.drop el.src).take el.len, last) := by unfold stepE; simp only [hre, hbig, hlit, if_true, if_false]
        have hsub := hsrc.1 hlit
        refine ⟨p, n, c, hbk.get c0, el.src, hE.get (by rw [hlit]; rfl), el.src, hE.get (by rw [hlit]; rfl), el.len, hE.get (by rw [hlit]; rfl), ?_⟩
        simp (disch := omega) only [w_i64, w_u64, w_i32, w_u32, w_u16, w_u8, w_i16, Nat.reducePow, e2]
        have hS2 : SlI h2 .u8 S l := hs.keepB hsB hK2
        have hcap := hS2.2.1
        refine ⟨by omega, by omega, by omega, by omega, ?_⟩
        have e6 : ((el.src : Int) + el.len).toNat - ((el.src : Int)).toNat = el.len := by omega
        rw [e6, Int.toNat_natCast]
        have hsub2 := hS2.sub (lo := el.src) (hi := el.src + el.len) (by omega) (by omega)
        rw [List.drop_take, show el.src + el.len - el.src = el.len by omega] at hsub2
        have htl : ((l.drop el.src).take el.len).length = el.len := by simp; omega
        refine append_own (s := ⟨p, n, c⟩) (news := (l.drop el.src).take el.len) hO ts5 tb5 z5 htl ?_ (by simp only; omega) (by omega) fun p2 cc h3 HO2 HF2 HW2 => ?_
        · have := src_sl hsub2 (m := el.len) (by simp only; omega) (n := el.len) (c := S.c - el.src)
          rwa [List.take_take, Nat.min_self] at this
        have HB2 : Blk h3 sb cs e := HF2.Blk hbk (fun hp => hn sb hp rfl)
        have hsb := hbk.lt
        have hstn := stepE_next hst
        refine st1_blk HB2 ho ⟨⟨trivial, trivial, trivial, trivial, el.next, _, last, rfl, hstn.2.1, hstn.2.2, hlast, ⟨hg, cs.set o (.slice p2 (n + el.len) cc), p2, n + el.len, cc, Blk.put HB2.lt _ _, ?_, ?_, ?_, ?_, ?_, Own.put HO2 ?_, ?_⟩, ?_, ?_⟩, by omega⟩
        · rw [List.getElem?_set, if_pos rfl, if_pos ho]
        · rw [List.getElem?_set, if_neg (by omega)]; exact c1
        · rw [List.getElem?_set, if_neg (by omega)]; exact c2
        · rw [List.getElem?_set, if_neg (by omega)]; exact c3
        · intro j h1 h2; rw [List.getElem?_set, if_neg (by omega)]; exact hr j h1 h2
        · intro b hb; rcases HW2 b hb with h | h
          · exact hn b h
          · omega
        · intro b hb; rcases HW2 b hb with h | h
          · exact hn b h
          · omega
        · exact (hK2.trans (hO.keep HF2)).put hg
        · rw [← hR]; exact (dec_go (by omega) hst).symm
      | false =>
        rw [if_neg (by simp)]
        simp only [SS, M_state_elements.k6, M_state_elements.r8, M_state_elements.r9, withH_eq, ptrE_some, add_mk, Nat.zero_add, Nat.add_zero, e1, e3]
        refine ⟨el.rep, hE.get rfl, ?_⟩
        refine br (P := fun hx => M_state_elements.k7 _ hx _) hE rfl hbk ho2 c2 ?_
        intro hx csx hbx cx2 hcx hfx
        simp only [SS, M_state_elements.k7, M_state_elements.r10, withH_eq, ptrE_some, add_mk, Nat.zero_add, Nat.add_zero, e1, e3]
        have hKx := hK2.trans (Keep.of_fr hfx hg)
        have hEx : Blk hx h1.size (elC el.lit el.src el.off el.len el.rep el.next) 113 := hfx.Blk hE hne2
        have hOx : Own B hx .u8 5 ⟨p, n, c⟩ out := hO.fr hfx (fun b hb => hn b hb)
        have x0 : csx[o]? = some (.slice p n c) := by rw [hcx o (by omega)]; exact c0
        have x1 : csx[o + 1]? = some (.slice none 0 0) := by rw [hcx (o + 1) (by omega)]; exact c1
        have x3 : csx[o + 3]? = some (.bool false) := by rw [hcx (o + 3) (by omega)]; exact c3
        have hox : o < csx.length := by
          rcases Nat.lt_or_ge o csx.length with h | h
          · exact h
          · rw [List.getElem?_eq_none h] at x0; cases x0
        generalize hoff : (if el.rep = true then last else el.off) = off
        have hoff2 : off < 2 ^ 36 := by rw [← hoff]; split <;> omega
        have ecast : (if el.rep = true then (last : Int) else (el.off : Int)) = (off : Int) := by rw [← hoff]; split <;> rfl
        rw [ecast] at cx2
        have hszx := hfx.size
        refine ⟨off, hbx.get cx2, el.len, hEx.get rfl, ?_⟩
        refine copied hbx x0 x1 hOx hn (by omega) rfl rfl (by omega) (by omega) ?_ ?_
        · intro hbd
          have hst : stepE l s2 N i out last = none := by
            unfold stepE; simp only [hre, hbig, hlit, if_false, hoff, Bool.false_eq_true]
            rw [if_pos hbd]
          rw [if_pos (by simp)]
          simp only [SS, M_state_elements.k8, M_state_elements.res, M_state_elements.r11, M_state_elements.r12, M_state_elements.r13, withH_eq, ptrE_some, add_mk, Nat.zero_add, Nat.add_zero, e1, e3]
          refine ⟨false, hbx.get x3, ?_⟩
          rw [if_neg (by simp)]
          exact bad hst _ hKx
        · intro hp0 hp1 p' n' c' h3 HO3 HB3 HF3 HW3
          have hst : stepE l s2 N i out last = some (el.next, fwd out off el.len, off) := by
            unfold stepE; simp only [hre, hbig, hlit, if_false, hoff, Bool.false_eq_true]
            rw [if_neg (by omega)]
          have hstn := stepE_next hst
          rw [if_neg (by simp)]
          have hsbx := hbx.lt
          refine ⟨⟨trivial, trivial, trivial, trivial, el.next, fwd out off el.len, off, rfl, hstn.2.1, hstn.2.2, hoff2, ⟨hg, _, p', n', c', HB3, ?_, ?_, ?_, ?_, ?_, HO3, ?_⟩, ?_, ?_⟩, by omega⟩
          · rw [List.getElem?_set, if_pos rfl, if_pos hox]
          · rw [List.getElem?_set, if_neg (by omega)]; exact x1
          · rw [List.getElem?_set, if_neg (by omega)]; exact cx2
          · rw [List.getElem?_set, if_neg (by omega)]; exact x3
          · intro j h1 h2; rw [List.getElem?_set, if_neg (by omega), hcx j h2]; exact hr j h1 h2
          · intro b hb; rcases HW3 b hb with h | h
            · exact hn b h
            · omega
          · refine hKx.trans (HF3.mono fun x _ hx => ?_)
            rcases hx with h | h
            · show B ≤ x; omega
            · exact hOx.ge h
          · rw [← hR]; exact (dec_go (by omega) hst).symm
end
end Go.Proofs.YtibleenkgmkpmaaDoor

set_option linter.unusedSimpArgs false
set_option linter.unusedVariables false
set_option linter.unusedSectionVars false
namespace Go.Vc
theorem mk_one (z : Value) (n : Nat) : madeCells #[z] n = (List.replicate n z).toArray := by
  apply Array.toList_inj.1
  apply List.ext_getElem?
  intro j
  by_cases hj : j < n
  · simp [madeCells, hj, Nat.mod_one]
  · simp [madeCells, hj]
theorem mkT_one {P : Program} {e : TypeId} {z : Value} {n : Nat} {h : Heap} {K : Addr → Nat → Nat → Heap → Prop} (hn : n ≤ 2 ^ 40) (h1 : typeSize P e = 1) (hb : typeBytes P e ≤ 8) (hz : zcells P e = [z])
    (hK : K ⟨h.size, 0, none⟩ n n (hnew h (List.replicate n z) e)) : mkT P e n n h K := by
  have : typeBytes P e * n ≤ 8 * n := Nat.mul_le_mul_right _ hb
  refine ⟨by omega, by omega, by omega, by omega, ?_⟩
  · have e1 : mkH P e n h = hnew h (List.replicate n z) e := by
      unfold mkH hnew
      rw [h1, hz, Int.toNat_natCast, Nat.mul_one]
      have : madeCells [z].toArray n = (List.replicate n z).toArray := mk_one z n
      rw [this]
    rw [e1, Int.toNat_natCast]
    exact hK
theorem Own.empty {B : Nat} {h : Heap} (k : IntKind) (e : TypeId) (hB : B ≤ h.size) : Own B (hnew h [] e) k e ⟨some ⟨h.size, 0, none⟩, 0, 0⟩ [] :=
  ⟨rfl, Nat.le_refl _, Or.inr ⟨h.size, [], rfl, hB, Blk.new _ _ _, rfl, rfl⟩⟩
end Go.Vc
namespace Go.Vc
theorem or_i64 {x y : Nat} (hx : x < 2 ^ 63) (hy : y < 2 ^ 63) : bOr .i64 (x : Int) (y : Int) = ((x ||| y : Nat) : Int) := by
  unfold bOr
  have hB : IntKind.i64.bits = 64 := rfl
  rw [BitVec.toNat_or, ofInt_toNat (by rw [hB]; omega), ofInt_toNat (by rw [hB]; omega)]
  have : x ||| y < 2 ^ 63 := Nat.or_lt_two_pow hx hy
  exact w_i64 (by omega) (by omega)
end Go.Vc
namespace Go.Proofs.YtibleenkgmkpmaaDoor
open Go Go.Vc Go.Ml Go.S2
theorem w_u8_nat (n : Nat) : IntKind.wrap .u8 (n : Int) = ((n % 256 : Nat) : Int) := by
  show ((n : Int) % 256) = _
  omega

/-- append of one cell that was just laid. -/
theorem app1 {B : Nat} {h : Heap} {s : Sl} {l : List Int} {v : Int} {K : Option Addr → Nat → Nat → Heap → Prop} (H : Own B h .u8 5 s l) (hlen : s.n + 1 ≤ 2 ^ 40) (hB : B ≤ h.size)
    (hK : ∀ p' c' h', Own B h' .u8 5 ⟨p', s.n + 1, c'⟩ (l ++ [v]) → Keep B h h' → K p' (s.n + 1) c' h') :
    appendT Pg 5 s.p s.n s.c (.slice (some ⟨Array.size h, 0, none⟩) 1 1) 1 (hnew h [.int .u8 v] 5) K := by
  have O1 := Old.new h [.int .u8 v] 5
  have S1 := sl_new h .u8 [v] 5
  refine append_own (news := [v]) (H.old O1) ts5 tb5 z5 rfl (src_sl S1 (m := 1) (by simp)) hlen (by have := O1.size; omega) fun p' c' h' HO HF _ => ?_
  exact hK p' c' h' HO ((Keep.of_old O1).trans ((H.old O1).keep HF))

theorem lor_tag1 : ∀ a, a < 8 → ∀ b, b < 8 → ((a * 32 ||| b * 4) ||| 1) = a * 32 + b * 4 + 1 := by decide +kernel
theorem lor_tag2 : ∀ a, a < 64 → (a * 4 ||| 2) = a * 4 + 2 ∧ (a * 4 ||| 3) = a * 4 + 3 ∧ (a * 4 ||| 1) = a * 4 + 1 := by decide +kernel

section
variable {h : Heap}
theorem mkT_cap {P : Program} {e : TypeId} {z : Value} {n : Nat} {K : Addr → Nat → Nat → Heap → Prop} (hn : n ≤ 2 ^ 40) (h1 : typeSize P e = 1) (hb : typeBytes P e ≤ 8) (hz : zcells P e = [z])
    (hK : K ⟨h.size, 0, none⟩ 0 n (hnew h (List.replicate n z) e)) : mkT P e 0 n h K := by
  have := mkT_one (K := fun a _ c h => K a 0 c h) hn h1 hb hz hK
  obtain ⟨q1, q2, q3, q4, q5⟩ := this
  exact ⟨by omega, by omega, q3, q4, q5⟩

end
theorem ite2_neg {p q : Prop} [Decidable p] [Decidable q] {A A' B : Prop} (h : ¬ (p ∧ q)) : (if p then (if q then A else B) else (if false = true then A' else B)) = B := by
  by_cases hp : p
  · rw [if_pos hp, if_neg (fun hq => h ⟨hp, hq⟩)]
  · rw [if_neg hp, if_neg (by simp)]

end Go.Proofs.YtibleenkgmkpmaaDoor

set_option linter.unusedSimpArgs false
set_option linter.unusedVariables false
set_option linter.unusedSectionVars false
namespace Go.Proofs.YtibleenkgmkpmaaDoor
open Go Go.Vc Go.Ml Go.S2

section
variable {S : Sl} {l : List Int} {h : Heap}

theorem i64_shift {n b i : Nat} (hi : i < 9) (hn : n < 2 ^ 40) (hb : b ≤ 255) : IntKind.wrap .i64 ((n : Int) + IntKind.wrap .i64 (bAnd .i64 (b : Int) 127 * 2 ^ (7 * i))) = ((n + b % 128 * 2 ^ (7 * i) : Nat) : Int) := by
  have hp : 2 ^ (7 * i) ≤ 2 ^ 56 := Nat.pow_le_pow_right (by decide) (by omega)
  have hq : b % 128 * 2 ^ (7 * i) ≤ 127 * 2 ^ 56 := Nat.mul_le_mul (by omega) hp
  have e : ((b % 128 : Nat) : Int) * 2 ^ (7 * i) = ((b % 128 * 2 ^ (7 * i) : Nat) : Int) := by push_cast; rfl
  rw [Vc.i64_and127 (x := b) (by omega), e, w_i64 (x := ((b % 128 * 2 ^ (7 * i) : Nat) : Int)) (by omega) (by omega), w_i64 (by omega) (by omega)]
  exact (Int.natCast_add _ _).symm


theorem S2Len_k5 {st : M_spec_S2Len.St} {Q : Ex → M_spec_S2Len.St → Heap → Prop} {i n v : Nat} (e2 : st.x_i = i) (e3 : st.x_n = n) (e4 : st.x_b = v) (hi : i < 10)
    (hcont : 128 ≤ v → Q (.exit 1) st h)
    (hret : v < 128 → ∀ (st' : M_spec_S2Len.St) (a b c : Nat), st'.x_n = a → st'.x_used = b → st'.x_ok = c → (if 2 ^ 32 ≤ n then (0, 0, 0) else if 0 < i ∧ v = 0 ∨ 4 < i then (n, i + 1, 2) else (n, i + 1, 1)) = (a, b, c) → Q .ret st' h) : M_spec_S2Len.k5 st h Q := by
  simp only [SS, M_spec_S2Len.k5, M_spec_S2Len.k6, M_spec_S2Len.k7, M_spec_S2Len.r7, M_spec_S2Len.r8, M_spec_S2Len.r9, M_spec_S2Len.r12, M_spec_S2Len.r10, M_spec_S2Len.r11, e2, e3, e4]
  rcases Nat.lt_or_ge v 128 with hv | hv
  · rw [if_neg (by simp <;> omega)]
    have hret := hret hv
    by_cases h1 : 2 ^ 32 ≤ n
    · rw [if_pos (by simp <;> omega)]
      rw [if_pos h1] at hret
      exact hret _ 0 0 0 (by rfl) (by rfl) (by rfl) rfl
    rw [if_neg (by simp <;> omega)]
    rw [if_neg h1] at hret
    have w1 : IntKind.wrap .i64 ((i : Int) + 1) = ((i + 1 : Nat) : Int) := by rw [w_i64 (by omega) (by omega)]; omega
    by_cases h0 : 0 < i
    · rw [if_pos (by simp <;> omega)]
      by_cases hv0 : v = 0
      · rw [if_neg (by simp [hv0]), if_pos trivial]
        rw [if_pos (Or.inl ⟨h0, hv0⟩)] at hret
        exact hret _ n (i + 1) 2 (by rfl) (by exact w1) (by rfl) rfl
      · rw [if_pos (by simp <;> omega)]
        by_cases h4 : 4 < i
        · rw [if_pos (by simp <;> omega)]
          rw [if_pos (Or.inr h4)] at hret
          exact hret _ n (i + 1) 2 (by rfl) (by exact w1) (by rfl) rfl
        · rw [if_neg (by simp <;> omega)]
          rw [if_neg (by omega)] at hret
          exact hret _ n (i + 1) 1 (by rfl) (by exact w1) (by rfl) rfl
    · rw [if_neg (by simp <;> omega), if_neg (by simp <;> omega)]
      rw [if_neg (by omega)] at hret
      exact hret _ n (i + 1) 1 (by rfl) (by exact w1) (by rfl) rfl
  · rw [if_pos (by simp <;> omega)]
    exact hcont hv

set_option maxRecDepth 100000 in
theorem S2Len (hS : SlI h .u8 S l) (hb : Byt l) (hl : l.length < 2 ^ 36) {K : Int → Int → Int → Heap → Prop} (hK : ∀ n u o : Nat, s2len l = (n, u, o) → K n u o h) : c_spec_S2Len S h K := by
  have hsl := hS.len
  apply M_spec_S2Len.calls
  simp only [SS, M_spec_S2Len.stm, M_spec_S2Len.k0, M_spec_S2Len.k1, M_spec_S2Len.init, M_spec_S2Len.r0, M_spec_S2Len.r1]
  refine loop_rule (I := fun s' h' => h' = h ∧ s'.x_src = S ∧ ∃ i n : Nat, s'.x_i = i ∧ i ≤ l.length ∧ i ≤ 10 ∧ s'.x_n = n ∧ n < 2 ^ 63 ∧ slen l (10 - i) i n = s2len l) (μ := fun s' _ => (l.length - s'.x_i).toNat) ?_ ?_
  · exact ⟨rfl, rfl, 0, 0, rfl, by omega, by omega, rfl, by decide, rfl⟩
  · rintro s' h' ⟨rfl, e1, i, n, e2, hi, hi10, e3, hn, hd⟩
    simp only [SS, M_spec_S2Len.k2, M_spec_S2Len.res, M_spec_S2Len.r2, e1, e2, e3, hsl]
    by_cases hc : i < l.length ∧ i < 10
    · rw [if_pos (by simp <;> omega), if_pos (by simp <;> omega)]
      simp only [SS, M_spec_S2Len.k3, M_spec_S2Len.k4, M_spec_S2Len.r4, M_spec_S2Len.r3, M_spec_S2Len.r5, M_spec_S2Len.r6, e1, e2, e3]
      refine hS.ldB hb (j := i) rfl (by omega) fun v hv he hev => ?_
      simp (disch := omega) only [w_i64, w_u64, w_i32, w_u32, w_u16, w_u8, w_i16, Nat.reducePow]
      rw [show 10 - i = (9 - i) + 1 by omega] at hd
      unfold slen at hd
      rw [if_neg (by omega)] at hd
      simp only at hd
      rw [hev] at hd
      by_cases hg : i < 9 ∧ n < 2 ^ 40
      · rw [if_pos (by simp <;> omega), if_pos (by simp <;> omega), if_neg (by omega)]
        rw [if_pos hg] at hd
        have hp : 2 ^ (7 * i) ≤ 2 ^ 56 := Nat.pow_le_pow_right (by decide) (by omega)
        have hq : v % 128 * 2 ^ (7 * i) ≤ 127 * 2 ^ 56 := Nat.mul_le_mul (by omega) hp
        refine S2Len_k5 (n := n + v % 128 * 2 ^ (7 * i)) rfl ?_ rfl (by omega) ?_ ?_
        · simp only
          rw [show min (7 * (i : Int)).toNat 64 = 7 * i by omega]
          exact i64_shift hg.1 hg.2 hv
        · intro hv1
          rw [if_pos hv1] at hd
          simp only [SS, M_spec_S2Len.k3, M_spec_S2Len.r4, M_spec_S2Len.r3]
          simp (disch := omega) only [w_i64, w_u64, w_i32, w_u32, w_u16, w_u8, w_i16, Nat.reducePow]
          exact ⟨⟨trivial, trivial, i + 1, n + v % 128 * 2 ^ (7 * i), by omega, by omega, by omega, by rw [show min (7 * (i : Int)).toNat 64 = 7 * i by omega]; exact i64_shift hg.1 hg.2 hv, by omega, by rw [show 10 - (i + 1) = 9 - i by omega]; exact hd⟩, by omega⟩
        · intro hv1 st' a b c ea eb ec hr
          rw [if_neg (by omega), hr] at hd
          simp only [SS, M_spec_S2Len.k3, M_spec_S2Len.res, M_spec_S2Len.r4, M_spec_S2Len.r3]
          rw [ea, eb, ec]
          exact hK a b c hd.symm
      · rw [if_neg hg] at hd
        rw [ite2_neg (by simp <;> omega)]
        · refine S2Len_k5 (n := n) rfl rfl rfl (by omega) ?_ ?_
          · intro hv1
            rw [if_pos hv1] at hd
            simp only [SS, M_spec_S2Len.k3, M_spec_S2Len.r4, M_spec_S2Len.r3]
            simp (disch := omega) only [w_i64, w_u64, w_i32, w_u32, w_u16, w_u8, w_i16, Nat.reducePow]
            exact ⟨⟨trivial, trivial, i + 1, n, by omega, by omega, by omega, rfl, by omega, by rw [show 10 - (i + 1) = 9 - i by omega]; exact hd⟩, by omega⟩
          · intro hv1 st' a b c ea eb ec hr
            rw [if_neg (by omega), hr] at hd
            simp only [SS, M_spec_S2Len.k3, M_spec_S2Len.res, M_spec_S2Len.r4, M_spec_S2Len.r3]
            rw [ea, eb, ec]
            exact hK a b c hd.symm
    · have fin : K ((if 5 < l.length then 0 else 0 : Nat) : Int) ((if 5 < l.length then 0 else 0 : Nat) : Int) ((if 5 < l.length then 2 else 0 : Nat) : Int) h' := by
        refine hK _ _ _ ?_
        rw [← hd]
        rcases Nat.lt_or_ge i 10 with h10 | h10
        · rw [show 10 - i = (9 - i) + 1 by omega]
          unfold slen
          rw [if_pos (by omega)]
          split <;> rfl
        · rw [show 10 - i = 0 by omega]
          unfold slen
          split <;> rfl
      have e : M_spec_S2Len.k8 s' h' (endK (M_spec_S2Len.res K)) := by
        simp only [SS, M_spec_S2Len.k8, M_spec_S2Len.res, M_spec_S2Len.r13, M_spec_S2Len.r14, M_spec_S2Len.r15, e1, hsl]
        by_cases h5 : 5 < l.length
        · rw [if_pos (by simp <;> omega)]
          simpa [h5] using fin
        · rw [if_neg (by simp <;> omega)]
          simpa [h5] using fin
      by_cases hc1 : i < l.length
      · rw [if_pos (by simp <;> omega), if_neg (by simp <;> omega)]
        exact e
      · rw [if_neg (by simp <;> omega), if_neg (by simp)]
        exact e
end
end Go.Proofs.YtibleenkgmkpmaaDoor

set_option linter.unusedSimpArgs false
set_option linter.unusedVariables false
set_option linter.unusedSectionVars false
namespace Go.Proofs.YtibleenkgmkpmaaDoor
open Go Go.Vc Go.Ml Go.S2

section
variable {S : Sl} {l : List Int} {h : Heap}

theorem decd_def {l : List Int} {s2 : Bool} {n u o : Nat} (hs : s2len l = (n, u, o)) : decd l s2 = if o = 0 then ([], 0) else if 4194304 < n then ([], 2) else match dec l s2 n u [] 0 with
      | none => ([], 0)
      | some out => if o = 2 then ([], 2) else (out, 1) := by
  unfold decd
  rw [hs]
  rfl

theorem decd_yes {l : List Int} {s2 : Bool} (h : (decd l s2).2 = 1) : ∃ n u : Nat, s2len l = (n, u, 1) ∧ dec l s2 n u [] 0 = some (decd l s2).1 ∧ n ≤ 4194304 := by
  obtain ⟨n, u, o, hs⟩ : ∃ n u o, s2len l = (n, u, o) := ⟨_, _, _, rfl⟩
  have hok := slen_ok l 10 0 0
  have hs' : slen l 10 0 0 = (n, u, o) := hs
  rw [hs'] at hok
  simp only at hok
  rw [decd_def hs] at h ⊢
  by_cases h0 : o = 0
  · rw [if_pos h0] at h; simp at h
  rw [if_neg h0] at h ⊢
  by_cases h1 : 4194304 < n
  · rw [if_pos h1] at h; simp at h
  rw [if_neg h1] at h ⊢
  cases hd : dec l s2 n u [] 0 with
  | none => rw [hd] at h; simp at h
  | some out =>
    rw [hd] at h
    simp only at h ⊢
    by_cases h2 : o = 2
    · rw [if_pos h2] at h; simp at h
    · rw [if_neg h2]
      obtain rfl : o = 1 := by omega
      exact ⟨n, u, hs, hd, by omega⟩

theorem decoded {s2 : Bool} {B sb : Nat} {e : TypeId} {rest : Nat → Option Value} (hS : SlI h .u8 S l) (hsB : ∀ a, 0 < S.n → S.p = some a → a.block < B) (hb : Byt l) (hl : l.length < 2 ^ 36) (hB : B ≤ h.size) (H : Sta B h sb 0 e rest [] 0) {K : Sl → Int → Heap → Prop}
    (hK : ∀ (sl : Sl) (r : Nat) (h' : Heap), r = (decd l s2).2 → (r = 1 → SlI h' .u8 sl (decd l s2).1) → Keep B h h' → K sl r h') : c_spec_decoded S (some ⟨sb, 0, none⟩) s2 h K := by
  apply M_spec_decoded.calls
  simp only [SS, M_spec_decoded.stm, M_spec_decoded.k0, M_spec_decoded.k1, M_spec_decoded.k2, M_spec_decoded.k3, M_spec_decoded.k4, M_spec_decoded.k5, M_spec_decoded.init, M_spec_decoded.res, M_spec_decoded.r0, M_spec_decoded.r1, M_spec_decoded.r2, M_spec_decoded.r3, M_spec_decoded.r4, M_spec_decoded.r5, M_spec_decoded.r6, M_spec_decoded.r7, M_spec_decoded.r8, M_spec_decoded.r9, M_spec_decoded.r10, M_spec_decoded.r11]
  refine S2Len hS hb hl fun n u o hs => ?_
  have hok := slen_ok l 10 0 0
  have hs' : slen l 10 0 0 = (n, u, o) := hs
  rw [hs'] at hok
  simp only at hok
  rw [decd_def hs] at hK
  by_cases h0 : o = 0
  · rw [if_pos (by simp [h0])]
    rw [if_pos h0] at hK
    exact hK _ 0 h rfl (fun h => by cases h) (Keep.refl _ _)
  rw [if_neg h0] at hK
  rw [if_neg (by simp <;> omega)]
  by_cases h1 : 4194304 < n
  · rw [if_pos (by simp <;> omega)]
    rw [if_pos h1] at hK
    exact hK _ 2 h rfl (fun h => by cases h) (Keep.refl _ _)
  rw [if_neg h1] at hK
  rw [if_neg (by simp <;> omega)]
  refine elements (i := u) (N := n) (s2 := s2) hS hsB hb hl (by omega) hB H (by simp) (by omega) rfl rfl (by decide) ?_ ?_
  · intro hd h' hk
    rw [hd] at hK
    simp only at hK
    rw [if_pos (by simp)]
    exact hK _ 0 h' rfl (fun h => by cases h) hk
  · intro res hd h' last' HS hk
    rw [hd] at hK
    simp only at hK
    rw [if_neg (by simp), if_pos (by simp)]
    by_cases h2 : o = 2
    · rw [if_pos (by simp [h2])]
      rw [if_pos h2] at hK
      exact hK _ 2 h' rfl (fun h => by cases h) hk
    · rw [if_neg (by simp <;> omega)]
      rw [if_neg h2] at hK
      obtain ⟨hg, cs, p, n', c, hbk, c0, _, _, _, _, hO, _⟩ := HS
      refine ⟨p, n', c, hbk.get c0, ?_⟩
      exact hK _ 1 h' rfl (fun _ => hO.sl) hk

theorem S2Decode (hS : SlI h .u8 S l) (hsB : ∀ a, 0 < S.n → S.p = some a → a.block < h.size) (hb : Byt l) (hl : l.length < 2 ^ 36) {K : Sl → Int → Heap → Prop}
    (hK : ∀ (sl : Sl) (r : Nat) (h' : Heap), r = (decd l true).2 → (r = 1 → SlI h' .u8 sl (decd l true).1) → Old h h' → K sl r h') : c_spec_S2Decode S h K := by
  apply M_spec_S2Decode.calls
  simp only [SS, M_spec_S2Decode.stm, M_spec_S2Decode.r0, M_spec_S2Decode.r1, M_spec_S2Decode.init, M_spec_S2Decode.res, withH_eq, ptrE_some, add_mk, Nat.zero_add, Nat.add_zero]
  have o1 := Old.new h [.slice none 0 0, .slice none 0 0, .int .i64 (0 : Int), .bool false] 65
  refine decoded (B := h.size) (hS.ext o1.ext) hsB hb hl o1.size (rest := fun j => [Value.slice none 0 0, .slice none 0 0, .int .i64 (0 : Int), .bool false][j]?) ⟨Nat.le_refl _, _, none, 0, 0, Blk.new _ _ _, rfl, rfl, rfl, rfl, fun _ _ _ => rfl, Own.nil _ _ _ _, fun b hb => by cases hb⟩ ?_
  intro sl r h' h1 h2 h3
  exact hK sl r h' h1 h2 (Keep.old ((Keep.of_old o1).trans h3))

theorem B_fr {h h1 h2 : Heap} (o : Old h h1) (F : Fr (fun x => some (⟨h.size, 0, none⟩ : Addr) = some ⟨x, 0, none⟩) h1 h2) : Keep h.size h h2 := by
  refine Keep.trans (Keep.of_old o) (F.mono fun x _ hx => ?_)
  have : h.size = x := by simpa using hx
  omega

theorem copiedS (hS : SlI h .u8 S l) (hl : l.length < 2 ^ 36) {K : Sl → Heap → Prop} (hK : ∀ (sl : Sl) (h' : Heap), Own h.size h' .u8 5 sl l → Old h h' → K sl h') : c_impl_copied S h K := by
  apply M_impl_copied.calls
  simp only [SS, M_impl_copied.stm, M_impl_copied.r0, M_impl_copied.r1, M_impl_copied.init, M_impl_copied.res, withH_eq, ptrE_some, add_mk, Nat.zero_add, Nat.add_zero]
  have hsl := hS.len
  have o1 := Old.new h [] 5
  refine append_own (s := ⟨some ⟨h.size, 0, none⟩, 0, 0⟩) (B := h.size) (l := []) (news := l) (Own.empty .u8 5 (Nat.le_refl _)) ts5 tb5 z5 (by omega) ?_ (by simp only; omega) o1.size fun p' c' h' HO HF _ => ?_
  · have := src_sl (hS.ext o1.ext) (m := S.n) (Nat.le_refl _) (n := S.n) (c := S.c)
    rwa [List.take_of_length_le (by omega)] at this
  · simp only [List.nil_append, Nat.zero_add] at HO ⊢
    exact hK _ h' HO (Keep.old (B_fr o1 HF))

theorem eq {S' : Sl} {l' : List Int} (hS : SlI h .u8 S l) (hS' : SlI h .u8 S' l') (hb : Byt l) (hb' : Byt l') (hl : l.length < 2 ^ 36) {K : Bool → Heap → Prop} (hK : ∀ b, (b = true ↔ l = l') → K b h) : c_laws_eq S S' h K := by
  have hsl := hS.len
  have hsl' := hS'.len
  apply M_laws_eq.calls
  simp only [SS, M_laws_eq.stm, M_laws_eq.k0, M_laws_eq.k1, M_laws_eq.k2, M_laws_eq.init, M_laws_eq.res, M_laws_eq.r0, M_laws_eq.r1, M_laws_eq.r2, M_laws_eq.r3, M_laws_eq.r9, hsl, hsl']
  by_cases hn : l.length = l'.length
  case neg =>
    rw [if_pos (by simp <;> omega)]
    refine hK false ⟨fun h => (by cases h), fun h => ?_⟩
    rw [h] at hn; exact absurd rfl hn
  rw [if_neg (by simp <;> omega)]
  refine loop_rule (I := fun s' h' => h' = h ∧ s'.x_a = S ∧ s'.x_b = S' ∧ s'.t12 = l.length ∧ ∃ i : Nat, s'.t13 = i ∧ i ≤ l.length ∧ l.take i = l'.take i) (μ := fun s' _ => (l.length - s'.t13).toNat) ?_ ?_
  · exact ⟨rfl, rfl, rfl, rfl, 0, rfl, by omega, rfl⟩
  · rintro s' h' ⟨rfl, e1, e2, e3, i, e4, hi, ht⟩
    simp only [SS, M_laws_eq.k3, M_laws_eq.k4, M_laws_eq.k5, M_laws_eq.res, M_laws_eq.r4, M_laws_eq.r5, M_laws_eq.r8, e1, e2, e3, e4]
    by_cases hc : (i : Int) < l.length
    · rw [if_pos (by simpa using hc)]
      simp only [SS, M_laws_eq.k6, M_laws_eq.res, M_laws_eq.r6, M_laws_eq.r7, e1, e2, e3, e4]
      refine hS.ldB hb (j := i) rfl (by omega) fun v hv he hev => ?_
      refine hS'.ldB hb' (j := i) rfl (by omega) fun v' hv' he' hev' => ?_
      have g : ∀ {l : List Int} {v : Nat}, i < l.length → l.getD i 0 = v → l[i]? = some (v : Int) := by
        intro l v hi h
        rw [List.getD_eq_getElem?_getD, List.getElem?_eq_getElem hi] at h
        rw [List.getElem?_eq_getElem hi]
        simpa using h
      by_cases hx : v = v'
      · rw [if_neg (by simp [hx])]
        simp only [M_laws_eq.r0, M_laws_eq.r1, M_laws_eq.r2, M_laws_eq.r3, M_laws_eq.r4, M_laws_eq.r5, M_laws_eq.r6, M_laws_eq.r7, M_laws_eq.r8, M_laws_eq.r9, M_laws_eq.init, M_laws_eq.res]
        simp (disch := omega) only [w_i64, w_u64, w_i32, w_u32, w_u16, w_u8, w_i16, Nat.reducePow]
        refine ⟨⟨trivial, trivial, trivial, trivial, i + 1, by omega, by omega, ?_⟩, by omega⟩
        rw [List.take_add_one, List.take_add_one, ht, g (by omega) he, g (by omega) he', hx]
      · rw [if_pos (by simp; omega)]
        refine hK false ⟨fun h => (by cases h), fun h => ?_⟩
        rw [h, he'] at he
        omega
    · rw [if_neg (by simpa using hc)]
      simp only [SS, M_laws_eq.k1, M_laws_eq.res, M_laws_eq.r3, M_laws_eq.r9, e1, e2, e3, e4]
      refine hK true ⟨fun _ => ?_, fun _ => rfl⟩
      rwa [List.take_of_length_le (by omega), List.take_of_length_le (by omega)] at ht

end
end Go.Proofs.YtibleenkgmkpmaaDoor

set_option linter.unusedSimpArgs false
set_option linter.unusedVariables false
set_option linter.unusedSectionVars false
namespace Go.Proofs.YtibleenkgmkpmaaDoor
open Go Go.Vc Go.Ml Go.S2

theorem w_u8_div (x k : Nat) : IntKind.wrap .u8 (Int.fdiv (x : Int) (2 ^ k)) = ((x / 2 ^ k % 256 : Nat) : Int) := by rw [fdiv_nat, w_u8_nat]
theorem or_u8 {x y : Nat} (hx : x < 256) (hy : y < 256) : bOr .u8 (x : Int) (y : Int) = ((x ||| y : Nat) : Int) := or_nat rfl (by show x < 256; exact hx) (by show y < 256; exact hy)

theorem fwd_add (out : List Int) (o a : Nat) : ∀ b, fwd (fwd out o a) o b = fwd out o (a + b)
  | 0 => rfl
  | b + 1 => by
    rw [← Nat.add_assoc]
    simp only [fwd]
    rw [fwd_add out o a b, fwd_len, Nat.add_assoc out.length a b]

/-- Bytes that are a copy by an offset that is the last one, of so many bytes. -/
def RepS (s2 : Bool) (enc : List Int) (off len : Nat) : Prop := Bts enc ∧ 0 < enc.length ∧ ∀ out : List Int, 0 < off → off ≤ out.length → SeqG s2 enc out off (fwd out off len) off
/-- Bytes that are a copy. -/
def CopS (s2 : Bool) (enc : List Int) (off len : Nat) : Prop := Bts enc ∧ 0 < enc.length ∧ ∀ (out : List Int) (last : Nat), 0 < off → off ≤ out.length → SeqG s2 enc out last (fwd out off len) off
theorem CopS.rep {s2 : Bool} {enc : List Int} {off len : Nat} (H : CopS s2 enc off len) : RepS s2 enc off len := ⟨H.1, H.2.1, fun out h0 h1 => H.2.2 out off h0 h1⟩
theorem CopS.app {s2 : Bool} {e1 e2 : List Int} {off a b : Nat} (H1 : CopS s2 e1 off a) (H2 : RepS s2 e2 off b) : CopS s2 (e1 ++ e2) off (a + b) := by
  refine ⟨H1.1.app H2.1, by have := H1.2.1; simp; omega, fun out last h0 h1 => ?_⟩
  have := (H1.2.2 out last h0 h1).trans (H2.2.2 (fwd out off a) h0 (by rw [fwd_len]; omega)) (by rw [fwd_len (fwd out off a)]; omega)
  rwa [fwd_add] at this

theorem bts2 {a b : Nat} (ha : a ≤ 255) (hb : b ≤ 255) : Bts [(a : Int), (b : Int)] := by
  intro x hx
  rcases List.mem_cons.1 hx with rfl | hx
  · omega
  · obtain rfl := List.mem_singleton.1 hx; omega
theorem bts_cons {a : Nat} {l : List Int} (ha : a ≤ 255) (h : Bts l) : Bts ((a : Int) :: l) := by
  intro x hx
  rcases List.mem_cons.1 hx with rfl | hx
  · omega
  · exact h x hx

theorem cop1 {s2 : Bool} {o n : Nat} (h2 : o < 2048) (hn : 4 ≤ n) (hn2 : n ≤ 11) : CopS s2 [((o / 256 * 32 + (n - 4) * 4 + 1 : Nat) : Int), ((o % 256 : Nat) : Int)] o n :=
  ⟨bts2 (by omega) (by omega), by simp, fun _ _ h0 h1 => (elem_copy1 h0 h1 h2 hn hn2).seq⟩
theorem copk {s2 : Bool} {k o n : Nat} (hk : k = 2 ∨ k = 4) (h2 : o < 256 ^ k) (hn : 1 ≤ n) (hn2 : n ≤ 64) : CopS s2 ((((n - 1) * 4 + (k / 2 + 1) : Nat) : Int) :: leB k o) o n :=
  ⟨bts_cons (by omega) (leB_bts _ _), by simp, fun _ _ h0 h1 => (elem_copyk hk h0 h1 h2 hn hn2).seq⟩
theorem rep0 {o n : Nat} (hn : 4 ≤ n) (hn2 : n ≤ 8) : RepS true [(((n - 4) * 4 + 1 : Nat) : Int), 0] o n :=
  ⟨bts2 (b := 0) (by omega) (by omega), by simp, fun _ h0 h1 => (elem_rep0 h0 h1 hn hn2).seq⟩
theorem repk {k m o : Nat} (hk : 0 < k) (hk3 : k ≤ 3) (hm : m < 256 ^ k) : RepS true ((((k + 4) * 4 + 1 : Nat) : Int) :: 0 :: leB k m) o (m + moreBase (k + 4)) :=
  ⟨bts_cons (by omega) (bts_cons (a := 0) (by omega) (leB_bts _ _)), by simp, fun _ h0 h1 => (elem_repk hk hk3 h0 h1 hm).seq⟩

theorem tag1 {o l : Nat} (ho : o < 2048) (hl : l < 8) : bOr .u8 (bOr .u8 (IntKind.wrap .u8 (IntKind.wrap .u8 (Int.fdiv (o : Int) (2 ^ 8)) * 2 ^ 5)) (IntKind.wrap .u8 (IntKind.wrap .u8 (l : Int) * 2 ^ 2))) 1 = ((o / 256 * 32 + l * 4 + 1 : Nat) : Int) := by
  rw [w_u8_div, w_u8 (x := (l : Int)) (by omega) (by omega), w_u8 (x := ((o / 2 ^ 8 % 256 : Nat) : Int) * 2 ^ 5) (by omega) (by omega), w_u8 (by omega) (by omega)]
  have e1 : ((o / 2 ^ 8 % 256 : Nat) : Int) * 2 ^ 5 = ((o / 256 * 32 : Nat) : Int) := by omega
  have e2 : (l : Int) * 2 ^ 2 = ((l * 4 : Nat) : Int) := by omega
  rw [e1, e2, or_u8 (by omega) (by omega)]
  have hx : o / 256 * 32 ||| l * 4 < 2 ^ 8 := Nat.or_lt_two_pow (by omega) (by omega)
  have e3 : bOr .u8 ((o / 256 * 32 ||| l * 4 : Nat) : Int) 1 = ((o / 256 * 32 ||| l * 4 ||| 1 : Nat) : Int) := or_u8 hx (by decide)
  rw [e3, lor_tag1 (o / 256) (by omega) l (by omega)]

section
variable {h : Heap} {db o n c off len : Nat} {M : List Int} {K : Int → Heap → Prop}

set_option maxRecDepth 1000000 in
theorem emitRepeat (HB : Blk h db (M.map (Value.int .u8)) 5) (hon : o + n ≤ M.length) (hn : 5 ≤ n) (hlen : 4 ≤ len) (hlen2 : len < 2 ^ 24) (hoff : off < 2 ^ 31)
    (hK : ∀ enc h', enc.length ≤ 5 → RepS true enc off len → Blk h' db ((putL M o enc).map (Value.int .u8)) 5 → Fr (· = db) h h' → K enc.length h') : c_emitRepeat ⟨some ⟨db, o, none⟩, n, c⟩ off len h K := by
  apply M_emitRepeat.calls
  simp only [SS, M_emitRepeat.stm, M_emitRepeat.k0, M_emitRepeat.k1, M_emitRepeat.k2, M_emitRepeat.k3, M_emitRepeat.k4, M_emitRepeat.k5, M_emitRepeat.k6, M_emitRepeat.init, M_emitRepeat.res, M_emitRepeat.r0, M_emitRepeat.r1, M_emitRepeat.r2, M_emitRepeat.r3, M_emitRepeat.r4, M_emitRepeat.r5, M_emitRepeat.r6, M_emitRepeat.r7, M_emitRepeat.r8, M_emitRepeat.r9]
  rw [w_i64 (x := (len : Int) - 4) (by omega) (by omega)]
  obtain ⟨l, rfl⟩ : ∃ l, len = l + 4 := ⟨len - 4, by omega⟩
  have el : (((l + 4 : Nat)) : Int) - 4 = (l : Nat) := by omega
  simp only [el]
  by_cases g8 : l ≤ 4
  · rw [if_pos (by simp; omega)]
    obtain ⟨x0, x1, hx⟩ := len2 (cut_len (M := M) (o := o) (k := 2) (by omega))
    rw [← putL_self (M := M) (o := o) (k := 2) (by omega), hx] at HB
    have ev : bOr .u8 (IntKind.wrap .u8 (IntKind.wrap .u8 (l : Int) * 2 ^ 2)) 1 = ((l * 4 + 1 : Nat) : Int) := by
      rw [w_u8 (x := (l : Int)) (by omega) (by omega), w_u8 (by omega) (by omega)]
      have e2 : (l : Int) * 2 ^ 2 = ((l * 4 : Nat) : Int) := by omega
      have e3 : bOr .u8 ((l * 4 : Nat) : Int) 1 = ((l * 4 ||| 1 : Nat) : Int) := or_u8 (by omega) (by decide)
      rw [e2, e3, (lor_tag2 l (by omega)).2.2]
    rw [ev]
    refine putS (j := 0) (i := 0) HB (by simp; omega) (by simp) rfl (by omega) fun h1 H1 F1 => ?_
    refine putS (j := 1) (i := 1) H1 (by simp; omega) (by simp) rfl (by omega) fun h2 H2 F2 => ?_
    simp only [List.set_cons_zero, List.set_cons_succ] at H2
    exact hK [((l * 4 + 1 : Nat) : Int), 0] h2 (by simp) (rep0 (n := l + 4) (by omega) (by omega)) H2 (F1.trans F2)
  rw [if_neg (by simp; omega)]
  by_cases g1 : l < 8 ∧ off < 2048
  · rw [if_pos (by simp; omega), if_pos (by simp; omega)]
    obtain ⟨x0, x1, hx⟩ := len2 (cut_len (M := M) (o := o) (k := 2) (by omega))
    rw [← putL_self (M := M) (o := o) (k := 2) (by omega), hx] at HB
    rw [tag1 g1.2 g1.1, w_u8_nat]
    refine putS (j := 1) (i := 1) HB (by simp; omega) (by simp) rfl (by omega) fun h1 H1 F1 => ?_
    refine putS (j := 0) (i := 0) H1 (by simp; omega) (by simp) rfl (by omega) fun h2 H2 F2 => ?_
    simp only [List.set_cons_zero, List.set_cons_succ] at H2
    exact hK [((off / 256 * 32 + l * 4 + 1 : Nat) : Int), ((off % 256 : Nat) : Int)] h2 (by simp) (cop1 (n := l + 4) g1.2 (by omega) (by omega)).rep H2 (F1.trans F2)
  rw [ite2_neg (by simp; omega)]
  simp only [SS, M_emitRepeat.k7, M_emitRepeat.k8, M_emitRepeat.k9, M_emitRepeat.k10, M_emitRepeat.k11, M_emitRepeat.res, M_emitRepeat.r10, M_emitRepeat.r11, M_emitRepeat.r12, M_emitRepeat.r13, M_emitRepeat.r14, M_emitRepeat.r15]
  by_cases g2 : l < 260
  · rw [if_pos (by simp; omega)]
    obtain ⟨x0, x1, x2, hx⟩ := len3 (cut_len (M := M) (o := o) (k := 3) (by omega))
    rw [← putL_self (M := M) (o := o) (k := 3) (by omega), hx] at HB
    have e1 : (l : Int) - 4 = ((l - 4 : Nat) : Int) := by omega
    rw [w_i64 (by omega) (by omega), e1, w_u8_nat]
    refine putS (j := 2) (i := 2) HB (by simp; omega) (by simp) rfl (by omega) fun h1 H1 F1 => ?_
    refine putS (j := 1) (i := 1) H1 (by simp; omega) (by simp) rfl (by omega) fun h2 H2 F2 => ?_
    refine putS (j := 0) (i := 0) H2 (by simp; omega) (by simp) rfl (by omega) fun h3 H3 F3 => ?_
    simp only [List.set_cons_zero, List.set_cons_succ] at H3
    have hr := repk (k := 1) (m := l - 4) (o := off) (by omega) (by omega) (by omega)
    have em : l - 4 + moreBase (1 + 4) = l + 4 := by rw [show moreBase (1 + 4) = 8 from rfl]; omega
    rw [em] at hr
    exact hK [21, 0, (((l - 4) % 256 : Nat) : Int)] h3 (by simp) hr H3 ((F1.trans F2).trans F3)
  rw [if_neg (by simp; omega)]
  simp only [SS, M_emitRepeat.k12, M_emitRepeat.k13, M_emitRepeat.k14, M_emitRepeat.k15, M_emitRepeat.k16, M_emitRepeat.k17, M_emitRepeat.res, M_emitRepeat.r16, M_emitRepeat.r17, M_emitRepeat.r18, M_emitRepeat.r19, M_emitRepeat.r20, M_emitRepeat.r21, M_emitRepeat.r22]
  by_cases g3 : l < 65792
  · rw [if_pos (by simp; omega)]
    obtain ⟨x0, x1, x2, x3, hx⟩ := len4 (cut_len (M := M) (o := o) (k := 4) (by omega))
    rw [← putL_self (M := M) (o := o) (k := 4) (by omega), hx] at HB
    have e1 : (l : Int) - 256 = ((l - 256 : Nat) : Int) := by omega
    rw [w_i64 (by omega) (by omega), e1, w_u8_div, w_u8_div]
    refine putS (j := 3) (i := 3) HB (by simp; omega) (by simp) rfl (by omega) fun h1 H1 F1 => ?_
    refine putS (j := 2) (i := 2) H1 (by simp; omega) (by simp) rfl (by omega) fun h2 H2 F2 => ?_
    refine putS (j := 1) (i := 1) H2 (by simp; omega) (by simp) rfl (by omega) fun h3 H3 F3 => ?_
    refine putS (j := 0) (i := 0) H3 (by simp; omega) (by simp) rfl (by omega) fun h4 H4 F4 => ?_
    simp only [List.set_cons_zero, List.set_cons_succ] at H4
    have hr := repk (k := 2) (m := l - 256) (o := off) (by omega) (by omega) (by omega)
    have em : l - 256 + moreBase (2 + 4) = l + 4 := by rw [show moreBase (2 + 4) = 260 from rfl]; omega
    rw [em] at hr
    have eB : [25, 0, (((l - 256) / 2 ^ 0 % 256 : Nat) : Int), (((l - 256) / 2 ^ 8 % 256 : Nat) : Int)] = (((2 + 4) * 4 + 1 : Nat) : Int) :: 0 :: leB 2 (l - 256) := by simp [leB]
    rw [eB] at H4
    exact hK _ h4 (by simp [leB_len]) hr H4 (((F1.trans F2).trans F3).trans F4)
  rw [if_neg (by simp; omega)]
  simp only [SS, M_emitRepeat.k18, M_emitRepeat.k19, M_emitRepeat.k20, M_emitRepeat.k21, M_emitRepeat.k22, M_emitRepeat.k23, M_emitRepeat.k24, M_emitRepeat.k25, M_emitRepeat.k26, M_emitRepeat.res, M_emitRepeat.r23, M_emitRepeat.r24, M_emitRepeat.r25, M_emitRepeat.r26, M_emitRepeat.r27, M_emitRepeat.r28, M_emitRepeat.r29, M_emitRepeat.r30, M_emitRepeat.r31, M_emitRepeat.r32, M_emitRepeat.r33, M_emitRepeat.r34, M_emitRepeat.r35]
  have e1 : (l : Int) - 65536 = ((l - 65536 : Nat) : Int) := by omega
  rw [w_i64 (x := (l : Int) - 65536) (by omega) (by omega), e1, if_neg (by simp; omega)]
  obtain ⟨x0, x1, x2, x3, x4, hx⟩ := len5 (cut_len (M := M) (o := o) (k := 5) (by omega))
  rw [← putL_self (M := M) (o := o) (k := 5) (by omega), hx] at HB
  rw [w_u8_div, w_u8_div, w_u8_div]
  refine putS (j := 4) (i := 4) HB (by simp; omega) (by simp) rfl (by omega) fun h1 H1 F1 => ?_
  refine putS (j := 3) (i := 3) H1 (by simp; omega) (by simp) rfl (by omega) fun h2 H2 F2 => ?_
  refine putS (j := 2) (i := 2) H2 (by simp; omega) (by simp) rfl (by omega) fun h3 H3 F3 => ?_
  refine putS (j := 1) (i := 1) H3 (by simp; omega) (by simp) rfl (by omega) fun h4 H4 F4 => ?_
  refine putS (j := 0) (i := 0) H4 (by simp; omega) (by simp) rfl (by omega) fun h5 H5 F5 => ?_
  simp only [List.set_cons_zero, List.set_cons_succ] at H5
  rw [if_neg (by simp)]
  have hr := repk (k := 3) (m := l - 65536) (o := off) (by omega) (by omega) (by omega)
  have em : l - 65536 + moreBase (3 + 4) = l + 4 := by rw [show moreBase (3 + 4) = 65540 from rfl]; omega
  rw [em] at hr
  have eB : [29, 0, (((l - 65536) / 2 ^ 0 % 256 : Nat) : Int), (((l - 65536) / 2 ^ 8 % 256 : Nat) : Int), (((l - 65536) / 2 ^ 16 % 256 : Nat) : Int)] = (((3 + 4) * 4 + 1 : Nat) : Int) :: 0 :: leB 3 (l - 65536) := by simp [leB, Nat.div_div_eq_div_mul]
  rw [eB] at H5
  exact hK _ h5 (by simp [leB_len]) hr H5 ((((F1.trans F2).trans F3).trans F4).trans F5)
end
end Go.Proofs.YtibleenkgmkpmaaDoor
