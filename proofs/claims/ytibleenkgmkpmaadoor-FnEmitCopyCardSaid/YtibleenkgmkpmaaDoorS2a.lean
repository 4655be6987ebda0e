/- A part of the proof. -/
import Derived.Test.YtibleenkgmkpmaaDoorHp
import Derived.Test.YtibleenkgmkpmaaDoorS2p
import Derived.Test.YtibleenkgmkpmaaDoorModels1
set_option linter.unusedSimpArgs false
set_option linter.unusedVariables false
set_option linter.unusedSectionVars false
namespace Go.Proofs.YtibleenkgmkpmaaDoor
open Go Go.Vc Go.Ml Go.S2

theorem zEl : zcells Pg 113 = [.bool false, .int .i64 0, .int .i64 0, .int .i64 0, .bool false, .int .i64 0] := by kernel_rfl

theorem leN_len {l : List Int} (hb : Byt l) (i n : Nat) (hn : n ≤ 4) : leN ((l.drop i).take n) < 2 ^ 32 := by
  have h1 := leN_lt ((l.drop i).take n) ((hb.drop i).take n).mem
  have h2 : ((l.drop i).take n).length ≤ 4 := by simp; omega
  have h3 : 256 ^ ((l.drop i).take n).length ≤ 256 ^ 4 := Nat.pow_le_pow_right (by decide) h2
  omega

/-- A number that may lack, as the program tells it. -/
def leI : Option Nat → Int
  | none => -1
  | some m => m
theorem leI_none : leI none = -1 := rfl
theorem leI_some (m : Nat) : leI (some m) = m := rfl

theorem leAt_lt {l : List Int} (hb : Byt l) {i n m : Nat} (hn : n ≤ 4) (h : leAt l i n = some m) : m < 2 ^ 32 := by
  unfold leAt at h
  split at h
  · obtain rfl := Option.some.inj h
    exact leN_len hb _ _ hn
  · cases h

theorem little {s : Sl} {h : Heap} {l : List Int} (hs : SlI h .u8 s l) (hb : Byt l) (hl : l.length < 2 ^ 40) {i n : Nat} {a b : Int} (ha : a = i) (hbn : b = n) (hi : i < 2 ^ 40) (hn : n ≤ 4) {K : Int → Heap → Prop}
    (hK : ∀ r, r = leI (leAt l i n) → K r h) : c_spec_little s a b h K := by
  subst ha hbn
  have hsl := hs.len
  apply M_spec_little.calls
  simp only [st_reg, st_ret, st_exit, st_skip, st_test, st_block, st_cond, sq_reg, sq_ret, sq_exit, sq_skip, sq_test, sq_cond, sq_block, sq_seq, sq_loop, SK_norm, SK_exit, SK_ret, BK_norm, BK_ret, BK_same, BK_exit, LK_norm, LK_exit, LK_ret, endK_norm, endK_ret, M_spec_little.k5, M_spec_little.k4, M_spec_little.k3, M_spec_little.k2, M_spec_little.k1, M_spec_little.k0, M_spec_little.stm, M_spec_little.r0, M_spec_little.r1, M_spec_little.r2, M_spec_little.r3, M_spec_little.r4, M_spec_little.r5, M_spec_little.r6, M_spec_little.r7, M_spec_little.r8, M_spec_little.init, M_spec_little.res]
  rw [w_i64 (by omega) (by omega), w_i64 (by omega) (by omega)]
  replace hK := hK _ rfl
  unfold leAt at hK
  by_cases h1 : i + n ≤ l.length
  case neg =>
    rw [if_neg h1] at hK
    rw [if_pos (by simp <;> omega)]
    exact hK
  rw [if_pos h1] at hK
  rw [if_neg (by simp <;> omega)]
  refine loop_rule (I := fun s' h' => s'.x_src = s ∧ s'.x_at = i ∧ h' = h ∧ ∃ j, j ≤ n ∧ s'.x_i = (j : Int) - 1 ∧ s'.x_n = leN ((l.drop (i + j)).take (n - j))) (μ := fun s' _ => (s'.x_i + 1).toNat) ?_ ?_
  · exact ⟨rfl, rfl, rfl, n, by omega, rfl, by simp [leN]⟩
  · rintro s' h' ⟨rfl, e1, rfl, j, hj, e2, e3⟩
    simp only [st_reg, st_ret, st_exit, st_skip, st_test, st_block, st_cond, sq_reg, sq_ret, sq_exit, sq_skip, sq_test, sq_cond, sq_block, sq_seq, sq_loop, SK_norm, SK_exit, SK_ret, BK_norm, BK_ret, BK_same, BK_exit, LK_norm, LK_exit, LK_ret, endK_norm, endK_ret, M_spec_little.r0, M_spec_little.r1, M_spec_little.r2, M_spec_little.r3, M_spec_little.r4, M_spec_little.r5, M_spec_little.r6, M_spec_little.r7, M_spec_little.r8, M_spec_little.init, M_spec_little.res]
    by_cases hc : s'.x_i ≥ 0
    · rw [if_pos (by simpa using hc)]
      rw [e1, e2, w_i64 (by omega) (by omega)]
      refine hs.ldB hb (j := i + (j - 1)) (by omega) (by omega) fun v hv he hev => ?_
      have hlt := leN_len hb (i + j) (n - j) (by omega)
      have hs2 : leN ((l.drop (i + (j - 1))).take (n - (j - 1))) = v + 256 * leN ((l.drop (i + j)).take (n - j)) := by
        have := leN_take_succ l (i + (j - 1)) (n - j) (by omega)
        rw [show n - j + 1 = n - (j - 1) by omega, show i + (j - 1) + 1 = i + j by omega, hev] at this
        exact this
      refine ⟨⟨trivial, rfl, trivial, j - 1, by omega, ?_, ?_⟩, ?_⟩
      · rw [w_i64 (by omega) (by omega)]; omega
      · simp (disch := omega) only [e3, hs2, w_i64, w_u64, w_i32, w_u32, w_u16, w_u8, w_i16, Nat.reducePow]
        omega
      · rw [w_i64 (by omega) (by omega)]; omega
    · rw [if_neg (by simpa using hc)]
      have : j = 0 := by omega
      subst this
      simp only [st_reg, st_ret, st_exit, st_skip, st_test, st_block, st_cond, sq_reg, sq_ret, sq_exit, sq_skip, sq_test, sq_cond, sq_block, sq_seq, sq_loop, SK_norm, SK_exit, SK_ret, BK_norm, BK_ret, BK_same, BK_exit, LK_norm, LK_exit, LK_ret, endK_norm, endK_ret, M_spec_little.r0, M_spec_little.r1, M_spec_little.r2, M_spec_little.r3, M_spec_little.r4, M_spec_little.r5, M_spec_little.r6, M_spec_little.r7, M_spec_little.r8, M_spec_little.init, M_spec_little.res, e3]
      exact hK

/-- What a reader of elements gives back. -/
def ElK (K : Bool → Int → Int → Int → Bool → Int → Bool → Heap → Prop) (h : Heap) : Option El → Prop
  | none => ∀ b f o n r x, K b f o n r x false h
  | some e => K e.lit e.src e.off e.len e.rep e.next true h

/-- An element's cells. -/
@[reducible] def elC (b : Bool) (f o n : Int) (r : Bool) (x : Int) : List Value := [.bool b, .int .i64 f, .int .i64 o, .int .i64 n, .bool r, .int .i64 x]
theorem ldEl {h : Heap} {a : Nat} {e : TypeId} {b : Bool} {f o n : Int} {r : Bool} {x : Int} (H : Blk h a (elC b f o n r x) e) {K : Bool → Int → Int → Int → Bool → Int → Prop} (hK : K b f o n r x) :
    ∃ b1 : Bool, hcell h (⟨a, 0, none⟩) = some (.bool b1) ∧ ∃ v1 : Int, hcell h (⟨a, 1, none⟩) = some (.int .i64 v1) ∧ ∃ v2 : Int, hcell h (⟨a, 2, none⟩) = some (.int .i64 v2) ∧
      ∃ v3 : Int, hcell h (⟨a, 3, none⟩) = some (.int .i64 v3) ∧ ∃ b2 : Bool, hcell h (⟨a, 4, none⟩) = some (.bool b2) ∧ ∃ v4 : Int, hcell h (⟨a, 5, none⟩) = some (.int .i64 v4) ∧ K b1 v1 v2 v3 b2 v4 :=
  ⟨b, by exact H.get rfl, f, by exact H.get rfl, o, by exact H.get rfl, n, by exact H.get rfl, r, by exact H.get rfl, x, by exact H.get rfl, hK⟩
theorem stEl {h : Heap} {a : Nat} {e : TypeId} {b b' : Bool} {f o n f' o' n' : Int} {r r' : Bool} {x x' : Int} {K : Heap → Prop} (H : Blk h a (elC b f o n r x) e) (hK : K (hput h a (elC b' f' o' n' r' x') e)) :
    st1 (⟨a, 0, none⟩) (.bool b') h fun h => st1 (⟨a, 1, none⟩) (.int .i64 f') h fun h => st1 (⟨a, 2, none⟩) (.int .i64 o') h fun h => st1 (⟨a, 3, none⟩) (.int .i64 n') h fun h =>
      st1 (⟨a, 4, none⟩) (.bool r') h fun h => st1 (⟨a, 5, none⟩) (.int .i64 x') h K := by
  have := st6 (v0 := .bool b') (v1 := .int .i64 f') (v2 := .int .i64 o') (v3 := .int .i64 n') (v4 := .bool r') (v5 := .int .i64 x') H hK
  simpa only [add_mk, Nat.zero_add] using this
theorem old_new_put {h : Heap} {cs cs' : List Value} {e e' : TypeId} : Old h (hput (hnew h cs e) h.size cs' e') := by rw [hput_new]; exact Old.new _ _ _

theorem readLiteral {s : Sl} {h : Heap} {l : List Int} (hs : SlI h .u8 s l) (hb : Byt l) (hl : l.length < 2 ^ 40) {i : Nat} {a : Int} (ha : a = i) (hi : i < l.length) {K : Bool → Int → Int → Int → Bool → Int → Bool → Heap → Prop}
    (hK : ∀ h', Old h h' → ElK K h' (readLit l i)) : c_spec_readLiteral s a h K := by
  subst ha
  have hsl := hs.len
  apply M_spec_readLiteral.calls
  simp only [st_reg, st_ret, st_exit, st_skip, st_test, st_block, st_cond, sq_reg, sq_ret, sq_exit, sq_skip, sq_test, sq_cond, sq_block, sq_seq, sq_loop, SK_norm, SK_exit, SK_ret, BK_norm, BK_ret, BK_same, BK_exit, LK_norm, LK_exit, LK_ret, endK_norm, endK_ret, M_spec_readLiteral.k8, M_spec_readLiteral.k7, M_spec_readLiteral.k6, M_spec_readLiteral.k5, M_spec_readLiteral.k4, M_spec_readLiteral.k3, M_spec_readLiteral.k2, M_spec_readLiteral.k1, M_spec_readLiteral.k0, M_spec_readLiteral.stm, M_spec_readLiteral.r0, M_spec_readLiteral.r1, M_spec_readLiteral.r2, M_spec_readLiteral.r3, M_spec_readLiteral.r4, M_spec_readLiteral.r5, M_spec_readLiteral.r6, M_spec_readLiteral.r7, M_spec_readLiteral.r8, M_spec_readLiteral.r9, M_spec_readLiteral.r10, M_spec_readLiteral.r11, M_spec_readLiteral.r12, M_spec_readLiteral.init, M_spec_readLiteral.res, withH_eq, ptrE_some, add_mk, Nat.zero_add, Nat.add_zero, zEl]
  have hB : Blk (hnew h (elC false 0 0 0 false 0) 113) h.size (elC false 0 0 0 false 0) 113 := Blk.new h _ 113
  have hs1 := hs.ext (Old.new h (elC false 0 0 0 false 0) 113).ext
  have bad : ∀ b f o n r x, readLit l i = none → K b f o n r x false (hput (hnew h (elC false 0 0 0 false 0) 113) h.size (elC b f o n r x) 113) := by
    intro b f o n r x hr
    have := hK _ (old_new_put (h := h) (cs := elC false 0 0 0 false 0) (cs' := elC b f o n r x) (e := 113) (e' := 113))
    rw [hr] at this
    exact this _ _ _ _ _ _
  refine hs1.ldB hb (j := i) rfl hi fun v hv he hev => ?_
  simp (disch := omega) only [fdiv_nat, w_i64, w_u64, w_i32, w_u32, w_u16, w_u8, w_i16, Nat.reducePow]
  by_cases hn : v / 4 < 60
  · have hn' : ¬ ((v / 2 ^ 2 : Nat) : Int) ≥ 60 := by omega
    simp only [hn', decide_false, Bool.false_eq_true, if_false]
    have hr : readLit l i = litEl l (i + 1) (v / 4) := by unfold readLit; simp only [hev, hn, if_true]
    unfold litEl at hr
    by_cases hc : v / 4 + 1 ≤ l.length - (i + 1)
    · rw [if_pos hc] at hr
      rw [if_neg (by simp <;> omega)]
      refine stEl hB (ldEl (Blk.put (by simp) _ _) ?_)
      have := hK _ (old_new_put (h := h) (cs := elC false 0 0 0 false 0) (cs' := elC true (i + 1) 0 ((v / 4 : Nat) + 1) false (i + 1 + ((v / 4 : Nat) + 1))) (e := 113) (e' := 113))
      rw [hr] at this
      simp only [ElK] at this
      exact_mod_cast this
    · rw [if_neg hc] at hr
      rw [if_pos (by simp <;> omega)]
      exact stEl hB (ldEl (Blk.put (by simp) _ _) (bad _ _ _ _ _ _ hr))
  · have hn' : ((v / 2 ^ 2 : Nat) : Int) ≥ 60 := by omega
    simp only [hn', decide_true, if_true]
    refine little hs1 hb hl (i := i + 1) (n := v / 4 - 59) (by omega) (by omega) (by omega) (by omega) fun r0 hr0 => ?_
    cases hle : leAt l (i + 1) (v / 4 - 59) with
    | none =>
      have hr : readLit l i = none := by unfold readLit; simp only [hev, hn, if_false, hle]
      rw [hle, leI_none] at hr0; subst hr0
      rw [if_pos (by simp)]
      exact stEl hB (ldEl (Blk.put (by simp) _ _) (bad _ _ _ _ _ _ hr))
    | some m =>
      have hr : readLit l i = litEl l (i + 1 + (v / 4 - 59)) m := by unfold readLit; simp only [hev, hn, if_false, hle]
      have hm : m < 2 ^ 32 := by
        unfold leAt at hle
        split at hle
        · obtain rfl := Option.some.inj hle
          exact leN_len hb _ _ (by omega)
        · cases hle
      have hle2 := leAt_le hle
      rw [hle, leI_some] at hr0; subst hr0
      rw [if_neg (by simp <;> omega)]
      simp (disch := omega) only [w_i64, w_u64, w_i32, w_u32, w_u16, w_u8, w_i16, Nat.reducePow]
      unfold litEl at hr
      by_cases hc : m + 1 ≤ l.length - (i + 1 + (v / 4 - 59))
      · rw [if_pos hc] at hr
        rw [if_neg (by simp <;> omega)]
        refine stEl hB (ldEl (Blk.put (by simp) _ _) ?_)
        have := hK _ (old_new_put (h := h) (cs := elC false 0 0 0 false 0) (cs' := elC true ((i + 1 + (v / 4 - 59) : Nat) : Int) 0 (m + 1) false (((i + 1 + (v / 4 - 59) : Nat) : Int) + (m + 1))) (e := 113) (e' := 113))
        rw [hr] at this
        simp only [ElK] at this
        have e1 : ((i : Int) + 1 + (((v / 2 ^ 2 : Nat) : Int) - 59)) = ((i + 1 + (v / 4 - 59) : Nat) : Int) := by omega
        rw [e1]
        exact_mod_cast this
      · rw [if_neg hc] at hr
        rw [if_pos (by simp <;> omega)]
        exact stEl hB (ldEl (Blk.put (by simp) _ _) (bad _ _ _ _ _ _ hr))

theorem readElement {s : Sl} {h : Heap} {l : List Int} (hs : SlI h .u8 s l) (hb : Byt l) (hl : l.length < 2 ^ 40) {i : Nat} {a : Int} (ha : a = i) (hi : i < l.length) {s2 : Bool} {K : Bool → Int → Int → Int → Bool → Int → Bool → Heap → Prop}
    (hK : ∀ h', Old h h' → ElK K h' (readEl l i s2)) : c_spec_readElement s a s2 h K := by
  subst ha
  have hsl := hs.len
  apply M_spec_readElement.calls
  simp only [st_reg, st_ret, st_exit, st_skip, st_test, st_block, st_cond, sq_reg, sq_ret, sq_exit, sq_skip, sq_test, sq_cond, sq_block, sq_seq, sq_loop, SK_norm, SK_exit, SK_ret, BK_norm, BK_ret, BK_same, BK_exit, LK_norm, LK_exit, LK_ret, endK_norm, endK_ret, M_spec_readElement.stm, M_spec_readElement.k0, M_spec_readElement.k1, M_spec_readElement.k2, M_spec_readElement.init, M_spec_readElement.r0, M_spec_readElement.r1, M_spec_readElement.r2, M_spec_readElement.r3, M_spec_readElement.r4, withH_eq, ptrE_some, add_mk, Nat.zero_add, Nat.add_zero, zEl]
  have hB : Blk (hnew h (elC false 0 0 0 false 0) 113) h.size (elC false 0 0 0 false 0) 113 := Blk.new h _ 113
  have o1 := Old.new h (elC false 0 0 0 false 0) 113
  have hs1 := hs.ext o1.ext
  generalize hnew h (elC false 0 0 0 false 0) 113 = h1 at *
  -- the end: the result's block is laid anew
  have fin : ∀ h2, Old h1 h2 → ∀ b f o n r x t, (∀ h', Old h h' → K b f o n r x t h') → K b f o n r x t (hput h2 h.size (elC b f o n r x) 113) := by
    intro h2 o2 b f o n r x t hk
    exact hk _ (Keep.old (((Keep.of_old o1).trans (Keep.of_old o2)).trans (Keep.of_fr Fr.put (Nat.le_refl _))))
  have fin0 : readEl l i s2 = none → ∀ b f o n r x h', Old h h' → K b f o n r x false h' := by
    intro hr b f o n r x h' ho
    have := hK h' ho
    rw [hr] at this
    exact this _ _ _ _ _ _
  refine hs1.ldB hb (j := i) rfl hi fun v hv he hev => ?_
  simp (disch := omega) only [fdiv_nat, w_i64, w_u64, w_i32, w_u32, w_u16, w_u8, w_i16, Nat.reducePow, i64_and3]
  by_cases c0 : v % 4 = 0
  · -- a literal
    rw [if_pos (by simp [c0])]
    have hr : readEl l i s2 = readLit l i := by unfold readEl; simp only [hev, c0, if_true]
    simp only [st_reg, st_ret, st_exit, st_skip, st_test, st_block, st_cond, sq_reg, sq_ret, sq_exit, sq_skip, sq_test, sq_cond, sq_block, sq_seq, sq_loop, SK_norm, SK_exit, SK_ret, BK_norm, BK_ret, BK_same, BK_exit, LK_norm, LK_exit, LK_ret, endK_norm, endK_ret, withH_eq, ptrE_some, add_mk, Nat.zero_add, Nat.add_zero, M_spec_readElement.r4, M_spec_readElement.res]
    refine readLiteral hs1 hb hl rfl hi fun h2 o2 => ?_
    cases hl : readLit l i with
    | none =>
      intro b f o n r x
      exact stEl (o2.Blk hB) (ldEl (Blk.put (o2.Blk hB).lt _ _) (fin h2 o2 _ _ _ _ _ _ _ (fun h' ho => fin0 (by rw [hr, hl]) _ _ _ _ _ _ _ ho)))
    | some e =>
      refine stEl (o2.Blk hB) (ldEl (Blk.put (o2.Blk hB).lt _ _) (fin h2 o2 _ _ _ _ _ _ _ (fun h' ho => ?_)))
      have := hK h' ho
      rw [hr, hl] at this
      exact this
  rw [if_neg (by simp <;> omega)]
  simp only [st_reg, st_ret, st_exit, st_skip, st_test, st_block, st_cond, sq_reg, sq_ret, sq_exit, sq_skip, sq_test, sq_cond, sq_block, sq_seq, sq_loop, SK_norm, SK_exit, SK_ret, BK_norm, BK_ret, BK_same, BK_exit, LK_norm, LK_exit, LK_ret, endK_norm, endK_ret, M_spec_readElement.k3, M_spec_readElement.r5]
  have hA : ∀ cs, Blk (hnew h1 cs 113) h.size (elC false 0 0 0 false 0) 113 := fun cs => (Old.new h1 cs 113).Blk hB
  have hne : h.size ≠ h1.size := by have := hB.lt; omega
  -- what is given back is an element in a second block
  have give : ∀ b f o n r x t, (∀ h', Old h h' → K b f o n r x t h') → K b f o n r x t (hput (hnew h1 (elC b f o n r x) 113) h.size (elC b f o n r x) 113) :=
    fun b f o n r x t hk => fin _ (Old.new _ _ _) _ _ _ _ _ _ _ hk
  by_cases c1 : v % 4 = 1
  · rw [if_pos (by simp [c1])]
    simp only [st_reg, st_ret, st_exit, st_skip, st_test, st_block, st_cond, sq_reg, sq_ret, sq_exit, sq_skip, sq_test, sq_cond, sq_block, sq_seq, sq_loop, SK_norm, SK_exit, SK_ret, BK_norm, BK_ret, BK_same, BK_exit, LK_norm, LK_exit, LK_ret, endK_norm, endK_ret, M_spec_readElement.k4, M_spec_readElement.k5, M_spec_readElement.k6, M_spec_readElement.r6, M_spec_readElement.r7, M_spec_readElement.r8, M_spec_readElement.r9, withH_eq, ptrE_some, add_mk, Nat.zero_add, Nat.add_zero, zEl]
    refine little hs1 hb hl (i := i + 1) (n := 1) (by rw [w_i64 (by omega) (by omega)]; omega) (by omega) (by omega) (by omega) fun r0 hr0 => ?_
    cases hlow : leAt l (i + 1) 1 with
    | none =>
      have hr : readEl l i s2 = none := by unfold readEl; simp only [hev, c1, hlow]; simp
      rw [hlow, leI_none] at hr0; subst hr0
      simp (disch := omega) only [fdiv_nat, w_i64, w_u64, w_i32, w_u32, w_u16, w_u8, w_i16, Nat.reducePow, i64_and7]
      refine stEl (Blk.new _ _ _) ?_
      rw [if_pos (by simp), hput_new]
      simp only [M_spec_readElement.res, withH_eq, ptrE_some, add_mk, Nat.zero_add, Nat.add_zero]
      refine stEl (hA _) (ldEl (Blk.put (hA _).lt _ _) (fin _ (Old.new _ _ _) _ _ _ _ _ _ _ (fun h' ho => fin0 hr _ _ _ _ _ _ _ ho)))
    | some low =>
      have hlo : low ≤ 255 := by
        unfold leAt at hlow
        split at hlow
        · obtain rfl := Option.some.inj hlow
          have := leN_lt ((l.drop (i + 1)).take 1) ((hb.drop (i + 1)).take 1).mem
          have h2 : ((l.drop (i + 1)).take 1).length ≤ 1 := by simp; omega
          have h3 : 256 ^ ((l.drop (i + 1)).take 1).length ≤ 256 ^ 1 := Nat.pow_le_pow_right (by decide) h2
          omega
        · cases hlow
      have hle2 := leAt_le hlow
      rw [hlow, leI_some] at hr0; subst hr0
      simp (disch := omega) only [fdiv_nat, w_i64, w_u64, w_i32, w_u32, w_u16, w_u8, w_i16, Nat.reducePow, i64_and7]
      refine stEl (Blk.new _ _ _) ?_
      rw [if_neg (by simp <;> omega), hput_new]
      generalize hT : v / 32 * 256 + low = T
      have eT : ((v / 32 : Nat) : Int) * 2 ^ 8 + (low : Int) = (T : Int) := by omega
      simp only [st_reg, st_ret, st_exit, st_skip, st_test, st_block, st_cond, sq_reg, sq_ret, sq_exit, sq_skip, sq_test, sq_cond, sq_block, sq_seq, sq_loop, SK_norm, SK_exit, SK_ret, BK_norm, BK_ret, BK_same, BK_exit, LK_norm, LK_exit, LK_ret, endK_norm, endK_ret, M_spec_readElement.k7, M_spec_readElement.r10, M_spec_readElement.r11, withH_eq, ptrE_some, add_mk, Nat.zero_add, Nat.add_zero, eT]
      refine ⟨T, (Blk.new _ _ _).get rfl, ?_⟩
      have plain : 0 < T ∨ s2 = false → ∀ h', Old h h' → K false 0 T (((v / 4 % 8 : Nat) : Int) + 4) false ((i : Int) + 2) true h' := by
        intro hoff h' ho
        have hr : readEl l i s2 = some ⟨false, 0, T, v / 4 % 8 + 4, false, i + 2⟩ := by unfold readEl; simp only [hev, c1, hlow, hT, hoff, if_true]; simp
        have := hK h' ho
        rw [hr] at this
        simp only [ElK] at this
        exact_mod_cast this
      by_cases hT0 : 0 < T
      · rw [if_neg (by simp <;> omega), if_pos (by simp)]
        simp only [M_spec_readElement.res, withH_eq, ptrE_some, add_mk, Nat.zero_add, Nat.add_zero]
        refine ldEl (Blk.new _ _ _) (stEl (hA _) (ldEl (Blk.put (hA _).lt _ _) (fin _ (Old.new _ _ _) _ _ _ _ _ _ _ ?_)))
        exact plain (Or.inl hT0)
      rw [if_pos (by simp <;> omega)]
      cases s2 with
      | false =>
        rw [if_pos (by simp)]
        simp only [M_spec_readElement.res, withH_eq, ptrE_some, add_mk, Nat.zero_add, Nat.add_zero]
        refine ldEl (Blk.new _ _ _) (stEl (hA _) (ldEl (Blk.put (hA _).lt _ _) (fin _ (Old.new _ _ _) _ _ _ _ _ _ _ ?_)))
        exact plain (Or.inr rfl)
      | true =>
      rw [if_neg (by simp)]
      obtain rfl : T = 0 := by omega
      simp only [st_reg, st_ret, st_exit, st_skip, st_test, st_block, st_cond, sq_reg, sq_ret, sq_exit, sq_skip, sq_test, sq_cond, sq_block, sq_seq, sq_loop, SK_norm, SK_exit, SK_ret, BK_norm, BK_ret, BK_same, BK_exit, LK_norm, LK_exit, LK_ret, endK_norm, endK_ret, M_spec_readElement.k8, M_spec_readElement.k9, M_spec_readElement.k10, M_spec_readElement.r12, M_spec_readElement.r13, M_spec_readElement.r14, M_spec_readElement.r15, withH_eq, ptrE_some, add_mk, Nat.zero_add, Nat.add_zero]
      refine st1_blk (Blk.new _ _ _) (by simp) ?_
      simp only [hput_new, List.set_cons_succ, List.set_cons_zero]
      simp (disch := omega) only [fdiv_nat, w_i64, w_u64, w_i32, w_u32, w_u16, w_u8, w_i16, Nat.reducePow, i64_and7]
      have hz : ¬ (0 < v / 32 * 256 + low ∨ true = false) := by simp; omega
      by_cases h4 : v / 4 % 8 ≤ 4
      · rw [if_pos (by simp <;> omega)]
        have hr : readEl l i true = some ⟨false, 0, 0, v / 4 % 8 + 4, true, i + 2⟩ := by unfold readEl; simp only [hev, c1, hlow, hz, h4, if_true]; simp
        simp only [M_spec_readElement.res, withH_eq, ptrE_some, add_mk, Nat.zero_add, Nat.add_zero]
        refine ldEl (Blk.new _ _ _) (stEl (hA _) (ldEl (Blk.put (hA _).lt _ _) (fin _ (Old.new _ _ _) _ _ _ _ _ _ _ ?_)))
        intro h' ho
        have := hK h' ho
        rw [hr] at this
        simp only [ElK] at this
        exact_mod_cast this
      rw [if_neg (by simp <;> omega)]
      simp only [st_reg, st_ret, st_exit, st_skip, st_test, st_block, st_cond, sq_reg, sq_ret, sq_exit, sq_skip, sq_test, sq_cond, sq_block, sq_seq, sq_loop, SK_norm, SK_exit, SK_ret, BK_norm, BK_ret, BK_same, BK_exit, LK_norm, LK_exit, LK_ret, endK_norm, endK_ret, M_spec_readElement.k11, M_spec_readElement.k12, M_spec_readElement.k13, M_spec_readElement.k14, M_spec_readElement.r16, M_spec_readElement.r17, M_spec_readElement.r18, M_spec_readElement.r19, M_spec_readElement.r20, M_spec_readElement.r21, withH_eq, ptrE_some, add_mk, Nat.zero_add, Nat.add_zero]
      refine ⟨_, (Blk.new _ _ _).get rfl, ?_⟩
      refine little (hs1.ext (Old.new h1 _ 113).ext) hb hl (i := i + 2) (n := v / 4 % 8 - 4) (by omega) (by omega) (by omega) (by omega) fun r0 hr0 => ?_
      cases hmore : leAt l (i + 2) (v / 4 % 8 - 4) with
      | none =>
        have hr : readEl l i true = none := by unfold readEl; simp only [hev, c1, hlow, hz, h4, hmore]; simp
        rw [hmore, leI_none] at hr0; subst hr0
        rw [if_pos (by simp)]
        simp only [M_spec_readElement.res, withH_eq, ptrE_some, add_mk, Nat.zero_add, Nat.add_zero]
        exact stEl (hA _) (ldEl (Blk.put (hA _).lt _ _) (fin _ (Old.new _ _ _) _ _ _ _ _ _ _ (fun h' ho => fin0 hr _ _ _ _ _ _ _ ho)))
      | some more =>
        have hr : readEl l i true = some ⟨false, 0, 0, more + moreBase (v / 4 % 8), true, i + 2 + (v / 4 % 8 - 4)⟩ := by unfold readEl; simp only [hev, c1, hlow, hz, h4, hmore]; simp
        have hmo : more < 2 ^ 32 := by
          unfold leAt at hmore
          split at hmore
          · obtain rfl := Option.some.inj hmore
            exact leN_len hb _ _ (by omega)
          · cases hmore
        have hle3 := leAt_le hmore
        rw [hmore, leI_some] at hr0; subst hr0
        rw [if_neg (by simp <;> omega)]
        have hB3 := Blk.new h1 [.bool false, .int .i64 0, .int .i64 (0 : Nat), .int .i64 (((v / 4 % 8 : Nat) : Int) + 4), .bool true, .int .i64 ((i : Int) + 2)] 113
        have o3 := Old.new h1 [.bool false, .int .i64 0, .int .i64 (0 : Nat), .int .i64 (((v / 4 % 8 : Nat) : Int) + 4), .bool true, .int .i64 ((i : Int) + 2)] 113
        generalize hnew h1 [.bool false, .int .i64 0, .int .i64 (0 : Nat), .int .i64 (((v / 4 % 8 : Nat) : Int) + 4), .bool true, .int .i64 ((i : Int) + 2)] 113 = h3 at *
        refine ⟨by omega, by omega, (moreBase (v / 4 % 8) : Nat), (Blk.new h3 _ _).get ?_, ?_⟩
        · have : v / 4 % 8 = 5 ∨ v / 4 % 8 = 6 ∨ v / 4 % 8 = 7 := by omega
          rcases this with h | h | h <;> rw [h] <;> rfl
        have hmb : moreBase (v / 4 % 8) ≤ 65540 := by unfold moreBase; split <;> (try split) <;> omega
        have o4 := Old.new h3 [Value.int IntKind.i64 0, Value.int IntKind.i64 8, Value.int IntKind.i64 260, Value.int IntKind.i64 65540] 3
        have hB4 := o4.Blk hB3
        generalize hnew h3 [Value.int IntKind.i64 0, Value.int IntKind.i64 8, Value.int IntKind.i64 260, Value.int IntKind.i64 65540] 3 = h4 at *
        simp (disch := omega) only [w_i64, w_u64, w_i32, w_u32, w_u16, w_u8, w_i16, Nat.reducePow]
        refine st1_blk hB4 (by simp) ?_
        simp only [List.set_cons_succ, List.set_cons_zero]
        have hB5 := Blk.put hB4.lt [.bool false, .int .i64 0, .int .i64 (0 : Nat), .int .i64 ((more : Int) + (moreBase (v / 4 % 8) : Nat)), .bool true, .int .i64 ((i : Int) + 2)] 113
        have o5 : Old h1 (hput h4 h1.size [.bool false, .int .i64 0, .int .i64 (0 : Nat), .int .i64 ((more : Int) + (moreBase (v / 4 % 8) : Nat)), .bool true, .int .i64 ((i : Int) + 2)] 113) :=
          Keep.old (((Keep.of_old o3).trans (Keep.of_old o4)).trans (Keep.of_fr Fr.put (Nat.le_refl _)))
        generalize hput h4 h1.size [.bool false, .int .i64 0, .int .i64 (0 : Nat), .int .i64 ((more : Int) + (moreBase (v / 4 % 8) : Nat)), .bool true, .int .i64 ((i : Int) + 2)] 113 = h5 at *
        refine ⟨_, hB5.get rfl, ?_⟩
        refine st1_blk hB5 (by simp) ?_
        simp only [List.set_cons_succ, List.set_cons_zero]
        simp (disch := omega) only [w_i64, w_u64, w_i32, w_u32, w_u16, w_u8, w_i16, Nat.reducePow]
        have hB6 := Blk.put hB5.lt (elC false 0 (0 : Nat) ((more : Int) + (moreBase (v / 4 % 8) : Nat)) true ((i : Int) + 2 + (((v / 4 % 8 : Nat) : Int) - 4))) 113
        have o6 : Old h1 (hput h5 h1.size (elC false 0 (0 : Nat) ((more : Int) + (moreBase (v / 4 % 8) : Nat)) true ((i : Int) + 2 + (((v / 4 % 8 : Nat) : Int) - 4))) 113) :=
          Keep.old ((Keep.of_old o5).trans (Keep.of_fr Fr.put (Nat.le_refl _)))
        generalize hput h5 h1.size (elC false 0 (0 : Nat) ((more : Int) + (moreBase (v / 4 % 8) : Nat)) true ((i : Int) + 2 + (((v / 4 % 8 : Nat) : Int) - 4))) 113 = h6 at *
        simp only [M_spec_readElement.res, withH_eq, ptrE_some, add_mk, Nat.zero_add, Nat.add_zero]
        refine ldEl hB6 (stEl (o6.Blk hB) (ldEl (Blk.put (o6.Blk hB).lt _ _) (fin _ o6 _ _ _ _ _ _ _ ?_)))
        intro h' ho
        have := hK h' ho
        rw [hr] at this
        simp only [ElK] at this
        have e1 : ((i : Int) + 2 + (((v / 4 % 8 : Nat) : Int) - 4)) = ((i + 2 + (v / 4 % 8 - 4) : Nat) : Int) := by omega
        rw [e1]
        exact_mod_cast this
  · rw [if_neg (by simp <;> omega)]
    have cend : ∀ (n x : Nat), readEl l i s2 = copyEl (leAt l (i + 1) n) (v / 4 + 1) x →
        ∀ (h' : Heap), Old h h' → K false 0 (leI (leAt l (i + 1) n)) (((v / 4 : Nat) : Int) + 1) false (x : Int) (decide (leI (leAt l (i + 1) n) ≥ 0)) h' := by
      intro n x hr h' ho
      cases hle : leAt l (i + 1) n with
      | none =>
        rw [hle] at hr
        exact fin0 hr _ _ _ _ _ _ _ ho
      | some o =>
        rw [hle] at hr
        have := hK h' ho
        rw [hr] at this
        simp only [ElK] at this
        rw [leI_some, decide_eq_true (by omega)]
        exact_mod_cast this
    by_cases c2 : v % 4 = 2
    · simp only [st_reg, st_ret, st_exit, st_skip, st_test, st_block, st_cond, sq_reg, sq_ret, sq_exit, sq_skip, sq_test, sq_cond, sq_block, sq_seq, sq_loop, SK_norm, SK_exit, SK_ret, BK_norm, BK_ret, BK_same, BK_exit, LK_norm, LK_exit, LK_ret, endK_norm, endK_ret, M_spec_readElement.k15, M_spec_readElement.k16, M_spec_readElement.r22, M_spec_readElement.r23, M_spec_readElement.r24, withH_eq, ptrE_some, add_mk, Nat.zero_add, Nat.add_zero, zEl]
      rw [if_pos (by simp [c2])]
      refine little hs1 hb hl (i := i + 1) (n := 2) (by rw [w_i64 (by omega) (by omega)]; omega) (by omega) (by omega) (by omega) fun r0 hr0 => ?_
      subst hr0
      simp (disch := omega) only [fdiv_nat, w_i64, w_u64, w_i32, w_u32, w_u16, w_u8, w_i16, Nat.reducePow]
      refine stEl (Blk.new _ _ _) ?_
      rw [hput_new]
      simp only [M_spec_readElement.res, withH_eq, ptrE_some, add_mk, Nat.zero_add, Nat.add_zero]
      have hr : readEl l i s2 = copyEl (leAt l (i + 1) 2) (v / 4 + 1) (i + 3) := by
        unfold readEl; simp only [hev, c2]; simp
      have ce := cend 2 (i + 3) hr
      push_cast at ce
      refine ldEl (Blk.new _ _ _) ⟨⟨_, (Blk.new _ _ _).get rfl, ?_⟩, ?_⟩
      all_goals refine stEl (hA _) ?_
      · exact ldEl (Blk.put (hA _).lt _ _) (fin _ (Old.new _ _ _) _ _ _ _ _ _ _ ce)
      · exact ⟨_, ((Blk.new _ _ _).put_ne (by omega)).get rfl, ldEl (Blk.put (hA _).lt _ _) (fin _ (Old.new _ _ _) _ _ _ _ _ _ _ ce)⟩
    · simp only [st_reg, st_ret, st_exit, st_skip, st_test, st_block, st_cond, sq_reg, sq_ret, sq_exit, sq_skip, sq_test, sq_cond, sq_block, sq_seq, sq_loop, SK_norm, SK_exit, SK_ret, BK_norm, BK_ret, BK_same, BK_exit, LK_norm, LK_exit, LK_ret, endK_norm, endK_ret, M_spec_readElement.k15, M_spec_readElement.k17, M_spec_readElement.r22, M_spec_readElement.r25, M_spec_readElement.r26, withH_eq, ptrE_some, add_mk, Nat.zero_add, Nat.add_zero, zEl]
      rw [if_neg (by simp <;> omega)]
      refine little hs1 hb hl (i := i + 1) (n := 4) (by rw [w_i64 (by omega) (by omega)]; omega) (by omega) (by omega) (by omega) fun r0 hr0 => ?_
      subst hr0
      simp (disch := omega) only [fdiv_nat, w_i64, w_u64, w_i32, w_u32, w_u16, w_u8, w_i16, Nat.reducePow]
      refine stEl (Blk.new _ _ _) ?_
      rw [hput_new]
      simp only [M_spec_readElement.res, withH_eq, ptrE_some, add_mk, Nat.zero_add, Nat.add_zero]
      have hr : readEl l i s2 = copyEl (leAt l (i + 1) 4) (v / 4 + 1) (i + 5) := by
        unfold readEl; simp only [hev, c2, c1, c0, if_false]
      have ce := cend 4 (i + 5) hr
      push_cast at ce
      refine ldEl (Blk.new _ _ _) ⟨⟨_, (Blk.new _ _ _).get rfl, ?_⟩, ?_⟩
      all_goals refine stEl (hA _) ?_
      · exact ldEl (Blk.put (hA _).lt _ _) (fin _ (Old.new _ _ _) _ _ _ _ _ _ _ ce)
      · exact ⟨_, ((Blk.new _ _ _).put_ne (by omega)).get rfl, ldEl (Blk.put (hA _).lt _ _) (fin _ (Old.new _ _ _) _ _ _ _ _ _ _ ce)⟩
end Go.Proofs.YtibleenkgmkpmaaDoor
