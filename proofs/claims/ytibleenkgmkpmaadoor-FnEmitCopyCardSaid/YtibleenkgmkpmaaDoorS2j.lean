/- A part of the proof. -/
import Derived.Test.YtibleenkgmkpmaaDoorS2i
import Derived.Test.YtibleenkgmkpmaaDoorS2r
import Derived.Test.YtibleenkgmkpmaaDoorModels2
set_option linter.unusedSimpArgs false
set_option linter.unusedVariables false
set_option linter.unusedSectionVars false
namespace Go.Vc
theorem mk_one (z : Value) (n : Nat) : madeCells #[z] n = (List.replicate n z).toArray := by
  apply Array.toList_inj.1
  apply List.ext_getElem?
  intro j
  by_cases hj : j < n
  · simp [madeCells, hj, Nat.mod_one]
  · simp [madeCells, hj]
theorem mkT_one {P : Program} {e : TypeId} {z : Value} {n : Nat} {h : Heap} {K : Addr → Nat → Nat → Heap → Prop} (hn : n ≤ 2 ^ 40) (h1 : typeSize P e = 1) (hb : typeBytes P e ≤ 8) (hz : zcells P e = [z])
    (hK : K ⟨h.size, 0, none⟩ n n (hnew h (List.replicate n z) e)) : mkT P e n n h K := by
  have : typeBytes P e * n ≤ 8 * n := Nat.mul_le_mul_right _ hb
  refine ⟨by omega, by omega, by omega, by omega, ?_⟩
  · have e1 : mkH P e n h = hnew h (List.replicate n z) e := by
      unfold mkH hnew
      rw [h1, hz, Int.toNat_natCast, Nat.mul_one]
      have : madeCells [z].toArray n = (List.replicate n z).toArray := mk_one z n
      rw [this]
    rw [e1, Int.toNat_natCast]
    exact hK
theorem Own.empty {B : Nat} {h : Heap} (k : IntKind) (e : TypeId) (hB : B ≤ h.size) : Own B (hnew h [] e) k e ⟨some ⟨h.size, 0, none⟩, 0, 0⟩ [] :=
  ⟨rfl, Nat.le_refl _, Or.inr ⟨h.size, [], rfl, hB, Blk.new _ _ _, rfl, rfl⟩⟩
end Go.Vc
namespace Go.Proofs.YtibleenkgmkpmaaDoor
open Go Go.Vc Go.Ml Go.S2

theorem or_shift {n b i : Nat} (hi : i ≤ 4) (hn : n < 2 ^ (7 * i)) (hb : b ≤ 255) : bOr .u64 (n : Int) (IntKind.wrap .u64 (IntKind.wrap .u64 (b : Int) * 2 ^ (7 * i))) = ((n + b * 2 ^ (7 * i) : Nat) : Int) := by
  have hB : (2 : Nat) ^ IntKind.u64.bits = 18446744073709551616 := by rfl
  have hp := pow7 hi
  have hq : b * 2 ^ (7 * i) ≤ 255 * 2 ^ 28 := Nat.mul_le_mul hb hp
  have e : (b : Int) * 2 ^ (7 * i) = ((b * 2 ^ (7 * i) : Nat) : Int) := by push_cast; rfl
  rw [w_u64 (x := (b : Int)) (by omega) (by omega), e, w_u64 (by omega) (by omega), or_nat rfl (by rw [hB]; omega) (by rw [hB]; omega), or_add hn]

section
variable {S : Sl} {l : List Int} {h : Heap}

set_option maxRecDepth 100000 in
theorem Uvarint (hS : SlI h .u8 S l) (hb : Byt l) (hl : l.length < 2 ^ 36) {K : Int → Int → Heap → Prop} (hK : ∀ x n : Int, (dlen l = none → n ≤ 0 ∨ 5 < n ∨ 4294967295 < x) → (∀ v k : Nat, dlen l = some (v, k) → x = v ∧ n = k) → K x n h) : c_Uvarint S h K := by
  have hsl := hS.len
  apply M_Uvarint.calls
  simp only [st_reg, st_ret, st_exit, st_skip, st_test, st_block, st_cond, sq_reg, sq_ret, sq_exit, sq_skip, sq_test, sq_cond, sq_block, sq_seq, sq_loop, SK_norm, SK_exit, SK_ret, BK_norm, BK_ret, BK_same, BK_exit, LK_norm, LK_exit, LK_ret, endK_norm, endK_ret, M_Uvarint.stm, M_Uvarint.k0, M_Uvarint.k1, M_Uvarint.k2, M_Uvarint.k3, M_Uvarint.init, M_Uvarint.r0, M_Uvarint.r1, M_Uvarint.r2, M_Uvarint.r3, M_Uvarint.r15]
  refine loop_rule (I := fun s' h' => h' = h ∧ s'.t8 = S ∧ s'.t9 = l.length ∧ ∃ i : Nat, s'.t10 = i ∧ i ≤ l.length ∧ i ≤ 10 ∧ s'.x_s = ((7 * i : Nat) : Int) ∧ (i ≤ 4 → ∃ n : Nat, s'.x_x = n ∧ n < 2 ^ (7 * i) ∧ vlen l (5 - i) i n = dlen l) ∧ (5 ≤ i → dlen l = none)) (μ := fun s' _ => (l.length - s'.t10).toNat) ?_ ?_
  · exact ⟨rfl, rfl, by rw [← hsl], 0, rfl, by omega, by omega, rfl, fun _ => ⟨0, rfl, by decide, rfl⟩, fun h => by omega⟩
  · rintro s' h' ⟨rfl, e8, e9, i, e10, hi, hi10, es, hlo, hhi⟩
    simp only [st_reg, st_ret, st_exit, st_skip, st_test, st_block, st_cond, sq_reg, sq_ret, sq_exit, sq_skip, sq_test, sq_cond, sq_block, sq_seq, sq_loop, SK_norm, SK_exit, SK_ret, BK_norm, BK_ret, BK_same, BK_exit, LK_norm, LK_exit, LK_ret, endK_norm, endK_ret, M_Uvarint.k4, M_Uvarint.k5, M_Uvarint.res, M_Uvarint.r4, e8, e9, e10, es]
    by_cases hc : (i : Int) < l.length
    · rw [if_pos (by simpa using hc)]
      simp only [st_reg, st_ret, st_exit, st_skip, st_test, st_block, st_cond, sq_reg, sq_ret, sq_exit, sq_skip, sq_test, sq_cond, sq_block, sq_seq, sq_loop, SK_norm, SK_exit, SK_ret, BK_norm, BK_ret, BK_same, BK_exit, LK_norm, LK_exit, LK_ret, endK_norm, endK_ret, M_Uvarint.k6, M_Uvarint.k7, M_Uvarint.k8, M_Uvarint.k9, M_Uvarint.res, M_Uvarint.r5, M_Uvarint.r14, M_Uvarint.r6, M_Uvarint.r7, M_Uvarint.r8, M_Uvarint.r12, M_Uvarint.r13, M_Uvarint.r9, M_Uvarint.r10, M_Uvarint.r11, e8, e9, e10, es]
      refine hS.ldB hb (j := i) rfl (by omega) fun v hv he hev => ?_
      by_cases h10 : i = 10
      · rw [if_pos (by simp; omega)]
        refine hK _ _ (fun _ => Or.inl ?_) (fun v k hd => by rw [hhi (by omega)] at hd; cases hd)
        simp (disch := omega) only [w_i64, w_u64, w_i32, w_u32, w_u16, w_u8, w_i16, Nat.reducePow]; omega
      rewrite [if_neg (by simp <;> omega)]
      rcases Nat.lt_or_ge v 128 with hlt | hlt
      · rw [if_pos (by simp <;> omega)]
        have big : 5 ≤ i → ∀ x : Int, K x (IntKind.i64.wrap (i + 1)) h' := by
          intro h5 x
          refine hK _ _ (fun _ => Or.inr (Or.inl ?_)) (fun v k hd => by rw [hhi h5] at hd; cases hd)
          simp (disch := omega) only [w_i64, w_u64, w_i32, w_u32, w_u16, w_u8, w_i16, Nat.reducePow]; omega
        have last : (if ((7 * i : Nat) : Int) < 0 then False else K (bOr .u64 s'.x_x (IntKind.u64.wrap (IntKind.u64.wrap v * 2 ^ (min (Int.toNat ((7 * i : Nat) : Int)) 64)))) (IntKind.i64.wrap (i + 1)) h') := by
          rw [if_neg (by omega)]
          by_cases h5 : 5 ≤ i
          · exact big h5 _
          obtain ⟨n, ex, hn, hd⟩ := hlo (by omega)
          rw [ex, Int.toNat_natCast, show min (7 * i) 64 = 7 * i by omega, or_shift (by omega) hn hv]
          rw [show 5 - i = (4 - i) + 1 by omega] at hd
          unfold vlen at hd
          rw [if_neg (by omega)] at hd
          simp only at hd
          rw [hev, if_neg (by omega), show v % 128 = v by omega] at hd
          simp (disch := omega) only [w_i64, w_u64, w_i32, w_u32, w_u16, w_u8, w_i16, Nat.reducePow]
          by_cases hbig : 2 ^ 32 ≤ n + v * 2 ^ (7 * i)
          · rw [if_pos hbig] at hd
            refine hK _ _ (fun _ => Or.inr (Or.inr (by omega))) (fun v k hd2 => by rw [← hd] at hd2; cases hd2)
          · rw [if_neg hbig] at hd
            refine hK _ _ (fun hd2 => by rw [← hd] at hd2; cases hd2) (fun v k hd2 => ?_)
            rw [← hd] at hd2
            simp only [Option.some.injEq, Prod.mk.injEq] at hd2
            exact ⟨by rw [hd2.1], by omega⟩
        by_cases h9 : i = 9
        · rw [if_pos (by simp [h9])]
          by_cases hv1 : (v : Int) > 1
          · rw [if_pos (by simpa using hv1)]
            refine hK _ _ (fun _ => Or.inl ?_) (fun v k hd => by rw [hhi (by omega)] at hd; cases hd)
            simp (disch := omega) only [w_i64, w_u64, w_i32, w_u32, w_u16, w_u8, w_i16, Nat.reducePow]; omega
          · rw [if_neg (by simpa using hv1)]
            exact last
        · rw [if_neg (by simp; omega)]
          simpa using last
      · rw [if_neg (by simp <;> omega)]
        rw [if_neg (by omega)]
        simp (disch := omega) only [w_i64, w_u64, w_i32, w_u32, w_u16, w_u8, w_i16, Nat.reducePow, u8_and127]
        refine ⟨⟨trivial, by first | trivial | rfl, by first | trivial | rfl, i + 1, by omega, by omega, by omega, by omega, ?_, ?_⟩, by omega⟩
        · intro h4
          obtain ⟨n, ex, hn, hd⟩ := hlo (by omega)
          have ht : ((7 * (i : Int))).toNat = 7 * i := by omega
          refine ⟨n + v % 128 * 2 ^ (7 * i), ?_, ?_, ?_⟩
          · rw [ex, show (Int.toNat ((7 * i : Nat) : Int)) = 7 * i by omega, show min (7 * i) 64 = 7 * i by omega]
            have := or_shift (n := n) (b := v % 128) (i := i) (by omega) hn (by omega)
            rw [w_u64 (x := ((v % 128 : Nat) : Int)) (by omega) (by omega)] at this
            exact this
          · rw [show 7 * (i + 1) = 7 * i + 7 by omega, Nat.pow_add]
            have : v % 128 * 2 ^ (7 * i) ≤ 127 * 2 ^ (7 * i) := Nat.mul_le_mul_right _ (by omega)
            omega
          · rw [← hd, show 5 - i = (5 - (i + 1)) + 1 by omega]
            conv => rhs; unfold vlen
            rw [if_neg (by omega)]
            simp only
            rw [hev, if_pos (by omega)]
        · intro h5
          by_cases h4 : i = 4
          · obtain ⟨n, ex, hn, hd⟩ := hlo (by omega)
            subst h4
            rw [← hd]
            show vlen l 1 4 n = none
            simp only [vlen]
            rw [if_neg (by omega), hev, if_pos (by omega)]
          · exact hhi (by omega)
    · rw [if_neg (by simpa using hc)]
      simp only [st_reg, st_ret, st_exit, st_skip, st_test, st_block, st_cond, sq_reg, sq_ret, sq_exit, sq_skip, sq_test, sq_cond, sq_block, sq_seq, sq_loop, SK_norm, SK_exit, SK_ret, BK_norm, BK_ret, BK_same, BK_exit, LK_norm, LK_exit, LK_ret, endK_norm, endK_ret, M_Uvarint.k2, M_Uvarint.res, M_Uvarint.r3, M_Uvarint.r15]
      have hno : dlen l = none := by
        by_cases h5 : 5 ≤ i
        · exact hhi h5
        · obtain ⟨n, _, _, hd⟩ := hlo (by omega)
          rw [← hd, show 5 - i = (4 - i) + 1 by omega]
          unfold vlen
          rw [if_pos (by omega)]
      exact hK 0 0 (fun _ => Or.inl (by omega)) (fun v k hd => by rw [hno] at hd; cases hd)

theorem decodedLen (hS : SlI h .u8 S l) (hb : Byt l) (hl : l.length < 2 ^ 36) {E : Value} (hE : hcell h ⟨0, 0, none⟩ = some E) {K : Int → Int → Value → Heap → Prop} (hbad : dlen l = none → K 0 0 E h) (hok : ∀ v k : Nat, dlen l = some (v, k) → k ≤ l.length → v < 2 ^ 32 → K v k .nilIface h) : c_decodedLen S h K := by
  apply M_decodedLen.calls
  simp only [st_reg, st_ret, st_exit, st_skip, st_test, st_block, st_cond, sq_reg, sq_ret, sq_exit, sq_skip, sq_test, sq_cond, sq_block, sq_seq, sq_loop, SK_norm, SK_exit, SK_ret, BK_norm, BK_ret, BK_same, BK_exit, LK_norm, LK_exit, LK_ret, endK_norm, endK_ret, M_decodedLen.stm, M_decodedLen.k0, M_decodedLen.k1, M_decodedLen.k2, M_decodedLen.init, M_decodedLen.res, M_decodedLen.r0, M_decodedLen.r1, M_decodedLen.r2, M_decodedLen.r3, M_decodedLen.r4, M_decodedLen.r5, M_decodedLen.r6]
  refine Uvarint hS hb hl fun x n h1 h2 => ?_
  cases hd : dlen l with
  | none =>
    have h1' := h1 hd
    have hb' := hbad hd
    have key : ∃ u : Value, hcell h ⟨0, 0, none⟩ = some u ∧ K 0 0 u h := ⟨E, hE, hb'⟩
    by_cases g1 : n ≤ 0
    · rw [if_neg (by simp <;> omega)]
      simpa using key
    · rw [if_pos (by simp <;> omega)]
      by_cases g2 : n > 5
      · rw [if_neg (by simp <;> omega)]
        simpa using key
      · rw [if_pos (by simp <;> omega), if_pos (by simp <;> omega)]
        exact key
  | some vk =>
    obtain ⟨v, k⟩ := vk
    obtain ⟨rfl, rfl⟩ := h2 v k hd
    have hv := vlen_ok hd
    rw [if_pos (by simp <;> omega), if_pos (by simp <;> omega), if_neg (by simp <;> omega), if_neg (by simp)]
    simp (disch := omega) only [w_i64, w_u64, w_i32, w_u32, w_u16, w_u8, w_i16, Nat.reducePow]
    exact hok v k hd hv.2.1 hv.1

theorem i64_shift {n b i : Nat} (hi : i < 9) (hn : n < 2 ^ 40) (hb : b ≤ 255) : IntKind.wrap .i64 ((n : Int) + IntKind.wrap .i64 (bAnd .i64 (b : Int) 127 * 2 ^ (7 * i))) = ((n + b % 128 * 2 ^ (7 * i) : Nat) : Int) := by
  have hp : 2 ^ (7 * i) ≤ 2 ^ 56 := Nat.pow_le_pow_right (by decide) (by omega)
  have hq : b % 128 * 2 ^ (7 * i) ≤ 127 * 2 ^ 56 := Nat.mul_le_mul (by omega) hp
  have e : ((b % 128 : Nat) : Int) * 2 ^ (7 * i) = ((b % 128 * 2 ^ (7 * i) : Nat) : Int) := by push_cast; rfl
  rw [Vc.i64_and127 (x := b) (by omega), e, w_i64 (x := ((b % 128 * 2 ^ (7 * i) : Nat) : Int)) (by omega) (by omega), w_i64 (by omega) (by omega)]
  exact (Int.natCast_add _ _).symm


theorem ite2_neg {p q : Prop} [Decidable p] [Decidable q] {A A' B : Prop} (h : ¬ (p ∧ q)) : (if p then (if q then A else B) else (if false = true then A' else B)) = B := by
  by_cases hp : p
  · rw [if_pos hp, if_neg (fun hq => h ⟨hp, hq⟩)]
  · rw [if_neg hp, if_neg (by simp)]

theorem S2Len_k5 {st : M_spec_S2Len.St} {Q : Ex → M_spec_S2Len.St → Heap → Prop} {i n v : Nat} (e2 : st.x_i = i) (e3 : st.x_n = n) (e4 : st.x_b = v) (hi : i < 10)
    (hcont : 128 ≤ v → Q (.exit 1) st h)
    (hret : v < 128 → ∀ (st' : M_spec_S2Len.St) (a b c : Nat), st'.x_n = a → st'.x_used = b → st'.x_ok = c → (if 2 ^ 32 ≤ n then (0, 0, 0) else if 0 < i ∧ v = 0 ∨ 4 < i then (n, i + 1, 2) else (n, i + 1, 1)) = (a, b, c) → Q .ret st' h) : M_spec_S2Len.k5 st h Q := by
  simp only [st_reg, st_ret, st_exit, st_skip, st_test, st_block, st_cond, sq_reg, sq_ret, sq_exit, sq_skip, sq_test, sq_cond, sq_block, sq_seq, sq_loop, SK_norm, SK_exit, SK_ret, BK_norm, BK_ret, BK_same, BK_exit, LK_norm, LK_exit, LK_ret, endK_norm, endK_ret, M_spec_S2Len.k5, M_spec_S2Len.k6, M_spec_S2Len.k7, M_spec_S2Len.r7, M_spec_S2Len.r8, M_spec_S2Len.r9, M_spec_S2Len.r12, M_spec_S2Len.r10, M_spec_S2Len.r11, e2, e3, e4]
  rcases Nat.lt_or_ge v 128 with hv | hv
  · rw [if_neg (by simp <;> omega)]
    have hret := hret hv
    by_cases h1 : 2 ^ 32 ≤ n
    · rw [if_pos (by simp <;> omega)]
      rw [if_pos h1] at hret
      exact hret _ 0 0 0 (by rfl) (by rfl) (by rfl) rfl
    rw [if_neg (by simp <;> omega)]
    rw [if_neg h1] at hret
    have w1 : IntKind.wrap .i64 ((i : Int) + 1) = ((i + 1 : Nat) : Int) := by rw [w_i64 (by omega) (by omega)]; omega
    by_cases h0 : 0 < i
    · rw [if_pos (by simp <;> omega)]
      by_cases hv0 : v = 0
      · rw [if_neg (by simp [hv0]), if_pos trivial]
        rw [if_pos (Or.inl ⟨h0, hv0⟩)] at hret
        exact hret _ n (i + 1) 2 (by rfl) (by exact w1) (by rfl) rfl
      · rw [if_pos (by simp <;> omega)]
        by_cases h4 : 4 < i
        · rw [if_pos (by simp <;> omega)]
          rw [if_pos (Or.inr h4)] at hret
          exact hret _ n (i + 1) 2 (by rfl) (by exact w1) (by rfl) rfl
        · rw [if_neg (by simp <;> omega)]
          rw [if_neg (by omega)] at hret
          exact hret _ n (i + 1) 1 (by rfl) (by exact w1) (by rfl) rfl
    · rw [if_neg (by simp <;> omega), if_neg (by simp <;> omega)]
      rw [if_neg (by omega)] at hret
      exact hret _ n (i + 1) 1 (by rfl) (by exact w1) (by rfl) rfl
  · rw [if_pos (by simp <;> omega)]
    exact hcont hv

set_option maxRecDepth 100000 in
theorem S2Len (hS : SlI h .u8 S l) (hb : Byt l) (hl : l.length < 2 ^ 36) {K : Int → Int → Int → Heap → Prop} (hK : ∀ n u o : Nat, s2len l = (n, u, o) → K n u o h) : c_spec_S2Len S h K := by
  have hsl := hS.len
  apply M_spec_S2Len.calls
  simp only [st_reg, st_ret, st_exit, st_skip, st_test, st_block, st_cond, sq_reg, sq_ret, sq_exit, sq_skip, sq_test, sq_cond, sq_block, sq_seq, sq_loop, SK_norm, SK_exit, SK_ret, BK_norm, BK_ret, BK_same, BK_exit, LK_norm, LK_exit, LK_ret, endK_norm, endK_ret, M_spec_S2Len.stm, M_spec_S2Len.k0, M_spec_S2Len.k1, M_spec_S2Len.init, M_spec_S2Len.r0, M_spec_S2Len.r1]
  refine loop_rule (I := fun s' h' => h' = h ∧ s'.x_src = S ∧ ∃ i n : Nat, s'.x_i = i ∧ i ≤ l.length ∧ i ≤ 10 ∧ s'.x_n = n ∧ n < 2 ^ 63 ∧ slen l (10 - i) i n = s2len l) (μ := fun s' _ => (l.length - s'.x_i).toNat) ?_ ?_
  · exact ⟨rfl, rfl, 0, 0, rfl, by omega, by omega, rfl, by decide, rfl⟩
  · rintro s' h' ⟨rfl, e1, i, n, e2, hi, hi10, e3, hn, hd⟩
    simp only [st_reg, st_ret, st_exit, st_skip, st_test, st_block, st_cond, sq_reg, sq_ret, sq_exit, sq_skip, sq_test, sq_cond, sq_block, sq_seq, sq_loop, SK_norm, SK_exit, SK_ret, BK_norm, BK_ret, BK_same, BK_exit, LK_norm, LK_exit, LK_ret, endK_norm, endK_ret, M_spec_S2Len.k2, M_spec_S2Len.res, M_spec_S2Len.r2, e1, e2, e3, hsl]
    by_cases hc : i < l.length ∧ i < 10
    · rw [if_pos (by simp <;> omega), if_pos (by simp <;> omega)]
      simp only [st_reg, st_ret, st_exit, st_skip, st_test, st_block, st_cond, sq_reg, sq_ret, sq_exit, sq_skip, sq_test, sq_cond, sq_block, sq_seq, sq_loop, SK_norm, SK_exit, SK_ret, BK_norm, BK_ret, BK_same, BK_exit, LK_norm, LK_exit, LK_ret, endK_norm, endK_ret, M_spec_S2Len.k3, M_spec_S2Len.k4, M_spec_S2Len.r4, M_spec_S2Len.r3, M_spec_S2Len.r5, M_spec_S2Len.r6, e1, e2, e3]
      refine hS.ldB hb (j := i) rfl (by omega) fun v hv he hev => ?_
      simp (disch := omega) only [w_i64, w_u64, w_i32, w_u32, w_u16, w_u8, w_i16, Nat.reducePow]
      rw [show 10 - i = (9 - i) + 1 by omega] at hd
      unfold slen at hd
      rw [if_neg (by omega)] at hd
      simp only at hd
      rw [hev] at hd
      by_cases hg : i < 9 ∧ n < 2 ^ 40
      · rw [if_pos (by simp <;> omega), if_pos (by simp <;> omega), if_neg (by omega)]
        rw [if_pos hg] at hd
        have hp : 2 ^ (7 * i) ≤ 2 ^ 56 := Nat.pow_le_pow_right (by decide) (by omega)
        have hq : v % 128 * 2 ^ (7 * i) ≤ 127 * 2 ^ 56 := Nat.mul_le_mul (by omega) hp
        refine S2Len_k5 (n := n + v % 128 * 2 ^ (7 * i)) rfl ?_ rfl (by omega) ?_ ?_
        · simp only
          rw [show min (7 * (i : Int)).toNat 64 = 7 * i by omega]
          exact i64_shift hg.1 hg.2 hv
        · intro hv1
          rw [if_pos hv1] at hd
          simp only [st_reg, st_ret, st_exit, st_skip, st_test, st_block, st_cond, sq_reg, sq_ret, sq_exit, sq_skip, sq_test, sq_cond, sq_block, sq_seq, sq_loop, SK_norm, SK_exit, SK_ret, BK_norm, BK_ret, BK_same, BK_exit, LK_norm, LK_exit, LK_ret, endK_norm, endK_ret, M_spec_S2Len.k3, M_spec_S2Len.r4, M_spec_S2Len.r3]
          simp (disch := omega) only [w_i64, w_u64, w_i32, w_u32, w_u16, w_u8, w_i16, Nat.reducePow]
          exact ⟨⟨trivial, trivial, i + 1, n + v % 128 * 2 ^ (7 * i), by omega, by omega, by omega, by rw [show min (7 * (i : Int)).toNat 64 = 7 * i by omega]; exact i64_shift hg.1 hg.2 hv, by omega, by rw [show 10 - (i + 1) = 9 - i by omega]; exact hd⟩, by omega⟩
        · intro hv1 st' a b c ea eb ec hr
          rw [if_neg (by omega), hr] at hd
          simp only [st_reg, st_ret, st_exit, st_skip, st_test, st_block, st_cond, sq_reg, sq_ret, sq_exit, sq_skip, sq_test, sq_cond, sq_block, sq_seq, sq_loop, SK_norm, SK_exit, SK_ret, BK_norm, BK_ret, BK_same, BK_exit, LK_norm, LK_exit, LK_ret, endK_norm, endK_ret, M_spec_S2Len.k3, M_spec_S2Len.res, M_spec_S2Len.r4, M_spec_S2Len.r3]
          rw [ea, eb, ec]
          exact hK a b c hd.symm
      · rw [if_neg hg] at hd
        rw [ite2_neg (by simp <;> omega)]
        · refine S2Len_k5 (n := n) rfl rfl rfl (by omega) ?_ ?_
          · intro hv1
            rw [if_pos hv1] at hd
            simp only [st_reg, st_ret, st_exit, st_skip, st_test, st_block, st_cond, sq_reg, sq_ret, sq_exit, sq_skip, sq_test, sq_cond, sq_block, sq_seq, sq_loop, SK_norm, SK_exit, SK_ret, BK_norm, BK_ret, BK_same, BK_exit, LK_norm, LK_exit, LK_ret, endK_norm, endK_ret, M_spec_S2Len.k3, M_spec_S2Len.r4, M_spec_S2Len.r3]
            simp (disch := omega) only [w_i64, w_u64, w_i32, w_u32, w_u16, w_u8, w_i16, Nat.reducePow]
            exact ⟨⟨trivial, trivial, i + 1, n, by omega, by omega, by omega, rfl, by omega, by rw [show 10 - (i + 1) = 9 - i by omega]; exact hd⟩, by omega⟩
          · intro hv1 st' a b c ea eb ec hr
            rw [if_neg (by omega), hr] at hd
            simp only [st_reg, st_ret, st_exit, st_skip, st_test, st_block, st_cond, sq_reg, sq_ret, sq_exit, sq_skip, sq_test, sq_cond, sq_block, sq_seq, sq_loop, SK_norm, SK_exit, SK_ret, BK_norm, BK_ret, BK_same, BK_exit, LK_norm, LK_exit, LK_ret, endK_norm, endK_ret, M_spec_S2Len.k3, M_spec_S2Len.res, M_spec_S2Len.r4, M_spec_S2Len.r3]
            rw [ea, eb, ec]
            exact hK a b c hd.symm
    · have fin : K ((if 5 < l.length then 0 else 0 : Nat) : Int) ((if 5 < l.length then 0 else 0 : Nat) : Int) ((if 5 < l.length then 2 else 0 : Nat) : Int) h' := by
        refine hK _ _ _ ?_
        rw [← hd]
        rcases Nat.lt_or_ge i 10 with h10 | h10
        · rw [show 10 - i = (9 - i) + 1 by omega]
          unfold slen
          rw [if_pos (by omega)]
          split <;> rfl
        · rw [show 10 - i = 0 by omega]
          unfold slen
          split <;> rfl
      have e : M_spec_S2Len.k8 s' h' (endK (M_spec_S2Len.res K)) := by
        simp only [st_reg, st_ret, st_exit, st_skip, st_test, st_block, st_cond, sq_reg, sq_ret, sq_exit, sq_skip, sq_test, sq_cond, sq_block, sq_seq, sq_loop, SK_norm, SK_exit, SK_ret, BK_norm, BK_ret, BK_same, BK_exit, LK_norm, LK_exit, LK_ret, endK_norm, endK_ret, M_spec_S2Len.k8, M_spec_S2Len.res, M_spec_S2Len.r13, M_spec_S2Len.r14, M_spec_S2Len.r15, e1, hsl]
        by_cases h5 : 5 < l.length
        · rw [if_pos (by simp <;> omega)]
          simpa [h5] using fin
        · rw [if_neg (by simp <;> omega)]
          simpa [h5] using fin
      by_cases hc1 : i < l.length
      · rw [if_pos (by simp <;> omega), if_neg (by simp <;> omega)]
        exact e
      · rw [if_neg (by simp <;> omega), if_neg (by simp)]
        exact e
end
end Go.Proofs.YtibleenkgmkpmaaDoor
