/- A part of the proof. -/
import Derived.Test.YtibleenkgmkpmaaDoorS2c
import Derived.Test.YtibleenkgmkpmaaDoorModels1
set_option linter.unusedSimpArgs false
set_option linter.unusedVariables false
set_option linter.unusedSectionVars false
namespace Go.Proofs.YtibleenkgmkpmaaDoor
open Go Go.Vc Go.Ml Go.S2

theorem copyPartA {N db last len : Nat} {out M : List Int} {h : Heap} {st : M_s2Decode.St} {Q : Ex → M_s2Decode.St → Heap → Prop} {c : Nat} {dp : Option Addr}
    (eD : st.x_dst = ⟨dp, N, c⟩) (hdp : 0 < N → dp = some ⟨db, 0, none⟩) (hc : N ≤ c) (ed : st.x_d = out.length) (el : st.x_length = len) (eo : st.x_offset = last)
    (HB : 0 < N → Blk h db (M.map (Value.int .u8)) 5) (hM : M.length = N) (hMo : M.take out.length = out) (hN : N < 2 ^ 36) (hlen0 : 0 < len) (hlen : len < 2 ^ 38) (hlast : last < 2 ^ 38) (hout : out.length ≤ N)
    (hbad : last = 0 ∨ out.length < last ∨ N < out.length + len → ∀ st' : M_s2Decode.St, st'.t4 = 1 → Q .ret st' h)
    (hok : 0 < last → last ≤ out.length → out.length + len ≤ N → ∀ (st' : M_s2Decode.St) (h' : Heap) (M' : List Int), st'.x_dst = st.x_dst → st'.x_src = st.x_src → st'.x_s = st.x_s → st'.x_offset = st.x_offset → st'.x_d = ((out.length + len : Nat) : Int) →
      Blk h' db (M'.map (Value.int .u8)) 5 → M'.length = N → M'.take (out.length + len) = fwd out last len → Fr (· = db) h h' → Q .norm st' h') :
    M_s2Decode.k31 st h (BK 1 Q) := by
  have hMl : out.length ≤ M.length := by omega
  simp only [st_reg, st_ret, st_exit, st_skip, st_test, st_block, st_cond, sq_reg, sq_ret, sq_exit, sq_skip, sq_test, sq_cond, sq_block, sq_seq, sq_loop, SK_norm, SK_exit, SK_ret, BK_norm, BK_ret, BK_same, BK_exit, LK_norm, LK_exit, LK_ret, endK_norm, endK_ret, M_s2Decode.k31, M_s2Decode.k32, M_s2Decode.r54, M_s2Decode.r55, M_s2Decode.r56, eD, ed, el, eo]
  simp (disch := omega) only [w_i64, w_u64, w_i32, w_u32, w_u16, w_u8, w_i16, Nat.reducePow]
  by_cases b1 : last = 0
  · rw [if_neg (by simp <;> omega), if_pos trivial]
    exact hbad (Or.inl b1) _ rfl
  rw [if_pos (by simp <;> omega)]
  by_cases b2 : out.length < last
  · rw [if_neg (by simp <;> omega), if_pos trivial]
    exact hbad (Or.inr (Or.inl b2)) _ rfl
  rw [if_pos (by simp <;> omega)]
  by_cases b3 : N < out.length + len
  · rw [if_pos (by simp <;> omega)]
    exact hbad (Or.inr (Or.inr b3)) _ rfl
  rw [if_neg (by simp <;> omega)]
  have hok' := hok (by omega) (by omega) (by omega)
  obtain rfl := hdp (by omega)
  replace HB := HB (by omega)
  have hsl : SlI h .u8 ⟨some ⟨db, 0, none⟩, N, c⟩ M := ⟨hM, hc, fun _ => ⟨db, 0, rfl, fun j hj => by
    rw [Nat.zero_add, HB.cell, List.getElem?_map, List.getElem?_eq_getElem hj, List.getD_eq_getElem?_getD, List.getElem?_eq_getElem hj]; rfl⟩⟩
  by_cases b4 : (last : Int) > len
  · rw [if_pos (by simpa using b4)]
    simp only [st_reg, st_ret, st_exit, st_skip, st_test, st_block, st_cond, sq_reg, sq_ret, sq_exit, sq_skip, sq_test, sq_cond, sq_block, sq_seq, sq_loop, SK_norm, SK_exit, SK_ret, BK_norm, BK_ret, BK_same, BK_exit, LK_norm, LK_exit, LK_ret, endK_norm, endK_ret, M_s2Decode.k33, M_s2Decode.r57, M_s2Decode.r58, eD, ed, el, eo]
    simp (disch := omega) only [w_i64, w_u64, w_i32, w_u32, w_u16, w_u8, w_i16, Nat.reducePow]
    have hfr := hsl.from (i := out.length - last) (by simp only; omega)
    refine ⟨by omega, by omega, by omega, by omega, by omega, by omega, ?_⟩
    have e1 : ((out.length : Int) + len).toNat - ((out.length : Int)).toNat = len := by omega
    have e2 : ((out.length : Int) - last).toNat = out.length - last := by omega
    have e3 : min (N - (out.length - last)) len = len := by omega
    rw [e1, e2, Int.toNat_natCast]
    rw [subP_at (by omega), Nat.zero_add]
    refine copy_blk (k := .u8) HB ts5 (news := (M.drop (out.length - last)).take len) (by simp; omega) ?_ (by simp; omega) fun h' HB' HF' => ?_
    · rw [e3]
      exact src_sl hfr (m := len) (by simp only; omega)
    rw [e3, ← List.map_take, ← List.map_drop, ← List.map_append, ← List.map_append] at HB'
    refine hok' _ h' _ eD.symm rfl rfl eo.symm ?_ HB' ?_ ?_ HF'
    · simp (disch := omega) only [w_i64, w_u64, w_i32, w_u32, w_u16, w_u8, w_i16, Nat.reducePow]; omega
    · simp; omega
    · have ht1 : (M.take out.length).length = out.length := by simp; omega
      have ht2 : ((M.drop (out.length - last)).take len).length = len := by simp; omega
      rw [List.take_append_of_le_length (by rw [List.length_append, ht1, ht2]; omega), List.take_of_length_le (by rw [List.length_append, ht1, ht2]; omega), fwd_apart out last len (by omega) (by omega), hMo]
      congr 1
      conv => rhs; rw [← hMo, List.drop_take]
      rw [hMo, show out.length - (out.length - last) = last by omega, List.take_take, Nat.min_eq_left (by omega)]
  · rw [if_neg (by simpa using b4)]
    simp only [st_reg, st_ret, st_exit, st_skip, st_test, st_block, st_cond, sq_reg, sq_ret, sq_exit, sq_skip, sq_test, sq_cond, sq_block, sq_seq, sq_loop, SK_norm, SK_exit, SK_ret, BK_norm, BK_ret, BK_same, BK_exit, LK_norm, LK_exit, LK_ret, endK_norm, endK_ret, M_s2Decode.k34, M_s2Decode.k35, M_s2Decode.k36, M_s2Decode.k37, M_s2Decode.k38, M_s2Decode.r59, M_s2Decode.r60, M_s2Decode.r61, M_s2Decode.r62, M_s2Decode.r67, eD, ed, el, eo]
    simp (disch := omega) only [w_i64, w_u64, w_i32, w_u32, w_u16, w_u8, w_i16, Nat.reducePow]
    have e1 : ((out.length : Int) + len).toNat - ((out.length : Int)).toNat = len := by omega
    have e2 : ((out.length : Int) - last).toNat = out.length - last := by omega
    rw [e1, e2, Int.toNat_natCast, Int.toNat_natCast, subP0, subP_at (by omega), subP_at (by omega), Nat.zero_add, Nat.zero_add]
    refine ⟨by omega, by omega, by omega, by omega, by omega, by omega, by omega, by omega, ?_⟩
    refine loop_rule (I := fun s' h' => s'.x_dst = ⟨some ⟨db, 0, none⟩, N, c⟩ ∧ s'.x_src = st.x_src ∧ s'.x_s = st.x_s ∧ s'.x_offset = last ∧ s'.x_d = out.length ∧ s'.x_length = len ∧
      s'.x_a = ⟨some ⟨db, out.length, none⟩, len, c - out.length⟩ ∧ s'.x_b = ⟨some ⟨db, out.length - last, none⟩, len, c - (out.length - last)⟩ ∧ s'.t283 = len ∧ ∃ (i : Nat) (Mi : List Int), s'.t284 = i ∧ i ≤ len ∧
      Blk h' db (Mi.map (Value.int .u8)) 5 ∧ Mi.length = N ∧ Mi.take (out.length + i) = fwd out last i ∧ Fr (· = db) h h') (μ := fun s' _ => (len - s'.t284).toNat) ?_ ?_
    · exact ⟨rfl, rfl, rfl, rfl, rfl, rfl, rfl, rfl, rfl, 0, M, rfl, by omega, HB, hM, hMo, Fr.refl _ _⟩
    · rintro s' h' ⟨f1, f2, f3, f4, f5, f6, f7, f8, f9, i, Mi, f10, hi, HBi, hMi, hti, hFi⟩
      simp only [st_reg, st_ret, st_exit, st_skip, st_test, st_block, st_cond, sq_reg, sq_ret, sq_exit, sq_skip, sq_test, sq_cond, sq_block, sq_seq, sq_loop, SK_norm, SK_exit, SK_ret, BK_norm, BK_ret, BK_same, BK_exit, LK_norm, LK_exit, LK_ret, endK_norm, endK_ret, M_s2Decode.k39, M_s2Decode.k40, M_s2Decode.r63, f1, f2, f3, f4, f5, f6, f7, f8, f9, f10]
      by_cases hci : (i : Int) < len
      · rw [if_pos (by simpa using hci)]
        simp only [st_reg, st_ret, st_exit, st_skip, st_test, st_block, st_cond, sq_reg, sq_ret, sq_exit, sq_skip, sq_test, sq_cond, sq_block, sq_seq, sq_loop, SK_norm, SK_exit, SK_ret, BK_norm, BK_ret, BK_same, BK_exit, LK_norm, LK_exit, LK_ret, endK_norm, endK_ret, M_s2Decode.k41, M_s2Decode.r64, M_s2Decode.r65, M_s2Decode.r66, f1, f2, f3, f4, f5, f6, f7, f8, f9, f10, withH_eq, ptrE_some, add_mk, Nat.zero_add, Nat.add_zero]
        have hge : ∀ j, j < N → hcell h' ⟨db, j, none⟩ = some (.int .u8 (Mi.getD j 0)) := by
          intro j hj
          rw [HBi.cell, List.getElem?_map, List.getElem?_eq_getElem (by omega), List.getD_eq_getElem?_getD, List.getElem?_eq_getElem (by omega)]; rfl
        have ei : (i : Int).toNat * 1 = i := by omega
        rw [ei]
        have hv : Mi.getD (out.length - last + i) 0 = (fwd out last i).getD (out.length + i - last) 0 := by
          rw [← hti, getD_take _ (by omega), show out.length - last + i = out.length + i - last by omega]
        refine ⟨by omega, by omega, _, hge _ (by omega), by omega, by omega, ?_⟩
        refine st1_blk HBi (by simp; omega) ?_
        rw [← List.map_set, hv]
        refine ⟨⟨by first | trivial | rfl, by first | trivial | rfl, by first | trivial | rfl, by first | trivial | rfl, by first | trivial | rfl, by first | trivial | rfl, by first | trivial | rfl, by first | trivial | rfl, by first | trivial | rfl, i + 1, _, ?_, by omega, Blk.put HBi.lt _ _, by simpa using hMi, ?_, hFi.trans Fr.put⟩, ?_⟩
        · rw [w_i64 (by omega) (by omega)]; omega
        · rw [← Nat.add_assoc, take_set_succ _ _ _ (by omega), hti]
          rfl
        · rw [w_i64 (by omega) (by omega)]; omega
      · rw [if_neg (by simpa using hci)]
        obtain rfl : i = len := by omega
        simp only [st_reg, st_ret, st_exit, st_skip, st_test, st_block, st_cond, sq_reg, sq_ret, sq_exit, sq_skip, sq_test, sq_cond, sq_block, sq_seq, sq_loop, SK_norm, SK_exit, SK_ret, BK_norm, BK_ret, BK_same, BK_exit, LK_norm, LK_exit, LK_ret, endK_norm, endK_ret, M_s2Decode.r67, f1, f2, f3, f4, f5, f6, f7, f8, f9, f10]
        refine hok' _ h' Mi ?_ ?_ ?_ ?_ ?_ HBi hMi hti hFi
        · exact eD.symm
        · rfl
        · rfl
        · exact eo.symm
        · show IntKind.i64.wrap _ = _
          rw [w_i64 (by omega) (by omega)]; omega

theorem copyPartB {N db last len : Nat} {out M : List Int} {h : Heap} {st : M_s2Decode.St} {Q : Ex → M_s2Decode.St → Heap → Prop} {c : Nat} {dp : Option Addr}
    (eD : st.x_dst = ⟨dp, N, c⟩) (hdp : 0 < N → dp = some ⟨db, 0, none⟩) (hc : N ≤ c) (ed : st.x_d = out.length) (el : st.x_length = len) (eo : st.x_offset = last)
    (HB : 0 < N → Blk h db (M.map (Value.int .u8)) 5) (hM : M.length = N) (hMo : M.take out.length = out) (hN : N < 2 ^ 36) (hlen0 : 0 < len) (hlen : len < 2 ^ 38) (hlast : last < 2 ^ 38) (hout : out.length ≤ N)
    (hbad : last = 0 ∨ out.length < last ∨ N < out.length + len → ∀ st' : M_s2Decode.St, st'.t4 = 1 → Q .ret st' h)
    (hok : 0 < last → last ≤ out.length → out.length + len ≤ N → ∀ (st' : M_s2Decode.St) (h' : Heap) (M' : List Int), st'.x_dst = st.x_dst → st'.x_src = st.x_src → st'.x_s = st.x_s → st'.x_offset = st.x_offset → st'.x_d = ((out.length + len : Nat) : Int) →
      Blk h' db (M'.map (Value.int .u8)) 5 → M'.length = N → M'.take (out.length + len) = fwd out last len → Fr (· = db) h h' → Q .norm st' h') :
    M_s2Decode.k86 st h (BK 8 Q) := by
  have hMl : out.length ≤ M.length := by omega
  simp only [st_reg, st_ret, st_exit, st_skip, st_test, st_block, st_cond, sq_reg, sq_ret, sq_exit, sq_skip, sq_test, sq_cond, sq_block, sq_seq, sq_loop, SK_norm, SK_exit, SK_ret, BK_norm, BK_ret, BK_same, BK_exit, LK_norm, LK_exit, LK_ret, endK_norm, endK_ret, M_s2Decode.k86, M_s2Decode.k87, M_s2Decode.r137, M_s2Decode.r138, M_s2Decode.r139, eD, ed, el, eo]
  simp (disch := omega) only [w_i64, w_u64, w_i32, w_u32, w_u16, w_u8, w_i16, Nat.reducePow]
  by_cases b1 : last = 0
  · rw [if_neg (by simp <;> omega), if_pos trivial]
    exact hbad (Or.inl b1) _ rfl
  rw [if_pos (by simp <;> omega)]
  by_cases b2 : out.length < last
  · rw [if_neg (by simp <;> omega), if_pos trivial]
    exact hbad (Or.inr (Or.inl b2)) _ rfl
  rw [if_pos (by simp <;> omega)]
  by_cases b3 : N < out.length + len
  · rw [if_pos (by simp <;> omega)]
    exact hbad (Or.inr (Or.inr b3)) _ rfl
  rw [if_neg (by simp <;> omega)]
  have hok' := hok (by omega) (by omega) (by omega)
  obtain rfl := hdp (by omega)
  replace HB := HB (by omega)
  have hsl : SlI h .u8 ⟨some ⟨db, 0, none⟩, N, c⟩ M := ⟨hM, hc, fun _ => ⟨db, 0, rfl, fun j hj => by
    rw [Nat.zero_add, HB.cell, List.getElem?_map, List.getElem?_eq_getElem hj, List.getD_eq_getElem?_getD, List.getElem?_eq_getElem hj]; rfl⟩⟩
  by_cases b4 : (last : Int) > len
  · rw [if_pos (by simpa using b4)]
    simp only [st_reg, st_ret, st_exit, st_skip, st_test, st_block, st_cond, sq_reg, sq_ret, sq_exit, sq_skip, sq_test, sq_cond, sq_block, sq_seq, sq_loop, SK_norm, SK_exit, SK_ret, BK_norm, BK_ret, BK_same, BK_exit, LK_norm, LK_exit, LK_ret, endK_norm, endK_ret, M_s2Decode.k88, M_s2Decode.r140, M_s2Decode.r141, eD, ed, el, eo]
    simp (disch := omega) only [w_i64, w_u64, w_i32, w_u32, w_u16, w_u8, w_i16, Nat.reducePow]
    have hfr := hsl.from (i := out.length - last) (by simp only; omega)
    refine ⟨by omega, by omega, by omega, by omega, by omega, by omega, ?_⟩
    have e1 : ((out.length : Int) + len).toNat - ((out.length : Int)).toNat = len := by omega
    have e2 : ((out.length : Int) - last).toNat = out.length - last := by omega
    have e3 : min (N - (out.length - last)) len = len := by omega
    rw [e1, e2, Int.toNat_natCast]
    rw [subP_at (by omega), Nat.zero_add]
    refine copy_blk (k := .u8) HB ts5 (news := (M.drop (out.length - last)).take len) (by simp; omega) ?_ (by simp; omega) fun h' HB' HF' => ?_
    · rw [e3]
      exact src_sl hfr (m := len) (by simp only; omega)
    rw [e3, ← List.map_take, ← List.map_drop, ← List.map_append, ← List.map_append] at HB'
    refine hok' _ h' _ eD.symm rfl rfl eo.symm ?_ HB' ?_ ?_ HF'
    · simp (disch := omega) only [w_i64, w_u64, w_i32, w_u32, w_u16, w_u8, w_i16, Nat.reducePow]; omega
    · simp; omega
    · have ht1 : (M.take out.length).length = out.length := by simp; omega
      have ht2 : ((M.drop (out.length - last)).take len).length = len := by simp; omega
      rw [List.take_append_of_le_length (by rw [List.length_append, ht1, ht2]; omega), List.take_of_length_le (by rw [List.length_append, ht1, ht2]; omega), fwd_apart out last len (by omega) (by omega), hMo]
      congr 1
      conv => rhs; rw [← hMo, List.drop_take]
      rw [hMo, show out.length - (out.length - last) = last by omega, List.take_take, Nat.min_eq_left (by omega)]
  · rw [if_neg (by simpa using b4)]
    simp only [st_reg, st_ret, st_exit, st_skip, st_test, st_block, st_cond, sq_reg, sq_ret, sq_exit, sq_skip, sq_test, sq_cond, sq_block, sq_seq, sq_loop, SK_norm, SK_exit, SK_ret, BK_norm, BK_ret, BK_same, BK_exit, LK_norm, LK_exit, LK_ret, endK_norm, endK_ret, M_s2Decode.k89, M_s2Decode.k90, M_s2Decode.k91, M_s2Decode.k92, M_s2Decode.k93, M_s2Decode.r142, M_s2Decode.r143, M_s2Decode.r144, M_s2Decode.r145, M_s2Decode.r150, eD, ed, el, eo]
    simp (disch := omega) only [w_i64, w_u64, w_i32, w_u32, w_u16, w_u8, w_i16, Nat.reducePow]
    have e1 : ((out.length : Int) + len).toNat - ((out.length : Int)).toNat = len := by omega
    have e2 : ((out.length : Int) - last).toNat = out.length - last := by omega
    rw [e1, e2, Int.toNat_natCast, Int.toNat_natCast, subP0, subP_at (by omega), subP_at (by omega), Nat.zero_add, Nat.zero_add]
    refine ⟨by omega, by omega, by omega, by omega, by omega, by omega, by omega, by omega, ?_⟩
    refine loop_rule (I := fun s' h' => s'.x_dst = ⟨some ⟨db, 0, none⟩, N, c⟩ ∧ s'.x_src = st.x_src ∧ s'.x_s = st.x_s ∧ s'.x_offset = last ∧ s'.x_d = out.length ∧ s'.x_length = len ∧
      s'.x_aq17 = ⟨some ⟨db, out.length, none⟩, len, c - out.length⟩ ∧ s'.x_bq18 = ⟨some ⟨db, out.length - last, none⟩, len, c - (out.length - last)⟩ ∧ s'.t724 = len ∧ ∃ (i : Nat) (Mi : List Int), s'.t725 = i ∧ i ≤ len ∧
      Blk h' db (Mi.map (Value.int .u8)) 5 ∧ Mi.length = N ∧ Mi.take (out.length + i) = fwd out last i ∧ Fr (· = db) h h') (μ := fun s' _ => (len - s'.t725).toNat) ?_ ?_
    · exact ⟨rfl, rfl, rfl, rfl, rfl, rfl, rfl, rfl, rfl, 0, M, rfl, by omega, HB, hM, hMo, Fr.refl _ _⟩
    · rintro s' h' ⟨f1, f2, f3, f4, f5, f6, f7, f8, f9, i, Mi, f10, hi, HBi, hMi, hti, hFi⟩
      simp only [st_reg, st_ret, st_exit, st_skip, st_test, st_block, st_cond, sq_reg, sq_ret, sq_exit, sq_skip, sq_test, sq_cond, sq_block, sq_seq, sq_loop, SK_norm, SK_exit, SK_ret, BK_norm, BK_ret, BK_same, BK_exit, LK_norm, LK_exit, LK_ret, endK_norm, endK_ret, M_s2Decode.k94, M_s2Decode.k95, M_s2Decode.r146, f1, f2, f3, f4, f5, f6, f7, f8, f9, f10]
      by_cases hci : (i : Int) < len
      · rw [if_pos (by simpa using hci)]
        simp only [st_reg, st_ret, st_exit, st_skip, st_test, st_block, st_cond, sq_reg, sq_ret, sq_exit, sq_skip, sq_test, sq_cond, sq_block, sq_seq, sq_loop, SK_norm, SK_exit, SK_ret, BK_norm, BK_ret, BK_same, BK_exit, LK_norm, LK_exit, LK_ret, endK_norm, endK_ret, M_s2Decode.k96, M_s2Decode.r147, M_s2Decode.r148, M_s2Decode.r149, f1, f2, f3, f4, f5, f6, f7, f8, f9, f10, withH_eq, ptrE_some, add_mk, Nat.zero_add, Nat.add_zero]
        have hge : ∀ j, j < N → hcell h' ⟨db, j, none⟩ = some (.int .u8 (Mi.getD j 0)) := by
          intro j hj
          rw [HBi.cell, List.getElem?_map, List.getElem?_eq_getElem (by omega), List.getD_eq_getElem?_getD, List.getElem?_eq_getElem (by omega)]; rfl
        have ei : (i : Int).toNat * 1 = i := by omega
        rw [ei]
        have hv : Mi.getD (out.length - last + i) 0 = (fwd out last i).getD (out.length + i - last) 0 := by
          rw [← hti, getD_take _ (by omega), show out.length - last + i = out.length + i - last by omega]
        refine ⟨by omega, by omega, _, hge _ (by omega), by omega, by omega, ?_⟩
        refine st1_blk HBi (by simp; omega) ?_
        rw [← List.map_set, hv]
        refine ⟨⟨by first | trivial | rfl, by first | trivial | rfl, by first | trivial | rfl, by first | trivial | rfl, by first | trivial | rfl, by first | trivial | rfl, by first | trivial | rfl, by first | trivial | rfl, by first | trivial | rfl, i + 1, _, ?_, by omega, Blk.put HBi.lt _ _, by simpa using hMi, ?_, hFi.trans Fr.put⟩, ?_⟩
        · rw [w_i64 (by omega) (by omega)]; omega
        · rw [← Nat.add_assoc, take_set_succ _ _ _ (by omega), hti]
          rfl
        · rw [w_i64 (by omega) (by omega)]; omega
      · rw [if_neg (by simpa using hci)]
        obtain rfl : i = len := by omega
        simp only [st_reg, st_ret, st_exit, st_skip, st_test, st_block, st_cond, sq_reg, sq_ret, sq_exit, sq_skip, sq_test, sq_cond, sq_block, sq_seq, sq_loop, SK_norm, SK_exit, SK_ret, BK_norm, BK_ret, BK_same, BK_exit, LK_norm, LK_exit, LK_ret, endK_norm, endK_ret, M_s2Decode.r150, f1, f2, f3, f4, f5, f6, f7, f8, f9, f10]
        refine hok' _ h' Mi ?_ ?_ ?_ ?_ ?_ HBi hMi hti hFi
        · exact eD.symm
        · rfl
        · rfl
        · exact eo.symm
        · show IntKind.i64.wrap _ = _
          rw [w_i64 (by omega) (by omega)]; omega
end Go.Proofs.YtibleenkgmkpmaaDoor
