/- A part of the proof. -/
import Derived.Test.YtibleenkgmkpmaaDoorS2e
import Derived.Test.YtibleenkgmkpmaaDoorModels1
set_option linter.unusedSimpArgs false
set_option linter.unusedVariables false
set_option linter.unusedSectionVars false
namespace Go.Proofs.YtibleenkgmkpmaaDoor
open Go Go.Vc Go.Ml Go.S2

theorem litPartA {S : Sl} {l : List Int} {N db m f : Nat} {out M : List Int} {h : Heap} {st : M_s2Decode.St} {Q : Ex → M_s2Decode.St → Heap → Prop} {c : Nat} {dp : Option Addr}
    (eD : st.x_dst = ⟨dp, N, c⟩) (hdp : 0 < N → dp = some ⟨db, 0, none⟩) (hc : N ≤ c) (eS : st.x_src = S) (hS : SlI h .u8 S l) (ed : st.x_d = out.length) (ex : st.x_x = m) (es : st.x_s = f)
    (HB : 0 < N → Blk h db (M.map (Value.int .u8)) 5) (hM : M.length = N) (hMo : M.take out.length = out) (hN : N < 2 ^ 36) (hl : l.length < 2 ^ 36) (hf : f ≤ l.length) (hm : m < 2 ^ 32) (hout : out.length ≤ N)
    (hbad : N < out.length + (m + 1) ∨ l.length - f < m + 1 → ∀ st' : M_s2Decode.St, st'.t4 = 1 → Q .ret st' h)
    (hok : m + 1 ≤ l.length - f → out.length + (m + 1) ≤ N → ∀ (st' : M_s2Decode.St) (h' : Heap) (M' : List Int), st'.x_dst = st.x_dst → st'.x_src = st.x_src → st'.x_s = ((f + (m + 1) : Nat) : Int) → st'.x_offset = st.x_offset → st'.x_d = ((out.length + (m + 1) : Nat) : Int) →
      Blk h' db (M'.map (Value.int .u8)) 5 → M'.length = N → M'.take (out.length + (m + 1)) = out ++ (l.drop f).take (m + 1) → Fr (· = db) h h' → Q (.exit 1) st' h') :
    M_s2Decode.k13 st h Q := by
  have hMl : out.length ≤ M.length := by omega
  have hsl := hS.len
  have hsc := hS.2.1
  simp only [st_reg, st_ret, st_exit, st_skip, st_test, st_block, st_cond, sq_reg, sq_ret, sq_exit, sq_skip, sq_test, sq_cond, sq_block, sq_seq, sq_loop, SK_norm, SK_exit, SK_ret, BK_norm, BK_ret, BK_same, BK_exit, LK_norm, LK_exit, LK_ret, endK_norm, endK_ret, M_s2Decode.k13, M_s2Decode.k14, M_s2Decode.r22, M_s2Decode.r23, M_s2Decode.r24, eD, ed, ex, es, eS]
  simp (disch := omega) only [w_i64, w_u64, w_i32, w_u32, w_u16, w_u8, w_i16, Nat.reducePow]
  by_cases b1 : N < out.length + (m + 1)
  · rw [if_neg (by simp <;> omega), if_pos trivial]
    exact hbad (Or.inl b1) _ rfl
  rw [if_pos (by simp <;> omega)]
  by_cases b2 : l.length - f < m + 1
  · rw [if_neg (by simp <;> omega), if_pos trivial]
    exact hbad (Or.inr b2) _ rfl
  rw [if_pos (by simp <;> omega), if_neg (by simp)]
  obtain rfl := hdp (by omega)
  replace HB := HB (by omega)
  simp only [st_reg, st_ret, st_exit, st_skip, st_test, st_block, st_cond, sq_reg, sq_ret, sq_exit, sq_skip, sq_test, sq_cond, sq_block, sq_seq, sq_loop, SK_norm, SK_exit, SK_ret, BK_norm, BK_ret, BK_same, BK_exit, LK_norm, LK_exit, LK_ret, endK_norm, endK_ret, M_s2Decode.k15, M_s2Decode.k16, M_s2Decode.r25, M_s2Decode.r26, M_s2Decode.r27, eD, ed, ex, es, eS]
  simp (disch := omega) only [w_i64, w_u64, w_i32, w_u32, w_u16, w_u8, w_i16, Nat.reducePow]
  have e1 : ((f : Int) + ((m : Int) + 1)).toNat - (f : Int).toNat = m + 1 := by omega
  have e2 : N - out.length ≥ m + 1 := by omega
  have e3 : min (m + 1) (N - out.length) = m + 1 := by omega
  rw [e1, Int.toNat_natCast, Int.toNat_natCast, subP_at (by omega), Nat.zero_add]
  refine ⟨by omega, by omega, by omega, by omega, by omega, by omega, ?_⟩
  have hfr := hS.from (i := f) (by omega)
  refine copy_blk (k := .u8) HB ts5 (news := (l.drop f).take (m + 1)) (by simp; omega) ?_ (by simp; omega) fun h' HB' HF' => ?_
  · rw [e3]
    exact src_sl hfr (m := m + 1) (by simp only; omega)
  rw [e3, ← List.map_take, ← List.map_drop, ← List.map_append, ← List.map_append] at HB'
  have ht1 : (M.take out.length).length = out.length := by simp; omega
  have ht2 : ((l.drop f).take (m + 1)).length = m + 1 := by simp; omega
  refine hok (by omega) (by omega) _ h' _ eD.symm eS.symm ?_ rfl ?_ HB' ?_ ?_ HF'
  · simp (disch := omega) only [w_i64, w_u64, w_i32, w_u32, w_u16, w_u8, w_i16, Nat.reducePow]; omega
  · simp (disch := omega) only [w_i64, w_u64, w_i32, w_u32, w_u16, w_u8, w_i16, Nat.reducePow]; omega
  · simp; omega
  · rw [List.take_append_of_le_length (by rw [List.length_append, ht1, ht2]; omega), List.take_of_length_le (by rw [List.length_append, ht1, ht2]; omega), hMo]

theorem litPartB {S : Sl} {l : List Int} {N db m f : Nat} {out M : List Int} {h : Heap} {st : M_s2Decode.St} {Q : Ex → M_s2Decode.St → Heap → Prop} {c : Nat} {dp : Option Addr}
    (eD : st.x_dst = ⟨dp, N, c⟩) (hdp : 0 < N → dp = some ⟨db, 0, none⟩) (hc : N ≤ c) (eS : st.x_src = S) (hS : SlI h .u8 S l) (ed : st.x_d = out.length) (ex : st.x_xq15 = m) (es : st.x_s = f)
    (HB : 0 < N → Blk h db (M.map (Value.int .u8)) 5) (hM : M.length = N) (hMo : M.take out.length = out) (hN : N < 2 ^ 36) (hl : l.length < 2 ^ 36) (hf : f ≤ l.length) (hm : m < 2 ^ 32) (hout : out.length ≤ N)
    (hbad : N < out.length + (m + 1) ∨ l.length - f < m + 1 → ∀ st' : M_s2Decode.St, st'.t4 = 1 → Q .ret st' h)
    (hok : m + 1 ≤ l.length - f → out.length + (m + 1) ≤ N → ∀ (st' : M_s2Decode.St) (h' : Heap) (M' : List Int), st'.x_dst = st.x_dst → st'.x_src = st.x_src → st'.x_s = ((f + (m + 1) : Nat) : Int) → st'.x_offset = st.x_offset → st'.x_d = ((out.length + (m + 1) : Nat) : Int) →
      Blk h' db (M'.map (Value.int .u8)) 5 → M'.length = N → M'.take (out.length + (m + 1)) = out ++ (l.drop f).take (m + 1) → Fr (· = db) h h' → Q (.exit 8) st' h') :
    M_s2Decode.k60 st h Q := by
  have hMl : out.length ≤ M.length := by omega
  have hsl := hS.len
  have hsc := hS.2.1
  simp only [st_reg, st_ret, st_exit, st_skip, st_test, st_block, st_cond, sq_reg, sq_ret, sq_exit, sq_skip, sq_test, sq_cond, sq_block, sq_seq, sq_loop, SK_norm, SK_exit, SK_ret, BK_norm, BK_ret, BK_same, BK_exit, LK_norm, LK_exit, LK_ret, endK_norm, endK_ret, M_s2Decode.k60, M_s2Decode.k61, M_s2Decode.r94, M_s2Decode.r95, M_s2Decode.r96, eD, ed, ex, es, eS]
  simp (disch := omega) only [w_i64, w_u64, w_i32, w_u32, w_u16, w_u8, w_i16, Nat.reducePow]
  by_cases b1 : N < out.length + (m + 1)
  · rw [if_neg (by simp <;> omega), if_pos trivial]
    exact hbad (Or.inl b1) _ rfl
  rw [if_pos (by simp <;> omega)]
  by_cases b2 : l.length - f < m + 1
  · rw [if_neg (by simp <;> omega), if_pos trivial]
    exact hbad (Or.inr b2) _ rfl
  rw [if_pos (by simp <;> omega), if_neg (by simp)]
  obtain rfl := hdp (by omega)
  replace HB := HB (by omega)
  simp only [st_reg, st_ret, st_exit, st_skip, st_test, st_block, st_cond, sq_reg, sq_ret, sq_exit, sq_skip, sq_test, sq_cond, sq_block, sq_seq, sq_loop, SK_norm, SK_exit, SK_ret, BK_norm, BK_ret, BK_same, BK_exit, LK_norm, LK_exit, LK_ret, endK_norm, endK_ret, M_s2Decode.k62, M_s2Decode.k63, M_s2Decode.r97, M_s2Decode.r98, M_s2Decode.r99, eD, ed, ex, es, eS]
  simp (disch := omega) only [w_i64, w_u64, w_i32, w_u32, w_u16, w_u8, w_i16, Nat.reducePow]
  have e1 : ((f : Int) + ((m : Int) + 1)).toNat - (f : Int).toNat = m + 1 := by omega
  have e2 : N - out.length ≥ m + 1 := by omega
  have e3 : min (m + 1) (N - out.length) = m + 1 := by omega
  rw [e1, Int.toNat_natCast, Int.toNat_natCast, subP_at (by omega), Nat.zero_add]
  refine ⟨by omega, by omega, by omega, by omega, by omega, by omega, ?_⟩
  have hfr := hS.from (i := f) (by omega)
  refine copy_blk (k := .u8) HB ts5 (news := (l.drop f).take (m + 1)) (by simp; omega) ?_ (by simp; omega) fun h' HB' HF' => ?_
  · rw [e3]
    exact src_sl hfr (m := m + 1) (by simp only; omega)
  rw [e3, ← List.map_take, ← List.map_drop, ← List.map_append, ← List.map_append] at HB'
  have ht1 : (M.take out.length).length = out.length := by simp; omega
  have ht2 : ((l.drop f).take (m + 1)).length = m + 1 := by simp; omega
  refine hok (by omega) (by omega) _ h' _ eD.symm eS.symm ?_ rfl ?_ HB' ?_ ?_ HF'
  · simp (disch := omega) only [w_i64, w_u64, w_i32, w_u32, w_u16, w_u8, w_i16, Nat.reducePow]; omega
  · simp (disch := omega) only [w_i64, w_u64, w_i32, w_u32, w_u16, w_u8, w_i16, Nat.reducePow]; omega
  · simp; omega
  · rw [List.take_append_of_le_length (by rw [List.length_append, ht1, ht2]; omega), List.take_of_length_le (by rw [List.length_append, ht1, ht2]; omega), hMo]
end Go.Proofs.YtibleenkgmkpmaaDoor
