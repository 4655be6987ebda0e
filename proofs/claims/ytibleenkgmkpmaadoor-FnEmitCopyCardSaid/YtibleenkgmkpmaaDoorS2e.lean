/- A part of the proof. -/
import Derived.Test.YtibleenkgmkpmaaDoorS2d
import Derived.Test.YtibleenkgmkpmaaDoorModels1
set_option linter.unusedSimpArgs false
set_option linter.unusedVariables false
set_option linter.unusedSectionVars false
namespace Go.Proofs.YtibleenkgmkpmaaDoor
open Go Go.Vc Go.Ml Go.S2

theorem leN2 {l : List Int} (hb : Byt l) (h : 2 ≤ l.length) : ((leN (l.take 2) : Nat) : Int) = l.getD 0 0 + l.getD 1 0 * 2 ^ 8 := by
  match l, h with
  | a :: b :: r, _ =>
    have h0 := hb 0; have h1 := hb 1
    simp at h0 h1
    simp [leN]
    omega
theorem leN4 {l : List Int} (hb : Byt l) (h : 4 ≤ l.length) : ((leN (l.take 4) : Nat) : Int) = l.getD 0 0 + l.getD 1 0 * 2 ^ 8 + l.getD 2 0 * 2 ^ 16 + l.getD 3 0 * 2 ^ 24 := by
  match l, h with
  | a :: b :: c :: d :: r, _ =>
    have h0 := hb 0; have h1 := hb 1; have h2 := hb 2; have h3 := hb 3
    simp at h0 h1 h2 h3
    simp [leN]
    omega

theorem or4 {a b c d : Int} (ha : 0 ≤ a ∧ a ≤ 255) (hb : 0 ≤ b ∧ b ≤ 255) (hc : 0 ≤ c ∧ c ≤ 255) (hd : 0 ≤ d ∧ d ≤ 255) :
    bOr .u32 (bOr .u32 (bOr .u32 (IntKind.wrap .u32 a) (IntKind.wrap .u32 (IntKind.wrap .u32 b * 2 ^ 8))) (IntKind.wrap .u32 (IntKind.wrap .u32 c * 2 ^ 16))) (IntKind.wrap .u32 (IntKind.wrap .u32 d * 2 ^ 24)) =
      a + b * 2 ^ 8 + c * 2 ^ 16 + d * 2 ^ 24 := by
  have w : ∀ x : Int, 0 ≤ x ∧ x ≤ 255 → IntKind.wrap .u32 x = x := fun x h => w_u32 (by omega) (by omega)
  rw [w a ha, w b hb, w c hc, w d hd, w_u32 (x := b * 2 ^ 8) (by omega) (by omega), w_u32 (x := c * 2 ^ 16) (by omega) (by omega), w_u32 (x := d * 2 ^ 24) (by omega) (by omega)]
  have hB : (2 : Int) ^ IntKind.u32.bits = 4294967296 := by rfl
  rw [or_addI rfl 8 (by omega) (by omega) (by omega) (by rw [hB]; omega), or_addI rfl 16 (by omega) (by omega) (by omega) (by rw [hB]; omega), or_addI rfl 24 (by omega) (by omega) (by omega) (by rw [hB]; omega)]


theorem or2 {a b : Int} (ha : 0 ≤ a ∧ a ≤ 255) (hb : 0 ≤ b ∧ b ≤ 255) : bOr .u16 (IntKind.wrap .u16 a) (IntKind.wrap .u16 (IntKind.wrap .u16 b * 2 ^ 8)) = a + b * 2 ^ 8 := by
  rw [w_u16 (x := a) (by omega) (by omega), w_u16 (x := b) (by omega) (by omega), w_u16 (x := b * 2 ^ 8) (by omega) (by omega)]
  have hB : (2 : Int) ^ IntKind.u16.bits = 65536 := by rfl
  rw [or_addI rfl 8 (by omega) (by omega) (by omega) (by rw [hB]; omega)]

theorem le16 {s : Sl} {h : Heap} {l : List Int} (hs : SlI h .u8 s l) (hb : Byt l) (hn : 2 ≤ l.length) {K : Int → Heap → Prop} (hK : ∀ h', Old h h' → K (leN (l.take 2) : Nat) h') : c_littleEndian_Uint16 s h K := by
  have hl := hs.len
  apply M_littleEndian_Uint16.calls
  simp only [st_reg, st_ret, st_exit, st_skip, st_test, st_block, st_cond, sq_reg, sq_ret, sq_exit, sq_skip, sq_test, sq_cond, sq_block, sq_seq, sq_loop, SK_norm, SK_exit, SK_ret, BK_norm, BK_ret, BK_same, BK_exit, LK_norm, LK_exit, LK_ret, endK_norm, endK_ret, M_littleEndian_Uint16.k0, M_littleEndian_Uint16.stm, M_littleEndian_Uint16.r0, M_littleEndian_Uint16.r1, M_littleEndian_Uint16.r2, M_littleEndian_Uint16.init, M_littleEndian_Uint16.res, withH_eq, ptrE_some, add_mk, Nat.zero_add, Nat.add_zero]
  have hO := Old.new h [] 126
  have hs' := hs.ext hO.ext
  iterate 3 refine hs'.ld (by omega) (by omega) ?_
  rw [or2 (hb _) (hb _)]
  have := hK _ hO
  rw [leN2 hb hn] at this
  exact this
theorem le32 {s : Sl} {h : Heap} {l : List Int} (hs : SlI h .u8 s l) (hb : Byt l) (hn : 4 ≤ l.length) {K : Int → Heap → Prop} (hK : ∀ h', Old h h' → K (leN (l.take 4) : Nat) h') : c_littleEndian_Uint32 s h K := by
  have hl := hs.len
  apply M_littleEndian_Uint32.calls
  simp only [st_reg, st_ret, st_exit, st_skip, st_test, st_block, st_cond, sq_reg, sq_ret, sq_exit, sq_skip, sq_test, sq_cond, sq_block, sq_seq, sq_loop, SK_norm, SK_exit, SK_ret, BK_norm, BK_ret, BK_same, BK_exit, LK_norm, LK_exit, LK_ret, endK_norm, endK_ret, M_littleEndian_Uint32.k0, M_littleEndian_Uint32.stm, M_littleEndian_Uint32.r0, M_littleEndian_Uint32.r1, M_littleEndian_Uint32.r2, M_littleEndian_Uint32.init, M_littleEndian_Uint32.res, withH_eq, ptrE_some, add_mk, Nat.zero_add, Nat.add_zero]
  have hO := Old.new h [] 126
  have hs' := hs.ext hO.ext
  iterate 5 refine hs'.ld (by omega) (by omega) ?_
  rw [or4 (hb _) (hb _) (hb _) (hb _)]
  have := hK _ hO
  rw [leN4 hb hn] at this
  exact this

theorem load16 {s : Sl} {h : Heap} {l : List Int} (hs : SlI h .u8 s l) (hb : Byt l) {i : Nat} {a : Int} (ha : a = i) (hn : i + 2 ≤ l.length) {K : Int → Heap → Prop} (hK : ∀ h', Old h h' → K (leN ((l.drop i).take 2) : Nat) h') : c_Load16 s a h K := by
  subst ha
  have hl := hs.len
  apply M_Load16.calls
  simp only [st_reg, st_ret, st_exit, st_skip, st_test, st_block, st_cond, sq_reg, sq_ret, sq_exit, sq_skip, sq_test, sq_cond, sq_block, sq_seq, sq_loop, SK_norm, SK_exit, SK_ret, BK_norm, BK_ret, BK_same, BK_exit, LK_norm, LK_exit, LK_ret, endK_norm, endK_ret, M_Load16.stm, M_Load16.r0, M_Load16.r1, M_Load16.init, M_Load16.res, withH_eq, ptrE_some, add_mk, Nat.zero_add, Nat.add_zero]
  refine ⟨by omega, by omega, ?_⟩
  rw [Int.toNat_natCast]
  exact le16 (hs.from (i := i) (by omega)) (hb.drop i) (by simp; omega) hK
theorem load32 {s : Sl} {h : Heap} {l : List Int} (hs : SlI h .u8 s l) (hb : Byt l) {i : Nat} {a : Int} (ha : a = i) (hn : i + 4 ≤ l.length) {K : Int → Heap → Prop} (hK : ∀ h', Old h h' → K (leN ((l.drop i).take 4) : Nat) h') : c_Load32 s a h K := by
  subst ha
  have hl := hs.len
  apply M_Load32.calls
  simp only [st_reg, st_ret, st_exit, st_skip, st_test, st_block, st_cond, sq_reg, sq_ret, sq_exit, sq_skip, sq_test, sq_cond, sq_block, sq_seq, sq_loop, SK_norm, SK_exit, SK_ret, BK_norm, BK_ret, BK_same, BK_exit, LK_norm, LK_exit, LK_ret, endK_norm, endK_ret, M_Load32.stm, M_Load32.r0, M_Load32.r1, M_Load32.init, M_Load32.res, withH_eq, ptrE_some, add_mk, Nat.zero_add, Nat.add_zero]
  refine ⟨by omega, by omega, ?_⟩
  rw [Int.toNat_natCast]
  exact le32 (hs.from (i := i) (by omega)) (hb.drop i) (by simp; omega) hK
end Go.Proofs.YtibleenkgmkpmaaDoor
