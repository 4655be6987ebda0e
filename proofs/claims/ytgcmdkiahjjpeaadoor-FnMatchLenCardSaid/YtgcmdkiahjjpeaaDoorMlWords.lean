/- What the loads of words and the counts of trailing zeros compute. -/
import Derived.Test.YtgcmdkiahjjpeaaDoorVc12
import Derived.Test.YtgcmdkiahjjpeaaDoorModels
import Derived.Test.YtgcmdkiahjjpeaaDoorMlPlain
namespace Go.Vc
theorem Byt.mem {l : List Int} (h : Byt l) : ∀ x ∈ l, 0 ≤ x ∧ x ≤ 255 := by
  intro x hx
  obtain ⟨i, hi, rfl⟩ := List.mem_iff_getElem.1 hx
  have := h i
  rwa [List.getD_eq_getElem?_getD, List.getElem?_eq_getElem hi] at this
theorem Byt.of_mem {l : List Int} (h : ∀ x ∈ l, 0 ≤ x ∧ x ≤ 255) : Byt l := by
  intro i
  rw [List.getD_eq_getElem?_getD]
  cases hi : l[i]? with
  | none => simp
  | some x => simpa using h x (List.mem_of_getElem? hi)

theorem or_addI {k : IntKind} (hk : k.signed = false) (n : Nat) {x y : Int} (hx0 : 0 ≤ x) (hx : x < 2 ^ n) (hy : 0 ≤ y) (hb : x + y * 2 ^ n < 2 ^ k.bits) : bOr k x (y * 2 ^ n) = x + y * 2 ^ n := by
  obtain ⟨a, rfl⟩ := Int.eq_ofNat_of_zero_le hx0
  obtain ⟨b, rfl⟩ := Int.eq_ofNat_of_zero_le hy
  have hx' : a < 2 ^ n := by exact_mod_cast hx
  have hb' : a + b * 2 ^ n < 2 ^ k.bits := by exact_mod_cast hb
  have e : ((b : Int) * 2 ^ n) = ((b * 2 ^ n : Nat) : Int) := by simp
  rw [e, or_nat hk (by omega) (by omega), or_add hx']
  simp

/-- A table of bytes, in a block. -/
def Tab (h : Heap) (b : Nat) (l : List Nat) : Prop := ∀ i, i < l.length → hcell h ⟨b, i, none⟩ = some (.int .u8 (l.getD i 0 : Nat))
theorem Tab.ext {h h' : Heap} {b : Nat} {l : List Nat} (H : Tab h b l) (he : HExt h h') : Tab h' b l := fun i hi => he _ _ (H i hi)

/-- s[i:]. -/
theorem SlI.from {h : Heap} {k : IntKind} {s : Sl} {l : List Int} (H : SlI h k s l) {i : Nat} (hi : i ≤ s.n) : SlI h k ⟨subP s.p i s.c 1, s.n - i, s.c - i⟩ (l.drop i) := by
  have := H.sub (lo := i) (hi := s.n) hi (Nat.le_refl _)
  rwa [show l.take s.n = l from by rw [← H.1]; exact List.take_length] at this

theorem byte_nat {x : Int} (h : 0 ≤ x ∧ x ≤ 255) : ∃ n : Nat, x = n ∧ n ≤ 255 := ⟨x.toNat, by omega, by omega⟩
end Go.Vc
namespace Go.Proofs.YtgcmdkiahjjpeaaDoor
open Go Go.Vc Go.Ml

def le4 (l : List Int) : Int := l.getD 0 0 + l.getD 1 0 * 2 ^ 8 + l.getD 2 0 * 2 ^ 16 + l.getD 3 0 * 2 ^ 24
def le8 (l : List Int) : Int := l.getD 0 0 + l.getD 1 0 * 2 ^ 8 + l.getD 2 0 * 2 ^ 16 + l.getD 3 0 * 2 ^ 24 + l.getD 4 0 * 2 ^ 32 + l.getD 5 0 * 2 ^ 40 + l.getD 6 0 * 2 ^ 48 + l.getD 7 0 * 2 ^ 56

theorem le4_eq {l : List Int} (hb : Byt l) (h : 4 ≤ l.length) : le4 l = (leN (l.take 4) : Int) := by
  match l, h with
  | a :: b :: c :: d :: r, _ =>
    have h0 := hb 0; have h1 := hb 1; have h2 := hb 2; have h3 := hb 3
    simp at h0 h1 h2 h3
    simp [le4, leN]
    omega
theorem le8_eq {l : List Int} (hb : Byt l) (h : 8 ≤ l.length) : le8 l = (leN (l.take 8) : Int) := by
  match l, h with
  | a :: b :: c :: d :: e :: f :: g :: i :: r, _ =>
    have h0 := hb 0; have h1 := hb 1; have h2 := hb 2; have h3 := hb 3; have h4 := hb 4; have h5 := hb 5; have h6 := hb 6; have h7 := hb 7
    simp at h0 h1 h2 h3 h4 h5 h6 h7
    simp [le8, leN]
    omega

theorem or4 {a b c d : Int} (ha : 0 ≤ a ∧ a ≤ 255) (hb : 0 ≤ b ∧ b ≤ 255) (hc : 0 ≤ c ∧ c ≤ 255) (hd : 0 ≤ d ∧ d ≤ 255) :
    bOr .u32 (bOr .u32 (bOr .u32 (IntKind.wrap .u32 a) (IntKind.wrap .u32 (IntKind.wrap .u32 b * 2 ^ 8))) (IntKind.wrap .u32 (IntKind.wrap .u32 c * 2 ^ 16))) (IntKind.wrap .u32 (IntKind.wrap .u32 d * 2 ^ 24)) =
      a + b * 2 ^ 8 + c * 2 ^ 16 + d * 2 ^ 24 := by
  have w : ∀ x : Int, 0 ≤ x ∧ x ≤ 255 → IntKind.wrap .u32 x = x := fun x h => w_u32 (by omega) (by omega)
  rw [w a ha, w b hb, w c hc, w d hd, w_u32 (x := b * 2 ^ 8) (by omega) (by omega), w_u32 (x := c * 2 ^ 16) (by omega) (by omega), w_u32 (x := d * 2 ^ 24) (by omega) (by omega)]
  have hB : (2 : Int) ^ IntKind.u32.bits = 4294967296 := by rfl
  rw [or_addI rfl 8 (by omega) (by omega) (by omega) (by rw [hB]; omega), or_addI rfl 16 (by omega) (by omega) (by omega) (by rw [hB]; omega), or_addI rfl 24 (by omega) (by omega) (by omega) (by rw [hB]; omega)]

theorem or8 {a b c d e f g i : Int} (ha : 0 ≤ a ∧ a ≤ 255) (hb : 0 ≤ b ∧ b ≤ 255) (hc : 0 ≤ c ∧ c ≤ 255) (hd : 0 ≤ d ∧ d ≤ 255) (he : 0 ≤ e ∧ e ≤ 255) (hf : 0 ≤ f ∧ f ≤ 255) (hg : 0 ≤ g ∧ g ≤ 255) (hi : 0 ≤ i ∧ i ≤ 255) :
    bOr .u64 (bOr .u64 (bOr .u64 (bOr .u64 (bOr .u64 (bOr .u64 (bOr .u64 (IntKind.wrap .u64 a) (IntKind.wrap .u64 (IntKind.wrap .u64 b * 2 ^ 8))) (IntKind.wrap .u64 (IntKind.wrap .u64 c * 2 ^ 16))) (IntKind.wrap .u64 (IntKind.wrap .u64 d * 2 ^ 24)))
      (IntKind.wrap .u64 (IntKind.wrap .u64 e * 2 ^ 32))) (IntKind.wrap .u64 (IntKind.wrap .u64 f * 2 ^ 40))) (IntKind.wrap .u64 (IntKind.wrap .u64 g * 2 ^ 48))) (IntKind.wrap .u64 (IntKind.wrap .u64 i * 2 ^ 56)) =
      a + b * 2 ^ 8 + c * 2 ^ 16 + d * 2 ^ 24 + e * 2 ^ 32 + f * 2 ^ 40 + g * 2 ^ 48 + i * 2 ^ 56 := by
  have w : ∀ x : Int, 0 ≤ x ∧ x ≤ 255 → IntKind.wrap .u64 x = x := fun x h => w_u64 (by omega) (by omega)
  rw [w a ha, w b hb, w c hc, w d hd, w e he, w f hf, w g hg, w i hi, w_u64 (x := b * 2 ^ 8) (by omega) (by omega), w_u64 (x := c * 2 ^ 16) (by omega) (by omega), w_u64 (x := d * 2 ^ 24) (by omega) (by omega),
    w_u64 (x := e * 2 ^ 32) (by omega) (by omega), w_u64 (x := f * 2 ^ 40) (by omega) (by omega), w_u64 (x := g * 2 ^ 48) (by omega) (by omega), w_u64 (x := i * 2 ^ 56) (by omega) (by omega)]
  have hB : (2 : Int) ^ IntKind.u64.bits = 18446744073709551616 := by rfl
  rw [or_addI rfl 8 (by omega) (by omega) (by omega) (by rw [hB]; omega), or_addI rfl 16 (by omega) (by omega) (by omega) (by rw [hB]; omega), or_addI rfl 24 (by omega) (by omega) (by omega) (by rw [hB]; omega),
    or_addI rfl 32 (by omega) (by omega) (by omega) (by rw [hB]; omega), or_addI rfl 40 (by omega) (by omega) (by omega) (by rw [hB]; omega), or_addI rfl 48 (by omega) (by omega) (by omega) (by rw [hB]; omega), or_addI rfl 56 (by omega) (by omega) (by omega) (by rw [hB]; omega)]

theorem le32 {s : Sl} {h : Heap} {l : List Int} (hs : SlI h .u8 s l) (hb : Byt l) (hn : 4 ≤ s.n) {K : Int → Heap → Prop} (hK : ∀ h', Old h h' → K (le4 l) h') : c_littleEndian_Uint32 s h K := by
  apply M_littleEndian_Uint32.calls
  simp only [M_littleEndian_Uint32.stm, sq_reg, M_littleEndian_Uint32.r0, M_littleEndian_Uint32.r1, M_littleEndian_Uint32.r2, withH, M_littleEndian_Uint32.init]
  have hs' := hs.ext (Old.new h [] 35).ext
  refine hs'.ld (by omega) (by omega) ?_
  refine hs'.ld (by omega) (by omega) ?_
  refine hs'.ld (by omega) (by omega) ?_
  refine hs'.ld (by omega) (by omega) ?_
  refine hs'.ld (by omega) (by omega) ?_
  have := hK (hnew h [] 35) (Old.new h [] 35)
  rw [or4 (hb _) (hb _) (hb _) (hb _)]
  exact this

theorem le64 {s : Sl} {h : Heap} {l : List Int} (hs : SlI h .u8 s l) (hb : Byt l) (hn : 8 ≤ s.n) {K : Int → Heap → Prop} (hK : ∀ h', Old h h' → K (le8 l) h') : c_littleEndian_Uint64 s h K := by
  apply M_littleEndian_Uint64.calls
  simp only [M_littleEndian_Uint64.stm, sq_reg, M_littleEndian_Uint64.r0, M_littleEndian_Uint64.r1, M_littleEndian_Uint64.r2, withH, M_littleEndian_Uint64.init]
  have hs' := hs.ext (Old.new h [] 35).ext
  refine hs'.ld (by omega) (by omega) ?_
  iterate 8 refine hs'.ld (by omega) (by omega) ?_
  have := hK (hnew h [] 35) (Old.new h [] 35)
  rw [or8 (hb _) (hb _) (hb _) (hb _) (hb _) (hb _) (hb _) (hb _)]
  exact this

theorem load32 {s : Sl} {h : Heap} {l : List Int} (hs : SlI h .u8 s l) (hb : Byt l) (hn : 4 ≤ s.n) {K : Int → Heap → Prop} (hK : ∀ h', Old h h' → K (leN (l.take 4) : Int) h') : c_load32 s 0 h K := by
  apply M_load32.calls
  simp only [M_load32.stm, sq_reg, M_load32.r0, M_load32.r1, M_load32.init]
  apply M_Load32.calls
  simp only [M_Load32.stm, sq_reg, M_Load32.r0, M_Load32.r1, M_Load32.init]
  refine ⟨by omega, by omega, ?_⟩
  refine le32 (hs.from (i := 0) (by omega)) (hb.drop _) (by simp; omega) fun h' ho => ?_
  have := hK h' ho
  rw [← le4_eq hb (by rw [hs.1]; exact hn)] at this
  exact this
theorem load64 {s : Sl} {h : Heap} {l : List Int} (hs : SlI h .u8 s l) (hb : Byt l) (hn : 8 ≤ s.n) {K : Int → Heap → Prop} (hK : ∀ h', Old h h' → K (leN (l.take 8) : Int) h') : c_load64 s 0 h K := by
  apply M_load64.calls
  simp only [M_load64.stm, sq_reg, M_load64.r0, M_load64.r1, M_load64.init]
  apply M_Load64.calls
  simp only [M_Load64.stm, sq_reg, M_Load64.r0, M_Load64.r1, M_Load64.init]
  refine ⟨by omega, by omega, ?_⟩
  refine le64 (hs.from (i := 0) (by omega)) (hb.drop _) (by simp; omega) fun h' ho => ?_
  have := hK h' ho
  rw [← le8_eq hb (by rw [hs.1]; exact hn)] at this
  exact this

/-- The place in the table that a number's lowest bit names. -/
theorem low32 {x : Nat} (hx0 : 0 < x) (hx : x < 2 ^ 32) : ∃ i : Nat, i < 32 ∧ Lib.deBruijn32tab.getD i 0 = Lib.ctz 32 x ∧ Lib.ctz 32 x < 32 ∧
    Int.fdiv (IntKind.wrap .u32 (bAnd .u32 (x : Int) (IntKind.wrap .u32 (0 - (x : Int))) * 125613361)) (2 ^ 27) = (i : Int) := by
  obtain ⟨h1, h2⟩ := Lib.lowest_bit 32 x (by omega) hx
  have hw : IntKind.wrap .u32 (0 - (x : Int)) = ((2 ^ 32 - x : Nat) : Int) := by rw [IntKind.wrap_u32]; omega
  have hB : (2 : Nat) ^ IntKind.u32.bits = 2 ^ 32 := rfl
  obtain ⟨h3, h4⟩ := Lib.deBruijn32_at _ h2
  rw [hw, and_nat rfl (by rw [hB]; omega) (by rw [hB]; omega), h1, fdiv_pow]
  generalize 2 ^ Lib.ctz 32 x = p at *
  refine ⟨_, h3, h4, h2, ?_⟩
  rw [IntKind.wrap_u32, Int.natCast_ediv, Int.natCast_emod, Int.natCast_mul]
  rfl
theorem low64 {x : Nat} (hx0 : 0 < x) (hx : x < 2 ^ 64) : ∃ i : Nat, i < 64 ∧ Lib.deBruijn64tab.getD i 0 = Lib.ctz 64 x ∧ Lib.ctz 64 x < 64 ∧
    Int.fdiv (IntKind.wrap .u64 (bAnd .u64 (x : Int) (IntKind.wrap .u64 (0 - (x : Int))) * 285870213051353865)) (2 ^ 58) = (i : Int) := by
  obtain ⟨h1, h2⟩ := Lib.lowest_bit 64 x (by omega) hx
  have hw : IntKind.wrap .u64 (0 - (x : Int)) = ((2 ^ 64 - x : Nat) : Int) := by rw [IntKind.wrap_u64]; omega
  have hB : (2 : Nat) ^ IntKind.u64.bits = 2 ^ 64 := rfl
  obtain ⟨h3, h4⟩ := Lib.deBruijn64_at _ h2
  rw [hw, and_nat rfl (by rw [hB]; omega) (by rw [hB]; omega), h1, fdiv_pow]
  generalize 2 ^ Lib.ctz 64 x = p at *
  refine ⟨_, h3, h4, h2, ?_⟩
  rw [IntKind.wrap_u64, Int.natCast_ediv, Int.natCast_emod, Int.natCast_mul]
  rfl

theorem tz32 {h : Heap} {x : Nat} (ht : Tab h 0 Lib.deBruijn32tab) (hx0 : 0 < x) (hx : x < 2 ^ 32) {K : Int → Heap → Prop} (hK : K (Lib.ctz 32 x : Int) h) : c_TrailingZeros32 x h K := by
  apply M_TrailingZeros32.calls
  simp only [M_TrailingZeros32.stm, sq_reg, sq_test, sq_skip, M_TrailingZeros32.r0, M_TrailingZeros32.r1, M_TrailingZeros32.r3, M_TrailingZeros32.init]
  rw [if_neg (by simp; omega)]
  obtain ⟨i, hi, e1, e2, e3⟩ := low32 hx0 hx
  rw [e3]
  refine ⟨by omega, by omega, (Lib.ctz 32 x : Int), ?_, ?_⟩
  · rw [add_mk, Int.toNat_natCast, Nat.mul_one, Nat.zero_add, ht i hi, e1]
  · rw [w_i64 (by omega) (by omega)]
    exact hK
theorem tz64 {h : Heap} {x : Nat} (ht : Tab h 1 Lib.deBruijn64tab) (hx0 : 0 < x) (hx : x < 2 ^ 64) {K : Int → Heap → Prop} (hK : K (Lib.ctz 64 x : Int) h) : c_TrailingZeros64 x h K := by
  apply M_TrailingZeros64.calls
  simp only [M_TrailingZeros64.stm, sq_reg, sq_test, sq_skip, M_TrailingZeros64.r0, M_TrailingZeros64.r1, M_TrailingZeros64.r3, M_TrailingZeros64.init]
  rw [if_neg (by simp; omega)]
  obtain ⟨i, hi, e1, e2, e3⟩ := low64 hx0 hx
  rw [e3]
  refine ⟨by omega, by omega, (Lib.ctz 64 x : Int), ?_, ?_⟩
  · rw [add_mk, Int.toNat_natCast, Nat.mul_one, Nat.zero_add, ht i hi, e1]
  · rw [w_i64 (by omega) (by omega)]
    exact hK

theorem ctz_spec {n x : Nat} (h0 : 0 < x) (hx : x < 2 ^ n) : ∃ m, x = 2 ^ Lib.ctz n x * (2 * m + 1) ∧ Lib.ctz n x < n := by
  obtain ⟨m, hm, hk⟩ := Lib.ctzFrom_spec n x h0 hx
  have e : Lib.ctz n x = Lib.ctzFrom n x := by simp [Lib.ctz]; omega
  rw [e]
  exact ⟨m, hm, hk⟩
end Go.Proofs.YtgcmdkiahjjpeaaDoor
