/- A part of the calculus over heaps, or of the proof over it: what functions of the program compute, and the plain law. -/
import Derived.Test.YtibleenkgmkpmaaDoorText7
import Derived.Test.YtibleenkgmkpmaaDoorText5
import Derived.Test.YtibleenkgmkpmaaDoorModels2
import Derived.Test.YtibleenkgmkpmaaDoorText4
import Derived.Test.YtibleenkgmkpmaaDoorText3
import Derived.Test.YtibleenkgmkpmaaDoorModels3
import Derived.Test.YtibleenkgmkpmaaDoorModels4
import Derived.Test.YtibleenkgmkpmaaDoorText2

set_option linter.unusedSimpArgs false
set_option linter.unusedVariables false
set_option linter.unusedSectionVars false
namespace Go.Proofs.YtibleenkgmkpmaaDoor
open Go Go.Vc Go.Ml Go.S2

theorem implLz4ConvertS2 {h : Heap} {S : Sl} {l res : List Int} (hS : SlI h .u8 S l) (hsB : ∀ a, 0 < S.n → S.p = some a → a.block < h.size) (hb : Bts l) (hl : l.length ≤ 65536) (hZ : Z false l 0 [] = some res) {K : Sl → Int → Bool → Heap → Prop}
    (hK : ∀ s body last h', Own h.size h' .u8 5 s body → GoesG true body res last → Bts body → body.length ≤ 2 ^ 21 → Old h h' → K s res.length true h') : c_impl_Lz4Convert S false h K := by
  have hsl := hS.len
  apply M_impl_Lz4Convert.calls
  simp only [SS, M_impl_Lz4Convert.k4, M_impl_Lz4Convert.k3, M_impl_Lz4Convert.k2, M_impl_Lz4Convert.k1, M_impl_Lz4Convert.k0, M_impl_Lz4Convert.stm, M_impl_Lz4Convert.r0, M_impl_Lz4Convert.r1, M_impl_Lz4Convert.r2, M_impl_Lz4Convert.r3, M_impl_Lz4Convert.r4, M_impl_Lz4Convert.r5, M_impl_Lz4Convert.r6, M_impl_Lz4Convert.r7, M_impl_Lz4Convert.r8, M_impl_Lz4Convert.init, M_impl_Lz4Convert.res, withH_eq, ptrE_some, add_mk, Nat.zero_add, Nat.add_zero]
  have o1 := Old.new h (zcells Pg 107) 107
  generalize hnew h (zcells Pg 107) 107 = h1 at *
  have hs1 := o1.size
  rw [if_neg (by simp)]
  have ew : IntKind.wrap .i64 (IntKind.wrap .i64 (16 * ((S.n : Nat) : Int)) + 64) = ((16 * l.length + 64 : Nat) : Int) := by rw [w_i64 (x := 16 * ((S.n : Nat) : Int)) (by omega) (by omega), w_i64 (by omega) (by omega)]; omega
  rw [ew]
  refine mkT_cap (z := .int .u8 0) (by omega) ts5 tb5 (by kernel_rfl) ?_
  have o2 := Old.new h1 (List.replicate (16 * l.length + 64) (.int .u8 0)) 5
  have hb2 := Blk.new h1 (List.replicate (16 * l.length + 64) (.int .u8 0)) 5
  generalize hnew h1 (List.replicate (16 * l.length + 64) (.int .u8 0)) 5 = h2 at *
  rw [← List.map_replicate (f := Value.int .u8) (a := 0)] at hb2
  have hS2 := (hS.ext o1.ext).ext o2.ext
  have key : c_Lc2 (some ⟨h.size, 0, none⟩) ⟨some ⟨h1.size, 0, none⟩, 0, 16 * l.length + 64⟩ S h2 fun s r e h6 => nilE e fun b1 => if (!b1) = true then K ⟨none, 0, 0⟩ 0 false h6 else c_impl_copied s h6 fun w2 h1 => K w2 r true h1 := by
    refine convLc2 hb2 hS2 (fun a h0 ha => by have := hsB a h0 ha; omega) hb hl rfl hZ fun body last h3 q1 q2 q3 q4 q5 => ?_
    simp only [nilE, isNilI]
    rw [if_neg (by simp)]
    have o3 : Old h h3 := o1.trans (Keep.old ((Keep.of_old o2).trans (Keep.of_fr q5 (Nat.le_refl _))))
    refine copiedS (sl_putL (N := 0) q1 (by omega)) (by omega) fun s h4 HO o4 => ?_
    exact hK s body last h4 (HO.mono (by have := o3.size; omega)) q2 q3 (by omega) (o3.trans o4)
  exact key

theorem implLz4sConvertS2 {h : Heap} {S : Sl} {l res : List Int} (hS : SlI h .u8 S l) (hsB : ∀ a, 0 < S.n → S.p = some a → a.block < h.size) (hb : Bts l) (hl : l.length ≤ 65536) (hZ : Z true l 0 [] = some res) {K : Sl → Int → Bool → Heap → Prop}
    (hK : ∀ s body last h', Own h.size h' .u8 5 s body → GoesG true body res last → Bts body → body.length ≤ 2 ^ 21 → Old h h' → K s res.length true h') : c_impl_Lz4sConvert S false h K := by
  have hsl := hS.len
  apply M_impl_Lz4sConvert.calls
  simp only [SS, M_impl_Lz4sConvert.k4, M_impl_Lz4sConvert.k3, M_impl_Lz4sConvert.k2, M_impl_Lz4sConvert.k1, M_impl_Lz4sConvert.k0, M_impl_Lz4sConvert.stm, M_impl_Lz4sConvert.r0, M_impl_Lz4sConvert.r1, M_impl_Lz4sConvert.r2, M_impl_Lz4sConvert.r3, M_impl_Lz4sConvert.r4, M_impl_Lz4sConvert.r5, M_impl_Lz4sConvert.r6, M_impl_Lz4sConvert.r7, M_impl_Lz4sConvert.r8, M_impl_Lz4sConvert.init, M_impl_Lz4sConvert.res, withH_eq, ptrE_some, add_mk, Nat.zero_add, Nat.add_zero]
  have o1 := Old.new h (zcells Pg 104) 104
  generalize hnew h (zcells Pg 104) 104 = h1 at *
  have hs1 := o1.size
  rw [if_neg (by simp)]
  have ew : IntKind.wrap .i64 (IntKind.wrap .i64 (16 * ((S.n : Nat) : Int)) + 64) = ((16 * l.length + 64 : Nat) : Int) := by rw [w_i64 (x := 16 * ((S.n : Nat) : Int)) (by omega) (by omega), w_i64 (by omega) (by omega)]; omega
  rw [ew]
  refine mkT_cap (z := .int .u8 0) (by omega) ts5 tb5 (by kernel_rfl) ?_
  have o2 := Old.new h1 (List.replicate (16 * l.length + 64) (.int .u8 0)) 5
  have hb2 := Blk.new h1 (List.replicate (16 * l.length + 64) (.int .u8 0)) 5
  generalize hnew h1 (List.replicate (16 * l.length + 64) (.int .u8 0)) 5 = h2 at *
  rw [← List.map_replicate (f := Value.int .u8) (a := 0)] at hb2
  have hS2 := (hS.ext o1.ext).ext o2.ext
  have key : c_Ls2 (some ⟨h.size, 0, none⟩) ⟨some ⟨h1.size, 0, none⟩, 0, 16 * l.length + 64⟩ S h2 fun s r e h6 => nilE e fun b1 => if (!b1) = true then K ⟨none, 0, 0⟩ 0 false h6 else c_impl_copied s h6 fun w2 h1 => K w2 r true h1 := by
    refine convLs2 hb2 hS2 (fun a h0 ha => by have := hsB a h0 ha; omega) hb hl rfl hZ fun body last h3 q1 q2 q3 q4 q5 => ?_
    simp only [nilE, isNilI]
    rw [if_neg (by simp)]
    have o3 : Old h h3 := o1.trans (Keep.old ((Keep.of_old o2).trans (Keep.of_fr q5 (Nat.le_refl _))))
    refine copiedS (sl_putL (N := 0) q1 (by omega)) (by omega) fun s h4 HO o4 => ?_
    exact hK s body last h4 (HO.mono (by have := o3.size; omega)) q2 q3 (by omega) (o3.trans o4)
  exact key

theorem convertS2 {md : Bool} {h : Heap} {S : Sl} {l res : List Int} (hS : SlI h .u8 S l) (hsB : ∀ a, 0 < S.n → S.p = some a → a.block < h.size) (hb : Bts l) (hl : l.length ≤ 65536) (hZ : Z md l 0 [] = some res) {K : Sl → Int → Bool → Heap → Prop}
    (hK : ∀ s body last h', Own h.size h' .u8 5 s body → GoesG true body res last → Bts body → body.length ≤ 2 ^ 21 → Old h h' → K s res.length true h') : c_laws_convert S md false h K := by
  apply M_laws_convert.calls
  simp only [SS, M_laws_convert.k0, M_laws_convert.stm, M_laws_convert.r0, M_laws_convert.r1, M_laws_convert.r2, M_laws_convert.r3, M_laws_convert.init, M_laws_convert.res]
  cases md with
  | true => rw [if_pos rfl]; exact implLz4sConvertS2 hS hsB hb hl hZ hK
  | false => rw [if_neg (by simp)]; exact implLz4ConvertS2 hS hsB hb hl hZ hK
end Go.Proofs.YtibleenkgmkpmaaDoor

set_option linter.unusedSimpArgs false
set_option linter.unusedVariables false
set_option linter.unusedSectionVars false
namespace Go.Proofs.YtibleenkgmkpmaaDoor
open Go Go.Vc Go.Ml Go.S2
theorem or_shift {n b i : Nat} (hi : i ≤ 4) (hn : n < 2 ^ (7 * i)) (hb : b ≤ 255) : bOr .u64 (n : Int) (IntKind.wrap .u64 (IntKind.wrap .u64 (b : Int) * 2 ^ (7 * i))) = ((n + b * 2 ^ (7 * i) : Nat) : Int) := by
  have hB : (2 : Nat) ^ IntKind.u64.bits = 18446744073709551616 := by rfl
  have hp := pow7 hi
  have hq : b * 2 ^ (7 * i) ≤ 255 * 2 ^ 28 := Nat.mul_le_mul hb hp
  have e : (b : Int) * 2 ^ (7 * i) = ((b * 2 ^ (7 * i) : Nat) : Int) := by push_cast; rfl
  rw [w_u64 (x := (b : Int)) (by omega) (by omega), e, w_u64 (by omega) (by omega), or_nat rfl (by rw [hB]; omega) (by rw [hB]; omega), or_add hn]

section
variable {S : Sl} {l : List Int} {h : Heap}

set_option maxRecDepth 100000 in
theorem Uvarint (hS : SlI h .u8 S l) (hb : Byt l) (hl : l.length < 2 ^ 36) {K : Int → Int → Heap → Prop} (hK : ∀ x n : Int, (dlen l = none → n ≤ 0 ∨ 5 < n ∨ 4294967295 < x) → (∀ v k : Nat, dlen l = some (v, k) → x = v ∧ n = k) → K x n h) : c_Uvarint S h K := by
  have hsl := hS.len
  apply M_Uvarint.calls
  simp only [SS, M_Uvarint.stm, M_Uvarint.k0, M_Uvarint.k1, M_Uvarint.k2, M_Uvarint.k3, M_Uvarint.init, M_Uvarint.r0, M_Uvarint.r1, M_Uvarint.r2, M_Uvarint.r3, M_Uvarint.r15]
  refine loop_rule (I := fun s' h' => h' = h ∧ s'.t8 = S ∧ s'.t9 = l.length ∧ ∃ i : Nat, s'.t10 = i ∧ i ≤ l.length ∧ i ≤ 10 ∧ s'.x_s = ((7 * i : Nat) : Int) ∧ (i ≤ 4 → ∃ n : Nat, s'.x_x = n ∧ n < 2 ^ (7 * i) ∧ vlen l (5 - i) i n = dlen l) ∧ (5 ≤ i → dlen l = none)) (μ := fun s' _ => (l.length - s'.t10).toNat) ?_ ?_
  · exact ⟨rfl, rfl, by rw [← hsl], 0, rfl, by omega, by omega, rfl, fun _ => ⟨0, rfl, by decide, rfl⟩, fun h => by omega⟩
  · rintro s' h' ⟨rfl, e8, e9, i, e10, hi, hi10, es, hlo, hhi⟩
    simp only [SS, M_Uvarint.k4, M_Uvarint.k5, M_Uvarint.res, M_Uvarint.r4, e8, e9, e10, es]
    by_cases hc : (i : Int) < l.length
    · rw [if_pos (by simpa using hc)]
      simp only [SS, M_Uvarint.k6, M_Uvarint.k7, M_Uvarint.k8, M_Uvarint.k9, M_Uvarint.res, M_Uvarint.r5, M_Uvarint.r14, M_Uvarint.r6, M_Uvarint.r7, M_Uvarint.r8, M_Uvarint.r12, M_Uvarint.r13, M_Uvarint.r9, M_Uvarint.r10, M_Uvarint.r11, e8, e9, e10, es]
      refine hS.ldB hb (j := i) rfl (by omega) fun v hv he hev => ?_
      by_cases h10 : i = 10
      · rw [if_pos (by simp; omega)]
        refine hK _ _ (fun _ => Or.inl ?_) (fun v k hd => by rw [hhi (by omega)] at hd; cases hd)
        simp (disch := omega) only [w_i64, w_u64, w_i32, w_u32, w_u16, w_u8, w_i16, Nat.reducePow]; omega
      rewrite [if_neg (by simp <;> omega)]
      rcases Nat.lt_or_ge v 128 with hlt | hlt
      · rw [if_pos (by simp <;> omega)]
        have big : 5 ≤ i → ∀ x : Int, K x (IntKind.i64.wrap (i + 1)) h' := by
          intro h5 x
          refine hK _ _ (fun _ => Or.inr (Or.inl ?_)) (fun v k hd => by rw [hhi h5] at hd; cases hd)
          simp (disch := omega) only [w_i64, w_u64, w_i32, w_u32, w_u16, w_u8, w_i16, Nat.reducePow]; omega
        have last : (if ((7 * i : Nat) : Int) < 0 then False else K (bOr .u64 s'.x_x (IntKind.u64.wrap (IntKind.u64.wrap v * 2 ^ (min (Int.toNat ((7 * i : Nat) : Int)) 64)))) (IntKind.i64.wrap (i + 1)) h') := by
          rw [if_neg (by omega)]
          by_cases h5 : 5 ≤ i
          · exact big h5 _
          obtain ⟨n, ex, hn, hd⟩ := hlo (by omega)
          rw [ex, Int.toNat_natCast, show min (7 * i) 64 = 7 * i by omega, or_shift (by omega) hn hv]
          rw [show 5 - i = (4 - i) + 1 by omega] at hd
          unfold vlen at hd
          rw [if_neg (by omega)] at hd
          simp only at hd
          rw [hev, if_neg (by omega), show v % 128 = v by omega] at hd
          simp (disch := omega) only [w_i64, w_u64, w_i32, w_u32, w_u16, w_u8, w_i16, Nat.reducePow]
          by_cases hbig : 2 ^ 32 ≤ n + v * 2 ^ (7 * i)
          · rw [if_pos hbig] at hd
            refine hK _ _ (fun _ => Or.inr (Or.inr (by omega))) (fun v k hd2 => by rw [← hd] at hd2; cases hd2)
          · rw [if_neg hbig] at hd
            refine hK _ _ (fun hd2 => by rw [← hd] at hd2; cases hd2) (fun v k hd2 => ?_)
            rw [← hd] at hd2
            simp only [Option.some.injEq, Prod.mk.injEq] at hd2
            exact ⟨by rw [hd2.1], by omega⟩
        by_cases h9 : i = 9
        · rw [if_pos (by simp [h9])]
          by_cases hv1 : (v : Int) > 1
          · rw [if_pos (by simpa using hv1)]
            refine hK _ _ (fun _ => Or.inl ?_) (fun v k hd => by rw [hhi (by omega)] at hd; cases hd)
            simp (disch := omega) only [w_i64, w_u64, w_i32, w_u32, w_u16, w_u8, w_i16, Nat.reducePow]; omega
          · rw [if_neg (by simpa using hv1)]
            exact last
        · rw [if_neg (by simp; omega)]
          simpa using last
      · rw [if_neg (by simp <;> omega)]
        rw [if_neg (by omega)]
        simp (disch := omega) only [w_i64, w_u64, w_i32, w_u32, w_u16, w_u8, w_i16, Nat.reducePow, u8_and127]
        refine ⟨⟨trivial, by first | trivial | rfl, by first | trivial | rfl, i + 1, by omega, by omega, by omega, by omega, ?_, ?_⟩, by omega⟩
        · intro h4
          obtain ⟨n, ex, hn, hd⟩ := hlo (by omega)
          have ht : ((7 * (i : Int))).toNat = 7 * i := by omega
          refine ⟨n + v % 128 * 2 ^ (7 * i), ?_, ?_, ?_⟩
          · rw [ex, show (Int.toNat ((7 * i : Nat) : Int)) = 7 * i by omega, show min (7 * i) 64 = 7 * i by omega]
            have := or_shift (n := n) (b := v % 128) (i := i) (by omega) hn (by omega)
            rw [w_u64 (x := ((v % 128 : Nat) : Int)) (by omega) (by omega)] at this
            exact this
          · rw [show 7 * (i + 1) = 7 * i + 7 by omega, Nat.pow_add]
            have : v % 128 * 2 ^ (7 * i) ≤ 127 * 2 ^ (7 * i) := Nat.mul_le_mul_right _ (by omega)
            omega
          · rw [← hd, show 5 - i = (5 - (i + 1)) + 1 by omega]
            conv => rhs; unfold vlen
            rw [if_neg (by omega)]
            simp only
            rw [hev, if_pos (by omega)]
        · intro h5
          by_cases h4 : i = 4
          · obtain ⟨n, ex, hn, hd⟩ := hlo (by omega)
            subst h4
            rw [← hd]
            show vlen l 1 4 n = none
            simp only [vlen]
            rw [if_neg (by omega), hev, if_pos (by omega)]
          · exact hhi (by omega)
    · rw [if_neg (by simpa using hc)]
      simp only [SS, M_Uvarint.k2, M_Uvarint.res, M_Uvarint.r3, M_Uvarint.r15]
      have hno : dlen l = none := by
        by_cases h5 : 5 ≤ i
        · exact hhi h5
        · obtain ⟨n, _, _, hd⟩ := hlo (by omega)
          rw [← hd, show 5 - i = (4 - i) + 1 by omega]
          unfold vlen
          rw [if_pos (by omega)]
      exact hK 0 0 (fun _ => Or.inl (by omega)) (fun v k hd => by rw [hno] at hd; cases hd)

theorem decodedLen (hS : SlI h .u8 S l) (hb : Byt l) (hl : l.length < 2 ^ 36) {E : Value} (hE : hcell h ⟨0, 0, none⟩ = some E) {K : Int → Int → Value → Heap → Prop} (hbad : dlen l = none → K 0 0 E h) (hok : ∀ v k : Nat, dlen l = some (v, k) → k ≤ l.length → v < 2 ^ 32 → K v k .nilIface h) : c_decodedLen S h K := by
  apply M_decodedLen.calls
  simp only [SS, M_decodedLen.stm, M_decodedLen.k0, M_decodedLen.k1, M_decodedLen.k2, M_decodedLen.init, M_decodedLen.res, M_decodedLen.r0, M_decodedLen.r1, M_decodedLen.r2, M_decodedLen.r3, M_decodedLen.r4, M_decodedLen.r5, M_decodedLen.r6]
  refine Uvarint hS hb hl fun x n h1 h2 => ?_
  cases hd : dlen l with
  | none =>
    have h1' := h1 hd
    have hb' := hbad hd
    have key : ∃ u : Value, hcell h ⟨0, 0, none⟩ = some u ∧ K 0 0 u h := ⟨E, hE, hb'⟩
    by_cases g1 : n ≤ 0
    · rw [if_neg (by simp <;> omega)]
      simpa using key
    · rw [if_pos (by simp <;> omega)]
      by_cases g2 : n > 5
      · rw [if_neg (by simp <;> omega)]
        simpa using key
      · rw [if_pos (by simp <;> omega), if_pos (by simp <;> omega)]
        exact key
  | some vk =>
    obtain ⟨v, k⟩ := vk
    obtain ⟨rfl, rfl⟩ := h2 v k hd
    have hv := vlen_ok hd
    rw [if_pos (by simp <;> omega), if_pos (by simp <;> omega), if_neg (by simp <;> omega), if_neg (by simp)]
    simp (disch := omega) only [w_i64, w_u64, w_i32, w_u32, w_u16, w_u8, w_i16, Nat.reducePow]
    exact hok v k hd hv.2.1 hv.1

end
end Go.Proofs.YtibleenkgmkpmaaDoor

set_option linter.unusedSimpArgs false
set_option linter.unusedVariables false
set_option linter.unusedSectionVars false
namespace Go.Proofs.YtibleenkgmkpmaaDoor
open Go Go.Vc Go.Ml Go.S2

theorem copyPartA {N db last len : Nat} {out M : List Int} {h : Heap} {st : M_s2Decode.St} {Q : Ex → M_s2Decode.St → Heap → Prop} {c : Nat} {dp : Option Addr}
    (eD : st.x_dst = ⟨dp, N, c⟩) (hdp : 0 < N → dp = some ⟨db, 0, none⟩) (hc : N ≤ c) (ed : st.x_d = out.length) (el : st.x_length = len) (eo : st.x_offset = last)
    (HB : 0 < N → Blk h db (M.map (Value.int .u8)) 5) (hM : M.length = N) (hMo : M.take out.length = out) (hN : N < 2 ^ 36) (hlen0 : 0 < len) (hlen : len < 2 ^ 38) (hlast : last < 2 ^ 38) (hout : out.length ≤ N)
    (hbad : last = 0 ∨ out.length < last ∨ N < out.length + len → ∀ st' : M_s2Decode.St, st'.t4 = 1 → Q .ret st' h)
    (hok : 0 < last → last ≤ out.length → out.length + len ≤ N → ∀ (st' : M_s2Decode.St) (h' : Heap) (M' : List Int), st'.x_dst = st.x_dst → st'.x_src = st.x_src → st'.x_s = st.x_s → st'.x_offset = st.x_offset → st'.x_d = ((out.length + len : Nat) : Int) →
      Blk h' db (M'.map (Value.int .u8)) 5 → M'.length = N → M'.take (out.length + len) = fwd out last len → Fr (· = db) h h' → Q .norm st' h') :
    M_s2Decode.k31 st h (BK 1 Q) := by
  have hMl : out.length ≤ M.length := by omega
  simp only [SS, M_s2Decode.k31, M_s2Decode.k32, M_s2Decode.r54, M_s2Decode.r55, M_s2Decode.r56, eD, ed, el, eo]
  simp (disch := omega) only [w_i64, w_u64, w_i32, w_u32, w_u16, w_u8, w_i16, Nat.reducePow]
  by_cases b1 : last = 0
  · rw [if_neg (by simp <;> omega), if_pos trivial]
    exact hbad (Or.inl b1) _ rfl
  rw [if_pos (by simp <;> omega)]
  by_cases b2 : out.length < last
  · rw [if_neg (by simp <;> omega), if_pos trivial]
    exact hbad (Or.inr (Or.inl b2)) _ rfl
  rw [if_pos (by simp <;> omega)]
  by_cases b3 : N < out.length + len
  · rw [if_pos (by simp <;> omega)]
    exact hbad (Or.inr (Or.inr b3)) _ rfl
  rw [if_neg (by simp <;> omega)]
  have hok' := hok (by omega) (by omega) (by omega)
  obtain rfl := hdp (by omega)
  replace HB := HB (by omega)
  have hsl : SlI h .u8 ⟨some ⟨db, 0, none⟩, N, c⟩ M := ⟨hM, hc, fun _ => ⟨db, 0, rfl, fun j hj => by
    rw [Nat.zero_add, HB.cell, List.getElem?_map, List.getElem?_eq_getElem hj, List.getD_eq_getElem?_getD, List.getElem?_eq_getElem hj]; rfl⟩⟩
  by_cases b4 : (last : Int) > len
  · rw [if_pos (by simpa using b4)]
    simp only [SS, M_s2Decode.k33, M_s2Decode.r57, M_s2Decode.r58, eD, ed, el, eo]
    simp (disch := omega) only [w_i64, w_u64, w_i32, w_u32, w_u16, w_u8, w_i16, Nat.reducePow]
    have hfr := hsl.from (i := out.length - last) (by simp only; omega)
    refine ⟨by omega, by omega, by omega, by omega, by omega, by omega, ?_⟩
    have e1 : ((out.length : Int) + len).toNat - ((out.length : Int)).toNat = len := by omega
    have e2 : ((out.length : Int) - last).toNat = out.length - last := by omega
    have e3 : min (N - (out.length - last)) len = len := by omega
    rw [e1, e2, Int.toNat_natCast]
    rw [subP_at (by omega), Nat.zero_add]
    refine copy_blk (k := .u8) HB ts5 (news := (M.drop (out.length - last)).take len) (by simp; omega) ?_ (by simp; omega) fun h' HB' HF' => ?_
    · rw [e3]
      exact src_sl hfr (m := len) (by simp only; omega)
    rw [e3, ← List.map_take, ← List.map_drop, ← List.map_append, ← List.map_append] at HB'
    refine hok' _ h' _ eD.symm rfl rfl eo.symm ?_ HB' ?_ ?_ HF'
    · simp (disch := omega) only [w_i64, w_u64, w_i32, w_u32, w_u16, w_u8, w_i16, Nat.reducePow]; omega
    · simp; omega
    · have ht1 : (M.take out.length).length = out.length := by simp; omega
      have ht2 : ((M.drop (out.length - last)).take len).length = len := by simp; omega
      rw [List.take_append_of_le_length (by rw [List.length_append, ht1, ht2]; omega), List.take_of_length_le (by rw [List.length_append, ht1, ht2]; omega), fwd_apart out last len (by omega) (by omega), hMo]
      congr 1
      conv => rhs; rw [← hMo, List.drop_take]
      rw [hMo, show out.length - (out.length - last) = last by omega, List.take_take, Nat.min_eq_left (by omega)]
  · rw [if_neg (by simpa using b4)]
    simp only [SS, M_s2Decode.k34, M_s2Decode.k35, M_s2Decode.k36, M_s2Decode.k37, M_s2Decode.k38, M_s2Decode.r59, M_s2Decode.r60, M_s2Decode.r61, M_s2Decode.r62, M_s2Decode.r67, eD, ed, el, eo]
    simp (disch := omega) only [w_i64, w_u64, w_i32, w_u32, w_u16, w_u8, w_i16, Nat.reducePow]
    have e1 : ((out.length : Int) + len).toNat - ((out.length : Int)).toNat = len := by omega
    have e2 : ((out.length : Int) - last).toNat = out.length - last := by omega
    rw [e1, e2, Int.toNat_natCast, Int.toNat_natCast, subP0, subP_at (by omega), subP_at (by omega), Nat.zero_add, Nat.zero_add]
    refine ⟨by omega, by omega, by omega, by omega, by omega, by omega, by omega, by omega, ?_⟩
    refine loop_rule (I := fun s' h' => s'.x_dst = ⟨some ⟨db, 0, none⟩, N, c⟩ ∧ s'.x_src = st.x_src ∧ s'.x_s = st.x_s ∧ s'.x_offset = last ∧ s'.x_d = out.length ∧ s'.x_length = len ∧
      s'.x_a = ⟨some ⟨db, out.length, none⟩, len, c - out.length⟩ ∧ s'.x_b = ⟨some ⟨db, out.length - last, none⟩, len, c - (out.length - last)⟩ ∧ s'.t283 = len ∧ ∃ (i : Nat) (Mi : List Int), s'.t284 = i ∧ i ≤ len ∧
      Blk h' db (Mi.map (Value.int .u8)) 5 ∧ Mi.length = N ∧ Mi.take (out.length + i) = fwd out last i ∧ Fr (· = db) h h') (μ := fun s' _ => (len - s'.t284).toNat) ?_ ?_
    · exact ⟨rfl, rfl, rfl, rfl, rfl, rfl, rfl, rfl, rfl, 0, M, rfl, by omega, HB, hM, hMo, Fr.refl _ _⟩
    · rintro s' h' ⟨f1, f2, f3, f4, f5, f6, f7, f8, f9, i, Mi, f10, hi, HBi, hMi, hti, hFi⟩
      simp only [SS, M_s2Decode.k39, M_s2Decode.k40, M_s2Decode.r63, f1, f2, f3, f4, f5, f6, f7, f8, f9, f10]
      by_cases hci : (i : Int) < len
      · rw [if_pos (by simpa using hci)]
        simp only [SS, M_s2Decode.k41, M_s2Decode.r64, M_s2Decode.r65, M_s2Decode.r66, f1, f2, f3, f4, f5, f6, f7, f8, f9, f10, withH_eq, ptrE_some, add_mk, Nat.zero_add, Nat.add_zero]
        have hge : ∀ j, j < N → hcell h' ⟨db, j, none⟩ = some (.int .u8 (Mi.getD j 0)) := by
          intro j hj
          rw [HBi.cell, List.getElem?_map, List.getElem?_eq_getElem (by omega), List.getD_eq_getElem?_getD, List.getElem?_eq_getElem (by omega)]; rfl
        have ei : (i : Int).toNat * 1 = i := by omega
        rw [ei]
        have hv : Mi.getD (out.length - last + i) 0 = (fwd out last i).getD (out.length + i - last) 0 := by
          rw [← hti, getD_take _ (by omega), show out.length - last + i = out.length + i - last by omega]
        refine ⟨by omega, by omega, _, hge _ (by omega), by omega, by omega, ?_⟩
        refine st1_blk HBi (by simp; omega) ?_
        rw [← List.map_set, hv]
        refine ⟨⟨by first | trivial | rfl, by first | trivial | rfl, by first | trivial | rfl, by first | trivial | rfl, by first | trivial | rfl, by first | trivial | rfl, by first | trivial | rfl, by first | trivial | rfl, by first | trivial | rfl, i + 1, _, ?_, by omega, Blk.put HBi.lt _ _, by simpa using hMi, ?_, hFi.trans Fr.put⟩, ?_⟩
        · rw [w_i64 (by omega) (by omega)]; omega
        · rw [← Nat.add_assoc, take_set_succ _ _ _ (by omega), hti]
          rfl
        · rw [w_i64 (by omega) (by omega)]; omega
      · rw [if_neg (by simpa using hci)]
        obtain rfl : i = len := by omega
        simp only [SS, M_s2Decode.r67, f1, f2, f3, f4, f5, f6, f7, f8, f9, f10]
        refine hok' _ h' Mi ?_ ?_ ?_ ?_ ?_ HBi hMi hti hFi
        · exact eD.symm
        · rfl
        · rfl
        · exact eo.symm
        · show IntKind.i64.wrap _ = _
          rw [w_i64 (by omega) (by omega)]; omega

theorem copyPartB {N db last len : Nat} {out M : List Int} {h : Heap} {st : M_s2Decode.St} {Q : Ex → M_s2Decode.St → Heap → Prop} {c : Nat} {dp : Option Addr}
    (eD : st.x_dst = ⟨dp, N, c⟩) (hdp : 0 < N → dp = some ⟨db, 0, none⟩) (hc : N ≤ c) (ed : st.x_d = out.length) (el : st.x_length = len) (eo : st.x_offset = last)
    (HB : 0 < N → Blk h db (M.map (Value.int .u8)) 5) (hM : M.length = N) (hMo : M.take out.length = out) (hN : N < 2 ^ 36) (hlen0 : 0 < len) (hlen : len < 2 ^ 38) (hlast : last < 2 ^ 38) (hout : out.length ≤ N)
    (hbad : last = 0 ∨ out.length < last ∨ N < out.length + len → ∀ st' : M_s2Decode.St, st'.t4 = 1 → Q .ret st' h)
    (hok : 0 < last → last ≤ out.length → out.length + len ≤ N → ∀ (st' : M_s2Decode.St) (h' : Heap) (M' : List Int), st'.x_dst = st.x_dst → st'.x_src = st.x_src → st'.x_s = st.x_s → st'.x_offset = st.x_offset → st'.x_d = ((out.length + len : Nat) : Int) →
      Blk h' db (M'.map (Value.int .u8)) 5 → M'.length = N → M'.take (out.length + len) = fwd out last len → Fr (· = db) h h' → Q .norm st' h') :
    M_s2Decode.k86 st h (BK 8 Q) := by
  have hMl : out.length ≤ M.length := by omega
  simp only [SS, M_s2Decode.k86, M_s2Decode.k87, M_s2Decode.r137, M_s2Decode.r138, M_s2Decode.r139, eD, ed, el, eo]
  simp (disch := omega) only [w_i64, w_u64, w_i32, w_u32, w_u16, w_u8, w_i16, Nat.reducePow]
  by_cases b1 : last = 0
  · rw [if_neg (by simp <;> omega), if_pos trivial]
    exact hbad (Or.inl b1) _ rfl
  rw [if_pos (by simp <;> omega)]
  by_cases b2 : out.length < last
  · rw [if_neg (by simp <;> omega), if_pos trivial]
    exact hbad (Or.inr (Or.inl b2)) _ rfl
  rw [if_pos (by simp <;> omega)]
  by_cases b3 : N < out.length + len
  · rw [if_pos (by simp <;> omega)]
    exact hbad (Or.inr (Or.inr b3)) _ rfl
  rw [if_neg (by simp <;> omega)]
  have hok' := hok (by omega) (by omega) (by omega)
  obtain rfl := hdp (by omega)
  replace HB := HB (by omega)
  have hsl : SlI h .u8 ⟨some ⟨db, 0, none⟩, N, c⟩ M := ⟨hM, hc, fun _ => ⟨db, 0, rfl, fun j hj => by
    rw [Nat.zero_add, HB.cell, List.getElem?_map, List.getElem?_eq_getElem hj, List.getD_eq_getElem?_getD, List.getElem?_eq_getElem hj]; rfl⟩⟩
  by_cases b4 : (last : Int) > len
  · rw [if_pos (by simpa using b4)]
    simp only [SS, M_s2Decode.k88, M_s2Decode.r140, M_s2Decode.r141, eD, ed, el, eo]
    simp (disch := omega) only [w_i64, w_u64, w_i32, w_u32, w_u16, w_u8, w_i16, Nat.reducePow]
    have hfr := hsl.from (i := out.length - last) (by simp only; omega)
    refine ⟨by omega, by omega, by omega, by omega, by omega, by omega, ?_⟩
    have e1 : ((out.length : Int) + len).toNat - ((out.length : Int)).toNat = len := by omega
    have e2 : ((out.length : Int) - last).toNat = out.length - last := by omega
    have e3 : min (N - (out.length - last)) len = len := by omega
    rw [e1, e2, Int.toNat_natCast]
    rw [subP_at (by omega), Nat.zero_add]
    refine copy_blk (k := .u8) HB ts5 (news := (M.drop (out.length - last)).take len) (by simp; omega) ?_ (by simp; omega) fun h' HB' HF' => ?_
    · rw [e3]
      exact src_sl hfr (m := len) (by simp only; omega)
    rw [e3, ← List.map_take, ← List.map_drop, ← List.map_append, ← List.map_append] at HB'
    refine hok' _ h' _ eD.symm rfl rfl eo.symm ?_ HB' ?_ ?_ HF'
    · simp (disch := omega) only [w_i64, w_u64, w_i32, w_u32, w_u16, w_u8, w_i16, Nat.reducePow]; omega
    · simp; omega
    · have ht1 : (M.take out.length).length = out.length := by simp; omega
      have ht2 : ((M.drop (out.length - last)).take len).length = len := by simp; omega
      rw [List.take_append_of_le_length (by rw [List.length_append, ht1, ht2]; omega), List.take_of_length_le (by rw [List.length_append, ht1, ht2]; omega), fwd_apart out last len (by omega) (by omega), hMo]
      congr 1
      conv => rhs; rw [← hMo, List.drop_take]
      rw [hMo, show out.length - (out.length - last) = last by omega, List.take_take, Nat.min_eq_left (by omega)]
  · rw [if_neg (by simpa using b4)]
    simp only [SS, M_s2Decode.k89, M_s2Decode.k90, M_s2Decode.k91, M_s2Decode.k92, M_s2Decode.k93, M_s2Decode.r142, M_s2Decode.r143, M_s2Decode.r144, M_s2Decode.r145, M_s2Decode.r150, eD, ed, el, eo]
    simp (disch := omega) only [w_i64, w_u64, w_i32, w_u32, w_u16, w_u8, w_i16, Nat.reducePow]
    have e1 : ((out.length : Int) + len).toNat - ((out.length : Int)).toNat = len := by omega
    have e2 : ((out.length : Int) - last).toNat = out.length - last := by omega
    rw [e1, e2, Int.toNat_natCast, Int.toNat_natCast, subP0, subP_at (by omega), subP_at (by omega), Nat.zero_add, Nat.zero_add]
    refine ⟨by omega, by omega, by omega, by omega, by omega, by omega, by omega, by omega, ?_⟩
    refine loop_rule (I := fun s' h' => s'.x_dst = ⟨some ⟨db, 0, none⟩, N, c⟩ ∧ s'.x_src = st.x_src ∧ s'.x_s = st.x_s ∧ s'.x_offset = last ∧ s'.x_d = out.length ∧ s'.x_length = len ∧
      s'.x_aq17 = ⟨some ⟨db, out.length, none⟩, len, c - out.length⟩ ∧ s'.x_bq18 = ⟨some ⟨db, out.length - last, none⟩, len, c - (out.length - last)⟩ ∧ s'.t724 = len ∧ ∃ (i : Nat) (Mi : List Int), s'.t725 = i ∧ i ≤ len ∧
      Blk h' db (Mi.map (Value.int .u8)) 5 ∧ Mi.length = N ∧ Mi.take (out.length + i) = fwd out last i ∧ Fr (· = db) h h') (μ := fun s' _ => (len - s'.t725).toNat) ?_ ?_
    · exact ⟨rfl, rfl, rfl, rfl, rfl, rfl, rfl, rfl, rfl, 0, M, rfl, by omega, HB, hM, hMo, Fr.refl _ _⟩
    · rintro s' h' ⟨f1, f2, f3, f4, f5, f6, f7, f8, f9, i, Mi, f10, hi, HBi, hMi, hti, hFi⟩
      simp only [SS, M_s2Decode.k94, M_s2Decode.k95, M_s2Decode.r146, f1, f2, f3, f4, f5, f6, f7, f8, f9, f10]
      by_cases hci : (i : Int) < len
      · rw [if_pos (by simpa using hci)]
        simp only [SS, M_s2Decode.k96, M_s2Decode.r147, M_s2Decode.r148, M_s2Decode.r149, f1, f2, f3, f4, f5, f6, f7, f8, f9, f10, withH_eq, ptrE_some, add_mk, Nat.zero_add, Nat.add_zero]
        have hge : ∀ j, j < N → hcell h' ⟨db, j, none⟩ = some (.int .u8 (Mi.getD j 0)) := by
          intro j hj
          rw [HBi.cell, List.getElem?_map, List.getElem?_eq_getElem (by omega), List.getD_eq_getElem?_getD, List.getElem?_eq_getElem (by omega)]; rfl
        have ei : (i : Int).toNat * 1 = i := by omega
        rw [ei]
        have hv : Mi.getD (out.length - last + i) 0 = (fwd out last i).getD (out.length + i - last) 0 := by
          rw [← hti, getD_take _ (by omega), show out.length - last + i = out.length + i - last by omega]
        refine ⟨by omega, by omega, _, hge _ (by omega), by omega, by omega, ?_⟩
        refine st1_blk HBi (by simp; omega) ?_
        rw [← List.map_set, hv]
        refine ⟨⟨by first | trivial | rfl, by first | trivial | rfl, by first | trivial | rfl, by first | trivial | rfl, by first | trivial | rfl, by first | trivial | rfl, by first | trivial | rfl, by first | trivial | rfl, by first | trivial | rfl, i + 1, _, ?_, by omega, Blk.put HBi.lt _ _, by simpa using hMi, ?_, hFi.trans Fr.put⟩, ?_⟩
        · rw [w_i64 (by omega) (by omega)]; omega
        · rw [← Nat.add_assoc, take_set_succ _ _ _ (by omega), hti]
          rfl
        · rw [w_i64 (by omega) (by omega)]; omega
      · rw [if_neg (by simpa using hci)]
        obtain rfl : i = len := by omega
        simp only [SS, M_s2Decode.r150, f1, f2, f3, f4, f5, f6, f7, f8, f9, f10]
        refine hok' _ h' Mi ?_ ?_ ?_ ?_ ?_ HBi hMi hti hFi
        · exact eD.symm
        · rfl
        · rfl
        · exact eo.symm
        · show IntKind.i64.wrap _ = _
          rw [w_i64 (by omega) (by omega)]; omega
end Go.Proofs.YtibleenkgmkpmaaDoor

set_option linter.unusedSimpArgs false
set_option linter.unusedVariables false
set_option linter.unusedSectionVars false
namespace Go.Proofs.YtibleenkgmkpmaaDoor
open Go Go.Vc Go.Ml Go.S2

theorem litPartA {S : Sl} {l : List Int} {N db m f : Nat} {out M : List Int} {h : Heap} {st : M_s2Decode.St} {Q : Ex → M_s2Decode.St → Heap → Prop} {c : Nat} {dp : Option Addr}
    (eD : st.x_dst = ⟨dp, N, c⟩) (hdp : 0 < N → dp = some ⟨db, 0, none⟩) (hc : N ≤ c) (eS : st.x_src = S) (hS : SlI h .u8 S l) (ed : st.x_d = out.length) (ex : st.x_x = m) (es : st.x_s = f)
    (HB : 0 < N → Blk h db (M.map (Value.int .u8)) 5) (hM : M.length = N) (hMo : M.take out.length = out) (hN : N < 2 ^ 36) (hl : l.length < 2 ^ 36) (hf : f ≤ l.length) (hm : m < 2 ^ 32) (hout : out.length ≤ N)
    (hbad : N < out.length + (m + 1) ∨ l.length - f < m + 1 → ∀ st' : M_s2Decode.St, st'.t4 = 1 → Q .ret st' h)
    (hok : m + 1 ≤ l.length - f → out.length + (m + 1) ≤ N → ∀ (st' : M_s2Decode.St) (h' : Heap) (M' : List Int), st'.x_dst = st.x_dst → st'.x_src = st.x_src → st'.x_s = ((f + (m + 1) : Nat) : Int) → st'.x_offset = st.x_offset → st'.x_d = ((out.length + (m + 1) : Nat) : Int) →
      Blk h' db (M'.map (Value.int .u8)) 5 → M'.length = N → M'.take (out.length + (m + 1)) = out ++ (l.drop f).take (m + 1) → Fr (· = db) h h' → Q (.exit 1) st' h') :
    M_s2Decode.k13 st h Q := by
  have hMl : out.length ≤ M.length := by omega
  have hsl := hS.len
  have hsc := hS.2.1
  simp only [SS, M_s2Decode.k13, M_s2Decode.k14, M_s2Decode.r22, M_s2Decode.r23, M_s2Decode.r24, eD, ed, ex, es, eS]
  simp (disch := omega) only [w_i64, w_u64, w_i32, w_u32, w_u16, w_u8, w_i16, Nat.reducePow]
  by_cases b1 : N < out.length + (m + 1)
  · rw [if_neg (by simp <;> omega), if_pos trivial]
    exact hbad (Or.inl b1) _ rfl
  rw [if_pos (by simp <;> omega)]
  by_cases b2 : l.length - f < m + 1
  · rw [if_neg (by simp <;> omega), if_pos trivial]
    exact hbad (Or.inr b2) _ rfl
  rw [if_pos (by simp <;> omega), if_neg (by simp)]
  obtain rfl := hdp (by omega)
  replace HB := HB (by omega)
  simp only [SS, M_s2Decode.k15, M_s2Decode.k16, M_s2Decode.r25, M_s2Decode.r26, M_s2Decode.r27, eD, ed, ex, es, eS]
  simp (disch := omega) only [w_i64, w_u64, w_i32, w_u32, w_u16, w_u8, w_i16, Nat.reducePow]
  have e1 : ((f : Int) + ((m : Int) + 1)).toNat - (f : Int).toNat = m + 1 := by omega
  have e2 : N - out.length ≥ m + 1 := by omega
  have e3 : min (m + 1) (N - out.length) = m + 1 := by omega
  rw [e1, Int.toNat_natCast, Int.toNat_natCast, subP_at (by omega), Nat.zero_add]
  refine ⟨by omega, by omega, by omega, by omega, by omega, by omega, ?_⟩
  have hfr := hS.from (i := f) (by omega)
  refine copy_blk (k := .u8) HB ts5 (news := (l.drop f).take (m + 1)) (by simp; omega) ?_ (by simp; omega) fun h' HB' HF' => ?_
  · rw [e3]
    exact src_sl hfr (m := m + 1) (by simp only; omega)
  rw [e3, ← List.map_take, ← List.map_drop, ← List.map_append, ← List.map_append] at HB'
  have ht1 : (M.take out.length).length = out.length := by simp; omega
  have ht2 : ((l.drop f).take (m + 1)).length = m + 1 := by simp; omega
  refine hok (by omega) (by omega) _ h' _ eD.symm eS.symm ?_ rfl ?_ HB' ?_ ?_ HF'
  · simp (disch := omega) only [w_i64, w_u64, w_i32, w_u32, w_u16, w_u8, w_i16, Nat.reducePow]; omega
  · simp (disch := omega) only [w_i64, w_u64, w_i32, w_u32, w_u16, w_u8, w_i16, Nat.reducePow]; omega
  · simp; omega
  · rw [List.take_append_of_le_length (by rw [List.length_append, ht1, ht2]; omega), List.take_of_length_le (by rw [List.length_append, ht1, ht2]; omega), hMo]

theorem litPartB {S : Sl} {l : List Int} {N db m f : Nat} {out M : List Int} {h : Heap} {st : M_s2Decode.St} {Q : Ex → M_s2Decode.St → Heap → Prop} {c : Nat} {dp : Option Addr}
    (eD : st.x_dst = ⟨dp, N, c⟩) (hdp : 0 < N → dp = some ⟨db, 0, none⟩) (hc : N ≤ c) (eS : st.x_src = S) (hS : SlI h .u8 S l) (ed : st.x_d = out.length) (ex : st.x_xq15 = m) (es : st.x_s = f)
    (HB : 0 < N → Blk h db (M.map (Value.int .u8)) 5) (hM : M.length = N) (hMo : M.take out.length = out) (hN : N < 2 ^ 36) (hl : l.length < 2 ^ 36) (hf : f ≤ l.length) (hm : m < 2 ^ 32) (hout : out.length ≤ N)
    (hbad : N < out.length + (m + 1) ∨ l.length - f < m + 1 → ∀ st' : M_s2Decode.St, st'.t4 = 1 → Q .ret st' h)
    (hok : m + 1 ≤ l.length - f → out.length + (m + 1) ≤ N → ∀ (st' : M_s2Decode.St) (h' : Heap) (M' : List Int), st'.x_dst = st.x_dst → st'.x_src = st.x_src → st'.x_s = ((f + (m + 1) : Nat) : Int) → st'.x_offset = st.x_offset → st'.x_d = ((out.length + (m + 1) : Nat) : Int) →
      Blk h' db (M'.map (Value.int .u8)) 5 → M'.length = N → M'.take (out.length + (m + 1)) = out ++ (l.drop f).take (m + 1) → Fr (· = db) h h' → Q (.exit 8) st' h') :
    M_s2Decode.k60 st h Q := by
  have hMl : out.length ≤ M.length := by omega
  have hsl := hS.len
  have hsc := hS.2.1
  simp only [SS, M_s2Decode.k60, M_s2Decode.k61, M_s2Decode.r94, M_s2Decode.r95, M_s2Decode.r96, eD, ed, ex, es, eS]
  simp (disch := omega) only [w_i64, w_u64, w_i32, w_u32, w_u16, w_u8, w_i16, Nat.reducePow]
  by_cases b1 : N < out.length + (m + 1)
  · rw [if_neg (by simp <;> omega), if_pos trivial]
    exact hbad (Or.inl b1) _ rfl
  rw [if_pos (by simp <;> omega)]
  by_cases b2 : l.length - f < m + 1
  · rw [if_neg (by simp <;> omega), if_pos trivial]
    exact hbad (Or.inr b2) _ rfl
  rw [if_pos (by simp <;> omega), if_neg (by simp)]
  obtain rfl := hdp (by omega)
  replace HB := HB (by omega)
  simp only [SS, M_s2Decode.k62, M_s2Decode.k63, M_s2Decode.r97, M_s2Decode.r98, M_s2Decode.r99, eD, ed, ex, es, eS]
  simp (disch := omega) only [w_i64, w_u64, w_i32, w_u32, w_u16, w_u8, w_i16, Nat.reducePow]
  have e1 : ((f : Int) + ((m : Int) + 1)).toNat - (f : Int).toNat = m + 1 := by omega
  have e2 : N - out.length ≥ m + 1 := by omega
  have e3 : min (m + 1) (N - out.length) = m + 1 := by omega
  rw [e1, Int.toNat_natCast, Int.toNat_natCast, subP_at (by omega), Nat.zero_add]
  refine ⟨by omega, by omega, by omega, by omega, by omega, by omega, ?_⟩
  have hfr := hS.from (i := f) (by omega)
  refine copy_blk (k := .u8) HB ts5 (news := (l.drop f).take (m + 1)) (by simp; omega) ?_ (by simp; omega) fun h' HB' HF' => ?_
  · rw [e3]
    exact src_sl hfr (m := m + 1) (by simp only; omega)
  rw [e3, ← List.map_take, ← List.map_drop, ← List.map_append, ← List.map_append] at HB'
  have ht1 : (M.take out.length).length = out.length := by simp; omega
  have ht2 : ((l.drop f).take (m + 1)).length = m + 1 := by simp; omega
  refine hok (by omega) (by omega) _ h' _ eD.symm eS.symm ?_ rfl ?_ HB' ?_ ?_ HF'
  · simp (disch := omega) only [w_i64, w_u64, w_i32, w_u32, w_u16, w_u8, w_i16, Nat.reducePow]; omega
  · simp (disch := omega) only [w_i64, w_u64, w_i32, w_u32, w_u16, w_u8, w_i16, Nat.reducePow]; omega
  · simp; omega
  · rw [List.take_append_of_le_length (by rw [List.length_append, ht1, ht2]; omega), List.take_of_length_le (by rw [List.length_append, ht1, ht2]; omega), hMo]
end Go.Proofs.YtibleenkgmkpmaaDoor

set_option linter.unusedSimpArgs false
set_option linter.unusedVariables false
set_option linter.unusedSectionVars false
namespace Go.Proofs.YtibleenkgmkpmaaDoor
open Go Go.Vc Go.Ml Go.S2

/-- Where s2Decode stands: at a place of the source, with what was made. -/
structure Dst (S : Sl) (N : Nat) (dp : Option Addr) (db c : Nat) (i : Nat) (out : List Int) (last : Nat) (st : M_s2Decode.St) (h : Heap) : Prop where
  d : st.x_dst = ⟨dp, N, c⟩
  s : st.x_src = S
  i : st.x_s = i
  n : st.x_d = out.length
  o : st.x_offset = last
  m : ∃ M : List Int, (0 < N → Blk h db (M.map (Value.int .u8)) 5) ∧ M.length = N ∧ M.take out.length = out

theorem leAt_in {l : List Int} {i n : Nat} (h : i + n ≤ l.length) : leAt l i n = some (leN ((l.drop i).take n)) := by unfold leAt; rw [if_pos h]

theorem and224 : ∀ v, v < 256 → v &&& 224 = v / 32 * 32 := by decide +kernel
theorem toff {v w : Nat} (hv : v ≤ 255) (hw : w ≤ 255) : bOr .u32 (IntKind.wrap .u32 (bAnd .u32 (IntKind.wrap .u32 (v : Int)) 224 * 2 ^ 3)) (IntKind.wrap .u32 (w : Int)) = ((v / 32 * 256 + w : Nat) : Int) := by
  have hB : (2 : Nat) ^ IntKind.u32.bits = 4294967296 := by rfl
  have h1 : bAnd .u32 (v : Int) 224 = ((v / 32 * 32 : Nat) : Int) := by rw [← and224 v (by omega)]; exact and_nat rfl (by rw [hB]; omega) (by decide)
  rw [w_u32 (x := (v : Int)) (by omega) (by omega), w_u32 (x := (w : Int)) (by omega) (by omega), h1, w_u32 (by omega) (by omega)]
  have h2 : ((v / 32 * 32 : Nat) : Int) * 2 ^ 3 = ((v / 32 * 256 : Nat) : Int) := by omega
  rw [h2, or_nat rfl (by rw [hB]; omega) (by rw [hB]; omega), Nat.or_comm, or_add (n := 8) (by omega)]
  omega

theorem or3d {w0 w1 w2 : Nat} (h0 : w0 ≤ 255) (h1 : w1 ≤ 255) (h2 : w2 ≤ 255) : bOr .u32 (bOr .u32 (IntKind.wrap .u32 (IntKind.wrap .u32 (w2 : Int) * 2 ^ 16)) (IntKind.wrap .u32 (IntKind.wrap .u32 (w1 : Int) * 2 ^ 8))) (IntKind.wrap .u32 (w0 : Int)) =
    ((w0 + 256 * (w1 + 256 * w2) : Nat) : Int) := by
  have hB : (2 : Nat) ^ IntKind.u32.bits = 4294967296 := by rfl
  rw [w_u32 (x := (w2 : Int)) (by omega) (by omega), w_u32 (x := (w1 : Int)) (by omega) (by omega), w_u32 (x := (w0 : Int)) (by omega) (by omega), w_u32 (x := (w2 : Int) * 2 ^ 16) (by omega) (by omega), w_u32 (x := (w1 : Int) * 2 ^ 8) (by omega) (by omega)]
  have e2 : (w2 : Int) * 2 ^ 16 = ((w2 * 2 ^ 16 : Nat) : Int) := by omega
  have e1 : (w1 : Int) * 2 ^ 8 = ((w1 * 2 ^ 8 : Nat) : Int) := by omega
  rw [e2, e1, or_nat rfl (by rw [hB]; omega) (by rw [hB]; omega), Nat.or_comm, or_add (n := 16) (by omega)]
  have e3 : w1 * 2 ^ 8 + w2 * 2 ^ 16 = (w1 + 256 * w2) * 2 ^ 8 := by omega
  rw [e3, or_nat rfl (by rw [hB]; omega) (by rw [hB]; omega), Nat.or_comm, or_add (n := 8) (by omega)]
  omega

section
variable {S : Sl} {dp : Option Addr} {l : List Int} {N db c i last : Nat} {out : List Int} {h : Heap} {st : M_s2Decode.St} {Q : Ex → M_s2Decode.St → Heap → Prop}

theorem bodyA (J : Dst S N dp db c i out last st h) (hc : N ≤ c) (hdp : 0 < N → dp = some ⟨db, 0, none⟩) (hS : SlI h .u8 S l) (hb : Byt l) (hne : ∀ a, 0 < S.n → S.p = some a → a.block ≠ db) (hN : N < 2 ^ 36) (hl : l.length < 2 ^ 36) (hout : out.length ≤ N) (hlast : last < 2 ^ 36) (hi : i + 5 < l.length)
    (hbad : stepE l true N i out last = none → ∀ (st' : M_s2Decode.St) (h' : Heap), st'.t4 = 1 → Fr (· = db) h h' → Q .ret st' h')
    (hok : ∀ i' out' last', stepE l true N i out last = some (i', out', last') → ∀ (st' : M_s2Decode.St) (h' : Heap), Dst S N dp db c i' out' last' st' h' → Fr (· = db) h h' → Q .norm st' h') :
    M_s2Decode.k4 st h Q := by
  have hsl := hS.len
  obtain ⟨eD, eS, es, ed, eo, M, HB, hM, hMo⟩ := J
  simp only [SS, M_s2Decode.k4, M_s2Decode.r4, eD, eS, es, ed, eo]
  refine hS.ldB hb (j := i) rfl (by omega) fun v hv he hev => ?_
  simp (disch := omega) only [u8_and3]
  simp only [SS, M_s2Decode.k5, M_s2Decode.r5, eD, eS, es, ed, eo]
  by_cases c0 : v % 4 = 0
  · rw [if_pos (by simp [c0])]
    simp only [SS, M_s2Decode.k6, M_s2Decode.k7, M_s2Decode.r6, M_s2Decode.r7, M_s2Decode.r8, eD, eS, es, ed, eo]
    refine hS.ldB hb (j := i) rfl (by omega) fun v2 hv2 he2 hev2 => ?_
    obtain rfl : v2 = v := by omega
    simp (disch := omega) only [fdiv_nat, w_i64, w_u64, w_i32, w_u32, w_u16, w_u8, w_i16, Nat.reducePow]
    have hr : readEl l i true = readLit l i := by unfold readEl; simp only [hev, c0, if_true]
    -- the literal, from where its length is known
    have lit : ∀ (m f : Nat) (h' : Heap) (st' : M_s2Decode.St), readLit l i = litEl l f m → f ≤ l.length → m < 2 ^ 32 → Old h h' → st'.x_dst = ⟨dp, N, c⟩ → st'.x_src = S → st'.x_d = out.length → st'.x_offset = last → st'.x_x = m → st'.x_s = f →
        M_s2Decode.k13 st' h' (BK 2 (SK M_s2Decode.k31 (BK 1 Q))) := by
      intro m f h' st' hrl hf hm ho fD fS fd fo fx fs
      have hF : Fr (· = db) h h' := Fr.of_old ho
      refine litPartA fD hdp hc fS (hS.ext ho.ext) fd fx fs (fun h0 => ho.Blk (HB h0)) hM hMo hN hl hf hm hout ?_ ?_
      · intro hbd st2 h2
        simp only [BK_ret, SK_ret]
        refine hbad ?_ st2 h' h2 hF
        unfold stepE
        rw [hr, hrl]
        unfold litEl
        by_cases hx : m + 1 ≤ l.length - f
        · rw [if_pos hx]
          simp only
          rw [if_pos (by omega)]
        · rw [if_neg hx]
      · intro h1 h2 st2 h3 M' g1 g2 g3 g4 g5 g6 g7 g8 g9
        rw [BK_exit, if_neg (by decide), SK_exit, BK_same]
        refine hok (f + (m + 1)) (out ++ (l.drop f).take (m + 1)) last ?_ st2 h3 ?_ (hF.trans g9)
        · unfold stepE
          rw [hr, hrl]
          unfold litEl
          rw [if_pos h1]
          simp only
          rw [if_neg (by omega), if_pos trivial]
        · have hlen : (out ++ (l.drop f).take (m + 1)).length = out.length + (m + 1) := by simp; omega
          exact ⟨g1.trans fD, g2.trans fS, g3, by rw [hlen]; exact g5, g4.trans fo, M', fun _ => g6, g7, by rw [hlen]; exact g8⟩
    have hw : v2 / 2 ^ 2 = v2 / 4 := by omega
    by_cases n60 : v2 / 4 < 60
    · rw [if_pos (by simp <;> omega)]
      refine lit (v2 / 4) (i + 1) h _ ?_ (by omega) (by omega) (Old.refl h) rfl rfl rfl rfl rfl (by simp only; omega)
      unfold readLit; simp only [hev, n60, if_true]
    rw [if_neg (by simp <;> omega)]
    have rl : ∀ n m, v2 / 4 - 59 = n → i + 1 + n ≤ l.length → leN ((l.drop (i + 1)).take n) = m → readLit l i = litEl l (i + 1 + n) m := by
      intro n m hn hle hm
      unfold readLit
      simp only [hev, n60, if_false, hn, leAt_in hle, hm]
    have h1l : leN ((l.drop (i + 1)).take 1) = (l.getD (i + 1) 0).toNat := by
      have := leN_take_succ l (i + 1) 0 (by omega)
      simpa [leN] using this
    simp only [SS, M_s2Decode.k8, M_s2Decode.k9, M_s2Decode.k10, M_s2Decode.k11, M_s2Decode.k12, M_s2Decode.r9, M_s2Decode.r10, M_s2Decode.r11, M_s2Decode.r12, M_s2Decode.r13, M_s2Decode.r14, M_s2Decode.r15, M_s2Decode.r16, M_s2Decode.r17, M_s2Decode.r18, M_s2Decode.r19, M_s2Decode.r20, M_s2Decode.r21, eD, eS, es, ed, eo]
    by_cases n1 : v2 / 4 = 60
    · rw [if_pos (by simp [n1])]
      refine hS.ldB hb (j := i + 1) (by rw [w_i64 (by omega) (by omega)]; omega) (by omega) fun v3 hv3 he3 hev3 => ?_
      simp (disch := omega) only [w_i64, w_u64, w_i32, w_u32, w_u16, w_u8, w_i16, Nat.reducePow]
      exact lit v3 (i + 1 + 1) h _ (rl 1 v3 (by omega) (by omega) (by rw [h1l, hev3])) (by omega) (by omega) (Old.refl h) rfl rfl rfl rfl rfl (by simp only; omega)
    rw [if_neg (by simp <;> omega)]
    by_cases n2 : v2 / 4 = 61
    · rw [if_pos (by simp [n2])]
      refine load16 hS hb (i := i + 1) (by rw [w_i64 (by omega) (by omega)]; omega) (by omega) fun h' ho => ?_
      have hlt := leN_len hb (i + 1) 2 (by omega)
      simp (disch := omega) only [w_i64, w_u64, w_i32, w_u32, w_u16, w_u8, w_i16, Nat.reducePow]
      exact lit _ (i + 1 + 2) h' _ (rl 2 _ (by omega) (by omega) rfl) (by omega) (by omega) ho rfl rfl rfl rfl rfl (by simp only; omega)
    rw [if_neg (by simp <;> omega)]
    by_cases n3 : v2 / 4 = 62
    · rw [if_pos (by simp [n3])]
      refine load32 hS hb (i := i) rfl (by omega) fun h' ho => ?_
      have hlt := leN_len hb (i + 1) 3 (by omega)
      have hq : leN ((l.drop i).take 4) = (l.getD i 0).toNat + 256 * leN ((l.drop (i + 1)).take 3) := leN_take_succ l i 3 (by omega)
      rw [hev] at hq
      simp (disch := omega) only [fdiv_nat, w_i64, w_u64, w_i32, w_u32, w_u16, w_u8, w_i16, Nat.reducePow]
      refine lit (leN ((l.drop i).take 4) / 2 ^ 8) (i + 1 + 3) h' _ (rl 3 _ (by omega) (by omega) (by omega)) (by omega) (by omega) ho rfl rfl rfl rfl rfl (by simp only; omega)
    rw [if_neg (by simp <;> omega)]
    have n4 : v2 / 4 = 63 := by omega
    rw [if_pos (by simp [n4])]
    refine load32 hS hb (i := i + 1) (by rw [w_i64 (by omega) (by omega)]; omega) (by omega) fun h' ho => ?_
    have hlt := leN_len hb (i + 1) 4 (by omega)
    simp (disch := omega) only [w_i64, w_u64, w_i32, w_u32, w_u16, w_u8, w_i16, Nat.reducePow]
    exact lit _ (i + 1 + 4) h' _ (rl 4 _ (by omega) (by omega) rfl) (by omega) (by omega) ho rfl rfl rfl rfl rfl (by simp only; omega)
  · rw [if_neg (by simp <;> omega)]
    -- a copy, from where its length and offset are known
    have cp : ∀ (el : El) (h' : Heap) (st' : M_s2Decode.St), readEl l i true = some el → el.lit = false → 0 < el.len → Old h h' → st'.x_dst = ⟨dp, N, c⟩ → st'.x_src = S → st'.x_d = out.length → st'.x_length = el.len →
        st'.x_offset = (if el.rep then last else el.off : Nat) → st'.x_s = el.next → M_s2Decode.k31 st' h' (BK 1 Q) := by
      intro el h' st' hre hlit hl0 ho fD fS fd fl fo fs
      have hsm := readEl_small hb.mem (by have := hb i; omega) hre
      have hF : Fr (· = db) h h' := Fr.of_old ho
      have hog : (if el.rep then last else el.off : Nat) < 2 ^ 37 := by split <;> omega
      refine copyPartA fD hdp hc fd fl fo (fun h0 => ho.Blk (HB h0)) hM hMo hN hl0 (by omega) (by omega) hout ?_ ?_
      · intro hbd st2 h2
        refine hbad ?_ st2 h' h2 hF
        unfold stepE
        rw [hre]
        simp only [hlit, Bool.false_eq_true, if_false]
        by_cases hx : N < out.length + el.len
        · rw [if_pos hx]
        · rw [if_neg hx, if_pos (by omega)]
      · intro h1 h2 h3 st2 h4 M' g1 g2 g3 g4 g5 g6 g7 g8 g9
        have hlen : (fwd out (if el.rep then last else el.off) el.len).length = out.length + el.len := fwd_len _ _ _
        refine hok el.next (fwd out (if el.rep then last else el.off) el.len) (if el.rep then last else el.off) ?_ st2 h4 ⟨g1.trans fD, g2.trans fS, g3.trans fs, by rw [hlen]; exact g5, g4.trans fo, M', fun _ => g6, g7, by rw [hlen]; exact g8⟩ (hF.trans g9)
        unfold stepE
        rw [hre]
        simp only [hlit, Bool.false_eq_true, if_false]
        rw [if_neg (by omega), if_neg (by omega)]
    simp only [SS, M_s2Decode.k17, M_s2Decode.r28, eD, eS, es, ed, eo]
    by_cases c1 : v % 4 = 1
    · rw [if_pos (by simp [c1])]
      simp only [SS, M_s2Decode.k18, M_s2Decode.k19, M_s2Decode.k20, M_s2Decode.k21, M_s2Decode.r29, M_s2Decode.r30, M_s2Decode.r31, M_s2Decode.r32, M_s2Decode.r44, M_s2Decode.r45, eD, eS, es, ed, eo]
      simp (disch := omega) only [w_i64, w_u64, w_i32, w_u32, w_u16, w_u8, w_i16, Nat.reducePow]
      have hlow : leAt l (i + 1) 1 = some (l.getD (i + 1) 0).toNat := by
        rw [leAt_in (by omega)]
        have := leN_take_succ l (i + 1) 0 (by omega)
        simpa [leN] using this
      refine hS.ldB hb (j := i) (by omega) (by omega) fun v2 hv2 he2 hev2 => ?_
      obtain rfl : v2 = v := by omega
      refine hS.ldB hb (j := i + 1) (by omega) (by omega) fun v3 hv3 he3 hev3 => ?_
      rw [hev3] at hlow
      rw [toff hv hv3]
      refine hS.ldB hb (j := i) (by omega) (by omega) fun v4 hv4 he4 hev4 => ?_
      obtain rfl : v4 = v2 := by omega
      simp (disch := omega) only [fdiv_nat, w_i64, w_u64, w_i32, w_u32, w_u16, w_u8, w_i16, Nat.reducePow, i64_and7]
      by_cases ht : 0 < v4 / 32 * 256 + v3
      · rw [if_neg (by simp <;> omega)]
        have hr : readEl l i true = some ⟨false, 0, v4 / 32 * 256 + v3, v4 / 4 % 8 + 4, false, i + 2⟩ := by
          unfold readEl; simp only [hev, c1, hlow, ht, true_or, if_true]; simp
        exact cp _ h _ hr rfl (by simp only; omega) (Old.refl h) rfl rfl rfl (by simp only; omega) (by simp) (by simp only; omega)
      have hz : ¬ (0 < v4 / 32 * 256 + v3 ∨ true = false) := by simp; omega
      rw [if_pos (by simp <;> omega)]
      simp only [SS, M_s2Decode.k21, M_s2Decode.k22, M_s2Decode.k23, M_s2Decode.k24, M_s2Decode.k25, M_s2Decode.k26, M_s2Decode.r32, M_s2Decode.r44, M_s2Decode.r45, M_s2Decode.r33, M_s2Decode.r34, M_s2Decode.r35, M_s2Decode.r36, M_s2Decode.r37, M_s2Decode.r38, M_s2Decode.r39, M_s2Decode.r40, M_s2Decode.r41, M_s2Decode.r42, M_s2Decode.r43, eD, eS, es, ed, eo]
      by_cases h5 : v4 / 4 % 8 = 5
      · rw [if_pos (by simp [h5])]
        refine hS.ldB hb (j := i + 2) (by omega) (by omega) fun v5 hv5 he5 hev5 => ?_
        simp (disch := omega) only [w_i64, w_u64, w_i32, w_u32, w_u16, w_u8, w_i16, Nat.reducePow]
        have hmore : leAt l (i + 2) 1 = some v5 := by
          rw [leAt_in (by omega)]
          have := leN_take_succ l (i + 2) 0 (by omega)
          rw [hev5] at this
          simpa [leN] using this
        have hr : readEl l i true = some ⟨false, 0, 0, v5 + 8, true, i + 3⟩ := by
          unfold readEl
          have e4 : v4 / 4 % 8 - 4 = 1 := by omega
          simp only [hev, c1, hlow, hz, if_false, e4, hmore, h5]
          simp [moreBase]
        exact cp _ h _ hr rfl (by simp only; omega) (Old.refl h) rfl rfl rfl (by simp only; omega) (by simp) (by simp only; omega)
      rw [if_neg (by simp <;> omega)]
      by_cases h6 : v4 / 4 % 8 = 6
      · rw [if_pos (by simp [h6])]
        refine load16 hS hb (i := i + 2) (by omega) (by omega) fun h' ho => ?_
        have hlt := leN_len hb (i + 2) 2 (by omega)
        simp (disch := omega) only [w_i64, w_u64, w_i32, w_u32, w_u16, w_u8, w_i16, Nat.reducePow]
        have hr : readEl l i true = some ⟨false, 0, 0, leN ((l.drop (i + 2)).take 2) + 260, true, i + 4⟩ := by
          unfold readEl
          have e4 : v4 / 4 % 8 - 4 = 2 := by omega
          simp only [hev, c1, hlow, hz, if_false, e4, leAt_in (l := l) (i := i + 2) (n := 2) (by omega), h6]
          simp [moreBase]
        exact cp _ h' _ hr rfl (by simp only; omega) ho rfl rfl rfl (by simp only; omega) (by simp) (by simp only; omega)
      rw [if_neg (by simp <;> omega)]
      by_cases h7 : v4 / 4 % 8 = 7
      · rw [if_pos (by simp [h7])]
        simp (disch := omega) only [w_i64, w_u64, w_i32, w_u32, w_u16, w_u8, w_i16, Nat.reducePow]
        have e1 : ((i : Int) + 2 + 3).toNat - ((i : Int) + 2).toNat = 3 := by omega
        have e2 : ((i : Int) + 2).toNat = i + 2 := by omega
        have hcap := hS.2.1
        refine ⟨by omega, by omega, by omega, by omega, ?_⟩
        rw [e1, e2]
        have hsub := hS.sub (lo := i + 2) (hi := i + 5) (by omega) (by omega)
        rw [List.drop_take, show i + 5 - (i + 2) = 3 by omega] at hsub
        have hlen3 : ((l.drop (i + 2)).take 3).length = 3 := by simp; omega
        have hb3 := (hb.drop (i + 2)).take 3
        refine hsub.ldB hb3 (j := 2) rfl (by omega) fun w2 hw2 _ he2' => ?_
        refine hsub.ldB hb3 (j := 1) rfl (by omega) fun w1 hw1 _ he1' => ?_
        refine hsub.ldB hb3 (j := 0) rfl (by omega) fun w0 hw0 _ he0' => ?_
        rw [getD_take _ (by omega), getD_drop] at he2' he1' he0'
        have hsum : leN ((l.drop (i + 2)).take 3) = w0 + 256 * (w1 + 256 * w2) := by
          have q1 : leN ((l.drop (i + 2)).take 3) = _ := leN_take_succ l (i + 2) 2 (by omega)
          have q2 : leN ((l.drop (i + 2 + 1)).take 2) = _ := leN_take_succ l (i + 2 + 1) 1 (by omega)
          have q3 : leN ((l.drop (i + 2 + 1 + 1)).take 1) = _ := leN_take_succ l (i + 2 + 1 + 1) 0 (by omega)
          rw [q1, q2, q3]
          simp only [List.take_zero, leN]
          simp only [Nat.add_zero] at he0'
          rw [he0', show i + 2 + 1 = i + 2 + 1 from rfl, he1', show i + 2 + 1 + 1 = i + 2 + 2 from rfl, he2']
          omega
        have hlt := leN_len hb (i + 2) 3 (by omega)
        rw [or3d hw0 hw1 hw2, ← hsum]
        simp (disch := omega) only [w_i64, w_u64, w_i32, w_u32, w_u16, w_u8, w_i16, Nat.reducePow]
        have hr : readEl l i true = some ⟨false, 0, 0, leN ((l.drop (i + 2)).take 3) + 65540, true, i + 5⟩ := by
          unfold readEl
          have e4 : v4 / 4 % 8 - 4 = 3 := by omega
          simp only [hev, c1, hlow, hz, if_false, e4, leAt_in (l := l) (i := i + 2) (n := 3) (by omega), h7]
          simp [moreBase]
        exact cp _ h _ hr rfl (by simp only; omega) (Old.refl h) rfl rfl rfl (by simp only; omega) (by simp) (by simp only; omega)
      rw [if_neg (by simp <;> omega)]
      simp (disch := omega) only [w_i64, w_u64, w_i32, w_u32, w_u16, w_u8, w_i16, Nat.reducePow]
      have hr : readEl l i true = some ⟨false, 0, 0, v4 / 4 % 8 + 4, true, i + 2⟩ := by
        unfold readEl
        have e4 : v4 / 4 % 8 ≤ 4 := by omega
        simp only [hev, c1, hlow, hz, if_false, e4, if_true]; simp
      exact cp _ h _ hr rfl (by simp only; omega) (Old.refl h) rfl rfl rfl (by simp only; omega) (by simp) (by simp only; omega)
    · rw [if_neg (by simp <;> omega)]
      simp only [SS, M_s2Decode.k27, M_s2Decode.k28, M_s2Decode.k29, M_s2Decode.k30, M_s2Decode.r46, M_s2Decode.r47, M_s2Decode.r48, M_s2Decode.r49, M_s2Decode.r50, M_s2Decode.r51, M_s2Decode.r52, M_s2Decode.r53, eD, eS, es, ed, eo]
      by_cases c2 : v % 4 = 2
      · rw [if_pos (by simp [c2])]
        refine load16 hS hb (i := i + 1) (by rw [w_i64 (by omega) (by omega)]; omega) (by omega) fun h' ho => ?_
        have hlt := leN_len hb (i + 1) 2 (by omega)
        refine (hS.ext ho.ext).ldB hb (j := i) rfl (by omega) fun v2 hv2 he2 hev2 => ?_
        obtain rfl : v2 = v := by omega
        simp (disch := omega) only [fdiv_nat, w_i64, w_u64, w_i32, w_u32, w_u16, w_u8, w_i16, Nat.reducePow]
        have hr : readEl l i true = some ⟨false, 0, leN ((l.drop (i + 1)).take 2), v2 / 4 + 1, false, i + 3⟩ := by
          unfold readEl; simp only [hev, c2, leAt_in (l := l) (i := i + 1) (n := 2) (by omega), copyEl]; simp
        exact cp _ h' _ hr rfl (by simp only; omega) ho rfl rfl rfl (by simp only; omega) (by simp) (by simp only; omega)
      · rw [if_neg (by simp <;> omega), if_pos (by simp <;> omega)]
        refine load32 hS hb (i := i + 1) (by rw [w_i64 (by omega) (by omega)]; omega) (by omega) fun h' ho => ?_
        have hlt := leN_len hb (i + 1) 4 (by omega)
        refine (hS.ext ho.ext).ldB hb (j := i) rfl (by omega) fun v2 hv2 he2 hev2 => ?_
        obtain rfl : v2 = v := by omega
        simp (disch := omega) only [fdiv_nat, w_i64, w_u64, w_i32, w_u32, w_u16, w_u8, w_i16, Nat.reducePow]
        have hr : readEl l i true = some ⟨false, 0, leN ((l.drop (i + 1)).take 4), v2 / 4 + 1, false, i + 5⟩ := by
          unfold readEl; simp only [hev, c2, c1, c0, leAt_in (l := l) (i := i + 1) (n := 4) (by omega), copyEl, if_false]
        exact cp _ h' _ hr rfl (by simp only; omega) ho rfl rfl rfl (by simp only; omega) (by simp) (by simp only; omega)
end
end Go.Proofs.YtibleenkgmkpmaaDoor

set_option linter.unusedSimpArgs false
set_option linter.unusedVariables false
set_option linter.unusedSectionVars false
namespace Go.Proofs.YtibleenkgmkpmaaDoor
open Go Go.Vc Go.Ml Go.S2

theorem leAt_out {l : List Int} {i n : Nat} (h : l.length < i + n) : leAt l i n = none := by unfold leAt; rw [if_neg (by omega)]

theorem or2n {w0 w1 : Nat} (h0 : w0 ≤ 255) (h1 : w1 ≤ 255) : bOr .u32 (IntKind.wrap .u32 (w0 : Int)) (IntKind.wrap .u32 (IntKind.wrap .u32 (w1 : Int) * 2 ^ 8)) = ((w0 + 256 * w1 : Nat) : Int) := by
  have hB : (2 : Nat) ^ IntKind.u32.bits = 4294967296 := by rfl
  rw [w_u32 (x := (w1 : Int)) (by omega) (by omega), w_u32 (x := (w0 : Int)) (by omega) (by omega), w_u32 (x := (w1 : Int) * 2 ^ 8) (by omega) (by omega)]
  have e1 : (w1 : Int) * 2 ^ 8 = ((w1 * 2 ^ 8 : Nat) : Int) := by omega
  rw [e1, or_nat rfl (by rw [hB]; omega) (by rw [hB]; omega), or_add (n := 8) (by omega)]
  omega
theorem or3n {w0 w1 w2 : Nat} (h0 : w0 ≤ 255) (h1 : w1 ≤ 255) (h2 : w2 ≤ 255) : bOr .u32 (bOr .u32 (IntKind.wrap .u32 (w0 : Int)) (IntKind.wrap .u32 (IntKind.wrap .u32 (w1 : Int) * 2 ^ 8))) (IntKind.wrap .u32 (IntKind.wrap .u32 (w2 : Int) * 2 ^ 16)) =
    ((w0 + 256 * (w1 + 256 * w2) : Nat) : Int) := by
  have hB : (2 : Nat) ^ IntKind.u32.bits = 4294967296 := by rfl
  rw [or2n h0 h1, w_u32 (x := (w2 : Int)) (by omega) (by omega), w_u32 (x := (w2 : Int) * 2 ^ 16) (by omega) (by omega)]
  have e1 : (w2 : Int) * 2 ^ 16 = ((w2 * 2 ^ 16 : Nat) : Int) := by omega
  rw [e1, or_nat rfl (by rw [hB]; omega) (by rw [hB]; omega), or_add (n := 16) (by omega)]
  omega
theorem or4n {w0 w1 w2 w3 : Nat} (h0 : w0 ≤ 255) (h1 : w1 ≤ 255) (h2 : w2 ≤ 255) (h3 : w3 ≤ 255) : bOr .u32 (bOr .u32 (bOr .u32 (IntKind.wrap .u32 (w0 : Int)) (IntKind.wrap .u32 (IntKind.wrap .u32 (w1 : Int) * 2 ^ 8))) (IntKind.wrap .u32 (IntKind.wrap .u32 (w2 : Int) * 2 ^ 16))) (IntKind.wrap .u32 (IntKind.wrap .u32 (w3 : Int) * 2 ^ 24)) =
    ((w0 + 256 * (w1 + 256 * (w2 + 256 * w3)) : Nat) : Int) := by
  have hB : (2 : Nat) ^ IntKind.u32.bits = 4294967296 := by rfl
  rw [or3n h0 h1 h2, w_u32 (x := (w3 : Int)) (by omega) (by omega), w_u32 (x := (w3 : Int) * 2 ^ 24) (by omega) (by omega)]
  have e1 : (w3 : Int) * 2 ^ 24 = ((w3 * 2 ^ 24 : Nat) : Int) := by omega
  rw [e1, or_nat rfl (by rw [hB]; omega) (by rw [hB]; omega), or_add (n := 24) (by omega)]
  omega

theorem leN_1 {l : List Int} {j : Nat} (h : j + 1 ≤ l.length) {w0 : Nat} (e0 : (l.getD j 0).toNat = w0) : leN ((l.drop j).take 1) = w0 := by
  have := leN_take_succ l j 0 (by omega)
  rw [e0] at this
  simpa [leN] using this
theorem leN_2 {l : List Int} {j : Nat} (h : j + 2 ≤ l.length) {w0 w1 : Nat} (e0 : (l.getD j 0).toNat = w0) (e1 : (l.getD (j + 1) 0).toNat = w1) : leN ((l.drop j).take 2) = w0 + 256 * w1 := by
  have : leN ((l.drop j).take 2) = _ := leN_take_succ l j 1 (by omega)
  rw [this, e0, leN_1 (by omega) e1]
theorem leN_3 {l : List Int} {j : Nat} (h : j + 3 ≤ l.length) {w0 w1 w2 : Nat} (e0 : (l.getD j 0).toNat = w0) (e1 : (l.getD (j + 1) 0).toNat = w1) (e2 : (l.getD (j + 2) 0).toNat = w2) : leN ((l.drop j).take 3) = w0 + 256 * (w1 + 256 * w2) := by
  have : leN ((l.drop j).take 3) = _ := leN_take_succ l j 2 (by omega)
  rw [this, e0, leN_2 (by omega) e1 e2]
theorem leN_4 {l : List Int} {j : Nat} (h : j + 4 ≤ l.length) {w0 w1 w2 w3 : Nat} (e0 : (l.getD j 0).toNat = w0) (e1 : (l.getD (j + 1) 0).toNat = w1) (e2 : (l.getD (j + 2) 0).toNat = w2) (e3 : (l.getD (j + 3) 0).toNat = w3) : leN ((l.drop j).take 4) = w0 + 256 * (w1 + 256 * (w2 + 256 * w3)) := by
  have : leN ((l.drop j).take 4) = _ := leN_take_succ l j 3 (by omega)
  rw [this, e0, leN_3 (by omega) e1 e2 e3]

section
variable {S : Sl} {dp : Option Addr} {l : List Int} {N db c i last : Nat} {out : List Int} {h : Heap} {st : M_s2Decode.St} {Q : Ex → M_s2Decode.St → Heap → Prop}

set_option maxHeartbeats 1600000 in
theorem bodyB (J : Dst S N dp db c i out last st h) (hc : N ≤ c) (hdp : 0 < N → dp = some ⟨db, 0, none⟩) (hS : SlI h .u8 S l) (hb : Byt l) (hN : N < 2 ^ 36) (hl : l.length < 2 ^ 36) (hout : out.length ≤ N) (hlast : last < 2 ^ 36) (hi : i < l.length)
    (hbad : stepE l true N i out last = none → ∀ (st' : M_s2Decode.St) (h' : Heap), st'.t4 = 1 → Fr (· = db) h h' → Q .ret st' h')
    (hok : ∀ i' out' last', stepE l true N i out last = some (i', out', last') → ∀ (st' : M_s2Decode.St) (h' : Heap), Dst S N dp db c i' out' last' st' h' → Fr (· = db) h h' → Q .norm st' h') :
    M_s2Decode.k44 st h Q := by
  have hsl := hS.len
  obtain ⟨eD, eS, es, ed, eo, M, HB, hM, hMo⟩ := J
  have bad : readEl l i true = none → ∀ (st' : M_s2Decode.St), st'.t4 = 1 → Q .ret st' h := by
    intro hr st' h1
    exact hbad (by unfold stepE; rw [hr]) st' h h1 (Fr.refl _ _)
  simp only [SS, M_s2Decode.k44, M_s2Decode.r69, eD, eS, es, ed, eo]
  refine hS.ldB hb (j := i) rfl (by omega) fun v hv he hev => ?_
  simp (disch := omega) only [u8_and3]
  simp only [SS, M_s2Decode.k45, M_s2Decode.r70, eD, eS, es, ed, eo]
  by_cases c0 : v % 4 = 0
  · rw [if_pos (by simp [c0])]
    simp only [SS, M_s2Decode.k46, M_s2Decode.k47, M_s2Decode.r71, M_s2Decode.r72, M_s2Decode.r73, eD, eS, es, ed, eo]
    refine hS.ldB hb (j := i) rfl (by omega) fun v2 hv2 he2 hev2 => ?_
    obtain rfl : v2 = v := by omega
    simp (disch := omega) only [fdiv_nat, w_i64, w_u64, w_i32, w_u32, w_u16, w_u8, w_i16, Nat.reducePow]
    have hr : readEl l i true = readLit l i := by unfold readEl; simp only [hev, c0, if_true]
    -- the literal, from where its length is known
    have lit : ∀ (m f : Nat) (st' : M_s2Decode.St), readLit l i = litEl l f m → f ≤ l.length → m < 2 ^ 32 → st'.x_dst = ⟨dp, N, c⟩ → st'.x_src = S → st'.x_d = out.length → st'.x_offset = last → st'.x_xq15 = m → st'.x_s = f →
        M_s2Decode.k60 st' h (BK 9 (SK M_s2Decode.k86 (BK 8 Q))) := by
      intro m f st' hrl hf hm fD fS fd fo fx fs
      refine litPartB fD hdp hc fS hS fd fx fs HB hM hMo hN hl hf hm hout ?_ ?_
      · intro hbd st2 h2
        simp only [BK_ret, SK_ret]
        refine hbad ?_ st2 h h2 (Fr.refl _ _)
        unfold stepE
        rw [hr, hrl]
        unfold litEl
        by_cases hx : m + 1 ≤ l.length - f
        · rw [if_pos hx]
          simp only
          rw [if_pos (by omega)]
        · rw [if_neg hx]
      · intro h1 h2 st2 h3 M' g1 g2 g3 g4 g5 g6 g7 g8 g9
        rw [BK_exit, if_neg (by decide), SK_exit, BK_same]
        refine hok (f + (m + 1)) (out ++ (l.drop f).take (m + 1)) last ?_ st2 h3 ?_ g9
        · unfold stepE
          rw [hr, hrl]
          unfold litEl
          rw [if_pos h1]
          simp only
          rw [if_neg (by omega), if_pos trivial]
        · have hlen : (out ++ (l.drop f).take (m + 1)).length = out.length + (m + 1) := by simp; omega
          exact ⟨g1.trans fD, g2.trans fS, g3, by rw [hlen]; exact g5, g4.trans fo, M', fun _ => g6, g7, by rw [hlen]; exact g8⟩
    by_cases n60 : v2 / 4 < 60
    · rw [if_pos (by simp <;> omega)]
      refine lit (v2 / 4) (i + 1) _ ?_ (by omega) (by omega) rfl rfl rfl rfl rfl (by simp only; omega)
      unfold readLit; simp only [hev, n60, if_true]
    rw [if_neg (by simp <;> omega)]
    have rl : ∀ n m, v2 / 4 - 59 = n → i + 1 + n ≤ l.length → leN ((l.drop (i + 1)).take n) = m → readLit l i = litEl l (i + 1 + n) m := by
      intro n m hn hle hm
      unfold readLit
      simp only [hev, n60, if_false, hn, leAt_in hle, hm]
    have rn : ∀ n, v2 / 4 - 59 = n → l.length < i + 1 + n → readEl l i true = none := by
      intro n hn hle
      rw [hr]
      unfold readLit
      simp only [hev, n60, if_false, hn, leAt_out hle]
    simp only [SS, M_s2Decode.k48, M_s2Decode.k49, M_s2Decode.k50, M_s2Decode.r74, M_s2Decode.r75, M_s2Decode.r76, M_s2Decode.r77, M_s2Decode.r78, eD, eS, es, ed, eo]
    by_cases n1 : v2 / 4 = 60
    · rw [if_pos (by simp [n1])]
      simp (disch := omega) only [w_i64, w_u64, w_i32, w_u32, w_u16, w_u8, w_i16, Nat.reducePow]
      by_cases hx : l.length < i + 2
      · rw [if_pos (by simp <;> omega)]
        exact bad (rn 1 (by omega) (by omega)) _ rfl
      rw [if_neg (by simp <;> omega)]
      refine hS.ldB hb (j := i + 1) (by omega) (by omega) fun w0 hw0 _ e0 => ?_
      simp (disch := omega) only [w_i64, w_u64, w_i32, w_u32, w_u16, w_u8, w_i16, Nat.reducePow]
      exact lit w0 (i + 1 + 1) _ (rl 1 w0 (by omega) (by omega) (leN_1 (by omega) e0)) (by omega) (by omega) rfl rfl rfl rfl rfl (by simp only; omega)
    rw [if_neg (by simp <;> omega)]
    simp only [SS, M_s2Decode.k51, M_s2Decode.k52, M_s2Decode.k53, M_s2Decode.r79, M_s2Decode.r80, M_s2Decode.r81, M_s2Decode.r82, M_s2Decode.r83, eD, eS, es, ed, eo]
    by_cases n2 : v2 / 4 = 61
    · rw [if_pos (by simp [n2])]
      simp (disch := omega) only [w_i64, w_u64, w_i32, w_u32, w_u16, w_u8, w_i16, Nat.reducePow]
      by_cases hx : l.length < i + 3
      · rw [if_pos (by simp <;> omega)]
        exact bad (rn 2 (by omega) (by omega)) _ rfl
      rw [if_neg (by simp <;> omega)]
      refine hS.ldB hb (j := i + 1) (by omega) (by omega) fun w0 hw0 _ e0 => ?_
      refine hS.ldB hb (j := i + 1 + 1) (by omega) (by omega) fun w1 hw1 _ e1 => ?_
      rw [or2n hw0 hw1]
      exact lit _ (i + 1 + 2) _ (rl 2 _ (by omega) (by omega) (leN_2 (by omega) e0 e1)) (by omega) (by omega) rfl rfl rfl rfl rfl (by simp only; omega)
    rw [if_neg (by simp <;> omega)]
    simp only [SS, M_s2Decode.k54, M_s2Decode.k55, M_s2Decode.k56, M_s2Decode.r84, M_s2Decode.r85, M_s2Decode.r86, M_s2Decode.r87, M_s2Decode.r88, eD, eS, es, ed, eo]
    by_cases n3 : v2 / 4 = 62
    · rw [if_pos (by simp [n3])]
      simp (disch := omega) only [w_i64, w_u64, w_i32, w_u32, w_u16, w_u8, w_i16, Nat.reducePow]
      by_cases hx : l.length < i + 4
      · rw [if_pos (by simp <;> omega)]
        exact bad (rn 3 (by omega) (by omega)) _ rfl
      rw [if_neg (by simp <;> omega)]
      refine hS.ldB hb (j := i + 1) (by omega) (by omega) fun w0 hw0 _ e0 => ?_
      refine hS.ldB hb (j := i + 1 + 1) (by omega) (by omega) fun w1 hw1 _ e1 => ?_
      refine hS.ldB hb (j := i + 1 + 2) (by omega) (by omega) fun w2 hw2 _ e2 => ?_
      rw [or3n hw0 hw1 hw2]
      exact lit _ (i + 1 + 3) _ (rl 3 _ (by omega) (by omega) (leN_3 (by omega) e0 e1 e2)) (by omega) (by omega) rfl rfl rfl rfl rfl (by simp only; omega)
    rw [if_neg (by simp <;> omega)]
    simp only [SS, M_s2Decode.k57, M_s2Decode.k58, M_s2Decode.k59, M_s2Decode.r89, M_s2Decode.r90, M_s2Decode.r91, M_s2Decode.r92, M_s2Decode.r93, eD, eS, es, ed, eo]
    have n4 : v2 / 4 = 63 := by omega
    rw [if_pos (by simp [n4])]
    simp (disch := omega) only [w_i64, w_u64, w_i32, w_u32, w_u16, w_u8, w_i16, Nat.reducePow]
    by_cases hx : l.length < i + 5
    · rw [if_pos (by simp <;> omega)]
      exact bad (rn 4 (by omega) (by omega)) _ rfl
    rw [if_neg (by simp <;> omega)]
    refine hS.ldB hb (j := i + 1) (by omega) (by omega) fun w0 hw0 _ e0 => ?_
    refine hS.ldB hb (j := i + 1 + 1) (by omega) (by omega) fun w1 hw1 _ e1 => ?_
    refine hS.ldB hb (j := i + 1 + 2) (by omega) (by omega) fun w2 hw2 _ e2 => ?_
    refine hS.ldB hb (j := i + 1 + 3) (by omega) (by omega) fun w3 hw3 _ e3 => ?_
    rw [or4n hw0 hw1 hw2 hw3]
    exact lit _ (i + 1 + 4) _ (rl 4 _ (by omega) (by omega) (leN_4 (by omega) e0 e1 e2 e3)) (by omega) (by omega) rfl rfl rfl rfl rfl (by simp only; omega)
  · rw [if_neg (by simp <;> omega)]
    -- a copy, from where its length and offset are known
    have cp : ∀ (el : El) (st' : M_s2Decode.St), readEl l i true = some el → el.lit = false → 0 < el.len → st'.x_dst = ⟨dp, N, c⟩ → st'.x_src = S → st'.x_d = out.length → st'.x_length = el.len →
        st'.x_offset = (if el.rep then last else el.off : Nat) → st'.x_s = el.next → M_s2Decode.k86 st' h (BK 8 Q) := by
      intro el st' hre hlit hl0 fD fS fd fl fo fs
      have hsm := readEl_small hb.mem (by have := hb i; omega) hre
      have hog : (if el.rep then last else el.off : Nat) < 2 ^ 37 := by split <;> omega
      refine copyPartB fD hdp hc fd fl fo HB hM hMo hN hl0 (by omega) (by omega) hout ?_ ?_
      · intro hbd st2 h2
        refine hbad ?_ st2 h h2 (Fr.refl _ _)
        unfold stepE
        rw [hre]
        simp only [hlit, Bool.false_eq_true, if_false]
        by_cases hx : N < out.length + el.len
        · rw [if_pos hx]
        · rw [if_neg hx, if_pos (by omega)]
      · intro h1 h2 h3 st2 h4 M' g1 g2 g3 g4 g5 g6 g7 g8 g9
        have hlen : (fwd out (if el.rep then last else el.off) el.len).length = out.length + el.len := fwd_len _ _ _
        refine hok el.next (fwd out (if el.rep then last else el.off) el.len) (if el.rep then last else el.off) ?_ st2 h4 ⟨g1.trans fD, g2.trans fS, g3.trans fs, by rw [hlen]; exact g5, g4.trans fo, M', fun _ => g6, g7, by rw [hlen]; exact g8⟩ g9
        unfold stepE
        rw [hre]
        simp only [hlit, Bool.false_eq_true, if_false]
        rw [if_neg (by omega), if_neg (by omega)]
    simp only [SS, M_s2Decode.k64, M_s2Decode.r100, eD, eS, es, ed, eo]
    by_cases c1 : v % 4 = 1
    · rw [if_pos (by simp [c1])]
      simp only [SS, M_s2Decode.k65, M_s2Decode.k66, M_s2Decode.k67, M_s2Decode.k68, M_s2Decode.r101, M_s2Decode.r102, M_s2Decode.r103, M_s2Decode.r104, M_s2Decode.r105, eD, eS, es, ed, eo]
      simp (disch := omega) only [w_i64, w_u64, w_i32, w_u32, w_u16, w_u8, w_i16, Nat.reducePow]
      by_cases hx : l.length < i + 2
      · rw [if_pos (by simp <;> omega)]
        refine bad ?_ _ rfl
        unfold readEl; simp only [hev, c1, leAt_out (l := l) (i := i + 1) (n := 1) (by omega)]; simp
      rw [if_neg (by simp <;> omega)]
      refine hS.ldB hb (j := i) (by omega) (by omega) fun v2 hv2 he2 hev2 => ?_
      obtain rfl : v2 = v := by omega
      refine hS.ldB hb (j := i) (by omega) (by omega) fun v4 hv4 he4 hev4 => ?_
      obtain rfl : v4 = v2 := by omega
      refine hS.ldB hb (j := i + 1) (by omega) (by omega) fun v3 hv3 he3 hev3 => ?_
      have hlow : leAt l (i + 1) 1 = some v3 := by rw [leAt_in (by omega), leN_1 (by omega) hev3]
      rw [toff hv hv3]
      simp (disch := omega) only [fdiv_nat, w_i64, w_u64, w_i32, w_u32, w_u16, w_u8, w_i16, Nat.reducePow, i64_and7]
      simp only [SS, M_s2Decode.k69, M_s2Decode.r106, M_s2Decode.r123, M_s2Decode.r124, eD, eS, es, ed, eo]
      by_cases ht : 0 < v4 / 32 * 256 + v3
      · rw [if_neg (by simp <;> omega)]
        simp (disch := omega) only [w_i64, w_u64, w_i32, w_u32, w_u16, w_u8, w_i16, Nat.reducePow]
        have hr : readEl l i true = some ⟨false, 0, v4 / 32 * 256 + v3, v4 / 4 % 8 + 4, false, i + 2⟩ := by
          unfold readEl; simp only [hev, c1, hlow, ht, true_or, if_true]; simp
        exact cp _ _ hr rfl (by simp only; omega) rfl rfl rfl (by simp only; omega) (by simp) (by simp only; omega)
      have hz : ¬ (0 < v4 / 32 * 256 + v3 ∨ true = false) := by simp; omega
      rw [if_pos (by simp <;> omega)]
      simp only [SS, M_s2Decode.k69, M_s2Decode.k70, M_s2Decode.k71, M_s2Decode.k72, M_s2Decode.k73, M_s2Decode.r106, M_s2Decode.r123, M_s2Decode.r124, M_s2Decode.r107, M_s2Decode.r108, M_s2Decode.r109, M_s2Decode.r110, M_s2Decode.r111, M_s2Decode.r112, eD, eS, es, ed, eo]
      by_cases h5 : v4 / 4 % 8 = 5
      · rw [if_pos (by simp [h5])]
        simp (disch := omega) only [w_i64, w_u64, w_i32, w_u32, w_u16, w_u8, w_i16, Nat.reducePow]
        have e4 : v4 / 4 % 8 - 4 = 1 := by omega
        by_cases hx : l.length < i + 3
        · rw [if_pos (by simp <;> omega)]
          refine bad ?_ _ rfl
          unfold readEl; simp only [hev, c1, hlow, hz, if_false, e4, leAt_out (l := l) (i := i + 2) (n := 1) (by omega), h5]; simp
        rw [if_neg (by simp <;> omega)]
        refine hS.ldB hb (j := i + 2) (by omega) (by omega) fun w0 hw0 _ e0 => ?_
        simp (disch := omega) only [w_i64, w_u64, w_i32, w_u32, w_u16, w_u8, w_i16, Nat.reducePow]
        have hr : readEl l i true = some ⟨false, 0, 0, w0 + 8, true, i + 3⟩ := by
          unfold readEl
          simp only [hev, c1, hlow, hz, if_false, e4, leAt_in (l := l) (i := i + 2) (n := 1) (by omega), leN_1 (l := l) (j := i + 2) (by omega) e0, h5]
          simp [moreBase]
        exact cp _ _ hr rfl (by simp only; omega) rfl rfl rfl (by simp only; omega) (by simp) (by simp only; omega)
      rw [if_neg (by simp <;> omega)]
      simp only [SS, M_s2Decode.k74, M_s2Decode.k75, M_s2Decode.k76, M_s2Decode.r113, M_s2Decode.r114, M_s2Decode.r115, M_s2Decode.r116, M_s2Decode.r117, eD, eS, es, ed, eo]
      by_cases h6 : v4 / 4 % 8 = 6
      · rw [if_pos (by simp [h6])]
        simp (disch := omega) only [w_i64, w_u64, w_i32, w_u32, w_u16, w_u8, w_i16, Nat.reducePow]
        have e4 : v4 / 4 % 8 - 4 = 2 := by omega
        by_cases hx : l.length < i + 4
        · rw [if_pos (by simp <;> omega)]
          refine bad ?_ _ rfl
          unfold readEl; simp only [hev, c1, hlow, hz, if_false, e4, leAt_out (l := l) (i := i + 2) (n := 2) (by omega), h6]; simp
        rw [if_neg (by simp <;> omega)]
        refine hS.ldB hb (j := i + 2) (by omega) (by omega) fun w0 hw0 _ e0 => ?_
        refine hS.ldB hb (j := i + 2 + 1) (by omega) (by omega) fun w1 hw1 _ e1 => ?_
        rw [or2n hw0 hw1]
        simp only [SS, M_s2Decode.k69, M_s2Decode.r106, M_s2Decode.r123, M_s2Decode.r124, eD, eS, es, ed, eo]
        simp (disch := omega) only [w_i64, w_u64, w_i32, w_u32, w_u16, w_u8, w_i16, Nat.reducePow]
        have hr : readEl l i true = some ⟨false, 0, 0, (w0 + 256 * w1) + 260, true, i + 4⟩ := by
          unfold readEl
          simp only [hev, c1, hlow, hz, if_false, e4, leAt_in (l := l) (i := i + 2) (n := 2) (by omega), leN_2 (l := l) (j := i + 2) (by omega) e0 e1, h6]
          simp [moreBase]
        exact cp _ _ hr rfl (by simp only; omega) rfl rfl rfl (by simp only; omega) (by simp) (by simp only; omega)
      rw [if_neg (by simp <;> omega)]
      simp only [SS, M_s2Decode.k77, M_s2Decode.k78, M_s2Decode.k79, M_s2Decode.r118, M_s2Decode.r119, M_s2Decode.r120, M_s2Decode.r121, M_s2Decode.r122, eD, eS, es, ed, eo]
      by_cases h7 : v4 / 4 % 8 = 7
      · rw [if_pos (by simp [h7])]
        simp (disch := omega) only [w_i64, w_u64, w_i32, w_u32, w_u16, w_u8, w_i16, Nat.reducePow]
        have e4 : v4 / 4 % 8 - 4 = 3 := by omega
        by_cases hx : l.length < i + 5
        · rw [if_pos (by simp <;> omega)]
          refine bad ?_ _ rfl
          unfold readEl; simp only [hev, c1, hlow, hz, if_false, e4, leAt_out (l := l) (i := i + 2) (n := 3) (by omega), h7]; simp
        rw [if_neg (by simp <;> omega)]
        refine hS.ldB hb (j := i + 2) (by omega) (by omega) fun w0 hw0 _ e0 => ?_
        refine hS.ldB hb (j := i + 2 + 1) (by omega) (by omega) fun w1 hw1 _ e1 => ?_
        refine hS.ldB hb (j := i + 2 + 2) (by omega) (by omega) fun w2 hw2 _ e2 => ?_
        rw [or3n hw0 hw1 hw2]
        simp only [SS, M_s2Decode.k69, M_s2Decode.r106, M_s2Decode.r123, M_s2Decode.r124, eD, eS, es, ed, eo]
        simp (disch := omega) only [w_i64, w_u64, w_i32, w_u32, w_u16, w_u8, w_i16, Nat.reducePow]
        have hr : readEl l i true = some ⟨false, 0, 0, (w0 + 256 * (w1 + 256 * w2)) + 65540, true, i + 5⟩ := by
          unfold readEl
          simp only [hev, c1, hlow, hz, if_false, e4, leAt_in (l := l) (i := i + 2) (n := 3) (by omega), leN_3 (l := l) (j := i + 2) (by omega) e0 e1 e2, h7]
          simp [moreBase]
        exact cp _ _ hr rfl (by simp only; omega) rfl rfl rfl (by simp only; omega) (by simp) (by simp only; omega)
      rw [if_neg (by simp <;> omega)]
      simp only [SS, M_s2Decode.k69, M_s2Decode.r106, M_s2Decode.r123, M_s2Decode.r124, eD, eS, es, ed, eo]
      simp (disch := omega) only [w_i64, w_u64, w_i32, w_u32, w_u16, w_u8, w_i16, Nat.reducePow]
      have hr : readEl l i true = some ⟨false, 0, 0, v4 / 4 % 8 + 4, true, i + 2⟩ := by
        unfold readEl
        have e4 : v4 / 4 % 8 ≤ 4 := by omega
        simp only [hev, c1, hlow, hz, if_false, e4, if_true]; simp
      exact cp _ _ hr rfl (by simp only; omega) rfl rfl rfl (by simp only; omega) (by simp) (by simp only; omega)
    · rw [if_neg (by simp <;> omega)]
      simp only [SS, M_s2Decode.k80, M_s2Decode.k81, M_s2Decode.k82, M_s2Decode.r125, M_s2Decode.r126, M_s2Decode.r127, M_s2Decode.r128, M_s2Decode.r129, M_s2Decode.r130, eD, eS, es, ed, eo]
      by_cases c2 : v % 4 = 2
      · rw [if_pos (by simp [c2])]
        simp (disch := omega) only [w_i64, w_u64, w_i32, w_u32, w_u16, w_u8, w_i16, Nat.reducePow]
        by_cases hx : l.length < i + 3
        · rw [if_pos (by simp <;> omega)]
          refine bad ?_ _ rfl
          unfold readEl; simp only [hev, c2, leAt_out (l := l) (i := i + 1) (n := 2) (by omega), copyEl]; simp
        rw [if_neg (by simp <;> omega)]
        refine hS.ldB hb (j := i) (by omega) (by omega) fun v2 hv2 he2 hev2 => ?_
        obtain rfl : v2 = v := by omega
        refine hS.ldB hb (j := i + 1) (by omega) (by omega) fun w0 hw0 _ e0 => ?_
        refine hS.ldB hb (j := i + 1 + 1) (by omega) (by omega) fun w1 hw1 _ e1 => ?_
        rw [or2n hw0 hw1]
        simp (disch := omega) only [fdiv_nat, w_i64, w_u64, w_i32, w_u32, w_u16, w_u8, w_i16, Nat.reducePow]
        have hr : readEl l i true = some ⟨false, 0, w0 + 256 * w1, v2 / 4 + 1, false, i + 3⟩ := by
          unfold readEl; simp only [hev, c2, leAt_in (l := l) (i := i + 1) (n := 2) (by omega), leN_2 (l := l) (j := i + 1) (by omega) e0 e1, copyEl]; simp
        exact cp _ _ hr rfl (by simp only; omega) rfl rfl rfl (by simp only; omega) (by simp) (by simp only; omega)
      · rw [if_neg (by simp <;> omega)]
        simp only [SS, M_s2Decode.k83, M_s2Decode.k84, M_s2Decode.k85, M_s2Decode.r131, M_s2Decode.r132, M_s2Decode.r133, M_s2Decode.r134, M_s2Decode.r135, M_s2Decode.r136, eD, eS, es, ed, eo]
        rw [if_pos (by simp <;> omega)]
        simp (disch := omega) only [w_i64, w_u64, w_i32, w_u32, w_u16, w_u8, w_i16, Nat.reducePow]
        by_cases hx : l.length < i + 5
        · rw [if_pos (by simp <;> omega)]
          refine bad ?_ _ rfl
          unfold readEl; simp only [hev, c2, c1, c0, leAt_out (l := l) (i := i + 1) (n := 4) (by omega), copyEl]; simp
        rw [if_neg (by simp <;> omega)]
        refine hS.ldB hb (j := i) (by omega) (by omega) fun v2 hv2 he2 hev2 => ?_
        obtain rfl : v2 = v := by omega
        refine hS.ldB hb (j := i + 1) (by omega) (by omega) fun w0 hw0 _ e0 => ?_
        refine hS.ldB hb (j := i + 1 + 1) (by omega) (by omega) fun w1 hw1 _ e1 => ?_
        refine hS.ldB hb (j := i + 1 + 2) (by omega) (by omega) fun w2 hw2 _ e2 => ?_
        refine hS.ldB hb (j := i + 1 + 3) (by omega) (by omega) fun w3 hw3 _ e3 => ?_
        rw [or4n hw0 hw1 hw2 hw3]
        simp (disch := omega) only [fdiv_nat, w_i64, w_u64, w_i32, w_u32, w_u16, w_u8, w_i16, Nat.reducePow]
        have hr : readEl l i true = some ⟨false, 0, w0 + 256 * (w1 + 256 * (w2 + 256 * w3)), v2 / 4 + 1, false, i + 5⟩ := by
          unfold readEl; simp only [hev, c2, c1, c0, leAt_in (l := l) (i := i + 1) (n := 4) (by omega), leN_4 (l := l) (j := i + 1) (by omega) e0 e1 e2 e3, copyEl, if_false]
        exact cp _ _ hr rfl (by simp only; omega) rfl rfl rfl (by simp only; omega) (by simp) (by simp only; omega)
end
end Go.Proofs.YtibleenkgmkpmaaDoor

set_option linter.unusedSimpArgs false
set_option linter.unusedVariables false
set_option linter.unusedSectionVars false
namespace Go.Proofs.YtibleenkgmkpmaaDoor
open Go Go.Vc Go.Ml Go.S2

theorem stepE_last {l : List Int} {s2 : Bool} {n i i' : Nat} {out out' : List Int} {last last' : Nat} (h : stepE l s2 n i out last = some (i', out', last')) : last' ≤ max last out.length := by
  unfold stepE at h
  split at h
  · cases h
  · rename_i e he
    split at h
    · cases h
    · split at h
      · simp only [Option.some.injEq, Prod.mk.injEq] at h
        obtain ⟨rfl, rfl, rfl⟩ := h
        omega
      · simp only at h
        generalize (if e.rep = true then last else e.off) = o at h
        split at h
        · cases h
        · simp only [Option.some.injEq, Prod.mk.injEq] at h
          obtain ⟨rfl, rfl, rfl⟩ := h
          omega

section
variable {S : Sl} {dp : Option Addr} {l : List Int} {N db c : Nat} {h : Heap} {K : Int → Heap → Prop}

theorem s2Decode (hc : N ≤ c) (hdp : 0 < N → dp = some ⟨db, 0, none⟩) (hS : SlI h .u8 S l) (hb : Byt l) (hne : ∀ a, 0 < S.n → S.p = some a → a.block ≠ db) (hN : N < 2 ^ 36) (hl : l.length < 2 ^ 36)
    (HB : ∃ M : List Int, (0 < N → Blk h db (M.map (Value.int .u8)) 5) ∧ M.length = N)
    (hbad : dec l true N 0 [] 0 = none → ∀ h', Fr (· = db) h h' → K 1 h')
    (hok : ∀ res, dec l true N 0 [] 0 = some res → ∀ h', res.length = N → (0 < N → Blk h' db (res.map (Value.int .u8)) 5) → Fr (· = db) h h' → K 0 h') : c_s2Decode ⟨dp, N, c⟩ S h K := by
  have hsl := hS.len
  obtain ⟨M0, HB0, hM0⟩ := HB
  generalize hR : dec l true N 0 [] 0 = R at hbad hok
  apply M_s2Decode.calls
  simp only [SS, M_s2Decode.stm, M_s2Decode.k0, M_s2Decode.k1, M_s2Decode.k2, M_s2Decode.init, M_s2Decode.r0, M_s2Decode.r1, M_s2Decode.r2]
  refine loop_rule (I := fun s' h' => ∃ i out last, Dst S N dp db c i out last s' h' ∧ i ≤ l.length ∧ out.length ≤ N ∧ last < 2 ^ 36 ∧ Fr (· = db) h h' ∧ dec l true N i out last = R) (μ := fun s' _ => (l.length - s'.x_s).toNat) ?_ ?_
  · exact ⟨0, [], 0, ⟨rfl, rfl, rfl, rfl, rfl, M0, HB0, hM0, rfl⟩, by omega, by simp, by decide, Fr.refl _ _, hR⟩
  · rintro s1 h1 ⟨i, out, last, J, hi, hout, hlast, hF, hR1⟩
    have hS1 := SlI.fr hS hF (fun a h1 h2 => hne a h1 h2)
    have hne1 := hne
    have hbd : ∀ {i out last}, i < l.length → dec l true N i out last = R → stepE l true N i out last = none → ∀ (st' : M_s2Decode.St) (h' : Heap), st'.t4 = 1 → Fr (· = db) h h' → K st'.t4 h' := by
      intro i out last hi hR hst st' h' h4 hf
      rw [h4]
      exact hbad (by rw [← hR]; exact dec_bad hi hst) h' hf
    have tail : ∀ (s1 : M_s2Decode.St) (h1 : Heap) (i : Nat) (out : List Int) (last : Nat), Dst S N dp db c i out last s1 h1 → i ≤ l.length → out.length ≤ N → last < 2 ^ 36 → Fr (· = db) h h1 → dec l true N i out last = R → M_s2Decode.k42 s1 h1 (endK (M_s2Decode.res K)) := by
      intro s1 h1 i out last J hi hout hlast hF hR1
      simp only [SS, M_s2Decode.k42]
      refine loop_rule (I := fun s' h' => ∃ i out last, Dst S N dp db c i out last s' h' ∧ i ≤ l.length ∧ out.length ≤ N ∧ last < 2 ^ 36 ∧ Fr (· = db) h h' ∧ dec l true N i out last = R) (μ := fun s' _ => (l.length - s'.x_s).toNat) ?_ ?_
      · exact ⟨i, out, last, J, hi, hout, hlast, hF, hR1⟩
      · clear J hi hout hlast hF hR1 s1 h1 i out last
        rintro s1 h1 ⟨i, out, last, J, hi, hout, hlast, hF, hR1⟩
        have hS1 : SlI h1 .u8 S l := SlI.fr hS hF (fun a h1 h2 => hne a h1 h2)
        simp only [SS, M_s2Decode.k43, M_s2Decode.r68, J.s, J.i, hsl]
        by_cases hx : (i : Int) < l.length
        · rw [if_pos (by simpa using hx)]
          refine bodyB J hc hdp hS1 hb hN hl hout hlast (by omega) ?_ ?_
          · intro hst st' h' h4 hf
            exact hbd (by omega) hR1 hst st' h' h4 (hF.trans hf)
          · intro i' out' last' hst st' h' J' hf
            have hn := stepE_next hst
            have hla := stepE_last hst
            refine ⟨⟨i', out', last', J', hn.2.1, hn.2.2, by omega, hF.trans hf, by rw [← hR1]; exact (dec_go (by omega) hst).symm⟩, ?_⟩
            have := J'.i
            simp only [this]; omega
        · rw [if_neg (by simpa using hx)]
          simp only [SS, M_s2Decode.k97, M_s2Decode.res, M_s2Decode.r151, M_s2Decode.r152, M_s2Decode.r153, J.n, J.d]
          rw [dec_stop (by omega)] at hR1
          obtain ⟨M, HB, hM, hMo⟩ := J.m
          by_cases hn : out.length = N
          · rw [if_pos hn] at hR1
            rw [if_neg (by simp [hn])]
            refine hok out hR1.symm h1 hn (fun h0 => ?_) hF
            rw [hn] at hMo
            rw [← hMo, ← hM, List.take_length]
            exact HB h0
          · rw [if_neg hn] at hR1
            rw [if_pos (by simp <;> omega)]
            exact hbad hR1.symm h1 hF
    simp only [SS, M_s2Decode.k3, M_s2Decode.r3, J.s, J.i, hsl]
    rw [w_i64 (by omega) (by omega)]
    by_cases hx : (i : Int) < l.length - 5
    · rw [if_pos (by simpa using hx)]
      refine bodyA J hc hdp hS1 hb hne hN hl hout hlast (by omega) ?_ ?_
      · intro hst st' h' h4 hf
        exact hbd (by omega) hR1 hst st' h' h4 (hF.trans hf)
      · intro i' out' last' hst st' h' J' hf
        have hn := stepE_next hst
        have hla := stepE_last hst
        refine ⟨⟨i', out', last', J', hn.2.1, hn.2.2, by omega, hF.trans hf, by rw [← hR1]; exact (dec_go (by omega) hst).symm⟩, ?_⟩
        have := J'.i
        simp only [this]; omega
    · rw [if_neg (by simpa using hx)]
      exact tail s1 h1 i out last J hi hout hlast hF hR1
end
end Go.Proofs.YtibleenkgmkpmaaDoor

set_option linter.unusedSimpArgs false
set_option linter.unusedVariables false
set_option linter.unusedSectionVars false
namespace Go.Proofs.YtibleenkgmkpmaaDoor
open Go Go.Vc Go.Ml Go.S2
section
variable {S : Sl} {l : List Int} {h : Heap}

/-- The block's answer: what it stands for, or nothing. -/
def said (l : List Int) : Option (List Int) :=
  match dlen l with
  | none => none
  | some (n, u) => dec l true n u [] 0

theorem Decode (hS : SlI h .u8 S l) (hsB : ∀ a, 0 < S.n → S.p = some a → a.block < h.size) (hb : Byt l) (hl : l.length < 2 ^ 36) {E : Value} (hE : hcell h ⟨0, 0, none⟩ = some E) {K : Sl → Value → Heap → Prop}
    (hbad : said l = none → ∀ h', Old h h' → K ⟨none, 0, 0⟩ E h') (hok : ∀ out, said l = some out → ∀ sl h', SlI h' .u8 sl out → out.length < 2 ^ 32 → Old h h' → K sl .nilIface h') (hnE : isNilI E = some false) : c_Decode ⟨none, 0, 0⟩ S h K := by
  have hsl := hS.len
  apply M_Decode.calls
  simp only [SS, M_Decode.stm, M_Decode.k0, M_Decode.k1, M_Decode.init, M_Decode.res, M_Decode.r0, M_Decode.r1, M_Decode.r2, M_Decode.r3]
  refine decodedLen hS hb hl hE ?_ ?_
  · intro hd
    simp only [SS, M_Decode.k1, M_Decode.res, M_Decode.r2, M_Decode.r3, nilE, hnE]
    rw [if_pos (by simp)]
    exact hbad (by unfold said; rw [hd]) h (Old.refl h)
  · intro N u hd hu hN
    simp only [SS, M_Decode.k1, M_Decode.k2, M_Decode.r2, M_Decode.r3, M_Decode.r4, M_Decode.r5, M_Decode.r6, nilE, isNilI]
    rw [if_neg (by simp)]
    have hsaid : said l = dec (l.drop u) true N 0 [] 0 := by unfold said; rw [hd]; exact (dec_drop hu).symm
    have E0 : ∀ {h' : Heap}, Old h h' → hcell h' ⟨0, 0, none⟩ = some E := fun o => (Fr.of_old (S := fun _ => False) o).cell (fun x => x) hE
    have fin : ∀ (dp : Option Addr) (db c : Nat) (h1 : Heap) (st : M_Decode.St), st.x_dst = ⟨dp, N, c⟩ → st.x_src = S → st.x_s = u → N ≤ c → (0 < N → dp = some ⟨db, 0, none⟩) → h.size ≤ db → Old h h1 → (∃ M : List Int, (0 < N → Blk h1 db (M.map (Value.int .u8)) 5) ∧ M.length = N) →
        M_Decode.k3 st h1 (endK (M_Decode.res K)) := by
      intro dp db c h1 st f1 f2 f3 hc hdp hdb o1 HM
      simp only [SS, M_Decode.k3, M_Decode.k4, M_Decode.k5, M_Decode.res, M_Decode.r7, M_Decode.r8, M_Decode.r9, M_Decode.r10, M_Decode.r11, f1, f2, f3]
      have hsub := (hS.ext o1.ext).from (i := u) (by omega)
      apply M_WriteSlice.calls
      simp only [SS, M_WriteSlice.stm, M_WriteSlice.init, M_WriteSlice.res]
      refine ⟨by omega, by omega, ?_⟩
      apply M_ReadSlice.calls
      simp only [SS, M_ReadSlice.stm, M_ReadSlice.init, M_ReadSlice.res]
      refine ⟨by omega, by omega, ?_⟩
      rw [Int.toNat_natCast]
      have hlt : ∀ a, 0 < S.n - u → subP S.p u S.c 1 = some a → a.block ≠ db := by
        intro a h0 ha
        unfold subP at ha
        have hcap := hS.2.1
        cases hp : S.p with
        | none => rw [hp] at ha; split at ha <;> cases ha
        | some a0 =>
          have := hsB a0 (by omega) hp
          rw [hp] at ha
          have hbl : a.block = a0.block := by
            split at ha
            · obtain rfl := Option.some.inj ha; rfl
            · obtain rfl := Option.some.inj ha
              unfold Addr.add; split <;> rfl
          omega
      refine s2Decode hc hdp hsub (hb.drop u) hlt (by omega) (by simp; omega) HM ?_ ?_
      · intro hd h2 F
        rw [if_pos (by simp)]
        have o2 : Old h h2 := Keep.old ((Keep.of_old o1).trans (Keep.of_fr F hdb))
        exact ⟨E, E0 o2, hbad (by rw [hsaid]; exact hd) h2 o2⟩
      · intro out hd h2 hlen HB F
        rw [if_neg (by simp)]
        have o2 : Old h h2 := Keep.old ((Keep.of_old o1).trans (Keep.of_fr F hdb))
        refine hok out (by rw [hsaid]; exact hd) _ h2 ⟨hlen, hc, fun h0 => ?_⟩ (by omega) o2
        simp only at h0
        refine ⟨db, 0, hdp h0, fun j hj => ?_⟩
        rw [Nat.zero_add, (HB h0).cell, List.getElem?_map, List.getElem?_eq_getElem hj, List.getD_eq_getElem?_getD, List.getElem?_eq_getElem hj]; rfl
    by_cases h0 : N = 0
    · subst h0
      rw [if_pos (by simp)]
      refine ⟨by omega, by simp, ?_⟩
      refine fin none h.size 0 h _ ?_ rfl rfl (by omega) (fun h => by omega) (Nat.le_refl _) (Old.refl h) ⟨[], fun h => by omega, rfl⟩
      simp [subP]
    · rw [if_neg (by simp; omega)]
      refine mkT_one (z := .int .u8 0) (by omega) ts5 tb5 (by kernel_rfl) ?_
      refine fin (some ⟨h.size, 0, none⟩) h.size N _ _ rfl rfl rfl (Nat.le_refl _) (fun _ => rfl) (Nat.le_refl _) (Old.new _ _ _) ⟨List.replicate N 0, fun _ => ?_, by simp⟩
      rw [List.map_replicate]
      exact Blk.new _ _ _

theorem implDecode (hS : SlI h .u8 S l) (hsB : ∀ a, 0 < S.n → S.p = some a → a.block < h.size) (hb : Byt l) (hl : l.length < 2 ^ 36) {E : Value} (hE : hcell h ⟨0, 0, none⟩ = some E) (hnE : isNilI E = some false) {K : Sl → Bool → Heap → Prop}
    (hK : ∀ sl (b : Bool) h', (b = true ↔ (said l).isSome = true) → (∀ out, said l = some out → SlI h' .u8 sl out) → Old h h' → K sl b h') : c_impl_S2Decode S h K := by
  apply M_impl_S2Decode.calls
  simp only [SS, M_impl_S2Decode.stm, M_impl_S2Decode.r0, M_impl_S2Decode.r1, M_impl_S2Decode.init, M_impl_S2Decode.res]
  refine Decode hS hsB hb hl hE ?_ ?_ hnE
  · intro hs h' o
    apply M_impl_told.calls
    simp only [SS, M_impl_told.stm, M_impl_told.k0, M_impl_told.init, M_impl_told.res, M_impl_told.r0, M_impl_told.r1, M_impl_told.r2, M_impl_told.r3, nilE, hnE]
    rw [if_pos (by simp)]
    exact hK _ false h' (by rw [hs]; simp) (fun out h => by rw [hs] at h; cases h) o
  · intro out hs sl h' H hlen o
    apply M_impl_told.calls
    simp only [SS, M_impl_told.stm, M_impl_told.k0, M_impl_told.init, M_impl_told.res, M_impl_told.r0, M_impl_told.r1, M_impl_told.r2, M_impl_told.r3, nilE, isNilI]
    rw [if_neg (by simp)]
    refine copiedS H (by omega) fun sl' h2 HO o2 => ?_
    refine hK _ true h2 (by rw [hs]; simp) (fun out' h => ?_) (o.trans o2)
    rw [hs] at h
    obtain rfl := Option.some.inj h
    exact HO.sl
end
end Go.Proofs.YtibleenkgmkpmaaDoor
