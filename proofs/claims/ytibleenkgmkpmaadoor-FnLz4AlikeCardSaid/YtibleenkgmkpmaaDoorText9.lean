/- A part of the calculus over heaps, or of the proof over it: what functions of the program compute, and the plain law. -/
import Derived.Test.YtibleenkgmkpmaaDoorText5
import Derived.Test.YtibleenkgmkpmaaDoorText8
import Derived.Test.YtibleenkgmkpmaaDoorModels3
import Derived.Test.YtibleenkgmkpmaaDoorModels5
import Derived.Test.YtibleenkgmkpmaaDoorText6

set_option linter.unusedSimpArgs false
set_option linter.unusedVariables false
set_option linter.unusedSectionVars false
namespace Go.Proofs.YtibleenkgmkpmaaDoor
open Go Go.Vc Go.Ml Go.S2

section
variable {h : Heap} {S : Sl} {l : List Int}

theorem joinNil (hS : SlI h .u8 S l) (hl : l.length < 2 ^ 36) {K : Sl → Heap → Prop} (hK : ∀ s h', Own h.size h' .u8 5 s l → Old h h' → K s h') : c_laws_join S ⟨none, 0, 0⟩ h K := by
  have hsl := hS.len
  apply M_laws_join.calls
  simp only [SS, M_laws_join.k1, M_laws_join.k0, M_laws_join.stm, M_laws_join.r0, M_laws_join.r1, M_laws_join.r2, M_laws_join.r3, M_laws_join.init, M_laws_join.res]
  have ew : IntKind.wrap .i64 ((S.n : Int) + ((0 : Nat) : Int)) = ((l.length : Nat) : Int) := by rw [w_i64 (by omega) (by omega)]; omega
  rw [ew]
  refine mkT_cap (z := .int .u8 0) (by omega) ts5 tb5 (by kernel_rfl) ?_
  have o1 := Old.new h (List.replicate l.length (.int .u8 0)) 5
  have HN : Own h.size (hnew h (List.replicate l.length (.int .u8 0)) 5) .u8 5 ⟨some ⟨h.size, 0, none⟩, 0, l.length⟩ [] :=
    ⟨rfl, Nat.zero_le _, Or.inr ⟨h.size, _, rfl, Nat.le_refl _, Blk.new _ _ _, by simp, by simp⟩⟩
  generalize hnew h (List.replicate l.length (.int .u8 0)) 5 = h1 at *
  have hs1 := o1.size
  refine append_own (s := ⟨some ⟨h.size, 0, none⟩, 0, l.length⟩) (l := []) (news := l) HN ts5 tb5 z5 hsl.symm ?_ (by simp only; omega) hs1 fun p' c' h2 HO2 HF2 _ => ?_
  · have := src_sl (hS.ext o1.ext) (m := S.n) (Nat.le_refl _) (n := S.n) (c := S.c)
    rwa [List.take_of_length_le (by omega)] at this
  have k2 : Keep h.size h h2 := (Keep.of_old o1).trans (HN.keep HF2)
  refine append_own (s := ⟨p', 0 + S.n, c'⟩) (l := [] ++ l) (news := []) (m := 0) HO2 ts5 tb5 z5 rfl (by simp [srcCells]) (by simp only; omega) k2.size fun p3 c3 h3 HO3 HF3 _ => ?_
  simp only [List.nil_append, List.append_nil] at HO3
  exact hK _ h3 HO3 (Keep.old (k2.trans (HO2.keep HF3)))

theorem copiedT {off len : Nat} (hS : SlI h .u8 S l) (hl : l.length < 2 ^ 36) (h0 : 0 < off) (h1 : off ≤ l.length) (hlen : len < 2 ^ 36) {K : Sl → Heap → Prop} (hK : ∀ s h', Own h.size h' .u8 5 s (fwd l off len) → Old h h' → K s h') : c_laws_copied S off len h K := by
  apply M_laws_copied.calls
  simp only [SS, M_laws_copied.stm, M_laws_copied.k0, M_laws_copied.k1, M_laws_copied.k2, M_laws_copied.init, M_laws_copied.r0, M_laws_copied.r1, M_laws_copied.r2, M_laws_copied.r6]
  refine joinNil hS hl fun s h1 HO o1 => ?_
  refine loop_rule (I := fun s' h' => s'.x_offset = off ∧ s'.t10 = len ∧ ∃ i : Nat, s'.t11 = i ∧ i ≤ len ∧ Own h.size h' .u8 5 s'.x_out (fwd l off i) ∧ Keep h.size h h') (μ := fun s' _ => (len - s'.t11).toNat) ?_ ?_
  · exact ⟨rfl, rfl, 0, rfl, by omega, HO, Keep.of_old o1⟩
  · rintro s' h' ⟨e1, e2, i, e3, hi, HO', hk⟩
    have hs := hk.size
    simp only [SS, M_laws_copied.k3, M_laws_copied.k4, M_laws_copied.res, M_laws_copied.r3, e1, e2, e3]
    by_cases hc : (i : Int) < len
    · rw [if_pos (by simpa using hc)]
      simp only [SS, M_laws_copied.k5, M_laws_copied.r4, M_laws_copied.r5, e1, e2, e3]
      have hol := HO'.len
      rw [fwd_len] at hol
      have ei : IntKind.wrap .i64 ((s'.x_out.n : Int) - off) = ((l.length + i - off : Nat) : Int) := by rw [w_i64 (by omega) (by omega)]; omega
      rw [ei]
      refine HO'.sl.ld (by omega) (by omega) ?_
      rw [Int.toNat_natCast, withH_eq]
      refine app1 HO' (by omega) hs fun p' c' h2 HO2 HK2 => ?_
      simp (disch := omega) only [w_i64, w_u64, w_i32, w_u32, w_u16, w_u8, w_i16, Nat.reducePow]
      exact ⟨⟨trivial, trivial, i + 1, by omega, by omega, HO2, hk.trans HK2⟩, by omega⟩
    · rw [if_neg (by simpa using hc)]
      obtain rfl : i = len := by omega
      simp only [SS, M_laws_copied.k1, M_laws_copied.res, M_laws_copied.r2, M_laws_copied.r6]
      exact hK _ h' HO' (Keep.old hk)

theorem said_of {body out : List Int} {last : Nat} (H : GoesG true body out last) (hle : out.length < 2 ^ 32) : said (varB 10 out.length ++ body) = some out := by
  unfold said
  rw [dlen_varB hle]
  simp only
  rw [← dec_drop (by simp), List.drop_append_of_le_length (Nat.le_refl _), List.drop_of_length_le (Nat.le_refl _), List.nil_append]
  exact H.done

theorem fwd_bts {out : List Int} (h : Bts out) (o k : Nat) : Bts (fwd out o k) := fwd_byt h k

end
end Go.Proofs.YtibleenkgmkpmaaDoor

set_option linter.unusedSimpArgs false
set_option linter.unusedVariables false
set_option linter.unusedSectionVars false
namespace Go.Proofs.YtibleenkgmkpmaaDoor
open Go Go.Vc Go.Ml Go.S2

theorem s2back {h : Heap} {s : Sl} {body out : List Int} {last : Nat} (HB : Own 0 h .u8 5 s body) (hbb : Bts body) (hbl : body.length ≤ 2 ^ 21) (hg : GoesG true body out last) (hol : out.length < 2 ^ 32) {E : Value} (hE : hcell h ⟨0, 0, none⟩ = some E) (hnE : isNilI E = some false) {K : Sl → Bool → Heap → Prop}
    (hK : ∀ sl h', SlI h' .u8 sl out → Old h h' → K sl true h') : c_laws_uvarint out.length h fun w2 h1 => c_laws_join w2 s h1 fun w4 h3 => c_impl_S2Decode w4 h3 K := by
  refine uvarint (n := out.length) (by omega) fun u h3 HU o3 => ?_
  have hvl := varB_len 10 out.length
  refine join HU.sl (HB.old o3).sl (by omega) (by omega) fun w h4 HW o4 => ?_
  have o34 := o3.trans o4
  refine implDecode HW.sl (fun a _ ha => Own.below HW a ha) (Byt.of_mem ((varB_bts _ _).app hbb)) (by simp; omega) ((Fr.of_old (S := fun _ => False) o34).cell (fun x => x) hE) hnE fun sl bb h5 t1 t2 o5 => ?_
  have hsd := said_of hg (by omega)
  have hbt : bb = true := by rw [t1, hsd]; rfl
  subst hbt
  exact hK sl h5 (t2 _ hsd) (o34.trans o5)

theorem law_Lz4Alike {md : Bool} {h : Heap} {S : Sl} {l : List Int} (hS : SlI h .u8 S l) (hsB : ∀ a, 0 < S.n → S.p = some a → a.block < h.size) (hb : Bts l) {E : Value} (hE : hcell h ⟨0, 0, none⟩ = some E) (hnE : isNilI E = some false) : c_laws_FnLz4Alike S md h fun b h' => b = true ∧ Old h h' := by
  have hsl := hS.len
  apply M_laws_FnLz4Alike.calls
  simp only [SS, M_laws_FnLz4Alike.stm, M_laws_FnLz4Alike.init, M_laws_FnLz4Alike.k0, M_laws_FnLz4Alike.k1, M_laws_FnLz4Alike.k2, M_laws_FnLz4Alike.res, M_laws_FnLz4Alike.r0, M_laws_FnLz4Alike.r1, M_laws_FnLz4Alike.r2, M_laws_FnLz4Alike.r3, M_laws_FnLz4Alike.r4, M_laws_FnLz4Alike.r5, hsl]
  by_cases c0 : ((l.length : Nat) : Int) > 2147483647
  · rw [if_pos (by simpa using c0)]; exact ⟨trivial, Old.refl _⟩
  rw [if_neg (by simpa using c0)]
  by_cases c1 : ((l.length : Nat) : Int) > 65536
  · rw [if_pos (by simpa using c1)]; exact ⟨trivial, Old.refl _⟩
  rw [if_neg (by simpa using c1)]
  refine lawLz4 hS hsB hb (by omega) fun want r h1 hr o1 => ?_
  simp only [SS, M_laws_FnLz4Alike.k3, M_laws_FnLz4Alike.res, M_laws_FnLz4Alike.r6, M_laws_FnLz4Alike.r7]
  by_cases r1 : r = 1
  case neg => rw [if_neg (by simp; omega), if_pos trivial]; exact ⟨trivial, o1⟩
  rw [if_pos (by simp [r1])]
  obtain ⟨out, hZ, hO, hob, hol⟩ := hr r1
  have hwn := hO.len
  by_cases c2 : want.n = 0
  · rw [if_neg (by simp [c2]), if_pos trivial]; exact ⟨trivial, o1⟩
  rw [if_pos (by simp; omega)]
  by_cases c3 : ((want.n : Nat) : Int) > 1048576
  · rw [if_pos (by simpa using c3)]; exact ⟨trivial, o1⟩
  rw [if_neg (by simpa using c3)]
  simp only [SS, M_laws_FnLz4Alike.k4, M_laws_FnLz4Alike.k5, M_laws_FnLz4Alike.k6, M_laws_FnLz4Alike.k7, M_laws_FnLz4Alike.k8, M_laws_FnLz4Alike.res, M_laws_FnLz4Alike.r8, M_laws_FnLz4Alike.r9, M_laws_FnLz4Alike.r10, M_laws_FnLz4Alike.r11, M_laws_FnLz4Alike.r12, M_laws_FnLz4Alike.r13, M_laws_FnLz4Alike.r14]
  have s1 := o1.size
  refine convertS2 (hS.ext o1.ext) (fun a h0 ha => by have := hsB a h0 ha; omega) hb (by omega) hZ fun b body last h2 HB hg hbb hbl o2 => ?_
  have s2 := o2.size
  have o12 := o1.trans o2
  refine convertSn (hS.ext o12.ext) (fun a h0 ha => by have := hsB a h0 ha; omega) hb (by omega) hZ fun b' body' last' h3 HB' hg' hbb' hbl' o3 => ?_
  rw [if_pos (by simp), if_pos (by simp), if_neg (by simp)]
  have o123 := o12.trans o3
  refine s2back ((HB.old o3).mono (Nat.zero_le _)) hbb hbl hg (by omega) ((Fr.of_old (S := fun _ => False) o123).cell (fun x => x) hE) hnE fun x h4 HX o4 => ?_
  have o1234 := o123.trans o4
  refine s2back ((HB'.old o4).mono (Nat.zero_le _)) hbb' hbl' (hg' true) (by omega) ((Fr.of_old (S := fun _ => False) o1234).cell (fun x => x) hE) hnE fun y h5 HY o5 => ?_
  rw [if_pos rfl, if_pos rfl]
  refine eq (HX.ext o5.ext) HY (Byt.of_mem hob) (Byt.of_mem hob) (by omega) fun b hb5 => ?_
  exact ⟨hb5.2 rfl, o1234.trans o5⟩
end Go.Proofs.YtibleenkgmkpmaaDoor
