/- A part of the calculus over heaps, or of the proof over it: what functions of the program compute, and the plain law. -/
import Derived.Test.YtibleenkgmkpmaaDoorText5
import Derived.Test.YtibleenkgmkpmaaDoorText8
import Derived.Test.YtibleenkgmkpmaaDoorModels2
import Derived.Test.YtibleenkgmkpmaaDoorModels4
import Derived.Test.YtibleenkgmkpmaaDoorText6
import Derived.Test.YtibleenkgmkpmaaDoorText3
import Derived.Test.YtibleenkgmkpmaaDoorText2

set_option linter.unusedSimpArgs false
set_option linter.unusedVariables false
set_option linter.unusedSectionVars false
namespace Go.Proofs.YtibleenkgmkpmaaDoor
open Go Go.Vc Go.Ml Go.S2

section
variable {h : Heap} {S : Sl} {l : List Int}

theorem joinNil (hS : SlI h .u8 S l) (hl : l.length < 2 ^ 36) {K : Sl → Heap → Prop} (hK : ∀ s h', Own h.size h' .u8 5 s l → Old h h' → K s h') : c_laws_join S ⟨none, 0, 0⟩ h K := by
  have hsl := hS.len
  apply M_laws_join.calls
  simp only [SS, M_laws_join.k1, M_laws_join.k0, M_laws_join.stm, M_laws_join.r0, M_laws_join.r1, M_laws_join.r2, M_laws_join.r3, M_laws_join.init, M_laws_join.res]
  have ew : IntKind.wrap .i64 ((S.n : Int) + ((0 : Nat) : Int)) = ((l.length : Nat) : Int) := by rw [w_i64 (by omega) (by omega)]; omega
  rw [ew]
  refine mkT_cap (z := .int .u8 0) (by omega) ts5 tb5 (by kernel_rfl) ?_
  have o1 := Old.new h (List.replicate l.length (.int .u8 0)) 5
  have HN : Own h.size (hnew h (List.replicate l.length (.int .u8 0)) 5) .u8 5 ⟨some ⟨h.size, 0, none⟩, 0, l.length⟩ [] :=
    ⟨rfl, Nat.zero_le _, Or.inr ⟨h.size, _, rfl, Nat.le_refl _, Blk.new _ _ _, by simp, by simp⟩⟩
  generalize hnew h (List.replicate l.length (.int .u8 0)) 5 = h1 at *
  have hs1 := o1.size
  refine append_own (s := ⟨some ⟨h.size, 0, none⟩, 0, l.length⟩) (l := []) (news := l) HN ts5 tb5 z5 hsl.symm ?_ (by simp only; omega) hs1 fun p' c' h2 HO2 HF2 _ => ?_
  · have := src_sl (hS.ext o1.ext) (m := S.n) (Nat.le_refl _) (n := S.n) (c := S.c)
    rwa [List.take_of_length_le (by omega)] at this
  have k2 : Keep h.size h h2 := (Keep.of_old o1).trans (HN.keep HF2)
  refine append_own (s := ⟨p', 0 + S.n, c'⟩) (l := [] ++ l) (news := []) (m := 0) HO2 ts5 tb5 z5 rfl (by simp [srcCells]) (by simp only; omega) k2.size fun p3 c3 h3 HO3 HF3 _ => ?_
  simp only [List.nil_append, List.append_nil] at HO3
  exact hK _ h3 HO3 (Keep.old (k2.trans (HO2.keep HF3)))

theorem copiedT {off len : Nat} (hS : SlI h .u8 S l) (hl : l.length < 2 ^ 36) (h0 : 0 < off) (h1 : off ≤ l.length) (hlen : len < 2 ^ 36) {K : Sl → Heap → Prop} (hK : ∀ s h', Own h.size h' .u8 5 s (fwd l off len) → Old h h' → K s h') : c_laws_copied S off len h K := by
  apply M_laws_copied.calls
  simp only [SS, M_laws_copied.stm, M_laws_copied.k0, M_laws_copied.k1, M_laws_copied.k2, M_laws_copied.init, M_laws_copied.r0, M_laws_copied.r1, M_laws_copied.r2, M_laws_copied.r6]
  refine joinNil hS hl fun s h1 HO o1 => ?_
  refine loop_rule (I := fun s' h' => s'.x_offset = off ∧ s'.t10 = len ∧ ∃ i : Nat, s'.t11 = i ∧ i ≤ len ∧ Own h.size h' .u8 5 s'.x_out (fwd l off i) ∧ Keep h.size h h') (μ := fun s' _ => (len - s'.t11).toNat) ?_ ?_
  · exact ⟨rfl, rfl, 0, rfl, by omega, HO, Keep.of_old o1⟩
  · rintro s' h' ⟨e1, e2, i, e3, hi, HO', hk⟩
    have hs := hk.size
    simp only [SS, M_laws_copied.k3, M_laws_copied.k4, M_laws_copied.res, M_laws_copied.r3, e1, e2, e3]
    by_cases hc : (i : Int) < len
    · rw [if_pos (by simpa using hc)]
      simp only [SS, M_laws_copied.k5, M_laws_copied.r4, M_laws_copied.r5, e1, e2, e3]
      have hol := HO'.len
      rw [fwd_len] at hol
      have ei : IntKind.wrap .i64 ((s'.x_out.n : Int) - off) = ((l.length + i - off : Nat) : Int) := by rw [w_i64 (by omega) (by omega)]; omega
      rw [ei]
      refine HO'.sl.ld (by omega) (by omega) ?_
      rw [Int.toNat_natCast, withH_eq]
      refine app1 HO' (by omega) hs fun p' c' h2 HO2 HK2 => ?_
      simp (disch := omega) only [w_i64, w_u64, w_i32, w_u32, w_u16, w_u8, w_i16, Nat.reducePow]
      exact ⟨⟨trivial, trivial, i + 1, by omega, by omega, HO2, hk.trans HK2⟩, by omega⟩
    · rw [if_neg (by simpa using hc)]
      obtain rfl : i = len := by omega
      simp only [SS, M_laws_copied.k1, M_laws_copied.res, M_laws_copied.r2, M_laws_copied.r6]
      exact hK _ h' HO' (Keep.old hk)

theorem said_of {body out : List Int} {last : Nat} (H : GoesG true body out last) (hle : out.length < 2 ^ 32) : said (varB 10 out.length ++ body) = some out := by
  unfold said
  rw [dlen_varB hle]
  simp only
  rw [← dec_drop (by simp), List.drop_append_of_le_length (Nat.le_refl _), List.drop_of_length_le (Nat.le_refl _), List.nil_append]
  exact H.done

theorem fwd_bts {out : List Int} (h : Bts out) (o k : Nat) : Bts (fwd out o k) := fwd_byt h k

end
end Go.Proofs.YtibleenkgmkpmaaDoor

set_option linter.unusedSimpArgs false
set_option linter.unusedVariables false
set_option linter.unusedSectionVars false
namespace Go.Proofs.YtibleenkgmkpmaaDoor
open Go Go.Vc Go.Ml Go.S2

theorem s2back {h : Heap} {s : Sl} {body out : List Int} {last : Nat} (HB : Own 0 h .u8 5 s body) (hbb : Bts body) (hbl : body.length ≤ 2 ^ 21) (hg : GoesG true body out last) (hol : out.length < 2 ^ 32) {E : Value} (hE : hcell h ⟨0, 0, none⟩ = some E) (hnE : isNilI E = some false) {K : Sl → Bool → Heap → Prop}
    (hK : ∀ sl h', SlI h' .u8 sl out → Old h h' → K sl true h') : c_laws_uvarint out.length h fun w2 h1 => c_laws_join w2 s h1 fun w4 h3 => c_impl_S2Decode w4 h3 K := by
  refine uvarint (n := out.length) (by omega) fun u h3 HU o3 => ?_
  have hvl := varB_len 10 out.length
  refine join HU.sl (HB.old o3).sl (by omega) (by omega) fun w h4 HW o4 => ?_
  have o34 := o3.trans o4
  refine implDecode HW.sl (fun a _ ha => Own.below HW a ha) (Byt.of_mem ((varB_bts _ _).app hbb)) (by simp; omega) ((Fr.of_old (S := fun _ => False) o34).cell (fun x => x) hE) hnE fun sl bb h5 t1 t2 o5 => ?_
  have hsd := said_of hg (by omega)
  have hbt : bb = true := by rw [t1, hsd]; rfl
  subst hbt
  exact hK sl h5 (t2 _ hsd) (o34.trans o5)

end Go.Proofs.YtibleenkgmkpmaaDoor

set_option linter.unusedSimpArgs false
set_option linter.unusedVariables false
set_option linter.unusedSectionVars false
namespace Go.Proofs.YtibleenkgmkpmaaDoor
open Go Go.Vc Go.Ml Go.S2

/-- A sequence, as it lies in memory. -/
structure Sq where
  data : Sl
  bytes : List Int
  back : Nat
  mat : Nat
structure SqAt (B : Nat) (h : Heap) (b o : Nat) (p : Sq) : Prop where
  c0 : hcell h ⟨b, o, none⟩ = some (.slice p.data.p p.data.n p.data.c)
  c1 : hcell h ⟨b, o + 1, none⟩ = some (.int .u16 (p.back : Nat))
  c2 : hcell h ⟨b, o + 2, none⟩ = some (.int .u16 (p.mat : Nat))
  sl : SlI h .u8 p.data p.bytes
  bts : Bts p.bytes
  below : ∀ a, 0 < p.data.n → p.data.p = some a → a.block < B
  b16 : p.back < 65536
  m16 : p.mat < 65536
structure Sqs (B : Nat) (h : Heap) (S : Sl) (ps : List Sq) : Prop where
  len : ps.length = S.n
  mem : 0 < S.n → ∃ b o, S.p = some ⟨b, o, none⟩ ∧ b < B ∧ ∀ i (hi : i < ps.length), SqAt B h b (o + i * 3) ps[i]

theorem Sqs.keep {B : Nat} {h h' : Heap} {S : Sl} {ps : List Sq} (H : Sqs B h S ps) (F : Keep B h h') : Sqs B h' S ps := by
  refine ⟨H.len, fun h0 => ?_⟩
  obtain ⟨b, o, hp, hb, hx⟩ := H.mem h0
  refine ⟨b, o, hp, hb, fun i hi => ?_⟩
  have P := hx i hi
  have g : ∀ {j : Nat} {v : Value}, hcell h ⟨b, j, none⟩ = some v → hcell h' ⟨b, j, none⟩ = some v := fun hc => F.cell (by simp only; omega) hc
  exact ⟨g P.c0, g P.c1, g P.c2, P.sl.keepB P.below F, P.bts, P.below, P.b16, P.m16⟩

theorem z58 : zcells Pg 58 = [.slice none 0 0, .int .u16 0, .int .u16 0] := by kernel_rfl

/-- Three cells, stored one behind the other. -/
theorem st3 {h : Heap} {b : Nat} {e : TypeId} {c0 c1 c2 v0 v1 v2 : Value} {K : Heap → Prop} (H : Blk h b [c0, c1, c2] e) (hK : K (hput h b [v0, v1, v2] e)) :
    st1 (Addr.add ⟨b, 0, none⟩ 0) v0 h fun h => st1 (Addr.add ⟨b, 0, none⟩ 1) v1 h fun h => st1 (Addr.add ⟨b, 0, none⟩ 2) v2 h K := by
  have hl := H.lt
  simp only [add_mk, Nat.zero_add]
  refine st1_blk H (by simp) ?_
  refine st1_blk (Blk.put hl _ _) (by simp) ?_
  refine st1_blk (Blk.put (by simpa using hl) _ _) (by simp) ?_
  simpa only [hput_put, List.set_cons_zero, List.set_cons_succ] using hK

/-- A sequence's cells. -/
def sqC (p : Sq) : List Value := [.slice p.data.p p.data.n p.data.c, .int .u16 (p.back : Nat), .int .u16 (p.mat : Nat)]

/-- A sequence, copied into a variable of its own. -/
theorem Sqs.ld {B : Nat} {h : Heap} {S : Sl} {ps : List Sq} (H : Sqs B h S ps) {i : Nat} (hi : i < ps.length) {K : Heap → Prop}
    (hK : ∀ b o h', SqAt B h b o ps[i] → Blk h' h.size (sqC ps[i]) 58 → Old h h' → K h') :
    0 ≤ (i : Int) ∧ (i : Int) < ((S.n : Nat) : Int) ∧
    ptrE S.p fun a1 =>
    ∃ (p2 : Option Addr) (n3 c4 : Nat), hcell h (Addr.add (Addr.add a1 (Int.toNat i * 3)) 0) = some (.slice p2 n3 c4) ∧
    ∃ v5 : Int, hcell h (Addr.add (Addr.add a1 (Int.toNat i * 3)) 1) = some (.int .u16 v5) ∧
    ∃ v6 : Int, hcell h (Addr.add (Addr.add a1 (Int.toNat i * 3)) 2) = some (.int .u16 v6) ∧
    withH (hnew h (zcells Pg 58) 58) fun h7 =>
    st1 (Addr.add ⟨Array.size h, 0, none⟩ 0) (.slice p2 n3 c4) h7 fun h8 =>
    st1 (Addr.add ⟨Array.size h, 0, none⟩ 1) (.int .u16 v5) h8 fun h9 =>
    st1 (Addr.add ⟨Array.size h, 0, none⟩ 2) (.int .u16 v6) h9 K := by
  have hl := H.len
  obtain ⟨b, o, hp, hb, hx⟩ := H.mem (by omega)
  have P := hx i hi
  refine ⟨by omega, by omega, ?_⟩
  rw [hp, ptrE_some]
  simp only [add_mk, Int.toNat_natCast, Nat.add_zero]
  refine ⟨_, _, _, P.c0, _, P.c1, _, P.c2, ?_⟩
  rw [withH_eq, z58]
  have := st3 (K := K) (Blk.new h [.slice none 0 0, .int .u16 0, .int .u16 0] 58) (v0 := .slice ps[i].data.p ps[i].data.n ps[i].data.c) (v1 := .int .u16 (ps[i].back : Nat)) (v2 := .int .u16 (ps[i].mat : Nat)) (by rw [hput_new]; exact hK _ _ _ P (Blk.new _ _ _) (Old.new _ _ _))
  simpa only [add_mk, Nat.add_zero, Nat.zero_add] using this

section
variable {B : Nat} {h : Heap} {S : Sl} {ps : List Sq}

theorem zzFits6 (H : Sqs B h S ps) (hB : B ≤ h.size) {K : Bool → Heap → Prop} (hK : ∀ b h', (b = true → ps.length ≤ 2147483647) → Keep B h h' → K b h') : c_laws_zzFits6 S h K := by
  have hl := H.len
  apply M_laws_zzFits6.calls
  simp only [SS, M_laws_zzFits6.stm, M_laws_zzFits6.k0, M_laws_zzFits6.k1, M_laws_zzFits6.k2, M_laws_zzFits6.init, M_laws_zzFits6.res, M_laws_zzFits6.r0, M_laws_zzFits6.r1, M_laws_zzFits6.r2, M_laws_zzFits6.r3, M_laws_zzFits6.r9]
  by_cases h1 : ((S.n : Nat) : Int) > 2147483647
  · rw [if_pos (by simpa using h1)]
    exact hK false h (fun h => by cases h) (Keep.refl _ _)
  rw [if_neg (by simpa using h1)]
  refine loop_rule (I := fun s' h' => s'.x_x = S ∧ s'.t8 = S ∧ s'.t9 = ps.length ∧ ∃ i : Nat, s'.t10 = i ∧ i ≤ ps.length ∧ Keep B h h') (μ := fun s' _ => (ps.length - s'.t10).toNat) ?_ ?_
  · exact ⟨rfl, rfl, by rw [← hl], 0, rfl, by omega, Keep.refl _ _⟩
  · rintro s' h' ⟨e0, e1, e2, i, e3, hi, hk⟩
    have hs := hk.size
    simp only [SS, M_laws_zzFits6.k3, M_laws_zzFits6.k4, M_laws_zzFits6.k5, M_laws_zzFits6.res, M_laws_zzFits6.r4, M_laws_zzFits6.r5, M_laws_zzFits6.r8, e0, e1, e2, e3]
    by_cases hc : (i : Int) < ps.length
    · rw [if_pos (by simpa using hc)]
      refine (H.keep hk).ld (i := i) (by omega) fun b o h2 P hb o2 => ?_
      generalize ps[i]'(by omega) = p at *
      have hs2 := o2.size
      simp only [SS, M_laws_zzFits6.k6, M_laws_zzFits6.res, M_laws_zzFits6.r6, M_laws_zzFits6.r7, withH_eq, ptrE_some, add_mk, Nat.zero_add, Nat.add_zero]
      refine ⟨_, _, _, hb.get rfl, _, hb.get rfl, _, hb.get rfl, ?_⟩
      apply M_laws_zzFits7.calls
      simp only [SS, M_laws_zzFits7.k0, M_laws_zzFits7.stm, M_laws_zzFits7.r0, M_laws_zzFits7.r1, M_laws_zzFits7.r2, M_laws_zzFits7.r3, M_laws_zzFits7.init, M_laws_zzFits7.res, withH_eq, ptrE_some, add_mk, Nat.zero_add, Nat.add_zero]
      have o3 := Old.new h2 [.slice p.data.p p.data.n p.data.c, .int .u16 (p.back : Nat), .int .u16 (p.mat : Nat)] 58
      have hb3 := Blk.new h2 [.slice p.data.p p.data.n p.data.c, .int .u16 (p.back : Nat), .int .u16 (p.mat : Nat)] 58
      generalize hnew h2 [.slice p.data.p p.data.n p.data.c, .int .u16 (p.back : Nat), .int .u16 (p.mat : Nat)] 58 = h3 at *
      have hk3 := hk.trans (Keep.of_old (o2.trans o3))
      refine ⟨_, _, _, hb3.get rfl, ?_⟩
      by_cases hx : ((p.data.n : Nat) : Int) > 2147483647
      · rw [if_pos (by simpa using hx), if_pos (by simp)]
        exact hK false h3 (fun h => by cases h) hk3
      · rw [if_neg (by simpa using hx), if_neg (by simp)]
        simp only [M_laws_zzFits6.r8]
        simp (disch := omega) only [w_i64, w_u64, w_i32, w_u32, w_u16, w_u8, w_i16, Nat.reducePow]
        exact ⟨⟨trivial, trivial, trivial, i + 1, by omega, by omega, hk3⟩, by omega⟩
    · rw [if_neg (by simpa using hc)]
      simp only [SS, M_laws_zzFits6.k1, M_laws_zzFits6.res, M_laws_zzFits6.r3, M_laws_zzFits6.r9]
      exact hK true h' (fun _ => by omega) hk
end

theorem further {h : Heap} {n : Nat} (hn : n < 2 ^ 30) {K : Sl → Heap → Prop} (hK : ∀ s h', Own h.size h' .u8 5 s (fur n) → Old h h' → K s h') : c_laws_further n h K := by
  apply M_laws_further.calls
  simp only [SS, M_laws_further.stm, M_laws_further.k0, M_laws_further.k1, M_laws_further.init, M_laws_further.r0, M_laws_further.r1, M_laws_further.r5]
  refine loop_rule (I := fun s' h' => ∃ k : Nat, s'.x_n = ((n - 255 * k : Nat) : Int) ∧ 255 * k ≤ n ∧ Own h.size h' .u8 5 s'.x_out (List.replicate k 255) ∧ Keep h.size h h') (μ := fun s' _ => s'.x_n.toNat) ?_ ?_
  · exact ⟨0, by simp, by omega, Own.nil _ _ _ _, Keep.refl _ _⟩
  · rintro s' h' ⟨k, e1, hk, HO, hkp⟩
    have hs := hkp.size
    have hol := HO.len
    rw [List.length_replicate] at hol
    simp only [SS, M_laws_further.k2, M_laws_further.k3, M_laws_further.res, M_laws_further.r2, M_laws_further.r3, M_laws_further.r4, e1]
    by_cases hc : ((n - 255 * k : Nat) : Int) ≥ 255
    · rw [if_pos (by simpa using hc), withH_eq]
      refine app1 HO (by omega) hs fun p' c' h2 HO2 HK2 => ?_
      have ew : IntKind.wrap .i64 (((n - 255 * k : Nat) : Int) - 255) = ((n - 255 * (k + 1) : Nat) : Int) := by rw [w_i64 (by omega) (by omega)]; omega
      rw [ew]
      refine ⟨⟨k + 1, rfl, by omega, ?_, hkp.trans HK2⟩, by omega⟩
      rw [List.replicate_succ']
      exact HO2
    · rw [if_neg (by simpa using hc)]
      simp only [SS, M_laws_further.k1, M_laws_further.res, M_laws_further.r5, e1]
      rw [withH_eq, w_u8 (by omega) (by omega)]
      refine app1 HO (by omega) hs fun p' c' h2 HO2 HK2 => ?_
      refine hK _ h2 ?_ (Keep.old (hkp.trans HK2))
      unfold fur
      have e1 : n / 255 = k := by omega
      have e2 : n % 255 = n - 255 * k := by omega
      rw [e1, e2]
      exact HO2

theorem token {h : Heap} {S : Sl} {l : List Int} {low : Nat} (hS : SlI h .u8 S l) (hsB : ∀ a, 0 < S.n → S.p = some a → a.block < h.size) (hl : l.length < 2 ^ 30) (hlow : low < 16) {K : Sl → Heap → Prop} (hK : ∀ s h', Own h.size h' .u8 5 s (tokn l low) → Old h h' → K s h') : c_laws_token S low h K := by
  have hsl := hS.len
  apply M_laws_token.calls
  simp only [SS, M_laws_token.stm, M_laws_token.k0, M_laws_token.k1, M_laws_token.init, M_laws_token.r0, M_laws_token.r1, M_laws_token.r2, M_laws_token.r3, M_laws_token.r4]
  have et : IntKind.wrap .u8 (bOr .i64 (IntKind.wrap .i64 ((if (15 : Int) < ((S.n : Nat) : Int) then (15 : Int) else ((S.n : Nat) : Int)) * 2 ^ (4 : Nat))) low) = ((min l.length 15 * 16 + low : Nat) : Int) := by
    have e1 : (if (15 : Int) < ((S.n : Nat) : Int) then (15 : Int) else ((S.n : Nat) : Int)) = ((min l.length 15 : Nat) : Int) := by split <;> omega
    rw [e1, w_i64 (by omega) (by omega)]
    have hm : min l.length 15 < 16 := by omega
    generalize min l.length 15 = a at *
    have e2 : ((a : Int) * 2 ^ (4 : Nat)) = ((a * 16 : Nat) : Int) := by omega
    rw [e2, or_i64 (by omega) (by omega)]
    have hd : ∀ a, a < 16 → ∀ b, b < 16 → a * 16 ||| b = a * 16 + b := by decide +kernel
    rw [hd _ hm _ hlow, w_u8 (by omega) (by omega)]
  rw [et, withH_eq]
  have o1 := Old.new h [.int .u8 ((min l.length 15 * 16 + low : Nat) : Int)] 5
  have H1 : Own h.size (hnew h [.int .u8 ((min l.length 15 * 16 + low : Nat) : Int)] 5) .u8 5 ⟨some ⟨h.size, 0, none⟩, 1, 1⟩ [((min l.length 15 * 16 + low : Nat) : Int)] :=
    ⟨rfl, Nat.le_refl _, Or.inr ⟨h.size, _, rfl, Nat.le_refl _, Blk.new _ _ _, by simp, by simp⟩⟩
  generalize hnew h [.int .u8 ((min l.length 15 * 16 + low : Nat) : Int)] 5 = h1 at *
  have s1 := o1.size
  have fin : ∀ (s : Sl) (h2 : Heap), Own h.size h2 .u8 5 s (((min l.length 15 * 16 + low : Nat) : Int) :: ext l.length) → Old h h2 → appendT Pg 5 s.p s.n s.c (.slice S.p S.n S.c) S.n h2 fun p n c h' => K ⟨p, n, c⟩ h' := by
    intro s h2 HO o2
    have s2 := o2.size
    have hol := HO.len
    have hel := ext_len l.length
    rw [List.length_cons] at hol
    refine append_own (news := l) HO ts5 tb5 z5 hsl.symm ?_ (by omega) s2 fun p' c' h3 HO3 HF3 _ => ?_
    · have := src_sl (hS.ext o2.ext) (m := S.n) (Nat.le_refl _) (n := S.n) (c := S.c)
      rwa [List.take_of_length_le (by omega)] at this
    · refine hK _ h3 ?_ (Keep.old ((Keep.of_old o2).trans (HO.keep HF3)))
      unfold tokn
      exact HO3
  by_cases hc : ((S.n : Nat) : Int) ≥ 15
  · rw [if_pos (by simpa using hc)]
    have en : IntKind.wrap .i64 (((S.n : Nat) : Int) - 15) = ((l.length - 15 : Nat) : Int) := by rw [w_i64 (by omega) (by omega)]; omega
    rw [en]
    refine further (by omega) fun w h2 HW o2 => ?_
    have hwl := HW.len
    have s2 := o2.size
    have k2 : Keep h.size h h2 := Keep.of_old (o1.trans o2)
    rw [fur_len] at hwl
    refine append_own (news := fur (l.length - 15)) (H1.old o2) ts5 tb5 z5 (by rw [fur_len]; exact hwl) ?_ (by simp only; omega) k2.size fun p' c' h3 HO3 HF3 _ => ?_
    · have := src_sl HW.sl (m := w.n) (Nat.le_refl _) (n := w.n) (c := w.c)
      rwa [List.take_of_length_le (by rw [fur_len]; omega)] at this
    refine fin ⟨p', _, c'⟩ h3 ?_ (Keep.old (k2.trans ((H1.old o2).keep HF3)))
    have : ext l.length = fur (l.length - 15) := by unfold ext; rw [if_pos (by omega)]
    rw [this]
    exact HO3
  · rw [if_neg (by simpa using hc)]
    refine fin ⟨some ⟨h.size, 0, none⟩, 1, 1⟩ h1 ?_ o1
    have : ext l.length = [] := by unfold ext; rw [if_neg (by omega)]
    rw [this]
    exact H1
end Go.Proofs.YtibleenkgmkpmaaDoor

set_option linter.unusedSimpArgs false
set_option linter.unusedVariables false
set_option linter.unusedSectionVars false
namespace Go.Proofs.YtibleenkgmkpmaaDoor
open Go Go.Vc Go.Ml Go.S2

/-- Two slices of one's own, that grow, and a variable. -/
structure Tri (B : Nat) (h : Heap) (sb : Sl) (bl : List Int) (st : Sl) (tl : List Int) (xb : Nat) (cs : List Value) (e : TypeId) : Prop where
  b : Own B h .u8 5 sb bl
  t : Own B h .u8 5 st tl
  ne : ∀ x, sb.p = some ⟨x, 0, none⟩ → ¬ st.p = some ⟨x, 0, none⟩
  x : Blk h xb cs e
  nb : ¬ sb.p = some ⟨xb, 0, none⟩
  nt : ¬ st.p = some ⟨xb, 0, none⟩

section
variable {B : Nat} {h : Heap} {sb st : Sl} {bl tl : List Int} {xb : Nat} {cs : List Value} {e : TypeId}

theorem Tri.old {h' : Heap} (T : Tri B h sb bl st tl xb cs e) (o : Old h h') : Tri B h' sb bl st tl xb cs e := ⟨T.b.old o, T.t.old o, T.ne, o.Blk T.x, T.nb, T.nt⟩

theorem Tri.appB (T : Tri B h sb bl st tl xb cs e) (hB : B ≤ h.size) {w : Sl} {news : List Int} (hw : SlI h .u8 w news) (hlen : bl.length + news.length ≤ 2 ^ 40) {K : Option Addr → Nat → Nat → Heap → Prop}
    (hK : ∀ p' c' h', Tri B h' ⟨p', sb.n + w.n, c'⟩ (bl ++ news) st tl xb cs e → Keep B h h' → K p' (sb.n + w.n) c' h') : appendT Pg 5 sb.p sb.n sb.c (.slice w.p w.n w.c) w.n h K := by
  have hbl := T.b.len
  have hwl := hw.len
  refine append_own (news := news) T.b ts5 tb5 z5 hwl.symm ?_ (by omega) hB fun p' c' h' HO HF hp => ?_
  · have := src_sl hw (m := w.n) (Nat.le_refl _) (n := w.n) (c := w.c)
    rwa [List.take_of_length_le (by omega)] at this
  · have hxl := T.x.lt
    refine hK p' c' h' ⟨HO, T.t.fr HF (fun x hx hs => T.ne x hs hx), fun x hx ht => ?_, HF.Blk T.x T.nb, fun hx => ?_, T.nt⟩ (T.b.keep HF)
    · rcases hp x hx with h1 | h1
      · exact T.ne x h1 ht
      · have := T.t.lt ht
        omega
    · rcases hp xb hx with h1 | h1
      · exact T.nb h1
      · omega

theorem Tri.appT (T : Tri B h sb bl st tl xb cs e) (hB : B ≤ h.size) {w : Sl} {news : List Int} (hw : SlI h .u8 w news) (hlen : tl.length + news.length ≤ 2 ^ 40) {K : Option Addr → Nat → Nat → Heap → Prop}
    (hK : ∀ p' c' h', Tri B h' sb bl ⟨p', st.n + w.n, c'⟩ (tl ++ news) xb cs e → Keep B h h' → K p' (st.n + w.n) c' h') : appendT Pg 5 st.p st.n st.c (.slice w.p w.n w.c) w.n h K := by
  have hbl := T.t.len
  have hwl := hw.len
  refine append_own (news := news) T.t ts5 tb5 z5 hwl.symm ?_ (by omega) hB fun p' c' h' HO HF hp => ?_
  · have := src_sl hw (m := w.n) (Nat.le_refl _) (n := w.n) (c := w.c)
    rwa [List.take_of_length_le (by omega)] at this
  · have hxl := T.x.lt
    refine hK p' c' h' ⟨T.b.fr HF (fun x hx hs => T.ne x hx hs), HO, fun x hx ht => ?_, HF.Blk T.x T.nt, T.nb, fun hx => ?_⟩ (T.t.keep HF)
    · rcases hp x ht with h1 | h1
      · exact T.ne x hx h1
      · have := T.b.lt hx
        omega
    · rcases hp xb hx with h1 | h1
      · exact T.nt h1
      · omega
end

theorem tmod_nat (a b : Nat) : Int.tmod (a : Int) (b : Int) = ((a % b : Nat) : Int) := by
  rw [Int.tmod_eq_emod_of_nonneg (by omega)]; omega

section
variable {B : Nat} {h : Heap} {bl tl : List Int} {xb : Nat} {md : Bool} {st : M_laws_FnLz4Sequences.St} {p : Sq} {Q : Ex → M_laws_FnLz4Sequences.St → Heap → Prop}

set_option maxRecDepth 1000000 in
set_option maxHeartbeats 1000000 in
/-- One sequence: its bytes are written, and what it stands for is put behind the text. -/
theorem lzBody (T : Tri B h st.x_b bl st.x_text tl xb (sqC p) 58) (hB : B ≤ h.size) (hx : st.x_x = some ⟨xb, 0, none⟩) (hmd : st.x_modified = md) (hps : SlI h .u8 p.data p.bytes) (hpb : Bts p.bytes) (hpB : ∀ a, 0 < p.data.n → p.data.p = some a → a.block < B) (hback : p.back < 65536) (hmat : p.mat < 65536)
    (hZ : Zto md bl tl) (htb : Bts tl) (hbl : bl.length ≤ 2 ^ 20) (htl : tl.length ≤ 1048576)
    (hret : ∀ st', st'.t8 = true → Q .ret st' h)
    (hK : ∀ (st' : M_laws_FnLz4Sequences.St) (h' : Heap) (bl' tl' : List Int), Own B h' .u8 5 st'.x_b bl' → Own B h' .u8 5 st'.x_text tl' → (∀ x, st'.x_b.p = some ⟨x, 0, none⟩ → ¬ st'.x_text.p = some ⟨x, 0, none⟩) → Zto md bl' tl' → Bts tl' → bl'.length ≤ bl.length + 520 → tl'.length ≤ tl.length + 2503 → Keep B h h' →
      st'.x_l = st.x_l → st'.x_end = st.x_end → st'.x_modified = st.x_modified → st'.x_snappy = st.x_snappy → st'.t44 = st.t44 → st'.t45 = st.t45 → st'.t46 = st.t46 → Q .norm st' h') : M_laws_FnLz4Sequences.k8 st h Q := by
  have hpl := hps.len
  have htn := T.t.len
  have hbn := T.b.len
  simp only [SS, M_laws_FnLz4Sequences.k8, M_laws_FnLz4Sequences.r9, M_laws_FnLz4Sequences.r10, hx, withH_eq, ptrE_some, add_mk, Nat.zero_add, Nat.add_zero]
  refine ⟨_, _, _, T.x.get rfl, ?_⟩
  by_cases c1 : ((p.data.n : Nat) : Int) > 500
  · rw [if_neg (by simpa using c1), if_pos trivial]
    exact hret _ rfl
  rw [if_pos (by simpa using c1)]
  refine ⟨_, _, _, T.x.get rfl, ?_⟩
  have e1 : IntKind.wrap .i64 (((st.x_text.n : Nat) : Int) + ((p.data.n : Nat) : Int)) = ((tl.length + p.bytes.length : Nat) : Int) := by rw [w_i64 (by omega) (by omega)]; omega
  rw [e1]
  by_cases c2 : tl.length + p.bytes.length = 0
  · rw [if_pos (by rw [c2]; rfl)]
    exact hret _ rfl
  rw [if_neg (by rw [beq_iff_eq]; omega)]
  simp only [SS, M_laws_FnLz4Sequences.k9, M_laws_FnLz4Sequences.r11, hx, withH_eq, ptrE_some, add_mk, Nat.zero_add, Nat.add_zero]
  refine ⟨_, T.x.get rfl, ?_⟩
  have e2 : IntKind.wrap .i64 ((4 : Int) + Int.tmod (IntKind.wrap .i64 ((p.mat : Nat) : Int)) 2000) = ((4 + p.mat % 2000 : Nat) : Int) := by
    rw [w_i64 (x := ((p.mat : Nat) : Int)) (by omega) (by omega)]
    have := tmod_nat p.mat 2000
    rw [show ((2000 : Nat) : Int) = 2000 from rfl] at this
    rw [this, w_i64 (by omega) (by omega)]; omega
  rw [e2]
  generalize hm : 4 + p.mat % 2000 = m
  have hm4 : 4 ≤ m := by omega
  have hm5 : m ≤ 2003 := by omega
  have hless : zleast md = 3 ∨ zleast md = 4 := by cases md <;> simp [zleast]
  have goal : ∀ st1 : M_laws_FnLz4Sequences.St, st1.x_x = some ⟨xb, 0, none⟩ → st1.x_m = m → st1.x_less = zleast md → st1.x_least = ((15 + zleast md : Nat) : Int) → st1.x_b = st.x_b → st1.x_text = st.x_text →
      st1.x_l = st.x_l → st1.x_end = st.x_end → st1.x_modified = st.x_modified → st1.x_snappy = st.x_snappy → st1.t44 = st.t44 → st1.t45 = st.t45 → st1.t46 = st.t46 → M_laws_FnLz4Sequences.k11 st1 h Q := by
    intro st1 f1 f2 f3 f4 f5 f6 f7 f8 f9 f10 f11 f12 f13
    simp only [SS, M_laws_FnLz4Sequences.k11, M_laws_FnLz4Sequences.r14, f1, f2, f3, f5, withH_eq, ptrE_some, add_mk, Nat.zero_add, Nat.add_zero]
    refine ⟨_, _, _, T.x.get rfl, ?_⟩
    have e3 : (if (15 : Int) < IntKind.wrap .i64 ((m : Int) - ((zleast md : Nat) : Int)) then (15 : Int) else IntKind.wrap .i64 ((m : Int) - ((zleast md : Nat) : Int))) = ((min (m - zleast md) 15 : Nat) : Int) := by
      rw [w_i64 (by omega) (by omega)]; split <;> omega
    rw [e3]
    refine token (S := ⟨p.data.p, p.data.n, p.data.c⟩) hps (fun a h0 ha => by have := hpB a h0 ha; omega) (by omega) (by omega) fun w h1 HW o1 => ?_
    have s1 := o1.size
    have tkl := tokn_len p.bytes (min (m - zleast md) 15)
    refine Tri.appB (T.old o1) (by omega) HW.sl (by omega) fun pb cb h2 T2 k2 => ?_
    have s2 := k2.size
    simp only [SS, M_laws_FnLz4Sequences.k12, M_laws_FnLz4Sequences.r15, f1, f6, withH_eq, ptrE_some, add_mk, Nat.zero_add, Nat.add_zero]
    refine ⟨_, _, _, T2.x.get rfl, ?_⟩
    have k02 : Keep B h h2 := (Keep.of_old o1).trans k2
    refine Tri.appT T2 (by omega) (w := ⟨p.data.p, p.data.n, p.data.c⟩) (hps.keepB hpB k02) (by omega) fun pt ct h3 T3 k3 => ?_
    have s3 := k3.size
    have k03 := k02.trans k3
    simp only [SS, M_laws_FnLz4Sequences.k13, M_laws_FnLz4Sequences.r16, f1, withH_eq, ptrE_some, add_mk, Nat.zero_add, Nat.add_zero]
    refine ⟨_, T3.x.get rfl, ?_⟩
    have htl2 : tl.length + p.bytes.length = st.x_text.n + p.data.n := by omega
    have e4 : (if (65535 : Int) < ((st.x_text.n + p.data.n : Nat) : Int) then (65535 : Int) else ((st.x_text.n + p.data.n : Nat) : Int)) = ((min (tl.length + p.bytes.length) 65535 : Nat) : Int) := by split <;> omega
    rw [e4]
    generalize hq : min (tl.length + p.bytes.length) 65535 = q
    have hq0 : 0 < q := by omega
    rw [if_neg (by omega)]
    have e5 : IntKind.wrap .i64 ((1 : Int) + Int.tmod (IntKind.wrap .i64 ((p.back : Nat) : Int)) (q : Int)) = ((1 + p.back % q : Nat) : Int) := by
      have := Nat.mod_lt p.back hq0
      rw [w_i64 (x := ((p.back : Nat) : Int)) (by omega) (by omega), tmod_nat, w_i64 (by omega) (by omega)]; omega
    rw [e5]
    have hoq := Nat.mod_lt p.back hq0
    generalize hoff : 1 + p.back % q = off
    simp only [SS, M_laws_FnLz4Sequences.k14, M_laws_FnLz4Sequences.r17]
    have e6 : IntKind.wrap .u8 (off : Int) = ((off % 256 : Nat) : Int) := w_u8_nat _
    have e7 : IntKind.wrap .u8 (Int.fdiv (off : Int) (2 ^ (8 : Nat))) = ((off / 256 : Nat) : Int) := by rw [fdiv_nat, w_u8 (by omega) (by omega)]
    rw [e6, e7, withH_eq]
    have o4 := Old.new h3 [.int .u8 ((off % 256 : Nat) : Int), .int .u8 ((off / 256 : Nat) : Int)] 5
    have S4 := sl_new h3 .u8 [((off % 256 : Nat) : Int), ((off / 256 : Nat) : Int)] 5
    have s4 := o4.size
    refine Tri.appB (sb := ⟨pb, st.x_b.n + w.n, cb⟩) (T3.old o4) (by omega) S4 (by simp; omega) fun pb2 cb2 h5 T5 k5 => ?_
    have s5 := k5.size
    have k05 := (k03.trans (Keep.of_old o4)).trans k5
    simp only [SS, M_laws_FnLz4Sequences.k15, M_laws_FnLz4Sequences.r18, M_laws_FnLz4Sequences.r19, f2, f4]
    have hel := ext_len (m - zleast md)
    have fin : ∀ (st2 : M_laws_FnLz4Sequences.St) (h6 : Heap), Own B h6 .u8 5 st2.x_b (bl ++ seqb md p.bytes m off) → Own B h6 .u8 5 st2.x_text (tl ++ p.bytes) → Keep B h h6 → st2.x_off = off → st2.x_m = m →
        st2.x_l = st.x_l → st2.x_end = st.x_end → st2.x_modified = st.x_modified → st2.x_snappy = st.x_snappy → st2.t44 = st.t44 → st2.t45 = st.t45 → st2.t46 = st.t46 → M_laws_FnLz4Sequences.r20 st2 h6 (fun s h => Q .norm s h) := by
      intro st2 h6 HB6 HT6 k6 g1 g2 g3 g4 g5 g6 g7 g8 g9
      have s6 := k6.size
      simp only [M_laws_FnLz4Sequences.r20, g1, g2]
      refine copiedT HT6.sl (by simp; omega) (by omega) (by simp; omega) (by omega) fun s h7 HO o7 => ?_
      refine hK _ h7 (bl ++ seqb md p.bytes m off) (fwd (tl ++ p.bytes) off m) (HB6.old o7) (HO.mono (by omega)) (fun x hx ht => ?_) (hZ.seq hpb hm4 (by omega) (by omega) (by omega) (by omega)) (fwd_bts (htb.app hpb) _ _) ?_ (by rw [fwd_len]; simp; omega) (k6.trans (Keep.of_old o7)) g3 g4 g5 g6 g7 g8 g9
      · have h1 := HB6.lt hx
        have h2 := HO.ge ht
        omega
      · unfold seqb
        simp only [List.length_append, List.length_cons, List.length_nil]
        omega
    have eb : bl ++ tokn p.bytes (min (m - zleast md) 15) ++ [((off % 256 : Nat) : Int), ((off / 256 : Nat) : Int)] ++ ext (m - zleast md) = bl ++ seqb md p.bytes m off := by unfold seqb; simp
    by_cases c3 : (m : Int) ≥ ((15 + zleast md : Nat) : Int)
    · rw [if_pos (by simpa using c3)]
      have e8 : IntKind.wrap .i64 ((m : Int) - ((15 + zleast md : Nat) : Int)) = ((m - zleast md - 15 : Nat) : Int) := by rw [w_i64 (by omega) (by omega)]; omega
      rw [e8]
      refine further (by omega) fun w2 h6 HW6 o6 => ?_
      have s6 := o6.size
      refine Tri.appB (T5.old o6) (by omega) HW6.sl (by rw [fur_len]; simp; omega) fun pb3 cb3 h7 T7 k7 => ?_
      refine fin _ h7 ?_ ?_ ((k05.trans (Keep.of_old o6)).trans k7) (by rfl) (by first | rfl | exact f2) (by exact f7) (by exact f8) (by exact f9) (by exact f10) (by exact f11) (by exact f12) (by exact f13)
      rotate_left
      · exact T7.t
      have e9 : ext (m - zleast md) = fur (m - zleast md - 15) := by unfold ext; rw [if_pos (by omega)]
      rw [← eb, e9]
      exact T7.b
    · rw [if_neg (by simpa using c3)]
      refine fin _ h5 ?_ ?_ k05 (by rfl) (by first | rfl | exact f2) (by exact f7) (by exact f8) (by exact f9) (by exact f10) (by exact f11) (by exact f12) (by exact f13)
      rotate_left
      · exact T5.t
      have e9 : ext (m - zleast md) = [] := by unfold ext; rw [if_neg (by omega)]
      rw [← eb, e9, List.append_nil]
      exact T5.b
  simp only [SS, M_laws_FnLz4Sequences.k10, M_laws_FnLz4Sequences.r12, M_laws_FnLz4Sequences.r13, hmd]
  cases md with
  | true => rw [if_pos rfl]; exact goal _ rfl rfl rfl rfl rfl rfl rfl rfl hmd.symm rfl rfl rfl rfl
  | false => rw [if_neg (by simp)]; exact goal _ rfl rfl rfl rfl rfl rfl rfl rfl hmd.symm rfl rfl rfl rfl
end
end Go.Proofs.YtibleenkgmkpmaaDoor

set_option linter.unusedSimpArgs false
set_option linter.unusedVariables false
set_option linter.unusedSectionVars false
namespace Go.Proofs.YtibleenkgmkpmaaDoor
open Go Go.Vc Go.Ml Go.S2

set_option maxRecDepth 1000000 in
set_option maxHeartbeats 1000000 in
theorem law_Lz4Sequences {h : Heap} {S : Sl} {ps : List Sq} {N : Sl} {l : List Int} {md sn : Bool} (H : Sqs h.size h S ps) (hN : SlI h .u8 N l) (hNB : ∀ a, 0 < N.n → N.p = some a → a.block < h.size) (hb : Bts l) {E : Value} (hE : hcell h ⟨0, 0, none⟩ = some E) (hnE : isNilI E = some false) :
    c_laws_FnLz4Sequences S N md sn h fun b h' => b = true ∧ Old h h' := by
  have hl := H.len
  have hNl := hN.len
  apply M_laws_FnLz4Sequences.calls
  simp only [SS, M_laws_FnLz4Sequences.stm, M_laws_FnLz4Sequences.init, M_laws_FnLz4Sequences.k0, M_laws_FnLz4Sequences.k1, M_laws_FnLz4Sequences.res, M_laws_FnLz4Sequences.r0, M_laws_FnLz4Sequences.r1, M_laws_FnLz4Sequences.r2, M_laws_FnLz4Sequences.r3, M_laws_FnLz4Sequences.r4]
  refine zzFits6 H (Nat.le_refl _) fun b h1 hb1 k1 => ?_
  have s1 := k1.size
  cases b with
  | false => rw [if_neg (by simp), if_pos trivial]; exact ⟨by trivial, Keep.old k1⟩
  | true =>
  rw [if_pos (by simp)]
  by_cases c0 : ((N.n : Nat) : Int) > 2147483647
  · rw [if_pos (by simpa using c0)]; exact ⟨by trivial, Keep.old k1⟩
  rw [if_neg (by simpa using c0)]
  by_cases c1 : ((S.n : Nat) : Int) > 100
  · rw [if_neg (by simpa using c1), if_pos trivial]; exact ⟨by trivial, Keep.old k1⟩
  rw [if_pos (by simpa using c1)]
  by_cases c2 : ((N.n : Nat) : Int) < 12
  · rw [if_neg (by simpa using c2), if_pos trivial]; exact ⟨by trivial, Keep.old k1⟩
  rw [if_pos (by simpa using c2)]
  by_cases c3 : ((N.n : Nat) : Int) > 500
  · rw [if_pos (by simpa using c3)]; exact ⟨by trivial, Keep.old k1⟩
  rw [if_neg (by simpa using c3)]
  simp only [SS, M_laws_FnLz4Sequences.k2, M_laws_FnLz4Sequences.k3, M_laws_FnLz4Sequences.k4, M_laws_FnLz4Sequences.r5, M_laws_FnLz4Sequences.r6]
  refine loop_rule (I := fun s' h' => s'.x_end = N ∧ s'.x_modified = md ∧ s'.x_snappy = sn ∧ s'.t44 = S ∧ s'.t45 = ps.length ∧ ∃ (i : Nat) (bl tl : List Int), s'.t46 = i ∧ i ≤ ps.length ∧ Own h.size h' .u8 5 s'.x_b bl ∧ Own h.size h' .u8 5 s'.x_text tl ∧ (∀ x, s'.x_b.p = some ⟨x, 0, none⟩ → ¬ s'.x_text.p = some ⟨x, 0, none⟩) ∧ Zto md bl tl ∧ Bts tl ∧ bl.length ≤ i * 520 ∧ tl.length ≤ i * 2503 ∧ Keep h.size h h') (μ := fun s' _ => (ps.length - s'.t46).toNat) ?_ ?_
  · exact ⟨rfl, rfl, rfl, rfl, by rw [← hl], 0, [], [], rfl, by omega, Own.nil _ _ _ _, Own.nil _ _ _ _, (fun x hx => by cases hx), Zto.nil _, (fun _ h => by cases h), by simp, by simp, k1⟩
  · rintro s' h' ⟨e1, e2, e3, e4, e5, i, bl, tl, e6, hi, HB, HT, hne, hZ, htb, hbl, htl, hk⟩
    have hs := hk.size
    simp only [SS, M_laws_FnLz4Sequences.k5, M_laws_FnLz4Sequences.k6, M_laws_FnLz4Sequences.r7, e4, e5, e6]
    by_cases hc : (i : Int) < ps.length
    · rw [if_pos (by simpa using hc)]
      simp only [SS, M_laws_FnLz4Sequences.k7, M_laws_FnLz4Sequences.r8, M_laws_FnLz4Sequences.r21, e4, e5, e6]
      refine (H.keep hk).ld (i := i) (by omega) fun b o h2 P hb o2 => ?_
      generalize ps[i]'(by omega) = p at *
      have hs2 := o2.size
      have k2 := hk.trans (Keep.of_old o2)
      have hxb : ∀ {s : Sl} {l : List Int}, Own h.size h' .u8 5 s l → ¬ s.p = some ⟨h'.size, 0, none⟩ := fun HO hx => by have := HO.lt hx; omega
      refine lzBody (B := h.size) (xb := h'.size) (p := p) (bl := bl) (tl := tl) (md := md) ⟨HB.old o2, HT.old o2, hne, hb, hxb HB, hxb HT⟩ (by omega) (by rfl) (by exact e2) (P.sl.keepB P.below (Keep.of_old o2)) P.bts P.below P.b16 P.m16 hZ htb (by omega) (by omega) ?_ ?_
      · intro st' ht
        simp only [SS, M_laws_FnLz4Sequences.res, ht]
        exact ⟨by trivial, Keep.old k2⟩
      · intro st' h3 bl' tl' HB' HT' hne' hZ' htb' hbl' htl' k3 g1 g2 g3 g4 g5 g6 g7
        have g7' : st'.t46 = i := g7.trans (by first | rfl | exact e6)
        simp only [SS, M_laws_FnLz4Sequences.r21, g7']
        simp (disch := omega) only [w_i64, w_u64, w_i32, w_u32, w_u16, w_u8, w_i16, Nat.reducePow]
        refine ⟨⟨g2.trans e1, g3.trans e2, g4.trans e3, g5.trans (by first | rfl | exact e4), g6.trans (by first | rfl | exact e5), i + 1, bl', tl', by omega, by omega, HB', HT', hne', hZ', htb', by omega, by omega, k2.trans k3⟩, by omega⟩
    · rw [if_neg (by simpa using hc)]
      simp only [SS, M_laws_FnLz4Sequences.k16, M_laws_FnLz4Sequences.r22, e1]
      refine token (low := 0) (hN.keepB hNB hk) (fun a h0 ha => by have := hNB a h0 ha; omega) (by omega) (by omega) fun w h2 HW o2 => ?_
      have s2 := o2.size
      have k2 := hk.trans (Keep.of_old o2)
      have tkl := tokn_len l 0
      have hwl := HW.len
      have hbn := HB.len
      have htn := HT.len
      obtain ⟨wb, wcs, hwp, hwB, hwk⟩ : ∃ wb wcs, w.p = some ⟨wb, 0, none⟩ ∧ h'.size ≤ wb ∧ Blk h2 wb wcs 5 := by
        rcases HW.mem with ⟨_, h0⟩ | ⟨b, cs, hp, hB, hk, _⟩
        · have := HW.cap
          have : (tokn l 0).length = 0 := by omega
          simp [tokn] at this
        · exact ⟨b, cs, hp, hB, hk⟩
      have hxb : ∀ {s : Sl} {l : List Int}, Own h.size h' .u8 5 s l → ¬ s.p = some ⟨wb, 0, none⟩ := fun HO hx => by have := HO.lt hx; omega
      refine Tri.appB (B := h.size) (xb := wb) (cs := wcs) (e := 5) ⟨HB.old o2, HT.old o2, hne, hwk, hxb HB, hxb HT⟩ k2.size HW.sl (by omega) fun pb cb h3 T3 k3 => ?_
      have k03 := k2.trans k3
      simp only [SS, M_laws_FnLz4Sequences.k17, M_laws_FnLz4Sequences.r23, e1]
      refine Tri.appT (sb := ⟨pb, s'.x_b.n + w.n, cb⟩) T3 k03.size (hN.keepB hNB k03) (by omega) fun pt ct h4 T4 k4 => ?_
      have k04 := k03.trans k4
      have s4 := k04.size
      simp only [SS, M_laws_FnLz4Sequences.k18, M_laws_FnLz4Sequences.r24, e2, e3]
      have hz := hZ.done hb
      have hbb : Bts (bl ++ tokn l 0) := hZ.1.app (tokn_bts hb (by omega))
      have htt : Bts (tl ++ l) := htb.app hb
      have tkl' : (bl ++ tokn l 0).length ≤ 65536 := by rw [List.length_append]; omega
      have hol : (tl ++ l).length ≤ 4194304 := by rw [List.length_append]; omega
      have hbelow : ∀ a, 0 < s'.x_b.n + w.n → pb = some a → a.block < h4.size := fun a _ ha => Own.below T4.b a ha
      have en : ((s'.x_text.n + N.n : Nat) : Int) = (tl ++ l).length := by rw [List.length_append]; omega
      have fin : ∀ (body : List Int) (last : Nat) (sw : Sl) (h5 : Heap) (st : M_laws_FnLz4Sequences.St), Own h4.size h5 .u8 5 sw body → GoesG true body (tl ++ l) last → (sn = true → GoesG false body (tl ++ l) last) → Bts body → body.length ≤ 2 ^ 21 → Old h4 h5 →
          st.x_out = sw → st.x_n = ((tl ++ l).length : Nat) → st.x_ok = true → st.x_snappy = sn → st.x_text = ⟨pt, s'.x_text.n + N.n, ct⟩ → M_laws_FnLz4Sequences.k19 st h5 (endK (M_laws_FnLz4Sequences.res fun b h' => b = true ∧ Old h h')) := by
        intro body last sw h5 st HW5 hg hgf hbb' hbl' o5 q1 q2 q3 q4 q5
        have k05 := k04.trans (Keep.of_old o5)
        have hT5 := T4.t.old o5
        simp only [SS, M_laws_FnLz4Sequences.k19, M_laws_FnLz4Sequences.k20, M_laws_FnLz4Sequences.k21, M_laws_FnLz4Sequences.k22, M_laws_FnLz4Sequences.res, M_laws_FnLz4Sequences.r25, M_laws_FnLz4Sequences.r26, M_laws_FnLz4Sequences.r27, M_laws_FnLz4Sequences.r28, M_laws_FnLz4Sequences.r29, M_laws_FnLz4Sequences.r30, M_laws_FnLz4Sequences.r31, q1, q2, q3, q4, q5, en]
        rw [if_pos (by simp), if_neg (by simp)]
        cases hsn : sn with
        | true =>
          rw [if_pos rfl]
          refine uvarint (n := (tl ++ l).length) (by omega) fun u h6 HU o6 => ?_
          have hvl := varB_len 10 (tl ++ l).length
          refine join HU.sl (HW5.old o6).sl (by omega) (by omega) fun w h7 HW7 o7 => ?_
          have hd := decd_of (hgf hsn) (by omega)
          refine SnappyDecode HW7.sl (fun a _ ha => Own.below HW7 a ha) (Byt.of_mem ((varB_bts _ _).app hbb')) (by rw [List.length_append]; omega) fun sl r h8 r1 r2 o8 => ?_
          rw [hd] at r1 r2
          simp only at r1 r2
          subst r1
          rw [if_pos (by simp)]
          have oo := (o6.trans o7).trans o8
          refine eq (r2 rfl) (hT5.old oo).sl (Byt.of_mem htt) (Byt.of_mem htt) (by omega) fun b hb5 => ?_
          exact ⟨hb5.2 rfl, Keep.old (k05.trans (Keep.of_old oo))⟩
        | false =>
          rw [if_neg (by simp)]
          refine s2back (HW5.mono (Nat.zero_le _)) hbb' hbl' hg (by omega) ((Fr.of_old (S := fun _ => False) (Keep.old k05)).cell (fun x => x) hE) hnE fun x h6 HX o6 => ?_
          rw [if_pos rfl]
          refine eq HX (hT5.old o6).sl (Byt.of_mem htt) (Byt.of_mem htt) (by omega) fun b hb5 => ?_
          exact ⟨hb5.2 rfl, Keep.old (k05.trans (Keep.of_old o6))⟩
      cases hsn : sn with
      | true =>
        refine convertSn (S := ⟨pb, s'.x_b.n + w.n, cb⟩) T4.b.sl hbelow hbb tkl' hz fun b body last h5 HB5 hg hbb' hbl' o5 => ?_
        exact fin body last b h5 _ HB5 (hg true) (fun _ => hg false) hbb' hbl' o5 rfl rfl rfl hsn.symm rfl
      | false =>
        refine convertS2 (S := ⟨pb, s'.x_b.n + w.n, cb⟩) T4.b.sl hbelow hbb tkl' hz fun b body last h5 HB5 hg hbb' hbl' o5 => ?_
        exact fin body last b h5 _ HB5 hg (fun h0 => by rw [hsn] at h0; cases h0) hbb' hbl' o5 rfl rfl rfl hsn.symm rfl
end Go.Proofs.YtibleenkgmkpmaaDoor

set_option linter.unusedSimpArgs false
set_option linter.unusedVariables false
set_option linter.unusedSectionVars false
namespace Go.Proofs.YtibleenkgmkpmaaDoor
open Go Go.Vc Go.Ml Go.S2 Go.ChangeShapes Go.WideShapes Go.ChangeAt Go.RowKit

section
variable {H : Type} {enc : TypeId × Value → H} {W : World} {sp : Nat → Bool} {held : Bool}

/-- A sequence's cells, opened. -/
theorem open_sq {fuel : Nat} {cs : List Value} {x : DataW H × List MemPlace} (h : DataW.trod enc Tryd.prog W 0 sp held fuel 58 cs = some x) :
    ∃ (back mat : Nat) (D : Sl) (l : List Int), cs = [.slice D.p D.n D.c, .int .u16 (back : Nat), .int .u16 (mat : Nat)] ∧ back < 65536 ∧ mat < 65536 ∧ SlI W.heap .u8 D l ∧ Bts l ∧ ∀ a, 0 < D.n → D.p = some a → a.block < W.heap.size := by
  obtain ⟨hl, hf⟩ := open_str (fs := #[{ name := "Lit", type := 22, offset := 0, embedded := false, tag := "", pkgPath := "", byteOffset := 0 }, { name := "Back", type := 56, offset := 1, embedded := false, tag := "", pkgPath := "", byteOffset := 24 }, { name := "Match", type := 56, offset := 2, embedded := false, tag := "", pkgPath := "", byteOffset := 26 }]) (by kernel_rfl) h
  have c22 : Tryd.prog.cellsOf 22 = 1 := by kernel_rfl
  have c56 : Tryd.prog.cellsOf 56 = 1 := by kernel_rfl
  have c58 : Tryd.prog.cellsOf 58 = 3 := by kernel_rfl
  rw [c58] at hl
  obtain ⟨m1, y1, h1⟩ : ∃ m y, DataW.trod enc Tryd.prog W 0 sp held m 22 ((cs.drop 0).take (Tryd.prog.cellsOf 22)) = some y := hf 0 _ rfl
  obtain ⟨m2, y2, h2⟩ : ∃ m y, DataW.trod enc Tryd.prog W 0 sp held m 56 ((cs.drop 1).take (Tryd.prog.cellsOf 56)) = some y := hf 1 _ rfl
  obtain ⟨m3, y3, h3⟩ : ∃ m y, DataW.trod enc Tryd.prog W 0 sp held m 56 ((cs.drop 2).take (Tryd.prog.cellsOf 56)) = some y := hf 2 _ rfl
  rw [c22] at h1
  rw [c56] at h2 h3
  obtain ⟨D, l, e1, hS, hw, _, hb⟩ := open_byt (k := .u8) (e := 5) (by kernel_rfl) (by kernel_rfl) (by kernel_rfl) h1
  obtain ⟨v2, e2, _, w2⟩ := DataW.trod_int (k := .u16) (by kernel_rfl) h2
  obtain ⟨v3, e3, _, w3⟩ := DataW.trod_int (k := .u16) (by kernel_rfl) h3
  obtain ⟨n2, rfl, q2⟩ := nat_of_wf rfl w2
  obtain ⟨n3, rfl, q3⟩ := nat_of_wf rfl w3
  have g1 := one_list e1
  have g2 := one_list e2
  have g3 := one_list e3
  refine ⟨n2, n3, D, l, ?_, q2, q3, hS, byt_of_wf hw, hb⟩
  apply List.ext_getElem?
  intro i
  rcases Nat.lt_or_ge i 3 with hi | hi
  · have : i = 0 ∨ i = 1 ∨ i = 2 := by omega
    rcases this with rfl | rfl | rfl
    · exact g1
    · exact g2
    · exact g3
  · rw [List.getElem?_eq_none (by omega), List.getElem?_eq_none (by simpa using hi)]

/-- A slice of sequences, opened. -/
theorem open_sqs {fuel : Nat} {cs : List Value} {x : DataW H × List MemPlace} (h : DataW.trod enc Tryd.prog W 0 sp held fuel 54 cs = some x) :
    ∃ (s : Sl) (ps : List Sq), cs = [.slice s.p s.n s.c] ∧ s.n ≤ s.c ∧ s.c ≤ maxLen ∧ Sqs W.heap.size W.heap s ps := by
  have c58 : Tryd.prog.cellsOf 58 = 3 := by kernel_rfl
  obtain ⟨s, rfl, hl, hm, hor⟩ := open_slc (e := 58) (by kernel_rfl) h
  rcases hor with ⟨h1, h2, h3⟩ | ⟨a, ha, hel⟩
  · exact ⟨s, [], rfl, hl, hm, h2.symm, fun h0 => by omega⟩
  · rw [c58] at hel
    have each : ∀ i, i < s.n → ∃ p : Sq, (∃ b o, a.add (i * 3) = ⟨b, o, none⟩ ∧ b < W.heap.size ∧ SqAt W.heap.size W.heap b o p) := by
      intro i hi
      obtain ⟨cs', y, m, h1, h2⟩ := hel i hi
      obtain ⟨back, mat, D, l, rfl, q2, q3, hS, hb, hlt⟩ := open_sq h2
      obtain ⟨_, hc⟩ := cells_at h1
      have k0 := hc 0 (by omega)
      obtain ⟨b, o, hbo, hb2⟩ := hcell_plain k0
      have k1 := hc 1 (by omega)
      have k2 := hc 2 (by omega)
      rw [hbo, add_mk] at k0 k1 k2
      exact ⟨⟨D, l, back, mat⟩, b, o, hbo, hb2, k0, k1, k2, hS, hb, hlt, q2, q3⟩
    have pick : ∃ f : Nat → Sq, ∀ i, i < s.n → ∃ b o, a.add (i * 3) = ⟨b, o, none⟩ ∧ b < W.heap.size ∧ SqAt W.heap.size W.heap b o (f i) := by
      refine ⟨fun i => if hi : i < s.n then Classical.choose (each i hi) else ⟨⟨none, 0, 0⟩, [], 0, 0⟩, fun i hi => ?_⟩
      simp only [hi, dif_pos]
      exact Classical.choose_spec (each i hi)
    obtain ⟨f, hf⟩ := pick
    refine ⟨s, (List.range s.n).map f, rfl, hl, hm, by simp, fun h0 => ?_⟩
    obtain ⟨b, o, hbo, hb, _⟩ := hf 0 h0
    have ea : a = ⟨b, o, none⟩ := by simpa [Addr.add] using hbo
    subst ea
    refine ⟨b, o, ha, hb, fun i hi => ?_⟩
    have hi' : i < s.n := by simpa using hi
    obtain ⟨b', o', hbo', _, P⟩ := hf i hi'
    rw [add_mk] at hbo'
    simp only [Addr.mk.injEq] at hbo'
    obtain ⟨rfl, rfl, _⟩ := hbo'
    simpa using P
end
end Go.Proofs.YtibleenkgmkpmaaDoor
