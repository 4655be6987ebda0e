/- A part of the proof. -/
import Derived.Test.YtibleenkgmkpmaaDoorS2y
import Derived.Test.YtibleenkgmkpmaaDoorModels2
set_option linter.unusedSimpArgs false
set_option linter.unusedVariables false
set_option linter.unusedSectionVars false
namespace Go.Proofs.YtibleenkgmkpmaaDoor
open Go Go.Vc Go.Ml Go.S2

section
variable {B : Nat} {h : Heap} {S : Sl} {ps : List Pc}

/-- What spec.S2Write makes. -/
structure Written (B : Nat) (h : Heap) (sb so : Sl) (body out : List Int) : Prop where
  b : SlI h .u8 sb (varB 10 out.length ++ body)
  o : SlI h .u8 so out
  bb : Bts body
  bo : Bts out
  goes : dec body true out.length 0 [] 0 = some out
  lb : body.length ≤ 24000
  lo : out.length ≤ 3960000
  below : ∀ a, sb.p = some a → a.block < h.size
  g : ∃ last, Goes body out last
  newb : ∀ a, sb.p = some a → B ≤ a.block
  newo : ∀ a, so.p = some a → B ≤ a.block ∧ a.block < h.size

set_option maxHeartbeats 1000000 in
theorem S2Write {rep : Bool} (H : Pcs B h S ps) (hB : B ≤ h.size) (hn : ps.length ≤ 60) (h300 : ∀ p ∈ ps, p.bytes.length ≤ 300) {K : Sl → Sl → Heap → Prop}
    (hK : ∀ sb so body out h', Written B h' sb so body out → Keep B h h' → K sb so h') : c_spec_S2Write S ⟨none, 0, 0⟩ 0 rep h K := by
  have hl := H.len
  apply M_spec_S2Write.calls
  simp only [st_reg, st_ret, st_exit, st_skip, st_test, st_block, st_cond, sq_reg, sq_ret, sq_exit, sq_skip, sq_test, sq_cond, sq_block, sq_seq, sq_loop, SK_norm, SK_exit, SK_ret, BK_norm, BK_ret, BK_same, BK_exit, LK_norm, LK_exit, LK_ret, endK_norm, endK_ret, M_spec_S2Write.stm, M_spec_S2Write.init, M_spec_S2Write.r0, M_spec_S2Write.r1, M_spec_S2Write.r2, M_spec_S2Write.k0, M_spec_S2Write.k1, M_spec_S2Write.k2, M_spec_S2Write.k3, M_spec_S2Write.r5, withH_eq, ptrE_some, add_mk, Nat.zero_add, Nat.add_zero]
  rw [if_neg (by simp)]
  have o1 := Old.new h [.slice none 0 0, .slice none 0 0, .slice none 0 0, .int .i64 (0 : Int), .bool false] 77
  have W1 : Wri B (hnew h [.slice none 0 0, .slice none 0 0, .slice none 0 0, .int .i64 (0 : Int), .bool false] 77) h.size [] [] 0 :=
    ⟨hB, none, 0, 0, none, 0, 0, Blk.new _ _ _, Own.nil _ _ _ _, Own.nil _ _ _ _, by simp, by simp, by simp⟩
  generalize hnew h [.slice none 0 0, .slice none 0 0, .slice none 0 0, .int .i64 (0 : Int), .bool false] 77 = h1 at *
  refine loop_rule (I := fun s' h' => s'.x_l = S ∧ s'.x_w = some ⟨h.size, 0, none⟩ ∧ s'.x_repeats = rep ∧ ∃ (i : Nat) (body out : List Int) (last : Nat), s'.x_i = i ∧ i ≤ ps.length ∧ Wri B h' h.size body out last ∧ Keep B h h' ∧ Goes body out last ∧ Bts body ∧ Bts out ∧ body.length ≤ 400 * i ∧ out.length ≤ 66000 * i) (μ := fun s' _ => (ps.length - s'.x_i).toNat) ?_ ?_
  · exact ⟨rfl, rfl, rfl, 0, [], [], 0, rfl, by omega, W1, Keep.of_old o1, Goes.nil, fun x hx => by (cases hx), fun x hx => by (cases hx), by simp, by simp⟩
  · rintro s' h' ⟨e0, e1, e2, i, body, out, last, e3, hi, W, hk, hg, hbb, hbo, hlb, hlo⟩
    have hs := hk.size
    simp only [st_reg, st_ret, st_exit, st_skip, st_test, st_block, st_cond, sq_reg, sq_ret, sq_exit, sq_skip, sq_test, sq_cond, sq_block, sq_seq, sq_loop, SK_norm, SK_exit, SK_ret, BK_norm, BK_ret, BK_same, BK_exit, LK_norm, LK_exit, LK_ret, endK_norm, endK_ret, M_spec_S2Write.k4, M_spec_S2Write.r6, e0, e1, e2, e3]
    by_cases hc : (i : Int) < S.n
    · rw [if_pos (by simpa using hc)]
      simp only [st_reg, st_ret, st_exit, st_skip, st_test, st_block, st_cond, sq_reg, sq_ret, sq_exit, sq_skip, sq_test, sq_cond, sq_block, sq_seq, sq_loop, SK_norm, SK_exit, SK_ret, BK_norm, BK_ret, BK_same, BK_exit, LK_norm, LK_exit, LK_ret, endK_norm, endK_ret, M_spec_S2Write.k5, M_spec_S2Write.r8, e0, e1, e2, e3]
      refine (H.keep hk).ld (i := i) (by omega) fun b o h2 P hb o2 => ?_
      have hpi : (ps[i]'(by omega)).bytes.length ≤ 300 := h300 _ (List.getElem_mem _)
      generalize ps[i]'(by omega) = p at *
      have hs2 := o2.size
      have W2 := W.old o2
      have hk2 := hk.trans (Keep.of_old o2)
      have D2 := P.sl.ext o2.ext
      -- behind a piece
      have next : ∀ h3 body' out' last', Wri B h3 h.size body' out' last' → Next body out last body' out' last' → Keep B h2 h3 → ∀ st : M_spec_S2Write.St, st.x_l = S → st.x_w = some ⟨h.size, 0, none⟩ → st.x_repeats = rep → st.x_i = i →
          M_spec_S2Write.r7 st h3 fun s' h' => (s'.x_l = S ∧ s'.x_w = some ⟨h.size, 0, none⟩ ∧ s'.x_repeats = rep ∧ ∃ (i : Nat) (body out : List Int) (last : Nat), s'.x_i = i ∧ i ≤ ps.length ∧ Wri B h' h.size body out last ∧ Keep B h h' ∧ Goes body out last ∧ Bts body ∧ Bts out ∧ body.length ≤ 400 * i ∧ out.length ≤ 66000 * i) ∧ ((ps.length : Int) - s'.x_i).toNat < ((ps.length : Int) - i).toNat := by
        intro h3 body' out' last' W3 N3 hk3 st f1 f2 f3 f4
        simp only [M_spec_S2Write.r7, f1, f2, f3, f4]
        simp (disch := omega) only [w_i64, w_u64, w_i32, w_u32, w_u16, w_u8, w_i16, Nat.reducePow]
        have := N3.len
        have := N3.most
        exact ⟨⟨trivial, trivial, trivial, i + 1, body', out', last', by omega, by omega, W3, hk2.trans hk3, N3.goes hg, N3.bb hbb, N3.bo hbo, by omega, by omega⟩, by omega⟩
      simp only [st_reg, st_ret, st_exit, st_skip, st_test, st_block, st_cond, sq_reg, sq_ret, sq_exit, sq_skip, sq_test, sq_cond, sq_block, sq_seq, sq_loop, SK_norm, SK_exit, SK_ret, BK_norm, BK_ret, BK_same, BK_exit, LK_norm, LK_exit, LK_ret, endK_norm, endK_ret, M_spec_S2Write.k6, M_spec_S2Write.r9, withH_eq, ptrE_some, add_mk, Nat.zero_add, Nat.add_zero]
      refine ⟨_, hb.get rfl, ?_⟩
      have et : Int.tmod ((p.kind : Nat) : Int) 5 = ((p.kind % 5 : Nat) : Int) := rfl
      rw [et]
      simp only [st_reg, st_ret, st_exit, st_skip, st_test, st_block, st_cond, sq_reg, sq_ret, sq_exit, sq_skip, sq_test, sq_cond, sq_block, sq_seq, sq_loop, SK_norm, SK_exit, SK_ret, BK_norm, BK_ret, BK_same, BK_exit, LK_norm, LK_exit, LK_ret, endK_norm, endK_ret, M_spec_S2Write.k7, M_spec_S2Write.r10, M_spec_S2Write.k8, M_spec_S2Write.r12, M_spec_S2Write.k9, M_spec_S2Write.r14, M_spec_S2Write.k10, M_spec_S2Write.r16, M_spec_S2Write.k11, M_spec_S2Write.r18, M_spec_S2Write.k12, M_spec_S2Write.r19, M_spec_S2Write.r11, M_spec_S2Write.r13, M_spec_S2Write.r15, M_spec_S2Write.r17, M_spec_S2Write.r20, e0, e1, e2, e3, withH_eq, ptrE_some, add_mk, Nat.zero_add, Nat.add_zero]
      by_cases k0 : p.kind % 5 = 0
      · rw [if_pos (by simp [k0])]
        refine ⟨_, _, _, hb.get rfl, _, hb.get rfl, ?_⟩
        exact literal W2 (by omega) D2 P.below P.bts hpi P.l32 (by omega) (by omega) fun h3 body' out' last' W3 N3 hk3 => next h3 _ _ _ W3 N3 hk3 _ rfl rfl rfl rfl
      rw [if_neg (by simp; omega)]
      by_cases k1 : p.kind % 5 = 1
      · rw [if_pos (by simp [k1])]
        refine ⟨_, hb.get rfl, _, _, _, hb.get rfl, _, hb.get rfl, _, hb.get rfl, ?_⟩
        exact copy (k := 1) W2 (by omega) (by omega) P.o32 P.l32 (by omega) (by omega) fun h3 body' out' last' W3 N3 hk3 => next h3 _ _ _ W3 N3 hk3 _ rfl rfl rfl rfl
      rw [if_neg (by simp; omega)]
      by_cases k2 : p.kind % 5 = 2
      · rw [if_pos (by simp [k2])]
        refine ⟨_, hb.get rfl, _, _, _, hb.get rfl, _, hb.get rfl, _, hb.get rfl, ?_⟩
        exact copy (k := 2) W2 (by omega) (by omega) P.o32 P.l32 (by omega) (by omega) fun h3 body' out' last' W3 N3 hk3 => next h3 _ _ _ W3 N3 hk3 _ rfl rfl rfl rfl
      rw [if_neg (by simp; omega)]
      by_cases k3 : p.kind % 5 = 3
      · rw [if_pos (by simp [k3])]
        refine ⟨_, hb.get rfl, _, _, _, hb.get rfl, _, hb.get rfl, _, hb.get rfl, ?_⟩
        exact copy (k := 4) W2 (by omega) (by omega) P.o32 P.l32 (by omega) (by omega) fun h3 body' out' last' W3 N3 hk3 => next h3 _ _ _ W3 N3 hk3 _ rfl rfl rfl rfl
      rw [if_neg (by simp; omega), if_pos (by simp; omega)]
      by_cases hr : rep = true
      · rw [if_pos hr]
        refine ⟨_, hb.get rfl, _, _, _, hb.get rfl, _, hb.get rfl, _, hb.get rfl, ?_⟩
        exact repeatW W2 (by omega) P.o32 P.l32 (by omega) (by omega) fun h3 body' out' last' W3 N3 hk3 => next h3 _ _ _ W3 N3 hk3 _ rfl rfl rfl rfl
      · rw [if_neg hr]
        exact next h2 _ _ _ W2 (Next.refl _ _ _) (Keep.refl _ _) _ rfl rfl rfl rfl
    · rw [if_neg (by simpa using hc)]
      have hN : out.length < 2 ^ 32 := by omega
      obtain ⟨hgw, pb, nb, cb, po, no, co, hbk, O1, O2, n1, n2, n3⟩ := W
      have hno : out.length = no := O2.len
      have hnb : body.length = nb := O1.len
      have hwl := hbk.lt
      simp only [st_reg, st_ret, st_exit, st_skip, st_test, st_block, st_cond, sq_reg, sq_ret, sq_exit, sq_skip, sq_test, sq_cond, sq_block, sq_seq, sq_loop, SK_norm, SK_exit, SK_ret, BK_norm, BK_ret, BK_same, BK_exit, LK_norm, LK_exit, LK_ret, endK_norm, endK_ret, M_spec_S2Write.r21, M_spec_S2Write.res, e1, withH_eq, ptrE_some, add_mk, Nat.zero_add, Nat.add_zero]
      have fin : ∀ (h7 : Heap) (w8 : Sl), Own h'.size h7 .u8 5 w8 (varB 10 no) → Old h' h7 → ∀ Q : Option Addr → Nat → Nat → Heap → Prop, (∀ p n c hh, hcell hh ⟨h.size, 1, none⟩ = some (.slice po no co) → K ⟨p, n, c⟩ ⟨po, no, co⟩ hh → Q p n c hh) → appendT Pg 5 w8.p w8.n w8.c (.slice pb nb cb) nb h7 Q := by
        intro h7 w8 HO o7 Q hQ
        have hs7 := o7.size
        have hwn := HO.len
        have hvl := varB_len 10 no
        refine append_own (s := w8) (news := body) HO ts5 tb5 z5 hnb ?_ (by omega) (by omega) fun p' c' h8 HO8 HF8 HW8 => ?_
        · have := src_sl (O1.old o7).sl (m := nb) (Nat.le_refl _) (n := nb) (c := cb)
          rwa [List.take_of_length_le (by omega)] at this
        have hk8 : Old h' h8 := Keep.old ((Keep.of_old o7).trans (HO.keep HF8))
        refine hQ _ _ _ _ ((hk8.Blk hbk).get rfl) ?_
        refine hK _ _ body out h8 ⟨by rw [hno]; exact HO8.sl, (O2.old hk8).sl, hbb, hbo, hg.done, by omega, by omega, ?_, ⟨_, hg⟩, ?_, ?_⟩ (hk.trans (Keep.of_old hk8))
        all_goals intro a ha
        · rcases HO8.mem with ⟨h0, _⟩ | ⟨b', cs, hp', _, hbk', _⟩
          · simp only at h0 ha; rw [h0] at ha; cases ha
          · simp only at hp' ha
            rw [ha] at hp'
            obtain rfl := Option.some.inj hp'
            exact hbk'.lt
        · rcases HO8.mem with ⟨h0, _⟩ | ⟨b', cs, hp', hge, hbk', _⟩
          · simp only at h0 ha; rw [h0] at ha; cases ha
          · simp only at hp' ha
            rw [ha] at hp'
            obtain rfl := Option.some.inj hp'
            simp only; omega
        · have hs8 := hk8.size
          rcases O2.mem with ⟨h0, _⟩ | ⟨b', cs, hp', hge, hbk', _⟩
          · simp only at h0 ha; rw [h0] at ha; cases ha
          · simp only at hp' ha
            rw [ha] at hp'
            obtain rfl := Option.some.inj hp'
            have := hbk'.lt
            simp only; omega
      have gb : hcell h' ⟨h.size, 0, none⟩ = some (.slice pb nb cb) := hbk.get rfl
      have go : hcell h' ⟨h.size, 1, none⟩ = some (.slice po no co) := hbk.get rfl
      have gb' : ∀ {h7}, Old h' h7 → hcell h7 ⟨h.size, 0, none⟩ = some (.slice pb nb cb) := fun o => (o.Blk hbk).get rfl
      have go' : ∀ {h7}, Old h' h7 → hcell h7 ⟨h.size, 1, none⟩ = some (.slice po no co) := fun o => (o.Blk hbk).get rfl
      have hN' : no < 2 ^ 32 := by omega
      refine ⟨po, no, co, go, ?_, ?_, ?_⟩
      · refine varint hN' fun w8 h7 HO o7 => ⟨pb, nb, cb, gb' o7, ?_, ?_⟩
        · exact fin h7 w8 HO o7 _ fun p n c hh hc hk => ⟨po, no, co, hc, hk⟩
        · exact ⟨po, no, co, go' o7, fin h7 w8 HO o7 _ fun p n c hh hc hk => hk⟩
      · refine ⟨pb, nb, cb, gb, ?_, ?_⟩
        · refine varint hN' fun w8 h7 HO o7 => ⟨?_, ?_⟩
          · exact fin h7 w8 HO o7 _ fun p n c hh hc hk => ⟨po, no, co, hc, hk⟩
          · exact ⟨po, no, co, go' o7, fin h7 w8 HO o7 _ fun p n c hh hc hk => hk⟩
        · exact ⟨po, no, co, go, varint hN' fun w8 h7 HO o7 => fin h7 w8 HO o7 _ fun p n c hh hc hk => hk⟩
      · refine ⟨po, no, co, go, ?_, ?_⟩
        · exact varint hN' fun w8 h7 HO o7 => ⟨pb, nb, cb, gb' o7, fin h7 w8 HO o7 _ fun p n c hh hc hk => hk⟩
        · exact ⟨pb, nb, cb, gb, varint hN' fun w8 h7 HO o7 => fin h7 w8 HO o7 _ fun p n c hh hc hk => hk⟩

theorem BlockDecode {S : Sl} {l : List Int} {N : Nat} {h : Heap} (hS : SlI h .u8 S l) (hb : Byt l) (hl : l.length < 2 ^ 36) (hN : N < 2 ^ 36) (hsB : ∀ a, 0 < S.n → S.p = some a → a.block < h.size) {K : Sl → Int → Heap → Prop}
    (hok : ∀ out, dec l true N 0 [] 0 = some out → ∀ sl h', SlI h' .u8 sl out → Old h h' → K sl 0 h') (hbad : dec l true N 0 [] 0 = none → ∀ sl h', Old h h' → K sl 1 h') : c_impl_S2BlockDecode N S h K := by
  apply M_impl_S2BlockDecode.calls
  simp only [st_reg, st_ret, st_exit, st_skip, st_test, st_block, st_cond, sq_reg, sq_ret, sq_exit, sq_skip, sq_test, sq_cond, sq_block, sq_seq, sq_loop, SK_norm, SK_exit, SK_ret, BK_norm, BK_ret, BK_same, BK_exit, LK_norm, LK_exit, LK_ret, endK_norm, endK_ret, M_impl_S2BlockDecode.k1, M_impl_S2BlockDecode.k0, M_impl_S2BlockDecode.stm, M_impl_S2BlockDecode.r0, M_impl_S2BlockDecode.r1, M_impl_S2BlockDecode.r2, M_impl_S2BlockDecode.r3, M_impl_S2BlockDecode.init, M_impl_S2BlockDecode.res]
  refine mkT_one (z := .int .u8 0) (by omega) ts5 tb5 (by kernel_rfl) ?_
  have o1 := Old.new h (List.replicate N (.int .u8 0)) 5
  have hb1 := Blk.new h (List.replicate N (.int .u8 0)) 5
  generalize hnew h (List.replicate N (.int .u8 0)) 5 = h1 at *
  apply M_ZzDecode.calls
  simp only [st_reg, st_ret, st_exit, st_skip, st_test, st_block, st_cond, sq_reg, sq_ret, sq_exit, sq_skip, sq_test, sq_cond, sq_block, sq_seq, sq_loop, SK_norm, SK_exit, SK_ret, BK_norm, BK_ret, BK_same, BK_exit, LK_norm, LK_exit, LK_ret, endK_norm, endK_ret, M_ZzDecode.stm, M_ZzDecode.r0, M_ZzDecode.r1, M_ZzDecode.init, M_ZzDecode.res]
  refine s2Decode (db := h.size) (Nat.le_refl _) (fun _ => rfl) (hS.ext o1.ext) hb (fun a h0 ha => by have := hsB a h0 ha; omega) hN hl ⟨List.replicate N 0, fun _ => by rw [List.map_replicate]; exact hb1, by simp⟩ ?_ ?_
  · intro hd h2 F
    exact hbad hd _ h2 (Keep.old ((Keep.of_old o1).trans (Keep.of_fr F (Nat.le_refl _))))
  · intro out hd h2 hlen HB F
    refine hok out hd _ h2 ⟨hlen, Nat.le_refl _, fun h0 => ?_⟩ (Keep.old ((Keep.of_old o1).trans (Keep.of_fr F (Nat.le_refl _))))
    refine ⟨h.size, 0, rfl, fun j hj => ?_⟩
    rw [Nat.zero_add, (HB h0).cell, List.getElem?_map, List.getElem?_eq_getElem hj, List.getD_eq_getElem?_getD, List.getElem?_eq_getElem hj]; rfl

theorem law_S2Any {rep : Bool} {h : Heap} (H : Pcs h.size h S ps) {E : Value} (hE : hcell h ⟨0, 0, none⟩ = some E) (hnE : isNilI E = some false) : c_laws_FnS2Any S rep h fun b h' => b = true ∧ Old h h' := by
  apply M_laws_FnS2Any.calls
  simp only [st_reg, st_ret, st_exit, st_skip, st_test, st_block, st_cond, sq_reg, sq_ret, sq_exit, sq_skip, sq_test, sq_cond, sq_block, sq_seq, sq_loop, SK_norm, SK_exit, SK_ret, BK_norm, BK_ret, BK_same, BK_exit, LK_norm, LK_exit, LK_ret, endK_norm, endK_ret, M_laws_FnS2Any.stm, M_laws_FnS2Any.k0, M_laws_FnS2Any.k1, M_laws_FnS2Any.init, M_laws_FnS2Any.res, M_laws_FnS2Any.r0, M_laws_FnS2Any.r1, M_laws_FnS2Any.r2, M_laws_FnS2Any.r3, M_laws_FnS2Any.r4]
  refine zzFits1 H (Nat.le_refl _) fun b h1 hb1 k1 => ?_
  cases b with
  | false => rw [if_pos (by simp)]; exact ⟨trivial, Keep.old k1⟩
  | true =>
  rw [if_neg (by simp)]
  have s1 := k1.size
  refine pieces (H.keep k1) s1 (hb1 rfl) fun b h2 hb2 k2 => ?_
  have k2' := k1.trans k2
  cases b with
  | false => rw [if_pos (by simp)]; exact ⟨trivial, Keep.old k2'⟩
  | true =>
  rw [if_neg (by simp)]
  have s2 := k2'.size
  simp only [st_reg, st_ret, st_exit, st_skip, st_test, st_block, st_cond, sq_reg, sq_ret, sq_exit, sq_skip, sq_test, sq_cond, sq_block, sq_seq, sq_loop, SK_norm, SK_exit, SK_ret, BK_norm, BK_ret, BK_same, BK_exit, LK_norm, LK_exit, LK_ret, endK_norm, endK_ret, M_laws_FnS2Any.k2, M_laws_FnS2Any.k3, M_laws_FnS2Any.k4, M_laws_FnS2Any.res, M_laws_FnS2Any.r5, M_laws_FnS2Any.r6, M_laws_FnS2Any.r7, M_laws_FnS2Any.r8]
  refine S2Write (H.keep k2') s2 (hb2 rfl).1 (hb2 rfl).2 fun sb so body out h3 W k3 => ?_
  have k3' := k2'.trans k3
  have s3 := k3'.size
  have hso := W.o.len
  rw [hso]
  by_cases hbig : (out.length : Int) > 1048576
  · rw [if_pos (by simpa using hbig)]; exact ⟨trivial, Keep.old k3'⟩
  rw [if_neg (by simpa using hbig)]
  have hv := s2len_varB (n := out.length) (by omega) body
  have hvl := varB_len 10 out.length
  have hsaid : said (varB 10 out.length ++ body) = some out := by
    unfold said
    rw [dlen_yes (by rw [hv]), hv]
    simp only
    rw [← dec_drop (by simp), List.drop_append_of_le_length (Nat.le_refl _), List.drop_of_length_le (Nat.le_refl _), List.nil_append]
    exact W.goes
  have hbyt : Byt (varB 10 out.length ++ body) := Byt.of_mem ((varB_bts _ _).app W.bb)
  have hlb := W.lb
  have hE3 : hcell h3 ⟨0, 0, none⟩ = some E := (Fr.of_old (S := fun _ => False) (Keep.old k3')).cell (fun x => x) hE
  refine implDecode W.b (fun a _ ha => W.below a ha) hbyt (by simp; omega) hE3 hnE fun sl b h4 hb4 hs4 o4 => ?_
  have hbt : b = true := by rw [hb4, hsaid]; rfl
  subst hbt
  have k4 := k3'.trans (Keep.of_old o4)
  have s4 := k4.size
  simp only [st_reg, st_ret, st_exit, st_skip, st_test, st_block, st_cond, sq_reg, sq_ret, sq_exit, sq_skip, sq_test, sq_cond, sq_block, sq_seq, sq_loop, SK_norm, SK_exit, SK_ret, BK_norm, BK_ret, BK_same, BK_exit, LK_norm, LK_exit, LK_ret, endK_norm, endK_ret, M_laws_FnS2Any.k5, M_laws_FnS2Any.res, M_laws_FnS2Any.r9, M_laws_FnS2Any.r10, hso]
  rw [if_pos (by simp)]
  refine eq (hs4 _ hsaid) (W.o.ext o4.ext) (Byt.of_mem W.bo) (Byt.of_mem W.bo) (by omega) fun b hb5 => ?_
  rw [hb5.2 rfl, if_neg (by simp)]
  simp only [st_reg, st_ret, st_exit, st_skip, st_test, st_block, st_cond, sq_reg, sq_ret, sq_exit, sq_skip, sq_test, sq_cond, sq_block, sq_seq, sq_loop, SK_norm, SK_exit, SK_ret, BK_norm, BK_ret, BK_same, BK_exit, LK_norm, LK_exit, LK_ret, endK_norm, endK_ret, M_laws_FnS2Any.k6, M_laws_FnS2Any.k7, M_laws_FnS2Any.k8, M_laws_FnS2Any.res, M_laws_FnS2Any.r11, M_laws_FnS2Any.r12, M_laws_FnS2Any.r13, M_laws_FnS2Any.r14, M_laws_FnS2Any.r15, hso]
  refine S2Len (W.b.ext o4.ext) hbyt (by simp; omega) fun n u o hs => ?_
  rw [hv] at hs
  simp only [Prod.mk.injEq] at hs
  obtain ⟨rfl, rfl, rfl⟩ := hs
  by_cases h0 : out.length = 0
  · rw [if_neg (by simp [h0]), if_pos trivial]; exact ⟨trivial, Keep.old k4⟩
  rw [if_pos (by rw [beq_eq_false_iff_ne]; omega)]
  by_cases h18 : (out.length : Int) > 262144
  · rw [if_pos (by simpa using h18)]; exact ⟨trivial, Keep.old k4⟩
  rw [if_neg (by simpa using h18)]
  have hbl := W.b.len
  refine ⟨by omega, by rw [hbl]; simp; omega, ?_⟩
  rw [Int.toNat_natCast]
  have hsub := (W.b.ext o4.ext).from (i := (varB 10 out.length).length) (by rw [hbl]; simp)
  rw [List.drop_append_of_le_length (Nat.le_refl _), List.drop_of_length_le (Nat.le_refl _), List.nil_append] at hsub
  refine BlockDecode hsub (Byt.of_mem W.bb) (by omega) (by omega) ?_ ?_ ?_
  · intro a h0 ha
    have hs4' := o4.size
    unfold subP at ha
    cases hp : sb.p with
    | none => rw [hp] at ha; split at ha <;> cases ha
    | some a0 =>
      have := W.below a0 hp
      rw [hp] at ha
      have hbl : a.block = a0.block := by
        split at ha
        · obtain rfl := Option.some.inj ha; rfl
        · obtain rfl := Option.some.inj ha
          unfold Addr.add; split <;> rfl
      omega
  · intro out' hd sl' h5 hs5 o5
    rw [W.goes] at hd
    obtain rfl := Option.some.inj hd
    rw [if_pos (by simp)]
    refine eq hs5 (W.o.ext (o4.trans o5).ext) (Byt.of_mem W.bo) (Byt.of_mem W.bo) (by omega) fun b hb6 => ?_
    exact ⟨hb6.2 rfl, Keep.old (k4.trans (Keep.of_old o5))⟩
  · intro hd
    rw [W.goes] at hd; cases hd
end
end Go.Proofs.YtibleenkgmkpmaaDoor
