/- A part of the proof. -/
import Derived.Test.YtibleenkgmkpmaaDoorS2j
set_option linter.unusedSimpArgs false
set_option linter.unusedVariables false
set_option linter.unusedSectionVars false
namespace Go.Proofs.YtibleenkgmkpmaaDoor
open Go Go.Vc Go.Ml Go.S2

section
variable {S : Sl} {l : List Int} {h : Heap}

theorem decd_def {l : List Int} {s2 : Bool} {n u o : Nat} (hs : s2len l = (n, u, o)) : decd l s2 = if o = 0 then ([], 0) else if 4194304 < n then ([], 2) else match dec l s2 n u [] 0 with
      | none => ([], 0)
      | some out => if o = 2 then ([], 2) else (out, 1) := by
  unfold decd
  rw [hs]
  rfl

theorem decd_yes {l : List Int} {s2 : Bool} (h : (decd l s2).2 = 1) : ∃ n u : Nat, s2len l = (n, u, 1) ∧ dec l s2 n u [] 0 = some (decd l s2).1 ∧ n ≤ 4194304 := by
  obtain ⟨n, u, o, hs⟩ : ∃ n u o, s2len l = (n, u, o) := ⟨_, _, _, rfl⟩
  have hok := slen_ok l 10 0 0
  have hs' : slen l 10 0 0 = (n, u, o) := hs
  rw [hs'] at hok
  simp only at hok
  rw [decd_def hs] at h ⊢
  by_cases h0 : o = 0
  · rw [if_pos h0] at h; simp at h
  rw [if_neg h0] at h ⊢
  by_cases h1 : 4194304 < n
  · rw [if_pos h1] at h; simp at h
  rw [if_neg h1] at h ⊢
  cases hd : dec l s2 n u [] 0 with
  | none => rw [hd] at h; simp at h
  | some out =>
    rw [hd] at h
    simp only at h ⊢
    by_cases h2 : o = 2
    · rw [if_pos h2] at h; simp at h
    · rw [if_neg h2]
      obtain rfl : o = 1 := by omega
      exact ⟨n, u, hs, hd, by omega⟩

theorem decoded {s2 : Bool} {B sb : Nat} {e : TypeId} {rest : Nat → Option Value} (hS : SlI h .u8 S l) (hsB : ∀ a, 0 < S.n → S.p = some a → a.block < B) (hb : Byt l) (hl : l.length < 2 ^ 36) (hB : B ≤ h.size) (H : Sta B h sb 0 e rest [] 0) {K : Sl → Int → Heap → Prop}
    (hK : ∀ (sl : Sl) (r : Nat) (h' : Heap), r = (decd l s2).2 → (r = 1 → SlI h' .u8 sl (decd l s2).1) → Keep B h h' → K sl r h') : c_spec_decoded S (some ⟨sb, 0, none⟩) s2 h K := by
  apply M_spec_decoded.calls
  simp only [st_reg, st_ret, st_exit, st_skip, st_test, st_block, st_cond, sq_reg, sq_ret, sq_exit, sq_skip, sq_test, sq_cond, sq_block, sq_seq, sq_loop, SK_norm, SK_exit, SK_ret, BK_norm, BK_ret, BK_same, BK_exit, LK_norm, LK_exit, LK_ret, endK_norm, endK_ret, M_spec_decoded.stm, M_spec_decoded.k0, M_spec_decoded.k1, M_spec_decoded.k2, M_spec_decoded.k3, M_spec_decoded.k4, M_spec_decoded.k5, M_spec_decoded.init, M_spec_decoded.res, M_spec_decoded.r0, M_spec_decoded.r1, M_spec_decoded.r2, M_spec_decoded.r3, M_spec_decoded.r4, M_spec_decoded.r5, M_spec_decoded.r6, M_spec_decoded.r7, M_spec_decoded.r8, M_spec_decoded.r9, M_spec_decoded.r10, M_spec_decoded.r11]
  refine S2Len hS hb hl fun n u o hs => ?_
  have hok := slen_ok l 10 0 0
  have hs' : slen l 10 0 0 = (n, u, o) := hs
  rw [hs'] at hok
  simp only at hok
  rw [decd_def hs] at hK
  by_cases h0 : o = 0
  · rw [if_pos (by simp [h0])]
    rw [if_pos h0] at hK
    exact hK _ 0 h rfl (fun h => by cases h) (Keep.refl _ _)
  rw [if_neg h0] at hK
  rw [if_neg (by simp <;> omega)]
  by_cases h1 : 4194304 < n
  · rw [if_pos (by simp <;> omega)]
    rw [if_pos h1] at hK
    exact hK _ 2 h rfl (fun h => by cases h) (Keep.refl _ _)
  rw [if_neg h1] at hK
  rw [if_neg (by simp <;> omega)]
  refine elements (i := u) (N := n) (s2 := s2) hS hsB hb hl (by omega) hB H (by simp) (by omega) rfl rfl (by decide) ?_ ?_
  · intro hd h' hk
    rw [hd] at hK
    simp only at hK
    rw [if_pos (by simp)]
    exact hK _ 0 h' rfl (fun h => by cases h) hk
  · intro res hd h' last' HS hk
    rw [hd] at hK
    simp only at hK
    rw [if_neg (by simp), if_pos (by simp)]
    by_cases h2 : o = 2
    · rw [if_pos (by simp [h2])]
      rw [if_pos h2] at hK
      exact hK _ 2 h' rfl (fun h => by cases h) hk
    · rw [if_neg (by simp <;> omega)]
      rw [if_neg h2] at hK
      obtain ⟨hg, cs, p, n', c, hbk, c0, _, _, _, _, hO, _⟩ := HS
      refine ⟨p, n', c, hbk.get c0, ?_⟩
      exact hK _ 1 h' rfl (fun _ => hO.sl) hk

theorem S2Decode (hS : SlI h .u8 S l) (hsB : ∀ a, 0 < S.n → S.p = some a → a.block < h.size) (hb : Byt l) (hl : l.length < 2 ^ 36) {K : Sl → Int → Heap → Prop}
    (hK : ∀ (sl : Sl) (r : Nat) (h' : Heap), r = (decd l true).2 → (r = 1 → SlI h' .u8 sl (decd l true).1) → Old h h' → K sl r h') : c_spec_S2Decode S h K := by
  apply M_spec_S2Decode.calls
  simp only [st_reg, st_ret, st_exit, st_skip, st_test, st_block, st_cond, sq_reg, sq_ret, sq_exit, sq_skip, sq_test, sq_cond, sq_block, sq_seq, sq_loop, SK_norm, SK_exit, SK_ret, BK_norm, BK_ret, BK_same, BK_exit, LK_norm, LK_exit, LK_ret, endK_norm, endK_ret, M_spec_S2Decode.stm, M_spec_S2Decode.r0, M_spec_S2Decode.r1, M_spec_S2Decode.init, M_spec_S2Decode.res, withH_eq, ptrE_some, add_mk, Nat.zero_add, Nat.add_zero]
  have o1 := Old.new h [.slice none 0 0, .slice none 0 0, .int .i64 (0 : Int), .bool false] 65
  refine decoded (B := h.size) (hS.ext o1.ext) hsB hb hl o1.size (rest := fun j => [Value.slice none 0 0, .slice none 0 0, .int .i64 (0 : Int), .bool false][j]?) ⟨Nat.le_refl _, _, none, 0, 0, Blk.new _ _ _, rfl, rfl, rfl, rfl, fun _ _ _ => rfl, Own.nil _ _ _ _, fun b hb => by cases hb⟩ ?_
  intro sl r h' h1 h2 h3
  exact hK sl r h' h1 h2 (Keep.old ((Keep.of_old o1).trans h3))

theorem B_fr {h h1 h2 : Heap} (o : Old h h1) (F : Fr (fun x => some (⟨h.size, 0, none⟩ : Addr) = some ⟨x, 0, none⟩) h1 h2) : Keep h.size h h2 := by
  refine Keep.trans (Keep.of_old o) (F.mono fun x _ hx => ?_)
  have : h.size = x := by simpa using hx
  omega

theorem copiedS (hS : SlI h .u8 S l) (hl : l.length < 2 ^ 36) {K : Sl → Heap → Prop} (hK : ∀ (sl : Sl) (h' : Heap), Own h.size h' .u8 5 sl l → Old h h' → K sl h') : c_impl_copied S h K := by
  apply M_impl_copied.calls
  simp only [st_reg, st_ret, st_exit, st_skip, st_test, st_block, st_cond, sq_reg, sq_ret, sq_exit, sq_skip, sq_test, sq_cond, sq_block, sq_seq, sq_loop, SK_norm, SK_exit, SK_ret, BK_norm, BK_ret, BK_same, BK_exit, LK_norm, LK_exit, LK_ret, endK_norm, endK_ret, M_impl_copied.stm, M_impl_copied.r0, M_impl_copied.r1, M_impl_copied.init, M_impl_copied.res, withH_eq, ptrE_some, add_mk, Nat.zero_add, Nat.add_zero]
  have hsl := hS.len
  have o1 := Old.new h [] 5
  refine append_own (s := ⟨some ⟨h.size, 0, none⟩, 0, 0⟩) (B := h.size) (l := []) (news := l) (Own.empty .u8 5 (Nat.le_refl _)) ts5 tb5 z5 (by omega) ?_ (by simp only; omega) o1.size fun p' c' h' HO HF _ => ?_
  · have := src_sl (hS.ext o1.ext) (m := S.n) (Nat.le_refl _) (n := S.n) (c := S.c)
    rwa [List.take_of_length_le (by omega)] at this
  · simp only [List.nil_append, Nat.zero_add] at HO ⊢
    exact hK _ h' HO (Keep.old (B_fr o1 HF))

theorem eq {S' : Sl} {l' : List Int} (hS : SlI h .u8 S l) (hS' : SlI h .u8 S' l') (hb : Byt l) (hb' : Byt l') (hl : l.length < 2 ^ 36) {K : Bool → Heap → Prop} (hK : ∀ b, (b = true ↔ l = l') → K b h) : c_laws_eq S S' h K := by
  have hsl := hS.len
  have hsl' := hS'.len
  apply M_laws_eq.calls
  simp only [st_reg, st_ret, st_exit, st_skip, st_test, st_block, st_cond, sq_reg, sq_ret, sq_exit, sq_skip, sq_test, sq_cond, sq_block, sq_seq, sq_loop, SK_norm, SK_exit, SK_ret, BK_norm, BK_ret, BK_same, BK_exit, LK_norm, LK_exit, LK_ret, endK_norm, endK_ret, M_laws_eq.stm, M_laws_eq.k0, M_laws_eq.k1, M_laws_eq.k2, M_laws_eq.init, M_laws_eq.res, M_laws_eq.r0, M_laws_eq.r1, M_laws_eq.r2, M_laws_eq.r3, M_laws_eq.r9, hsl, hsl']
  by_cases hn : l.length = l'.length
  case neg =>
    rw [if_pos (by simp <;> omega)]
    refine hK false ⟨fun h => (by cases h), fun h => ?_⟩
    rw [h] at hn; exact absurd rfl hn
  rw [if_neg (by simp <;> omega)]
  refine loop_rule (I := fun s' h' => h' = h ∧ s'.x_a = S ∧ s'.x_b = S' ∧ s'.t12 = l.length ∧ ∃ i : Nat, s'.t13 = i ∧ i ≤ l.length ∧ l.take i = l'.take i) (μ := fun s' _ => (l.length - s'.t13).toNat) ?_ ?_
  · exact ⟨rfl, rfl, rfl, rfl, 0, rfl, by omega, rfl⟩
  · rintro s' h' ⟨rfl, e1, e2, e3, i, e4, hi, ht⟩
    simp only [st_reg, st_ret, st_exit, st_skip, st_test, st_block, st_cond, sq_reg, sq_ret, sq_exit, sq_skip, sq_test, sq_cond, sq_block, sq_seq, sq_loop, SK_norm, SK_exit, SK_ret, BK_norm, BK_ret, BK_same, BK_exit, LK_norm, LK_exit, LK_ret, endK_norm, endK_ret, M_laws_eq.k3, M_laws_eq.k4, M_laws_eq.k5, M_laws_eq.res, M_laws_eq.r4, M_laws_eq.r5, M_laws_eq.r8, e1, e2, e3, e4]
    by_cases hc : (i : Int) < l.length
    · rw [if_pos (by simpa using hc)]
      simp only [st_reg, st_ret, st_exit, st_skip, st_test, st_block, st_cond, sq_reg, sq_ret, sq_exit, sq_skip, sq_test, sq_cond, sq_block, sq_seq, sq_loop, SK_norm, SK_exit, SK_ret, BK_norm, BK_ret, BK_same, BK_exit, LK_norm, LK_exit, LK_ret, endK_norm, endK_ret, M_laws_eq.k6, M_laws_eq.res, M_laws_eq.r6, M_laws_eq.r7, e1, e2, e3, e4]
      refine hS.ldB hb (j := i) rfl (by omega) fun v hv he hev => ?_
      refine hS'.ldB hb' (j := i) rfl (by omega) fun v' hv' he' hev' => ?_
      have g : ∀ {l : List Int} {v : Nat}, i < l.length → l.getD i 0 = v → l[i]? = some (v : Int) := by
        intro l v hi h
        rw [List.getD_eq_getElem?_getD, List.getElem?_eq_getElem hi] at h
        rw [List.getElem?_eq_getElem hi]
        simpa using h
      by_cases hx : v = v'
      · rw [if_neg (by simp [hx])]
        simp only [M_laws_eq.r0, M_laws_eq.r1, M_laws_eq.r2, M_laws_eq.r3, M_laws_eq.r4, M_laws_eq.r5, M_laws_eq.r6, M_laws_eq.r7, M_laws_eq.r8, M_laws_eq.r9, M_laws_eq.init, M_laws_eq.res]
        simp (disch := omega) only [w_i64, w_u64, w_i32, w_u32, w_u16, w_u8, w_i16, Nat.reducePow]
        refine ⟨⟨trivial, trivial, trivial, trivial, i + 1, by omega, by omega, ?_⟩, by omega⟩
        rw [List.take_add_one, List.take_add_one, ht, g (by omega) he, g (by omega) he', hx]
      · rw [if_pos (by simp; omega)]
        refine hK false ⟨fun h => (by cases h), fun h => ?_⟩
        rw [h, he'] at he
        omega
    · rw [if_neg (by simpa using hc)]
      simp only [st_reg, st_ret, st_exit, st_skip, st_test, st_block, st_cond, sq_reg, sq_ret, sq_exit, sq_skip, sq_test, sq_cond, sq_block, sq_seq, sq_loop, SK_norm, SK_exit, SK_ret, BK_norm, BK_ret, BK_same, BK_exit, LK_norm, LK_exit, LK_ret, endK_norm, endK_ret, M_laws_eq.k1, M_laws_eq.res, M_laws_eq.r3, M_laws_eq.r9, e1, e2, e3, e4]
      refine hK true ⟨fun _ => ?_, fun _ => rfl⟩
      rwa [List.take_of_length_le (by omega), List.take_of_length_le (by omega)] at ht

/-- The block's answer: what it stands for, or nothing. -/
def said (l : List Int) : Option (List Int) :=
  match dlen l with
  | none => none
  | some (n, u) => dec l true n u [] 0

theorem Decode (hS : SlI h .u8 S l) (hsB : ∀ a, 0 < S.n → S.p = some a → a.block < h.size) (hb : Byt l) (hl : l.length < 2 ^ 36) {E : Value} (hE : hcell h ⟨0, 0, none⟩ = some E) {K : Sl → Value → Heap → Prop}
    (hbad : said l = none → ∀ h', Old h h' → K ⟨none, 0, 0⟩ E h') (hok : ∀ out, said l = some out → ∀ sl h', SlI h' .u8 sl out → out.length < 2 ^ 32 → Old h h' → K sl .nilIface h') (hnE : isNilI E = some false) : c_Decode ⟨none, 0, 0⟩ S h K := by
  have hsl := hS.len
  apply M_Decode.calls
  simp only [st_reg, st_ret, st_exit, st_skip, st_test, st_block, st_cond, sq_reg, sq_ret, sq_exit, sq_skip, sq_test, sq_cond, sq_block, sq_seq, sq_loop, SK_norm, SK_exit, SK_ret, BK_norm, BK_ret, BK_same, BK_exit, LK_norm, LK_exit, LK_ret, endK_norm, endK_ret, M_Decode.stm, M_Decode.k0, M_Decode.k1, M_Decode.init, M_Decode.res, M_Decode.r0, M_Decode.r1, M_Decode.r2, M_Decode.r3]
  refine decodedLen hS hb hl hE ?_ ?_
  · intro hd
    simp only [st_reg, st_ret, st_exit, st_skip, st_test, st_block, st_cond, sq_reg, sq_ret, sq_exit, sq_skip, sq_test, sq_cond, sq_block, sq_seq, sq_loop, SK_norm, SK_exit, SK_ret, BK_norm, BK_ret, BK_same, BK_exit, LK_norm, LK_exit, LK_ret, endK_norm, endK_ret, M_Decode.k1, M_Decode.res, M_Decode.r2, M_Decode.r3, nilE, hnE]
    rw [if_pos (by simp)]
    exact hbad (by unfold said; rw [hd]) h (Old.refl h)
  · intro N u hd hu hN
    simp only [st_reg, st_ret, st_exit, st_skip, st_test, st_block, st_cond, sq_reg, sq_ret, sq_exit, sq_skip, sq_test, sq_cond, sq_block, sq_seq, sq_loop, SK_norm, SK_exit, SK_ret, BK_norm, BK_ret, BK_same, BK_exit, LK_norm, LK_exit, LK_ret, endK_norm, endK_ret, M_Decode.k1, M_Decode.k2, M_Decode.r2, M_Decode.r3, M_Decode.r4, M_Decode.r5, M_Decode.r6, nilE, isNilI]
    rw [if_neg (by simp)]
    have hsaid : said l = dec (l.drop u) true N 0 [] 0 := by unfold said; rw [hd]; exact (dec_drop hu).symm
    have E0 : ∀ {h' : Heap}, Old h h' → hcell h' ⟨0, 0, none⟩ = some E := fun o => (Fr.of_old (S := fun _ => False) o).cell (fun x => x) hE
    have fin : ∀ (dp : Option Addr) (db c : Nat) (h1 : Heap) (st : M_Decode.St), st.x_dst = ⟨dp, N, c⟩ → st.x_src = S → st.x_s = u → N ≤ c → (0 < N → dp = some ⟨db, 0, none⟩) → h.size ≤ db → Old h h1 → (∃ M : List Int, (0 < N → Blk h1 db (M.map (Value.int .u8)) 5) ∧ M.length = N) →
        M_Decode.k3 st h1 (endK (M_Decode.res K)) := by
      intro dp db c h1 st f1 f2 f3 hc hdp hdb o1 HM
      simp only [st_reg, st_ret, st_exit, st_skip, st_test, st_block, st_cond, sq_reg, sq_ret, sq_exit, sq_skip, sq_test, sq_cond, sq_block, sq_seq, sq_loop, SK_norm, SK_exit, SK_ret, BK_norm, BK_ret, BK_same, BK_exit, LK_norm, LK_exit, LK_ret, endK_norm, endK_ret, M_Decode.k3, M_Decode.k4, M_Decode.k5, M_Decode.res, M_Decode.r7, M_Decode.r8, M_Decode.r9, M_Decode.r10, M_Decode.r11, f1, f2, f3]
      have hsub := (hS.ext o1.ext).from (i := u) (by omega)
      apply M_WriteSlice.calls
      simp only [st_reg, st_ret, st_exit, st_skip, st_test, st_block, st_cond, sq_reg, sq_ret, sq_exit, sq_skip, sq_test, sq_cond, sq_block, sq_seq, sq_loop, SK_norm, SK_exit, SK_ret, BK_norm, BK_ret, BK_same, BK_exit, LK_norm, LK_exit, LK_ret, endK_norm, endK_ret, M_WriteSlice.stm, M_WriteSlice.init, M_WriteSlice.res]
      refine ⟨by omega, by omega, ?_⟩
      apply M_ReadSlice.calls
      simp only [st_reg, st_ret, st_exit, st_skip, st_test, st_block, st_cond, sq_reg, sq_ret, sq_exit, sq_skip, sq_test, sq_cond, sq_block, sq_seq, sq_loop, SK_norm, SK_exit, SK_ret, BK_norm, BK_ret, BK_same, BK_exit, LK_norm, LK_exit, LK_ret, endK_norm, endK_ret, M_ReadSlice.stm, M_ReadSlice.init, M_ReadSlice.res]
      refine ⟨by omega, by omega, ?_⟩
      rw [Int.toNat_natCast]
      have hlt : ∀ a, 0 < S.n - u → subP S.p u S.c 1 = some a → a.block ≠ db := by
        intro a h0 ha
        unfold subP at ha
        have hcap := hS.2.1
        cases hp : S.p with
        | none => rw [hp] at ha; split at ha <;> cases ha
        | some a0 =>
          have := hsB a0 (by omega) hp
          rw [hp] at ha
          have hbl : a.block = a0.block := by
            split at ha
            · obtain rfl := Option.some.inj ha; rfl
            · obtain rfl := Option.some.inj ha
              unfold Addr.add; split <;> rfl
          omega
      refine s2Decode hc hdp hsub (hb.drop u) hlt (by omega) (by simp; omega) HM ?_ ?_
      · intro hd h2 F
        rw [if_pos (by simp)]
        have o2 : Old h h2 := Keep.old ((Keep.of_old o1).trans (Keep.of_fr F hdb))
        exact ⟨E, E0 o2, hbad (by rw [hsaid]; exact hd) h2 o2⟩
      · intro out hd h2 hlen HB F
        rw [if_neg (by simp)]
        have o2 : Old h h2 := Keep.old ((Keep.of_old o1).trans (Keep.of_fr F hdb))
        refine hok out (by rw [hsaid]; exact hd) _ h2 ⟨hlen, hc, fun h0 => ?_⟩ (by omega) o2
        simp only at h0
        refine ⟨db, 0, hdp h0, fun j hj => ?_⟩
        rw [Nat.zero_add, (HB h0).cell, List.getElem?_map, List.getElem?_eq_getElem hj, List.getD_eq_getElem?_getD, List.getElem?_eq_getElem hj]; rfl
    by_cases h0 : N = 0
    · subst h0
      rw [if_pos (by simp)]
      refine ⟨by omega, by simp, ?_⟩
      refine fin none h.size 0 h _ ?_ rfl rfl (by omega) (fun h => by omega) (Nat.le_refl _) (Old.refl h) ⟨[], fun h => by omega, rfl⟩
      simp [subP]
    · rw [if_neg (by simp; omega)]
      refine mkT_one (z := .int .u8 0) (by omega) ts5 tb5 (by kernel_rfl) ?_
      refine fin (some ⟨h.size, 0, none⟩) h.size N _ _ rfl rfl rfl (Nat.le_refl _) (fun _ => rfl) (Nat.le_refl _) (Old.new _ _ _) ⟨List.replicate N 0, fun _ => ?_, by simp⟩
      rw [List.map_replicate]
      exact Blk.new _ _ _

theorem implDecode (hS : SlI h .u8 S l) (hsB : ∀ a, 0 < S.n → S.p = some a → a.block < h.size) (hb : Byt l) (hl : l.length < 2 ^ 36) {E : Value} (hE : hcell h ⟨0, 0, none⟩ = some E) (hnE : isNilI E = some false) {K : Sl → Bool → Heap → Prop}
    (hK : ∀ sl (b : Bool) h', (b = true ↔ (said l).isSome = true) → (∀ out, said l = some out → SlI h' .u8 sl out) → Old h h' → K sl b h') : c_impl_S2Decode S h K := by
  apply M_impl_S2Decode.calls
  simp only [st_reg, st_ret, st_exit, st_skip, st_test, st_block, st_cond, sq_reg, sq_ret, sq_exit, sq_skip, sq_test, sq_cond, sq_block, sq_seq, sq_loop, SK_norm, SK_exit, SK_ret, BK_norm, BK_ret, BK_same, BK_exit, LK_norm, LK_exit, LK_ret, endK_norm, endK_ret, M_impl_S2Decode.stm, M_impl_S2Decode.r0, M_impl_S2Decode.r1, M_impl_S2Decode.init, M_impl_S2Decode.res]
  refine Decode hS hsB hb hl hE ?_ ?_ hnE
  · intro hs h' o
    apply M_impl_told.calls
    simp only [st_reg, st_ret, st_exit, st_skip, st_test, st_block, st_cond, sq_reg, sq_ret, sq_exit, sq_skip, sq_test, sq_cond, sq_block, sq_seq, sq_loop, SK_norm, SK_exit, SK_ret, BK_norm, BK_ret, BK_same, BK_exit, LK_norm, LK_exit, LK_ret, endK_norm, endK_ret, M_impl_told.stm, M_impl_told.k0, M_impl_told.init, M_impl_told.res, M_impl_told.r0, M_impl_told.r1, M_impl_told.r2, M_impl_told.r3, nilE, hnE]
    rw [if_pos (by simp)]
    exact hK _ false h' (by rw [hs]; simp) (fun out h => by rw [hs] at h; cases h) o
  · intro out hs sl h' H hlen o
    apply M_impl_told.calls
    simp only [st_reg, st_ret, st_exit, st_skip, st_test, st_block, st_cond, sq_reg, sq_ret, sq_exit, sq_skip, sq_test, sq_cond, sq_block, sq_seq, sq_loop, SK_norm, SK_exit, SK_ret, BK_norm, BK_ret, BK_same, BK_exit, LK_norm, LK_exit, LK_ret, endK_norm, endK_ret, M_impl_told.stm, M_impl_told.k0, M_impl_told.init, M_impl_told.res, M_impl_told.r0, M_impl_told.r1, M_impl_told.r2, M_impl_told.r3, nilE, isNilI]
    rw [if_neg (by simp)]
    refine copiedS H (by omega) fun sl' h2 HO o2 => ?_
    refine hK _ true h2 (by rw [hs]; simp) (fun out' h => ?_) (o.trans o2)
    rw [hs] at h
    obtain rfl := Option.some.inj h
    exact HO.sl
end
end Go.Proofs.YtibleenkgmkpmaaDoor
