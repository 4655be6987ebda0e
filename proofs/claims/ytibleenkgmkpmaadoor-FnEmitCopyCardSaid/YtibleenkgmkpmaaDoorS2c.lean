/- A part of the proof. -/
import Derived.Test.YtibleenkgmkpmaaDoorS2b
set_option linter.unusedSimpArgs false
set_option linter.unusedVariables false
set_option linter.unusedSectionVars false
namespace Go.Proofs.YtibleenkgmkpmaaDoor
open Go Go.Vc Go.Ml Go.S2

/-- A block that is being decoded, in memory: what was made, no dictionary, the last offset, nothing left open. -/
structure Sta (B : Nat) (h : Heap) (sb o : Nat) (e : TypeId) (rest : Nat → Option Value) (out : List Int) (last : Nat) : Prop where
  ge : B ≤ sb
  ex : ∃ cs p n c, Blk h sb cs e ∧ cs[o]? = some (.slice p n c) ∧ cs[o + 1]? = some (.slice none 0 0) ∧ cs[o + 2]? = some (.int .i64 last) ∧ cs[o + 3]? = some (.bool false) ∧
    (∀ j, j ≠ o → j ≠ o + 2 → cs[j]? = rest j) ∧ Own B h .u8 5 ⟨p, n, c⟩ out ∧ ∀ b, p = some ⟨b, 0, none⟩ → b ≠ sb

theorem Sta.old {B : Nat} {h h' : Heap} {sb o : Nat} {e : TypeId} {rest : Nat → Option Value} {out : List Int} {last : Nat} (H : Sta B h sb o e rest out last) (ho : Old h h') : Sta B h' sb o e rest out last := by
  obtain ⟨hg, cs, p, n, c, hb, h0, h1, h2, h3, hr, hO, hn⟩ := H
  exact ⟨hg, cs, p, n, c, ho.Blk hb, h0, h1, h2, h3, hr, hO.old ho, hn⟩

theorem br {h2 : Heap} {x sb i : Nat} {e e' : TypeId} {ce cs : List Value} {b : Bool} {v2 last : Int} {P : Heap → Prop} (hE : Blk h2 x ce e') (h2v : ce[2]? = some (.int .i64 v2)) (H : Blk h2 sb cs e) (hi : i < cs.length) (hl : cs[i]? = some (.int .i64 last))
    (hP : ∀ hx csx, Blk hx sb csx e → csx[i]? = some (.int .i64 (if b then last else v2)) → (∀ j, j ≠ i → csx[j]? = cs[j]?) → Fr (· = sb) h2 hx → P hx) :
    if (!b) = true then ∃ v2 : Int, hcell h2 ⟨x, 2, none⟩ = some (.int .i64 v2) ∧ st1 ⟨sb, i, none⟩ (.int .i64 v2) h2 fun h4 => P h4 else P h2 := by
  cases b with
  | true =>
    rw [if_neg (by simp)]
    exact hP h2 cs H hl (fun _ _ => rfl) (Fr.refl _ _)
  | false =>
    rw [if_pos (by simp)]
    refine ⟨v2, hE.get h2v, st1_blk H hi ?_⟩
    refine hP _ _ (Blk.put H.lt _ _) ?_ ?_ Fr.put
    · rw [List.getElem?_set, if_pos rfl, if_pos hi]; rfl
    · intro j hj
      rw [List.getElem?_set, if_neg (by omega)]

section
variable {B sb o : Nat} {e : TypeId} {rest : Nat → Option Value} {S : Sl} {l : List Int} {s2 : Bool} {N : Nat} {h0 : Heap} {R : Option (List Int)} {K : Int → Heap → Prop}

theorem elements {i : Nat} {out : List Int} {last : Nat} {a nn : Int} (hs : SlI h0 .u8 S l) (hsB : ∀ a, 0 < S.n → S.p = some a → a.block < B) (hb : Byt l) (hl : l.length < 2 ^ 36) (hN : N < 2 ^ 36) (hB : B ≤ h0.size)
    (H : Sta B h0 sb o e rest out last) (hout : out.length ≤ N) (hi : i ≤ l.length) (ha : a = i) (hnn : nn = N) (hlast : last < 2 ^ 36)
    (hbad : dec l s2 N i out last = none → ∀ h', Keep B h0 h' → K 0 h')
    (hok : ∀ res, dec l s2 N i out last = some res → ∀ h' last', Sta B h' sb o e rest res last' → Keep B h0 h' → K 1 h') :
    c_state_elements (some ⟨sb, o, none⟩) S a nn s2 h0 K := by
  subst ha hnn
  generalize hR : dec l s2 N i out last = R at hbad hok
  have hsl := hs.len
  apply M_state_elements.calls
  simp only [st_reg, st_ret, st_exit, st_skip, st_test, st_block, st_cond, sq_reg, sq_ret, sq_exit, sq_skip, sq_test, sq_cond, sq_block, sq_seq, sq_loop, SK_norm, SK_exit, SK_ret, BK_norm, BK_ret, BK_same, BK_exit, LK_norm, LK_exit, LK_ret, endK_norm, endK_ret, M_state_elements.stm, M_state_elements.k0, M_state_elements.init, M_state_elements.r0, withH_eq, ptrE_some, add_mk, Nat.zero_add, Nat.add_zero]
  refine loop_rule (I := fun s' h' => s'.x_s = some ⟨sb, o, none⟩ ∧ s'.x_src = S ∧ s'.x_n = N ∧ s'.x_s2 = s2 ∧ ∃ (i : Nat) (out : List Int) (last : Nat), s'.x_at = i ∧ i ≤ l.length ∧ out.length ≤ N ∧ last < 2 ^ 36 ∧ Sta B h' sb o e rest out last ∧ Keep B h0 h' ∧ dec l s2 N i out last = R)
    (μ := fun s' _ => (l.length - s'.x_at).toNat) ?_ ?_
  · exact ⟨rfl, rfl, rfl, rfl, i, out, last, rfl, hi, hout, hlast, H, Keep.refl _ _, hR⟩
  · clear hR hi hout hlast H i out last
    rintro s' h ⟨e1, e2, e3, e4, i, out, last, e5, hi, hout, hlast, H, hK, hR⟩
    have hsz := hK.size
    have hsh : SlI h .u8 S l := hs.keepB hsB hK
    simp only [st_reg, st_ret, st_exit, st_skip, st_test, st_block, st_cond, sq_reg, sq_ret, sq_exit, sq_skip, sq_test, sq_cond, sq_block, sq_seq, sq_loop, SK_norm, SK_exit, SK_ret, BK_norm, BK_ret, BK_same, BK_exit, LK_norm, LK_exit, LK_ret, endK_norm, endK_ret, M_state_elements.k1, M_state_elements.k2, M_state_elements.r1, M_state_elements.r2, withH_eq, ptrE_some, add_mk, Nat.zero_add, Nat.add_zero, e1, e2, e3, e4, e5]
    by_cases hc : (i : Int) < S.n
    case neg =>
      rw [if_neg (by simpa using hc)]
      simp only [st_reg, st_ret, st_exit, st_skip, st_test, st_block, st_cond, sq_reg, sq_ret, sq_exit, sq_skip, sq_test, sq_cond, sq_block, sq_seq, sq_loop, SK_norm, SK_exit, SK_ret, BK_norm, BK_ret, BK_same, BK_exit, LK_norm, LK_exit, LK_ret, endK_norm, endK_ret, M_state_elements.k9, M_state_elements.res, M_state_elements.r14, M_state_elements.r15, M_state_elements.r16, withH_eq, ptrE_some, add_mk, Nat.zero_add, Nat.add_zero, e1, e3]
      obtain ⟨hg, cs, p, n, c, hbk, c0, c1, c2, c3, hr, hO, hn⟩ := H
      have hlen : out.length = n := hO.len
      rw [dec_stop (by omega)] at hR
      refine ⟨p, n, c, hbk.get c0, ?_⟩
      by_cases hnn : out.length = N
      · rw [if_pos hnn] at hR
        rw [if_neg (by simp <;> omega)]
        exact hok out hR.symm h last ⟨hg, cs, p, n, c, hbk, c0, c1, c2, c3, hr, hO, hn⟩ hK
      · rw [if_neg hnn] at hR
        rw [if_pos (by simp <;> omega)]
        exact hbad hR.symm h hK
    rw [if_pos (by simpa using hc)]
    refine readElement hsh hb (by omega) rfl (by omega) fun h1 o1 => ?_
    have bad : stepE l s2 N i out last = none → ∀ h', Keep B h0 h' → K 0 h' := fun hst h' hk => hbad (by rw [← hR]; exact dec_bad (by omega) hst) h' hk
    have hzz : (elC false 0 0 0 false 0) = zcells Pg 113 := zEl.symm
    cases hre : readEl l i s2 with
    | none =>
      intro b f o' n' r x
      rw [← hzz]
      refine stEl (Blk.new _ _ _) ?_
      rw [hput_new]
      simp only [st_reg, st_ret, st_exit, st_skip, st_test, st_block, st_cond, sq_reg, sq_ret, sq_exit, sq_skip, sq_test, sq_cond, sq_block, sq_seq, sq_loop, SK_norm, SK_exit, SK_ret, BK_norm, BK_ret, BK_same, BK_exit, LK_norm, LK_exit, LK_ret, endK_norm, endK_ret, M_state_elements.k3, M_state_elements.res, M_state_elements.r3, M_state_elements.r4, withH_eq, ptrE_some, add_mk, Nat.zero_add, Nat.add_zero, e1, e3]
      rw [if_neg (by simp)]
      simp only [if_true]
      exact bad (by unfold stepE; simp only [hre]) _ (hK.trans ((Keep.of_old o1).trans (Keep.of_old (Old.new _ _ _))))
    | some el =>
      have hsm := readEl_small hb.mem (by have := hb i; omega) hre
      have hsrc := readEl_src hre
      simp only [ElK]
      rw [← hzz]
      refine stEl (Blk.new _ _ _) ?_
      rw [hput_new]
      simp only [st_reg, st_ret, st_exit, st_skip, st_test, st_block, st_cond, sq_reg, sq_ret, sq_exit, sq_skip, sq_test, sq_cond, sq_block, sq_seq, sq_loop, SK_norm, SK_exit, SK_ret, BK_norm, BK_ret, BK_same, BK_exit, LK_norm, LK_exit, LK_ret, endK_norm, endK_ret, M_state_elements.k3, M_state_elements.k4, M_state_elements.res, M_state_elements.r3, M_state_elements.r4, M_state_elements.r5, withH_eq, ptrE_some, add_mk, Nat.zero_add, Nat.add_zero, e1, e3]
      rw [if_pos (by simp)]
      have o2 := o1.trans (Old.new h1 (elC el.lit el.src el.off el.len el.rep el.next) 113)
      have hE := Blk.new h1 (elC el.lit el.src el.off el.len el.rep el.next) 113
      have hEB : B ≤ h1.size := by have := o1.size; omega
      have hEh : h.size ≤ h1.size := o1.size
      generalize hnew h1 (elC el.lit el.src el.off el.len el.rep el.next) 113 = h2 at *
      have H2 := H.old o2
      have hK2 := hK.trans (Keep.of_old o2)
      have hsz2 := hK2.size
      obtain ⟨hg, cs, p, n, c, hbk, c0, c1, c2, c3, hr, hO, hn⟩ := H2
      have hlen : out.length = n := hO.len
      have hol : ∀ {j : Nat} {v : Value}, cs[j]? = some v → j < cs.length := by
        intro j v hj
        rcases Nat.lt_or_ge j cs.length with h | h
        · exact h
        · rw [List.getElem?_eq_none h] at hj; cases hj
      have ho := hol c0
      have ho2 := hol c2
      have hne2 : h1.size ≠ sb := by
        obtain ⟨_, cs', _, _, _, hbk', _⟩ := H
        have := hbk'.lt
        omega
      refine ⟨p, n, c, hbk.get c0, el.len, hE.get rfl, ?_⟩
      rw [w_i64 (by omega) (by omega)]
      by_cases hbig : N < out.length + el.len
      · rw [if_pos (by simp <;> omega)]
        exact bad (by unfold stepE; simp only [hre, hbig, if_true]) _ hK2
      rw [if_neg (by simp <;> omega)]
      refine ⟨el.next, hE.get rfl, ?_⟩
      simp only [st_reg, st_ret, st_exit, st_skip, st_test, st_block, st_cond, sq_reg, sq_ret, sq_exit, sq_skip, sq_test, sq_cond, sq_block, sq_seq, sq_loop, SK_norm, SK_exit, SK_ret, BK_norm, BK_ret, BK_same, BK_exit, LK_norm, LK_exit, LK_ret, endK_norm, endK_ret, M_state_elements.k5, M_state_elements.r6, M_state_elements.r7, withH_eq, ptrE_some, add_mk, Nat.zero_add, Nat.add_zero, e1, e3]
      refine ⟨el.lit, hE.get rfl, ?_⟩
      have hne : ∀ b, p = some ⟨b, 0, none⟩ → b ≠ sb := hn
      cases hlit : el.lit with
      | true =>
        rw [if_pos rfl]
        have hst : stepE l s2 N i out last = some (el.next, out ++ (l.drop el.src).take el.len, last) := by unfold stepE; simp only [hre, hbig, hlit, if_true, if_false]
        have hsub := hsrc.1 hlit
        refine ⟨p, n, c, hbk.get c0, el.src, hE.get (by rw [hlit]; rfl), el.src, hE.get (by rw [hlit]; rfl), el.len, hE.get (by rw [hlit]; rfl), ?_⟩
        simp (disch := omega) only [w_i64, w_u64, w_i32, w_u32, w_u16, w_u8, w_i16, Nat.reducePow, e2]
        have hS2 : SlI h2 .u8 S l := hs.keepB hsB hK2
        have hcap := hS2.2.1
        refine ⟨by omega, by omega, by omega, by omega, ?_⟩
        have e6 : ((el.src : Int) + el.len).toNat - ((el.src : Int)).toNat = el.len := by omega
        rw [e6, Int.toNat_natCast]
        have hsub2 := hS2.sub (lo := el.src) (hi := el.src + el.len) (by omega) (by omega)
        rw [List.drop_take, show el.src + el.len - el.src = el.len by omega] at hsub2
        have htl : ((l.drop el.src).take el.len).length = el.len := by simp; omega
        refine append_own (s := ⟨p, n, c⟩) (news := (l.drop el.src).take el.len) hO ts5 tb5 z5 htl ?_ (by simp only; omega) (by omega) fun p2 cc h3 HO2 HF2 HW2 => ?_
        · have := src_sl hsub2 (m := el.len) (by simp only; omega) (n := el.len) (c := S.c - el.src)
          rwa [List.take_take, Nat.min_self] at this
        have HB2 : Blk h3 sb cs e := HF2.Blk hbk (fun hp => hn sb hp rfl)
        have hsb := hbk.lt
        have hstn := stepE_next hst
        refine st1_blk HB2 ho ⟨⟨trivial, trivial, trivial, trivial, el.next, _, last, rfl, hstn.2.1, hstn.2.2, hlast, ⟨hg, cs.set o (.slice p2 (n + el.len) cc), p2, n + el.len, cc, Blk.put HB2.lt _ _, ?_, ?_, ?_, ?_, ?_, Own.put HO2 ?_, ?_⟩, ?_, ?_⟩, by omega⟩
        · rw [List.getElem?_set, if_pos rfl, if_pos ho]
        · rw [List.getElem?_set, if_neg (by omega)]; exact c1
        · rw [List.getElem?_set, if_neg (by omega)]; exact c2
        · rw [List.getElem?_set, if_neg (by omega)]; exact c3
        · intro j h1 h2; rw [List.getElem?_set, if_neg (by omega)]; exact hr j h1 h2
        · intro b hb; rcases HW2 b hb with h | h
          · exact hn b h
          · omega
        · intro b hb; rcases HW2 b hb with h | h
          · exact hn b h
          · omega
        · exact (hK2.trans (hO.keep HF2)).put hg
        · rw [← hR]; exact (dec_go (by omega) hst).symm
      | false =>
        rw [if_neg (by simp)]
        simp only [st_reg, st_ret, st_exit, st_skip, st_test, st_block, st_cond, sq_reg, sq_ret, sq_exit, sq_skip, sq_test, sq_cond, sq_block, sq_seq, sq_loop, SK_norm, SK_exit, SK_ret, BK_norm, BK_ret, BK_same, BK_exit, LK_norm, LK_exit, LK_ret, endK_norm, endK_ret, M_state_elements.k6, M_state_elements.r8, M_state_elements.r9, withH_eq, ptrE_some, add_mk, Nat.zero_add, Nat.add_zero, e1, e3]
        refine ⟨el.rep, hE.get rfl, ?_⟩
        refine br (P := fun hx => M_state_elements.k7 _ hx _) hE rfl hbk ho2 c2 ?_
        intro hx csx hbx cx2 hcx hfx
        simp only [st_reg, st_ret, st_exit, st_skip, st_test, st_block, st_cond, sq_reg, sq_ret, sq_exit, sq_skip, sq_test, sq_cond, sq_block, sq_seq, sq_loop, SK_norm, SK_exit, SK_ret, BK_norm, BK_ret, BK_same, BK_exit, LK_norm, LK_exit, LK_ret, endK_norm, endK_ret, M_state_elements.k7, M_state_elements.r10, withH_eq, ptrE_some, add_mk, Nat.zero_add, Nat.add_zero, e1, e3]
        have hKx := hK2.trans (Keep.of_fr hfx hg)
        have hEx : Blk hx h1.size (elC el.lit el.src el.off el.len el.rep el.next) 113 := hfx.Blk hE hne2
        have hOx : Own B hx .u8 5 ⟨p, n, c⟩ out := hO.fr hfx (fun b hb => hn b hb)
        have x0 : csx[o]? = some (.slice p n c) := by rw [hcx o (by omega)]; exact c0
        have x1 : csx[o + 1]? = some (.slice none 0 0) := by rw [hcx (o + 1) (by omega)]; exact c1
        have x3 : csx[o + 3]? = some (.bool false) := by rw [hcx (o + 3) (by omega)]; exact c3
        have hox : o < csx.length := by
          rcases Nat.lt_or_ge o csx.length with h | h
          · exact h
          · rw [List.getElem?_eq_none h] at x0; cases x0
        generalize hoff : (if el.rep = true then last else el.off) = off
        have hoff2 : off < 2 ^ 36 := by rw [← hoff]; split <;> omega
        have ecast : (if el.rep = true then (last : Int) else (el.off : Int)) = (off : Int) := by rw [← hoff]; split <;> rfl
        rw [ecast] at cx2
        have hszx := hfx.size
        refine ⟨off, hbx.get cx2, el.len, hEx.get rfl, ?_⟩
        refine copied hbx x0 x1 hOx hn (by omega) rfl rfl (by omega) (by omega) ?_ ?_
        · intro hbd
          have hst : stepE l s2 N i out last = none := by
            unfold stepE; simp only [hre, hbig, hlit, if_false, hoff, Bool.false_eq_true]
            rw [if_pos hbd]
          rw [if_pos (by simp)]
          simp only [st_reg, st_ret, st_exit, st_skip, st_test, st_block, st_cond, sq_reg, sq_ret, sq_exit, sq_skip, sq_test, sq_cond, sq_block, sq_seq, sq_loop, SK_norm, SK_exit, SK_ret, BK_norm, BK_ret, BK_same, BK_exit, LK_norm, LK_exit, LK_ret, endK_norm, endK_ret, M_state_elements.k8, M_state_elements.res, M_state_elements.r11, M_state_elements.r12, M_state_elements.r13, withH_eq, ptrE_some, add_mk, Nat.zero_add, Nat.add_zero, e1, e3]
          refine ⟨false, hbx.get x3, ?_⟩
          rw [if_neg (by simp)]
          exact bad hst _ hKx
        · intro hp0 hp1 p' n' c' h3 HO3 HB3 HF3 HW3
          have hst : stepE l s2 N i out last = some (el.next, fwd out off el.len, off) := by
            unfold stepE; simp only [hre, hbig, hlit, if_false, hoff, Bool.false_eq_true]
            rw [if_neg (by omega)]
          have hstn := stepE_next hst
          rw [if_neg (by simp)]
          have hsbx := hbx.lt
          refine ⟨⟨trivial, trivial, trivial, trivial, el.next, fwd out off el.len, off, rfl, hstn.2.1, hstn.2.2, hoff2, ⟨hg, _, p', n', c', HB3, ?_, ?_, ?_, ?_, ?_, HO3, ?_⟩, ?_, ?_⟩, by omega⟩
          · rw [List.getElem?_set, if_pos rfl, if_pos hox]
          · rw [List.getElem?_set, if_neg (by omega)]; exact x1
          · rw [List.getElem?_set, if_neg (by omega)]; exact cx2
          · rw [List.getElem?_set, if_neg (by omega)]; exact x3
          · intro j h1 h2; rw [List.getElem?_set, if_neg (by omega), hcx j h2]; exact hr j h1 h2
          · intro b hb; rcases HW3 b hb with h | h
            · exact hn b h
            · omega
          · refine hKx.trans (HF3.mono fun x _ hx => ?_)
            rcases hx with h | h
            · show B ≤ x; omega
            · exact hOx.ge h
          · rw [← hR]; exact (dec_go (by omega) hst).symm
end
end Go.Proofs.YtibleenkgmkpmaaDoor
