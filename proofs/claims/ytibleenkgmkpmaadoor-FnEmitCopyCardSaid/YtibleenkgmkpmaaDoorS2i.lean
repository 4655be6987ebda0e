/- A part of the proof. -/
import Derived.Test.YtibleenkgmkpmaaDoorS2h
import Derived.Test.YtibleenkgmkpmaaDoorS2q
set_option linter.unusedSimpArgs false
set_option linter.unusedVariables false
set_option linter.unusedSectionVars false
namespace Go.Proofs.YtibleenkgmkpmaaDoor
open Go Go.Vc Go.Ml Go.S2

theorem stepE_last {l : List Int} {s2 : Bool} {n i i' : Nat} {out out' : List Int} {last last' : Nat} (h : stepE l s2 n i out last = some (i', out', last')) : last' ≤ max last out.length := by
  unfold stepE at h
  split at h
  · cases h
  · rename_i e he
    split at h
    · cases h
    · split at h
      · simp only [Option.some.injEq, Prod.mk.injEq] at h
        obtain ⟨rfl, rfl, rfl⟩ := h
        omega
      · simp only at h
        generalize (if e.rep = true then last else e.off) = o at h
        split at h
        · cases h
        · simp only [Option.some.injEq, Prod.mk.injEq] at h
          obtain ⟨rfl, rfl, rfl⟩ := h
          omega

section
variable {S : Sl} {dp : Option Addr} {l : List Int} {N db c : Nat} {h : Heap} {K : Int → Heap → Prop}

theorem s2Decode (hc : N ≤ c) (hdp : 0 < N → dp = some ⟨db, 0, none⟩) (hS : SlI h .u8 S l) (hb : Byt l) (hne : ∀ a, 0 < S.n → S.p = some a → a.block ≠ db) (hN : N < 2 ^ 36) (hl : l.length < 2 ^ 36)
    (HB : ∃ M : List Int, (0 < N → Blk h db (M.map (Value.int .u8)) 5) ∧ M.length = N)
    (hbad : dec l true N 0 [] 0 = none → ∀ h', Fr (· = db) h h' → K 1 h')
    (hok : ∀ res, dec l true N 0 [] 0 = some res → ∀ h', res.length = N → (0 < N → Blk h' db (res.map (Value.int .u8)) 5) → Fr (· = db) h h' → K 0 h') : c_s2Decode ⟨dp, N, c⟩ S h K := by
  have hsl := hS.len
  obtain ⟨M0, HB0, hM0⟩ := HB
  generalize hR : dec l true N 0 [] 0 = R at hbad hok
  apply M_s2Decode.calls
  simp only [st_reg, st_ret, st_exit, st_skip, st_test, st_block, st_cond, sq_reg, sq_ret, sq_exit, sq_skip, sq_test, sq_cond, sq_block, sq_seq, sq_loop, SK_norm, SK_exit, SK_ret, BK_norm, BK_ret, BK_same, BK_exit, LK_norm, LK_exit, LK_ret, endK_norm, endK_ret, M_s2Decode.stm, M_s2Decode.k0, M_s2Decode.k1, M_s2Decode.k2, M_s2Decode.init, M_s2Decode.r0, M_s2Decode.r1, M_s2Decode.r2]
  refine loop_rule (I := fun s' h' => ∃ i out last, Dst S N dp db c i out last s' h' ∧ i ≤ l.length ∧ out.length ≤ N ∧ last < 2 ^ 36 ∧ Fr (· = db) h h' ∧ dec l true N i out last = R) (μ := fun s' _ => (l.length - s'.x_s).toNat) ?_ ?_
  · exact ⟨0, [], 0, ⟨rfl, rfl, rfl, rfl, rfl, M0, HB0, hM0, rfl⟩, by omega, by simp, by decide, Fr.refl _ _, hR⟩
  · rintro s1 h1 ⟨i, out, last, J, hi, hout, hlast, hF, hR1⟩
    have hS1 := SlI.fr hS hF (fun a h1 h2 => hne a h1 h2)
    have hne1 := hne
    have hbd : ∀ {i out last}, i < l.length → dec l true N i out last = R → stepE l true N i out last = none → ∀ (st' : M_s2Decode.St) (h' : Heap), st'.t4 = 1 → Fr (· = db) h h' → K st'.t4 h' := by
      intro i out last hi hR hst st' h' h4 hf
      rw [h4]
      exact hbad (by rw [← hR]; exact dec_bad hi hst) h' hf
    have tail : ∀ (s1 : M_s2Decode.St) (h1 : Heap) (i : Nat) (out : List Int) (last : Nat), Dst S N dp db c i out last s1 h1 → i ≤ l.length → out.length ≤ N → last < 2 ^ 36 → Fr (· = db) h h1 → dec l true N i out last = R → M_s2Decode.k42 s1 h1 (endK (M_s2Decode.res K)) := by
      intro s1 h1 i out last J hi hout hlast hF hR1
      simp only [st_reg, st_ret, st_exit, st_skip, st_test, st_block, st_cond, sq_reg, sq_ret, sq_exit, sq_skip, sq_test, sq_cond, sq_block, sq_seq, sq_loop, SK_norm, SK_exit, SK_ret, BK_norm, BK_ret, BK_same, BK_exit, LK_norm, LK_exit, LK_ret, endK_norm, endK_ret, M_s2Decode.k42]
      refine loop_rule (I := fun s' h' => ∃ i out last, Dst S N dp db c i out last s' h' ∧ i ≤ l.length ∧ out.length ≤ N ∧ last < 2 ^ 36 ∧ Fr (· = db) h h' ∧ dec l true N i out last = R) (μ := fun s' _ => (l.length - s'.x_s).toNat) ?_ ?_
      · exact ⟨i, out, last, J, hi, hout, hlast, hF, hR1⟩
      · clear J hi hout hlast hF hR1 s1 h1 i out last
        rintro s1 h1 ⟨i, out, last, J, hi, hout, hlast, hF, hR1⟩
        have hS1 : SlI h1 .u8 S l := SlI.fr hS hF (fun a h1 h2 => hne a h1 h2)
        simp only [st_reg, st_ret, st_exit, st_skip, st_test, st_block, st_cond, sq_reg, sq_ret, sq_exit, sq_skip, sq_test, sq_cond, sq_block, sq_seq, sq_loop, SK_norm, SK_exit, SK_ret, BK_norm, BK_ret, BK_same, BK_exit, LK_norm, LK_exit, LK_ret, endK_norm, endK_ret, M_s2Decode.k43, M_s2Decode.r68, J.s, J.i, hsl]
        by_cases hx : (i : Int) < l.length
        · rw [if_pos (by simpa using hx)]
          refine bodyB J hc hdp hS1 hb hN hl hout hlast (by omega) ?_ ?_
          · intro hst st' h' h4 hf
            exact hbd (by omega) hR1 hst st' h' h4 (hF.trans hf)
          · intro i' out' last' hst st' h' J' hf
            have hn := stepE_next hst
            have hla := stepE_last hst
            refine ⟨⟨i', out', last', J', hn.2.1, hn.2.2, by omega, hF.trans hf, by rw [← hR1]; exact (dec_go (by omega) hst).symm⟩, ?_⟩
            have := J'.i
            simp only [this]; omega
        · rw [if_neg (by simpa using hx)]
          simp only [st_reg, st_ret, st_exit, st_skip, st_test, st_block, st_cond, sq_reg, sq_ret, sq_exit, sq_skip, sq_test, sq_cond, sq_block, sq_seq, sq_loop, SK_norm, SK_exit, SK_ret, BK_norm, BK_ret, BK_same, BK_exit, LK_norm, LK_exit, LK_ret, endK_norm, endK_ret, M_s2Decode.k97, M_s2Decode.res, M_s2Decode.r151, M_s2Decode.r152, M_s2Decode.r153, J.n, J.d]
          rw [dec_stop (by omega)] at hR1
          obtain ⟨M, HB, hM, hMo⟩ := J.m
          by_cases hn : out.length = N
          · rw [if_pos hn] at hR1
            rw [if_neg (by simp [hn])]
            refine hok out hR1.symm h1 hn (fun h0 => ?_) hF
            rw [hn] at hMo
            rw [← hMo, ← hM, List.take_length]
            exact HB h0
          · rw [if_neg hn] at hR1
            rw [if_pos (by simp <;> omega)]
            exact hbad hR1.symm h1 hF
    simp only [st_reg, st_ret, st_exit, st_skip, st_test, st_block, st_cond, sq_reg, sq_ret, sq_exit, sq_skip, sq_test, sq_cond, sq_block, sq_seq, sq_loop, SK_norm, SK_exit, SK_ret, BK_norm, BK_ret, BK_same, BK_exit, LK_norm, LK_exit, LK_ret, endK_norm, endK_ret, M_s2Decode.k3, M_s2Decode.r3, J.s, J.i, hsl]
    rw [w_i64 (by omega) (by omega)]
    by_cases hx : (i : Int) < l.length - 5
    · rw [if_pos (by simpa using hx)]
      refine bodyA J hc hdp hS1 hb hne hN hl hout hlast (by omega) ?_ ?_
      · intro hst st' h' h4 hf
        exact hbd (by omega) hR1 hst st' h' h4 (hF.trans hf)
      · intro i' out' last' hst st' h' J' hf
        have hn := stepE_next hst
        have hla := stepE_last hst
        refine ⟨⟨i', out', last', J', hn.2.1, hn.2.2, by omega, hF.trans hf, by rw [← hR1]; exact (dec_go (by omega) hst).symm⟩, ?_⟩
        have := J'.i
        simp only [this]; omega
    · rw [if_neg (by simpa using hx)]
      exact tail s1 h1 i out last J hi hout hlast hF hR1
end
end Go.Proofs.YtibleenkgmkpmaaDoor
