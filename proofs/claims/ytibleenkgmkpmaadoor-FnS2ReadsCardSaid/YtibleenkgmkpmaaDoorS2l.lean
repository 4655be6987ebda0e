/- A part of the proof. -/
import Derived.Test.YtibleenkgmkpmaaDoorS2k
import Derived.Test.YtibleenkgmkpmaaDoorModels2
set_option linter.unusedSimpArgs false
set_option linter.unusedVariables false
set_option linter.unusedSectionVars false
namespace Go.Proofs.YtibleenkgmkpmaaDoor
open Go Go.Vc Go.Ml Go.S2

theorem law_S2Reads {S : Sl} {l : List Int} {h : Heap} (hS : SlI h .u8 S l) (hsB : ∀ a, 0 < S.n → S.p = some a → a.block < h.size) (hb : Byt l) {E : Value} (hE : hcell h ⟨0, 0, none⟩ = some E) (hnE : isNilI E = some false) :
    c_laws_FnS2Reads S h fun b h' => b = true ∧ Old h h' := by
  have hsl := hS.len
  apply M_laws_FnS2Reads.calls
  simp only [st_reg, st_ret, st_exit, st_skip, st_test, st_block, st_cond, sq_reg, sq_ret, sq_exit, sq_skip, sq_test, sq_cond, sq_block, sq_seq, sq_loop, SK_norm, SK_exit, SK_ret, BK_norm, BK_ret, BK_same, BK_exit, LK_norm, LK_exit, LK_ret, endK_norm, endK_ret, M_laws_FnS2Reads.stm, M_laws_FnS2Reads.k0, M_laws_FnS2Reads.k1, M_laws_FnS2Reads.k2, M_laws_FnS2Reads.k3, M_laws_FnS2Reads.init, M_laws_FnS2Reads.res, M_laws_FnS2Reads.r0, M_laws_FnS2Reads.r1, M_laws_FnS2Reads.r2, M_laws_FnS2Reads.r3, M_laws_FnS2Reads.r4, M_laws_FnS2Reads.r5, M_laws_FnS2Reads.r6, M_laws_FnS2Reads.r7, hsl]
  by_cases g1 : (l.length : Int) > 2147483647
  · rw [if_pos (by simp <;> omega)]; exact ⟨trivial, Old.refl _⟩
  rw [if_neg (by simp <;> omega)]
  by_cases g2 : (l.length : Int) > 65536
  · rw [if_pos (by simp <;> omega)]; exact ⟨trivial, Old.refl _⟩
  rw [if_neg (by simp <;> omega)]
  refine S2Len hS hb (by omega) fun n u o hs => ?_
  have hok := slen_ok l 10 0 0
  have hs' : slen l 10 0 0 = (n, u, o) := hs
  rw [hs'] at hok
  simp only at hok
  by_cases h2 : o = 2
  · rw [if_neg (by simp [h2]), if_pos trivial]; exact ⟨trivial, Old.refl _⟩
  rw [if_pos (by simp <;> omega)]
  have main : M_laws_FnS2Reads.k4 { x_b := S, t2 := false, x_n := (n : Int), x_is := (o : Int), x_want := Sl.nil, x_fits := 0, x_got := Sl.nil, x_ok := false } h (endK (M_laws_FnS2Reads.res fun b h' => b = true ∧ Old h h')) := by
    simp only [st_reg, st_ret, st_exit, st_skip, st_test, st_block, st_cond, sq_reg, sq_ret, sq_exit, sq_skip, sq_test, sq_cond, sq_block, sq_seq, sq_loop, SK_norm, SK_exit, SK_ret, BK_norm, BK_ret, BK_same, BK_exit, LK_norm, LK_exit, LK_ret, endK_norm, endK_ret, M_laws_FnS2Reads.k4, M_laws_FnS2Reads.k5, M_laws_FnS2Reads.k6, M_laws_FnS2Reads.res, M_laws_FnS2Reads.r8, M_laws_FnS2Reads.r9, M_laws_FnS2Reads.r10, M_laws_FnS2Reads.r11, M_laws_FnS2Reads.r12]
    refine S2Decode hS hsB hb (by omega) fun sl r h1 hr hsl1 o1 => ?_
    by_cases r2 : r = 2
    · rw [if_pos (by simp [r2])]; exact ⟨trivial, o1⟩
    rw [if_neg (by simp <;> omega)]
    have hsz := o1.size
    refine implDecode (hS.ext o1.ext) (fun a h0 ha => by have := hsB a h0 ha; omega) hb (by omega) ((Fr.of_old (S := fun _ => False) o1).cell (fun x => x) hE) hnE fun sl2 b hh2 hb2 hok2 o2 => ?_
    have o3 := o1.trans o2
    -- what the two say
    have key : (decd l true).2 = 1 → said l = some (decd l true).1 := by
      intro h
      obtain ⟨n, u, hs, hd, _⟩ := decd_yes h
      unfold said
      rw [dlen_yes (by rw [hs]), hs]
      exact hd
    have key2 : (decd l true).2 = 0 → said l = none := by
      intro h
      rw [decd_def hs] at h
      unfold said
      by_cases h0 : o = 0
      · rw [dlen_no (by rw [hs]; exact h0)]
      have h1 : o = 1 := by omega
      rw [dlen_yes (by rw [hs]; exact h1), hs]
      simp only
      rw [if_neg h0] at h
      by_cases hbig : 4194304 < n
      · rw [if_pos hbig] at h; simp at h
      rw [if_neg hbig] at h
      cases hd : dec l true n u [] 0 with
      | none => rfl
      | some out => rw [hd] at h; simp only at h; rw [if_neg h2] at h; simp at h
    have hr3 : (decd l true).2 ≤ 2 := by
      rw [decd_def hs]
      by_cases a0 : o = 0
      · rw [if_pos a0]; simp
      rw [if_neg a0]
      by_cases a1 : 4194304 < n
      · rw [if_pos a1]; simp
      rw [if_neg a1]
      cases dec l true n u [] 0 with
      | none => simp
      | some out => simp only; rw [if_neg h2]; simp
    by_cases r1 : r = 1
    · subst r1
      have hsd := key hr.symm
      have hbt : b = true := by rw [hb2, hsd]; rfl
      rw [hbt]
      rw [if_pos (by simp), if_pos (by simp)]
      have hw := hsl1 rfl
      obtain ⟨n', u', hs2, hd2, hn2⟩ := decd_yes hr.symm
      have hlen := dec_len hd2
      have hbt := Byt.of_mem (dec_byt hb.mem (fun x hx => by cases hx) hd2)
      refine eq (hok2 _ hsd) (hw.ext o2.ext) hbt hbt (by omega) fun b' hb' => ?_
      · exact ⟨hb'.2 rfl, o3⟩
    · have hr0 : r = 0 := by omega
      have hsd := key2 (by omega)
      have hbf : b = false := by cases b with
        | false => rfl
        | true => rw [hsd] at hb2; simp at hb2
      rw [hbf, hr0]
      rw [if_pos (by simp), if_neg (by simp)]
      exact ⟨trivial, o3⟩
  by_cases h1 : o = 1
  · rw [if_pos (by simp [h1])]
    by_cases hm : (n : Int) > 1048576
    · rw [if_pos (by simp <;> omega)]; exact ⟨trivial, Old.refl _⟩
    rw [if_neg (by simp <;> omega)]
    exact main
  · rw [if_neg (by simp <;> omega), if_neg (by simp)]
    exact main
end Go.Proofs.YtibleenkgmkpmaaDoor
