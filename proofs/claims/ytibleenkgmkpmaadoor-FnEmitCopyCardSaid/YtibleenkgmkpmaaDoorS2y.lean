/- A part of the proof. -/
import Derived.Test.YtibleenkgmkpmaaDoorS2x
import Derived.Test.YtibleenkgmkpmaaDoorModels2
set_option linter.unusedSimpArgs false
set_option linter.unusedVariables false
set_option linter.unusedSectionVars false
namespace Go.Proofs.YtibleenkgmkpmaaDoor
open Go Go.Vc Go.Ml Go.S2

/-- A piece, as it lies in memory. -/
structure Pc where
  kind : Nat
  data : Sl
  bytes : List Int
  off : Nat
  len : Nat
structure PcAt (B : Nat) (h : Heap) (b o : Nat) (p : Pc) : Prop where
  c0 : hcell h ⟨b, o, none⟩ = some (.int .u8 (p.kind : Nat))
  c1 : hcell h ⟨b, o + 1, none⟩ = some (.slice p.data.p p.data.n p.data.c)
  c2 : hcell h ⟨b, o + 2, none⟩ = some (.int .u32 (p.off : Nat))
  c3 : hcell h ⟨b, o + 3, none⟩ = some (.int .u32 (p.len : Nat))
  sl : SlI h .u8 p.data p.bytes
  bts : Bts p.bytes
  below : ∀ a, 0 < p.data.n → p.data.p = some a → a.block < B
  k255 : p.kind ≤ 255
  o32 : p.off < 2 ^ 32
  l32 : p.len < 2 ^ 32
structure Pcs (B : Nat) (h : Heap) (S : Sl) (ps : List Pc) : Prop where
  len : ps.length = S.n
  mem : 0 < S.n → ∃ b o, S.p = some ⟨b, o, none⟩ ∧ b < B ∧ ∀ i (hi : i < ps.length), PcAt B h b (o + i * 4) ps[i]

theorem Pcs.keep {B : Nat} {h h' : Heap} {S : Sl} {ps : List Pc} (H : Pcs B h S ps) (F : Keep B h h') : Pcs B h' S ps := by
  refine ⟨H.len, fun h0 => ?_⟩
  obtain ⟨b, o, hp, hb, hx⟩ := H.mem h0
  refine ⟨b, o, hp, hb, fun i hi => ?_⟩
  have P := hx i hi
  have g : ∀ {j : Nat} {v : Value}, hcell h ⟨b, j, none⟩ = some v → hcell h' ⟨b, j, none⟩ = some v := fun hc => F.cell (by simp only; omega) hc
  exact ⟨g P.c0, g P.c1, g P.c2, g P.c3, P.sl.keepB P.below F, P.bts, P.below, P.k255, P.o32, P.l32⟩

theorem Pcs.mono {B B' : Nat} {h : Heap} {S : Sl} {ps : List Pc} (H : Pcs B h S ps) (hB : B ≤ B') : Pcs B' h S ps := by
  refine ⟨H.len, fun h0 => ?_⟩
  obtain ⟨b, o, hp, hb, hx⟩ := H.mem h0
  exact ⟨b, o, hp, by omega, fun i hi => by
    have P := hx i hi
    exact ⟨P.c0, P.c1, P.c2, P.c3, P.sl, P.bts, fun a h1 h2 => Nat.lt_of_lt_of_le (P.below a h1 h2) hB, P.k255, P.o32, P.l32⟩⟩

theorem z73 : zcells Pg 73 = [.int .u8 0, .slice none 0 0, .int .u32 0, .int .u32 0] := by kernel_rfl

/-- Four cells, stored one behind the other. -/
theorem st4 {h : Heap} {b : Nat} {e : TypeId} {c0 c1 c2 c3 v0 v1 v2 v3 : Value} {K : Heap → Prop} (H : Blk h b [c0, c1, c2, c3] e) (hK : K (hput h b [v0, v1, v2, v3] e)) :
    st1 (Addr.add ⟨b, 0, none⟩ 0) v0 h fun h => st1 (Addr.add ⟨b, 0, none⟩ 1) v1 h fun h => st1 (Addr.add ⟨b, 0, none⟩ 2) v2 h fun h => st1 (Addr.add ⟨b, 0, none⟩ 3) v3 h K := by
  have hl := H.lt
  simp only [add_mk, Nat.zero_add]
  refine st1_blk H (by simp) ?_
  refine st1_blk (Blk.put hl _ _) (by simp) ?_
  refine st1_blk (Blk.put (by simpa using hl) _ _) (by simp) ?_
  refine st1_blk (Blk.put (by simpa using hl) _ _) (by simp) ?_
  simpa only [hput_put, List.set_cons_zero, List.set_cons_succ] using hK

/-- A piece's cells. -/
def pcC (p : Pc) : List Value := [.int .u8 (p.kind : Nat), .slice p.data.p p.data.n p.data.c, .int .u32 (p.off : Nat), .int .u32 (p.len : Nat)]

/-- A piece, copied into a variable of its own. -/
theorem Pcs.ld {B : Nat} {h : Heap} {S : Sl} {ps : List Pc} (H : Pcs B h S ps) {i : Nat} (hi : i < ps.length) {K : Heap → Prop}
    (hK : ∀ b o h', PcAt B h b o ps[i] → Blk h' h.size (pcC ps[i]) 73 → Old h h' → K h') :
    0 ≤ (i : Int) ∧ (i : Int) < ((S.n : Nat) : Int) ∧
    ptrE S.p fun a1 =>
    ∃ v2 : Int, hcell h (Addr.add (Addr.add a1 (Int.toNat i * 4)) 0) = some (.int .u8 v2) ∧
    ∃ (p3 : Option Addr) (n4 c5 : Nat), hcell h (Addr.add (Addr.add a1 (Int.toNat i * 4)) 1) = some (.slice p3 n4 c5) ∧
    ∃ v6 : Int, hcell h (Addr.add (Addr.add a1 (Int.toNat i * 4)) 2) = some (.int .u32 v6) ∧
    ∃ v7 : Int, hcell h (Addr.add (Addr.add a1 (Int.toNat i * 4)) 3) = some (.int .u32 v7) ∧
    withH (hnew h (zcells Pg 73) 73) fun h8 =>
    st1 (Addr.add ⟨Array.size h, 0, none⟩ 0) (.int .u8 v2) h8 fun h9 =>
    st1 (Addr.add ⟨Array.size h, 0, none⟩ 1) (.slice p3 n4 c5) h9 fun h10 =>
    st1 (Addr.add ⟨Array.size h, 0, none⟩ 2) (.int .u32 v6) h10 fun h11 =>
    st1 (Addr.add ⟨Array.size h, 0, none⟩ 3) (.int .u32 v7) h11 K := by
  have hl := H.len
  obtain ⟨b, o, hp, hb, hx⟩ := H.mem (by omega)
  have P := hx i hi
  refine ⟨by omega, by omega, ?_⟩
  rw [hp, ptrE_some]
  simp only [add_mk, Int.toNat_natCast, Nat.add_zero]
  refine ⟨_, P.c0, _, _, _, P.c1, _, P.c2, _, P.c3, ?_⟩
  rw [withH_eq, z73]
  have := st4 (K := K) (Blk.new h [.int .u8 0, .slice none 0 0, .int .u32 0, .int .u32 0] 73) (v0 := .int .u8 (ps[i].kind : Nat)) (v1 := .slice ps[i].data.p ps[i].data.n ps[i].data.c) (v2 := .int .u32 (ps[i].off : Nat)) (v3 := .int .u32 (ps[i].len : Nat)) (by rw [hput_new]; exact hK _ _ _ P (Blk.new _ _ _) (Old.new _ _ _))
  simpa only [add_mk, Nat.add_zero, Nat.zero_add] using this

section
variable {B : Nat} {h : Heap} {S : Sl} {ps : List Pc}

theorem zzFits1 (H : Pcs B h S ps) (hB : B ≤ h.size) {K : Bool → Heap → Prop} (hK : ∀ b h', (b = true → ps.length ≤ 2147483647) → Keep B h h' → K b h') : c_laws_zzFits1 S h K := by
  have hl := H.len
  apply M_laws_zzFits1.calls
  simp only [st_reg, st_ret, st_exit, st_skip, st_test, st_block, st_cond, sq_reg, sq_ret, sq_exit, sq_skip, sq_test, sq_cond, sq_block, sq_seq, sq_loop, SK_norm, SK_exit, SK_ret, BK_norm, BK_ret, BK_same, BK_exit, LK_norm, LK_exit, LK_ret, endK_norm, endK_ret, M_laws_zzFits1.stm, M_laws_zzFits1.k0, M_laws_zzFits1.k1, M_laws_zzFits1.k2, M_laws_zzFits1.init, M_laws_zzFits1.res, M_laws_zzFits1.r0, M_laws_zzFits1.r1, M_laws_zzFits1.r2, M_laws_zzFits1.r3, M_laws_zzFits1.r9]
  by_cases h1 : ((S.n : Nat) : Int) > 2147483647
  · rw [if_pos (by simpa using h1)]
    exact hK false h (fun h => by cases h) (Keep.refl _ _)
  rw [if_neg (by simpa using h1)]
  refine loop_rule (I := fun s' h' => s'.x_x = S ∧ s'.t8 = S ∧ s'.t9 = ps.length ∧ ∃ i : Nat, s'.t10 = i ∧ i ≤ ps.length ∧ Keep B h h') (μ := fun s' _ => (ps.length - s'.t10).toNat) ?_ ?_
  · exact ⟨rfl, rfl, by rw [← hl], 0, rfl, by omega, Keep.refl _ _⟩
  · rintro s' h' ⟨e0, e1, e2, i, e3, hi, hk⟩
    have hs := hk.size
    simp only [st_reg, st_ret, st_exit, st_skip, st_test, st_block, st_cond, sq_reg, sq_ret, sq_exit, sq_skip, sq_test, sq_cond, sq_block, sq_seq, sq_loop, SK_norm, SK_exit, SK_ret, BK_norm, BK_ret, BK_same, BK_exit, LK_norm, LK_exit, LK_ret, endK_norm, endK_ret, M_laws_zzFits1.k3, M_laws_zzFits1.k4, M_laws_zzFits1.k5, M_laws_zzFits1.res, M_laws_zzFits1.r4, M_laws_zzFits1.r5, M_laws_zzFits1.r8, e0, e1, e2, e3]
    by_cases hc : (i : Int) < ps.length
    · rw [if_pos (by simpa using hc)]
      refine (H.keep hk).ld (i := i) (by omega) fun b o h2 P hb o2 => ?_
      generalize ps[i]'(by omega) = p at *
      have hs2 := o2.size
      simp only [st_reg, st_ret, st_exit, st_skip, st_test, st_block, st_cond, sq_reg, sq_ret, sq_exit, sq_skip, sq_test, sq_cond, sq_block, sq_seq, sq_loop, SK_norm, SK_exit, SK_ret, BK_norm, BK_ret, BK_same, BK_exit, LK_norm, LK_exit, LK_ret, endK_norm, endK_ret, M_laws_zzFits1.k6, M_laws_zzFits1.res, M_laws_zzFits1.r6, M_laws_zzFits1.r7, withH_eq, ptrE_some, add_mk, Nat.zero_add, Nat.add_zero]
      refine ⟨_, hb.get rfl, _, _, _, hb.get rfl, _, hb.get rfl, _, hb.get rfl, ?_⟩
      apply M_laws_zzFits2.calls
      simp only [st_reg, st_ret, st_exit, st_skip, st_test, st_block, st_cond, sq_reg, sq_ret, sq_exit, sq_skip, sq_test, sq_cond, sq_block, sq_seq, sq_loop, SK_norm, SK_exit, SK_ret, BK_norm, BK_ret, BK_same, BK_exit, LK_norm, LK_exit, LK_ret, endK_norm, endK_ret, M_laws_zzFits2.k0, M_laws_zzFits2.stm, M_laws_zzFits2.r0, M_laws_zzFits2.r1, M_laws_zzFits2.r2, M_laws_zzFits2.r3, M_laws_zzFits2.init, M_laws_zzFits2.res, withH_eq, ptrE_some, add_mk, Nat.zero_add, Nat.add_zero]
      have o3 := Old.new h2 [.int .u8 (p.kind : Nat), .slice p.data.p p.data.n p.data.c, .int .u32 (p.off : Nat), .int .u32 (p.len : Nat)] 73
      have hb3 := Blk.new h2 [.int .u8 (p.kind : Nat), .slice p.data.p p.data.n p.data.c, .int .u32 (p.off : Nat), .int .u32 (p.len : Nat)] 73
      generalize hnew h2 [.int .u8 (p.kind : Nat), .slice p.data.p p.data.n p.data.c, .int .u32 (p.off : Nat), .int .u32 (p.len : Nat)] 73 = h3 at *
      have hk3 := hk.trans (Keep.of_old (o2.trans o3))
      refine ⟨_, _, _, hb3.get rfl, ?_⟩
      by_cases hx : ((p.data.n : Nat) : Int) > 2147483647
      · rw [if_pos (by simpa using hx), if_pos (by simp)]
        exact hK false h3 (fun h => by cases h) hk3
      · rw [if_neg (by simpa using hx), if_neg (by simp)]
        simp only [M_laws_zzFits1.r8]
        simp (disch := omega) only [w_i64, w_u64, w_i32, w_u32, w_u16, w_u8, w_i16, Nat.reducePow]
        exact ⟨⟨trivial, trivial, trivial, i + 1, by omega, by omega, hk3⟩, by omega⟩
    · rw [if_neg (by simpa using hc)]
      simp only [st_reg, st_ret, st_exit, st_skip, st_test, st_block, st_cond, sq_reg, sq_ret, sq_exit, sq_skip, sq_test, sq_cond, sq_block, sq_seq, sq_loop, SK_norm, SK_exit, SK_ret, BK_norm, BK_ret, BK_same, BK_exit, LK_norm, LK_exit, LK_ret, endK_norm, endK_ret, M_laws_zzFits1.k1, M_laws_zzFits1.res, M_laws_zzFits1.r3, M_laws_zzFits1.r9]
      exact hK true h' (fun _ => by omega) hk

theorem pieces (H : Pcs B h S ps) (hB : B ≤ h.size) (hps : ps.length ≤ 2147483647) {K : Bool → Heap → Prop} (hK : ∀ b h', (b = true → ps.length ≤ 60 ∧ ∀ p ∈ ps, p.bytes.length ≤ 300) → Keep B h h' → K b h') : c_laws_pieces S h K := by
  have hl := H.len
  apply M_laws_pieces.calls
  simp only [st_reg, st_ret, st_exit, st_skip, st_test, st_block, st_cond, sq_reg, sq_ret, sq_exit, sq_skip, sq_test, sq_cond, sq_block, sq_seq, sq_loop, SK_norm, SK_exit, SK_ret, BK_norm, BK_ret, BK_same, BK_exit, LK_norm, LK_exit, LK_ret, endK_norm, endK_ret, M_laws_pieces.stm, M_laws_pieces.k0, M_laws_pieces.k1, M_laws_pieces.init, M_laws_pieces.res, M_laws_pieces.r0, M_laws_pieces.r1, M_laws_pieces.r7]
  refine loop_rule (I := fun s' h' => s'.x_l = S ∧ s'.t5 = S ∧ s'.t6 = ps.length ∧ ∃ i : Nat, s'.t7 = i ∧ i ≤ ps.length ∧ Keep B h h' ∧ ∀ j (hj : j < ps.length), j < i → ps[j].bytes.length ≤ 300) (μ := fun s' _ => (ps.length - s'.t7).toNat) ?_ ?_
  · exact ⟨rfl, rfl, by rw [← hl], 0, rfl, by omega, Keep.refl _ _, fun j _ hj => by omega⟩
  · rintro s' h' ⟨e0, e1, e2, i, e3, hi, hk, hall⟩
    have hs := hk.size
    simp only [st_reg, st_ret, st_exit, st_skip, st_test, st_block, st_cond, sq_reg, sq_ret, sq_exit, sq_skip, sq_test, sq_cond, sq_block, sq_seq, sq_loop, SK_norm, SK_exit, SK_ret, BK_norm, BK_ret, BK_same, BK_exit, LK_norm, LK_exit, LK_ret, endK_norm, endK_ret, M_laws_pieces.k2, M_laws_pieces.k3, M_laws_pieces.k4, M_laws_pieces.res, M_laws_pieces.r2, M_laws_pieces.r3, M_laws_pieces.r6, e0, e1, e2, e3]
    by_cases hc : (i : Int) < ps.length
    · rw [if_pos (by simpa using hc)]
      refine (H.keep hk).ld (i := i) (by omega) fun b o h2 P hb o2 => ?_
      have hs2 := o2.size
      have hk3 := hk.trans (Keep.of_old o2)
      simp only [st_reg, st_ret, st_exit, st_skip, st_test, st_block, st_cond, sq_reg, sq_ret, sq_exit, sq_skip, sq_test, sq_cond, sq_block, sq_seq, sq_loop, SK_norm, SK_exit, SK_ret, BK_norm, BK_ret, BK_same, BK_exit, LK_norm, LK_exit, LK_ret, endK_norm, endK_ret, M_laws_pieces.k5, M_laws_pieces.res, M_laws_pieces.r4, M_laws_pieces.r5, withH_eq, ptrE_some, add_mk, Nat.zero_add, Nat.add_zero]
      refine ⟨_, _, _, hb.get rfl, ?_⟩
      have hpl := P.sl.len
      by_cases hx : (((ps[i]'(by omega)).data.n : Nat) : Int) > 300
      · rw [if_pos (by simpa using hx)]
        exact hK false h2 (fun h => by cases h) hk3
      · rw [if_neg (by simpa using hx)]
        simp only [M_laws_pieces.r6]
        simp (disch := omega) only [w_i64, w_u64, w_i32, w_u32, w_u16, w_u8, w_i16, Nat.reducePow]
        refine ⟨⟨trivial, trivial, trivial, i + 1, by omega, by omega, hk3, fun j hj hji => ?_⟩, by omega⟩
        by_cases hji' : j < i
        · exact hall j hj hji'
        · obtain rfl : j = i := by omega
          omega
    · rw [if_neg (by simpa using hc)]
      simp only [st_reg, st_ret, st_exit, st_skip, st_test, st_block, st_cond, sq_reg, sq_ret, sq_exit, sq_skip, sq_test, sq_cond, sq_block, sq_seq, sq_loop, SK_norm, SK_exit, SK_ret, BK_norm, BK_ret, BK_same, BK_exit, LK_norm, LK_exit, LK_ret, endK_norm, endK_ret, M_laws_pieces.k0, M_laws_pieces.res, M_laws_pieces.r1, M_laws_pieces.r7]
      refine hK _ h' (fun hb => ⟨?_, fun p hp => ?_⟩) hk
      · have : ((S.n : Nat) : Int) ≤ 60 := by simpa using hb
        omega
      · obtain ⟨j, hj, rfl⟩ := List.mem_iff_getElem.1 hp
        exact hall j hj (by omega)
end
end Go.Proofs.YtibleenkgmkpmaaDoor
