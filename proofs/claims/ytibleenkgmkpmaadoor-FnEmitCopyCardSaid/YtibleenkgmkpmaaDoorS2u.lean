/- A part of the proof. -/
import Derived.Test.YtibleenkgmkpmaaDoorS2k
import Derived.Test.YtibleenkgmkpmaaDoorS2t
import Derived.Test.YtibleenkgmkpmaaDoorModels2
set_option linter.unusedSimpArgs false
set_option linter.unusedVariables false
set_option linter.unusedSectionVars false
namespace Go.Proofs.YtibleenkgmkpmaaDoor
open Go Go.Vc Go.Ml Go.S2

theorem w_u8_nat (n : Nat) : IntKind.wrap .u8 (n : Int) = ((n % 256 : Nat) : Int) := by
  show ((n : Int) % 256) = _
  omega

/-- append of one cell that was just laid. -/
theorem app1 {B : Nat} {h : Heap} {s : Sl} {l : List Int} {v : Int} {K : Option Addr → Nat → Nat → Heap → Prop} (H : Own B h .u8 5 s l) (hlen : s.n + 1 ≤ 2 ^ 40) (hB : B ≤ h.size)
    (hK : ∀ p' c' h', Own B h' .u8 5 ⟨p', s.n + 1, c'⟩ (l ++ [v]) → Keep B h h' → K p' (s.n + 1) c' h') :
    appendT Pg 5 s.p s.n s.c (.slice (some ⟨Array.size h, 0, none⟩) 1 1) 1 (hnew h [.int .u8 v] 5) K := by
  have O1 := Old.new h [.int .u8 v] 5
  have S1 := sl_new h .u8 [v] 5
  refine append_own (news := [v]) (H.old O1) ts5 tb5 z5 rfl (src_sl S1 (m := 1) (by simp)) hlen (by have := O1.size; omega) fun p' c' h' HO HF _ => ?_
  exact hK p' c' h' HO ((Keep.of_old O1).trans ((H.old O1).keep HF))

theorem bytesOf {h : Heap} {n k : Nat} (hn : n < 2 ^ 40) (hk : k ≤ 8) {K : Sl → Heap → Prop} (hK : ∀ s h', Own h.size h' .u8 5 s (leB k n) → Old h h' → K s h') : c_spec_bytesOf n k h K := by
  apply M_spec_bytesOf.calls
  simp only [st_reg, st_ret, st_exit, st_skip, st_test, st_block, st_cond, sq_reg, sq_ret, sq_exit, sq_skip, sq_test, sq_cond, sq_block, sq_seq, sq_loop, SK_norm, SK_exit, SK_ret, BK_norm, BK_ret, BK_same, BK_exit, LK_norm, LK_exit, LK_ret, endK_norm, endK_ret, M_spec_bytesOf.stm, M_spec_bytesOf.k0, M_spec_bytesOf.k1, M_spec_bytesOf.k2, M_spec_bytesOf.init, M_spec_bytesOf.r0, M_spec_bytesOf.r1, M_spec_bytesOf.r2, M_spec_bytesOf.r7]
  refine loop_rule (I := fun s' h' => s'.x_bytes = k ∧ ∃ i : Nat, s'.x_i = i ∧ i ≤ k ∧ s'.x_n = ((n / 256 ^ i : Nat) : Int) ∧ Own h.size h' .u8 5 s'.x_out (leB i n) ∧ Keep h.size h h') (μ := fun s' _ => (k - s'.x_i).toNat) ?_ ?_
  · exact ⟨rfl, 0, rfl, by omega, by simp, Own.nil _ _ _ _, Keep.refl _ _⟩
  · rintro s' h' ⟨e1, i, e2, hi, e3, HO, HK⟩
    simp only [st_reg, st_ret, st_exit, st_skip, st_test, st_block, st_cond, sq_reg, sq_ret, sq_exit, sq_skip, sq_test, sq_cond, sq_block, sq_seq, sq_loop, SK_norm, SK_exit, SK_ret, BK_norm, BK_ret, BK_same, BK_exit, LK_norm, LK_exit, LK_ret, endK_norm, endK_ret, M_spec_bytesOf.k3, M_spec_bytesOf.k4, M_spec_bytesOf.r3, M_spec_bytesOf.r5, M_spec_bytesOf.r6, M_spec_bytesOf.r4, e1, e2, e3]
    by_cases hc : (i : Int) < k
    · rw [if_pos (by simpa using hc)]
      have hsz := HK.size
      have hl := HO.len
      rw [leB_len] at hl
      rw [withH_eq, w_u8_nat]
      refine app1 HO (by omega) hsz fun p' c' h2 HO2 HK2 => ?_
      simp (disch := omega) only [w_i64, w_u64, w_i32, w_u32, w_u16, w_u8, w_i16, Nat.reducePow]
      refine ⟨⟨trivial, i + 1, by omega, by omega, ?_, ?_, HK.trans HK2⟩, by omega⟩
      · rw [fdiv_nat, Nat.div_div_eq_div_mul, Nat.pow_succ 256 i]
      · rw [leB_succ]; exact HO2
    · rw [if_neg (by simpa using hc)]
      obtain rfl : i = k := by omega
      simp only [st_reg, st_ret, st_exit, st_skip, st_test, st_block, st_cond, sq_reg, sq_ret, sq_exit, sq_skip, sq_test, sq_cond, sq_block, sq_seq, sq_loop, SK_norm, SK_exit, SK_ret, BK_norm, BK_ret, BK_same, BK_exit, LK_norm, LK_exit, LK_ret, endK_norm, endK_ret, M_spec_bytesOf.k1, M_spec_bytesOf.res, M_spec_bytesOf.r2, M_spec_bytesOf.r7]
      exact hK _ _ HO (Keep.old HK)

theorem varint {h : Heap} {n : Nat} (hn : n < 2 ^ 32) {K : Sl → Heap → Prop} (hK : ∀ s h', Own h.size h' .u8 5 s (varB 10 n) → Old h h' → K s h') : c_spec_varint n h K := by
  apply M_spec_varint.calls
  simp only [st_reg, st_ret, st_exit, st_skip, st_test, st_block, st_cond, sq_reg, sq_ret, sq_exit, sq_skip, sq_test, sq_cond, sq_block, sq_seq, sq_loop, SK_norm, SK_exit, SK_ret, BK_norm, BK_ret, BK_same, BK_exit, LK_norm, LK_exit, LK_ret, endK_norm, endK_ret, M_spec_varint.stm, M_spec_varint.k0, M_spec_varint.k1, M_spec_varint.init, M_spec_varint.r0, M_spec_varint.r1, M_spec_varint.r5]
  refine loop_rule (I := fun s' h' => ∃ (m f : Nat) (pre : List Int), s'.x_n = m ∧ pre ++ varB (f + 1) m = varB 10 n ∧ m < 2 ^ 32 ∧ m < 2 ^ (7 * (f + 1)) ∧ pre.length + f + 1 ≤ 10 ∧ Own h.size h' .u8 5 s'.x_out pre ∧ Keep h.size h h') (μ := fun s' _ => s'.x_n.toNat) ?_ ?_
  · exact ⟨n, 9, [], rfl, rfl, hn, by simp only [Nat.reduceAdd, Nat.reduceMul]; omega, by simp, Own.nil _ _ _ _, Keep.refl _ _⟩
  · rintro s' h' ⟨m, f, pre, e1, e2, hm, hm7, hf, HO, HK⟩
    have hsz := HK.size
    have hl := HO.len
    simp only [st_reg, st_ret, st_exit, st_skip, st_test, st_block, st_cond, sq_reg, sq_ret, sq_exit, sq_skip, sq_test, sq_cond, sq_block, sq_seq, sq_loop, SK_norm, SK_exit, SK_ret, BK_norm, BK_ret, BK_same, BK_exit, LK_norm, LK_exit, LK_ret, endK_norm, endK_ret, M_spec_varint.k2, M_spec_varint.k3, M_spec_varint.r2, M_spec_varint.r3, M_spec_varint.r4, e1]
    by_cases hc : (m : Int) ≥ 128
    · rw [if_pos (by simpa using hc)]
      have hor : bOr .u8 (IntKind.wrap .u8 (m : Int)) 128 = ((m % 128 + 128 : Nat) : Int) := by
        rw [w_u8_nat]
        have : bOr .u8 ((m % 256 : Nat) : Int) 128 = ((m % 256 ||| 128 : Nat) : Int) := or_nat (k := .u8) rfl (by show m % 256 < 256; omega) (by decide)
        rw [this]
        have hd : ∀ x, x < 256 → x ||| 128 = x % 128 + 128 := by decide +kernel
        rw [hd _ (by omega)]
        congr 2
        omega
      rw [withH_eq, hor]
      refine app1 HO (by omega) hsz fun p' c' h2 HO2 HK2 => ?_
      rw [fdiv_nat]
      have f0 : 0 < f := by
        rcases Nat.eq_zero_or_pos f with h | h
        · rw [h] at hm7; simp at hm7; omega
        · exact h
      obtain ⟨g, rfl⟩ : ∃ g, f = g + 1 := ⟨f - 1, by omega⟩
      refine ⟨⟨m / 2 ^ 7, g, pre ++ [((m % 128 + 128 : Nat) : Int)], rfl, ?_, by omega, ?_, by simp; omega, HO2, HK.trans HK2⟩, by omega⟩
      · rw [← e2]
        conv => rhs; rw [varB, if_neg (by omega)]
        simp
      · have e8 : 7 * (g + 1 + 1) = 7 * (g + 1) + 7 := by omega
        rw [e8, Nat.pow_add] at hm7
        omega
    · rw [if_neg (by simpa using hc)]
      simp only [st_reg, st_ret, st_exit, st_skip, st_test, st_block, st_cond, sq_reg, sq_ret, sq_exit, sq_skip, sq_test, sq_cond, sq_block, sq_seq, sq_loop, SK_norm, SK_exit, SK_ret, BK_norm, BK_ret, BK_same, BK_exit, LK_norm, LK_exit, LK_ret, endK_norm, endK_ret, M_spec_varint.k1, M_spec_varint.res, M_spec_varint.r5, e1]
      rw [withH_eq, w_u8_nat, Nat.mod_eq_of_lt (by omega)]
      refine app1 HO (by omega) hsz fun p' c' h2 HO2 HK2 => ?_
      rw [varB, if_pos (by omega)] at e2
      rw [e2] at HO2
      exact hK _ _ HO2 (Keep.old (HK.trans HK2))

theorem within {h : Heap} {n a b : Nat} (hn : n < 2 ^ 40) (hab : a ≤ b) (hb : b < 2 ^ 40) {K : Int → Heap → Prop} (hK : K ((a + n % (b - a + 1) : Nat) : Int) h) : c_spec_within n a b h K := by
  apply M_spec_within.calls
  simp only [st_reg, st_ret, st_exit, st_skip, st_test, st_block, st_cond, sq_reg, sq_ret, sq_exit, sq_skip, sq_test, sq_cond, sq_block, sq_seq, sq_loop, SK_norm, SK_exit, SK_ret, BK_norm, BK_ret, BK_same, BK_exit, LK_norm, LK_exit, LK_ret, endK_norm, endK_ret, M_spec_within.stm, M_spec_within.r0, M_spec_within.r1, M_spec_within.init, M_spec_within.res]
  have e1 : IntKind.wrap .i64 (IntKind.wrap .i64 ((b : Int) - a) + 1) = ((b - a + 1 : Nat) : Int) := by
    rw [w_i64 (x := (b : Int) - a) (by omega) (by omega), w_i64 (by omega) (by omega)]; omega
  rw [e1, w_u64 (x := ((b - a + 1 : Nat) : Int)) (by omega) (by omega), w_u64 (x := (n : Int)) (by omega) (by omega), if_neg (by omega)]
  have e2 : Int.tmod (n : Int) ((b - a + 1 : Nat) : Int) = ((n % (b - a + 1) : Nat) : Int) := rfl
  have hlt : n % (b - a + 1) < b - a + 1 := Nat.mod_lt _ (by omega)
  rw [e2, w_i64 (x := ((n % (b - a + 1) : Nat) : Int)) (by omega) (by omega), w_i64 (by omega) (by omega)]
  rw [← Int.natCast_add]
  exact hK

/-- What is being written: the block's body, and what it stands for. -/
structure Wri (B : Nat) (h : Heap) (wb : Nat) (body out : List Int) (last : Nat) : Prop where
  ge : B ≤ wb
  ex : ∃ pb nb cb po no co, Blk h wb [.slice pb nb cb, .slice po no co, .slice none 0 0, .int .i64 last, .bool false] 77 ∧ Own B h .u8 5 ⟨pb, nb, cb⟩ body ∧ Own B h .u8 5 ⟨po, no, co⟩ out ∧
    (∀ b, pb = some ⟨b, 0, none⟩ → b ≠ wb) ∧ (∀ b, po = some ⟨b, 0, none⟩ → b ≠ wb) ∧ (∀ b, pb = some ⟨b, 0, none⟩ → po ≠ some ⟨b, 0, none⟩)

section
variable {B : Nat} {h : Heap} {wb : Nat} {body out : List Int} {last : Nat}

theorem Wri.old {h' : Heap} (H : Wri B h wb body out last) (o : Old h h') : Wri B h' wb body out last := by
  obtain ⟨hg, pb, nb, cb, po, no, co, hb, O1, O2, n1, n2, n3⟩ := H
  exact ⟨hg, pb, nb, cb, po, no, co, o.Blk hb, O1.old o, O2.old o, n1, n2, n3⟩

/-- w.body, and an append to it. -/
theorem Wri.get0 (H : Wri B h wb body out last) (hB : B ≤ h.size) : ∃ p n c, hcell h ⟨wb, 0, none⟩ = some (.slice p n c) ∧ ∀ (h1 : Heap) (news : List Int) (x : Value) (m : Nat) (K : Heap → Prop), Old h h1 → news.length = m →
    srcCells h1 m x (news.map (Value.int .u8)) → body.length + m ≤ 2 ^ 40 → (∀ h', Wri B h' wb (body ++ news) out last → Keep B h1 h' → K h') → appendT Pg 5 p n c x m h1 fun p n c h' => st1 ⟨wb, 0, none⟩ (.slice p n c) h' K := by
  obtain ⟨hg, pb, nb, cb, po, no, co, hb, O1, O2, n1, n2, n3⟩ := H
  have hnb : body.length = nb := O1.len
  refine ⟨pb, nb, cb, hb.get rfl, fun h1 news x m K o hm hsrc hlen hK => ?_⟩
  have hw := hb.lt
  have hsz := o.size
  refine append_own (s := ⟨pb, nb, cb⟩) (O1.old o) ts5 tb5 z5 hm hsrc (by simp only; omega) (by omega) fun p' c' h' HO HF HW => ?_
  have hb1 : Blk h' wb _ 77 := HF.Blk (o.Blk hb) (fun hp => n1 wb hp rfl)
  have n1' : ∀ b, p' = some ⟨b, 0, none⟩ → b ≠ wb := by
    intro b hb
    rcases HW b hb with h | h
    · exact n1 b h
    · omega
  refine st1_blk hb1 (by simp) (hK _ ⟨hg, p', nb + m, c', po, no, co, Blk.put hb1.lt _ _, HO.put n1', ?_, n1', n2, ?_⟩ ?_)
  · exact ((O2.old o).fr HF (fun b hb hp => n3 b hp hb)).put n2
  · intro b hb hp
    rcases HW b hb with h | h
    · exact n3 b h hp
    · have := (Own.mem O2)
      rcases this with ⟨h0, _⟩ | ⟨b', cs, hp', _, hbk, _⟩
      · simp only at h0; rw [h0] at hp; cases hp
      · simp only at hp'
        rw [hp] at hp'
        have : b = b' := by simpa using hp'
        have := hbk.lt
        omega
  · exact ((O1.old o).keep HF).put hg

/-- w.s.out, and an append to it. -/
theorem Wri.get1 (H : Wri B h wb body out last) (hB : B ≤ h.size) : ∃ p n c, hcell h ⟨wb, 1, none⟩ = some (.slice p n c) ∧ n = out.length ∧ ∀ (h1 : Heap) (news : List Int) (x : Value) (m : Nat) (K : Heap → Prop), Old h h1 → news.length = m →
    srcCells h1 m x (news.map (Value.int .u8)) → out.length + m ≤ 2 ^ 40 → (∀ h', Wri B h' wb body (out ++ news) last → Keep B h1 h' → K h') → appendT Pg 5 p n c x m h1 fun p n c h' => st1 ⟨wb, 1, none⟩ (.slice p n c) h' K := by
  obtain ⟨hg, pb, nb, cb, po, no, co, hb, O1, O2, n1, n2, n3⟩ := H
  have hnb : out.length = no := O2.len
  refine ⟨po, no, co, hb.get rfl, hnb.symm, fun h1 news x m K o hm hsrc hlen hK => ?_⟩
  have hw := hb.lt
  have hsz := o.size
  refine append_own (s := ⟨po, no, co⟩) (O2.old o) ts5 tb5 z5 hm hsrc (by simp only; omega) (by omega) fun p' c' h' HO HF HW => ?_
  have hb1 : Blk h' wb _ 77 := HF.Blk (o.Blk hb) (fun hp => n2 wb hp rfl)
  have n2' : ∀ b, p' = some ⟨b, 0, none⟩ → b ≠ wb := by
    intro b hb
    rcases HW b hb with h | h
    · exact n2 b h
    · omega
  refine st1_blk hb1 (by simp) (hK _ ⟨hg, pb, nb, cb, p', no + m, c', Blk.put hb1.lt _ _, ?_, HO.put n2', n1, n2', ?_⟩ ?_)
  · exact ((O1.old o).fr HF (fun b hb hp => n3 b hb hp)).put n1
  · intro b hb hp
    rcases HW b hp with h | h
    · exact n3 b hb h
    · have := (Own.mem O1)
      rcases this with ⟨h0, _⟩ | ⟨b', cs, hp', _, hbk, _⟩
      · simp only at h0; rw [h0] at hb; cases hb
      · simp only at hp'
        rw [hb] at hp'
        have : b = b' := by simpa using hp'
        have := hbk.lt
        omega
  · exact ((O2.old o).keep HF).put hg

theorem Wri.get3 (H : Wri B h wb body out last) : hcell h ⟨wb, 3, none⟩ = some (.int .i64 last) := by
  obtain ⟨hg, pb, nb, cb, po, no, co, hb, _⟩ := H
  exact hb.get rfl
theorem Wri.get2 (H : Wri B h wb body out last) : hcell h ⟨wb, 2, none⟩ = some (.slice none 0 0) := by
  obtain ⟨hg, pb, nb, cb, po, no, co, hb, _⟩ := H
  exact hb.get rfl
theorem Wri.set3 (H : Wri B h wb body out last) {x : Nat} {K : Heap → Prop} (hK : ∀ h', Wri B h' wb body out x → Keep B h h' → K h') : st1 ⟨wb, 3, none⟩ (.int .i64 x) h K := by
  obtain ⟨hg, pb, nb, cb, po, no, co, hb, O1, O2, n1, n2, n3⟩ := H
  exact st1_blk hb (by simp) (hK _ ⟨hg, pb, nb, cb, po, no, co, Blk.put hb.lt _ _, O1.put n1, O2.put n2, n1, n2, n3⟩ ((Keep.refl _ _).put hg))

theorem Wri.copied (H : Wri B h wb body out last) (hB : B ≤ h.size) {off len : Nat} {a b : Int} (ha : a = off) (hb : b = len) (hlen : out.length + len < 2 ^ 39) (h0 : 0 < off) (h1 : off ≤ out.length) {K : Bool → Heap → Prop}
    (hK : ∀ h', Wri B h' wb body (fwd out off len) last → Keep B h h' → K true h') : c_state_copied (some ⟨wb, 1, none⟩) a b h K := by
  obtain ⟨hg, pb, nb, cb, po, no, co, hbk, O1, O2, n1, n2, n3⟩ := H
  refine Go.Proofs.YtibleenkgmkpmaaDoor.copied hbk rfl rfl O2 n2 hB ha hb hlen (by omega) (fun hbad => by omega) fun _ _ p' n' c' h' HO HB HF HW => ?_
  have hw := hbk.lt
  have n2' : ∀ b, p' = some ⟨b, 0, none⟩ → b ≠ wb := by
    intro b hb
    rcases HW b hb with h | h
    · exact n2 b h
    · omega
  refine hK h' ⟨hg, pb, nb, cb, p', n', c', HB, O1.fr HF (fun b hb hp => ?_), HO, n1, n2', ?_⟩ (HF.mono fun x _ hx => ?_)
  · rcases hp with h | h
    · exact n1 b hb h
    · exact n3 b hb h
  · intro b hb hp
    rcases HW b hp with h | h
    · exact n3 b hb h
    · have := (Own.mem O1)
      rcases this with ⟨h0, _⟩ | ⟨b', cs, hp', _, hbk, _⟩
      · simp only at h0; rw [h0] at hb; cases hb
      · simp only at hp'
        rw [hb] at hp'
        have : b = b' := by simpa using hp'
        have := hbk.lt
        omega
  · rcases hx with h | h
    · show B ≤ x; omega
    · exact O2.ge h

theorem Wri.back (H : Wri B h wb body out last) (hB : B ≤ h.size) (hl : out.length < 2 ^ 40) {K : Int → Heap → Prop} (hK : K (out.length : Nat) h) : c_writer_back (some ⟨wb, 0, none⟩) h K := by
  obtain ⟨p, n, c, h1, hn, _⟩ := H.get1 hB
  apply M_writer_back.calls
  simp only [st_reg, st_ret, st_exit, st_skip, st_test, st_block, st_cond, sq_reg, sq_ret, sq_exit, sq_skip, sq_test, sq_cond, sq_block, sq_seq, sq_loop, SK_norm, SK_exit, SK_ret, BK_norm, BK_ret, BK_same, BK_exit, LK_norm, LK_exit, LK_ret, endK_norm, endK_ret, M_writer_back.k0, M_writer_back.stm, M_writer_back.r0, M_writer_back.r1, M_writer_back.r2, M_writer_back.r3, M_writer_back.init, M_writer_back.res, withH_eq, ptrE_some, add_mk, Nat.zero_add, Nat.add_zero]
  refine ⟨p, n, c, h1, ?_⟩
  by_cases hc : (n : Int) > 65535
  · rw [if_pos (by simpa using hc)]
    exact ⟨p, n, c, h1, by rw [hn]; exact hK⟩
  · rw [if_neg (by simpa using hc)]
    refine ⟨p, n, c, h1, none, 0, 0, H.get2, ?_⟩
    rw [w_i64 (by omega) (by omega)]
    simpa [hn] using hK

theorem Wri.longest (H : Wri B h wb body out last) (hB : B ≤ h.size) {off most : Int} (ho : off ≤ out.length) {K : Int → Heap → Prop} (hK : K most h) : c_writer_longest (some ⟨wb, 0, none⟩) off most h K := by
  obtain ⟨p, n, c, h1, hn, _⟩ := H.get1 hB
  apply M_writer_longest.calls
  simp only [st_reg, st_ret, st_exit, st_skip, st_test, st_block, st_cond, sq_reg, sq_ret, sq_exit, sq_skip, sq_test, sq_cond, sq_block, sq_seq, sq_loop, SK_norm, SK_exit, SK_ret, BK_norm, BK_ret, BK_same, BK_exit, LK_norm, LK_exit, LK_ret, endK_norm, endK_ret, M_writer_longest.k0, M_writer_longest.stm, M_writer_longest.r0, M_writer_longest.r1, M_writer_longest.r2, M_writer_longest.r3, M_writer_longest.init, M_writer_longest.res, withH_eq, ptrE_some, add_mk, Nat.zero_add, Nat.add_zero]
  refine ⟨p, n, c, h1, ?_⟩
  rw [if_neg (by simp; omega)]
  exact hK
end
end Go.Proofs.YtibleenkgmkpmaaDoor
