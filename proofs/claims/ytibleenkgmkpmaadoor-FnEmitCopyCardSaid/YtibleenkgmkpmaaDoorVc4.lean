/- A part of a calculus over heaps: what the steps of the Go model compute, told by terms that the kernel reduces. Nothing of the law is stated here. -/
import Derived.Test.YtibleenkgmkpmaaDoorVc3
namespace Go.Vc
variable {P : Program}

theorem unP_sound {op : UnOp} {x : Value} {K : Value → Prop} (H : unP op x K) : ∃ v, K v ∧ ∀ w : World, (Op.unary op x).run P w = .ok v w := by
  unfold unP at H
  split at H
  · exact ⟨_, H, fun w => by simp [Op.unary, Op.intArith]⟩
  · exact ⟨_, H, fun w => by simp only [Op.unary]; rfl⟩
  · exact ⟨_, H, fun w => rfl⟩
  · exact H.elim

theorem convP_sound {s d : TypeId} {x : Value} {K : Value → Prop} (H : convP P s d x K) : ∃ v, K v ∧ ∀ w : World, (convert s d x).run P w = .ok v w := by
  unfold convP at H
  cases hs : P.underlying s with
  | none => rw [hs] at H; exact H.elim
  | some a =>
    cases hd : P.underlying d with
    | none => rw [hs, hd] at H; exact H.elim
    | some b =>
      rw [hs, hd] at H
      cases b <;> cases x <;> simp only at H
      refine ⟨_, H, fun w => ?_⟩
      unfold convert
      simp only [Sem.run_bind, run_underlying hs, run_underlying hd, Result.andThen]
      rfl

theorem boundP_sound {v : Value} {y : Nat} {K : Nat → Prop} (H : boundP v y K) (code : BoundsCode) : ∃ n, K n ∧ ∀ w : World, (Instr.sliceBound v y code).run P w = .ok n w := by
  unfold boundP at H
  split at H
  · obtain ⟨h0, h1, hK⟩ := H
    exact ⟨_, hK, fun w => run_sliceBound w _ _ _ _ h0 h1⟩
  · exact H.elim

theorem bndsP_sound {n c : Nat} {lo hi mx : Option Value} {K : Nat → Nat → Nat → Prop} (b : Bool) (H : bndsP n c lo hi mx K) :
    ∃ l h m, K l h m ∧ ∀ w : World, (Instr.sliceBounds b n c lo hi mx).run P w = .ok (l, h, m) w := by
  have hlo : ∀ {h m : Nat}, loP lo K h m → ∃ l, K l h m ∧
      ∀ w : World, (match lo with | some v => Instr.sliceBound v h (if mx.isSome then .slice3C else .sliceB) | none => pure 0 : Sem Nat).run P w = .ok l w := by
    intro h m hm
    unfold loP at hm
    cases lo with
    | none => exact ⟨0, hm, fun w => rfl⟩
    | some v => exact boundP_sound hm _
  unfold bndsP at H
  cases mx with
  | none =>
    cases hi with
    | none =>
      obtain ⟨l, hK, hr⟩ := hlo H
      refine ⟨l, n, c, hK, fun w => ?_⟩
      have h1 := hr w
      unfold Instr.sliceBounds
      cases lo <;> simp_all
    | some v =>
      obtain ⟨h, hh, hr2⟩ := boundP_sound (P := P) H (if b then .sliceAcap else .sliceAlen)
      obtain ⟨l, hK, hr⟩ := hlo hh
      refine ⟨l, h, c, hK, fun w => ?_⟩
      have h1 := hr w
      have h2 := hr2 w
      unfold Instr.sliceBounds
      cases lo <;> simp_all
  | some u =>
    cases hi with
    | none => exact H.elim
    | some v =>
      obtain ⟨m, hm, hr3⟩ := boundP_sound (P := P) H (if b then .slice3Acap else .slice3Alen)
      obtain ⟨h, hh, hr2⟩ := boundP_sound (P := P) hm .slice3B
      obtain ⟨l, hK, hr⟩ := hlo hh
      refine ⟨l, h, m, hK, fun w => ?_⟩
      have h1 := hr w
      have h2 := hr2 w
      have h3 := hr3 w
      unfold Instr.sliceBounds
      cases lo <;> simp_all

theorem slP_sound {t : TypeId} {x : Value} {lo hi mx : Option Value} {K : Value → Prop} (H : slP P t x lo hi mx K) :
    ∃ v, K v ∧ ∀ w : World, (Instr.sliceAt t x lo hi mx).run P w = .ok v w := by
  unfold slP at H
  cases hd : P.underlying t with
  | none => rw [hd] at H; exact H.elim
  | some d =>
    rw [hd] at H
    cases d <;> cases x <;> (try simp only at H)
    case slice.slice e p n c =>
      cases hi' : P.info? e with
      | none => rw [hi'] at H; exact H.elim
      | some i =>
        rw [hi'] at H
        obtain ⟨l, h, m, hK, hr⟩ := bndsP_sound (P := P) true H
        refine ⟨_, hK, fun w => ?_⟩
        unfold Instr.sliceAt
        simp only [Sem.run_bind, run_underlying hd, Result.andThen]
        unfold Instr.slice
        rw [Sem.run_bind, run_underlying hd]
        simp only [Result.andThen, Sem.run_bind, hr, run_sizeOf' hi']
        rfl
    case array.pointer n e p =>
      cases hi' : P.info? e with
      | none => rw [hi'] at H; exact H.elim
      | some i =>
        rw [hi'] at H
        obtain ⟨a, rfl, H⟩ := ptrE_elim H
        obtain ⟨l, h, m, hK, hr⟩ := bndsP_sound (P := P) false H
        refine ⟨_, hK, fun w => ?_⟩
        unfold Instr.sliceAt
        simp only [Sem.run_bind, run_underlying hd, Result.andThen, Instr.sureAddr, hr, run_sizeOf' hi', Sem.run_pure, subP]
        split <;> simp
    case string.string s =>
      cases mx with
      | some _ => exact H.elim
      | none =>
        obtain ⟨l, h, m, hK, hr⟩ := bndsP_sound (P := P) false H
        refine ⟨_, hK, fun w => ?_⟩
        unfold Instr.sliceAt
        simp only [Sem.run_bind, run_underlying hd, Result.andThen]
        unfold Instr.slice
        simp [run_underlying hd, hr]

theorem partP_sound {t : TypeId} {cs : Array Value} {off : Nat} {K : Value → Prop} (H : partP P t cs off K) : ∃ v, K v ∧ ∀ w : World, (part t cs off).run P w = .ok v w := by
  unfold partP at H
  cases hd : P.underlying t with
  | none => rw [hd] at H; exact H.elim
  | some d =>
    cases hi : P.info? t with
    | none => rw [hd, hi] at H; exact H.elim
    | some i =>
      rw [hd, hi] at H
      simp only at H
      cases hb : isAggD d with
      | true =>
        rw [hb] at H
        refine ⟨_, H, fun w => ?_⟩
        unfold part
        simp only [Sem.run_bind, run_isAgg' hd, hb, Result.andThen, if_true, run_sizeOf' hi, Sem.run_pure]
        congr 2
        apply Array.ext'
        simp [Array.toList_extract, List.extract]
      | false =>
        rw [hb] at H
        simp only [cond_false] at H
        cases hc : cs.toList[off]? with
        | none => rw [hc] at H; exact H.elim
        | some v =>
          rw [hc] at H
          refine ⟨_, H, fun w => ?_⟩
          have hc' : cs[off]? = some v := by simpa using hc
          unfold part
          simp [run_isAgg' hd, hb, hc']

theorem fldAddrP_sound {s : TypeId} {x : Value} {f : Nat} {K : Value → Prop} (H : fldAddrP P s x f K) : ∃ v, K v ∧ ∀ w : World, (Instr.fieldAt s x f).run P w = .ok v w := by
  unfold fldAddrP at H
  cases hd : P.underlying s with
  | none => rw [hd] at H; exact H.elim
  | some d =>
    rw [hd] at H
    cases d <;> simp only at H
    case struct fs =>
      cases hf : fs.toList[f]? with
      | none => rw [hf] at H; exact H.elim
      | some fd =>
        rw [hf] at H
        simp only at H
        cases hi : P.info? fd.type with
        | none => rw [hi] at H; exact H.elim
        | some i =>
          rw [hi] at H
          simp only at H
          cases hz : Nat.beq i.size 0 with
          | true => rw [hz] at H; exact H.elim
          | false =>
            rw [hz] at H
            simp only [cond_false] at H
            split at H
            · obtain ⟨a, rfl, H⟩ := ptrE_elim H
              refine ⟨_, H, fun w => ?_⟩
              have hf' : fs[f]? = some fd := by simpa using hf
              have hz' : ¬ i.size = 0 := fun h => by rw [h] at hz; simp at hz
              unfold Instr.fieldAt
              simp [run_underlying hd, hf', Instr.sureAddr, fieldPlace, run_sizeOf' hi, hz']
            · exact H.elim

theorem fldP_sound {t : TypeId} {x : Value} {f : Nat} {K : Value → Prop} (H : fldP P t x f K) : ∃ v, K v ∧ ∀ w : World, (Instr.field t x f).run P w = .ok v w := by
  unfold fldP at H
  cases hd : P.underlying t with
  | none => rw [hd] at H; exact H.elim
  | some d =>
    rw [hd] at H
    cases d <;> cases x <;> simp only at H
    case struct.agg fs cs =>
      cases hf : fs.toList[f]? with
      | none => rw [hf] at H; exact H.elim
      | some fd =>
        rw [hf] at H
        obtain ⟨v, hK, hr⟩ := partP_sound H
        refine ⟨v, hK, fun w => ?_⟩
        have hf' : fs[f]? = some fd := by simpa using hf
        unfold Instr.field
        simp [run_underlying hd, hf', asAgg, hr]

theorem idxAddrP_sound {t : TypeId} {x i : Value} {K : Value → Prop} (H : idxAddrP P t x i K) : ∃ v, K v ∧ ∀ w : World, (Instr.indexAt t x i).run P w = .ok v w := by
  unfold idxAddrP at H
  split at H
  · rename_i e p n c k j hd
    cases hi : P.info? e with
    | none => rw [hi] at H; exact H.elim
    | some i =>
      rw [hi] at H
      obtain ⟨h0, h1, H⟩ := H
      obtain ⟨a, rfl, hK⟩ := ptrE_elim H
      refine ⟨_, hK, fun w => ?_⟩
      unfold Instr.indexAt
      simp [asIntOf, run_underlying hd, h0, h1, run_sizeOf' hi]
  · rename_i n e p k j hd
    cases hi : P.info? e with
    | none => rw [hi] at H; exact H.elim
    | some i =>
      rw [hi] at H
      obtain ⟨h0, h1, hK⟩ := H
      obtain ⟨a, rfl, hK⟩ := ptrE_elim hK
      refine ⟨_, hK, fun w => ?_⟩
      unfold Instr.indexAt
      simp [asIntOf, run_underlying hd, h0, h1, run_sizeOf' hi, Instr.sureAddr]
  · exact H.elim

theorem idxP_sound {t : TypeId} {x i : Value} {K : Value → Prop} (H : idxP P t x i K) : ∃ v, K v ∧ ∀ w : World, (Instr.index t x i).run P w = .ok v w := by
  unfold idxP at H
  split at H
  · rename_i n e cs k j hd
    cases hi : P.info? e with
    | none => rw [hi] at H; exact H.elim
    | some i =>
      cases he : P.underlying e with
      | none => rw [hi, he] at H; exact H.elim
      | some d =>
        rw [hi, he] at H
        simp only at H
        cases hb : isAggD d with
        | true => rw [hb] at H; exact H.elim
        | false =>
          rw [hb] at H
          simp only [cond_false] at H
          cases hz : i.zero with
          | none => rw [hz] at H; exact H.elim
          | some z =>
            rw [hz] at H
            obtain ⟨h0, h1, H⟩ := H
            obtain ⟨v, hv, hK⟩ := ld1_elim H
            refine ⟨v, hK, fun w => ?_⟩
            have hv' : cs[j.toNat * i.size]? = some v := by simpa using hv
            unfold Instr.index
            simp [asIntOf, run_underlying hd, h0, h1, run_sizeOf' hi, part, run_isAgg' he, hb, hv']
  · rename_i s k j hd
    obtain ⟨h0, b, hb, hK⟩ := H
    refine ⟨_, hK, fun w => ?_⟩
    unfold Instr.index
    simp [asIntOf, run_underlying hd, h0, hb]
  · exact H.elim

theorem extP_sound {x : Value} {i : Nat} {K : Value → Prop} (H : extP x i K) : ∃ v, K v ∧ ∀ w : World, (Instr.extract x i).run P w = .ok v w := by
  unfold extP at H
  split at H
  · rename_i vs
    cases hv : vs.toList[i]? with
    | none => rw [hv] at H; exact H.elim
    | some v =>
      rw [hv] at H
      have hv' : vs[i]? = some v := by simpa using hv
      exact ⟨v, H, fun w => by simp [Instr.extract, hv']⟩
  · exact H.elim

end Go.Vc
