/- A part of a calculus over heaps: what the steps of the Go model compute, told by terms that the kernel reduces. Nothing of the law is stated here. -/
import Derived.Test.YtibleenkgmkpmaaDoorVc6
namespace Go.Vc
variable {P : Program}

/-! ### Operations that write or make memory -/
def hnew (h : Heap) (cs : List Value) (e : TypeId) : Heap := h.push (.cells cs.toArray e (0, 0))

def zcells (P : Program) (t : TypeId) : List Value :=
  match P.info? t with
  | some i => match i.zero with
    | some z => z.cells.toList
    | none => []
  | none => []

def hasZero (P : Program) (t : TypeId) : Bool :=
  match P.info? t with
  | some i => i.zero.isSome
  | none => false

def isAggV : Value → Bool
  | .agg _ => true
  | _ => false

def zeroAgg (P : Program) (t : TypeId) : Bool :=
  match P.info? t with
  | some i => match i.zero with
    | some z => isAggV z
    | none => false
  | none => false

def typeSize (P : Program) (t : TypeId) : Nat :=
  match P.info? t with
  | some i => i.size
  | none => 0

def typeBytes (P : Program) (t : TypeId) : Nat :=
  match P.info? t with
  | some i => i.bytes
  | none => 0

def st1 (a : Addr) (v : Value) (h : Heap) (K : Heap → Prop) : Prop := (∃ u, hcell h a = some u) ∧ hfrozen h a = false ∧ K (hset h a v)

def stP : List Value → Addr → Nat → Heap → (Heap → Prop) → Prop
  | [], _, _, h, K => K h
  | v :: r, a, i, h, K => match v with
    | .agg _ | .tuple _ => False
    | v => st1 (a.add i) v h fun h' => stP r a (i + 1) h' K

def hsetL (h : Heap) (a : Addr) : Nat → List Value → Heap
  | _, [] => h
  | i, v :: r => hsetL (hset h (a.add i) v) a (i + 1) r

theorem run_storeH {a : Addr} {v : Value} (hv : v.oneCell' = true) {w : World} {u : Value} (hc : hcell w.heap a = some u) (hf : hfrozen w.heap a = false) :
    (store a v).run P w = .ok () { w with heap := hset w.heap a v } := by
  rw [run_store P w a v _ hv]
  simp [cell_eq, frozen_eq, hc, hf, setCell_eq]

theorem stP_sound : ∀ {vs : List Value} {a : Addr} {i : Nat} {h : Heap} {K : Heap → Prop}, stP vs a i h K →
    ∃ h', K h' ∧ ∀ w : World, w.heap = h → (storeCells a vs i).run P w = .ok () { w with heap := h' }
  | [], a, i, h, K, H => ⟨h, H, fun w hw => by subst hw; rfl⟩
  | v :: r, a, i, h, K, H => by
    have hone : v.oneCell' = true ∧ st1 (a.add i) v h fun h' => stP r a (i + 1) h' K := by
      cases v <;> simp only [stP] at H <;> exact ⟨rfl, H⟩
    obtain ⟨hv, ⟨u, hu⟩, hf, H'⟩ := hone
    obtain ⟨h', hK, hr⟩ := stP_sound H'
    refine ⟨h', hK, fun w hw => ?_⟩
    subst hw
    simp only [storeCells, Sem.run_bind, run_storeH hv hu hf, Result.andThen]
    exact hr _ rfl

/-- One value of one cell. -/
def store1 (v : Value) (a : Addr) (h : Heap) (K : Heap → Prop) : Prop :=
  match v with
  | .agg _ | .tuple _ => False
  | v => st1 (a.add 0) v h K

def storeP (P : Program) (t : TypeId) (a : Addr) (v : Value) (h : Heap) (K : Heap → Prop) : Prop :=
  bif hasZero P t then
    bif zeroAgg P t then match v with
      | .agg cs => bif Nat.beq cs.toList.length (typeSize P t) then stP cs.toList a 0 h K else False
      | _ => False
    else bif Nat.beq (typeSize P t) 1 then store1 v a h K else False
  else False

theorem hasZero_spec {t : TypeId} (h : hasZero P t = true) : ∃ i z, P.info? t = some i ∧ i.zero = some z := by
  unfold hasZero at h
  cases hi : P.info? t with
  | none => rw [hi] at h; cases h
  | some i =>
    rw [hi] at h
    obtain ⟨z, hz⟩ := Option.isSome_iff_exists.1 h
    exact ⟨i, z, rfl, hz⟩

theorem typeSize_eq {t : TypeId} {i : TypeInfo} (hi : P.info? t = some i) : typeSize P t = i.size := by simp [typeSize, hi]
theorem typeBytes_eq {t : TypeId} {i : TypeInfo} (hi : P.info? t = some i) : typeBytes P t = i.bytes := by simp [typeBytes, hi]
theorem zcells_eq {t : TypeId} {i : TypeInfo} {z : Value} (hi : P.info? t = some i) (hz : i.zero = some z) : zcells P t = z.cells.toList := by simp [zcells, hi, hz]

theorem storeP_sound {t : TypeId} {a : Addr} {v : Value} {h : Heap} {K : Heap → Prop} (H : storeP P t a v h K) :
    ∃ h', K h' ∧ ∀ w : World, w.heap = h → (storeVar t a v).run P w = .ok () { w with heap := h' } := by
  unfold storeP at H
  cases hh : hasZero P t with
  | false => rw [hh] at H; exact H.elim
  | true =>
    obtain ⟨i, z, hi, hz⟩ := hasZero_spec hh
    rw [hh] at H
    simp only [cond_true] at H
    have fin : ∀ {vs : List Value}, v.cells.toList = vs → vs.length = i.size → stP vs a 0 h K →
        ∃ h', K h' ∧ ∀ w : World, w.heap = h → (storeVar t a v).run P w = .ok () { w with heap := h' } := by
      intro vs hvs hl hs
      obtain ⟨h', hK, hr⟩ := stP_sound (P := P) hs
      refine ⟨h', hK, fun w hw => ?_⟩
      unfold storeVar
      have hsz : v.cells.size = i.size := by rw [← hl, ← hvs]; simp
      simp only [Sem.run_bind, run_sizeOf' hi, Result.andThen, hsz, ne_eq, not_true_eq_false, if_false, hvs]
      exact hr w hw
    cases ha : zeroAgg P t with
    | true =>
      rw [ha] at H
      simp only [cond_true] at H
      split at H
      · rename_i cs
        cases hn : Nat.beq cs.toList.length (typeSize P t) with
        | false => rw [hn] at H; exact H.elim
        | true =>
          rw [hn] at H
          refine fin (vs := cs.toList) rfl ?_ H
          have := Nat.eq_of_beq_eq_true hn
          rw [this, typeSize_eq hi]
      · exact H.elim
    | false =>
      rw [ha] at H
      simp only [cond_false] at H
      cases hn : Nat.beq (typeSize P t) 1 with
      | false => rw [hn] at H; exact H.elim
      | true =>
        rw [hn] at H
        simp only [cond_true] at H
        have h1 : i.size = 1 := by have := Nat.eq_of_beq_eq_true hn; rwa [typeSize_eq hi] at this
        refine fin (vs := [v]) ?_ (by simp [h1]) ?_
        · cases v <;> first | rfl | exact H.elim
        · cases v <;> first | exact H | exact H.elim

def allocP (P : Program) (t : TypeId) (h : Heap) (K : Value → Heap → Prop) : Prop :=
  bif hasZero P t then K (.pointer (some ⟨h.size, 0, none⟩)) (hnew h (zcells P t) t) else False

def boxP (P : Program) (t : TypeId) (v : Value) (h : Heap) (K : Value → Heap → Prop) : Prop :=
  bif zeroAgg P t then match v with
    | .agg cs => K (.pointer (some ⟨h.size, 0, none⟩)) (hnew h cs.toList t)
    | _ => False
  else match v with
    | .agg _ => False
    | v => K (.pointer (some ⟨h.size, 0, none⟩)) (hnew h [v] t)

/-- The heap behind make([]T, .., c). -/
def mkH (P : Program) (e : TypeId) (c : Int) (h : Heap) : Heap := h.push (.cells (madeCells (zcells P e).toArray (c.toNat * typeSize P e)) e)

/-- make([]T, l, c). -/
def mkT (P : Program) (e : TypeId) (l c : Int) (h : Heap) (K : Addr → Nat → Nat → Heap → Prop) : Prop :=
  0 ≤ l ∧ l ≤ c ∧ (typeBytes P e : Int) * c ≤ 281474976710656 ∧ c ≤ 9223372036854775807 ∧ K ⟨h.size, 0, none⟩ l.toNat c.toNat (mkH P e c h)

def mkSl (P : Program) (e : TypeId) (l c : Int) (h : Heap) (K : Value → Heap → Prop) : Prop :=
  mkT P e l c h fun a l c h => K (.slice (some a) l c) h

/-- A heap under a name. -/
def withH (x : Heap) (K : Heap → Prop) : Prop := K x

def mkSlP (P : Program) (t : TypeId) (l c : Value) (h : Heap) (K : Value → Heap → Prop) : Prop :=
  match P.underlying t, l, c with
  | some (.slice e), .int _ l, .int _ c => bif hasZero P e then mkSl P e l c h K else False
  | _, _, _ => False

theorem mkSlP_sound {t : TypeId} {l c : Value} {h : Heap} {K : Value → Heap → Prop} (H : mkSlP P t l c h K) :
    ∃ v h', K v h' ∧ ∀ w : World, w.heap = h → (Instr.makeSlice t l c).run P w = .ok v { w with heap := h' } := by
  unfold mkSlP at H
  split at H
  · rename_i e kl l kc c hd
    cases hh : hasZero P e with
    | false => rw [hh] at H; exact H.elim
    | true =>
      obtain ⟨i, z, hi, hz⟩ := hasZero_spec hh
      rw [hh] at H
      obtain ⟨h0, h1, h2, h3, hK⟩ := H
      rw [typeBytes_eq hi] at h2
      unfold mkH at hK
      rw [zcells_eq hi hz, typeSize_eq hi] at hK
      rw [Array.toArray_toList] at hK
      refine ⟨_, _, hK, fun w hw => ?_⟩
      subst hw
      exact run_make (P := P) w t e i z hd hi hz kl kc l c h0 h1 h2 h3
  · exact H.elim

def repL (zs : List Value) : Nat → List Value
  | 0 => []
  | n + 1 => zs ++ repL zs n

def bldSlP (P : Program) (t : TypeId) (n : Nat) (parts : List (Nat × Value)) (h : Heap) (K : Value → Heap → Prop) : Prop :=
  match P.underlying t with
  | some (.slice e) => bif hasZero P e && Nat.ble (n * typeSize P e) 16777216 && Nat.blt 0 (typeSize P e) && Nat.beq (zcells P e).length (typeSize P e) then
      match fillL (fun i => some (i * typeSize P e, typeSize P e)) (repL (zcells P e) n) parts with
      | some cs => K (.slice (some ⟨h.size, 0, none⟩) n n) (hnew h cs e)
      | none => False
      else False
  | _ => False

theorem repL_length (zs : List Value) : ∀ n, (repL zs n).length = n * zs.length
  | 0 => by simp [repL]
  | n + 1 => by simp [repL, repL_length zs n, Nat.succ_mul, Nat.add_comm]

theorem repL_get (zs : List Value) (hz : 0 < zs.length) : ∀ (n i : Nat), i < n * zs.length → (repL zs n)[i]? = zs[i % zs.length]?
  | 0, i, h => by simp at h
  | n + 1, i, h => by
    rw [repL]
    by_cases hi : i < zs.length
    · rw [List.getElem?_append_left hi, Nat.mod_eq_of_lt hi]
    · have hi' : zs.length ≤ i := by omega
      rw [List.getElem?_append_right hi', repL_get zs hz n (i - zs.length) (by rw [Nat.succ_mul] at h; omega)]
      congr 1
      conv => rhs; rw [show i = (i - zs.length) + zs.length by omega]
      simp

theorem repL_range (z : Array Value) (hz : 0 < z.size) (n : Nat) : ((Array.range (n * z.size)).map (z[· % z.size]!)).toList = repL z.toList n := by
  apply List.ext_getElem?
  intro i
  by_cases hi : i < n * z.size
  · have hm : i % z.size < z.size := Nat.mod_lt _ hz
    rw [repL_get z.toList (by simpa using hz) n i (by simpa using hi)]
    simp [hi, hm]
  · rw [List.getElem?_eq_none (by simpa using hi), List.getElem?_eq_none (by rw [repL_length]; simpa using hi)]

theorem bldSlP_sound {t : TypeId} {n : Nat} {parts : List (Nat × Value)} {h : Heap} {K : Value → Heap → Prop} (H : bldSlP P t n parts h K) :
    ∃ v h', K v h' ∧ ∀ w : World, w.heap = h → (Instr.buildSlice t n parts.toArray).run P w = .ok v { w with heap := h' } := by
  unfold bldSlP at H
  split at H
  · rename_i e hd
    cases hb : hasZero P e && Nat.ble (n * typeSize P e) 16777216 && Nat.blt 0 (typeSize P e) && Nat.beq (zcells P e).length (typeSize P e) with
    | false => rw [hb] at H; exact H.elim
    | true =>
      rw [hb] at H
      simp only [Bool.and_eq_true] at hb
      obtain ⟨⟨⟨hh, hle⟩, hpos⟩, hlen⟩ := hb
      obtain ⟨i, z, hi, hz⟩ := hasZero_spec hh
      simp only [cond_true] at H
      split at H
      · rename_i cs hf
        refine ⟨_, _, H, fun w hw => ?_⟩
        subst hw
        have hle' : n * i.size ≤ 16777216 := by have := Nat.le_of_ble_eq_true hle; rwa [typeSize_eq hi] at this
        have hpos' : 0 < i.size := by have := Nat.le_of_ble_eq_true hpos; rw [typeSize_eq hi] at this; omega
        have hzs : z.cells.size = i.size := by have := Nat.eq_of_beq_eq_true hlen; rw [zcells_eq hi hz, typeSize_eq hi] at this; simpa using this
        rw [zcells_eq hi hz, typeSize_eq hi] at hf
        have hr : ((Array.range (n * i.size)).map (z.cells[· % z.cells.size]!)).toList = repL z.cells.toList n := by
          have := repL_range z.cells (by rw [hzs]; exact hpos') n
          rw [hzs] at this ⊢
          exact this
        have hfill := fillL_sound (place := fun k => some (k * i.size, i.size)) (fun _ _ h => h) hr hf
        have hn0 : ¬ 16777216 < n * i.size := by omega
        unfold Instr.buildSlice
        by_cases hn : n * i.size = 0
        · have hnn : n = 0 := by
            rcases Nat.mul_eq_zero.1 hn with h | h
            · exact h
            · omega
          subst hnn
          have e0 : ∀ f : Nat → Value, Array.map f (Array.range 0) = #[] := fun f => by simp
          rw [Nat.zero_mul, e0] at hfill
          simp only [Sem.run_bind, run_underlying hd, run_sizeOf' hi, Result.andThen, Nat.zero_mul, if_true, gt_iff_lt]
          rw [if_neg (by omega)]
          simp only [Sem.run_bind, Sem.run_pure, Result.andThen, e0, hfill]
          simp [newRow, hnew]
        · simp only [Sem.run_bind, run_underlying hd, run_sizeOf' hi, Result.andThen, hn, if_false, gt_iff_lt]
          rw [if_neg (by have : (2 : Nat) ^ 24 = 16777216 := rfl; omega)]
          simp only [Sem.run_bind, run_zeroValue' hi hz, Result.andThen, Sem.run_pure, hfill]
          simp [newRow, hnew]
      · exact H.elim
  · exact H.elim

end Go.Vc
