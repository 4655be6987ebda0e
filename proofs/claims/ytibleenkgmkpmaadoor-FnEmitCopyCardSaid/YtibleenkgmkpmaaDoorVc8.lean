/- A part of a calculus over heaps: what the steps of the Go model compute, told by terms that the kernel reduces. Nothing of the law is stated here. -/
import Derived.Test.YtibleenkgmkpmaaDoorVc7
namespace Go.Vc
variable {P : Program}

/-! ### append and copy -/
def CellsAt (h : Heap) (a : Addr) (vs : List Value) : Prop := ∀ j v, vs[j]? = some v → hcell h (a.add j) = some v

/-- The first cells of what is appended or copied. -/
def srcCells (h : Heap) (n : Nat) (x : Value) (vs : List Value) : Prop :=
  match x with
  | .slice none _ _ => vs = []
  | .slice (some a) _ _ => CellsAt h a vs
  | .string s => vs = (s.extract 0 n).data.toList.map fun b => .int .u8 b.toNat
  | _ => False

def lenOfV : Value → Option Nat
  | .slice _ n _ => some n
  | .string s => some s.size
  | _ => none

theorem run_firstCells {h : Heap} {size n : Nat} {x : Value} {vs : List Value} (hs : srcCells h n x vs) (hl : vs.length = n * size) {w : World} (hw : w.heap = h) :
    (Builtin.firstCells size n x).run P w = .ok vs.toArray w := by
  subst hw
  unfold srcCells at hs
  split at hs
  · subst hs; rfl
  · have := run_loadCells_list (P := P) w _ vs (fun j v hv => by rw [cell_eq]; exact hs j v hv)
    rw [hl] at this
    exact this
  · subst hs
    simp only [Builtin.firstCells, Sem.run_pure]
    congr 1
    apply Array.ext'
    simp
  · exact hs.elim

theorem run_lenOf {x : Value} {n : Nat} (h : lenOfV x = some n) (w : World) : (Builtin.lenOf x).run P w = .ok n w := by
  cases x <;> simp only [lenOfV, Option.some.injEq] at h <;> first | (subst h; rfl) | (cases h)

/-- append(s, x...), s the slice (p, n, c), elements of type e. -/
def appendT (P : Program) (e : TypeId) (p : Option Addr) (n c : Nat) (x : Value) (m : Nat) (h : Heap) (K : Option Addr → Nat → Nat → Heap → Prop) : Prop :=
  ∃ news : List Value, news.length = m * typeSize P e ∧ srcCells h m x news ∧
    if n + m ≤ c then
      match p with
      | none => K none (n + m) c h
      | some a => stP news (a.add (n * typeSize P e)) 0 h fun h' => K (some a) (n + m) c h'
    else
      (n + m) * typeBytes P e ≤ 140737488355328 ∧ n + m < 9223372036854775808 ∧ ∃ olds : List Value, olds.length = n * typeSize P e ∧ srcCells h n (.slice p n c) olds ∧
        ∀ cap, n + m ≤ cap → cap < 9223372036854775808 →
          K (some ⟨h.size, 0, none⟩) (n + m) cap (hnew h (olds ++ news ++ (Builtin.zeroCells (zcells P e).toArray (cap - (n + m))).toList) e)

def appendS (P : Program) (e : TypeId) (p : Option Addr) (n c : Nat) (x : Value) (m : Nat) (h : Heap) (K : Value → Heap → Prop) : Prop :=
  appendT P e p n c x m h fun p n c h => K (.slice p n c) h

def appendP (P : Program) (ts : List TypeId) (args : List Value) (h : Heap) (K : Value → Heap → Prop) : Prop :=
  match ts, args with
  | [t, u], [.slice p n c, x] =>
    match P.underlying t, P.underlying u, lenOfV x with
    | some (.slice _), some (.int _), some _ => False
    | some (.slice e), some _, some m => bif hasZero P e then appendS P e p n c x m h K else False
    | _, _, _ => False
  | _, _ => False

theorem appendP_sound {ts : List TypeId} {args : List Value} {ty : TypeId} {h : Heap} {K : Value → Heap → Prop} (H : appendP P ts args h K) :
    ∀ w : World, w.heap = h → ∃ v w', (Builtin.append_ ts.toArray ty args.toArray).run P w = .ok v w' ∧ Alike w w' ∧ K v w'.heap := by
  intro w hw
  unfold appendP at H
  split at H
  · rename_i t u p n c x
    split at H
    · exact H.elim
    · rename_i e du m hnot hd hu hm
      cases hh : hasZero P e with
      | false => rw [hh] at H; exact H.elim
      | true =>
        obtain ⟨i, z, hi, hz⟩ := hasZero_spec hh
        rw [hh] at H
        obtain ⟨news, hln, hsrc, H⟩ := H
        rw [typeSize_eq hi] at hln
        have hfirst : ∀ w' : World, w'.heap = h → (Builtin.firstCells i.size m x).run P w' = .ok news.toArray w' := fun w' hw' => run_firstCells hsrc hln hw'
        have hz0 : (match du with | TypeDesc.int _ => true | _ => false) = false := by
          cases du <;> first | rfl | exact (hnot _ rfl).elim
        have hgt : ∀ u : Nat, u < 9223372036854775808 → ¬ ((u : Int) > IntKind.i64.max) := by
          intro u hu'
          have : IntKind.i64.max = 9223372036854775807 := by rfl
          omega
        unfold Builtin.append_
        simp only [List.getElem?_toArray, List.getElem?_cons_zero, List.getElem?_cons_succ]
        simp only [Sem.run_bind, run_underlying hd, Result.andThen_ok, run_sizeOf' hi]
        simp only [run_underlying hu, Result.andThen_ok, Sem.run_pure]
        simp only [Bool.false_eq_true, if_false, Sem.run_bind, run_lenOf hm, Result.andThen_ok, Bool.not_false, if_true]
        by_cases hc : n + m ≤ c
        · rw [if_pos hc] at H
          simp only [hc, if_true, Sem.run_bind, hfirst w hw, Result.andThen_ok]
          cases p with
          | none =>
            exact ⟨_, w, rfl, Alike.refl w, by rw [hw]; exact H⟩
          | some a =>
            simp only at H
            rw [typeSize_eq hi] at H
            obtain ⟨h', hK, hr⟩ := stP_sound (P := P) H
            simp only [Sem.run_bind, hr w hw, Result.andThen_ok, Sem.run_pure]
            exact ⟨_, _, rfl, ⟨rfl, rfl, rfl⟩, hK⟩
        · rw [if_neg hc] at H
          obtain ⟨hby, h63, olds, hlo, hso, H⟩ := H
          rw [typeBytes_eq hi] at hby
          rw [typeSize_eq hi] at hlo
          have hb2 := growslice_fits (need := n + m) (old := c) (by omega) hby
          simp only [hc, if_false, Sem.run_bind, run_typeInfo' hi, Result.andThen_ok]
          have hn1 : ¬ (((n + m : Nat) : Int) > IntKind.i64.max) := hgt _ h63
          have hn2 : ¬ (Builtin.nextslicecap (n + m) c * i.bytes > 2 ^ 48) := by
            have : (2 : Nat) ^ 48 = 281474976710656 := by rfl
            omega
          simp only [hn1, false_and, if_false, hn2, Sem.run_bind, run_typeInfo' hi, Result.andThen_ok, run_choose, Question.forced, Bool.false_eq_true, run_askRoom]
          have hwd : ({ w with drawn := w.drawn + 1 } : World).heap = h := hw
          have hold := run_firstCells (P := P) hso hlo hwd
          have hnewc := hfirst { w with drawn := w.drawn + 1 } hwd
          simp only [hold, hnewc, run_zeroValue' hi hz, Result.andThen_ok]
          refine ⟨_, _, rfl, ⟨rfl, rfl, rfl⟩, ?_⟩
          have hcap1 : n + m ≤ Question.cut (.appendCap (n + m) c e) (w.tape w.drawn (.appendCap (n + m) c e)) := by simp [Question.cut]
          have hcap2 : Question.cut (.appendCap (n + m) c e) (w.tape w.drawn (.appendCap (n + m) c e)) < 9223372036854775808 := by
            simp only [Question.cut]
            have h0 : (2 : Nat) ^ 63 = 9223372036854775808 := by rfl
            have := Nat.mod_lt (w.tape w.drawn (.appendCap (n + m) c e)) (show 0 < 2 ^ 63 - (n + m) by omega)
            omega
          have hK := H _ hcap1 hcap2
          rw [zcells_eq hi hz, Array.toArray_toList] at hK
          simp only [hw]
          have e1 : ∀ (a b : List Value) (d : Array Value), (a ++ b ++ d.toList).toArray = a.toArray ++ b.toArray ++ d := by
            intro a b d; apply Array.ext'; simp
          rw [hnew, e1] at hK
          exact hK
    · exact H.elim
  · exact H.elim

/-- copy(dst, x), dst the slice (p, n). -/
def copyT (P : Program) (e : TypeId) (p : Option Addr) (n : Nat) (x : Value) (m : Nat) (h : Heap) (K : Int → Heap → Prop) : Prop :=
  ∃ news : List Value, news.length = min m n * typeSize P e ∧ srcCells h (min m n) x news ∧
    match p with
    | none => K ((min m n : Nat) : Int) h
    | some a => stP news a 0 h fun h' => K ((min m n : Nat) : Int) h'

def copyS (P : Program) (e : TypeId) (p : Option Addr) (n : Nat) (x : Value) (m : Nat) (h : Heap) (K : Value → Heap → Prop) : Prop :=
  copyT P e p n x m h fun k h => K (.int .i64 k) h

def copyP (P : Program) (ts : List TypeId) (args : List Value) (h : Heap) (K : Value → Heap → Prop) : Prop :=
  match ts, args with
  | t :: _, [.slice p n _, x] =>
    match P.underlying t, lenOfV x with
    | some (.slice e), some m => bif (P.info? e).isSome then copyS P e p n x m h K else False
    | _, _ => False
  | _, _ => False

theorem copyP_sound {ts : List TypeId} {args : List Value} {ty : TypeId} {h : Heap} {K : Value → Heap → Prop} (H : copyP P ts args h K) :
    ∀ w : World, w.heap = h → ∃ v w', (Builtin.copy_ ts.toArray ty args.toArray).run P w = .ok v w' ∧ Alike w w' ∧ K v w'.heap := by
  intro w hw
  unfold copyP at H
  split at H
  · rename_i t _ p n c x
    split at H
    · rename_i e m hd hm
      cases hi : P.info? e with
      | none => rw [hi] at H; exact H.elim
      | some i =>
        rw [hi] at H
        simp only [Option.isSome_some, cond_true] at H
        obtain ⟨news, hln, hsrc, H⟩ := H
        rw [typeSize_eq hi] at hln
        have hfirst := run_firstCells (P := P) hsrc hln hw
        unfold Builtin.copy_
        simp only [List.getElem?_toArray, List.getElem?_cons_zero, List.getElem?_cons_succ]
        have hmin : Nat.min m n = min m n := rfl
        simp only [Sem.run_bind, run_underlying hd, Result.andThen_ok, run_sizeOf' hi, run_lenOf hm, hmin, hfirst]
        cases p with
        | none => exact ⟨_, w, rfl, Alike.refl w, by rw [hw]; exact H⟩
        | some a =>
          obtain ⟨h', hK, hr⟩ := stP_sound (P := P) H
          simp only [Sem.run_bind, hr w hw, Result.andThen_ok, Sem.run_pure]
          exact ⟨_, _, rfl, ⟨rfl, rfl, rfl⟩, hK⟩
    · exact H.elim
  · exact H.elim

/-- An operation that writes or makes memory. -/
def effOp (P : Program) (ev : Operand → Option Value) (op : Op) (h : Heap) (K : Value → Heap → Prop) : Prop :=
  match op with
  | .store t a x => match ev a, ev x with
    | some (.pointer p), some v => ptrE p fun ad => storeP P t ad v h fun h' => K undef h'
    | _, _ => False
  | .alloc t => allocP P t h K
  | .box t x => match ev x with
    | some v => boxP P t v h K
    | none => False
  | .makeSlice t l c => match ev l, ev c with
    | some l, some c => mkSlP P t l c h K
    | _, _ => False
  | .buildSlice t n parts => match evParts ev parts.toList with
    | some ps => bldSlP P t n ps h K
    | none => False
  | .call c => match c.callee, evList ev c.args.toList with
    | .builtin .append, some vs => appendP P c.argTypes.toList vs h K
    | .builtin .copy, some vs => copyP P c.argTypes.toList vs h K
    | _, _ => False
  | _ => False

theorem effOp_sound {ev : Operand → Option Value} {ρ : Operand → Value} (hev : ∀ x v, ev x = some v → ρ x = v) {o : Oper} {h : Heap} {K : Value → Heap → Prop} (H : effOp P ev o.op h K) :
    ∀ w : World, w.heap = h → ∃ r v w', (execOp ρ o).run P w = .ok r w' ∧ (r = .value v ∨ r = .skip ∧ v = undef) ∧ Alike w w' ∧ K v w'.heap := by
  intro w hw
  obtain ⟨dst, op, type, pos, after, guard⟩ := o
  simp only at H
  cases op <;> simp only [effOp] at H
  case store t a x =>
    split at H
    · rename_i p v ha hx
      obtain ⟨ad, rfl, H⟩ := ptrE_elim H
      obtain ⟨h', hK, hr⟩ := storeP_sound H
      refine ⟨.skip, undef, { w with heap := h' }, ?_, .inr ⟨rfl, rfl⟩, ⟨rfl, rfl, rfl⟩, hK⟩
      simp [execOp, Instr.storeAt, Instr.sureAddr, hev _ _ ha, hev _ _ hx, hr w hw]
    · exact H.elim
  case alloc t =>
    unfold allocP at H
    cases hh : hasZero P t with
    | false => rw [hh] at H; exact H.elim
    | true =>
      obtain ⟨i, z, hi, hz⟩ := hasZero_spec hh
      rw [hh] at H
      simp only [cond_true] at H
      rw [zcells_eq hi hz] at H
      subst hw
      refine ⟨.value _, _, { w with heap := hnew w.heap z.cells.toList t }, ?_, .inl rfl, ⟨rfl, rfl, rfl⟩, H⟩
      simp [execOp, Instr.alloc, run_zeroValue' hi hz, newVar, newRow, hnew]
  case box t x =>
    cases hx : ev x with
    | none => rw [hx] at H; exact H.elim
    | some v =>
      rw [hx] at H
      subst hw
      have key : ∀ cs : List Value, v.cells.toList = cs → K (.pointer (some ⟨w.heap.size, 0, none⟩)) (hnew w.heap cs t) →
          ∃ r v w', (execOp ρ { dst, op := .box t x, type, pos, after, guard }).run P w = .ok r w' ∧ (r = .value v ∨ r = .skip ∧ v = undef) ∧ Alike w w' ∧ K v w'.heap := by
        intro cs hcs hK
        refine ⟨.value _, _, { w with heap := hnew w.heap cs t }, ?_, .inl rfl, ⟨rfl, rfl, rfl⟩, hK⟩
        simp [execOp, Instr.box, hev _ _ hx, newVar, newRow, hnew, ← hcs]
      simp only at H
      unfold boxP at H
      cases hz : zeroAgg P t with
      | true =>
        rw [hz] at H
        simp only [cond_true] at H
        split at H
        · exact key _ rfl H
        · exact H.elim
      | false =>
        rw [hz] at H
        simp only [cond_false] at H
        cases v <;> first | exact H.elim | exact key _ rfl H
  case makeSlice t l c =>
    split at H
    · rename_i l' c' hl hc
      obtain ⟨v, h', hK, hr⟩ := mkSlP_sound H
      refine ⟨.value v, v, { w with heap := h' }, ?_, .inl rfl, ⟨rfl, rfl, rfl⟩, hK⟩
      simp [execOp, hev _ _ hl, hev _ _ hc, hr w hw]
    · exact H.elim
  case buildSlice t n parts =>
    cases hx : evParts ev parts.toList with
    | none => rw [hx] at H; exact H.elim
    | some ps =>
      rw [hx] at H
      obtain ⟨v, h', hK, hr⟩ := bldSlP_sound H
      have e1 : (parts.map fun (p : Nat × Operand) => (p.1, ρ p.2)) = ps.toArray := by apply Array.ext'; simpa using evParts_sound hev hx
      have h2 := hr w hw
      rw [← e1] at h2
      refine ⟨.value v, v, { w with heap := h' }, ?_, .inl rfl, ⟨rfl, rfl, rfl⟩, hK⟩
      simp only [execOp, Sem.run_bind]
      have h3 : (Instr.buildSlice t n (parts.map fun (i, x) => (i, ρ x))).run P w = .ok v { w with heap := h' } := h2
      rw [h3]
      rfl
  case call c =>
    obtain ⟨callee, args, argTypes⟩ := c
    simp only at H
    split at H
    · rename_i vs he
      obtain ⟨v, w', hr, hal, hK⟩ := appendP_sound (ty := type) H w hw
      refine ⟨.value v, v, w', ?_, .inl rfl, hal, hK⟩
      have e1 : args.map ρ = vs.toArray := by apply Array.ext'; simpa using evList_sound hev he
      rw [Array.toArray_toList] at hr
      simp [execOp, resolve, invoke, builtin, e1, hr]
    · rename_i vs he
      obtain ⟨v, w', hr, hal, hK⟩ := copyP_sound (ty := type) H w hw
      refine ⟨.value v, v, w', ?_, .inl rfl, hal, hK⟩
      have e1 : args.map ρ = vs.toArray := by apply Array.ext'; simpa using evList_sound hev he
      rw [Array.toArray_toList] at hr
      simp [execOp, resolve, invoke, builtin, e1, hr]
    · exact H.elim

end Go.Vc
