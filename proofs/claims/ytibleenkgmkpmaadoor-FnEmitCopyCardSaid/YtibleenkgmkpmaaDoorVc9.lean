/- A part of a calculus over heaps: what the steps of the Go model compute, told by terms that the kernel reduces. Nothing of the law is stated here. -/
import Derived.Test.YtibleenkgmkpmaaDoorVc8
import Derived.Deep.LoopGhost
namespace Go.Vc
variable {P : Program}

/-! ### Calls -/
/-- Function f, called so, enters, ends, and leaves a value and a heap of which K holds. -/
def CallsH (P : Program) (f : FuncId) (args : Array Value) (h : Heap) (K : Value → Heap → Prop) : Prop :=
  (∀ w : World, (callFunc f args).run P w = .ok (.enter f args) w) ∧
    ∀ w : World, w.heap = h → Calls P f args w fun e w' => ∃ v, e = .returned v ∧ Alike w w' ∧ K v w'.heap

theorem CallsH.mono {f : FuncId} {args : Array Value} {h : Heap} {K K' : Value → Heap → Prop} (H : CallsH P f args h K) (hk : ∀ v h', K v h' → K' v h') : CallsH P f args h K' :=
  ⟨H.1, fun w hw => (H.2 w hw).mono fun _ _ ⟨v, he, ha, hK⟩ => ⟨v, he, ha, hk _ _ hK⟩⟩

def quantCells : List Value → List Value → (List Value → Prop) → Prop
  | [], acc, K => K acc.reverse
  | z :: zs, acc, K => quant1 z fun v => quantCells zs (v :: acc) K

theorem quantCells_elim : ∀ {zs acc : List Value} {K : List Value → Prop}, quantCells zs acc K → ∃ l, K l
  | [], acc, K, h => ⟨_, h⟩
  | z :: zs, acc, K, h => by
    obtain ⟨v, h⟩ := quant1_elim h
    exact quantCells_elim h

def quant2 (z : Value) (K : Value → Prop) : Prop :=
  match z with
  | .agg zs => quantCells zs.toList [] fun l => K (.agg l.toArray)
  | z => quant1 z K

theorem quant2_elim {z : Value} {K : Value → Prop} (h : quant2 z K) : ∃ v, K v := by
  unfold quant2 at h
  split at h
  · obtain ⟨l, h⟩ := quantCells_elim h; exact ⟨_, h⟩
  · exact quant1_elim h

def quantTup : List Value → List Value → (List Value → Prop) → Prop
  | [], acc, K => K acc.reverse
  | z :: zs, acc, K => quant2 z fun v => quantTup zs (v :: acc) K

theorem quantTup_elim : ∀ {zs acc : List Value} {K : List Value → Prop}, quantTup zs acc K → ∃ l, K l
  | [], acc, K, h => ⟨_, h⟩
  | z :: zs, acc, K, h => by
    obtain ⟨v, h⟩ := quant2_elim h
    exact quantTup_elim h

def quantT (z : Value) (K : Value → Prop) : Prop :=
  match z with
  | .tuple zs => quantTup zs.toList [] fun l => K (.tuple l.toArray)
  | z => quant2 z K

theorem quantT_elim {z : Value} {K : Value → Prop} (h : quantT z K) : ∃ v, K v := by
  unfold quantT at h
  split at h
  · obtain ⟨l, h⟩ := quantTup_elim h; exact ⟨_, h⟩
  · exact quant2_elim h

def exposeR (P : Program) (t : TypeId) (v : Value) (K : Value → Prop) : Prop :=
  match P.info? t with
  | some i => match i.zero with
    | some z => quantT z fun v' => v = v' ∧ K v'
    | none => False
  | none => False

theorem exposeR_elim {t : TypeId} {v : Value} {K : Value → Prop} (h : exposeR P t v K) : K v := by
  unfold exposeR at h
  split at h
  · split at h
    · obtain ⟨v', rfl, hK⟩ := quantT_elim h; exact hK
    · exact h.elim
  · exact h.elim

/-- A function value, called. -/
def callVP (P : Program) (f : Value) (vs : List Value) (h : Heap) (K : Value → Heap → Prop) : Prop :=
  match f with
  | .func (.func g) first captured => CallsH P g (first.toList ++ vs ++ captured.toList).toArray h K
  | _ => False

def callFP (P : Program) (ev : Operand → Option Value) (f : Operand) (args : List Operand) (t : TypeId) (h : Heap) (K : Value → Heap → Prop) : Prop :=
  match ev f, evList ev args with
  | some fv, some vs => callVP P fv vs h fun v h' => exposeR P t v fun v' => K v' h'
  | _, _ => False

/-- One operation. -/
def vcOp (P : Program) (ev : Operand → Option Value) (o : Oper) (h : Heap) (K : Value → Heap → Prop) : Prop :=
  match o.op with
  | .store t a x => effOp P ev (.store t a x) h K
  | .alloc t => effOp P ev (.alloc t) h K
  | .box t x => effOp P ev (.box t x) h K
  | .makeSlice t l c => effOp P ev (.makeSlice t l c) h K
  | .buildSlice t n ps => effOp P ev (.buildSlice t n ps) h K
  | .call c => match c.callee with
    | .builtin .append => effOp P ev (.call c) h K
    | .builtin .copy => effOp P ev (.call c) h K
    | .value f => callFP P ev f c.args.toList o.type h K
    | _ => valOp P ev (.call c) h fun v => K v h
  | op => valOp P ev op h fun v => K v h

theorem vcOp_sound {ev : Operand → Option Value} {a : Act} (hev : ∀ x v, ev x = some v → a.eval x = v) {o : Oper} {h : Heap} {K : Value → Heap → Prop} (H : vcOp P ev o h K) {w : World} (hw : w.heap = h)
    {next : Act → World → Prop} {Q : Exit → Act → World → Prop} (hn : ∀ v w', Alike w w' → K v w'.heap → next (a.put o.dst v) w') : o.wp P a w next Q := by
  have val : valOp P ev o.op h (fun v => K v h) → o.wp P a w next Q := by
    intro hv
    obtain ⟨v, hK, hy⟩ := valOp_sound (P := P) hev hv (C := fun w' => w' = w) (.inr fun w' hw' => by subst hw'; rw [hw]; exact HExt.refl _)
    unfold Oper.wp
    rw [hy w rfl]
    exact hn v w (Alike.refl w) (by rw [hw]; exact hK)
  have eff : effOp P ev o.op h K → o.wp P a w next Q := by
    intro he
    obtain ⟨r, v, w', hr, hv, hal, hK⟩ := effOp_sound hev he w hw
    unfold Oper.wp
    rw [hr]
    rcases hv with rfl | ⟨rfl, rfl⟩
    · exact hn v w' hal hK
    · exact hn undef w' hal hK
  obtain ⟨dst, op, type, pos, after, guard⟩ := o
  unfold vcOp at H
  cases op <;> simp only at H val eff hn <;> (try exact val H) <;> (try exact eff H)
  case call c =>
    obtain ⟨callee, args, argTypes⟩ := c
    simp only at H
    cases callee with
    | builtin b => cases b <;> first | exact eff H | exact val H
    | invoke r m => exact val H
    | value f =>
      simp only at H
      unfold callFP at H
      split at H
      · rename_i fv vs hf hargs
        unfold callVP at H
        split at H
        rotate_left
        · exact H.elim
        rename_i g first captured
        obtain ⟨henter, hcall⟩ := H
        unfold Oper.wp
        have e1 : args.map a.eval = vs.toArray := by apply Array.ext'; simpa using evList_sound hev hargs
        have e2 : first ++ vs.toArray ++ captured = (first.toList ++ vs ++ captured.toList).toArray := by apply Array.ext'; simp
        have hr : (execOp a.eval { dst, op := .call ⟨.value f, args, argTypes⟩, type, pos, after, guard }).run P w = .ok (.enter g (first.toList ++ vs ++ captured.toList).toArray) w := by
          simp only [execOp, resolve, hev _ _ hf, Deferred.ofValue, Sem.run_bind, Sem.run_pure, Result.andThen, invoke, e1, e2]
          exact henter w
        rw [hr]
        refine (hcall w hw).mono ?_
        rintro e w' ⟨v, rfl, hal, hx⟩
        exact hn v w' hal (exposeR_elim (K := fun v' => K v' w'.heap) hx)
      · exact H.elim

/-! ### Lists of operations -/
def putE (n : Nat) (d : Option Tmp) (v : Value) (e : Env) (K : Env → Prop) : Prop :=
  match d with
  | none => K e
  | some d => bif Nat.blt d n then K ((d, v) :: e) else False

theorem putE_elim {n : Nat} {d : Option Tmp} {v : Value} {e : Env} {K : Env → Prop} (H : putE n d v e K) {a : Act} (hr : Rel n e a) : ∃ e', Rel n e' (a.put d v) ∧ K e' := by
  cases d with
  | none => exact ⟨e, hr.put_none v, H⟩
  | some d =>
    simp only [putE] at H
    cases hb : Nat.blt d n with
    | false => rw [hb] at H; exact H.elim
    | true =>
      rw [hb] at H
      have : d + 1 ≤ n := Nat.le_of_ble_eq_true hb
      exact ⟨_, hr.put this v, H⟩

def guardSlot (all : List Oper) (j : Nat) : Option Tmp :=
  match all[j]? with
  | some o => o.dst
  | none => none

/-- An operation under a guard: 'yes' where it is wanted, 'no' where it is passed over; what the guard's slot holds is written out behind. -/
def guardE (d : Option Tmp) (want : Bool) (e : Env) (yes no : Env → Prop) : Prop :=
  match d with
  | none => False
  | some d => match e.get d with
    | some (.bool b) => if b = want then yes ((d, .bool want) :: e) else no ((d, .bool (!want)) :: e)
    | some (.tuple _) => no e
    | _ => False

def vcOps (P : Program) (n : Nat) (all : List Oper) : List Oper → Env → Heap → (Env → Heap → Prop) → Prop
  | [], e, h, K => K e h
  | o :: r, e, h, K => match o.guard with
    | none => vcOp P e.ev o h fun v h' => putE n o.dst v e fun e' => vcOps P n all r e' h' K
    | some (j, want) => guardE (guardSlot all j) want e
        (fun e => vcOp P e.ev o h fun v h' => putE n o.dst v e fun e' => vcOps P n all r e' h' K)
        (fun e => putE n o.dst undef e fun e' => vcOps P n all r e' h K)

theorem yielded_eq {ops : Array Oper} {j : Nat} {d : Tmp} (hd : guardSlot ops.toList j = some d) (tmps : Array Value) :
    yielded ops tmps j = match tmps[d]? with | some (.bool b) => some b | _ => none := by
  unfold guardSlot at hd
  unfold yielded
  cases ho : ops.toList[j]? with
  | none => rw [ho] at hd; cases hd
  | some o =>
    rw [ho] at hd
    have ho' : ops[j]? = some o := by simpa using ho
    simp only at hd
    simp only [ho', Option.bind_some, hd]
    cases tmps[d]? with
    | none => rfl
    | some v => cases v <;> rfl

theorem guardE_elim {n : Nat} {ops : Array Oper} {j : Nat} {want : Bool} {e : Env} {yes no : Env → Prop} {a : Act} (hr : Rel n e a) (H : guardE (guardSlot ops.toList j) want e yes no) :
    (yielded ops a.tmps j = some want ∧ ∃ e', Rel n e' a ∧ yes e') ∨ (yielded ops a.tmps j ≠ some want ∧ ∃ e', Rel n e' a ∧ no e') := by
  cases hd : guardSlot ops.toList j with
  | none => rw [hd] at H; exact H.elim
  | some d =>
    rw [hd] at H
    simp only [guardE] at H
    rw [yielded_eq hd]
    cases hg : e.get d with
    | none => rw [hg] at H; exact H.elim
    | some v =>
      rw [hg] at H
      have hv := hr.ok d v hg
      have hget : ∀ u, a.tmps[d]? = some u → u = v := by
        intro u hu
        rw [Array.getD_eq_getD_getElem?, hu] at hv
        exact hv
      cases v <;> simp only at H <;> (try exact H.elim)
      case bool b =>
        have hb : a.tmps[d]? = some (.bool b) := by
          cases hu : a.tmps[d]? with
          | none => rw [Array.getD_eq_getD_getElem?, hu] at hv; cases hv
          | some u => rw [hget u hu]
        rw [hb]
        by_cases hw : b = want
        · rw [if_pos hw] at H
          subst hw
          exact .inl ⟨rfl, _, hr.known hg, H⟩
        · rw [if_neg hw] at H
          have : b = !want := by cases b <;> cases want <;> simp_all
          subst this
          exact .inr ⟨by simp, _, hr.known hg, H⟩
      case tuple vs =>
        refine .inr ⟨?_, e, hr, H⟩
        cases hu : a.tmps[d]? with
        | none => simp
        | some u => rw [hget u hu]; simp

theorem vcOps_sound {n : Nat} {ops : Array Oper} {Q : Exit → Act → World → Prop} : ∀ {l : List Oper} {e : Env} {a : Act} {h : Heap} {w : World} {K : Env → Heap → Prop}, Rel n e a → w.heap = h →
    vcOps P n ops.toList l e h K → (∀ e' a' w', Rel n e' a' → Alike w w' → K e' w'.heap → Q .normal a' w') → wpList P ops Q l a w
  | [], e, a, h, w, K, hr, hw, H, hq => hq e a w hr (Alike.refl w) (by rw [hw]; exact H)
  | o :: r, e, a, h, w, K, hr, hw, H, hq => by
    have run : ∀ {e : Env}, Rel n e a → Region.wanted o (yielded ops a.tmps) = true → (vcOp P e.ev o h fun v h' => putE n o.dst v e fun e' => vcOps P n ops.toList r e' h' K) → wpList P ops Q (o :: r) a w := by
      intro e hr hwant hv
      unfold wpList
      rw [if_pos hwant]
      refine .inl (vcOp_sound (fun x v hx => hr.ev hx) hv hw ?_)
      intro v w' hal hp
      obtain ⟨e', hr', hv'⟩ := putE_elim hp hr
      exact vcOps_sound hr' rfl hv' fun e'' a'' w'' h1 h2 h3 => hq e'' a'' w'' h1 (hal.trans h2) h3
    simp only [vcOps] at H
    cases hg : o.guard with
    | none =>
      rw [hg] at H
      exact run hr (by simp [Region.wanted, hg]) H
    | some g =>
      obtain ⟨j, want⟩ := g
      rw [hg] at H
      simp only at H
      rcases guardE_elim hr H with ⟨hy, e', hr', hyes⟩ | ⟨hy, e', hr', hno⟩
      · exact run hr' (by simp [Region.wanted, hg, hy]) hyes
      · unfold wpList
        rw [if_neg (by simpa [Region.wanted, hg] using hy)]
        obtain ⟨e'', hr'', hv'⟩ := putE_elim hno hr'
        exact vcOps_sound hr'' hw hv' hq

/-! ### Regions that draw their order -/
/-- Operations that leave all cells that are there as they are. -/
def isMake : Op → Bool
  | .alloc _ | .box _ _ | .makeSlice _ _ _ | .buildSlice _ _ _ => true
  | _ => false

def isVal : Op → Bool
  | .move _ | .assign _ | .pick _ _ _ | .load _ _ | .nilCheck _ | .binOp _ _ _ _ _ | .unOp _ _ _ | .convert _ _ _ | .makeInterface _ _ | .makeFunc _ _ _
  | .slice _ _ _ _ _ | .fieldAddr _ _ _ | .field _ _ _ | .indexAddr _ _ _ | .index _ _ _ | .extract _ _ | .build _ _ => true
  | .call c => match c.callee with
    | .builtin .len | .builtin .cap | .builtin .min | .builtin .max => true
    | _ => false
  | _ => false

def isCalm (op : Op) : Bool := isVal op || isMake op

theorem vcOp_val {ev : Operand → Option Value} {o : Oper} {h : Heap} {K : Value → Heap → Prop} (hv : isVal o.op = true) (H : vcOp P ev o h K) : valOp P ev o.op h fun v => K v h := by
  obtain ⟨dst, op, type, pos, after, guard⟩ := o
  unfold vcOp at H
  cases op <;> simp only [isVal] at hv H ⊢ <;> first | exact H | (cases hv; done) | skip
  rename_i c
  obtain ⟨callee, args, argTypes⟩ := c
  cases callee with
  | builtin b => cases b <;> first | exact H | (simp at hv; done)
  | invoke r m => simp at hv
  | value f => simp at hv

theorem hcell_push {h : Heap} {o : Obj} : HExt h (h.push o) := by
  intro a v hv
  unfold hcell at *
  have : a.block < h.size := by
    rcases Nat.lt_or_ge a.block h.size with h' | h'
    · exact h'
    · rw [Array.getElem?_eq_none h'] at hv; cases hv
  rw [Array.getElem?_push, if_neg (by omega)]
  exact hv

theorem vcOp_make {ev : Operand → Option Value} {o : Oper} {h : Heap} {K : Value → Heap → Prop} (hv : isMake o.op = true) (H : vcOp P ev o h K) : vcOp P ev o h fun v h' => HExt h h' ∧ K v h' := by
  obtain ⟨dst, op, type, pos, after, guard⟩ := o
  unfold vcOp at H ⊢
  cases op <;> simp only [isMake] at hv H ⊢ <;> (try cases hv; done)
  case alloc t =>
    simp only [effOp] at H ⊢
    unfold allocP at H ⊢
    cases hz : hasZero P t <;> rw [hz] at H
    · exact H.elim
    · exact ⟨hcell_push, H⟩
  case box t x =>
    simp only [effOp] at H ⊢
    split at H
    · unfold boxP at H ⊢
      cases hz : zeroAgg P t <;> rw [hz] at H <;> simp only [cond_true, cond_false] at H ⊢
      · split at H
        · exact H.elim
        · exact ⟨hcell_push, H⟩
      · split at H
        · exact ⟨hcell_push, H⟩
        · exact H.elim
    · exact H.elim
  case makeSlice t l c =>
    simp only [effOp] at H ⊢
    split at H
    · unfold mkSlP at H ⊢
      split at H
      · rename_i e kl l' kc c' hd hl' hc'
        cases hz : hasZero P e <;> rw [hz] at H
        · exact H.elim
        · obtain ⟨h0, h1, h2, h3, hK⟩ := H
          exact ⟨h0, h1, h2, h3, hcell_push, hK⟩
      · exact H.elim
    · exact H.elim
  case buildSlice t n ps =>
    simp only [effOp] at H ⊢
    split at H
    · unfold bldSlP at H ⊢
      split at H
      · rename_i e hd
        cases hz : (hasZero P e && Nat.ble (n * typeSize P e) 16777216 && Nat.blt 0 (typeSize P e) && Nat.beq (zcells P e).length (typeSize P e)) <;> rw [hz] at H
        · exact H.elim
        · simp only [cond_true] at H ⊢
          split at H
          · exact ⟨hcell_push, H⟩
          · exact H.elim
      · exact H.elim
    · exact H.elim

section
variable {ops : Array Oper} {Q : Exit → Act → World → Prop}

/-- In state 'a' operation 'o' yields 'v' in every world of the class, or it is passed over. -/
def YieldsG (P : Program) (ops : Array Oper) (C : World → Prop) (o : Oper) (v : Value) (a : Act) : Prop :=
  (Region.wanted o (yielded ops a.tmps) = true ∧ Yields P (execOp a.eval o) C v) ∨ (Region.wanted o (yielded ops a.tmps) = false ∧ v = undef)

theorem YieldsG.of_same {C : World → Prop} {o : Oper} {v : Value} {a a' : Act} (hy : YieldsG P ops C o v a) (he : execOp a'.eval o = execOp a.eval o)
    (hw : Region.wanted o (yielded ops a'.tmps) = Region.wanted o (yielded ops a.tmps)) : YieldsG P ops C o v a' := by
  unfold YieldsG at *
  rw [he, hw]
  exact hy

/-- Every order that the edges leave open; a calm operation leaves the cells as they are. -/
def wpAnyE (P : Program) (ops : Array Oper) (Q : Exit → Act → World → Prop) : Nat → Array Bool → Act → World → Prop
  | 0, listed, a, w => Region.ready .any ops listed = [] ∧ Q .normal a w
  | fuel + 1, listed, a, w => (Region.ready .any ops listed = [] → Q .normal a w) ∧
    ∀ i ∈ Region.ready .any ops listed, wpOp P ops Q i (fun a' w' => ((∀ o, ops[i]? = some o → isCalm o.op = true → HExt w.heap w'.heap)) ∧ wpAnyE P ops Q fuel (listed.setIfInBounds i true) a' w') a w

theorem wpAny_of_E : ∀ (fuel : Nat) (listed : Array Bool) (a : Act) (w : World), wpAnyE P ops Q fuel listed a w → wpAny P .any ops Q fuel listed a w
  | 0, _, _, _, h => h
  | fuel + 1, _, _, _, h => ⟨h.1, fun i hi => wpOp_mono (fun a' w' h' => wpAny_of_E fuel _ a' w' h'.2) (h.2 i hi)⟩

theorem wpOp_putC {j : Nat} {oi oj : Oper} {v : Value} {C : World → Prop} (hj : ops[j]? = some oj) (hap : oi.apart ops oj = true)
    (hsi : ∀ cs b, oi.op ≠ .select cs b) (hsj : ∀ cs b, oj.op ≠ .select cs b) (hQ : ∀ c a w, ¬ Q (.panic c) a w) {K : Act → World → Prop} {a : Act} {w : World}
    (hy : YieldsG P ops C oi v a) (h : wpOp P ops Q j K (a.put oi.dst v) w) :
    wpOp P ops Q j (fun a' w' => YieldsG P ops C oi v a' ∧ K (a'.put oi.dst v) w') a w := by
  obtain ⟨h1, h2, h3⟩ := Oper.apart_spec hap
  have keep : ∀ (a : Act), YieldsG P ops C oi v a → ∀ u, YieldsG P ops C oi v (a.put oj.dst u) := fun a hy u =>
    hy.of_same (execOp_put oi hsi a oj.dst u h3) (wanted_put oi a oj.dst u h3)
  have keepD : ∀ d, YieldsG P ops C oi v { a with defers := d :: a.defers } := fun d => hy.of_same rfl rfl
  unfold wpOp at *
  simp only [hj] at *
  rw [wanted_put oj a oi.dst v h1] at h
  split
  · rename_i hw
    simp only [hw, if_true] at h
    rcases h with h | ⟨hasks, hlets⟩
    case inr => exact .inr ⟨by unfold Oper.asks at *; rw [execOp_put oj hsj a oi.dst v h1] at hasks; exact hasks, hlets⟩
    refine .inl ?_
    unfold Oper.wp at *
    rw [execOp_put oj hsj a oi.dst v h1] at h
    generalize (execOp a.eval oj).run P w = r at *
    cases r with
    | ok n w' =>
      cases n <;> simp only [Oper.upon] at h ⊢
      case value u => exact ⟨keep a hy u, by rw [← Act.put_comm a v u h2]; exact h⟩
      case skip => exact ⟨keep a hy _, by rw [← Act.put_comm a v undef h2]; exact h⟩
      case defer d =>
        refine ⟨keep _ (keepD d) _, ?_⟩
        rw [← Act.put_comm _ v undef h2, ← Act.put_defers]
        exact h
      case enter f args =>
        refine Calls.mono h fun e w'' he => ?_
        cases e with
        | returned u => exact ⟨keep a hy u, by rw [← Act.put_comm a v u h2]; exact he⟩
        | panicked c => exact (hQ _ _ _ he).elim
        | outgrown => exact he
      case row row args => exact Rows.mono h fun u w'' he => ⟨keep a hy u, by rw [← Act.put_comm a v u h2]; exact he⟩
    | halt x w' =>
      cases x <;> simp only [Oper.upon] at h ⊢
      case panic u => exact (hQ _ _ _ h).elim
  · rename_i hw
    simp only [hw] at h
    exact ⟨keep a hy _, by rw [← Act.put_comm a v undef h2]; exact h⟩

/-- Whatever is listed, what it waits for is listed, too. -/
def Closed (ops : Array Oper) (listed : Array Bool) : Prop :=
  ∀ j oj, ops[j]? = some oj → listed.getD j false = true → ∀ e ∈ oj.after, Region.binds .any e = true → listed.getD e.on false = true

theorem Closed.set {listed : Array Bool} {i : Nat} (hc : Closed ops listed) (hi : i ∈ Region.ready .any ops listed) : Closed ops (listed.setIfInBounds i true) := by
  intro j oj hj hl e he hb
  by_cases hij : i = j
  · subst hij
    obtain ⟨_, oi, hoi, hall⟩ := mem_ready.1 hi
    have : oj = oi := Option.some.inj (hj.symm.trans hoi)
    subst this
    exact getD_set_true (hall e he hb)
  · rw [getD_set_ne false hij] at hl
    exact getD_set_true (hc j oj hj hl e he hb)

/-- What an operation waits for, through others too. -/
inductive Anc (ops : Array Oper) : Nat → Nat → Prop
  | one {j oj e} : ops[j]? = some oj → e ∈ oj.after → Region.binds .any e = true → Anc ops j e.on
  | more {j oj e i} : ops[j]? = some oj → e ∈ oj.after → Region.binds .any e = true → Anc ops e.on i → Anc ops j i

theorem Anc.listed {listed : Array Bool} (hc : Closed ops listed) : ∀ {j i : Nat}, Anc ops j i → ∀ oj, ops[j]? = some oj → (∀ e ∈ oj.after, Region.binds .any e = true → listed.getD e.on false = true) → listed.getD i false = true
  | _, _, .one (e := e) hj he hb, oj, hoj, hall => by
    have := Option.some.inj (hj.symm.trans hoj)
    subst this
    exact hall e he hb
  | _, _, .more (e := e) hj he hb han, oj, hoj, hall => by
    have := Option.some.inj (hj.symm.trans hoj)
    subst this
    have hl := hall e he hb
    cases hk : ops[e.on]? with
    | none => cases han <;> simp_all
    | some ok => exact Anc.listed hc han ok hk (fun e' he' hb' => hc _ ok hk hl e' he' hb')

theorem wpAnyE_first {i : Nat} {oi : Oper} {v : Value} {C : World → Prop} (hi : ops[i]? = some oi) (hsel : ∀ (j : Nat) (o : Oper) cs b, ops[j]? = some o → o.op ≠ .select cs b)
    (hQ : ∀ c a w, ¬ Q (.panic c) a w) (hCx : ∀ w w' : World, C w → HExt w.heap w'.heap → C w') :
    ∀ (fuel : Nat) (listed : Array Bool) (a : Act) (w : World), C w → Closed ops listed →
      (∀ j oj, ops[j]? = some oj → j ≠ i → listed.getD j true = false → ¬ Anc ops j i → oi.apart ops oj = true ∧ (isCalm oj.op = true ∨ ∀ w, C w)) →
      i ∈ Region.ready .any ops listed → YieldsG P ops C oi v a →
      wpAnyE P ops Q fuel (listed.setIfInBounds i true) (a.put oi.dst v) w → wpAnyE P ops Q (fuel + 1) listed a w := by
  have now : ∀ {K : Act → World → Prop} {a : Act} {w : World}, C w → YieldsG P ops C oi v a → (∀ h : HExt w.heap w.heap, K (a.put oi.dst v) w) → wpOp P ops Q i K a w := by
    intro K a w hw hy hK
    unfold wpOp
    simp only [hi]
    rcases hy with ⟨hwant, hv⟩ | ⟨hwant, rfl⟩
    · simp only [hwant, if_true, Oper.wp, hv w hw, Oper.upon]; exact .inl (hK (HExt.refl _))
    · simp only [hwant, Bool.false_eq_true, if_false]; exact hK (HExt.refl _)
  have notAnc : ∀ {listed : Array Bool} {j : Nat}, Closed ops listed → i ∈ Region.ready .any ops listed → j ∈ Region.ready .any ops listed → ¬ Anc ops j i := by
    intro listed j hc hr hj han
    obtain ⟨_, oj, hoj, hall⟩ := mem_ready.1 hj
    have h1 := han.listed hc oj hoj hall
    have h0 := (mem_ready.1 hr).1
    rcases Nat.lt_or_ge i listed.size with h' | h'
    · simp [h'] at h0 h1; rw [h0] at h1; cases h1
    · simp [Array.getElem?_eq_none h'] at h1
  intro fuel
  induction fuel with
  | zero =>
    intro listed a w hCw hc _ hr hy H
    refine ⟨fun h => (by rw [h] at hr; cases hr), fun j hj => ?_⟩
    by_cases hji : j = i
    · subst hji; exact now hCw hy fun hx => ⟨fun _ _ _ => hx, H⟩
    · have := ready_mono hj hji
      rw [H.1] at this
      cases this
  | succ fuel ih =>
    intro listed a w hCw hc hfree hr hy H
    refine ⟨fun h => (by rw [h] at hr; cases hr), fun j hj => ?_⟩
    by_cases hji : j = i
    · subst hji; exact now hCw hy fun hx => ⟨fun _ _ _ => hx, H⟩
    · have h1 := H.2 j (ready_mono hj hji)
      obtain ⟨hjun, oj, hoj, hall⟩ := mem_ready.1 hj
      obtain ⟨hap, hcalm⟩ := hfree j oj hoj hji hjun (notAnc hc hr hj)
      have h2 := wpOp_putC hoj hap (fun cs b => hsel i oi cs b hi) (fun cs b => hsel j oj cs b hoj) hQ hy h1
      have hfree' : ∀ k ok, ops[k]? = some ok → k ≠ i → (listed.setIfInBounds j true).getD k true = false → ¬ Anc ops k i → oi.apart ops ok = true ∧ (isCalm ok.op = true ∨ ∀ w, C w) := fun k ok hk hki hun hno => by
        refine hfree k ok hk hki ?_ hno
        by_cases hjk : j = k
        · subst hjk; exact hjun
        · rw [getD_set_ne true hjk] at hun; exact hun
      refine wpOp_mono (fun a' w' h3 => ?_) h2
      refine ⟨h3.2.1, ?_⟩
      have hCw' : C w' := by
        rcases hcalm with hcalm | hall'
        · exact hCx w w' hCw (h3.2.1 oj hoj hcalm)
        · exact hall' w'
      refine ih (listed.setIfInBounds j true) a' w' hCw' (hc.set hj) hfree' (ready_mono hr (Ne.symm hji)) h3.1 ?_
      rw [Array.setIfInBounds_comm _ _ hji]
      exact h3.2.2

/-- The masks of what each operation waits for, through others too: bit i of mask j. -/
def maskOf (ms : List Nat) (o : Oper) : Nat := o.after.toList.foldl (fun s e => bif Region.binds .any e then s ||| 2 ^ e.on ||| ms.getD e.on 0 else s) 0

def masks : List Oper → List Nat → List Nat
  | [], acc => acc
  | o :: r, acc => masks r (acc ++ [maskOf acc o])

theorem maskOf_anc {ms : List Nat} {j : Nat} {o : Oper} (ho : ops[j]? = some o) (hms : ∀ k i, (ms.getD k 0).testBit i = true → Anc ops k i) : ∀ i, (maskOf ms o).testBit i = true → Anc ops j i := by
  have key : ∀ (l : List Edge) (s : Nat), (∀ e ∈ l, e ∈ o.after) → (∀ i, s.testBit i = true → Anc ops j i) →
      ∀ i, (l.foldl (fun s e => bif Region.binds .any e then s ||| 2 ^ e.on ||| ms.getD e.on 0 else s) s).testBit i = true → Anc ops j i := by
    intro l
    induction l with
    | nil => intro s _ hs i hi; exact hs i hi
    | cons e r ih =>
      intro s hl hs i hi
      refine ih _ (fun e' he' => hl e' (List.mem_cons_of_mem _ he')) ?_ i hi
      intro i hi
      simp only at hi
      cases hb : Region.binds .any e with
      | false => rw [hb] at hi; exact hs i hi
      | true =>
        rw [hb] at hi
        simp only [cond_true, Nat.testBit_or, Bool.or_eq_true] at hi
        rcases hi with (hi | hi) | hi
        · exact hs i hi
        · rw [Nat.testBit_two_pow] at hi
          have : e.on = i := by simpa using hi
          subst this
          exact .one ho (hl e List.mem_cons_self) hb
        · exact .more ho (hl e List.mem_cons_self) hb (hms _ _ hi)
  intro i hi
  exact key o.after.toList 0 (fun e he => by simpa using he) (fun i h => by simp at h) i hi

theorem masks_anc : ∀ (l : List Oper) (acc : List Nat), (∀ k, l[k]? = ops[acc.length + k]?) → (∀ k i, (acc.getD k 0).testBit i = true → Anc ops k i) →
    ∀ k i, ((masks l acc).getD k 0).testBit i = true → Anc ops k i
  | [], acc, _, h => h
  | o :: r, acc, hl, h => by
    refine masks_anc r _ (fun k => by have := hl (k + 1); simpa [Nat.add_assoc, Nat.add_comm 1 k] using this) ?_
    intro k i hi
    have h0 : ops[acc.length]? = some o := by simpa using (hl 0).symm
    by_cases hk : k < acc.length
    · rw [List.getD_eq_getElem?_getD, List.getElem?_append_left hk, ← List.getD_eq_getElem?_getD] at hi
      exact h k i hi
    · by_cases hk2 : k = acc.length
      · subst hk2
        rw [List.getD_eq_getElem?_getD, List.getElem?_append_right (Nat.le_refl _)] at hi
        simp at hi
        exact maskOf_anc h0 h i hi
      · rw [List.getD_eq_getElem?_getD, List.getElem?_eq_none (by simp; omega)] at hi
        simp at hi

def freeE (ops : Array Oper) (ms : List Nat) (listed : Array Bool) (i : Nat) (oi : Oper) : Bool :=
  (List.range ops.size).all fun j => Nat.beq j i || listed.getD j true || (ms.getD j 0).testBit i || match ops[j]? with
    | some oj => oi.apart ops oj && (isCalm oj.op || !isLoad oi.op)
    | none => true

/-- What holds of each. -/
def allC : List Nat → (Nat → Prop) → Prop
  | [], _ => True
  | [i], F => F i
  | i :: r, F => F i ∧ allC r F

theorem allC_elim {F : Nat → Prop} : ∀ {l : List Nat}, allC l F → ∀ i ∈ l, F i
  | [], _, i, h => by cases h
  | [k], H, i, h => by
    have : i = k := by simpa using h
    subst this; exact H
  | k :: j :: r, H, i, h => by
    rcases List.mem_cons.1 h with rfl | h
    · exact H.1
    · exact allC_elim H.2 i h

/-- Operation i comes up. -/
def stepI (P : Program) (n : Nat) (ops : List Oper) (i : Nat) (e : Env) (h : Heap) (K : Env → Heap → Prop) : Prop :=
  match ops[i]? with
  | none => False
  | some o => match o.guard with
    | none => vcOp P e.ev o h fun v h' => putE n o.dst v e fun e' => K e' h'
    | some (j, want) => guardE (guardSlot ops j) want e
        (fun e => vcOp P e.ev o h fun v h' => putE n o.dst v e fun e' => K e' h')
        (fun e => putE n o.dst undef e fun e' => K e' h)

def pickI (ops : Array Oper) (ms : List Nat) (listed : Array Bool) (ready : List Nat) : Option Nat :=
  ready.find? fun i => match ops[i]? with
    | some o => isVal o.op && freeE ops ms listed i o
    | none => false

/-- Whatever order the edges leave open: what may be taken first is; else each that may come up is asked for. -/
def vcAny (P : Program) (n : Nat) (ops : List Oper) (ms : List Nat) : Nat → Array Bool → Env → Heap → (Env → Heap → Prop) → Prop
  | 0, listed, e, h, K => match Region.ready .any ops.toArray listed with
    | [] => K e h
    | _ => False
  | f + 1, listed, e, h, K => match Region.ready .any ops.toArray listed with
    | [] => K e h
    | i :: r => match pickI ops.toArray ms listed (i :: r) with
      | some k => stepI P n ops k e h fun e h => vcAny P n ops ms f (listed.setIfInBounds k true) e h K
      | none => allC (i :: r) fun k => stepI P n ops k e h fun e h => vcAny P n ops ms f (listed.setIfInBounds k true) e h K

theorem stepI_elim {n i : Nat} {e : Env} {a : Act} {h : Heap} {K : Env → Heap → Prop} (hr : Rel n e a) (H : stepI P n ops.toList i e h K) :
    ∃ o, ops[i]? = some o ∧ ((Region.wanted o (yielded ops a.tmps) = true ∧ ∃ e, Rel n e a ∧ vcOp P e.ev o h fun v h' => putE n o.dst v e fun e' => K e' h') ∨
      (Region.wanted o (yielded ops a.tmps) = false ∧ ∃ e, Rel n e (a.put o.dst undef) ∧ K e h)) := by
  unfold stepI at H
  cases ho : ops.toList[i]? with
  | none => rw [ho] at H; exact H.elim
  | some o =>
    rw [ho] at H
    refine ⟨o, by simpa using ho, ?_⟩
    simp only at H
    cases hg : o.guard with
    | none => rw [hg] at H; exact .inl ⟨by simp [Region.wanted, hg], e, hr, H⟩
    | some g =>
      obtain ⟨j, want⟩ := g
      rw [hg] at H
      simp only at H
      rcases guardE_elim hr H with ⟨hy, e', hr', hyes⟩ | ⟨hy, e', hr', hno⟩
      · exact .inl ⟨by simp [Region.wanted, hg, hy], e', hr', hyes⟩
      · obtain ⟨e'', hr'', hv'⟩ := putE_elim hno hr'
        exact .inr ⟨by simpa [Region.wanted, hg] using hy, e'', hr'', hv'⟩

theorem vcAny_sound {n : Nat} {ms : List Nat} (hms : ∀ k i, (ms.getD k 0).testBit i = true → Anc ops k i) (hns : Region.noSelect ops = true) (hQ : ∀ c a w, ¬ Q (.panic c) a w) :
    ∀ (fuel : Nat) (listed : Array Bool) (e : Env) (a : Act) (h : Heap) (w : World) (K : Env → Heap → Prop), Closed ops listed → Rel n e a → w.heap = h →
      vcAny P n ops.toList ms fuel listed e h K → (∀ e' a' w', Rel n e' a' → Alike w w' → K e' w'.heap → Q .normal a' w') → wpAnyE P ops Q fuel listed a w
  | 0, listed, e, a, h, w, K, hc, hr, hw, H, hq => by
    unfold vcAny at H
    rw [Array.toArray_toList] at H
    cases hrd : Region.ready .any ops listed with
    | nil => rw [hrd] at H; exact ⟨hrd, hq e a w hr (Alike.refl w) (by rw [hw]; exact H)⟩
    | cons i r => rw [hrd] at H; exact H.elim
  | fuel + 1, listed, e, a, h, w, K, hc, hr, hw, H, hq => by
    unfold vcAny at H
    rw [Array.toArray_toList] at H
    cases hrd : Region.ready .any ops listed with
    | nil =>
      rw [hrd] at H
      exact ⟨fun _ => hq e a w hr (Alike.refl w) (by rw [hw]; exact H), fun i hi => by rw [hrd] at hi; cases hi⟩
    | cons i0 r =>
      rw [hrd] at H
      simp only at H
      -- what the rest gives
      have rest : ∀ {k : Nat}, k ∈ Region.ready .any ops listed → ∀ {e' : Env} {a' : Act} {w' : World}, Rel n e' a' → Alike w w' → vcAny P n ops.toList ms fuel (listed.setIfInBounds k true) e' w'.heap K →
          wpAnyE P ops Q fuel (listed.setIfInBounds k true) a' w' := by
        intro k hk e' a' w' hr' hal hv
        exact vcAny_sound hms hns hQ fuel _ e' a' w'.heap w' K (hc.set hk) hr' rfl hv fun e'' a'' w'' h1 h2 h3 => hq e'' a'' w'' h1 (hal.trans h2) h3
      cases hp : pickI ops ms listed (i0 :: r) with
      | some k =>
        rw [hp] at H
        simp only at H
        have hmem : k ∈ Region.ready .any ops listed := by rw [hrd]; exact List.mem_of_find?_eq_some hp
        have hcond := List.find?_some hp
        obtain ⟨o, h0, hcases⟩ := stepI_elim hr H
        simp only [h0, Bool.and_eq_true] at hcond
        obtain ⟨hval, hfree⟩ := hcond
        have hfree' : ∀ (C : World → Prop), (isLoad o.op = true ∨ ∀ w, C w) → ∀ j oj, ops[j]? = some oj → j ≠ k → listed.getD j true = false → ¬ Anc ops j k → o.apart ops oj = true ∧ (isCalm oj.op = true ∨ ∀ w, C w) := by
          intro C hCl j oj hj hjk hun hno
          unfold freeE at hfree
          have hlt : j < ops.size := (Array.getElem?_eq_some_iff.1 hj).1
          have h1 := List.all_eq_true.1 hfree j (List.mem_range.2 hlt)
          simp only [hj, Bool.or_eq_true, Bool.and_eq_true, Bool.not_eq_true'] at h1
          rcases h1 with ((h1 | h1) | h1) | ⟨h1, h2⟩
          · exact absurd (Nat.eq_of_beq_eq_true h1) hjk
          · rw [hun] at h1; cases h1
          · exact absurd (hms _ _ h1) hno
          · refine ⟨h1, ?_⟩
            rcases h2 with h2 | h2
            · exact .inl h2
            · rcases hCl with hCl | hCl
              · rw [h2] at hCl; cases hCl
              · exact .inr hCl
        rcases hcases with ⟨hwant, e1, hr1, hv⟩ | ⟨hunw, e1, hr1, hv⟩
        · have hv' := vcOp_val hval hv
          cases hld : isLoad o.op with
          | false =>
            obtain ⟨v, hpu, hy⟩ := valOp_sound (P := P) (fun x v hx => hr1.ev hx) hv' (C := fun _ => True) (.inl hld)
            obtain ⟨e', hr', hv''⟩ := putE_elim hpu hr1
            exact wpAnyE_first h0 (Region.noSelect_spec hns) hQ (fun _ _ _ _ => trivial) _ listed a w trivial hc (hfree' _ (.inr fun _ => trivial)) hmem (.inl ⟨hwant, hy⟩) (rest hmem hr' (Alike.refl w) (by rw [hw]; exact hv''))
          | true =>
            obtain ⟨v, hpu, hy⟩ := valOp_sound (P := P) (fun x v hx => hr1.ev hx) hv' (C := fun w' => HExt h w'.heap) (.inr fun _ h => h)
            obtain ⟨e', hr', hv''⟩ := putE_elim hpu hr1
            exact wpAnyE_first h0 (Region.noSelect_spec hns) hQ (fun _ _ h1 h2 => h1.trans h2) _ listed a w (by rw [hw]; exact HExt.refl _) hc (hfree' _ (.inl hld)) hmem (.inl ⟨hwant, hy⟩) (rest hmem hr' (Alike.refl w) (by rw [hw]; exact hv''))
        · cases hld : isLoad o.op with
          | false =>
            exact wpAnyE_first (C := fun _ => True) h0 (Region.noSelect_spec hns) hQ (fun _ _ _ _ => trivial) _ listed a w trivial hc (hfree' _ (.inr fun _ => trivial)) hmem (.inr ⟨hunw, rfl⟩) (rest hmem hr1 (Alike.refl w) (by rw [hw]; exact hv))
          | true =>
            exact wpAnyE_first (C := fun w' => HExt h w'.heap) h0 (Region.noSelect_spec hns) hQ (fun _ _ h1 h2 => h1.trans h2) _ listed a w (by rw [hw]; exact HExt.refl _) hc (hfree' _ (.inl hld)) hmem (.inr ⟨hunw, rfl⟩) (rest hmem hr1 (Alike.refl w) (by rw [hw]; exact hv))
      | none =>
        rw [hp] at H
        simp only at H
        refine ⟨fun h1 => (by rw [hrd] at h1; cases h1), fun k hk => ?_⟩
        have hstep := allC_elim H k (by rw [hrd] at hk; exact hk)
        obtain ⟨o, h0, hcases⟩ := stepI_elim hr hstep
        unfold wpOp
        rcases hcases with ⟨hwant, e1, hr1, hv⟩ | ⟨hunw, e1, hr1, hv⟩
        · simp only [h0, hwant, if_true]
          refine .inl ?_
          cases hmk : isMake o.op with
          | true =>
            refine vcOp_sound (fun x v hx => hr1.ev hx) (vcOp_make hmk hv) hw ?_
            intro v w' hal hh
            obtain ⟨e', hr', hv'⟩ := putE_elim hh.2 hr1
            exact ⟨fun _ _ _ => by rw [hw]; exact hh.1, rest hk hr' hal hv'⟩
          | false =>
            cases hvl : isVal o.op with
            | true =>
              obtain ⟨v, hpu, hy⟩ := valOp_sound (P := P) (fun x v hx => hr1.ev hx) (vcOp_val hvl hv) (C := fun w' => w' = w) (.inr fun w' hw' => by subst hw'; rw [hw]; exact HExt.refl _)
              obtain ⟨e', hr', hv'⟩ := putE_elim hpu hr1
              unfold Oper.wp
              rw [hy w rfl]
              exact ⟨fun _ _ _ => HExt.refl _, rest hk hr' (Alike.refl w) (by rw [hw]; exact hv')⟩
            | false =>
              refine vcOp_sound (fun x v hx => hr1.ev hx) hv hw ?_
              intro v w' hal hh
              obtain ⟨e', hr', hv'⟩ := putE_elim hh hr1
              refine ⟨fun o' ho' hcalm => ?_, rest hk hr' hal hv'⟩
              have := Option.some.inj ho'
              subst this
              simp [isCalm, hmk, hvl] at hcalm
        · simp only [h0, hunw, Bool.false_eq_true, if_false]
          exact ⟨fun _ _ _ => HExt.refl _, rest hk hr1 (Alike.refl w) (by rw [hw]; exact hv)⟩
end

/-- A region. -/
def regVC (P : Program) (n : Nat) (draw : Bool) (ops : List Oper) (e : Env) (h : Heap) (K : Env → Heap → Prop) : Prop :=
  match draw with
  | false => vcOps P n ops ops e h K
  | true => bif P.follows .mixedOrders && Region.noSelect ops.toArray then vcAny P n ops (masks ops []) ops.length (Array.replicate ops.length false) e h K else False

theorem regVC_sound {n : Nat} {draw : Bool} {id : Nat} {ops : Array Oper} {Q : Exit → Act → World → Prop} {e : Env} {a : Act} {h : Heap} {w : World} {K : Env → Heap → Prop} (hr : Rel n e a) (hw : w.heap = h)
    (hQ : ∀ c a w, ¬ Q (.panic c) a w)
    (H : regVC P n draw ops.toList e h K) (hq : ∀ e' a' w', Rel n e' a' → Alike w w' → K e' w'.heap → Q .normal a' w') : (Code.region id ops draw).wp P Q a w := by
  cases draw with
  | false => exact wp_region_list (vcOps_sound hr hw H hq)
  | true =>
    simp only [regVC] at H
    cases hb : P.follows .mixedOrders && Region.noSelect ops.toList.toArray with
    | false => rw [hb] at H; exact H.elim
    | true =>
      rw [hb] at H
      simp only [Bool.and_eq_true, Array.toArray_toList] at hb
      obtain ⟨hm, hns⟩ := hb
      have hal : Alike w { w with drawn := w.drawn + 1 } := ⟨rfl, rfl, rfl⟩
      refine wp_region_any hm (wpAny_of_E _ _ _ _ ?_)
      have hms := masks_anc (ops := ops) ops.toList [] (fun k => by simp) (fun k i h => by simp at h)
      have := vcAny_sound (P := P) (n := n) hms hns hQ ops.toList.length (Array.replicate ops.toList.length false) e a h { w with drawn := w.drawn + 1 } K
        (fun j oj _ hl => by rw [getD_replicate_false] at hl; cases hl) hr hw H (fun e' a' w' h1 h2 h3 => hq e' a' w' h1 (hal.trans h2) h3)
      simpa using this

end Go.Vc
