/- A part of the calculus over heaps, or of the proof over it: what functions of the program compute, and the plain law. -/
import Derived.Test.YtibleenkgmkpmaaDoorText1
import Derived.Deep.LoopGhost
import Derived.OpenShut
import Derived.Carry
import Derived.ChangeSlices
import Derived.WalkKit
import Derived.ProofKit
import Derived.Lib.LaidTab
import Derived.LaidLaws
import Derived.Lib.TrailingZeros

namespace Go.Vc
variable {P : Program}

/-! ### Calls -/
/-- Function f, called so, enters, ends, and leaves a value and a heap of which K holds. -/
def CallsH (P : Program) (f : FuncId) (args : Array Value) (h : Heap) (K : Value → Heap → Prop) : Prop :=
  (∀ w : World, (callFunc f args).run P w = .ok (.enter f args) w) ∧
    ∀ w : World, w.heap = h → Calls P f args w fun e w' => ∃ v, e = .returned v ∧ Alike w w' ∧ K v w'.heap

theorem CallsH.mono {f : FuncId} {args : Array Value} {h : Heap} {K K' : Value → Heap → Prop} (H : CallsH P f args h K) (hk : ∀ v h', K v h' → K' v h') : CallsH P f args h K' :=
  ⟨H.1, fun w hw => (H.2 w hw).mono fun _ _ ⟨v, he, ha, hK⟩ => ⟨v, he, ha, hk _ _ hK⟩⟩

def quantCells : List Value → List Value → (List Value → Prop) → Prop
  | [], acc, K => K acc.reverse
  | z :: zs, acc, K => quant1 z fun v => quantCells zs (v :: acc) K

theorem quantCells_elim : ∀ {zs acc : List Value} {K : List Value → Prop}, quantCells zs acc K → ∃ l, K l
  | [], acc, K, h => ⟨_, h⟩
  | z :: zs, acc, K, h => by
    obtain ⟨v, h⟩ := quant1_elim h
    exact quantCells_elim h

def quant2 (z : Value) (K : Value → Prop) : Prop :=
  match z with
  | .agg zs => quantCells zs.toList [] fun l => K (.agg l.toArray)
  | z => quant1 z K

theorem quant2_elim {z : Value} {K : Value → Prop} (h : quant2 z K) : ∃ v, K v := by
  unfold quant2 at h
  split at h
  · obtain ⟨l, h⟩ := quantCells_elim h; exact ⟨_, h⟩
  · exact quant1_elim h

def quantTup : List Value → List Value → (List Value → Prop) → Prop
  | [], acc, K => K acc.reverse
  | z :: zs, acc, K => quant2 z fun v => quantTup zs (v :: acc) K

theorem quantTup_elim : ∀ {zs acc : List Value} {K : List Value → Prop}, quantTup zs acc K → ∃ l, K l
  | [], acc, K, h => ⟨_, h⟩
  | z :: zs, acc, K, h => by
    obtain ⟨v, h⟩ := quant2_elim h
    exact quantTup_elim h

def quantT (z : Value) (K : Value → Prop) : Prop :=
  match z with
  | .tuple zs => quantTup zs.toList [] fun l => K (.tuple l.toArray)
  | z => quant2 z K

theorem quantT_elim {z : Value} {K : Value → Prop} (h : quantT z K) : ∃ v, K v := by
  unfold quantT at h
  split at h
  · obtain ⟨l, h⟩ := quantTup_elim h; exact ⟨_, h⟩
  · exact quant2_elim h

def exposeR (P : Program) (t : TypeId) (v : Value) (K : Value → Prop) : Prop :=
  match P.info? t with
  | some i => match i.zero with
    | some z => quantT z fun v' => v = v' ∧ K v'
    | none => False
  | none => False

theorem exposeR_elim {t : TypeId} {v : Value} {K : Value → Prop} (h : exposeR P t v K) : K v := by
  unfold exposeR at h
  split at h
  · split at h
    · obtain ⟨v', rfl, hK⟩ := quantT_elim h; exact hK
    · exact h.elim
  · exact h.elim

/-- A function value, called. -/
def callVP (P : Program) (f : Value) (vs : List Value) (h : Heap) (K : Value → Heap → Prop) : Prop :=
  match f with
  | .func (.func g) first captured => CallsH P g (first.toList ++ vs ++ captured.toList).toArray h K
  | _ => False

def callFP (P : Program) (ev : Operand → Option Value) (f : Operand) (args : List Operand) (t : TypeId) (h : Heap) (K : Value → Heap → Prop) : Prop :=
  match ev f, evList ev args with
  | some fv, some vs => callVP P fv vs h fun v h' => exposeR P t v fun v' => K v' h'
  | _, _ => False

/-- One operation. -/
def vcOp (P : Program) (ev : Operand → Option Value) (o : Oper) (h : Heap) (K : Value → Heap → Prop) : Prop :=
  match o.op with
  | .store t a x => effOp P ev (.store t a x) h K
  | .alloc t => effOp P ev (.alloc t) h K
  | .box t x => effOp P ev (.box t x) h K
  | .makeSlice t l c => effOp P ev (.makeSlice t l c) h K
  | .buildSlice t n ps => effOp P ev (.buildSlice t n ps) h K
  | .call c => match c.callee with
    | .builtin .append => effOp P ev (.call c) h K
    | .builtin .copy => effOp P ev (.call c) h K
    | .value f => callFP P ev f c.args.toList o.type h K
    | _ => valOp P ev (.call c) h fun v => K v h
  | op => valOp P ev op h fun v => K v h

theorem vcOp_sound {ev : Operand → Option Value} {a : Act} (hev : ∀ x v, ev x = some v → a.eval x = v) {o : Oper} {h : Heap} {K : Value → Heap → Prop} (H : vcOp P ev o h K) {w : World} (hw : w.heap = h)
    {next : Act → World → Prop} {Q : Exit → Act → World → Prop} (hn : ∀ v w', Alike w w' → K v w'.heap → next (a.put o.dst v) w') : o.wp P a w next Q := by
  have val : valOp P ev o.op h (fun v => K v h) → o.wp P a w next Q := by
    intro hv
    obtain ⟨v, hK, hy⟩ := valOp_sound (P := P) hev hv (C := fun w' => w' = w) (.inr fun w' hw' => by subst hw'; rw [hw]; exact HExt.refl _)
    unfold Oper.wp
    rw [hy w rfl]
    exact hn v w (Alike.refl w) (by rw [hw]; exact hK)
  have eff : effOp P ev o.op h K → o.wp P a w next Q := by
    intro he
    obtain ⟨r, v, w', hr, hv, hal, hK⟩ := effOp_sound hev he w hw
    unfold Oper.wp
    rw [hr]
    rcases hv with rfl | ⟨rfl, rfl⟩
    · exact hn v w' hal hK
    · exact hn undef w' hal hK
  obtain ⟨dst, op, type, pos, after, guard⟩ := o
  unfold vcOp at H
  cases op <;> simp only at H val eff hn <;> (try exact val H) <;> (try exact eff H)
  case call c =>
    obtain ⟨callee, args, argTypes⟩ := c
    simp only at H
    cases callee with
    | builtin b => cases b <;> first | exact eff H | exact val H
    | invoke r m => exact val H
    | value f =>
      simp only at H
      unfold callFP at H
      split at H
      · rename_i fv vs hf hargs
        unfold callVP at H
        split at H
        rotate_left
        · exact H.elim
        rename_i g first captured
        obtain ⟨henter, hcall⟩ := H
        unfold Oper.wp
        have e1 : args.map a.eval = vs.toArray := by apply Array.ext'; simpa using evList_sound hev hargs
        have e2 : first ++ vs.toArray ++ captured = (first.toList ++ vs ++ captured.toList).toArray := by apply Array.ext'; simp
        have hr : (execOp a.eval { dst, op := .call ⟨.value f, args, argTypes⟩, type, pos, after, guard }).run P w = .ok (.enter g (first.toList ++ vs ++ captured.toList).toArray) w := by
          simp only [execOp, resolve, hev _ _ hf, Deferred.ofValue, Sem.run_bind, Sem.run_pure, Result.andThen, invoke, e1, e2]
          exact henter w
        rw [hr]
        refine (hcall w hw).mono ?_
        rintro e w' ⟨v, rfl, hal, hx⟩
        exact hn v w' hal (exposeR_elim (K := fun v' => K v' w'.heap) hx)
      · exact H.elim

/-! ### Lists of operations -/
def putE (n : Nat) (d : Option Tmp) (v : Value) (e : Env) (K : Env → Prop) : Prop :=
  match d with
  | none => K e
  | some d => bif Nat.blt d n then K ((d, v) :: e) else False

theorem putE_elim {n : Nat} {d : Option Tmp} {v : Value} {e : Env} {K : Env → Prop} (H : putE n d v e K) {a : Act} (hr : Rel n e a) : ∃ e', Rel n e' (a.put d v) ∧ K e' := by
  cases d with
  | none => exact ⟨e, hr.put_none v, H⟩
  | some d =>
    simp only [putE] at H
    cases hb : Nat.blt d n with
    | false => rw [hb] at H; exact H.elim
    | true =>
      rw [hb] at H
      have : d + 1 ≤ n := Nat.le_of_ble_eq_true hb
      exact ⟨_, hr.put this v, H⟩

def guardSlot (all : List Oper) (j : Nat) : Option Tmp :=
  match all[j]? with
  | some o => o.dst
  | none => none

/-- An operation under a guard: 'yes' where it is wanted, 'no' where it is passed over; what the guard's slot holds is written out behind. -/
def guardE (d : Option Tmp) (want : Bool) (e : Env) (yes no : Env → Prop) : Prop :=
  match d with
  | none => False
  | some d => match e.get d with
    | some (.bool b) => if b = want then yes ((d, .bool want) :: e) else no ((d, .bool (!want)) :: e)
    | some (.tuple _) => no e
    | _ => False

def vcOps (P : Program) (n : Nat) (all : List Oper) : List Oper → Env → Heap → (Env → Heap → Prop) → Prop
  | [], e, h, K => K e h
  | o :: r, e, h, K => match o.guard with
    | none => vcOp P e.ev o h fun v h' => putE n o.dst v e fun e' => vcOps P n all r e' h' K
    | some (j, want) => guardE (guardSlot all j) want e
        (fun e => vcOp P e.ev o h fun v h' => putE n o.dst v e fun e' => vcOps P n all r e' h' K)
        (fun e => putE n o.dst undef e fun e' => vcOps P n all r e' h K)

theorem yielded_eq {ops : Array Oper} {j : Nat} {d : Tmp} (hd : guardSlot ops.toList j = some d) (tmps : Array Value) :
    yielded ops tmps j = match tmps[d]? with | some (.bool b) => some b | _ => none := by
  unfold guardSlot at hd
  unfold yielded
  cases ho : ops.toList[j]? with
  | none => rw [ho] at hd; cases hd
  | some o =>
    rw [ho] at hd
    have ho' : ops[j]? = some o := by simpa using ho
    simp only at hd
    simp only [ho', Option.bind_some, hd]
    cases tmps[d]? with
    | none => rfl
    | some v => cases v <;> rfl

theorem guardE_elim {n : Nat} {ops : Array Oper} {j : Nat} {want : Bool} {e : Env} {yes no : Env → Prop} {a : Act} (hr : Rel n e a) (H : guardE (guardSlot ops.toList j) want e yes no) :
    (yielded ops a.tmps j = some want ∧ ∃ e', Rel n e' a ∧ yes e') ∨ (yielded ops a.tmps j ≠ some want ∧ ∃ e', Rel n e' a ∧ no e') := by
  cases hd : guardSlot ops.toList j with
  | none => rw [hd] at H; exact H.elim
  | some d =>
    rw [hd] at H
    simp only [guardE] at H
    rw [yielded_eq hd]
    cases hg : e.get d with
    | none => rw [hg] at H; exact H.elim
    | some v =>
      rw [hg] at H
      have hv := hr.ok d v hg
      have hget : ∀ u, a.tmps[d]? = some u → u = v := by
        intro u hu
        rw [Array.getD_eq_getD_getElem?, hu] at hv
        exact hv
      cases v <;> simp only at H <;> (try exact H.elim)
      case bool b =>
        have hb : a.tmps[d]? = some (.bool b) := by
          cases hu : a.tmps[d]? with
          | none => rw [Array.getD_eq_getD_getElem?, hu] at hv; cases hv
          | some u => rw [hget u hu]
        rw [hb]
        by_cases hw : b = want
        · rw [if_pos hw] at H
          subst hw
          exact .inl ⟨rfl, _, hr.known hg, H⟩
        · rw [if_neg hw] at H
          have : b = !want := by cases b <;> cases want <;> simp_all
          subst this
          exact .inr ⟨by simp, _, hr.known hg, H⟩
      case tuple vs =>
        refine .inr ⟨?_, e, hr, H⟩
        cases hu : a.tmps[d]? with
        | none => simp
        | some u => rw [hget u hu]; simp

theorem vcOps_sound {n : Nat} {ops : Array Oper} {Q : Exit → Act → World → Prop} : ∀ {l : List Oper} {e : Env} {a : Act} {h : Heap} {w : World} {K : Env → Heap → Prop}, Rel n e a → w.heap = h →
    vcOps P n ops.toList l e h K → (∀ e' a' w', Rel n e' a' → Alike w w' → K e' w'.heap → Q .normal a' w') → wpList P ops Q l a w
  | [], e, a, h, w, K, hr, hw, H, hq => hq e a w hr (Alike.refl w) (by rw [hw]; exact H)
  | o :: r, e, a, h, w, K, hr, hw, H, hq => by
    have run : ∀ {e : Env}, Rel n e a → Region.wanted o (yielded ops a.tmps) = true → (vcOp P e.ev o h fun v h' => putE n o.dst v e fun e' => vcOps P n ops.toList r e' h' K) → wpList P ops Q (o :: r) a w := by
      intro e hr hwant hv
      unfold wpList
      rw [if_pos hwant]
      refine .inl (vcOp_sound (fun x v hx => hr.ev hx) hv hw ?_)
      intro v w' hal hp
      obtain ⟨e', hr', hv'⟩ := putE_elim hp hr
      exact vcOps_sound hr' rfl hv' fun e'' a'' w'' h1 h2 h3 => hq e'' a'' w'' h1 (hal.trans h2) h3
    simp only [vcOps] at H
    cases hg : o.guard with
    | none =>
      rw [hg] at H
      exact run hr (by simp [Region.wanted, hg]) H
    | some g =>
      obtain ⟨j, want⟩ := g
      rw [hg] at H
      simp only at H
      rcases guardE_elim hr H with ⟨hy, e', hr', hyes⟩ | ⟨hy, e', hr', hno⟩
      · exact run hr' (by simp [Region.wanted, hg, hy]) hyes
      · unfold wpList
        rw [if_neg (by simpa [Region.wanted, hg] using hy)]
        obtain ⟨e'', hr'', hv'⟩ := putE_elim hno hr'
        exact vcOps_sound hr'' hw hv' hq

/-! ### Regions that draw their order -/
/-- Operations that leave all cells that are there as they are. -/
def isMake : Op → Bool
  | .alloc _ | .box _ _ | .makeSlice _ _ _ | .buildSlice _ _ _ => true
  | _ => false

def isVal : Op → Bool
  | .move _ | .assign _ | .pick _ _ _ | .load _ _ | .nilCheck _ | .binOp _ _ _ _ _ | .unOp _ _ _ | .convert _ _ _ | .makeInterface _ _ | .makeFunc _ _ _
  | .slice _ _ _ _ _ | .fieldAddr _ _ _ | .field _ _ _ | .indexAddr _ _ _ | .index _ _ _ | .extract _ _ | .build _ _ => true
  | .call c => match c.callee with
    | .builtin .len | .builtin .cap | .builtin .min | .builtin .max => true
    | _ => false
  | _ => false

def isCalm (op : Op) : Bool := isVal op || isMake op

theorem vcOp_val {ev : Operand → Option Value} {o : Oper} {h : Heap} {K : Value → Heap → Prop} (hv : isVal o.op = true) (H : vcOp P ev o h K) : valOp P ev o.op h fun v => K v h := by
  obtain ⟨dst, op, type, pos, after, guard⟩ := o
  unfold vcOp at H
  cases op <;> simp only [isVal] at hv H ⊢ <;> first | exact H | (cases hv; done) | skip
  rename_i c
  obtain ⟨callee, args, argTypes⟩ := c
  cases callee with
  | builtin b => cases b <;> first | exact H | (simp at hv; done)
  | invoke r m => simp at hv
  | value f => simp at hv

theorem hcell_push {h : Heap} {o : Obj} : HExt h (h.push o) := by
  intro a v hv
  unfold hcell at *
  have : a.block < h.size := by
    rcases Nat.lt_or_ge a.block h.size with h' | h'
    · exact h'
    · rw [Array.getElem?_eq_none h'] at hv; cases hv
  rw [Array.getElem?_push, if_neg (by omega)]
  exact hv

theorem vcOp_make {ev : Operand → Option Value} {o : Oper} {h : Heap} {K : Value → Heap → Prop} (hv : isMake o.op = true) (H : vcOp P ev o h K) : vcOp P ev o h fun v h' => HExt h h' ∧ K v h' := by
  obtain ⟨dst, op, type, pos, after, guard⟩ := o
  unfold vcOp at H ⊢
  cases op <;> simp only [isMake] at hv H ⊢ <;> (try cases hv; done)
  case alloc t =>
    simp only [effOp] at H ⊢
    unfold allocP at H ⊢
    cases hz : hasZero P t <;> rw [hz] at H
    · exact H.elim
    · exact ⟨hcell_push, H⟩
  case box t x =>
    simp only [effOp] at H ⊢
    split at H
    · unfold boxP at H ⊢
      cases hz : zeroAgg P t <;> rw [hz] at H <;> simp only [cond_true, cond_false] at H ⊢
      · split at H
        · exact H.elim
        · exact ⟨hcell_push, H⟩
      · split at H
        · exact ⟨hcell_push, H⟩
        · exact H.elim
    · exact H.elim
  case makeSlice t l c =>
    simp only [effOp] at H ⊢
    split at H
    · unfold mkSlP at H ⊢
      split at H
      · rename_i e kl l' kc c' hd hl' hc'
        cases hz : hasZero P e <;> rw [hz] at H
        · exact H.elim
        · obtain ⟨h0, h1, h2, h3, hK⟩ := H
          exact ⟨h0, h1, h2, h3, hcell_push, hK⟩
      · exact H.elim
    · exact H.elim
  case buildSlice t n ps =>
    simp only [effOp] at H ⊢
    split at H
    · unfold bldSlP at H ⊢
      split at H
      · rename_i e hd
        cases hz : (hasZero P e && Nat.ble (n * typeSize P e) 16777216 && Nat.blt 0 (typeSize P e) && Nat.beq (zcells P e).length (typeSize P e)) <;> rw [hz] at H
        · exact H.elim
        · simp only [cond_true] at H ⊢
          split at H
          · exact ⟨hcell_push, H⟩
          · exact H.elim
      · exact H.elim
    · exact H.elim

section
variable {ops : Array Oper} {Q : Exit → Act → World → Prop}

/-- In state 'a' operation 'o' yields 'v' in every world of the class, or it is passed over. -/
def YieldsG (P : Program) (ops : Array Oper) (C : World → Prop) (o : Oper) (v : Value) (a : Act) : Prop :=
  (Region.wanted o (yielded ops a.tmps) = true ∧ Yields P (execOp a.eval o) C v) ∨ (Region.wanted o (yielded ops a.tmps) = false ∧ v = undef)

theorem YieldsG.of_same {C : World → Prop} {o : Oper} {v : Value} {a a' : Act} (hy : YieldsG P ops C o v a) (he : execOp a'.eval o = execOp a.eval o)
    (hw : Region.wanted o (yielded ops a'.tmps) = Region.wanted o (yielded ops a.tmps)) : YieldsG P ops C o v a' := by
  unfold YieldsG at *
  rw [he, hw]
  exact hy

/-- Every order that the edges leave open; a calm operation leaves the cells as they are. -/
def wpAnyE (P : Program) (ops : Array Oper) (Q : Exit → Act → World → Prop) : Nat → Array Bool → Act → World → Prop
  | 0, listed, a, w => Region.ready .any ops listed = [] ∧ Q .normal a w
  | fuel + 1, listed, a, w => (Region.ready .any ops listed = [] → Q .normal a w) ∧
    ∀ i ∈ Region.ready .any ops listed, wpOp P ops Q i (fun a' w' => ((∀ o, ops[i]? = some o → isCalm o.op = true → HExt w.heap w'.heap)) ∧ wpAnyE P ops Q fuel (listed.setIfInBounds i true) a' w') a w

theorem wpAny_of_E : ∀ (fuel : Nat) (listed : Array Bool) (a : Act) (w : World), wpAnyE P ops Q fuel listed a w → wpAny P .any ops Q fuel listed a w
  | 0, _, _, _, h => h
  | fuel + 1, _, _, _, h => ⟨h.1, fun i hi => wpOp_mono (fun a' w' h' => wpAny_of_E fuel _ a' w' h'.2) (h.2 i hi)⟩

theorem wpOp_putC {j : Nat} {oi oj : Oper} {v : Value} {C : World → Prop} (hj : ops[j]? = some oj) (hap : oi.apart ops oj = true)
    (hsi : ∀ cs b, oi.op ≠ .select cs b) (hsj : ∀ cs b, oj.op ≠ .select cs b) (hQ : ∀ c a w, ¬ Q (.panic c) a w) {K : Act → World → Prop} {a : Act} {w : World}
    (hy : YieldsG P ops C oi v a) (h : wpOp P ops Q j K (a.put oi.dst v) w) :
    wpOp P ops Q j (fun a' w' => YieldsG P ops C oi v a' ∧ K (a'.put oi.dst v) w') a w := by
  obtain ⟨h1, h2, h3⟩ := Oper.apart_spec hap
  have keep : ∀ (a : Act), YieldsG P ops C oi v a → ∀ u, YieldsG P ops C oi v (a.put oj.dst u) := fun a hy u =>
    hy.of_same (execOp_put oi hsi a oj.dst u h3) (wanted_put oi a oj.dst u h3)
  have keepD : ∀ d, YieldsG P ops C oi v { a with defers := d :: a.defers } := fun d => hy.of_same rfl rfl
  unfold wpOp at *
  simp only [hj] at *
  rw [wanted_put oj a oi.dst v h1] at h
  split
  · rename_i hw
    simp only [hw, if_true] at h
    rcases h with h | ⟨hasks, hlets⟩
    case inr => exact .inr ⟨by unfold Oper.asks at *; rw [execOp_put oj hsj a oi.dst v h1] at hasks; exact hasks, hlets⟩
    refine .inl ?_
    unfold Oper.wp at *
    rw [execOp_put oj hsj a oi.dst v h1] at h
    generalize (execOp a.eval oj).run P w = r at *
    cases r with
    | ok n w' =>
      cases n <;> simp only [Oper.upon] at h ⊢
      case value u => exact ⟨keep a hy u, by rw [← Act.put_comm a v u h2]; exact h⟩
      case skip => exact ⟨keep a hy _, by rw [← Act.put_comm a v undef h2]; exact h⟩
      case defer d =>
        refine ⟨keep _ (keepD d) _, ?_⟩
        rw [← Act.put_comm _ v undef h2, ← Act.put_defers]
        exact h
      case enter f args =>
        refine Calls.mono h fun e w'' he => ?_
        cases e with
        | returned u => exact ⟨keep a hy u, by rw [← Act.put_comm a v u h2]; exact he⟩
        | panicked c => exact (hQ _ _ _ he).elim
        | outgrown => exact he
      case row row args => exact Rows.mono h fun u w'' he => ⟨keep a hy u, by rw [← Act.put_comm a v u h2]; exact he⟩
    | halt x w' =>
      cases x <;> simp only [Oper.upon] at h ⊢
      case panic u => exact (hQ _ _ _ h).elim
  · rename_i hw
    simp only [hw] at h
    exact ⟨keep a hy _, by rw [← Act.put_comm a v undef h2]; exact h⟩

/-- Whatever is listed, what it waits for is listed, too. -/
def Closed (ops : Array Oper) (listed : Array Bool) : Prop :=
  ∀ j oj, ops[j]? = some oj → listed.getD j false = true → ∀ e ∈ oj.after, Region.binds .any e = true → listed.getD e.on false = true

theorem Closed.set {listed : Array Bool} {i : Nat} (hc : Closed ops listed) (hi : i ∈ Region.ready .any ops listed) : Closed ops (listed.setIfInBounds i true) := by
  intro j oj hj hl e he hb
  by_cases hij : i = j
  · subst hij
    obtain ⟨_, oi, hoi, hall⟩ := mem_ready.1 hi
    have : oj = oi := Option.some.inj (hj.symm.trans hoi)
    subst this
    exact getD_set_true (hall e he hb)
  · rw [getD_set_ne false hij] at hl
    exact getD_set_true (hc j oj hj hl e he hb)

/-- What an operation waits for, through others too. -/
inductive Anc (ops : Array Oper) : Nat → Nat → Prop
  | one {j oj e} : ops[j]? = some oj → e ∈ oj.after → Region.binds .any e = true → Anc ops j e.on
  | more {j oj e i} : ops[j]? = some oj → e ∈ oj.after → Region.binds .any e = true → Anc ops e.on i → Anc ops j i

theorem Anc.listed {listed : Array Bool} (hc : Closed ops listed) : ∀ {j i : Nat}, Anc ops j i → ∀ oj, ops[j]? = some oj → (∀ e ∈ oj.after, Region.binds .any e = true → listed.getD e.on false = true) → listed.getD i false = true
  | _, _, .one (e := e) hj he hb, oj, hoj, hall => by
    have := Option.some.inj (hj.symm.trans hoj)
    subst this
    exact hall e he hb
  | _, _, .more (e := e) hj he hb han, oj, hoj, hall => by
    have := Option.some.inj (hj.symm.trans hoj)
    subst this
    have hl := hall e he hb
    cases hk : ops[e.on]? with
    | none => cases han <;> simp_all
    | some ok => exact Anc.listed hc han ok hk (fun e' he' hb' => hc _ ok hk hl e' he' hb')

theorem wpAnyE_first {i : Nat} {oi : Oper} {v : Value} {C : World → Prop} (hi : ops[i]? = some oi) (hsel : ∀ (j : Nat) (o : Oper) cs b, ops[j]? = some o → o.op ≠ .select cs b)
    (hQ : ∀ c a w, ¬ Q (.panic c) a w) (hCx : ∀ w w' : World, C w → HExt w.heap w'.heap → C w') :
    ∀ (fuel : Nat) (listed : Array Bool) (a : Act) (w : World), C w → Closed ops listed →
      (∀ j oj, ops[j]? = some oj → j ≠ i → listed.getD j true = false → ¬ Anc ops j i → oi.apart ops oj = true ∧ (isCalm oj.op = true ∨ ∀ w, C w)) →
      i ∈ Region.ready .any ops listed → YieldsG P ops C oi v a →
      wpAnyE P ops Q fuel (listed.setIfInBounds i true) (a.put oi.dst v) w → wpAnyE P ops Q (fuel + 1) listed a w := by
  have now : ∀ {K : Act → World → Prop} {a : Act} {w : World}, C w → YieldsG P ops C oi v a → (∀ h : HExt w.heap w.heap, K (a.put oi.dst v) w) → wpOp P ops Q i K a w := by
    intro K a w hw hy hK
    unfold wpOp
    simp only [hi]
    rcases hy with ⟨hwant, hv⟩ | ⟨hwant, rfl⟩
    · simp only [hwant, if_true, Oper.wp, hv w hw, Oper.upon]; exact .inl (hK (HExt.refl _))
    · simp only [hwant, Bool.false_eq_true, if_false]; exact hK (HExt.refl _)
  have notAnc : ∀ {listed : Array Bool} {j : Nat}, Closed ops listed → i ∈ Region.ready .any ops listed → j ∈ Region.ready .any ops listed → ¬ Anc ops j i := by
    intro listed j hc hr hj han
    obtain ⟨_, oj, hoj, hall⟩ := mem_ready.1 hj
    have h1 := han.listed hc oj hoj hall
    have h0 := (mem_ready.1 hr).1
    rcases Nat.lt_or_ge i listed.size with h' | h'
    · simp [h'] at h0 h1; rw [h0] at h1; cases h1
    · simp [Array.getElem?_eq_none h'] at h1
  intro fuel
  induction fuel with
  | zero =>
    intro listed a w hCw hc _ hr hy H
    refine ⟨fun h => (by rw [h] at hr; cases hr), fun j hj => ?_⟩
    by_cases hji : j = i
    · subst hji; exact now hCw hy fun hx => ⟨fun _ _ _ => hx, H⟩
    · have := ready_mono hj hji
      rw [H.1] at this
      cases this
  | succ fuel ih =>
    intro listed a w hCw hc hfree hr hy H
    refine ⟨fun h => (by rw [h] at hr; cases hr), fun j hj => ?_⟩
    by_cases hji : j = i
    · subst hji; exact now hCw hy fun hx => ⟨fun _ _ _ => hx, H⟩
    · have h1 := H.2 j (ready_mono hj hji)
      obtain ⟨hjun, oj, hoj, hall⟩ := mem_ready.1 hj
      obtain ⟨hap, hcalm⟩ := hfree j oj hoj hji hjun (notAnc hc hr hj)
      have h2 := wpOp_putC hoj hap (fun cs b => hsel i oi cs b hi) (fun cs b => hsel j oj cs b hoj) hQ hy h1
      have hfree' : ∀ k ok, ops[k]? = some ok → k ≠ i → (listed.setIfInBounds j true).getD k true = false → ¬ Anc ops k i → oi.apart ops ok = true ∧ (isCalm ok.op = true ∨ ∀ w, C w) := fun k ok hk hki hun hno => by
        refine hfree k ok hk hki ?_ hno
        by_cases hjk : j = k
        · subst hjk; exact hjun
        · rw [getD_set_ne true hjk] at hun; exact hun
      refine wpOp_mono (fun a' w' h3 => ?_) h2
      refine ⟨h3.2.1, ?_⟩
      have hCw' : C w' := by
        rcases hcalm with hcalm | hall'
        · exact hCx w w' hCw (h3.2.1 oj hoj hcalm)
        · exact hall' w'
      refine ih (listed.setIfInBounds j true) a' w' hCw' (hc.set hj) hfree' (ready_mono hr (Ne.symm hji)) h3.1 ?_
      rw [Array.setIfInBounds_comm _ _ hji]
      exact h3.2.2

/-- The masks of what each operation waits for, through others too: bit i of mask j. -/
def maskOf (ms : List Nat) (o : Oper) : Nat := o.after.toList.foldl (fun s e => bif Region.binds .any e then s ||| 2 ^ e.on ||| ms.getD e.on 0 else s) 0

def masks : List Oper → List Nat → List Nat
  | [], acc => acc
  | o :: r, acc => masks r (acc ++ [maskOf acc o])

theorem maskOf_anc {ms : List Nat} {j : Nat} {o : Oper} (ho : ops[j]? = some o) (hms : ∀ k i, (ms.getD k 0).testBit i = true → Anc ops k i) : ∀ i, (maskOf ms o).testBit i = true → Anc ops j i := by
  have key : ∀ (l : List Edge) (s : Nat), (∀ e ∈ l, e ∈ o.after) → (∀ i, s.testBit i = true → Anc ops j i) →
      ∀ i, (l.foldl (fun s e => bif Region.binds .any e then s ||| 2 ^ e.on ||| ms.getD e.on 0 else s) s).testBit i = true → Anc ops j i := by
    intro l
    induction l with
    | nil => intro s _ hs i hi; exact hs i hi
    | cons e r ih =>
      intro s hl hs i hi
      refine ih _ (fun e' he' => hl e' (List.mem_cons_of_mem _ he')) ?_ i hi
      intro i hi
      simp only at hi
      cases hb : Region.binds .any e with
      | false => rw [hb] at hi; exact hs i hi
      | true =>
        rw [hb] at hi
        simp only [cond_true, Nat.testBit_or, Bool.or_eq_true] at hi
        rcases hi with (hi | hi) | hi
        · exact hs i hi
        · rw [Nat.testBit_two_pow] at hi
          have : e.on = i := by simpa using hi
          subst this
          exact .one ho (hl e List.mem_cons_self) hb
        · exact .more ho (hl e List.mem_cons_self) hb (hms _ _ hi)
  intro i hi
  exact key o.after.toList 0 (fun e he => by simpa using he) (fun i h => by simp at h) i hi

theorem masks_anc : ∀ (l : List Oper) (acc : List Nat), (∀ k, l[k]? = ops[acc.length + k]?) → (∀ k i, (acc.getD k 0).testBit i = true → Anc ops k i) →
    ∀ k i, ((masks l acc).getD k 0).testBit i = true → Anc ops k i
  | [], acc, _, h => h
  | o :: r, acc, hl, h => by
    refine masks_anc r _ (fun k => by have := hl (k + 1); simpa [Nat.add_assoc, Nat.add_comm 1 k] using this) ?_
    intro k i hi
    have h0 : ops[acc.length]? = some o := by simpa using (hl 0).symm
    by_cases hk : k < acc.length
    · rw [List.getD_eq_getElem?_getD, List.getElem?_append_left hk, ← List.getD_eq_getElem?_getD] at hi
      exact h k i hi
    · by_cases hk2 : k = acc.length
      · subst hk2
        rw [List.getD_eq_getElem?_getD, List.getElem?_append_right (Nat.le_refl _)] at hi
        simp at hi
        exact maskOf_anc h0 h i hi
      · rw [List.getD_eq_getElem?_getD, List.getElem?_eq_none (by simp; omega)] at hi
        simp at hi

def freeE (ops : Array Oper) (ms : List Nat) (listed : Array Bool) (i : Nat) (oi : Oper) : Bool :=
  (List.range ops.size).all fun j => Nat.beq j i || listed.getD j true || (ms.getD j 0).testBit i || match ops[j]? with
    | some oj => oi.apart ops oj && (isCalm oj.op || !isLoad oi.op)
    | none => true

/-- What holds of each. -/
def allC : List Nat → (Nat → Prop) → Prop
  | [], _ => True
  | [i], F => F i
  | i :: r, F => F i ∧ allC r F

theorem allC_elim {F : Nat → Prop} : ∀ {l : List Nat}, allC l F → ∀ i ∈ l, F i
  | [], _, i, h => by cases h
  | [k], H, i, h => by
    have : i = k := by simpa using h
    subst this; exact H
  | k :: j :: r, H, i, h => by
    rcases List.mem_cons.1 h with rfl | h
    · exact H.1
    · exact allC_elim H.2 i h

/-- Operation i comes up. -/
def stepI (P : Program) (n : Nat) (ops : List Oper) (i : Nat) (e : Env) (h : Heap) (K : Env → Heap → Prop) : Prop :=
  match ops[i]? with
  | none => False
  | some o => match o.guard with
    | none => vcOp P e.ev o h fun v h' => putE n o.dst v e fun e' => K e' h'
    | some (j, want) => guardE (guardSlot ops j) want e
        (fun e => vcOp P e.ev o h fun v h' => putE n o.dst v e fun e' => K e' h')
        (fun e => putE n o.dst undef e fun e' => K e' h)

def pickI (ops : Array Oper) (ms : List Nat) (listed : Array Bool) (ready : List Nat) : Option Nat :=
  ready.find? fun i => match ops[i]? with
    | some o => isVal o.op && freeE ops ms listed i o
    | none => false

/-- Whatever order the edges leave open: what may be taken first is; else each that may come up is asked for. -/
def vcAny (P : Program) (n : Nat) (ops : List Oper) (ms : List Nat) : Nat → Array Bool → Env → Heap → (Env → Heap → Prop) → Prop
  | 0, listed, e, h, K => match Region.ready .any ops.toArray listed with
    | [] => K e h
    | _ => False
  | f + 1, listed, e, h, K => match Region.ready .any ops.toArray listed with
    | [] => K e h
    | i :: r => match pickI ops.toArray ms listed (i :: r) with
      | some k => stepI P n ops k e h fun e h => vcAny P n ops ms f (listed.setIfInBounds k true) e h K
      | none => allC (i :: r) fun k => stepI P n ops k e h fun e h => vcAny P n ops ms f (listed.setIfInBounds k true) e h K

theorem stepI_elim {n i : Nat} {e : Env} {a : Act} {h : Heap} {K : Env → Heap → Prop} (hr : Rel n e a) (H : stepI P n ops.toList i e h K) :
    ∃ o, ops[i]? = some o ∧ ((Region.wanted o (yielded ops a.tmps) = true ∧ ∃ e, Rel n e a ∧ vcOp P e.ev o h fun v h' => putE n o.dst v e fun e' => K e' h') ∨
      (Region.wanted o (yielded ops a.tmps) = false ∧ ∃ e, Rel n e (a.put o.dst undef) ∧ K e h)) := by
  unfold stepI at H
  cases ho : ops.toList[i]? with
  | none => rw [ho] at H; exact H.elim
  | some o =>
    rw [ho] at H
    refine ⟨o, by simpa using ho, ?_⟩
    simp only at H
    cases hg : o.guard with
    | none => rw [hg] at H; exact .inl ⟨by simp [Region.wanted, hg], e, hr, H⟩
    | some g =>
      obtain ⟨j, want⟩ := g
      rw [hg] at H
      simp only at H
      rcases guardE_elim hr H with ⟨hy, e', hr', hyes⟩ | ⟨hy, e', hr', hno⟩
      · exact .inl ⟨by simp [Region.wanted, hg, hy], e', hr', hyes⟩
      · obtain ⟨e'', hr'', hv'⟩ := putE_elim hno hr'
        exact .inr ⟨by simpa [Region.wanted, hg] using hy, e'', hr'', hv'⟩

theorem vcAny_sound {n : Nat} {ms : List Nat} (hms : ∀ k i, (ms.getD k 0).testBit i = true → Anc ops k i) (hns : Region.noSelect ops = true) (hQ : ∀ c a w, ¬ Q (.panic c) a w) :
    ∀ (fuel : Nat) (listed : Array Bool) (e : Env) (a : Act) (h : Heap) (w : World) (K : Env → Heap → Prop), Closed ops listed → Rel n e a → w.heap = h →
      vcAny P n ops.toList ms fuel listed e h K → (∀ e' a' w', Rel n e' a' → Alike w w' → K e' w'.heap → Q .normal a' w') → wpAnyE P ops Q fuel listed a w
  | 0, listed, e, a, h, w, K, hc, hr, hw, H, hq => by
    unfold vcAny at H
    rw [Array.toArray_toList] at H
    cases hrd : Region.ready .any ops listed with
    | nil => rw [hrd] at H; exact ⟨hrd, hq e a w hr (Alike.refl w) (by rw [hw]; exact H)⟩
    | cons i r => rw [hrd] at H; exact H.elim
  | fuel + 1, listed, e, a, h, w, K, hc, hr, hw, H, hq => by
    unfold vcAny at H
    rw [Array.toArray_toList] at H
    cases hrd : Region.ready .any ops listed with
    | nil =>
      rw [hrd] at H
      exact ⟨fun _ => hq e a w hr (Alike.refl w) (by rw [hw]; exact H), fun i hi => by rw [hrd] at hi; cases hi⟩
    | cons i0 r =>
      rw [hrd] at H
      simp only at H
      -- what the rest gives
      have rest : ∀ {k : Nat}, k ∈ Region.ready .any ops listed → ∀ {e' : Env} {a' : Act} {w' : World}, Rel n e' a' → Alike w w' → vcAny P n ops.toList ms fuel (listed.setIfInBounds k true) e' w'.heap K →
          wpAnyE P ops Q fuel (listed.setIfInBounds k true) a' w' := by
        intro k hk e' a' w' hr' hal hv
        exact vcAny_sound hms hns hQ fuel _ e' a' w'.heap w' K (hc.set hk) hr' rfl hv fun e'' a'' w'' h1 h2 h3 => hq e'' a'' w'' h1 (hal.trans h2) h3
      cases hp : pickI ops ms listed (i0 :: r) with
      | some k =>
        rw [hp] at H
        simp only at H
        have hmem : k ∈ Region.ready .any ops listed := by rw [hrd]; exact List.mem_of_find?_eq_some hp
        have hcond := List.find?_some hp
        obtain ⟨o, h0, hcases⟩ := stepI_elim hr H
        simp only [h0, Bool.and_eq_true] at hcond
        obtain ⟨hval, hfree⟩ := hcond
        have hfree' : ∀ (C : World → Prop), (isLoad o.op = true ∨ ∀ w, C w) → ∀ j oj, ops[j]? = some oj → j ≠ k → listed.getD j true = false → ¬ Anc ops j k → o.apart ops oj = true ∧ (isCalm oj.op = true ∨ ∀ w, C w) := by
          intro C hCl j oj hj hjk hun hno
          unfold freeE at hfree
          have hlt : j < ops.size := (Array.getElem?_eq_some_iff.1 hj).1
          have h1 := List.all_eq_true.1 hfree j (List.mem_range.2 hlt)
          simp only [hj, Bool.or_eq_true, Bool.and_eq_true, Bool.not_eq_true'] at h1
          rcases h1 with ((h1 | h1) | h1) | ⟨h1, h2⟩
          · exact absurd (Nat.eq_of_beq_eq_true h1) hjk
          · rw [hun] at h1; cases h1
          · exact absurd (hms _ _ h1) hno
          · refine ⟨h1, ?_⟩
            rcases h2 with h2 | h2
            · exact .inl h2
            · rcases hCl with hCl | hCl
              · rw [h2] at hCl; cases hCl
              · exact .inr hCl
        rcases hcases with ⟨hwant, e1, hr1, hv⟩ | ⟨hunw, e1, hr1, hv⟩
        · have hv' := vcOp_val hval hv
          cases hld : isLoad o.op with
          | false =>
            obtain ⟨v, hpu, hy⟩ := valOp_sound (P := P) (fun x v hx => hr1.ev hx) hv' (C := fun _ => True) (.inl hld)
            obtain ⟨e', hr', hv''⟩ := putE_elim hpu hr1
            exact wpAnyE_first h0 (Region.noSelect_spec hns) hQ (fun _ _ _ _ => trivial) _ listed a w trivial hc (hfree' _ (.inr fun _ => trivial)) hmem (.inl ⟨hwant, hy⟩) (rest hmem hr' (Alike.refl w) (by rw [hw]; exact hv''))
          | true =>
            obtain ⟨v, hpu, hy⟩ := valOp_sound (P := P) (fun x v hx => hr1.ev hx) hv' (C := fun w' => HExt h w'.heap) (.inr fun _ h => h)
            obtain ⟨e', hr', hv''⟩ := putE_elim hpu hr1
            exact wpAnyE_first h0 (Region.noSelect_spec hns) hQ (fun _ _ h1 h2 => h1.trans h2) _ listed a w (by rw [hw]; exact HExt.refl _) hc (hfree' _ (.inl hld)) hmem (.inl ⟨hwant, hy⟩) (rest hmem hr' (Alike.refl w) (by rw [hw]; exact hv''))
        · cases hld : isLoad o.op with
          | false =>
            exact wpAnyE_first (C := fun _ => True) h0 (Region.noSelect_spec hns) hQ (fun _ _ _ _ => trivial) _ listed a w trivial hc (hfree' _ (.inr fun _ => trivial)) hmem (.inr ⟨hunw, rfl⟩) (rest hmem hr1 (Alike.refl w) (by rw [hw]; exact hv))
          | true =>
            exact wpAnyE_first (C := fun w' => HExt h w'.heap) h0 (Region.noSelect_spec hns) hQ (fun _ _ h1 h2 => h1.trans h2) _ listed a w (by rw [hw]; exact HExt.refl _) hc (hfree' _ (.inl hld)) hmem (.inr ⟨hunw, rfl⟩) (rest hmem hr1 (Alike.refl w) (by rw [hw]; exact hv))
      | none =>
        rw [hp] at H
        simp only at H
        refine ⟨fun h1 => (by rw [hrd] at h1; cases h1), fun k hk => ?_⟩
        have hstep := allC_elim H k (by rw [hrd] at hk; exact hk)
        obtain ⟨o, h0, hcases⟩ := stepI_elim hr hstep
        unfold wpOp
        rcases hcases with ⟨hwant, e1, hr1, hv⟩ | ⟨hunw, e1, hr1, hv⟩
        · simp only [h0, hwant, if_true]
          refine .inl ?_
          cases hmk : isMake o.op with
          | true =>
            refine vcOp_sound (fun x v hx => hr1.ev hx) (vcOp_make hmk hv) hw ?_
            intro v w' hal hh
            obtain ⟨e', hr', hv'⟩ := putE_elim hh.2 hr1
            exact ⟨fun _ _ _ => by rw [hw]; exact hh.1, rest hk hr' hal hv'⟩
          | false =>
            cases hvl : isVal o.op with
            | true =>
              obtain ⟨v, hpu, hy⟩ := valOp_sound (P := P) (fun x v hx => hr1.ev hx) (vcOp_val hvl hv) (C := fun w' => w' = w) (.inr fun w' hw' => by subst hw'; rw [hw]; exact HExt.refl _)
              obtain ⟨e', hr', hv'⟩ := putE_elim hpu hr1
              unfold Oper.wp
              rw [hy w rfl]
              exact ⟨fun _ _ _ => HExt.refl _, rest hk hr' (Alike.refl w) (by rw [hw]; exact hv')⟩
            | false =>
              refine vcOp_sound (fun x v hx => hr1.ev hx) hv hw ?_
              intro v w' hal hh
              obtain ⟨e', hr', hv'⟩ := putE_elim hh hr1
              refine ⟨fun o' ho' hcalm => ?_, rest hk hr' hal hv'⟩
              have := Option.some.inj ho'
              subst this
              simp [isCalm, hmk, hvl] at hcalm
        · simp only [h0, hunw, Bool.false_eq_true, if_false]
          exact ⟨fun _ _ _ => HExt.refl _, rest hk hr1 (Alike.refl w) (by rw [hw]; exact hv)⟩
end

/-- A region. -/
def regVC (P : Program) (n : Nat) (draw : Bool) (ops : List Oper) (e : Env) (h : Heap) (K : Env → Heap → Prop) : Prop :=
  match draw with
  | false => vcOps P n ops ops e h K
  | true => bif P.follows .mixedOrders && Region.noSelect ops.toArray then vcAny P n ops (masks ops []) ops.length (Array.replicate ops.length false) e h K else False

theorem regVC_sound {n : Nat} {draw : Bool} {id : Nat} {ops : Array Oper} {Q : Exit → Act → World → Prop} {e : Env} {a : Act} {h : Heap} {w : World} {K : Env → Heap → Prop} (hr : Rel n e a) (hw : w.heap = h)
    (hQ : ∀ c a w, ¬ Q (.panic c) a w)
    (H : regVC P n draw ops.toList e h K) (hq : ∀ e' a' w', Rel n e' a' → Alike w w' → K e' w'.heap → Q .normal a' w') : (Code.region id ops draw).wp P Q a w := by
  cases draw with
  | false => exact wp_region_list (vcOps_sound hr hw H hq)
  | true =>
    simp only [regVC] at H
    cases hb : P.follows .mixedOrders && Region.noSelect ops.toList.toArray with
    | false => rw [hb] at H; exact H.elim
    | true =>
      rw [hb] at H
      simp only [Bool.and_eq_true, Array.toArray_toList] at hb
      obtain ⟨hm, hns⟩ := hb
      have hal : Alike w { w with drawn := w.drawn + 1 } := ⟨rfl, rfl, rfl⟩
      refine wp_region_any hm (wpAny_of_E _ _ _ _ ?_)
      have hms := masks_anc (ops := ops) ops.toList [] (fun k => by simp) (fun k i h => by simp at h)
      have := vcAny_sound (P := P) (n := n) hms hns hQ ops.toList.length (Array.replicate ops.toList.length false) e a h { w with drawn := w.drawn + 1 } K
        (fun j oj _ hl => by rw [getD_replicate_false] at hl; cases hl) hr hw H (fun e' a' w' h1 h2 h3 => hq e' a' w' h1 (hal.trans h2) h3)
      simpa using this

end Go.Vc

namespace Go.Vc

/-! ### Frames read back -/
structure Sl where
  p : Option Addr
  n : Nat
  c : Nat

@[reducible] def Sl.v (s : Sl) : Value := .slice s.p s.n s.c
def Sl.nil : Sl := ⟨none, 0, 0⟩

def getV (e : Env) (i : Nat) (K : Value → Prop) : Prop :=
  match e.get i with
  | some v => K v
  | none => False
theorem getV_elim {e : Env} {i : Nat} {K : Value → Prop} (H : getV e i K) : ∃ v, e.get i = some v ∧ K v := by
  unfold getV at H
  split at H
  · exact ⟨_, by assumption, H⟩
  · exact H.elim

def asI (k : IntKind) (v : Value) (K : Int → Prop) : Prop :=
  match v with
  | .int k' n => bif kEq k' k then K n else False
  | _ => False
theorem asI_elim {k : IntKind} {v : Value} {K : Int → Prop} (H : asI k v K) : ∃ n, v = .int k n ∧ K n := by
  unfold asI at H
  split at H
  · rename_i k' n
    cases hk : kEq k' k with
    | false => rw [hk] at H; exact H.elim
    | true => rw [hk] at H; exact ⟨n, by rw [kEq_eq hk], H⟩
  · exact H.elim

def asB (v : Value) (K : Bool → Prop) : Prop :=
  match v with
  | .bool b => K b
  | _ => False
theorem asB_elim {v : Value} {K : Bool → Prop} (H : asB v K) : ∃ b, v = .bool b ∧ K b := by
  unfold asB at H
  split at H
  · exact ⟨_, rfl, H⟩
  · exact H.elim

def asS (v : Value) (K : Option Addr → Nat → Nat → Prop) : Prop :=
  match v with
  | .slice p n c => K p n c
  | _ => False
theorem asS_elim {v : Value} {K : Option Addr → Nat → Nat → Prop} (H : asS v K) : ∃ p n c, v = .slice p n c ∧ K p n c := by
  unfold asS at H
  split at H
  · exact ⟨_, _, _, rfl, H⟩
  · exact H.elim

def asP (v : Value) (K : Option Addr → Prop) : Prop :=
  match v with
  | .pointer p => K p
  | _ => False
theorem asP_elim {v : Value} {K : Option Addr → Prop} (H : asP v K) : ∃ p, v = .pointer p ∧ K p := by
  unfold asP at H
  split at H
  · exact ⟨_, rfl, H⟩
  · exact H.elim

def asStr (v : Value) (K : ByteArray → Prop) : Prop :=
  match v with
  | .string p => K p
  | _ => False
theorem asStr_elim {v : Value} {K : ByteArray → Prop} (H : asStr v K) : ∃ p, v = .string p ∧ K p := by
  unfold asStr at H
  split at H
  · exact ⟨_, rfl, H⟩
  · exact H.elim

def asA (v : Value) (K : List Value → Prop) : Prop :=
  match v with
  | .agg cs => K cs.toList
  | _ => False
theorem asA_elim {v : Value} {K : List Value → Prop} (H : asA v K) : ∃ l, v = .agg l.toArray ∧ K l := by
  unfold asA at H
  split at H
  · exact ⟨_, by simp, H⟩
  · exact H.elim

def asT (v : Value) (K : List Value → Prop) : Prop :=
  match v with
  | .tuple cs => K cs.toList
  | _ => False
theorem asT_elim {v : Value} {K : List Value → Prop} (H : asT v K) : ∃ l, v = .tuple l.toArray ∧ K l := by
  unfold asT at H
  split at H
  · exact ⟨_, by simp, H⟩
  · exact H.elim

def asC (l : List Value) (K : Value → List Value → Prop) : Prop :=
  match l with
  | v :: r => K v r
  | [] => False
theorem asC_elim {l : List Value} {K : Value → List Value → Prop} (H : asC l K) : ∃ v r, l = v :: r ∧ K v r := by
  unfold asC at H
  split at H
  · exact ⟨_, _, rfl, H⟩
  · exact H.elim

def asN (l : List Value) (K : Prop) : Prop :=
  match l with
  | [] => K
  | _ => False
theorem asN_elim {l : List Value} {K : Prop} (H : asN l K) : l = [] ∧ K := by
  unfold asN at H
  split at H
  · exact ⟨rfl, H⟩
  · exact H.elim

end Go.Vc

namespace Go.Vc
variable {P : Program} {σ : Type}

/-! ### Statements as predicate transformers over a state of the function's own -/
inductive Ex where
  | norm
  | exit (id : Nat)
  | ret

abbrev Stm (σ : Type) := σ → Heap → (Ex → σ → Heap → Prop) → Prop

def Stm.reg (r : σ → Heap → (σ → Heap → Prop) → Prop) : Stm σ := fun s h Q => r s h fun s h => Q .norm s h
/-- Behind the first of two statements. -/
def SK (b : Stm σ) (Q : Ex → σ → Heap → Prop) : Ex → σ → Heap → Prop
  | .norm, s, h => b s h Q
  | .exit i, s, h => Q (.exit i) s h
  | .ret, s, h => Q .ret s h
def Stm.seq (a b : Stm σ) : Stm σ := fun s h Q => a s h (SK b Q)
def Stm.cond (c : σ → Bool) (a b : Stm σ) : Stm σ := fun s h Q => if c s = true then a s h Q else b s h Q
/-- A region that ends in a test. -/
def Stm.test (r : σ → Heap → (Bool → σ → Heap → Prop) → Prop) (a b : Stm σ) : Stm σ := fun s h Q => r s h fun c s h => if c = true then a s h Q else b s h Q
/-- Behind a block. -/
def BK (id : Nat) (Q : Ex → σ → Heap → Prop) : Ex → σ → Heap → Prop
  | .norm, s, h => Q .norm s h
  | .exit i, s, h => if i = id then Q .norm s h else Q (.exit i) s h
  | .ret, s, h => Q .ret s h
def Stm.block (id : Nat) (a : Stm σ) : Stm σ := fun s h Q => a s h (BK id Q)
/-- Behind a round. -/
def LK (I : σ → Heap → Prop) (μ : σ → Heap → Nat) (m : Nat) (Q : Ex → σ → Heap → Prop) : Ex → σ → Heap → Prop
  | .norm, s, h => I s h ∧ μ s h < m
  | .exit i, s, h => Q (.exit i) s h
  | .ret, s, h => Q .ret s h
def Stm.loop (a : Stm σ) : Stm σ := fun s h Q => ∃ (I : σ → Heap → Prop) (μ : σ → Heap → Nat), I s h ∧ ∀ s h, I s h → a s h (LK I μ (μ s h) Q)
def Stm.exit (id : Nat) : Stm σ := fun s h Q => Q (.exit id) s h
def Stm.ret : Stm σ := fun s h Q => Q .ret s h
def Stm.skip : Stm σ := fun s h Q => Q .norm s h

/-- A point of a function's text: what its frame holds there, and how a frame is read back into a state. -/
structure Pt (σ : Type) where
  env : σ → Env
  fin : Env → σ → (σ → Prop) → Prop
  ok : ∀ {e : Env} {s : σ} {K : σ → Prop}, fin e s K → ∃ s', SubP (env s') e ∧ K s'

def SimPost (n : Nat) (B : Pt σ) (E : Ex → Pt σ) (w : World) (Q : Ex → σ → Heap → Prop) : Exit → Act → World → Prop
  | .normal, a, w' => ∃ s, Alike w w' ∧ Rel n (B.env s) a ∧ Q .norm s w'.heap
  | .exit i, a, w' => ∃ s, Alike w w' ∧ Rel n ((E (.exit i)).env s) a ∧ Q (.exit i) s w'.heap
  | .ret, a, w' => ∃ s, Alike w w' ∧ Rel n ((E .ret).env s) a ∧ Q .ret s w'.heap
  | _, _, _ => False

/-- The code does what the statement says. -/
def Sim (P : Program) (n : Nat) (A : Pt σ) (c : Code) (m : Stm σ) (B : Pt σ) (E : Ex → Pt σ) : Prop :=
  ∀ (s : σ) (a : Act) (w : World) (Q : Ex → σ → Heap → Prop), Rel n (A.env s) a → m s w.heap Q → c.wp P (SimPost n B E w Q) a w

section
variable {n : Nat} {A B C : Pt σ} {E : Ex → Pt σ}

theorem SimPost.noPanic {w : World} {Q : Ex → σ → Heap → Prop} : ∀ (c : List PanicEntry) (a : Act) (w' : World), ¬ SimPost n B E w Q (.panic c) a w' := fun _ _ _ h => h

theorem Sim.reg {id : Nat} {ops : Array Oper} {draw : Bool} {r : σ → Heap → (σ → Heap → Prop) → Prop}
    (hr : ∀ s h Q, regVC P n draw ops.toList (A.env s) h (fun e h' => B.fin e s fun s' => Q s' h') = r s h Q) : Sim P n A (.region id ops draw) (.reg r) B E := by
  intro s a w Q hrel hm
  have hm' : r s w.heap fun s h => Q .norm s h := hm
  rw [← hr] at hm'
  refine regVC_sound hrel rfl SimPost.noPanic hm' ?_
  intro e' a' w' hr' hal hK
  obtain ⟨s', hs, hQ⟩ := B.ok hK
  exact ⟨s', hal, hr'.sub hs, hQ⟩

theorem SimPost.trans {w₁ w : World} {Q : Ex → σ → Heap → Prop} (hal : Alike w w₁) {e : Exit} {a : Act} {w' : World} (h : SimPost n C E w₁ Q e a w') : SimPost n C E w Q e a w' := by
  cases e <;> simp only [SimPost] at h ⊢
  all_goals
    obtain ⟨s, h1, h2⟩ := h
    exact ⟨s, hal.trans h1, h2⟩

theorem Sim.seq {c d : Code} {a b : Stm σ} (ha : Sim P n A c a B E) (hb : Sim P n B d b C E) : Sim P n A (.seq c d) (.seq a b) C E := by
  intro s act w Q hrel hm
  refine wp_seq (wp_mono (ha s act w _ hrel hm) ?_)
  intro e a' w' hp
  cases e <;> simp only [SimPost, Exit.then, SK] at hp ⊢
  · obtain ⟨s', hal, hr', hq⟩ := hp
    exact wp_mono (hb s' a' w' Q hr' hq) fun e a w h => SimPost.trans hal h
  · exact hp
  · exact hp

theorem Sim.cond {x : Operand} {c d : Code} {a b : Stm σ} (sel : σ → Bool) (hx : ∀ s, (A.env s).ev x = some (.bool (sel s))) (ha : Sim P n A c a B E) (hb : Sim P n A d b B E) :
    Sim P n A (.cond x c d) (.cond sel a b) B E := by
  intro s act w Q hrel hm
  have hev := hrel.ev (hx s)
  unfold Stm.cond at hm
  refine wp_cond_split hev (fun ht => ?_) (fun hf => ?_)
  · rw [if_pos ht] at hm; exact ha s act w Q hrel hm
  · rw [if_neg (by rw [hf]; simp)] at hm; exact hb s act w Q hrel hm

theorem Sim.test {id : Nat} {ops : Array Oper} {draw : Bool} {t : Nat} {c d : Code} {a b : Stm σ} {r : σ → Heap → (Bool → σ → Heap → Prop) → Prop}
    (hr : ∀ s h Q, regVC P n draw ops.toList (A.env s) h (fun e h' => getV e t fun v => asB v fun x => B.fin e s fun s' => Q x s' h') = r s h Q)
    (ha : Sim P n B c a C E) (hb : Sim P n B d b C E) : Sim P n A (.seq (.region id ops draw) (.cond (.tmp t) c d)) (.test r a b) C E := by
  intro s act w Q hrel hm
  have hm' : r s w.heap fun c s h => if c = true then a s h Q else b s h Q := hm
  rw [← hr] at hm'
  refine wp_seq (regVC_sound hrel rfl (fun _ _ _ h => h) hm' ?_)
  intro e' a' w' hr' hal hK
  obtain ⟨v, hv, hK⟩ := getV_elim hK
  obtain ⟨x, rfl, hK⟩ := asB_elim hK
  obtain ⟨s', hs, hQ⟩ := B.ok hK
  have hev : a'.eval (.tmp t) = .bool x := hr'.ok t _ hv
  have hr2 := hr'.sub hs
  simp only [Exit.then]
  refine wp_cond_split hev (fun ht => ?_) (fun hf => ?_)
  · rw [if_pos ht] at hQ
    exact wp_mono (ha s' a' w' Q hr2 hQ) fun e a w h => SimPost.trans hal h
  · rw [if_neg (by rw [hf]; simp)] at hQ
    exact wp_mono (hb s' a' w' Q hr2 hQ) fun e a w h => SimPost.trans hal h

/-- Where a block is left, by its end or by its exit, the frame reads as at B. -/
def exAt (E : Ex → Pt σ) (id : Nat) (B : Pt σ) : Ex → Pt σ
  | .exit i => if i = id then B else E (.exit i)
  | e => E e

theorem Sim.block {id : Nat} {c : Code} {a : Stm σ} (ha : Sim P n A c a B (exAt E id B)) : Sim P n A (.block id c) (.block id a) B E := by
  intro s act w Q hrel hm
  refine wp_block (wp_mono (ha s act w _ hrel hm) ?_)
  intro e a' w' hp
  cases e <;> simp only [SimPost, Exit.inBlock, BK] at hp ⊢
  case normal => exact hp
  case exit i =>
    by_cases hi : i = id
    · simp only [hi, exAt, if_true] at hp ⊢
      exact hp
    · simp only [hi, exAt, if_false] at hp ⊢
      exact hp
  case ret => exact hp

theorem Sim.loop {c : Code} {a : Stm σ} (ha : Sim P n A c a A E) : Sim P n A (.loop c) (.loop a) B E := by
  intro s act w Q hrel ⟨I, μ, h0, hround⟩
  refine wp_loop_ghost (fun k a w' => ∃ s, Alike w w' ∧ Rel n (A.env s) a ∧ I s w'.heap ∧ μ s w'.heap = k) (μ s w.heap) ⟨s, Alike.refl w, hrel, h0, rfl⟩ ?_
  rintro k a' w' ⟨s', hal, hr', hI, hk⟩
  refine wp_mono (ha s' a' w' _ hr' (hround s' w'.heap hI)) ?_
  intro e a'' w'' hp
  cases e <;> simp only [SimPost, Exit.then, LK] at hp ⊢
  · obtain ⟨s'', hal'', hr'', hI'', hlt⟩ := hp
    exact ⟨_, by rw [← hk]; exact hlt, s'', hal.trans hal'', hr'', hI'', rfl⟩
  · obtain ⟨s'', hal'', hr'', hq⟩ := hp
    exact ⟨s'', hal.trans hal'', hr'', hq⟩
  · obtain ⟨s'', hal'', hr'', hq⟩ := hp
    exact ⟨s'', hal.trans hal'', hr'', hq⟩

theorem Sim.weak {c : Code} {a : Stm σ} (ha : Sim P n A c a B E) (h : ∀ s, SubP (C.env s) (B.env s)) : Sim P n A c a C E := by
  intro s act w Q hrel hm
  refine wp_mono (ha s act w Q hrel hm) ?_
  intro e a' w' hp
  cases e <;> simp only [SimPost] at hp ⊢
  · obtain ⟨s', h1, h2, h3⟩ := hp
    exact ⟨s', h1, h2.sub (h s'), h3⟩
  · exact hp
  · exact hp

theorem Sim.pre {c : Code} {a : Stm σ} (ha : Sim P n A c a B E) (h : ∀ s, SubP (A.env s) (C.env s)) : Sim P n C c a B E :=
  fun s act w Q hrel hm => ha s act w Q (hrel.sub (h s)) hm

theorem Sim.exit {id : Nat} (h : ∀ s, SubP ((E (.exit id)).env s) (A.env s)) : Sim P n A (.exit id) (.exit id) B E :=
  fun s _ w _ hrel hm => wp_exit ⟨s, Alike.refl w, hrel.sub (h s), hm⟩

theorem Sim.ret (h : ∀ s, SubP ((E .ret).env s) (A.env s)) : Sim P n A .ret .ret B E :=
  fun s _ w _ hrel hm => wp_ret ⟨s, Alike.refl w, hrel.sub (h s), hm⟩

theorem Sim.skip : Sim P n A .skip .skip A E :=
  fun s _ w _ hrel hm => wp_skip ⟨s, Alike.refl w, hrel, hm⟩

theorem Sim.label {l : Nat} : Sim P n A (.label l) .skip A E :=
  fun s _ w _ hrel hm => wp_label ⟨s, Alike.refl w, hrel, hm⟩

end

/-! ### A whole function -/
/-- A function's results, read off its frame and the heap. -/
def resVC (P : Program) (e : Env) (h : Heap) : List ResultVar → List Value → (List Value → Prop) → Prop
  | [], acc, K => K acc.reverse
  | .tmp t :: r, acc, K => match e.get t with
    | some v => resVC P e h r (v :: acc) K
    | none => False
  | .cell t ty :: r, acc, K => match e.get t with
    | some (.pointer p) => ptrE p fun a => ldP P ty a h fun v => resVC P e h r (v :: acc) K
    | _ => False

def oneOrTuple : List Value → Value
  | [v] => v
  | vs => .tuple vs.toArray

def argsEnv : Nat → List Value → Env
  | _, [] => []
  | i, v :: r => (i, v) :: argsEnv (i + 1) r

theorem argsEnv_get : ∀ (vs : List Value) (i j : Nat) (v : Value), (argsEnv i vs).get j = some v → i ≤ j ∧ vs[j - i]? = some v
  | [], i, j, v, h => by simp [argsEnv, Env.get] at h
  | x :: r, i, j, v, h => by
    simp only [argsEnv, Env.get] at h
    cases hb : Nat.beq i j with
    | true =>
      rw [hb] at h; simp at h; subst h
      have : i = j := Nat.eq_of_beq_eq_true hb
      subst this
      simp
    | false =>
      rw [hb] at h; simp at h
      have hne : i ≠ j := fun h' => by subst h'; simp at hb
      obtain ⟨h1, h2⟩ := argsEnv_get r (i + 1) j v h
      refine ⟨by omega, ?_⟩
      rw [show j - i = (j - (i + 1)) + 1 by omega]
      simpa using h2

theorem rel_enter {n : Nat} {args : Array Value} (hn : args.size ≤ n) :
    Rel n (argsEnv 0 args.toList) { tmps := args ++ Array.replicate (n - args.size) undef, defers := [] } := by
  refine ⟨by simp; omega, rfl, ?_⟩
  intro i v hv
  obtain ⟨_, h2⟩ := argsEnv_get args.toList 0 i v hv
  simp only [Nat.sub_zero] at h2
  have h2' : args[i]? = some v := by simpa using h2
  have hlt : i < args.size := (Array.getElem?_eq_some_iff.1 h2').1
  rw [Array.getD_eq_getD_getElem?, Array.getElem?_append_left hlt, h2']
  rfl

theorem resVC_sound {n : Nat} {e : Env} {a : Act} (hr : Rel n e a) {h : Heap} : ∀ {rs : List ResultVar} {acc : List Value} {K : List Value → Prop}, resVC P e h rs acc K →
    ∃ vs, K (acc.reverse ++ vs) ∧ ∀ w : World, w.heap = h →
      (rs.mapM fun | .tmp t => pure (a.tmps.getD t undef) | .cell c t => do loadVar t (← asAddr (a.tmps.getD c undef)) : Sem (List Value)).run P w = .ok vs w
  | [], acc, K, H => ⟨[], by simpa [resVC] using H, fun w _ => rfl⟩
  | .tmp t :: r, acc, K, H => by
    simp only [resVC] at H
    split at H
    · rename_i v hv
      obtain ⟨vs, hK, hrun⟩ := resVC_sound hr H
      refine ⟨v :: vs, by simpa using hK, fun w hw => ?_⟩
      simp only [List.mapM_cons, Sem.run_bind, Sem.run_pure, Result.andThen_ok, hr.ok t v hv]
      rw [hrun w hw]
      rfl
    · exact H.elim
  | .cell t ty :: r, acc, K, H => by
    simp only [resVC] at H
    split at H
    · rename_i p hp
      obtain ⟨ad, hpa, H2⟩ := ptrE_elim H
      subst hpa
      obtain ⟨v, H3, hl0⟩ := ldP_sound H2
      have hl : ∀ w : World, w.heap = h → (loadVar ty ad).run P w = .ok v w := fun w hw => hl0 w (by rw [hw]; exact fun _ _ h => h)
      obtain ⟨vs, hK, hrun⟩ := resVC_sound hr H3
      refine ⟨v :: vs, by simpa using hK, fun w hw => ?_⟩
      have hadr : (asAddr (.pointer (some ad))).run P w = .ok ad w := rfl
      simp only [List.mapM_cons, Sem.run_bind, hr.ok t _ hp, hadr, Sem.run_pure, Result.andThen_ok, hl w hw]
      rw [hrun w hw]
      rfl
    · exact H.elim

theorem run_results {fn : Func} {n : Nat} {e : Env} {a : Act} {h : Heap} {K : List Value → Prop} (hr : Rel n e a) (H : resVC P e h fn.results.toList [] K) :
    ∃ vs, K vs ∧ ∀ w : World, w.heap = h → (results fn a.tmps).run P w = .ok (oneOrTuple vs) w := by
  obtain ⟨vs, hK, hrun⟩ := resVC_sound hr H
  refine ⟨vs, by simpa using hK, fun w hw => ?_⟩
  have := hrun w hw
  unfold results
  rw [Array.mapM_eq_mapM_toList]
  simp only [Sem.run_bind, Sem.run_map, Sem.run_pure]
  refine Eq.trans (congrArg (fun r : Result (List Value) => (r.andThen fun a w' => Result.ok a.toArray w').andThen fun a w' => Result.ok (if h : a.size = 1 then a[0] else Value.tuple a) w') this) ?_
  match vs with
  | [] => rfl
  | [v] => rfl
  | u :: v :: r => simp [oneOrTuple]

/-- What a function leaves, however it ends. -/
def endK (f : σ → Heap → Prop) : Ex → σ → Heap → Prop
  | .norm, s, h => f s h
  | .ret, s, h => f s h
  | .exit _, _, _ => False

/-- THE CALL: what a function's statement says, said of the call. -/
theorem callsH_of_sim {f : FuncId} {fn : Func} {c : Code} {n : Nat} {A B R : Pt σ} {E : Ex → Pt σ} {m : Stm σ} {args : Array Value} {h : Heap} {K : Value → Heap → Prop}
    (hf : P.funcs[f]? = some fn) (hb : fn.body = some c) (hn : fn.ntmps = n) (hcall : ∀ (args : Array Value) (w : World), (callFunc f args).run P w = .ok (.enter f args) w)
    (sim : Sim P n A c m B E) (s : σ) (hargs : SubP (A.env s) (argsEnv 0 args.toList)) (hsz : args.size ≤ n)
    (hB : ∀ s, SubP (R.env s) (B.env s)) (hE : E .ret = R) (val : σ → Heap → Prop) (hval : ∀ s h', resVC P (R.env s) h' fn.results.toList [] (fun vs => K (oneOrTuple vs) h') = val s h')
    (hm : m s h (endK val)) : CallsH P f args h K := by
  refine ⟨fun w => hcall args w, ?_⟩
  intro w hw
  subst hw
  subst hn
  refine calls_of_wp hf hb (wp_mono (sim s _ w _ ((rel_enter hsz).sub hargs) hm) ?_)
  intro e a' w' hp
  cases e <;> simp only [SimPost, bodyPost] at hp ⊢
  case normal =>
    obtain ⟨s', hal, hr, hK⟩ := hp
    have hK' : val s' w'.heap := hK
    rw [← hval] at hK'
    obtain ⟨vs, hK2, hres⟩ := run_results (hr.sub (hB s')) hK'
    exact ⟨hr.defers, _, hres w' rfl, _, rfl, hal, hK2⟩
  case ret =>
    obtain ⟨s', hal, hr, hK⟩ := hp
    have hK' : val s' w'.heap := hK
    rw [hE] at hr
    rw [← hval] at hK'
    obtain ⟨vs, hK2, hres⟩ := run_results hr hK'
    exact ⟨hr.defers, _, hres w' rfl, _, rfl, hal, hK2⟩
  case exit i => exact hp.elim fun s' h' => h'.2.2

end Go.Vc

namespace Go.Vc
variable {σ : Type}

/-! ### Statements, opened by simp -/
section
variable {a b c : Stm σ} {s : σ} {h : Heap} {Q : Ex → σ → Heap → Prop}
@[simp] theorem st_reg {r} : Stm.reg (σ := σ) r s h Q = r s h (fun s h => Q .norm s h) := propext Iff.rfl
@[simp] theorem st_ret : Stm.ret (σ := σ) s h Q = Q .ret s h := propext Iff.rfl
@[simp] theorem st_exit {i : Nat} : Stm.exit (σ := σ) i s h Q = Q (.exit i) s h := propext Iff.rfl
@[simp] theorem st_skip : Stm.skip (σ := σ) s h Q = Q .norm s h := propext Iff.rfl
@[simp] theorem st_test {r} : Stm.test (σ := σ) r a b s h Q = r s h (fun c s h => if c = true then a s h Q else b s h Q) := propext Iff.rfl
@[simp] theorem st_cond {f} : Stm.cond (σ := σ) f a b s h Q = (if f s = true then a s h Q else b s h Q) := propext Iff.rfl
@[simp] theorem st_block {i : Nat} : Stm.block (σ := σ) i a s h Q = a s h (BK i Q) := propext Iff.rfl
@[simp] theorem sq_reg {r} : Stm.seq (.reg r) b s h Q = r s h (fun s h => b s h Q) := propext Iff.rfl
@[simp] theorem sq_ret : Stm.seq .ret b s h Q = Q .ret s h := propext Iff.rfl
@[simp] theorem sq_exit {i : Nat} : Stm.seq (.exit i) b s h Q = Q (.exit i) s h := propext Iff.rfl
@[simp] theorem sq_skip : Stm.seq .skip b s h Q = b s h Q := propext Iff.rfl
@[simp] theorem sq_test {r} : Stm.seq (.test r a b) c s h Q = r s h (fun x s h => if x = true then Stm.seq a c s h Q else Stm.seq b c s h Q) := propext Iff.rfl
theorem sq_cond {f} : Stm.seq (.cond f a b) c s h Q = (if f s = true then Stm.seq a c s h Q else Stm.seq b c s h Q) := propext Iff.rfl
@[simp] theorem sq_block {i : Nat} : Stm.seq (.block i a) b s h Q = a s h (BK i (SK b Q)) := propext Iff.rfl
theorem sq_loop : Stm.seq (.loop a) b s h Q = Stm.loop a s h (SK b Q) := propext Iff.rfl
@[simp] theorem sq_seq : Stm.seq (.seq a b) c s h Q = Stm.seq a (.seq b c) s h Q := by
  show a s h (SK b (SK c Q)) = a s h (SK (Stm.seq b c) Q)
  have e : SK b (SK c Q) = SK (Stm.seq b c) Q := by
    funext e s h
    cases e <;> rfl
  rw [e]
@[simp] theorem SK_norm : SK b Q .norm s h = b s h Q := propext Iff.rfl
@[simp] theorem SK_exit {i : Nat} : SK b Q (.exit i) s h = Q (.exit i) s h := propext Iff.rfl
@[simp] theorem SK_ret : SK b Q .ret s h = Q .ret s h := propext Iff.rfl
@[simp] theorem BK_norm {k : Nat} : BK k Q .norm s h = Q .norm s h := propext Iff.rfl
@[simp] theorem BK_ret {k : Nat} : BK k Q .ret s h = Q .ret s h := propext Iff.rfl
@[simp] theorem BK_same {k : Nat} : BK k Q (.exit k) s h = Q .norm s h := by simp [BK]
theorem BK_exit {k i : Nat} : BK k Q (.exit i) s h = (if i = k then Q .norm s h else Q (.exit i) s h) := propext Iff.rfl
@[simp] theorem endK_norm {f : σ → Heap → Prop} : endK f .norm s h = f s h := propext Iff.rfl
@[simp] theorem endK_ret {f : σ → Heap → Prop} : endK f .ret s h = f s h := propext Iff.rfl

theorem loop_rule (I : σ → Heap → Prop) (μ : σ → Heap → Nat) (h0 : I s h) (hr : ∀ s h, I s h → a s h (LK I μ (μ s h) Q)) : Stm.loop a s h Q := ⟨I, μ, h0, hr⟩
@[simp] theorem LK_norm {I : σ → Heap → Prop} {μ : σ → Heap → Nat} {m : Nat} : LK I μ m Q .norm s h = (I s h ∧ μ s h < m) := propext Iff.rfl
@[simp] theorem LK_exit {I : σ → Heap → Prop} {μ : σ → Heap → Nat} {m i : Nat} : LK I μ m Q (.exit i) s h = Q (.exit i) s h := propext Iff.rfl
@[simp] theorem LK_ret {I : σ → Heap → Prop} {μ : σ → Heap → Nat} {m : Nat} : LK I μ m Q .ret s h = Q .ret s h := propext Iff.rfl
end

/-! ### Numbers -/
theorem w_i64 {x : Int} (h1 : -9223372036854775808 ≤ x) (h2 : x ≤ 9223372036854775807) : IntKind.wrap .i64 x = x := by rw [IntKind.wrap_i64]; omega
theorem w_u64 {x : Int} (h1 : 0 ≤ x) (h2 : x ≤ 18446744073709551615) : IntKind.wrap .u64 x = x := by rw [IntKind.wrap_u64]; omega
theorem w_i32 {x : Int} (h1 : -2147483648 ≤ x) (h2 : x ≤ 2147483647) : IntKind.wrap .i32 x = x := by rw [IntKind.wrap_i32]; omega
theorem w_u32 {x : Int} (h1 : 0 ≤ x) (h2 : x ≤ 4294967295) : IntKind.wrap .u32 x = x := by rw [IntKind.wrap_u32]; omega
theorem w_u16 {x : Int} (h1 : 0 ≤ x) (h2 : x ≤ 65535) : IntKind.wrap .u16 x = x := by rw [IntKind.wrap_u16]; omega
theorem w_u8 {x : Int} (h1 : 0 ≤ x) (h2 : x ≤ 255) : IntKind.wrap .u8 x = x := by rw [IntKind.wrap_u8]; omega
theorem wrap_i16 (n : Int) : IntKind.i16.wrap n = (n + 32768) % 65536 - 32768 := by
  simp only [IntKind.wrap, IntKind.bits, IntKind.signed]
  simp
  split <;> omega
theorem w_i16 {x : Int} (h1 : -32768 ≤ x) (h2 : x ≤ 32767) : IntKind.wrap .i16 x = x := by rw [wrap_i16]; omega

theorem fdiv_pow (x : Int) (n : Nat) : Int.fdiv x (2 ^ n) = x / 2 ^ n := Int.fdiv_eq_ediv_of_nonneg x (by exact Int.pow_nonneg (by decide))

/-! Bits of numbers that are not below 0, as natural numbers. -/
theorem ofInt_toNat {k : IntKind} {x : Nat} (h : x < 2 ^ k.bits) : (BitVec.ofInt k.bits (x : Int)).toNat = x := by
  simp [Nat.mod_eq_of_lt h]
theorem wrapU {k : IntKind} (hk : k.signed = false) {x : Nat} (h : x < 2 ^ k.bits) : k.wrap (x : Int) = x := by
  unfold IntKind.wrap
  rw [hk]
  simp only [Bool.false_and, Bool.false_eq_true, if_false]
  have h' : (x : Int) < 2 ^ k.bits := by exact_mod_cast h
  exact Int.emod_eq_of_lt (by omega) h'
theorem and_nat {k : IntKind} (hk : k.signed = false) {x y : Nat} (hx : x < 2 ^ k.bits) (hy : y < 2 ^ k.bits) : bAnd k (x : Int) (y : Int) = ((x &&& y : Nat) : Int) := by
  unfold bAnd
  rw [BitVec.toNat_and, ofInt_toNat hx, ofInt_toNat hy]
  exact wrapU hk (Nat.and_lt_two_pow x hy)
theorem or_nat {k : IntKind} (hk : k.signed = false) {x y : Nat} (hx : x < 2 ^ k.bits) (hy : y < 2 ^ k.bits) : bOr k (x : Int) (y : Int) = ((x ||| y : Nat) : Int) := by
  unfold bOr
  rw [BitVec.toNat_or, ofInt_toNat hx, ofInt_toNat hy]
  exact wrapU hk (Nat.or_lt_two_pow hx hy)
theorem xor_nat {k : IntKind} (hk : k.signed = false) {x y : Nat} (hx : x < 2 ^ k.bits) (hy : y < 2 ^ k.bits) : bXor k (x : Int) (y : Int) = ((x ^^^ y : Nat) : Int) := by
  unfold bXor
  rw [BitVec.toNat_xor, ofInt_toNat hx, ofInt_toNat hy]
  exact wrapU hk (Nat.xor_lt_two_pow hx hy)

/-- 'or' of what does not meet is a sum. -/
theorem or_add {x y n : Nat} (hx : x < 2 ^ n) : x ||| (y * 2 ^ n) = x + y * 2 ^ n := by
  rw [Nat.or_comm, Nat.mul_comm y, ← Nat.two_pow_add_eq_or_of_lt hx, Nat.add_comm]

theorem and_mask (x n : Nat) : x &&& (2 ^ n - 1) = x % 2 ^ n := Nat.and_two_pow_sub_one_eq_mod x n

/-! ### Memory -/
theorem add_mk (b o n : Nat) : Addr.add ⟨b, o, none⟩ n = ⟨b, o + n, none⟩ := by
  unfold Addr.add
  split <;> simp_all

/-- The slice's elements are numbers of a kind. -/
def SlI (h : Heap) (k : IntKind) (s : Sl) (l : List Int) : Prop :=
  l.length = s.n ∧ s.n ≤ s.c ∧ (0 < s.n → ∃ b o, s.p = some ⟨b, o, none⟩ ∧ ∀ i, i < l.length → hcell h ⟨b, o + i, none⟩ = some (.int k (l.getD i 0)))

theorem SlI.ext {h h' : Heap} {k : IntKind} {s : Sl} {l : List Int} (H : SlI h k s l) (he : HExt h h') : SlI h' k s l :=
  ⟨H.1, H.2.1, fun h0 => let ⟨b, o, hp, hc⟩ := H.2.2 h0; ⟨b, o, hp, fun i hi => he _ _ (hc i hi)⟩⟩

/-- An element, loaded. -/
theorem SlI.ld {h : Heap} {k : IntKind} {s : Sl} {l : List Int} (H : SlI h k s l) {i : Int} (h0 : 0 ≤ i) (h1 : i < (s.n : Int)) {K : Int → Prop} (hK : K (l.getD i.toNat 0)) :
    0 ≤ i ∧ i < ((s.n : Nat) : Int) ∧ ptrE s.p fun a => ∃ v : Int, hcell h (Addr.add a (Int.toNat i * 1)) = some (.int k v) ∧ K v := by
  refine ⟨h0, h1, ?_⟩
  obtain ⟨b, o, hp, hc⟩ := H.2.2 (by omega)
  rw [hp]
  refine ⟨_, ?_, hK⟩
  rw [add_mk, Nat.mul_one]
  exact hc _ (by rw [H.1]; omega)

theorem getD_drop (l : List Int) (n i : Nat) : (l.drop n).getD i 0 = l.getD (n + i) 0 := by simp [List.getD]
theorem getD_take (l : List Int) {n i : Nat} (h : i < n) : (l.take n).getD i 0 = l.getD i 0 := by simp [List.getD, h]

/-- s[lo:hi]. -/
theorem SlI.sub {h : Heap} {k : IntKind} {s : Sl} {l : List Int} (H : SlI h k s l) {lo hi : Nat} (h1 : lo ≤ hi) (h2 : hi ≤ s.n) : SlI h k ⟨subP s.p lo s.c 1, hi - lo, s.c - lo⟩ ((l.take hi).drop lo) := by
  refine ⟨by simp [H.1]; omega, ?_, fun h0 => ?_⟩
  · have := H.2.1; simp only; omega
  · simp only at h0
    obtain ⟨b, o, hp, hc⟩ := H.2.2 (by omega)
    have hne : ¬ s.c = lo := by have := H.2.1; omega
    refine ⟨b, o + lo, by simp [subP, hp, hne, add_mk], fun i hi' => ?_⟩
    have hlen : i < hi - lo := by
      have : ((l.take hi).drop lo).length = hi - lo := by simp [H.1]; omega
      omega
    rw [getD_drop, getD_take _ (by omega), Nat.add_assoc]
    exact hc _ (by rw [H.1]; omega)

/-- All bytes are from 0 to 255. -/
def Byt (l : List Int) : Prop := ∀ i, 0 ≤ l.getD i 0 ∧ l.getD i 0 ≤ 255
theorem Byt.drop {l : List Int} (h : Byt l) (n : Nat) : Byt (l.drop n) := fun i => by rw [getD_drop]; exact h _
theorem Byt.take {l : List Int} (h : Byt l) (n : Nat) : Byt (l.take n) := fun i => by
  by_cases hi : i < n
  · rw [getD_take _ hi]; exact h i
  · have : (l.take n).getD i 0 = 0 := by rw [List.getD_eq_getElem?_getD, List.getElem?_take, if_neg hi]; rfl
    rw [this]; omega

/-- All that was there is as it was. -/
structure Old (h h' : Heap) : Prop where
  size : h.size ≤ h'.size
  blk : ∀ b, b < h.size → h'[b]? = h[b]?
theorem Old.refl (h : Heap) : Old h h := ⟨Nat.le_refl _, fun _ _ => rfl⟩
theorem Old.trans {a b c : Heap} (h : Old a b) (k : Old b c) : Old a c :=
  ⟨Nat.le_trans h.size k.size, fun i hi => (k.blk i (Nat.lt_of_lt_of_le hi h.size)).trans (h.blk i hi)⟩
theorem Old.push (h : Heap) (o : Obj) : Old h (h.push o) :=
  ⟨by simp, fun b hb => by rw [Array.getElem?_push, if_neg (by omega)]⟩
theorem Old.new (h : Heap) (cs : List Value) (e : TypeId) : Old h (hnew h cs e) := Old.push h _
theorem Old.ext {h h' : Heap} (H : Old h h') : HExt h h' := by
  intro a v hv
  unfold hcell at *
  have : a.block < h.size := by
    rcases Nat.lt_or_ge a.block h.size with h1 | h1
    · exact h1
    · rw [Array.getElem?_eq_none h1] at hv; cases hv
  rw [H.blk _ this]
  exact hv

end Go.Vc

namespace Go.Vc
open Go.ChangeShapes Go.WideShapes Go.ChangeAt Go.RowKit

theorem below_of_old {W W' : World} (ha : Alike W W') (ho : Old W.heap W'.heap) : Below W.heap.size W W' :=
  ⟨ha.os, ha.tape, ha.output, ho.size, fun k hk => ho.blk k hk⟩

/-- Each argument reads behind the call as it read before. -/
theorem trodAll_stay {H : Type} {enc : TypeId × Value → H} {P : Program} (hl : laidOutB P = true) {W W' : World} (hb : Below W.heap.size W W') {sp : Nat → Bool} :
    ∀ {ts : List TypeId} {vs : List Value} {ds : List (DataW H)} {p : List MemPlace}, ts.all (fun t => P.readableRec t && decide (t < P.types.size)) = true →
      DataW.TrodAll enc P W 0 (fun _ => true) true ts vs ds p → (∀ x ∈ p, x.block < W.heap.size) → (∀ x ∈ p, sp x.block = true) → DataW.TrodAll enc P W' 0 sp true ts vs ds p
  | [], _, _, _, _, h, _, _ => by
    obtain ⟨rfl, rfl, rfl⟩ := trodAll_nil h
    exact trodAll_mk0
  | t :: ts, _, _, _, hp, h, hlt, hsp => by
    obtain ⟨v, vs, d, ds, p, q, rfl, rfl, rfl, h1, h2⟩ := trodAll_cons h
    simp only [List.all_cons, Bool.and_eq_true, decide_eq_true_eq] at hp
    exact trodAll_cons_mk (WideElems.Trod_stays hl hp.1.1 hp.1.2 h1 (fun x hx => hb.same (hlt x (List.mem_append.2 (.inl hx)))) (fun x hx => hsp x (List.mem_append.2 (.inl hx))))
      (trodAll_stay hl hb (by simpa using hp.2) h2 (fun x hx => hlt x (List.mem_append.2 (.inr hx))) (fun x hx => hsp x (List.mem_append.2 (.inr hx))))

/-- ████ WHAT A LAW'S ROW ASKS BEHIND THE CALL, of a call that answers 'true' and leaves all old memory as it was. ████ -/
theorem post_law {H : Type} {enc : TypeId × Value → H} {P : Program} {f : Func} {s : ChangeSpec} {apart fresh handsOn : Bool} {W W' : World} {args : Array Value} {ds gs : List (DataW H)} {before : List MemPlace} {tb : TypeId}
    (hl : laidOutB P = true) (hpar : f.params.toList.all (fun t => P.readableRec t && decide (t < P.types.size)) = true) (hres : f.resultTypes = #[tb]) (htb : P.underlying tb = some .bool)
    (hvars : s.vars = []) (hr : (s.fn H (ds ++ gs)).results = [.lit (.bool true)]) (ha : (s.fn H (ds ++ gs)).args = ds) (hv : (s.fn H (ds ++ gs)).vars = [])
    (hW : DataW.Whole enc P f.params.toList s.vars apart W args.toList ds gs before) (hb : Below W.heap.size W W') : s.post enc P f apart fresh handsOn false W args (.bool true) W' := by
  have hW' := hW
  obtain ⟨p, q, hA, hV, rfl, _, _⟩ := hW
  rw [hvars] at hV
  obtain ⟨rfl, rfl⟩ := trodVars_none hV
  have hlt : ∀ x ∈ p ++ [], x.block < W.heap.size := fun x hx => by simpa using hW'.lt x hx
  refine ⟨ds, [], p ++ [], [], p, [], hW', ?_, ?_, ?_, hb.frame _, fun h => by cases h⟩
  · rw [hr, hres]
    exact trodAll_mk1 (shut_bool htb _)
  · rw [ha]
    exact trodAll_stay hl hb hpar hA (fun x hx => hlt x (by simpa using hx)) (fun x hx => by have := hlt x (by simpa using hx); simpa using this)
  · rw [hv, hvars]
    rfl

/-- An argument of numbers, opened: nil or not. -/
theorem open_sl {H : Type} {enc : TypeId × Value → H} {P : Program} {W : World} {base : Nat} {t e : TypeId} {k : IntKind} {v : Value} {d : DataW H} {ps : List MemPlace}
    (ht : P.underlying t = some (.slice e)) (he : P.underlying e = some (.int k)) (hc : P.cellsOf e = 1) (hv : Value.okWide P W .any base t v) (h : DataW.Trod enc P W 0 (fun _ => true) true t v d ps) :
    ∃ s : Sl, v = .slice s.p s.n s.c ∧ s.c ≤ maxLen ∧ ∃ l : List Int, SlI W.heap k s l ∧ (∀ x ∈ l, (Lit.int k x).wf = true) ∧ (∀ a, s.p = some a → a.block < W.heap.size ∨ s.c = 0) := by
  obtain ⟨a, len, cap, rfl⟩ := okWide_slice ht hv
  obtain ⟨fuel, hf⟩ := h
  rcases open_ints ht he hc hf with ⟨hcs, hx⟩ | ⟨a', len', cap', zs, hcs, _, hl, hm, hz, hx, hcell, hwz⟩
  · simp [Value.cells] at hcs
    obtain ⟨rfl, rfl, rfl⟩ := hcs
    exact ⟨⟨none, 0, 0⟩, rfl, by simp, [], ⟨rfl, Nat.le_refl _, fun h => by simp at h⟩, by simp, by simp⟩
  · simp [Value.cells] at hcs
    obtain ⟨rfl, rfl, rfl⟩ := hcs
    simp only [if_true] at hz
    have lt : ∀ (i : Nat) x, W.cell? (a'.add i) = some x → a'.block < W.heap.size := by
      intro i x hx
      have hbl : (a'.add i).block = a'.block := by unfold Addr.add; split <;> rfl
      rcases Nat.lt_or_ge a'.block W.heap.size with h1 | h1
      · exact h1
      · rw [World.cell?, hbl, Array.getElem?_eq_none h1] at hx
        cases hx
    refine ⟨⟨some a', len, cap⟩, rfl, hm, zs.take len, ⟨by simp; omega, hl, fun h0 => ?_⟩, fun x hx => hwz x (List.mem_of_mem_take hx), ?_⟩
    · simp only at h0
      have h1 := hcell 0 (by omega)
      have hsp : a'.spot = none := by
        have e0 : a'.add 0 = a' := by simp [Addr.add]
        rw [e0, World.cell?] at h1
        cases hs : a'.spot with
        | none => rfl
        | some x => rw [hs] at h1; split at h1 <;> simp at h1
      obtain ⟨b, o, sp⟩ := a'
      simp only at hsp
      subst hsp
      refine ⟨b, o, rfl, fun i hi => ?_⟩
      have hi' : i < len := by simp at hi; omega
      have := hcell i (by omega)
      rw [add_mk] at this
      rw [getD_take _ hi']
      exact this
    · intro a ha
      obtain rfl := Option.some.inj ha
      by_cases hc0 : cap = 0
      · exact Or.inr hc0
      · exact Or.inl (lt 0 _ (hcell 0 (by omega)))

theorem byt_of_wf {l : List Int} (h : ∀ x ∈ l, (Lit.int .u8 x).wf = true) : ∀ x ∈ l, 0 ≤ x ∧ x ≤ 255 := by
  intro x hx
  have := h x hx
  simp [Lit.wf, IntKind.min, IntKind.max, IntKind.signed, IntKind.bits] at this
  omega

theorem laidVars_at {P : Program} {W : World} : ∀ {laid : List (String × DataW Unit)} {ps : List MemPlace} {i : Nat} {n : String} {d : DataW Unit}, DataW.LaidVars P W laid ps → laid[i]? = some (n, d) →
    ∃ g t cs fuel p, P.globalNamed n = some g ∧ (P.globals[g]?).map (·.type) = some t ∧ W.var? P n = some cs ∧ DataW.trod (fun _ => ()) P W 0 (fun _ => true) false fuel t cs.toList = some (d, p)
  | [], _, i, _, _, _, hi => by simp at hi
  | (m, e) :: r, ps, 0, n, d, h, hi => by
    obtain ⟨g, t, cs, fuel, p, q, h1, h2, h3, h4, _, _⟩ := h
    simp only [List.getElem?_cons_zero, Option.some.injEq, Prod.mk.injEq] at hi
    obtain ⟨rfl, rfl⟩ := hi
    exact ⟨g, t, cs, fuel, p, h1, h2, h3, h4⟩
  | (m, e) :: r, ps, i + 1, n, d, h, hi => by
    obtain ⟨g, t, cs, fuel, p, q, _, _, _, _, h5, _⟩ := h
    exact laidVars_at h5 (by simpa using hi)

/-- Is NAME the variable g, an array of n integers of kind k? -/
def tabOk (P : Program) (name : String) (g : Nat) (k : IntKind) (n : Nat) : Bool :=
  decide (P.globalNamed name = some g) && (match (P.globals[g]?).map (·.type) with
    | some t => (match P.underlying t with
      | some (.array m e) => m == n && (match P.underlying e with
        | some (.int k') => decide (k' = k)
        | _ => false) && P.cellsOf e == 1 && P.cellsOf t == n
      | _ => false)
    | none => false)

/-- A table that is laid: its cells, in memory. -/
theorem tab_of_laid {P : Program} {W : World} {laid : List (String × DataW Unit)} {name : String} {k : IntKind} {zs : List Int} {g i : Nat} (ho : tabOk P name g k zs.length = true) (hi : laid[i]? = some (name, Lib.tabData k zs)) (hL : laidMet P laid W) :
    ∀ j, j < zs.length → hcell W.heap ⟨g, j, none⟩ = some (.int k (zs.getD j 0)) := by
  obtain ⟨ps, hV, _, _⟩ := hL
  obtain ⟨g', t, cs, fuel, p, h1, h2, h3, h4⟩ := laidVars_at hV hi
  unfold tabOk at ho
  rw [h1] at ho
  simp only [Bool.and_eq_true, decide_eq_true_eq, Option.some.injEq] at ho
  obtain ⟨rfl, ho⟩ := ho
  rw [h2] at ho
  simp only at ho
  split at ho
  · rename_i m e ht
    simp only [Bool.and_eq_true, beq_iff_eq] at ho
    obtain ⟨⟨⟨rfl, ho1⟩, hc⟩, hct⟩ := ho
    split at ho1
    · rename_i k' he
      obtain rfl := of_decide_eq_true ho1
      have : Lib.TabIs P W name k' zs := by
        unfold Lib.TabIs
        rw [h3, ← Lib.cells_of_tab ht he hc hct h4]
      exact fun j hj => this.cell h1 j hj
    · cases ho1
  · cases ho

/-- A block's cells, laid anew. -/
def layCells (l : List Value) : Obj → Obj
  | .cells _ t frozen => .cells l.toArray t frozen
  | o => o
/-- A settled world with these blocks laid. -/
noncomputable def laidW (P : Program) (os : Os) (ls : List (Nat × List Value)) : World :=
  { World.holding P os ⟨#[], #[], []⟩ with heap := ls.foldl (fun h x => h.modify x.1 (layCells x.2)) (World.holding P os ⟨#[], #[], []⟩).heap }

end Go.Vc

namespace Go.Vc
open Go.ChangeShapes Go.WideShapes Go.ChangeAt Go.RowKit

/-- Is the i-th of a list an error that the variable g holds? -/
def errOk (P : Program) (laid : List (String × DataW Unit)) (i g : Nat) : Bool :=
  match laid[i]? with
  | some (n, .iface _ _) => decide (P.globalNamed n = some g) && (match (P.globals[g]?).map (·.type) with
    | some t => (match P.underlying t with
      | some (.interface _) => true
      | _ => false)
    | none => false)
  | _ => false
/-- A variable that is laid with an error: it holds no nil. -/
theorem err_of_laid {P : Program} {W : World} {laid : List (String × DataW Unit)} {g i : Nat} (ho : errOk P laid i g = true) (hL : laidMet P laid W) : ∃ u v, hcell W.heap ⟨g, 0, none⟩ = some (.iface u v) := by
  obtain ⟨ps, hV, _, _⟩ := hL
  unfold errOk at ho
  split at ho
  · rename_i n nm d hi
    simp only [Bool.and_eq_true, decide_eq_true_eq] at ho
    obtain ⟨hg, ho⟩ := ho
    split at ho
    · rename_i t ht
      split at ho
      · rename_i ms hu
        obtain ⟨g', t', cs, fuel, p, h1, h2, h3, h4⟩ := laidVars_at hV hi
        rw [hg] at h1
        obtain rfl := Option.some.inj h1
        rw [ht] at h2
        obtain rfl := Option.some.inj h2
        obtain ⟨_, u, v, hcs, _, _⟩ := iface_of_trod hu h4
        refine ⟨u, v, ?_⟩
        have := World.var?_cell hg h3 0
        rw [cell_eq] at this
        rw [this, ← Array.getElem?_toList, hcs]
        rfl
      · cases ho
    · cases ho
  · cases ho

/-- How many blocks lie before a call's own. -/
noncomputable def lowOf (P : Program) : Nat := (World.holding P default ⟨#[], #[], []⟩).heap.size
/-- A settled world with these blocks behind it and these blocks laid. -/
noncomputable def laidI (P : Program) (os : Os) (new : Array Obj) (ls : List (Nat × List Value)) : World :=
  { World.holding P os ⟨new, #[], []⟩ with heap := ls.foldl (fun h x => h.modify x.1 (layCells x.2)) (World.holding P os ⟨new, #[], []⟩).heap }
end Go.Vc

namespace Go.Vc
open Go.ChangeShapes Go.WideShapes Go.ChangeAt Go.RowKit

section
variable {H : Type} {enc : TypeId × Value → H} {P : Program} {W : World} {sp : Nat → Bool} {held : Bool} {fuel : Nat} {t e : TypeId} {cs : List Value} {x : DataW H × List MemPlace}

theorem cells_at {base : Nat} {a : Addr} {n : Nat} (h : W.cells? base a n = some cs) : cs.length = n ∧ ∀ j, j < n → hcell W.heap (a.add j) = cs[j]? := by
  unfold World.cells? at h
  split at h
  · refine ⟨by simpa using mapM_some_length h, fun j hj => ?_⟩
    rw [← cell_eq]
    exact mapM_some_get h j j (by simp [hj])
  · cases h

theorem hcell_plain {h : Heap} {a : Addr} {v : Value} (hv : hcell h (a.add 0) = some v) : ∃ b o, a = ⟨b, o, none⟩ ∧ b < h.size := by
  have e0 : a.add 0 = a := by simp [Addr.add]
  rw [e0] at hv
  obtain ⟨b, o, s⟩ := a
  unfold hcell at hv
  have hb : b < h.size := by
    rcases Nat.lt_or_ge b h.size with h1 | h1
    · exact h1
    · simp only at hv
      rw [Array.getElem?_eq_none h1] at hv
      cases hv
  cases s with
  | none => exact ⟨b, o, rfl, hb⟩
  | some s => split at hv <;> simp at hv

theorem open_slc (ht : P.underlying t = some (.slice e)) (h : DataW.trod enc P W 0 sp held fuel t cs = some x) :
    ∃ s : Sl, cs = [.slice s.p s.n s.c] ∧ s.n ≤ s.c ∧ s.c ≤ maxLen ∧ ((s.p = none ∧ s.n = 0 ∧ s.c = 0) ∨ ∃ a, s.p = some a ∧ ∀ i, i < s.n → ∃ cs' y m, W.cells? 0 (a.add (i * P.cellsOf e)) (P.cellsOf e) = some cs' ∧ DataW.trod enc P W 0 sp held m e cs' = some y) := by
  rcases DataW.trod_slice ht h with ⟨h0, _⟩ | ⟨a, len, cap, elems, rest, n, _, rfl, _, _, hl, hm, hlen, hel, _, _⟩
  · exact ⟨⟨none, 0, 0⟩, h0, Nat.le_refl _, by decide, Or.inl ⟨rfl, rfl, rfl⟩⟩
  · refine ⟨⟨some a, len, cap⟩, rfl, hl, hm, Or.inr ⟨a, rfl, fun i hi => ?_⟩⟩
    simp only at hi
    have := hel i hi
    have hi' : i < elems.length := by omega
    rw [List.getElem?_eq_getElem hi', Option.bind_eq_some_iff] at this
    obtain ⟨cs', h1, h2⟩ := this
    exact ⟨cs', _, n, h1, h2⟩

theorem open_str {fs : Array Field} (ht : P.underlying t = some (.struct fs)) (h : DataW.trod enc P W 0 sp held fuel t cs = some x) :
    cs.length = P.cellsOf t ∧ ∀ (i : Nat) (f : Field), fs[i]? = some f → ∃ m y, DataW.trod enc P W 0 sp held m f.type ((cs.drop f.offset).take (P.cellsOf f.type)) = some y := by
  obtain ⟨xs, n, _, _, hl, hx, hf⟩ := DataW.trod_struct ht h
  refine ⟨hl, fun i f hi => ?_⟩
  have hlt : i < xs.length := by
    rw [hx]
    obtain ⟨h1, _⟩ := Array.getElem?_eq_some_iff.1 hi
    exact h1
  exact ⟨n, xs[i], by rw [hf i f hi, List.getElem?_eq_getElem hlt]⟩

theorem open_byt {k : IntKind} (ht : P.underlying t = some (.slice e)) (he : P.underlying e = some (.int k)) (hc : P.cellsOf e = 1) (h : DataW.trod enc P W 0 sp held fuel t cs = some x) :
    ∃ (s : Sl) (l : List Int), cs = [.slice s.p s.n s.c] ∧ SlI W.heap k s l ∧ (∀ x ∈ l, (Lit.int k x).wf = true) ∧ s.c ≤ maxLen ∧ ∀ a, 0 < s.n → s.p = some a → a.block < W.heap.size := by
  obtain ⟨s, rfl, hl, hm, hor⟩ := open_slc ht h
  rcases hor with ⟨h1, h2, h3⟩ | ⟨a, ha, hel⟩
  · exact ⟨s, [], rfl, ⟨h2.symm, hl, fun h0 => by omega⟩, by simp, hm, fun a h0 => by omega⟩
  · have each : ∀ i, i < s.n → ∃ n : Int, hcell W.heap (a.add i) = some (.int k n) ∧ (Lit.int k n).wf = true := by
      intro i hi
      obtain ⟨cs', y, m, h1, h2⟩ := hel i hi
      rw [hc, Nat.mul_one] at h1
      obtain ⟨n, rfl, _, hw⟩ := DataW.trod_int he h2
      obtain ⟨_, h3⟩ := cells_at h1
      have := h3 0 (by omega)
      have e0 : (a.add i).add 0 = a.add i := by simp [Addr.add]
      rw [e0] at this
      exact ⟨n, this, hw⟩
    refine ⟨s, (List.range s.n).map fun i => match hcell W.heap (a.add i) with
      | some (.int _ n) => n
      | _ => 0, rfl, ⟨by simp, hl, fun h0 => ?_⟩, ?_, hm, ?_⟩
    · have hn : 0 < s.n := by omega
      obtain ⟨n0, hn0, _⟩ := each 0 hn
      obtain ⟨b, o, rfl, _⟩ := hcell_plain hn0
      refine ⟨b, o, ha, fun i hi => ?_⟩
      have hi' : i < s.n := by simpa using hi
      obtain ⟨n, hn1, _⟩ := each i hi'
      rw [add_mk] at hn1
      rw [List.getD_eq_getElem?_getD, List.getElem?_map, List.getElem?_range hi']
      simp only [Option.map_some, Option.getD_some, add_mk, hn1]
    · intro z hz
      obtain ⟨i, hi, rfl⟩ := List.mem_map.1 hz
      obtain ⟨n, hn1, hw⟩ := each i (by simpa using hi)
      simp only [hn1]
      exact hw
    · intro a' h0 ha'
      rw [ha] at ha'
      obtain rfl := Option.some.inj ha'
      obtain ⟨n0, hn0, _⟩ := each 0 h0
      obtain ⟨b, o, rfl, hb⟩ := hcell_plain hn0
      exact hb
end

theorem one_list {α : Type} {l : List α} {a : α} {i : Nat} (h : (l.drop i).take 1 = [a]) : l[i]? = some a := by
  have h1 : ((l.drop i).take 1)[0]? = some a := by rw [h]; rfl
  rw [List.getElem?_take, if_pos (by omega), List.getElem?_drop, Nat.add_zero] at h1
  exact h1
theorem nat_of_wf {k : IntKind} (hk : k.signed = false) {x : Int} (h : (Lit.int k x).wf = true) : ∃ n : Nat, x = n ∧ n < 2 ^ k.bits := by
  unfold Lit.wf at h
  simp only [IntKind.min, IntKind.max, hk, Bool.false_eq_true, if_false, Bool.and_eq_true, decide_eq_true_eq] at h
  refine ⟨x.toNat, by omega, ?_⟩
  have h1 := h.1
  have h2 := h.2
  have h3 : x < (2 ^ k.bits : Int) := by omega
  have : ((x.toNat : Nat) : Int) < ((2 ^ k.bits : Nat) : Int) := by rw [Int.toNat_of_nonneg (by omega)]; push_cast; exact h3
  exact_mod_cast this
end Go.Vc

namespace Go.Ml

/-- How many first elements are the same. -/
def pre : List Int → List Int → Nat
  | x :: r, y :: t => if x = y then pre r t + 1 else 0
  | _, _ => 0

theorem pre_le : ∀ (a b : List Int), pre a b ≤ a.length ∧ pre a b ≤ b.length
  | [], b => by simp [pre]
  | x :: r, [] => by simp [pre]
  | x :: r, y :: t => by
    have := pre_le r t
    simp only [pre, List.length_cons]
    split <;> omega

theorem pre_self_of_get : ∀ (a b : List Int), a.length = b.length → (∀ i, i < a.length → a.getD i 0 = b.getD i 0) → pre a b = a.length
  | [], b, _, _ => by simp [pre]
  | x :: r, [], h, _ => by simp at h
  | x :: r, y :: t, h, hg => by
    have h0 := hg 0 (by simp)
    simp at h0
    subst h0
    simp only [pre, if_true, List.length_cons]
    rw [pre_self_of_get r t (by simpa using h) (fun i hi => by have := hg (i + 1) (by simp; omega); simpa using this)]

/-- The place of the first difference is what 'pre' tells. -/
theorem pre_eq : ∀ (a b : List Int) (n : Nat), n < a.length → n < b.length → (∀ i, i < n → a.getD i 0 = b.getD i 0) → a.getD n 0 ≠ b.getD n 0 → pre a b = n
  | [], _, n, h, _, _, _ => by simp at h
  | _ :: _, [], n, _, h, _, _ => by simp at h
  | x :: r, y :: t, n, h1, h2, hg, hne => by
    cases n with
    | zero => simp at hne; simp [pre, hne]
    | succ n =>
      have h0 := hg 0 (by omega)
      simp at h0
      subst h0
      simp only [pre, if_true]
      rw [pre_eq r t n (by simpa using h1) (by simpa using h2) (fun i hi => by have := hg (i + 1) (by omega); simpa using this) (by simpa using hne)]

theorem pre_append (c : List Int) : ∀ (a b : List Int), pre (c ++ a) (c ++ b) = c.length + pre a b := by
  induction c with
  | nil => simp
  | cons x r ih => intro a b; simp only [List.cons_append, pre, if_true, ih, List.length_cons]; omega

/-- If the first n elements are the same, 'pre' goes on behind them. -/
theorem pre_drop (a b : List Int) (n : Nat) (ha : n ≤ a.length) (hb : n ≤ b.length) (h : ∀ i, i < n → a.getD i 0 = b.getD i 0) : pre a b = n + pre (a.drop n) (b.drop n) := by
  have e : a.take n = b.take n := by
    apply List.ext_getElem (by simp; omega)
    intro i h1 h2
    have hi : i < n := by simp at h1; omega
    have := h i hi
    simp only [List.getElem_take]
    rw [List.getD_eq_getElem?_getD, List.getD_eq_getElem?_getD, List.getElem?_eq_getElem (by omega), List.getElem?_eq_getElem (by omega)] at this
    simpa using this
  have := pre_append (a.take n) (a.drop n) (b.drop n)
  rw [List.take_append_drop] at this
  conv at this => lhs; rw [e]
  rw [List.take_append_drop] at this
  rw [this]; simp; omega

/-- The number that bytes make, the least one first. -/
def leN : List Int → Nat
  | [] => 0
  | x :: r => x.toNat + 256 * leN r

theorem leN_lt : ∀ (l : List Int), (∀ x ∈ l, 0 ≤ x ∧ x ≤ 255) → leN l < 256 ^ l.length
  | [], _ => by simp [leN]
  | x :: r, h => by
    have h1 := leN_lt r (fun y hy => h y (List.mem_cons_of_mem _ hy))
    have h2 := h x List.mem_cons_self
    simp only [leN, List.length_cons, Nat.pow_succ]
    omega

theorem xor_zero {a b : Nat} (h : a ^^^ b = 0) : a = b := by
  have h1 : a ^^^ b ^^^ b = a := by rw [Nat.xor_assoc, Nat.xor_self, Nat.xor_zero]
  rw [h, Nat.zero_xor] at h1
  exact h1.symm

/-- Two such numbers of as many bytes: where they part. -/
theorem xor_pre : ∀ (a b : List Int), a.length = b.length → (∀ x ∈ a, 0 ≤ x ∧ x ≤ 255) → (∀ x ∈ b, 0 ≤ x ∧ x ≤ 255) → ∀ k m, leN a ^^^ leN b = 2 ^ k * (2 * m + 1) → pre a b = k / 8
  | [], [], _, _, _, k, m, h => by
    have h1 : 0 < 2 ^ k := Nat.two_pow_pos k
    have h2 : 0 < 2 ^ k * (2 * m + 1) := Nat.mul_pos h1 (by omega)
    rw [← h] at h2
    simp [leN] at h2
  | [], _ :: _, hl, _, _, _, _, _ => by simp at hl
  | _ :: _, [], hl, _, _, _, _, _ => by simp at hl
  | x :: r, y :: t, hl, ha, hb, k, m, h => by
    have hx := ha x List.mem_cons_self
    have hy := hb y List.mem_cons_self
    simp only [leN] at h
    have hmod : ∀ n, ((x.toNat + 256 * leN r) ^^^ (y.toNat + 256 * leN t)) % 2 ^ n = ((x.toNat + 256 * leN r) % 2 ^ n) ^^^ ((y.toNat + 256 * leN t) % 2 ^ n) := fun n => Nat.xor_mod_two_pow
    have h8 := hmod 8
    have e1 : (x.toNat + 256 * leN r) % 2 ^ 8 = x.toNat := by omega
    have e2 : (y.toNat + 256 * leN t) % 2 ^ 8 = y.toNat := by omega
    rw [e1, e2, h] at h8
    have hdiv : ((x.toNat + 256 * leN r) ^^^ (y.toNat + 256 * leN t)) / 2 ^ 8 = leN r ^^^ leN t := by
      rw [Nat.xor_div_two_pow]
      congr 1 <;> omega
    rw [h] at hdiv
    simp only [pre]
    by_cases hxy : x = y
    · subst hxy
      rw [if_pos rfl]
      simp only [Nat.xor_self] at h8
      -- 256 divides the odd multiple: k is at least 8
      have hk : 8 ≤ k := by
        apply Nat.le_of_not_lt
        intro hlt
        have hp : 2 ^ 8 = 2 ^ k * 2 ^ (8 - k) := by rw [← Nat.pow_add]; congr 1; omega
        rw [hp, Nat.mul_mod_mul_left] at h8
        have hpos : 0 < 2 ^ k := Nat.two_pow_pos k
        have h0 : (2 * m + 1) % 2 ^ (8 - k) = 0 := by
          rcases Nat.mul_eq_zero.1 h8 with h | h
          · omega
          · exact h
        have hp2 : 2 ^ (8 - k) = 2 * 2 ^ (8 - k - 1) := by rw [← Nat.pow_succ']; congr 1; omega
        have := Nat.dvd_of_mod_eq_zero h0
        rw [hp2] at this
        have h2 : 2 ∣ 2 * m + 1 := Nat.dvd_trans (Nat.dvd_mul_right 2 _) this
        omega
      have hk2 : 2 ^ k = 2 ^ 8 * 2 ^ (k - 8) := by rw [← Nat.pow_add]; congr 1; omega
      rw [hk2, Nat.mul_assoc, Nat.mul_div_cancel_left _ (Nat.two_pow_pos 8)] at hdiv
      rw [xor_pre r t (by simpa using hl) (fun z hz => ha z (List.mem_cons_of_mem _ hz)) (fun z hz => hb z (List.mem_cons_of_mem _ hz)) (k - 8) m hdiv.symm]
      omega
    · rw [if_neg hxy]
      -- the first byte differs: k is below 8
      have hk : k < 8 := by
        apply Nat.lt_of_not_le
        intro hle
        have hk2 : 2 ^ k = 2 ^ 8 * 2 ^ (k - 8) := by rw [← Nat.pow_add]; congr 1; omega
        rw [hk2, Nat.mul_assoc, Nat.mul_mod_right] at h8
        have := xor_zero h8.symm
        omega
      omega

theorem pre_take : ∀ (n : Nat) (a b : List Int), pre (a.take n) (b.take n) = min n (pre a b)
  | 0, a, b => by simp [pre]
  | n + 1, [], b => by simp [pre]
  | n + 1, _ :: _, [] => by simp [pre]
  | n + 1, x :: r, y :: t => by
    simp only [List.take_succ_cons, pre]
    split
    · rw [pre_take n r t]; omega
    · omega

theorem leN_inj : ∀ (a b : List Int), a.length = b.length → (∀ x ∈ a, 0 ≤ x ∧ x ≤ 255) → (∀ x ∈ b, 0 ≤ x ∧ x ≤ 255) → leN a = leN b → a = b
  | [], [], _, _, _, _ => rfl
  | [], _ :: _, hl, _, _, _ => by simp at hl
  | _ :: _, [], hl, _, _, _ => by simp at hl
  | x :: r, y :: t, hl, ha, hb, h => by
    have hx := ha x List.mem_cons_self
    have hy := hb y List.mem_cons_self
    simp only [leN] at h
    have h1 : x = y := by omega
    have h2 : leN r = leN t := by omega
    rw [h1, leN_inj r t (by simpa using hl) (fun z hz => ha z (List.mem_cons_of_mem _ hz)) (fun z hz => hb z (List.mem_cons_of_mem _ hz)) h2]

/-- What the xor of n bytes tells of two texts. -/
theorem xor_tells {a b : List Int} {n k m : Nat} (ha : n ≤ a.length) (hb : n ≤ b.length) (hA : ∀ x ∈ a, 0 ≤ x ∧ x ≤ 255) (hB : ∀ x ∈ b, 0 ≤ x ∧ x ≤ 255)
    (hk : k < 8 * n) (h : leN (a.take n) ^^^ leN (b.take n) = 2 ^ k * (2 * m + 1)) : pre a b = k / 8 := by
  have := xor_pre (a.take n) (b.take n) (by simp; omega) (fun x hx => hA x (List.mem_of_mem_take hx)) (fun x hx => hB x (List.mem_of_mem_take hx)) k m h
  rw [pre_take] at this
  omega
theorem xor_none {a b : List Int} {n : Nat} (ha : n ≤ a.length) (hb : n ≤ b.length) (hA : ∀ x ∈ a, 0 ≤ x ∧ x ≤ 255) (hB : ∀ x ∈ b, 0 ≤ x ∧ x ≤ 255)
    (h : leN (a.take n) ^^^ leN (b.take n) = 0) : pre a b = n + pre (a.drop n) (b.drop n) := by
  have e := leN_inj (a.take n) (b.take n) (by simp; omega) (fun x hx => hA x (List.mem_of_mem_take hx)) (fun x hx => hB x (List.mem_of_mem_take hx)) (xor_zero h)
  refine pre_drop a b n ha hb fun i hi => ?_
  have := congrArg (fun l => l.getD i 0) e
  simpa [List.getD, hi] using this

end Go.Ml

namespace Go.S2
open Go.Ml

/-- An element of a block: a literal's bytes, or a copy's offset and length. -/
structure El where
  lit : Bool
  src : Nat
  off : Nat
  len : Nat
  rep : Bool
  next : Nat

/-- A number of some bytes, the least one first. -/
def leAt (l : List Int) (i n : Nat) : Option Nat := if i + n ≤ l.length then some (leN ((l.drop i).take n)) else none

def litEl (l : List Int) (f m : Nat) : Option El := if m + 1 ≤ l.length - f then some ⟨true, f, 0, m + 1, false, f + (m + 1)⟩ else none

def readLit (l : List Int) (i : Nat) : Option El :=
  let n := (l.getD i 0).toNat / 4
  if n < 60 then litEl l (i + 1) n
  else match leAt l (i + 1) (n - 59) with
    | none => none
    | some m => litEl l (i + 1 + (n - 59)) m

def moreBase (n : Nat) : Nat := if n = 5 then 8 else if n = 6 then 260 else 65540

def copyEl (o : Option Nat) (n x : Nat) : Option El :=
  match o with
  | none => none
  | some o => some ⟨false, 0, o, n, false, x⟩

def readEl (l : List Int) (i : Nat) (s2 : Bool) : Option El :=
  let tag := (l.getD i 0).toNat
  if tag % 4 = 0 then readLit l i
  else if tag % 4 = 1 then match leAt l (i + 1) 1 with
    | none => none
    | some low =>
      if 0 < tag / 32 * 256 + low ∨ s2 = false then some ⟨false, 0, tag / 32 * 256 + low, tag / 4 % 8 + 4, false, i + 2⟩
      else if tag / 4 % 8 ≤ 4 then some ⟨false, 0, 0, tag / 4 % 8 + 4, true, i + 2⟩
      else match leAt l (i + 2) (tag / 4 % 8 - 4) with
        | none => none
        | some more => some ⟨false, 0, 0, more + moreBase (tag / 4 % 8), true, i + 2 + (tag / 4 % 8 - 4)⟩
  else if tag % 4 = 2 then copyEl (leAt l (i + 1) 2) (tag / 4 + 1) (i + 3)
  else copyEl (leAt l (i + 1) 4) (tag / 4 + 1) (i + 5)

/-- A copy from the bytes that were made, forwards. -/
def fwd (out : List Int) (off : Nat) : Nat → List Int
  | 0 => out
  | k + 1 => fwd out off k ++ [(fwd out off k).getD (out.length + k - off) 0]

theorem fwd_len (out : List Int) (off : Nat) : ∀ k, (fwd out off k).length = out.length + k
  | 0 => by simp [fwd]
  | k + 1 => by simp [fwd, fwd_len out off k]; omega

theorem fwd_pre (out : List Int) (off : Nat) : ∀ k, (fwd out off k).take out.length = out
  | 0 => by simp [fwd]
  | k + 1 => by
    simp only [fwd]
    rw [List.take_append_of_le_length (by rw [fwd_len]; omega), fwd_pre out off k]

/-- What one element makes of what was made. -/
def stepE (l : List Int) (s2 : Bool) (n i : Nat) (out : List Int) (last : Nat) : Option (Nat × List Int × Nat) :=
  match readEl l i s2 with
  | none => none
  | some e =>
    if n < out.length + e.len then none
    else if e.lit then some (e.next, out ++ (l.drop e.src).take e.len, last)
    else
      let o := if e.rep then last else e.off
      if o = 0 ∨ out.length < o then none else some (e.next, fwd out o e.len, o)

def run (l : List Int) (s2 : Bool) (n : Nat) : Nat → Nat → List Int → Nat → Option (List Int)
  | 0, _, out, _ => if out.length = n then some out else none
  | f + 1, i, out, last =>
    if l.length ≤ i then (if out.length = n then some out else none)
    else match stepE l s2 n i out last with
      | none => none
      | some (i', out', last') => run l s2 n f i' out' last'

theorem litEl_src {l : List Int} {f m : Nat} {e : El} (h : litEl l f m = some e) : e.lit = true ∧ e.src + e.len ≤ l.length ∧ f < e.next ∧ e.next ≤ l.length := by
  unfold litEl at h
  split at h
  · simp only [Option.some.injEq] at h
    subst h
    refine ⟨rfl, ?_, ?_, ?_⟩ <;> simp only <;> omega
  · cases h

theorem readLit_src {l : List Int} {i : Nat} {e : El} (h : readLit l i = some e) : e.lit = true ∧ e.src + e.len ≤ l.length ∧ i < e.next ∧ e.next ≤ l.length := by
  unfold readLit at h
  simp only at h
  split at h
  · have := litEl_src h
    exact ⟨this.1, this.2.1, by omega, this.2.2.2⟩
  · split at h
    · cases h
    · have := litEl_src h
      exact ⟨this.1, this.2.1, by omega, this.2.2.2⟩

theorem leAt_le {l : List Int} {i n m : Nat} (h : leAt l i n = some m) : i + n ≤ l.length := by
  unfold leAt at h
  split at h
  · assumption
  · cases h

theorem readEl_src {l : List Int} {i : Nat} {s2 : Bool} {e : El} (h : readEl l i s2 = some e) : (e.lit = true → e.src + e.len ≤ l.length) ∧ i < e.next ∧ e.next ≤ l.length := by
  unfold readEl at h
  simp only at h
  split at h
  · have := readLit_src h
    exact ⟨fun _ => this.2.1, this.2.2⟩
  · split at h
    · split at h
      · cases h
      · rename_i low hlow
        have := leAt_le hlow
        split at h
        · simp only [Option.some.injEq] at h
          subst h
          exact ⟨fun h => by simp at h, by simp only; omega, by simp only; omega⟩
        · split at h
          · simp only [Option.some.injEq] at h
            subst h
            exact ⟨fun h => by simp at h, by simp only; omega, by simp only; omega⟩
          · split at h
            · cases h
            · rename_i more hmore
              have := leAt_le hmore
              simp only [Option.some.injEq] at h
              subst h
              exact ⟨fun h => by simp at h, by simp only; omega, by simp only; omega⟩
    · unfold copyEl at h
      split at h
      · split at h
        · cases h
        · rename_i o ho
          have := leAt_le ho
          simp only [Option.some.injEq] at h
          subst h
          exact ⟨fun h => by simp at h, by simp only; omega, by simp only; omega⟩
      · split at h
        · cases h
        · rename_i o ho
          have := leAt_le ho
          simp only [Option.some.injEq] at h
          subst h
          exact ⟨fun h => by simp at h, by simp only; omega, by simp only; omega⟩

theorem stepE_next {l : List Int} {s2 : Bool} {n i i' : Nat} {out out' : List Int} {last last' : Nat} (h : stepE l s2 n i out last = some (i', out', last')) : i < i' ∧ i' ≤ l.length ∧ out'.length ≤ n := by
  unfold stepE at h
  split at h
  · cases h
  · rename_i e he
    have := readEl_src he
    split at h
    · cases h
    · rename_i hn
      split at h
      · rename_i hl
        simp only [Option.some.injEq, Prod.mk.injEq] at h
        obtain ⟨rfl, rfl, rfl⟩ := h
        refine ⟨this.2.1, this.2.2, ?_⟩
        simp
        omega
      · simp only at h
        generalize (if e.rep = true then last else e.off) = o at h
        split at h
        · cases h
        · simp only [Option.some.injEq, Prod.mk.injEq] at h
          obtain ⟨rfl, rfl, rfl⟩ := h
          refine ⟨this.2.1, this.2.2, ?_⟩
          rw [fwd_len]
          omega

theorem run_fuel (l : List Int) (s2 : Bool) (n : Nat) : ∀ (f g i : Nat) (out : List Int) (last : Nat), l.length ≤ i + f → l.length ≤ i + g → run l s2 n f i out last = run l s2 n g i out last
  | 0, 0, _, _, _, _, _ => rfl
  | 0, g + 1, i, out, last, hf, _ => by simp [run, show l.length ≤ i by omega]
  | f + 1, 0, i, out, last, _, hg => by simp [run, show l.length ≤ i by omega]
  | f + 1, g + 1, i, out, last, hf, hg => by
    simp only [run]
    split
    · rfl
    · cases hs : stepE l s2 n i out last with
      | none => rfl
      | some x =>
        obtain ⟨i', out', last'⟩ := x
        have := stepE_next hs
        exact run_fuel l s2 n f g i' out' last' (by omega) (by omega)

/-- What a block's elements stand for, from a place on. -/
def dec (l : List Int) (s2 : Bool) (n i : Nat) (out : List Int) (last : Nat) : Option (List Int) := run l s2 n (l.length - i) i out last

theorem dec_stop {l : List Int} {s2 : Bool} {n i : Nat} {out : List Int} {last : Nat} (h : l.length ≤ i) : dec l s2 n i out last = if out.length = n then some out else none := by
  unfold dec
  rw [show l.length - i = 0 by omega]
  rfl
theorem dec_bad {l : List Int} {s2 : Bool} {n i : Nat} {out : List Int} {last : Nat} (h : i < l.length) (hs : stepE l s2 n i out last = none) : dec l s2 n i out last = none := by
  unfold dec
  rw [show l.length - i = (l.length - i - 1) + 1 by omega]
  simp [run, hs, show ¬ l.length ≤ i by omega]
theorem dec_go {l : List Int} {s2 : Bool} {n i i' : Nat} {out out' : List Int} {last last' : Nat} (h : i < l.length) (hs : stepE l s2 n i out last = some (i', out', last')) : dec l s2 n i out last = dec l s2 n i' out' last' := by
  have := stepE_next hs
  unfold dec
  rw [show l.length - i = (l.length - i - 1) + 1 by omega]
  simp only [run, hs, show ¬ l.length ≤ i by omega, if_false]
  exact run_fuel l s2 n _ _ _ _ _ (by omega) (by omega)

theorem leN_take_succ (l : List Int) (i n : Nat) (h : i < l.length) : leN ((l.drop i).take (n + 1)) = (l.getD i 0).toNat + 256 * leN ((l.drop (i + 1)).take n) := by
  rw [List.drop_eq_getElem_cons h, List.take_succ_cons, leN, List.getD_eq_getElem?_getD, List.getElem?_eq_getElem h]
  rfl

/-- A copy that does not reach into itself. -/
theorem fwd_apart (out : List Int) (off : Nat) : ∀ k, k ≤ off → off ≤ out.length → fwd out off k = out ++ (out.drop (out.length - off)).take k
  | 0, _, _ => by simp [fwd]
  | k + 1, hk, ho => by
    simp only [fwd]
    rw [fwd_apart out off k (by omega) ho]
    have hi : out.length + k - off < out.length := by omega
    have e1 : (out ++ (out.drop (out.length - off)).take k).getD (out.length + k - off) 0 = out[out.length + k - off] := by
      rw [List.getD_eq_getElem?_getD, List.getElem?_append_left hi, List.getElem?_eq_getElem hi]; rfl
    rw [e1, List.append_assoc]
    congr 1
    have hd : k < (out.drop (out.length - off)).length := by simp; omega
    rw [List.take_add_one, List.getElem?_eq_getElem hd]
    simp only [List.getElem_drop, Option.toList]
    congr 2
    congr 1
    omega

theorem leAt_lt4 {l : List Int} (hb : ∀ x ∈ l, 0 ≤ x ∧ x ≤ 255) {i n m : Nat} (hn : n ≤ 4) (h : leAt l i n = some m) : m < 2 ^ 32 := by
  unfold leAt at h
  split at h
  · obtain rfl := Option.some.inj h
    have h1 := leN_lt ((l.drop i).take n) (fun x hx => hb x (List.mem_of_mem_drop (List.mem_of_mem_take hx)))
    have h2 : ((l.drop i).take n).length ≤ 4 := by simp; omega
    have h3 : 256 ^ ((l.drop i).take n).length ≤ 256 ^ 4 := Nat.pow_le_pow_right (by decide) h2
    omega
  · cases h

theorem litEl_small {l : List Int} {f m : Nat} {e : El} (h : litEl l f m = some e) : e.len ≤ l.length ∧ e.off = 0 := by
  unfold litEl at h
  split at h
  · simp only [Option.some.injEq] at h
    subst h
    exact ⟨by simp only; omega, rfl⟩
  · cases h

theorem readEl_small {l : List Int} (hb : ∀ x ∈ l, 0 ≤ x ∧ x ≤ 255) {i : Nat} {s2 : Bool} {e : El} (hv : (l.getD i 0).toNat ≤ 255) (h : readEl l i s2 = some e) : e.len ≤ l.length + 2 ^ 33 ∧ e.off < 2 ^ 33 := by
  unfold readEl at h
  simp only at h
  split at h
  · unfold readLit at h
    simp only at h
    split at h
    · have := litEl_small h; omega
    · split at h
      · cases h
      · have := litEl_small h; omega
  · split at h
    · split at h
      · cases h
      · rename_i low hlow
        have := leAt_lt4 hb (by omega) hlow
        split at h
        · simp only [Option.some.injEq] at h
          subst h
          refine ⟨?_, ?_⟩ <;> simp only <;> omega
        · split at h
          · simp only [Option.some.injEq] at h
            subst h
            refine ⟨?_, ?_⟩ <;> simp only <;> omega
          · split at h
            · cases h
            · rename_i more hmore
              have := leAt_lt4 hb (by omega) hmore
              simp only [Option.some.injEq] at h
              subst h
              have hmb : moreBase ((l.getD i 0).toNat / 4 % 8) ≤ 65540 := by unfold moreBase; split <;> (try split) <;> omega
              refine ⟨?_, ?_⟩ <;> simp only <;> omega
    · unfold copyEl at h
      split at h
      · split at h
        · cases h
        · rename_i o ho
          have := leAt_lt4 hb (by omega) ho
          simp only [Option.some.injEq] at h
          subst h
          refine ⟨?_, ?_⟩ <;> simp only <;> omega
      · split at h
        · cases h
        · rename_i o ho
          have := leAt_lt4 hb (by omega) ho
          simp only [Option.some.injEq] at h
          subst h
          refine ⟨?_, ?_⟩ <;> simp only <;> omega

end Go.S2

namespace Go.S2

/-- The length that a block begins with, as the reference reads it: it, how many bytes it has, and no (0), yes (1) or open (2). -/
def slen (l : List Int) : Nat → Nat → Nat → Nat × Nat × Nat
  | 0, _, _ => if 5 < l.length then (0, 0, 2) else (0, 0, 0)
  | f + 1, i, n =>
    if l.length ≤ i then (if 5 < l.length then (0, 0, 2) else (0, 0, 0))
    else
      let b := (l.getD i 0).toNat
      let n' := if i < 9 ∧ n < 2 ^ 40 then n + b % 128 * 2 ^ (7 * i) else n
      if 128 ≤ b then slen l f (i + 1) n'
      else if 2 ^ 32 ≤ n' then (0, 0, 0)
      else if (0 < i ∧ b = 0) ∨ 4 < i then (n', i + 1, 2)
      else (n', i + 1, 1)
def s2len (l : List Int) : Nat × Nat × Nat := slen l 10 0 0

/-- The length, as the program reads it. -/
def vlen (l : List Int) : Nat → Nat → Nat → Option (Nat × Nat)
  | 0, _, _ => none
  | f + 1, i, n =>
    if l.length ≤ i then none
    else
      let b := (l.getD i 0).toNat
      let n' := n + b % 128 * 2 ^ (7 * i)
      if 128 ≤ b then vlen l f (i + 1) n'
      else if 2 ^ 32 ≤ n' then none
      else some (n', i + 1)
def dlen (l : List Int) : Option (Nat × Nat) := vlen l 5 0 0

theorem slen_late (l : List Int) : ∀ (f i n : Nat), 5 ≤ i → (i < l.length ∨ 5 < l.length) → (slen l f i n).2.2 ≠ 1
  | 0, i, n, hi, hl => by unfold slen; split <;> simp
  | f + 1, i, n, hi, hl => by
    unfold slen
    split
    · split <;> simp
    · simp only
      generalize (if i < 9 ∧ n < 2 ^ 40 then n + (l.getD i 0).toNat % 128 * 2 ^ (7 * i) else n) = n'
      by_cases h1 : 128 ≤ (l.getD i 0).toNat
      · rw [if_pos h1]
        refine slen_late l f _ _ (by omega) (by omega)
      · rw [if_neg h1]
        by_cases h2 : 2 ^ 32 ≤ n'
        · rw [if_pos h2]; simp
        · rw [if_neg h2, if_pos (by omega)]; simp

theorem slen_ok (l : List Int) : ∀ (f i n : Nat), (slen l f i n).2.2 ≤ 2 ∧ (slen l f i n).2.1 ≤ l.length ∧ (slen l f i n).2.1 ≤ i + f ∧ (slen l f i n).1 < 2 ^ 32
  | 0, i, n => by unfold slen; split <;> simp
  | f + 1, i, n => by
    unfold slen
    split
    · split <;> simp
    · simp only
      generalize (if i < 9 ∧ n < 2 ^ 40 then n + (l.getD i 0).toNat % 128 * 2 ^ (7 * i) else n) = n'
      by_cases h1 : 128 ≤ (l.getD i 0).toNat
      · rw [if_pos h1]
        have := slen_ok l f (i + 1) n'
        omega
      · rw [if_neg h1]
        by_cases h2 : 2 ^ 32 ≤ n'
        · rw [if_pos h2]; simp
        · rw [if_neg h2]
          split <;> simp <;> omega

theorem pow7 {i : Nat} (h : i ≤ 4) : 2 ^ (7 * i) ≤ 2 ^ 28 := Nat.pow_le_pow_right (by decide) (by omega)

theorem slen_vlen (l : List Int) : ∀ (f i n : Nat), i + f = 5 → n < 2 ^ (7 * i) →
    ((slen l (f + 5) i n).2.2 = 1 → vlen l f i n = some ((slen l (f + 5) i n).1, (slen l (f + 5) i n).2.1)) ∧ ((slen l (f + 5) i n).2.2 = 0 → vlen l f i n = none)
  | 0, i, n, hi, hn => by
    refine ⟨fun h => ?_, fun _ => rfl⟩
    by_cases hl : i < l.length
    · exact absurd h (slen_late l 5 i n (by omega) (Or.inl hl))
    · exfalso
      unfold slen at h
      rw [if_pos (by omega)] at h
      split at h <;> simp at h
  | f + 1, i, n, hi, hn => by
    have hp := pow7 (i := i) (by omega)
    rw [show f + 1 + 5 = (f + 5) + 1 by omega]
    unfold slen vlen
    by_cases hl : l.length ≤ i
    · rw [if_pos hl, if_pos hl]
      split <;> simp
    rw [if_neg hl, if_neg hl]
    simp only
    have hcond : i < 9 ∧ n < 2 ^ 40 := ⟨by omega, by omega⟩
    rw [if_pos hcond]
    generalize hb : (l.getD i 0).toNat = b
    by_cases h1 : 128 ≤ b
    · rw [if_pos h1, if_pos h1]
      refine slen_vlen l f (i + 1) _ (by omega) ?_
      rw [show 7 * (i + 1) = 7 * i + 7 by omega, Nat.pow_add]
      have : b % 128 * 2 ^ (7 * i) ≤ 127 * 2 ^ (7 * i) := Nat.mul_le_mul_right _ (by omega)
      omega
    rw [if_neg h1, if_neg h1]
    by_cases h2 : 2 ^ 32 ≤ n + b % 128 * 2 ^ (7 * i)
    · rw [if_pos h2, if_pos h2]; simp
    rw [if_neg h2, if_neg h2]
    split <;> simp

theorem dlen_yes {l : List Int} (h : (s2len l).2.2 = 1) : dlen l = some ((s2len l).1, (s2len l).2.1) := (slen_vlen l 5 0 0 rfl (by decide)).1 h
theorem dlen_no {l : List Int} (h : (s2len l).2.2 = 0) : dlen l = none := (slen_vlen l 5 0 0 rfl (by decide)).2 h

theorem vlen_some (l : List Int) : ∀ (f i n : Nat) {v k : Nat}, vlen l f i n = some (v, k) → v < 2 ^ 32 ∧ k ≤ l.length ∧ i < k ∧ k ≤ i + f
  | 0, _, _, _, _, h => by simp [vlen] at h
  | f + 1, i, n, v, k, h => by
    unfold vlen at h
    split at h
    · cases h
    · simp only at h
      split at h
      · have := vlen_some l f _ _ h
        omega
      · split at h
        · cases h
        · simp only [Option.some.injEq, Prod.mk.injEq] at h
          omega
theorem vlen_ok {l : List Int} {v k : Nat} (h : dlen l = some (v, k)) : v < 2 ^ 32 ∧ k ≤ l.length ∧ 0 < k ∧ k ≤ 5 := by
  have := vlen_some l 5 0 0 h
  omega

/-- A block decoded, as the reference does it: the bytes and no (0), yes (1) or open (2). -/
def decd (l : List Int) (s2 : Bool) : List Int × Nat :=
  let r := s2len l
  if r.2.2 = 0 then ([], 0)
  else if 4194304 < r.1 then ([], 2)
  else match dec l s2 r.1 r.2.1 [] 0 with
    | none => ([], 0)
    | some out => if r.2.2 = 2 then ([], 2) else (out, 1)
end Go.S2
