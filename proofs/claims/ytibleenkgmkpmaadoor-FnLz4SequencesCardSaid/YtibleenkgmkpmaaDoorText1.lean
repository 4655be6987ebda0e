/- A part of the calculus over heaps, or of the proof over it: what functions of the program compute, and the plain law. -/
import Derived.WalkKit
import Derived.StillTail

namespace Go.Vc

/-! ### Heaps -/
abbrev Heap := Array Obj

def hcell (h : Heap) (a : Addr) : Option Value :=
  match h[a.block]? with
  | some (.cells c _ _) => if a.spot.isSome then none else c[a.off]?
  | _ => none

def hfrozen (h : Heap) (a : Addr) : Bool :=
  match h[a.block]? with
  | some (.cells _ _ (lo, hi)) => lo ≤ a.off && a.off < hi
  | _ => false

def hset (h : Heap) (a : Addr) (v : Value) : Heap :=
  h.modify a.block fun
    | .cells c elem frozen => .cells (if a.spot.isSome then c else c.setIfInBounds a.off v) elem frozen
    | o => o

theorem cell_eq (w : World) (a : Addr) : w.cell? a = hcell w.heap a := rfl
theorem frozen_eq (w : World) (a : Addr) : w.frozen? a = hfrozen w.heap a := rfl
theorem setCell_eq (w : World) (a : Addr) (v : Value) : w.setCell a v = { w with heap := hset w.heap a v } := rfl

/-- What the world bears beside the heap and the count of draws. -/
structure Alike (w w' : World) : Prop where
  os : w'.os = w.os
  tape : w'.tape = w.tape
  output : w'.output = w.output

theorem Alike.refl (w : World) : Alike w w := ⟨rfl, rfl, rfl⟩
theorem Alike.trans {a b c : World} (h : Alike a b) (k : Alike b c) : Alike a c :=
  ⟨k.os.trans h.os, k.tape.trans h.tape, k.output.trans h.output⟩

/-! ### Frames as association lists, the newest first -/
abbrev Env := List (Nat × Value)

def Env.get : Env → Nat → Option Value
  | [], _ => none
  | (i, v) :: r, j => bif Nat.beq i j then some v else Env.get r j

def Env.ev (e : Env) : Operand → Option Value
  | .tmp t => e.get t
  | .const v => some v
  | .global g => some (.pointer (some ⟨g, 0, none⟩))
  | .func f => some (.func (.func f) #[] #[])

structure Rel (n : Nat) (e : Env) (a : Act) : Prop where
  size : a.tmps.size = n
  defers : a.defers = []
  ok : ∀ i v, e.get i = some v → a.tmps.getD i undef = v

theorem Rel.ev {n : Nat} {e : Env} {a : Act} (h : Rel n e a) {x : Operand} {v : Value} (hx : e.ev x = some v) : a.eval x = v := by
  cases x with
  | tmp t => exact h.ok t v hx
  | const c => simpa [Env.ev, Act.eval] using hx
  | global g => simpa [Env.ev, Act.eval] using hx
  | func f => simpa [Env.ev, Act.eval] using hx

theorem Rel.put {n : Nat} {e : Env} {a : Act} (h : Rel n e a) {d : Nat} (hd : d < n) (v : Value) : Rel n ((d, v) :: e) (a.put (some d) v) := by
  refine ⟨by simp [Act.put, h.size], by simp [Act.put, h.defers], ?_⟩
  intro i u hu
  have hs : d < a.tmps.size := by rw [h.size]; exact hd
  simp only [Env.get] at hu
  cases hb : Nat.beq d i with
  | true =>
    have hdi : d = i := Nat.eq_of_beq_eq_true hb
    subst hdi
    rw [hb] at hu
    simp at hu
    subst hu
    simp [Act.put, hs]
  | false =>
    rw [hb] at hu
    simp at hu
    have hdi : d ≠ i := fun h' => by subst h'; simp at hb
    have := h.ok i u hu
    simp only [Act.put]
    simp only [Array.getD_eq_getD_getElem?] at this ⊢
    rw [Array.getElem?_setIfInBounds_ne hdi]
    exact this

theorem Rel.put_none {n : Nat} {e : Env} {a : Act} (h : Rel n e a) (v : Value) : Rel n e (a.put none v) := by
  simpa [Act.put] using h

/-- Every pair of the first list is met in the second. -/
def SubP : Env → Env → Prop
  | [], _ => True
  | (i, v) :: r, e => e.get i = some v ∧ SubP r e

theorem SubP.get {e : Env} : ∀ {d : Env}, SubP d e → ∀ i v, d.get i = some v → e.get i = some v
  | [], _, i, v, h => by simp [Env.get] at h
  | (j, u) :: r, hs, i, v, h => by
    simp only [Env.get] at h
    cases hb : Nat.beq j i with
    | true =>
      rw [hb] at h; simp at h; subst h
      have : j = i := Nat.eq_of_beq_eq_true hb
      subst this
      exact hs.1
    | false =>
      rw [hb] at h; simp at h
      exact SubP.get hs.2 i v h

theorem Rel.sub {n : Nat} {e d : Env} {a : Act} (h : Rel n e a) (hs : SubP d e) : Rel n d a :=
  ⟨h.size, h.defers, fun i v hv => h.ok i v (hs.get i v hv)⟩

/-- A value that is known to be a Bool: written out. -/
theorem Rel.known {n : Nat} {e : Env} {a : Act} (h : Rel n e a) {d : Nat} {v : Value} (hd : e.get d = some v) : Rel n ((d, v) :: e) a := by
  refine ⟨h.size, h.defers, fun i u hu => ?_⟩
  simp only [Env.get] at hu
  cases hb : Nat.beq d i with
  | true =>
    rw [hb] at hu; simp at hu; subst hu
    have : d = i := Nat.eq_of_beq_eq_true hb
    subst this
    exact h.ok _ _ hd
  | false => rw [hb] at hu; simp at hu; exact h.ok i u hu

end Go.Vc

namespace Go.Vc

/-! ### Values whose make is known -/
/-- A value like 'z': its constructor laid open. -/
def quant1 (z : Value) (K : Value → Prop) : Prop :=
  match z with
  | .int k _ => ∃ n : Int, K (.int k n)
  | .bool _ => ∃ b : Bool, K (.bool b)
  | .slice _ _ _ => ∃ (p : Option Addr) (n c : Nat), K (.slice p n c)
  | .pointer _ => ∃ p : Option Addr, K (.pointer p)
  | .string _ => ∃ s : ByteArray, K (.string s)
  | _ => ∃ v : Value, K v

theorem quant1_elim {z : Value} {K : Value → Prop} (h : quant1 z K) : ∃ v, K v := by
  cases z <;> simp only [quant1] at h
  all_goals first
    | (obtain ⟨p, n, c, h⟩ := h; exact ⟨_, h⟩)
    | (obtain ⟨v, h⟩ := h; exact ⟨_, h⟩)

def ld1 (z : Value) (c : Option Value) (K : Value → Prop) : Prop := quant1 z fun v => c = some v ∧ K v

theorem ld1_elim {z : Value} {c : Option Value} {K : Value → Prop} (h : ld1 z c K) : ∃ v, c = some v ∧ K v := quant1_elim h

def ldCells : List Value → (Nat → Option Value) → Nat → List Value → (List Value → Prop) → Prop
  | [], _, _, acc, K => K acc.reverse
  | z :: zs, f, i, acc, K => ld1 z (f i) fun v => ldCells zs f (i + 1) (v :: acc) K

theorem ldCells_elim : ∀ {zs : List Value} {f : Nat → Option Value} {i : Nat} {acc : List Value} {K : List Value → Prop}, ldCells zs f i acc K →
    ∃ vs, vs.length = zs.length ∧ (∀ j v, vs[j]? = some v → f (i + j) = some v) ∧ K (acc.reverse ++ vs)
  | [], f, i, acc, K, h => ⟨[], rfl, by simp, by simpa [ldCells] using h⟩
  | z :: zs, f, i, acc, K, h => by
    obtain ⟨v, hv, h⟩ := ld1_elim h
    obtain ⟨vs, hl, hf, hK⟩ := ldCells_elim h
    refine ⟨v :: vs, by simp [hl], ?_, by simpa using hK⟩
    intro j u hu
    cases j with
    | zero => simp at hu; subst hu; simpa using hv
    | succ j => simp at hu; have := hf j u hu; rwa [show i + 1 + j = i + (j + 1) by omega] at this

def isAggD : TypeDesc → Bool
  | .struct _ | .array _ _ => true
  | _ => false

theorem run_isAgg' {P : Program} {t : TypeId} {d : TypeDesc} (hd : P.underlying t = some d) (w : World) : (isAgg t).run P w = .ok (isAggD d) w := by
  unfold isAgg
  simp only [Sem.run_bind, run_underlying hd, Result.andThen]
  cases d <;> rfl

def ldP (P : Program) (t : TypeId) (a : Addr) (h : Heap) (K : Value → Prop) : Prop :=
  match P.info? t, P.underlying t with
  | some i, some d =>
    match i.zero with
    | some (.agg zs) => bif isAggD d && Nat.beq zs.toList.length i.size then ldCells zs.toList (fun j => hcell h (a.add j)) 0 [] (fun l => K (.agg l.toArray)) else False
    | some z => bif isAggD d then False else ld1 z (hcell h a) K
    | none => False
  | _, _ => False

theorem run_typeInfo' {P : Program} {t : TypeId} {i : TypeInfo} (hi : P.info? t = some i) (w : World) : (typeInfo t).run P w = .ok i w := by
  simp [typeInfo, hi]
theorem run_sizeOf' {P : Program} {t : TypeId} {i : TypeInfo} (hi : P.info? t = some i) (w : World) : (sizeOf t).run P w = .ok i.size w := by
  simp [sizeOf, run_typeInfo' hi]
theorem run_zeroValue' {P : Program} {t : TypeId} {i : TypeInfo} {z : Value} (hi : P.info? t = some i) (hz : i.zero = some z) (w : World) : (zeroValue t).run P w = .ok z w := by
  simp [zeroValue, run_typeInfo' hi, hz]

theorem ldP_sound {P : Program} {t : TypeId} {a : Addr} {h : Heap} {K : Value → Prop} (H : ldP P t a h K) :
    ∃ v, K v ∧ ∀ w : World, (∀ a v, hcell h a = some v → hcell w.heap a = some v) → (loadVar t a).run P w = .ok v w := by
  unfold ldP at H
  cases hi : P.info? t with
  | none => simp [hi] at H
  | some i =>
    cases hd : P.underlying t with
    | none => simp [hi, hd] at H
    | some d =>
      simp only [hi, hd] at H
      cases hz : i.zero with
      | none => simp [hz] at H
      | some z =>
        rw [hz] at H
        by_cases hg : ∃ zs, z = .agg zs
        · obtain ⟨zs, rfl⟩ := hg
          simp only at H
          cases hb : isAggD d with
          | false => simp [hb] at H
          | true =>
            cases hn : Nat.beq zs.toList.length i.size with
            | false => rw [hb, hn] at H; exact H.elim
            | true =>
              simp only [hb, hn, Bool.and_self, cond_true] at H
              obtain ⟨vs, hl, hf, hK⟩ := ldCells_elim H
              refine ⟨_, hK, fun w hw => ?_⟩
              have h1 : zs.toList.length = i.size := Nat.eq_of_beq_eq_true hn
              have h2 := run_loadCells_list (P := P) w a vs (fun j v hv => by have := hf j v hv; rw [Nat.zero_add] at this; exact hw _ _ this)
              rw [hl, h1] at h2
              unfold loadVar
              simp [run_isAgg' hd, hb, run_sizeOf' hi, h2]
        · have H' : (bif isAggD d then False else ld1 z (hcell h a) K) := by
            cases z <;> first | exact H | exact absurd ⟨_, rfl⟩ hg
          cases hb : isAggD d with
          | true => simp [hb] at H'
          | false =>
            simp only [hb, cond_false] at H'
            obtain ⟨v, hv, hK⟩ := ld1_elim H'
            refine ⟨v, hK, fun w hw => ?_⟩
            have hv' := hw _ _ hv
            unfold loadVar
            simp [run_isAgg' hd, hb, cell_eq, hv']

/-! ### Numbers -/
@[reducible] def bAnd (k : IntKind) (x y : Int) : Int := k.wrap ((BitVec.ofInt k.bits x) &&& (BitVec.ofInt k.bits y)).toNat
@[reducible] def bOr (k : IntKind) (x y : Int) : Int := k.wrap ((BitVec.ofInt k.bits x) ||| (BitVec.ofInt k.bits y)).toNat
@[reducible] def bXor (k : IntKind) (x y : Int) : Int := k.wrap ((BitVec.ofInt k.bits x) ^^^ (BitVec.ofInt k.bits y)).toNat
@[reducible] def bAndNot (k : IntKind) (x y : Int) : Int := k.wrap ((BitVec.ofInt k.bits x) &&& ~~~(BitVec.ofInt k.bits y)).toNat

def kEq : IntKind → IntKind → Bool
  | .i8, .i8 | .i16, .i16 | .i32, .i32 | .i64, .i64 | .u8, .u8 | .u16, .u16 | .u32, .u32 | .u64, .u64 => true
  | _, _ => false
theorem kEq_eq {a b : IntKind} (h : kEq a b = true) : a = b := by cases a <;> cases b <;> simp_all [kEq]

def isNilI : Value → Option Bool
  | .nilIface => some true
  | .iface _ _ => some false
  | _ => none

/-- Whether an interface value is nil. -/
def nilE (x : Value) (K : Bool → Prop) : Prop :=
  match isNilI x with
  | some b => K b
  | none => False

/-- '=' of what is no number. -/
def eqV (P : Program) (t : TypeId) (x y : Value) (K : Bool → Prop) : Prop :=
  match P.underlying t with
  | some (.slice _) => match x, y with
    | .slice p _ _, .slice none _ _ => K p.isNone
    | .slice none _ _, .slice q _ _ => K q.isNone
    | _, _ => False
  | some (.pointer _) => match x, y with
    | .pointer p, .pointer none => K p.isNone
    | .pointer none, .pointer q => K q.isNone
    | _, _ => False
  | some .bool => match x, y with
    | .bool a, .bool b => K (a == b)
    | _, _ => False
  | some (.interface _) => match y with
    | .nilIface => nilE x K
    | _ => False
  | _ => False

def binInt (op : BinOp) (k : IntKind) (x y : Int) (K : Value → Prop) : Prop :=
  match op with
  | .add => K (.int k (k.wrap (x + y)))
  | .sub => K (.int k (k.wrap (x - y)))
  | .mul => K (.int k (k.wrap (x * y)))
  | .quo => if y = 0 then False else K (.int k (k.wrap (x.tdiv y)))
  | .rem => if y = 0 then False else K (.int k (x.tmod y))
  | .and => K (.int k (bAnd k x y))
  | .or => K (.int k (bOr k x y))
  | .xor => K (.int k (bXor k x y))
  | .andNot => K (.int k (bAndNot k x y))
  | .eql => K (.bool (x == y))
  | .neq => K (.bool (x != y))
  | .lss => K (.bool (x < y))
  | .leq => K (.bool (x ≤ y))
  | .gtr => K (.bool (x > y))
  | .geq => K (.bool (x ≥ y))
  | _ => False

def binN (P : Program) (op : BinOp) (t : TypeId) (x y : Value) (K : Value → Prop) : Prop :=
  match op, x, y with
  | .shl, .int k a, .int _ b => if b < 0 then False else K (.int k (k.wrap (a * 2 ^ (min b.toNat k.bits))))
  | .shr, .int k a, .int _ b => if b < 0 then False else K (.int k (a.fdiv (2 ^ (min b.toNat k.bits))))
  | op, .int k a, .int k' b => bif kEq k k' then binInt op k a b K else False
  | .eql, x, y => eqV P t x y (fun b => K (.bool b))
  | .neq, x, y => eqV P t x y (fun b => K (.bool (!b)))
  | _, _, _ => False

def isIfaceT (P : Program) (t : TypeId) : Bool :=
  match P.underlying t with
  | some (.interface _) => true
  | _ => false

def binP (P : Program) (op : BinOp) (t : TypeId) (x y : Value) (K : Value → Prop) : Prop :=
  bif isIfaceT P t then match op with
    | .eql => eqV P t x y fun b => K (.bool b)
    | .neq => eqV P t x y fun b => K (.bool (!b))
    | _ => False
  else binN P op t x y K

theorem run_binInt {P : Program} {op : BinOp} {k : IntKind} {x y : Int} {K : Value → Prop} (H : binInt op k x y K) (hs : op ≠ .shl ∧ op ≠ .shr) (t : TypeId) :
    ∃ v, K v ∧ ∀ w : World, (binOp op t (.int k x) (.int k y)).run P w = .ok v w := by
  cases op <;> simp only [binInt] at H
  case quo =>
    split at H
    · exact H.elim
    · rename_i h0; exact ⟨_, H, fun w => by simp [binOp, Op.intDiv, h0]⟩
  case rem =>
    split at H
    · exact H.elim
    · rename_i h0; exact ⟨_, H, fun w => by simp [binOp, Op.intDiv, h0]⟩
  all_goals first
    | exact H.elim
    | (refine ⟨_, H, fun w => ?_⟩; first
        | (simp [binOp, Op.intArith, Op.intCmp]; done)
        | (simp only [binOp, ne_eq, not_true_eq_false, if_false]; rfl))

/-- An operand that is written in the text. -/
def isConstO : Operand → Bool
  | .const _ => true
  | _ => false

def eqOk (P : Program) (op : BinOp) (t : TypeId) (y : Operand) : Bool :=
  match op, P.underlying t with
  | .eql, some (.interface _) | .neq, some (.interface _) => isConstO y
  | _, _ => true

theorem equal_open {P : Program} {t : TypeId} (x y : Value) (w : World) :
    (Op.equal t x y).run P w = (Op.equalIn (9999 + 1) t x y).run P w := rfl

theorem eqV_sound {P : Program} {t : TypeId} {x y : Value} {K : Bool → Prop} (H : eqV P t x y K) :
    ∃ b, K b ∧ ∀ w : World, (Op.equal t x y).run P w = .ok b w := by
  unfold eqV at H
  cases hd : P.underlying t with
  | none => rw [hd] at H; exact H.elim
  | some d =>
    rw [hd] at H
    cases d <;> simp only at H
    case bool =>
      split at H
      · exact ⟨_, H, fun w => run_equal_bool w t _ _ hd⟩
      · exact H.elim
    case pointer e =>
      split at H
      · refine ⟨_, H, fun w => ?_⟩
        rename_i p
        rw [equal_open, Op.equalIn]
        simp only [Sem.run_bind, run_underlying hd, Result.andThen]
        cases p <;> rfl
      · refine ⟨_, H, fun w => ?_⟩
        rw [equal_open, Op.equalIn]
        simp only [Sem.run_bind, run_underlying hd, Result.andThen]
        rfl
      · exact H.elim
    case slice e =>
      split at H
      · refine ⟨_, H, fun w => ?_⟩
        rename_i p _ _ _ _
        rw [equal_open, Op.equalIn]
        simp only [Sem.run_bind, run_underlying hd, Result.andThen]
        cases p <;> rfl
      · refine ⟨_, H, fun w => ?_⟩
        rw [equal_open, Op.equalIn]
        simp only [Sem.run_bind, run_underlying hd, Result.andThen]
        rfl
      · exact H.elim
    case interface ms =>
      cases y <;> simp only at H
      all_goals first
        | exact H.elim
        | (cases x <;> simp only [nilE, isNilI] at H <;> first
            | exact H.elim
            | (refine ⟨_, H, fun w => ?_⟩
               rw [equal_open, Op.equalIn]
               simp only [Sem.run_bind, run_underlying hd, Result.andThen]
               rfl))
    all_goals exact H.elim

theorem binN_sound {P : Program} {op : BinOp} {t : TypeId} {x y : Value} {K : Value → Prop} {ox oy : Operand} (hok : eqOk P op t oy = true) (H : binN P op t x y K) :
    ∃ v, K v ∧ ∀ w : World, (do eqGuard op t ox oy x y; binOp op t x y : Sem Value).run P w = .ok v w := by
  have hguard : ∀ w : World, (eqGuard op t ox oy x y).run P w = .ok () w := by
    intro w
    by_cases hop : op = .eql ∨ op = .neq
    · have hnil : ¬ (x = .nilIface ∧ y = .nilIface ∧ isConstO oy = false) := by
        rintro ⟨rfl, rfl, hc⟩
        rcases hop with rfl | rfl
        all_goals
          simp only [binN, eqV] at H
          simp only [eqOk] at hok
          cases hd : P.underlying t with
          | none => simp only [hd] at H
          | some d => cases d <;> simp only [hd] at H hok <;> simp_all
      have hagg : ¬ ((∃ a, x = .agg a) ∧ ∃ b, y = .agg b) := by
        rintro ⟨⟨a, rfl⟩, b, rfl⟩
        rcases hop with rfl | rfl
        all_goals
          simp only [binN, eqV] at H
          cases hd : P.underlying t with
          | none => simp only [hd] at H
          | some d => cases d <;> simp only [hd] at H
      unfold eqGuard
      cases x <;> cases y <;> first
        | (rcases hop with rfl | rfl <;> rfl)
        | (exfalso; exact hagg ⟨⟨_, rfl⟩, _, rfl⟩)
        | (cases oy <;> first
            | (exfalso; exact hnil ⟨rfl, rfl, rfl⟩)
            | (rcases hop with rfl | rfl <;> simp <;> rfl))
    · unfold eqGuard
      cases op <;> first
        | (exfalso; exact hop (.inl rfl))
        | (exfalso; exact hop (.inr rfl))
        | rfl
  have key : ∃ v, K v ∧ ∀ w : World, (binOp op t x y).run P w = .ok v w := by
    unfold binN at H
    split at H
    · split at H
      · exact H.elim
      · rename_i hb
        exact ⟨_, H, fun w => by simp [binOp, Op.shift, hb]⟩
    · split at H
      · exact H.elim
      · rename_i hb
        exact ⟨_, H, fun w => by simp [binOp, Op.shift, hb]⟩
    · rename_i hs1 hs2
      cases hk : kEq _ _ with
      | false => rw [hk] at H; exact H.elim
      | true =>
        rw [hk] at H
        have := kEq_eq hk
        subst this
        exact run_binInt H ⟨hs1, hs2⟩ t
    · rename_i hnum
      obtain ⟨b, hK, hb⟩ := eqV_sound H
      refine ⟨_, hK, fun w => ?_⟩
      unfold eqV at H
      cases hd : P.underlying t with
      | none => simp only [hd] at H
      | some d =>
        simp only [hd] at H
        cases x <;> cases y <;> first
          | (exact absurd rfl (hnum _ _ _ _ rfl))
          | (simp only [binOp, Sem.run_bind, hb w, Result.andThen]; rfl)
          | (cases d <;> simp only at H)
    · rename_i hnum
      obtain ⟨b, hK, hb⟩ := eqV_sound H
      refine ⟨_, hK, fun w => ?_⟩
      unfold eqV at H
      cases hd : P.underlying t with
      | none => simp only [hd] at H
      | some d =>
        simp only [hd] at H
        cases x <;> cases y <;> first
          | (exact absurd rfl (hnum _ _ _ _ rfl))
          | (simp only [binOp, Sem.run_bind, hb w, Result.andThen]; rfl)
          | (cases d <;> simp only at H)
    · exact H.elim
  obtain ⟨v, hK, hr⟩ := key
  exact ⟨v, hK, fun w => by simp only [Sem.run_bind, hguard, Result.andThen, hr]⟩

theorem isIfaceT_spec {P : Program} {t : TypeId} (h : isIfaceT P t = true) : ∃ ms, P.underlying t = some (.interface ms) := by
  unfold isIfaceT at h
  cases hd : P.underlying t with
  | none => rw [hd] at h; cases h
  | some d => rw [hd] at h; cases d <;> first | exact ⟨_, rfl⟩ | (cases h)

/-- An interface value against nil. -/
theorem eqV_iface {P : Program} {t : TypeId} {ms : Array (String × TypeId)} (hd : P.underlying t = some (.interface ms)) {x y : Value} {K : Bool → Prop} (H : eqV P t x y K) :
    y = .nilIface ∧ (x = .nilIface ∨ ∃ u v, x = .iface u v) := by
  unfold eqV at H
  rw [hd] at H
  cases y <;> simp only at H <;> (try exact H.elim)
  cases x <;> simp only [nilE, isNilI] at H <;> first | exact H.elim | exact ⟨rfl, .inl rfl⟩ | exact ⟨rfl, .inr ⟨_, _, rfl⟩⟩

theorem binP_sound {P : Program} {op : BinOp} {t : TypeId} {x y : Value} {K : Value → Prop} {ox oy : Operand} (hok : eqOk P op t oy = true) (H : binP P op t x y K) :
    ∃ v, K v ∧ ∀ w : World, (do eqGuard op t ox oy x y; binOp op t x y : Sem Value).run P w = .ok v w := by
  unfold binP at H
  cases hif : isIfaceT P t with
  | true =>
    rw [hif] at H
    simp only [cond_true] at H
    obtain ⟨ms, hd⟩ := isIfaceT_spec hif
    have key : ∀ (f : Bool → Bool), (op = .eql ∧ f = id ∨ op = .neq ∧ f = fun b => !b) → eqV P t x y (fun b => K (.bool (f b))) →
        ∃ v, K v ∧ ∀ w : World, (do eqGuard op t ox oy x y; binOp op t x y : Sem Value).run P w = .ok v w := by
      intro f hf he
      obtain ⟨b, hK, hb⟩ := eqV_sound he
      obtain ⟨rfl, hx⟩ := eqV_iface hd he
      refine ⟨_, hK, fun w => ?_⟩
      have hc : isConstO oy = true := by
        rcases hf with ⟨rfl, _⟩ | ⟨rfl, _⟩ <;> simpa [eqOk, hd] using hok
      have hg : (eqGuard op t ox oy x .nilIface).run P w = .ok () w := by
        unfold eqGuard
        rcases hx with rfl | ⟨u, v, rfl⟩
        · cases oy <;> first
            | (simp [isConstO] at hc; done)
            | (rcases hf with ⟨rfl, _⟩ | ⟨rfl, _⟩ <;> simp <;> rfl)
        · rcases hf with ⟨rfl, _⟩ | ⟨rfl, _⟩ <;> rfl
      simp only [Sem.run_bind, hg, Result.andThen]
      rcases hf with ⟨rfl, rfl⟩ | ⟨rfl, rfl⟩
      · rcases hx with rfl | ⟨u, v, rfl⟩ <;> (simp only [binOp, Sem.run_bind, hb w, Result.andThen]; rfl)
      · rcases hx with rfl | ⟨u, v, rfl⟩ <;> (simp only [binOp, Sem.run_bind, hb w, Result.andThen]; rfl)
    split at H
    · exact key id (.inl ⟨rfl, rfl⟩) H
    · exact key _ (.inr ⟨rfl, rfl⟩) H
    · exact H.elim
  | false =>
    rw [hif] at H
    simp only [cond_false] at H
    exact binN_sound hok H

end Go.Vc

namespace Go.Vc

def ptrE (p : Option Addr) (K : Addr → Prop) : Prop :=
  match p with
  | some a => K a
  | none => False

theorem ptrE_elim {p : Option Addr} {K : Addr → Prop} (h : ptrE p K) : ∃ a, p = some a ∧ K a := by
  cases p with
  | none => exact h.elim
  | some a => exact ⟨a, rfl, h⟩

def unP (op : UnOp) (x : Value) (K : Value → Prop) : Prop :=
  match op, x with
  | .neg, .int k n => K (.int k (k.wrap (0 - n)))
  | .xor, .int k n => K (.int k (bXor k (if k.signed then -1 else k.max) n))
  | .not, .bool b => K (.bool (!b))
  | _, _ => False

def convP (P : Program) (s d : TypeId) (x : Value) (K : Value → Prop) : Prop :=
  match P.underlying s, P.underlying d, x with
  | some _, some (.int k), .int _ n => K (.int k (k.wrap n))
  | _, _, _ => False

def boundP (v : Value) (y : Nat) (K : Nat → Prop) : Prop :=
  match v with
  | .int _ i => 0 ≤ i ∧ i ≤ y ∧ K i.toNat
  | _ => False

/-- The address of a slice's part. -/
def subP (p : Option Addr) (l m s : Nat) : Option Addr := if m = l then p else p.map (·.add (l * s))

def loP (lo : Option Value) (K : Nat → Nat → Nat → Prop) (h m : Nat) : Prop :=
  match lo with
  | some v => boundP v h fun l => K l h m
  | none => K 0 h m

def bndsP (n c : Nat) (lo hi mx : Option Value) (K : Nat → Nat → Nat → Prop) : Prop :=
  match mx, hi with
  | none, none => loP lo K n c
  | none, some v => boundP v c fun h => loP lo K h c
  | some u, some v => boundP u c fun m => boundP v m fun h => loP lo K h m
  | some _, none => False

def slP (P : Program) (t : TypeId) (x : Value) (lo hi mx : Option Value) (K : Value → Prop) : Prop :=
  match P.underlying t, x with
  | some (.slice e), .slice p n c =>
    match P.info? e with
    | some i => bndsP n c lo hi mx fun l h m => K (.slice (subP p l m i.size) (h - l) (m - l))
    | none => False
  | some (.array n e), .pointer p =>
    match P.info? e with
    | some i => ptrE p fun a => bndsP n n lo hi mx fun l h m => K (.slice (subP (some a) l m i.size) (h - l) (m - l))
    | none => False
  | some .string, .string s =>
    match mx with
    | none => bndsP s.size s.size lo hi none fun l h _ => K (.string (s.extract l h))
    | some _ => False
  | _, _ => False

def partP (P : Program) (t : TypeId) (cs : Array Value) (off : Nat) (K : Value → Prop) : Prop :=
  match P.underlying t, P.info? t with
  | some d, some i =>
    bif isAggD d then K (.agg ((cs.toList.drop off).take i.size).toArray)
    else match cs.toList[off]? with
      | some v => K v
      | none => False
  | _, _ => False

def fldAddrP (P : Program) (s : TypeId) (x : Value) (f : Nat) (K : Value → Prop) : Prop :=
  match P.underlying s with
  | some (.struct fs) =>
    match fs.toList[f]? with
    | some fd =>
      match P.info? fd.type with
      | some i => bif Nat.beq i.size 0 then False else match x with
        | .pointer p => ptrE p fun a => K (.pointer (some (a.add fd.offset)))
        | _ => False
      | none => False
    | none => False
  | _ => False

def fldP (P : Program) (t : TypeId) (x : Value) (f : Nat) (K : Value → Prop) : Prop :=
  match P.underlying t, x with
  | some (.struct fs), .agg cs =>
    match fs.toList[f]? with
    | some fd => partP P fd.type cs fd.offset K
    | none => False
  | _, _ => False

def idxAddrP (P : Program) (t : TypeId) (x i : Value) (K : Value → Prop) : Prop :=
  match P.underlying t, x, i with
  | some (.slice e), .slice p n _, .int _ j =>
    match P.info? e with
    | some i => 0 ≤ j ∧ j < n ∧ ptrE p fun a => K (.pointer (some (a.add (j.toNat * i.size))))
    | none => False
  | some (.array n e), .pointer p, .int _ j =>
    match P.info? e with
    | some i => 0 ≤ j ∧ j < n ∧ ptrE p fun a => K (.pointer (some (a.add (j.toNat * i.size))))
    | none => False
  | _, _, _ => False

def idxP (P : Program) (t : TypeId) (x i : Value) (K : Value → Prop) : Prop :=
  match P.underlying t, x, i with
  | some (.array n e), .agg cs, .int _ j =>
    match P.info? e, P.underlying e with
    | some i, some d => bif isAggD d then False else match i.zero with
      | some z => 0 ≤ j ∧ j < n ∧ ld1 z (cs.toList[j.toNat * i.size]?) K
      | none => False
    | _, _ => False
  | some .string, .string s, .int _ j => 0 ≤ j ∧ ∃ b : UInt8, s[j.toNat]? = some b ∧ K (.int .u8 b.toNat)
  | _, _, _ => False

def extP (x : Value) (i : Nat) (K : Value → Prop) : Prop :=
  match x with
  | .tuple vs => match vs.toList[i]? with
    | some v => K v
    | none => False
  | _ => False

def evList (ev : Operand → Option Value) : List Operand → Option (List Value)
  | [] => some []
  | x :: r => match ev x, evList ev r with
    | some v, some vs => some (v :: vs)
    | _, _ => none

def evParts (ev : Operand → Option Value) : List (Nat × Operand) → Option (List (Nat × Value))
  | [] => some []
  | (i, x) :: r => match ev x, evParts ev r with
    | some v, some vs => some ((i, v) :: vs)
    | _, _ => none

/-- Parts laid into cells. -/
def fillL (place : Nat → Option (Nat × Nat)) (cells : List Value) : List (Nat × Value) → Option (List Value)
  | [] => some cells
  | (i, v) :: r =>
    match place i with
    | none => none
    | some (off, size) => bif Nat.beq v.cells.toList.length size && Nat.ble (off + v.cells.toList.length) cells.length then
        fillL place (cells.take off ++ v.cells.toList ++ cells.drop (off + v.cells.toList.length)) r else none

def structPlace (P : Program) (fs : Array Field) (i : Nat) : Option (Nat × Nat) :=
  match fs.toList[i]? with
  | some f => match P.info? f.type with
    | some j => some (f.offset, j.size)
    | none => none
  | none => none

def allSized (P : Program) : List Field → Bool
  | [] => true
  | f :: r => (P.info? f.type).isSome && allSized P r

def buildP (P : Program) (t : TypeId) (parts : List (Nat × Value)) (K : Value → Prop) : Prop :=
  match P.info? t, P.underlying t with
  | some i, some (.struct fs) =>
    match i.zero with
    | some z => bif allSized P fs.toList then match fillL (structPlace P fs) z.cells.toList parts with
      | some cs => K (.agg cs.toArray)
      | none => False
      else False
    | none => False
  | some i, some (.array _ e) =>
    match i.zero, P.info? e with
    | some z, some j => match fillL (fun k => some (k * j.size, j.size)) z.cells.toList parts with
      | some cs => K (.agg cs.toArray)
      | none => False
    | _, _ => False
  | _, _ => False

def lenP (P : Program) (t : TypeId) (x : Value) (K : Value → Prop) : Prop :=
  match P.underlying t, x with
  | some .string, .string s => K (.int .i64 s.size)
  | some (.slice _), .slice _ n _ => K (.int .i64 n)
  | some (.array n _), _ => K (.int .i64 n)
  | some (.pointer arr), _ => match P.underlying arr with
    | some (.array n _) => K (.int .i64 n)
    | _ => False
  | _, _ => False

def capP (P : Program) (t : TypeId) (x : Value) (K : Value → Prop) : Prop :=
  match P.underlying t, x with
  | some (.slice _), .slice _ _ c => K (.int .i64 c)
  | _, _ => False

def callVal (P : Program) (ev : Operand → Option Value) (c : Call) (K : Value → Prop) : Prop :=
  match c.callee with
  | .builtin .len => match c.args.toList, c.argTypes.toList with
    | [x], [t] => match ev x with
      | some v => lenP P t v K
      | none => False
    | _, _ => False
  | .builtin .cap => match c.args.toList, c.argTypes.toList with
    | [x], [t] => match ev x with
      | some v => capP P t v K
      | none => False
    | _, _ => False
  | .builtin .min => match c.args.toList with
    | [x, y] => match ev x, ev y with
      | some (.int k a), some (.int _ b) => K (.int k (if b < a then b else a))
      | _, _ => False
    | _ => False
  | .builtin .max => match c.args.toList with
    | [x, y] => match ev x, ev y with
      | some (.int k a), some (.int _ b) => K (.int k (if b > a then b else a))
      | _, _ => False
    | _ => False
  | _ => False

/-- An operation that reads at most: the values that it may yield. -/
def valOp (P : Program) (ev : Operand → Option Value) (op : Op) (h : Heap) (K : Value → Prop) : Prop :=
  match op with
  | .move x | .assign x => match ev x with
    | some v => K v
    | none => False
  | .pick c a b => match ev c with
    | some (.bool true) => match ev a with
      | some v => K v
      | none => False
    | some (.bool false) => match ev b with
      | some v => K v
      | none => False
    | _ => False
  | .load t a => match ev a with
    | some (.pointer p) => ptrE p fun ad => ldP P t ad h K
    | _ => False
  | .nilCheck x => match ev x with
    | some (.pointer p) => ptrE p fun a => K (.pointer (some a))
    | _ => False
  | .binOp op t x y _ => match ev x, ev y with
    | some a, some b => bif eqOk P op t y then binP P op t a b K else False
    | _, _ => False
  | .unOp op _ x => match ev x with
    | some a => unP op a K
    | none => False
  | .convert s d x => match ev x with
    | some a => convP P s d a K
    | none => False
  | .makeInterface t x => match ev x, P.underlying t with
    | some _, some (.interface _) => False
    | some v, some _ => K (.iface t v)
    | _, _ => False
  | .makeFunc fn first captured => match evList ev first.toList, evList ev captured.toList with
    | some a, some b => K (.func fn a.toArray b.toArray)
    | _, _ => False
  | .slice t x lo hi mx => match ev x with
    | some v => match lo, hi, mx with
      | none, none, none => slP P t v none none none K
      | some l, none, none => match ev l with
        | some l => slP P t v (some l) none none K
        | none => False
      | none, some u, none => match ev u with
        | some u => slP P t v none (some u) none K
        | none => False
      | some l, some u, none => match ev l, ev u with
        | some l, some u => slP P t v (some l) (some u) none K
        | _, _ => False
      | some l, some u, some m => match ev l, ev u, ev m with
        | some l, some u, some m => slP P t v (some l) (some u) (some m) K
        | _, _, _ => False
      | none, some u, some m => match ev u, ev m with
        | some u, some m => slP P t v none (some u) (some m) K
        | _, _ => False
      | _, none, some _ => False
    | none => False
  | .fieldAddr s x f => match ev x with
    | some v => fldAddrP P s v f K
    | none => False
  | .field t x f => match ev x with
    | some v => fldP P t v f K
    | none => False
  | .indexAddr t x i => match ev x, ev i with
    | some v, some j => idxAddrP P t v j K
    | _, _ => False
  | .index t x i => match ev x, ev i with
    | some v, some j => idxP P t v j K
    | _, _ => False
  | .extract x i => match ev x with
    | some v => extP v i K
    | none => False
  | .build t parts => match evParts ev parts.toList with
    | some ps => buildP P t ps K
    | none => False
  | .call c => callVal P ev c K
  | _ => False

end Go.Vc

namespace Go.Vc
variable {P : Program}

theorem unP_sound {op : UnOp} {x : Value} {K : Value → Prop} (H : unP op x K) : ∃ v, K v ∧ ∀ w : World, (Op.unary op x).run P w = .ok v w := by
  unfold unP at H
  split at H
  · exact ⟨_, H, fun w => by simp [Op.unary, Op.intArith]⟩
  · exact ⟨_, H, fun w => by simp only [Op.unary]; rfl⟩
  · exact ⟨_, H, fun w => rfl⟩
  · exact H.elim

theorem convP_sound {s d : TypeId} {x : Value} {K : Value → Prop} (H : convP P s d x K) : ∃ v, K v ∧ ∀ w : World, (convert s d x).run P w = .ok v w := by
  unfold convP at H
  cases hs : P.underlying s with
  | none => rw [hs] at H; exact H.elim
  | some a =>
    cases hd : P.underlying d with
    | none => rw [hs, hd] at H; exact H.elim
    | some b =>
      rw [hs, hd] at H
      cases b <;> cases x <;> simp only at H
      refine ⟨_, H, fun w => ?_⟩
      unfold convert
      simp only [Sem.run_bind, run_underlying hs, run_underlying hd, Result.andThen]
      rfl

theorem boundP_sound {v : Value} {y : Nat} {K : Nat → Prop} (H : boundP v y K) (code : BoundsCode) : ∃ n, K n ∧ ∀ w : World, (Instr.sliceBound v y code).run P w = .ok n w := by
  unfold boundP at H
  split at H
  · obtain ⟨h0, h1, hK⟩ := H
    exact ⟨_, hK, fun w => run_sliceBound w _ _ _ _ h0 h1⟩
  · exact H.elim

theorem bndsP_sound {n c : Nat} {lo hi mx : Option Value} {K : Nat → Nat → Nat → Prop} (b : Bool) (H : bndsP n c lo hi mx K) :
    ∃ l h m, K l h m ∧ ∀ w : World, (Instr.sliceBounds b n c lo hi mx).run P w = .ok (l, h, m) w := by
  have hlo : ∀ {h m : Nat}, loP lo K h m → ∃ l, K l h m ∧
      ∀ w : World, (match lo with | some v => Instr.sliceBound v h (if mx.isSome then .slice3C else .sliceB) | none => pure 0 : Sem Nat).run P w = .ok l w := by
    intro h m hm
    unfold loP at hm
    cases lo with
    | none => exact ⟨0, hm, fun w => rfl⟩
    | some v => exact boundP_sound hm _
  unfold bndsP at H
  cases mx with
  | none =>
    cases hi with
    | none =>
      obtain ⟨l, hK, hr⟩ := hlo H
      refine ⟨l, n, c, hK, fun w => ?_⟩
      have h1 := hr w
      unfold Instr.sliceBounds
      cases lo <;> simp_all
    | some v =>
      obtain ⟨h, hh, hr2⟩ := boundP_sound (P := P) H (if b then .sliceAcap else .sliceAlen)
      obtain ⟨l, hK, hr⟩ := hlo hh
      refine ⟨l, h, c, hK, fun w => ?_⟩
      have h1 := hr w
      have h2 := hr2 w
      unfold Instr.sliceBounds
      cases lo <;> simp_all
  | some u =>
    cases hi with
    | none => exact H.elim
    | some v =>
      obtain ⟨m, hm, hr3⟩ := boundP_sound (P := P) H (if b then .slice3Acap else .slice3Alen)
      obtain ⟨h, hh, hr2⟩ := boundP_sound (P := P) hm .slice3B
      obtain ⟨l, hK, hr⟩ := hlo hh
      refine ⟨l, h, m, hK, fun w => ?_⟩
      have h1 := hr w
      have h2 := hr2 w
      have h3 := hr3 w
      unfold Instr.sliceBounds
      cases lo <;> simp_all

theorem slP_sound {t : TypeId} {x : Value} {lo hi mx : Option Value} {K : Value → Prop} (H : slP P t x lo hi mx K) :
    ∃ v, K v ∧ ∀ w : World, (Instr.sliceAt t x lo hi mx).run P w = .ok v w := by
  unfold slP at H
  cases hd : P.underlying t with
  | none => rw [hd] at H; exact H.elim
  | some d =>
    rw [hd] at H
    cases d <;> cases x <;> (try simp only at H)
    case slice.slice e p n c =>
      cases hi' : P.info? e with
      | none => rw [hi'] at H; exact H.elim
      | some i =>
        rw [hi'] at H
        obtain ⟨l, h, m, hK, hr⟩ := bndsP_sound (P := P) true H
        refine ⟨_, hK, fun w => ?_⟩
        unfold Instr.sliceAt
        simp only [Sem.run_bind, run_underlying hd, Result.andThen]
        unfold Instr.slice
        rw [Sem.run_bind, run_underlying hd]
        simp only [Result.andThen, Sem.run_bind, hr, run_sizeOf' hi']
        rfl
    case array.pointer n e p =>
      cases hi' : P.info? e with
      | none => rw [hi'] at H; exact H.elim
      | some i =>
        rw [hi'] at H
        obtain ⟨a, rfl, H⟩ := ptrE_elim H
        obtain ⟨l, h, m, hK, hr⟩ := bndsP_sound (P := P) false H
        refine ⟨_, hK, fun w => ?_⟩
        unfold Instr.sliceAt
        simp only [Sem.run_bind, run_underlying hd, Result.andThen, Instr.sureAddr, hr, run_sizeOf' hi', Sem.run_pure, subP]
        split <;> simp
    case string.string s =>
      cases mx with
      | some _ => exact H.elim
      | none =>
        obtain ⟨l, h, m, hK, hr⟩ := bndsP_sound (P := P) false H
        refine ⟨_, hK, fun w => ?_⟩
        unfold Instr.sliceAt
        simp only [Sem.run_bind, run_underlying hd, Result.andThen]
        unfold Instr.slice
        simp [run_underlying hd, hr]

theorem partP_sound {t : TypeId} {cs : Array Value} {off : Nat} {K : Value → Prop} (H : partP P t cs off K) : ∃ v, K v ∧ ∀ w : World, (part t cs off).run P w = .ok v w := by
  unfold partP at H
  cases hd : P.underlying t with
  | none => rw [hd] at H; exact H.elim
  | some d =>
    cases hi : P.info? t with
    | none => rw [hd, hi] at H; exact H.elim
    | some i =>
      rw [hd, hi] at H
      simp only at H
      cases hb : isAggD d with
      | true =>
        rw [hb] at H
        refine ⟨_, H, fun w => ?_⟩
        unfold part
        simp only [Sem.run_bind, run_isAgg' hd, hb, Result.andThen, if_true, run_sizeOf' hi, Sem.run_pure]
        congr 2
        apply Array.ext'
        simp [Array.toList_extract, List.extract]
      | false =>
        rw [hb] at H
        simp only [cond_false] at H
        cases hc : cs.toList[off]? with
        | none => rw [hc] at H; exact H.elim
        | some v =>
          rw [hc] at H
          refine ⟨_, H, fun w => ?_⟩
          have hc' : cs[off]? = some v := by simpa using hc
          unfold part
          simp [run_isAgg' hd, hb, hc']

theorem fldAddrP_sound {s : TypeId} {x : Value} {f : Nat} {K : Value → Prop} (H : fldAddrP P s x f K) : ∃ v, K v ∧ ∀ w : World, (Instr.fieldAt s x f).run P w = .ok v w := by
  unfold fldAddrP at H
  cases hd : P.underlying s with
  | none => rw [hd] at H; exact H.elim
  | some d =>
    rw [hd] at H
    cases d <;> simp only at H
    case struct fs =>
      cases hf : fs.toList[f]? with
      | none => rw [hf] at H; exact H.elim
      | some fd =>
        rw [hf] at H
        simp only at H
        cases hi : P.info? fd.type with
        | none => rw [hi] at H; exact H.elim
        | some i =>
          rw [hi] at H
          simp only at H
          cases hz : Nat.beq i.size 0 with
          | true => rw [hz] at H; exact H.elim
          | false =>
            rw [hz] at H
            simp only [cond_false] at H
            split at H
            · obtain ⟨a, rfl, H⟩ := ptrE_elim H
              refine ⟨_, H, fun w => ?_⟩
              have hf' : fs[f]? = some fd := by simpa using hf
              have hz' : ¬ i.size = 0 := fun h => by rw [h] at hz; simp at hz
              unfold Instr.fieldAt
              simp [run_underlying hd, hf', Instr.sureAddr, fieldPlace, run_sizeOf' hi, hz']
            · exact H.elim

theorem fldP_sound {t : TypeId} {x : Value} {f : Nat} {K : Value → Prop} (H : fldP P t x f K) : ∃ v, K v ∧ ∀ w : World, (Instr.field t x f).run P w = .ok v w := by
  unfold fldP at H
  cases hd : P.underlying t with
  | none => rw [hd] at H; exact H.elim
  | some d =>
    rw [hd] at H
    cases d <;> cases x <;> simp only at H
    case struct.agg fs cs =>
      cases hf : fs.toList[f]? with
      | none => rw [hf] at H; exact H.elim
      | some fd =>
        rw [hf] at H
        obtain ⟨v, hK, hr⟩ := partP_sound H
        refine ⟨v, hK, fun w => ?_⟩
        have hf' : fs[f]? = some fd := by simpa using hf
        unfold Instr.field
        simp [run_underlying hd, hf', asAgg, hr]

theorem idxAddrP_sound {t : TypeId} {x i : Value} {K : Value → Prop} (H : idxAddrP P t x i K) : ∃ v, K v ∧ ∀ w : World, (Instr.indexAt t x i).run P w = .ok v w := by
  unfold idxAddrP at H
  split at H
  · rename_i e p n c k j hd
    cases hi : P.info? e with
    | none => rw [hi] at H; exact H.elim
    | some i =>
      rw [hi] at H
      obtain ⟨h0, h1, H⟩ := H
      obtain ⟨a, rfl, hK⟩ := ptrE_elim H
      refine ⟨_, hK, fun w => ?_⟩
      unfold Instr.indexAt
      simp [asIntOf, run_underlying hd, h0, h1, run_sizeOf' hi]
  · rename_i n e p k j hd
    cases hi : P.info? e with
    | none => rw [hi] at H; exact H.elim
    | some i =>
      rw [hi] at H
      obtain ⟨h0, h1, hK⟩ := H
      obtain ⟨a, rfl, hK⟩ := ptrE_elim hK
      refine ⟨_, hK, fun w => ?_⟩
      unfold Instr.indexAt
      simp [asIntOf, run_underlying hd, h0, h1, run_sizeOf' hi, Instr.sureAddr]
  · exact H.elim

theorem idxP_sound {t : TypeId} {x i : Value} {K : Value → Prop} (H : idxP P t x i K) : ∃ v, K v ∧ ∀ w : World, (Instr.index t x i).run P w = .ok v w := by
  unfold idxP at H
  split at H
  · rename_i n e cs k j hd
    cases hi : P.info? e with
    | none => rw [hi] at H; exact H.elim
    | some i =>
      cases he : P.underlying e with
      | none => rw [hi, he] at H; exact H.elim
      | some d =>
        rw [hi, he] at H
        simp only at H
        cases hb : isAggD d with
        | true => rw [hb] at H; exact H.elim
        | false =>
          rw [hb] at H
          simp only [cond_false] at H
          cases hz : i.zero with
          | none => rw [hz] at H; exact H.elim
          | some z =>
            rw [hz] at H
            obtain ⟨h0, h1, H⟩ := H
            obtain ⟨v, hv, hK⟩ := ld1_elim H
            refine ⟨v, hK, fun w => ?_⟩
            have hv' : cs[j.toNat * i.size]? = some v := by simpa using hv
            unfold Instr.index
            simp [asIntOf, run_underlying hd, h0, h1, run_sizeOf' hi, part, run_isAgg' he, hb, hv']
  · rename_i s k j hd
    obtain ⟨h0, b, hb, hK⟩ := H
    refine ⟨_, hK, fun w => ?_⟩
    unfold Instr.index
    simp [asIntOf, run_underlying hd, h0, hb]
  · exact H.elim

theorem extP_sound {x : Value} {i : Nat} {K : Value → Prop} (H : extP x i K) : ∃ v, K v ∧ ∀ w : World, (Instr.extract x i).run P w = .ok v w := by
  unfold extP at H
  split at H
  · rename_i vs
    cases hv : vs.toList[i]? with
    | none => rw [hv] at H; exact H.elim
    | some v =>
      rw [hv] at H
      have hv' : vs[i]? = some v := by simpa using hv
      exact ⟨v, H, fun w => by simp [Instr.extract, hv']⟩
  · exact H.elim

end Go.Vc

namespace Go.Vc
variable {P : Program}

theorem foldl_put (off : Nat) : ∀ (v : List Value) (j : Nat) (cs : Array Value), off + j + v.length ≤ cs.size →
    ((v.zipIdx j).foldl (fun cs (p : Value × Nat) => cs.setIfInBounds (off + p.2) p.1) cs).toList = cs.toList.take (off + j) ++ v ++ cs.toList.drop (off + j + v.length)
  | [], j, cs, _ => by simp
  | x :: v, j, cs, h => by
    simp only [List.length_cons] at h
    simp only [List.zipIdx_cons, List.foldl_cons]
    rw [foldl_put off v (j + 1) _ (by simp; omega)]
    have hlt : off + j < cs.toList.length := by simp; omega
    simp only [Array.toList_setIfInBounds, List.length_cons]
    rw [List.take_set, List.drop_set_of_lt (by omega)]
    rw [show off + (j + 1) = off + j + 1 by omega, List.take_succ_eq_append_getElem hlt]
    rw [show off + j + (v.length + 1) = off + j + 1 + v.length by omega]
    rw [List.set_append_right _ _ (by simp; omega)]
    have : off + j - (List.take (off + j) cs.toList).length = 0 := by simp; omega
    rw [this]
    simp

theorem fillL_sound {place place' : Nat → Option (Nat × Nat)} (hp : ∀ i x, place i = some x → place' i = some x) : ∀ {parts : List (Nat × Value)} {cells cs : List Value} {arr : Array Value}, arr.toList = cells → fillL place cells parts = some cs →
    Instr.fill place' arr parts = some cs.toArray
  | [], cells, cs, arr, ha, h => by
    simp only [fillL, Option.some.injEq] at h
    subst h; subst ha
    simp [Instr.fill]
  | (i, v) :: r, cells, cs, arr, ha, h => by
    subst ha
    simp only [fillL] at h
    cases hpl : place i with
    | none => rw [hpl] at h; cases h
    | some x =>
      obtain ⟨off, size⟩ := x
      rw [hpl] at h
      simp only at h
      cases h1 : Nat.beq v.cells.toList.length size with
      | false => rw [h1] at h; cases h
      | true =>
        cases h2 : Nat.ble (off + v.cells.toList.length) arr.toList.length with
        | false => rw [h1, h2] at h; cases h
        | true =>
          rw [h1, h2] at h
          simp only [Bool.and_self, cond_true] at h
          have e1 : v.cells.size = size := by have := Nat.eq_of_beq_eq_true h1; simpa using this
          have e2 : off + v.cells.size ≤ arr.size := by have := Nat.le_of_ble_eq_true h2; simpa using this
          simp only [Instr.fill, hp _ _ hpl]
          rw [if_neg (by simp [e1]; omega)]
          refine fillL_sound hp ?_ h
          rw [← Array.foldl_toList]
          have := foldl_put off v.cells.toList 0 arr (by simpa using e2)
          simpa using this

theorem mapM_places {fs : List Field} (h : allSized P fs = true) (w : World) :
    (fs.mapM fun f => do pure (f.offset, ← sizeOf f.type) : Sem (List (Nat × Nat))).run P w = .ok (fs.map fun f => (f.offset, ((P.info? f.type).map (·.size)).getD 0)) w := by
  induction fs with
  | nil => rfl
  | cons f r ih =>
    simp only [allSized, Bool.and_eq_true] at h
    obtain ⟨i, hi⟩ := Option.isSome_iff_exists.1 h.1
    have ih' := ih h.2
    simp only [List.mapM_cons, Sem.run_bind, run_sizeOf' hi, Result.andThen, Sem.run_pure]
    rw [ih']
    simp [hi]

theorem buildP_sound {t : TypeId} {parts : List (Nat × Value)} {K : Value → Prop} (H : buildP P t parts K) : ∃ v, K v ∧ ∀ w : World, (Instr.build t parts.toArray).run P w = .ok v w := by
  unfold buildP at H
  split at H
  · rename_i i fs hi hd
    cases hz : i.zero with
    | none => rw [hz] at H; exact H.elim
    | some z =>
      rw [hz] at H
      simp only at H
      cases ha : allSized P fs.toList with
      | false => rw [ha] at H; exact H.elim
      | true =>
        rw [ha] at H
        simp only [cond_true] at H
        cases hf : fillL (structPlace P fs) z.cells.toList parts with
        | none => rw [hf] at H; exact H.elim
        | some cs =>
          rw [hf] at H
          refine ⟨_, H, fun w => ?_⟩
          unfold Instr.build
          simp only [Sem.run_bind, run_zeroValue' hi hz, run_underlying hd, Result.andThen]
          have hm := mapM_places (P := P) ha w
          rw [Array.mapM_eq_mapM_toList]
          simp only [Sem.run_map, hm, Result.andThen]
          rw [fillL_sound (place := structPlace P fs) ?_ rfl hf]
          · rfl
          · intro k x hx
            unfold structPlace at hx
            simp only [List.getElem?_toArray, List.getElem?_map]
            cases hfk : fs.toList[k]? with
            | none => rw [hfk] at hx; cases hx
            | some f =>
              rw [hfk] at hx
              simp only at hx
              cases hj : P.info? f.type with
              | none => rw [hj] at hx; cases hx
              | some j => rw [hj] at hx; simpa [hj] using hx
  · rename_i i n e hi hd
    split at H
    · rename_i z j hz hj
      cases hf : fillL (fun k => some (k * j.size, j.size)) z.cells.toList parts with
      | none => rw [hf] at H; exact H.elim
      | some cs =>
        rw [hf] at H
        refine ⟨_, H, fun w => ?_⟩
        unfold Instr.build
        simp only [Sem.run_bind, run_zeroValue' hi hz, run_underlying hd, Result.andThen, run_sizeOf' hj]
        rw [fillL_sound (place := fun k => some (k * j.size, j.size)) (fun _ _ h => h) rfl hf]
        rfl
    · exact H.elim
  · exact H.elim

theorem lenP_sound {t ty : TypeId} {x : Value} {K : Value → Prop} (H : lenP P t x K) : ∃ v, K v ∧ ∀ w : World, (Builtin.len_ #[t] ty #[x]).run P w = .ok v w := by
  unfold lenP at H
  cases hd : P.underlying t with
  | none => rw [hd] at H; exact H.elim
  | some d =>
    rw [hd] at H
    cases d <;> (try (cases x <;> simp only at H; done))
    case string =>
      cases x <;> (try (simp only at H; done))
      exact ⟨_, H, fun w => by simp [Builtin.len_, run_underlying hd, goInt]⟩
    case slice e =>
      cases x <;> (try (simp only at H; done))
      exact ⟨_, H, fun w => by simp [Builtin.len_, run_underlying hd, goInt]⟩
    case array n e =>
      refine ⟨_, H, fun w => ?_⟩
      cases x <;> simp [Builtin.len_, run_underlying hd, goInt]
    case pointer arr =>
      simp only at H
      cases ha : P.underlying arr with
      | none => rw [ha] at H; exact H.elim
      | some b =>
        rw [ha] at H
        cases b <;> (try (simp only at H; done))
        refine ⟨_, H, fun w => ?_⟩
        cases x <;> simp [Builtin.len_, run_underlying hd, run_underlying ha, goInt]

theorem capP_sound {t ty : TypeId} {x : Value} {K : Value → Prop} (H : capP P t x K) : ∃ v, K v ∧ ∀ w : World, (Builtin.cap_ #[t] ty #[x]).run P w = .ok v w := by
  unfold capP at H
  cases hd : P.underlying t with
  | none => rw [hd] at H; exact H.elim
  | some d =>
    rw [hd] at H
    cases d <;> (try (cases x <;> simp only at H; done))
    case slice e =>
      cases x <;> (try (simp only at H; done))
      exact ⟨_, H, fun w => by simp [Builtin.cap_, run_underlying hd, goInt]⟩

end Go.Vc

namespace Go.Vc
variable {P : Program}

theorem evList_sound {ev : Operand → Option Value} {ρ : Operand → Value} (hev : ∀ x v, ev x = some v → ρ x = v) : ∀ {l : List Operand} {vs : List Value}, evList ev l = some vs → l.map ρ = vs
  | [], vs, h => by simp only [evList, Option.some.injEq] at h; subst h; rfl
  | x :: r, vs, h => by
    simp only [evList] at h
    split at h
    · rename_i v us h1 h2
      simp only [Option.some.injEq] at h
      subst h
      simp [hev _ _ h1, evList_sound hev h2]
    · cases h

theorem evParts_sound {ev : Operand → Option Value} {ρ : Operand → Value} (hev : ∀ x v, ev x = some v → ρ x = v) : ∀ {l : List (Nat × Operand)} {vs : List (Nat × Value)}, evParts ev l = some vs →
    l.map (fun p => (p.1, ρ p.2)) = vs
  | [], vs, h => by simp only [evParts, Option.some.injEq] at h; subst h; rfl
  | (i, x) :: r, vs, h => by
    simp only [evParts] at h
    split at h
    · rename_i v us h1 h2
      simp only [Option.some.injEq] at h
      subst h
      simp [hev _ _ h1, evParts_sound hev h2]
    · cases h

/-- Every cell that is there in the first heap holds the same in the second. -/
def HExt (h h' : Heap) : Prop := ∀ a v, hcell h a = some v → hcell h' a = some v
theorem HExt.refl (h : Heap) : HExt h h := fun _ _ h => h
theorem HExt.trans {a b c : Heap} (h : HExt a b) (k : HExt b c) : HExt a c := fun x v hx => k x v (h x v hx)

def isLoad : Op → Bool
  | .load _ _ => true
  | _ => false

/-- What 'execOp' does with a value, in every world of a class. -/
def Yields (P : Program) (s : Sem Next) (C : World → Prop) (v : Value) : Prop := ∀ w : World, C w → s.run P w = .ok (.value v) w

theorem yields_of {s : Sem Value} {C : World → Prop} {v : Value} (hs : ∀ w : World, C w → s.run P w = .ok v w) : Yields P (do pure (.value (← s))) C v := by
  intro w hw
  simp [hs w hw]

theorem callVal_sound {ev : Operand → Option Value} {ρ : Operand → Value} (hev : ∀ x v, ev x = some v → ρ x = v) {c : Call} {ty : TypeId} {C : World → Prop} {K : Value → Prop} (H : callVal P ev c K) :
    ∃ v, K v ∧ Yields P (do let d ← resolve ρ c ty; invoke d.target d.args) C v := by
  obtain ⟨callee, args, argTypes⟩ := c
  have key : ∀ (b : Builtin) (v : Value), (∀ w : World, (builtin b argTypes ty (args.map fun | .const _ => true | _ => false) (args.map ρ)).run P w = .ok (.value v) w) →
      Yields P (do let d ← resolve ρ ⟨.builtin b, args, argTypes⟩ ty; invoke d.target d.args) C v := by
    intro b v hb w _
    simp only [Sem.run_bind, resolve, Sem.run_pure, Result.andThen, invoke]
    exact hb w
  unfold callVal at H
  simp only at H
  split at H
  · split at H
    · rename_i x t hargs htys
      cases hx : ev x with
      | none => rw [hx] at H; exact H.elim
      | some u =>
        rw [hx] at H
        obtain ⟨v, hK, hr⟩ := lenP_sound (ty := ty) H
        refine ⟨v, hK, key _ _ fun w => ?_⟩
        have e1 : args = #[x] := by rw [← Array.toArray_toList (xs := args), hargs]
        have e2 : argTypes = #[t] := by rw [← Array.toArray_toList (xs := argTypes), htys]
        subst e1; subst e2
        simp [builtin, hev _ _ hx, hr w]
    · exact H.elim
  · split at H
    · rename_i x t hargs htys
      cases hx : ev x with
      | none => rw [hx] at H; exact H.elim
      | some u =>
        rw [hx] at H
        obtain ⟨v, hK, hr⟩ := capP_sound (ty := ty) H
        refine ⟨v, hK, key _ _ fun w => ?_⟩
        have e1 : args = #[x] := by rw [← Array.toArray_toList (xs := args), hargs]
        have e2 : argTypes = #[t] := by rw [← Array.toArray_toList (xs := argTypes), htys]
        subst e1; subst e2
        simp [builtin, hev _ _ hx, hr w]
    · exact H.elim
  · split at H
    · rename_i x y hargs
      split at H
      · rename_i k a k' b hx hy
        refine ⟨_, H, key _ _ fun w => ?_⟩
        have e1 : args = #[x, y] := by rw [← Array.toArray_toList (xs := args), hargs]
        subst e1
        simp only [builtin, List.map_toArray, List.map_cons, List.map_nil, hev _ _ hx, hev _ _ hy, Sem.run_bind, run_min_int2, Result.andThen]
        rfl
      · exact H.elim
    · exact H.elim
  · split at H
    · rename_i x y hargs
      split at H
      · rename_i k a k' b hx hy
        refine ⟨_, H, key _ _ fun w => ?_⟩
        have e1 : args = #[x, y] := by rw [← Array.toArray_toList (xs := args), hargs]
        subst e1
        simp only [builtin, List.map_toArray, List.map_cons, List.map_nil, hev _ _ hx, hev _ _ hy, Sem.run_bind, run_max_int2, Result.andThen]
        rfl
      · exact H.elim
    · exact H.elim
  · exact H.elim

theorem valOp_sound {ev : Operand → Option Value} {ρ : Operand → Value} (hev : ∀ x v, ev x = some v → ρ x = v) {o : Oper} {h : Heap} {K : Value → Prop} (H : valOp P ev o.op h K)
    {C : World → Prop} (hC : isLoad o.op = false ∨ ∀ w, C w → HExt h w.heap) : ∃ v, K v ∧ Yields P (execOp ρ o) C v := by
  obtain ⟨dst, op, type, pos, after, guard⟩ := o
  simp only at H hC
  cases op <;> simp only [valOp] at H
  case move x =>
    cases hx : ev x with
    | none => rw [hx] at H; exact H.elim
    | some v => rw [hx] at H; exact ⟨v, H, fun w _ => by simp [execOp, hev _ _ hx]⟩
  case assign x =>
    cases hx : ev x with
    | none => rw [hx] at H; exact H.elim
    | some v => rw [hx] at H; exact ⟨v, H, fun w _ => by simp [execOp, hev _ _ hx]⟩
  case pick c a b =>
    split at H
    · rename_i hc
      cases hx : ev a with
      | none => rw [hx] at H; exact H.elim
      | some v => rw [hx] at H; exact ⟨v, H, fun w _ => by simp [execOp, hev _ _ hx, hev _ _ hc, asBool]⟩
    · rename_i hc
      cases hx : ev b with
      | none => rw [hx] at H; exact H.elim
      | some v => rw [hx] at H; exact ⟨v, H, fun w _ => by simp [execOp, hev _ _ hx, hev _ _ hc, asBool]⟩
    · exact H.elim
  case load t a =>
    split at H
    · rename_i p ha
      obtain ⟨ad, rfl, H⟩ := ptrE_elim H
      obtain ⟨v, hK, hr⟩ := ldP_sound H
      refine ⟨v, hK, yields_of fun w hw => ?_⟩
      have hext : HExt h w.heap := by
        rcases hC with hC | hC
        · simp [isLoad] at hC
        · exact hC w hw
      rw [hev _ _ ha]
      simp [Instr.loadAt, Instr.sureAddr, hr w hext]
    · exact H.elim
  case nilCheck x =>
    split at H
    · rename_i p hp
      obtain ⟨a, rfl, hK⟩ := ptrE_elim H
      exact ⟨_, hK, fun w _ => by simp [execOp, hev _ _ hp]⟩
    · exact H.elim
  case binOp op t x y yt =>
    split at H
    · rename_i a b hx hy
      cases hok : eqOk P op t y with
      | false => rw [hok] at H; exact H.elim
      | true =>
        rw [hok] at H
        obtain ⟨v, hK, hr⟩ := binP_sound (ox := x) hok H
        refine ⟨v, hK, yields_of fun w _ => ?_⟩
        rw [hev _ _ hx, hev _ _ hy]
        exact hr w
    · exact H.elim
  case unOp op t x =>
    cases hx : ev x with
    | none => rw [hx] at H; exact H.elim
    | some a =>
      rw [hx] at H
      obtain ⟨v, hK, hr⟩ := unP_sound (P := P) H
      exact ⟨v, hK, yields_of fun w _ => by rw [hev _ _ hx]; exact hr w⟩
  case convert s d x =>
    cases hx : ev x with
    | none => rw [hx] at H; exact H.elim
    | some a =>
      rw [hx] at H
      obtain ⟨v, hK, hr⟩ := convP_sound H
      exact ⟨v, hK, yields_of fun w _ => by rw [hev _ _ hx]; exact hr w⟩
  case makeInterface t x =>
    split at H
    · exact H.elim
    · rename_i v d hnot hx hd
      refine ⟨_, H, yields_of fun w _ => ?_⟩
      rw [hev _ _ hx]
      unfold Instr.makeInterface
      simp only [Sem.run_bind, run_underlying hd, Result.andThen]
      cases d <;> first | rfl | (exact (hnot _ rfl).elim)
    · exact H.elim
  case makeFunc fn first captured =>
    split at H
    · rename_i a b ha hb
      refine ⟨_, H, yields_of fun w _ => ?_⟩
      have e1 : first.map ρ = a.toArray := by apply Array.ext'; simpa using evList_sound hev ha
      have e2 : captured.map ρ = b.toArray := by apply Array.ext'; simpa using evList_sound hev hb
      rw [e1, e2]
      rfl
    · exact H.elim
  case slice t x lo hi mx =>
    cases hx : ev x with
    | none => rw [hx] at H; exact H.elim
    | some v =>
      rw [hx] at H
      simp only at H
      have go : ∀ {lo' hi' mx' : Option Value}, lo.map ρ = lo' → hi.map ρ = hi' → mx.map ρ = mx' → slP P t v lo' hi' mx' K →
          ∃ u, K u ∧ Yields P (do pure (.value (← Instr.sliceAt t (ρ x) (lo.map ρ) (hi.map ρ) (mx.map ρ)))) C u := by
        intro lo' hi' mx' e1 e2 e3 hs
        obtain ⟨u, hK, hr⟩ := slP_sound hs
        exact ⟨u, hK, yields_of fun w _ => by rw [hev _ _ hx, e1, e2, e3]; exact hr w⟩
      cases lo with
      | none =>
        cases hi with
        | none =>
          cases mx with
          | none => exact go rfl rfl rfl H
          | some m => exact H.elim
        | some u =>
          cases mx with
          | none =>
            simp only at H
            cases h1 : ev u with
            | none => rw [h1] at H; exact H.elim
            | some a => rw [h1] at H; exact go rfl (by simp [hev _ _ h1]) rfl H
          | some m =>
            simp only at H
            split at H
            · rename_i a b h1 h2; exact go rfl (by simp [hev _ _ h1]) (by simp [hev _ _ h2]) H
            · exact H.elim
      | some l =>
        cases hi with
        | none =>
          cases mx with
          | none =>
            simp only at H
            cases h1 : ev l with
            | none => rw [h1] at H; exact H.elim
            | some a => rw [h1] at H; exact go (by simp [hev _ _ h1]) rfl rfl H
          | some m => exact H.elim
        | some u =>
          cases mx with
          | none =>
            simp only at H
            split at H
            · rename_i a b h1 h2; exact go (by simp [hev _ _ h1]) (by simp [hev _ _ h2]) rfl H
            · exact H.elim
          | some m =>
            simp only at H
            split at H
            · rename_i a b c h1 h2 h3; exact go (by simp [hev _ _ h1]) (by simp [hev _ _ h2]) (by simp [hev _ _ h3]) H
            · exact H.elim
  case fieldAddr s x f =>
    cases hx : ev x with
    | none => rw [hx] at H; exact H.elim
    | some a =>
      rw [hx] at H
      obtain ⟨v, hK, hr⟩ := fldAddrP_sound H
      exact ⟨v, hK, yields_of fun w _ => by rw [hev _ _ hx]; exact hr w⟩
  case field t x f =>
    cases hx : ev x with
    | none => rw [hx] at H; exact H.elim
    | some a =>
      rw [hx] at H
      obtain ⟨v, hK, hr⟩ := fldP_sound H
      exact ⟨v, hK, yields_of fun w _ => by rw [hev _ _ hx]; exact hr w⟩
  case indexAddr t x i =>
    split at H
    · rename_i a b hx hy
      obtain ⟨v, hK, hr⟩ := idxAddrP_sound H
      exact ⟨v, hK, yields_of fun w _ => by rw [hev _ _ hx, hev _ _ hy]; exact hr w⟩
    · exact H.elim
  case index t x i =>
    split at H
    · rename_i a b hx hy
      obtain ⟨v, hK, hr⟩ := idxP_sound H
      exact ⟨v, hK, yields_of fun w _ => by rw [hev _ _ hx, hev _ _ hy]; exact hr w⟩
    · exact H.elim
  case extract x i =>
    cases hx : ev x with
    | none => rw [hx] at H; exact H.elim
    | some a =>
      rw [hx] at H
      obtain ⟨v, hK, hr⟩ := extP_sound (P := P) H
      exact ⟨v, hK, yields_of fun w _ => by rw [hev _ _ hx]; exact hr w⟩
  case build t parts =>
    cases hx : evParts ev parts.toList with
    | none => rw [hx] at H; exact H.elim
    | some ps =>
      rw [hx] at H
      obtain ⟨v, hK, hr⟩ := buildP_sound H
      refine ⟨v, hK, yields_of fun w _ => ?_⟩
      have e1 : (parts.map fun (p : Nat × Operand) => (p.1, ρ p.2)) = ps.toArray := by apply Array.ext'; simpa using evParts_sound hev hx
      have := hr w
      rw [← e1] at this
      exact this
  case call c => exact callVal_sound hev H

end Go.Vc

namespace Go.Vc
variable {P : Program}

/-! ### Operations that write or make memory -/
def hnew (h : Heap) (cs : List Value) (e : TypeId) : Heap := h.push (.cells cs.toArray e (0, 0))

def zcells (P : Program) (t : TypeId) : List Value :=
  match P.info? t with
  | some i => match i.zero with
    | some z => z.cells.toList
    | none => []
  | none => []

def hasZero (P : Program) (t : TypeId) : Bool :=
  match P.info? t with
  | some i => i.zero.isSome
  | none => false

def isAggV : Value → Bool
  | .agg _ => true
  | _ => false

def zeroAgg (P : Program) (t : TypeId) : Bool :=
  match P.info? t with
  | some i => match i.zero with
    | some z => isAggV z
    | none => false
  | none => false

def typeSize (P : Program) (t : TypeId) : Nat :=
  match P.info? t with
  | some i => i.size
  | none => 0

def typeBytes (P : Program) (t : TypeId) : Nat :=
  match P.info? t with
  | some i => i.bytes
  | none => 0

def st1 (a : Addr) (v : Value) (h : Heap) (K : Heap → Prop) : Prop := (∃ u, hcell h a = some u) ∧ hfrozen h a = false ∧ K (hset h a v)

def stP : List Value → Addr → Nat → Heap → (Heap → Prop) → Prop
  | [], _, _, h, K => K h
  | v :: r, a, i, h, K => match v with
    | .agg _ | .tuple _ => False
    | v => st1 (a.add i) v h fun h' => stP r a (i + 1) h' K

def hsetL (h : Heap) (a : Addr) : Nat → List Value → Heap
  | _, [] => h
  | i, v :: r => hsetL (hset h (a.add i) v) a (i + 1) r

theorem run_storeH {a : Addr} {v : Value} (hv : v.oneCell' = true) {w : World} {u : Value} (hc : hcell w.heap a = some u) (hf : hfrozen w.heap a = false) :
    (store a v).run P w = .ok () { w with heap := hset w.heap a v } := by
  rw [run_store P w a v _ hv]
  simp [cell_eq, frozen_eq, hc, hf, setCell_eq]

theorem stP_sound : ∀ {vs : List Value} {a : Addr} {i : Nat} {h : Heap} {K : Heap → Prop}, stP vs a i h K →
    ∃ h', K h' ∧ ∀ w : World, w.heap = h → (storeCells a vs i).run P w = .ok () { w with heap := h' }
  | [], a, i, h, K, H => ⟨h, H, fun w hw => by subst hw; rfl⟩
  | v :: r, a, i, h, K, H => by
    have hone : v.oneCell' = true ∧ st1 (a.add i) v h fun h' => stP r a (i + 1) h' K := by
      cases v <;> simp only [stP] at H <;> exact ⟨rfl, H⟩
    obtain ⟨hv, ⟨u, hu⟩, hf, H'⟩ := hone
    obtain ⟨h', hK, hr⟩ := stP_sound H'
    refine ⟨h', hK, fun w hw => ?_⟩
    subst hw
    simp only [storeCells, Sem.run_bind, run_storeH hv hu hf, Result.andThen]
    exact hr _ rfl

/-- One value of one cell. -/
def store1 (v : Value) (a : Addr) (h : Heap) (K : Heap → Prop) : Prop :=
  match v with
  | .agg _ | .tuple _ => False
  | v => st1 (a.add 0) v h K

def storeP (P : Program) (t : TypeId) (a : Addr) (v : Value) (h : Heap) (K : Heap → Prop) : Prop :=
  bif hasZero P t then
    bif zeroAgg P t then match v with
      | .agg cs => bif Nat.beq cs.toList.length (typeSize P t) then stP cs.toList a 0 h K else False
      | _ => False
    else bif Nat.beq (typeSize P t) 1 then store1 v a h K else False
  else False

theorem hasZero_spec {t : TypeId} (h : hasZero P t = true) : ∃ i z, P.info? t = some i ∧ i.zero = some z := by
  unfold hasZero at h
  cases hi : P.info? t with
  | none => rw [hi] at h; cases h
  | some i =>
    rw [hi] at h
    obtain ⟨z, hz⟩ := Option.isSome_iff_exists.1 h
    exact ⟨i, z, rfl, hz⟩

theorem typeSize_eq {t : TypeId} {i : TypeInfo} (hi : P.info? t = some i) : typeSize P t = i.size := by simp [typeSize, hi]
theorem typeBytes_eq {t : TypeId} {i : TypeInfo} (hi : P.info? t = some i) : typeBytes P t = i.bytes := by simp [typeBytes, hi]
theorem zcells_eq {t : TypeId} {i : TypeInfo} {z : Value} (hi : P.info? t = some i) (hz : i.zero = some z) : zcells P t = z.cells.toList := by simp [zcells, hi, hz]

theorem storeP_sound {t : TypeId} {a : Addr} {v : Value} {h : Heap} {K : Heap → Prop} (H : storeP P t a v h K) :
    ∃ h', K h' ∧ ∀ w : World, w.heap = h → (storeVar t a v).run P w = .ok () { w with heap := h' } := by
  unfold storeP at H
  cases hh : hasZero P t with
  | false => rw [hh] at H; exact H.elim
  | true =>
    obtain ⟨i, z, hi, hz⟩ := hasZero_spec hh
    rw [hh] at H
    simp only [cond_true] at H
    have fin : ∀ {vs : List Value}, v.cells.toList = vs → vs.length = i.size → stP vs a 0 h K →
        ∃ h', K h' ∧ ∀ w : World, w.heap = h → (storeVar t a v).run P w = .ok () { w with heap := h' } := by
      intro vs hvs hl hs
      obtain ⟨h', hK, hr⟩ := stP_sound (P := P) hs
      refine ⟨h', hK, fun w hw => ?_⟩
      unfold storeVar
      have hsz : v.cells.size = i.size := by rw [← hl, ← hvs]; simp
      simp only [Sem.run_bind, run_sizeOf' hi, Result.andThen, hsz, ne_eq, not_true_eq_false, if_false, hvs]
      exact hr w hw
    cases ha : zeroAgg P t with
    | true =>
      rw [ha] at H
      simp only [cond_true] at H
      split at H
      · rename_i cs
        cases hn : Nat.beq cs.toList.length (typeSize P t) with
        | false => rw [hn] at H; exact H.elim
        | true =>
          rw [hn] at H
          refine fin (vs := cs.toList) rfl ?_ H
          have := Nat.eq_of_beq_eq_true hn
          rw [this, typeSize_eq hi]
      · exact H.elim
    | false =>
      rw [ha] at H
      simp only [cond_false] at H
      cases hn : Nat.beq (typeSize P t) 1 with
      | false => rw [hn] at H; exact H.elim
      | true =>
        rw [hn] at H
        simp only [cond_true] at H
        have h1 : i.size = 1 := by have := Nat.eq_of_beq_eq_true hn; rwa [typeSize_eq hi] at this
        refine fin (vs := [v]) ?_ (by simp [h1]) ?_
        · cases v <;> first | rfl | exact H.elim
        · cases v <;> first | exact H | exact H.elim

def allocP (P : Program) (t : TypeId) (h : Heap) (K : Value → Heap → Prop) : Prop :=
  bif hasZero P t then K (.pointer (some ⟨h.size, 0, none⟩)) (hnew h (zcells P t) t) else False

def boxP (P : Program) (t : TypeId) (v : Value) (h : Heap) (K : Value → Heap → Prop) : Prop :=
  bif zeroAgg P t then match v with
    | .agg cs => K (.pointer (some ⟨h.size, 0, none⟩)) (hnew h cs.toList t)
    | _ => False
  else match v with
    | .agg _ => False
    | v => K (.pointer (some ⟨h.size, 0, none⟩)) (hnew h [v] t)

/-- The heap behind make([]T, .., c). -/
def mkH (P : Program) (e : TypeId) (c : Int) (h : Heap) : Heap := h.push (.cells (madeCells (zcells P e).toArray (c.toNat * typeSize P e)) e)

/-- make([]T, l, c). -/
def mkT (P : Program) (e : TypeId) (l c : Int) (h : Heap) (K : Addr → Nat → Nat → Heap → Prop) : Prop :=
  0 ≤ l ∧ l ≤ c ∧ (typeBytes P e : Int) * c ≤ 281474976710656 ∧ c ≤ 9223372036854775807 ∧ K ⟨h.size, 0, none⟩ l.toNat c.toNat (mkH P e c h)

def mkSl (P : Program) (e : TypeId) (l c : Int) (h : Heap) (K : Value → Heap → Prop) : Prop :=
  mkT P e l c h fun a l c h => K (.slice (some a) l c) h

/-- A heap under a name. -/
def withH (x : Heap) (K : Heap → Prop) : Prop := K x

def mkSlP (P : Program) (t : TypeId) (l c : Value) (h : Heap) (K : Value → Heap → Prop) : Prop :=
  match P.underlying t, l, c with
  | some (.slice e), .int _ l, .int _ c => bif hasZero P e then mkSl P e l c h K else False
  | _, _, _ => False

theorem mkSlP_sound {t : TypeId} {l c : Value} {h : Heap} {K : Value → Heap → Prop} (H : mkSlP P t l c h K) :
    ∃ v h', K v h' ∧ ∀ w : World, w.heap = h → (Instr.makeSlice t l c).run P w = .ok v { w with heap := h' } := by
  unfold mkSlP at H
  split at H
  · rename_i e kl l kc c hd
    cases hh : hasZero P e with
    | false => rw [hh] at H; exact H.elim
    | true =>
      obtain ⟨i, z, hi, hz⟩ := hasZero_spec hh
      rw [hh] at H
      obtain ⟨h0, h1, h2, h3, hK⟩ := H
      rw [typeBytes_eq hi] at h2
      unfold mkH at hK
      rw [zcells_eq hi hz, typeSize_eq hi] at hK
      rw [Array.toArray_toList] at hK
      refine ⟨_, _, hK, fun w hw => ?_⟩
      subst hw
      exact run_make (P := P) w t e i z hd hi hz kl kc l c h0 h1 h2 h3
  · exact H.elim

def repL (zs : List Value) : Nat → List Value
  | 0 => []
  | n + 1 => zs ++ repL zs n

def bldSlP (P : Program) (t : TypeId) (n : Nat) (parts : List (Nat × Value)) (h : Heap) (K : Value → Heap → Prop) : Prop :=
  match P.underlying t with
  | some (.slice e) => bif hasZero P e && Nat.ble (n * typeSize P e) 16777216 && Nat.blt 0 (typeSize P e) && Nat.beq (zcells P e).length (typeSize P e) then
      match fillL (fun i => some (i * typeSize P e, typeSize P e)) (repL (zcells P e) n) parts with
      | some cs => K (.slice (some ⟨h.size, 0, none⟩) n n) (hnew h cs e)
      | none => False
      else False
  | _ => False

theorem repL_length (zs : List Value) : ∀ n, (repL zs n).length = n * zs.length
  | 0 => by simp [repL]
  | n + 1 => by simp [repL, repL_length zs n, Nat.succ_mul, Nat.add_comm]

theorem repL_get (zs : List Value) (hz : 0 < zs.length) : ∀ (n i : Nat), i < n * zs.length → (repL zs n)[i]? = zs[i % zs.length]?
  | 0, i, h => by simp at h
  | n + 1, i, h => by
    rw [repL]
    by_cases hi : i < zs.length
    · rw [List.getElem?_append_left hi, Nat.mod_eq_of_lt hi]
    · have hi' : zs.length ≤ i := by omega
      rw [List.getElem?_append_right hi', repL_get zs hz n (i - zs.length) (by rw [Nat.succ_mul] at h; omega)]
      congr 1
      conv => rhs; rw [show i = (i - zs.length) + zs.length by omega]
      simp

theorem repL_range (z : Array Value) (hz : 0 < z.size) (n : Nat) : ((Array.range (n * z.size)).map (z[· % z.size]!)).toList = repL z.toList n := by
  apply List.ext_getElem?
  intro i
  by_cases hi : i < n * z.size
  · have hm : i % z.size < z.size := Nat.mod_lt _ hz
    rw [repL_get z.toList (by simpa using hz) n i (by simpa using hi)]
    simp [hi, hm]
  · rw [List.getElem?_eq_none (by simpa using hi), List.getElem?_eq_none (by rw [repL_length]; simpa using hi)]

theorem bldSlP_sound {t : TypeId} {n : Nat} {parts : List (Nat × Value)} {h : Heap} {K : Value → Heap → Prop} (H : bldSlP P t n parts h K) :
    ∃ v h', K v h' ∧ ∀ w : World, w.heap = h → (Instr.buildSlice t n parts.toArray).run P w = .ok v { w with heap := h' } := by
  unfold bldSlP at H
  split at H
  · rename_i e hd
    cases hb : hasZero P e && Nat.ble (n * typeSize P e) 16777216 && Nat.blt 0 (typeSize P e) && Nat.beq (zcells P e).length (typeSize P e) with
    | false => rw [hb] at H; exact H.elim
    | true =>
      rw [hb] at H
      simp only [Bool.and_eq_true] at hb
      obtain ⟨⟨⟨hh, hle⟩, hpos⟩, hlen⟩ := hb
      obtain ⟨i, z, hi, hz⟩ := hasZero_spec hh
      simp only [cond_true] at H
      split at H
      · rename_i cs hf
        refine ⟨_, _, H, fun w hw => ?_⟩
        subst hw
        have hle' : n * i.size ≤ 16777216 := by have := Nat.le_of_ble_eq_true hle; rwa [typeSize_eq hi] at this
        have hpos' : 0 < i.size := by have := Nat.le_of_ble_eq_true hpos; rw [typeSize_eq hi] at this; omega
        have hzs : z.cells.size = i.size := by have := Nat.eq_of_beq_eq_true hlen; rw [zcells_eq hi hz, typeSize_eq hi] at this; simpa using this
        rw [zcells_eq hi hz, typeSize_eq hi] at hf
        have hr : ((Array.range (n * i.size)).map (z.cells[· % z.cells.size]!)).toList = repL z.cells.toList n := by
          have := repL_range z.cells (by rw [hzs]; exact hpos') n
          rw [hzs] at this ⊢
          exact this
        have hfill := fillL_sound (place := fun k => some (k * i.size, i.size)) (fun _ _ h => h) hr hf
        have hn0 : ¬ 16777216 < n * i.size := by omega
        unfold Instr.buildSlice
        by_cases hn : n * i.size = 0
        · have hnn : n = 0 := by
            rcases Nat.mul_eq_zero.1 hn with h | h
            · exact h
            · omega
          subst hnn
          have e0 : ∀ f : Nat → Value, Array.map f (Array.range 0) = #[] := fun f => by simp
          rw [Nat.zero_mul, e0] at hfill
          simp only [Sem.run_bind, run_underlying hd, run_sizeOf' hi, Result.andThen, Nat.zero_mul, if_true, gt_iff_lt]
          rw [if_neg (by omega)]
          simp only [Sem.run_bind, Sem.run_pure, Result.andThen, e0, hfill]
          simp [newRow, hnew]
        · simp only [Sem.run_bind, run_underlying hd, run_sizeOf' hi, Result.andThen, hn, if_false, gt_iff_lt]
          rw [if_neg (by have : (2 : Nat) ^ 24 = 16777216 := rfl; omega)]
          simp only [Sem.run_bind, run_zeroValue' hi hz, Result.andThen, Sem.run_pure, hfill]
          simp [newRow, hnew]
      · exact H.elim
  · exact H.elim

end Go.Vc

namespace Go.Vc
variable {P : Program}

/-! ### append and copy -/
def CellsAt (h : Heap) (a : Addr) (vs : List Value) : Prop := ∀ j v, vs[j]? = some v → hcell h (a.add j) = some v

/-- The first cells of what is appended or copied. -/
def srcCells (h : Heap) (n : Nat) (x : Value) (vs : List Value) : Prop :=
  match x with
  | .slice none _ _ => vs = []
  | .slice (some a) _ _ => CellsAt h a vs
  | .string s => vs = (s.extract 0 n).data.toList.map fun b => .int .u8 b.toNat
  | _ => False

def lenOfV : Value → Option Nat
  | .slice _ n _ => some n
  | .string s => some s.size
  | _ => none

theorem run_firstCells {h : Heap} {size n : Nat} {x : Value} {vs : List Value} (hs : srcCells h n x vs) (hl : vs.length = n * size) {w : World} (hw : w.heap = h) :
    (Builtin.firstCells size n x).run P w = .ok vs.toArray w := by
  subst hw
  unfold srcCells at hs
  split at hs
  · subst hs; rfl
  · have := run_loadCells_list (P := P) w _ vs (fun j v hv => by rw [cell_eq]; exact hs j v hv)
    rw [hl] at this
    exact this
  · subst hs
    simp only [Builtin.firstCells, Sem.run_pure]
    congr 1
    apply Array.ext'
    simp
  · exact hs.elim

theorem run_lenOf {x : Value} {n : Nat} (h : lenOfV x = some n) (w : World) : (Builtin.lenOf x).run P w = .ok n w := by
  cases x <;> simp only [lenOfV, Option.some.injEq] at h <;> first | (subst h; rfl) | (cases h)

/-- append(s, x...), s the slice (p, n, c), elements of type e. -/
def appendT (P : Program) (e : TypeId) (p : Option Addr) (n c : Nat) (x : Value) (m : Nat) (h : Heap) (K : Option Addr → Nat → Nat → Heap → Prop) : Prop :=
  ∃ news : List Value, news.length = m * typeSize P e ∧ srcCells h m x news ∧
    if n + m ≤ c then
      match p with
      | none => K none (n + m) c h
      | some a => stP news (a.add (n * typeSize P e)) 0 h fun h' => K (some a) (n + m) c h'
    else
      (n + m) * typeBytes P e ≤ 140737488355328 ∧ n + m < 9223372036854775808 ∧ ∃ olds : List Value, olds.length = n * typeSize P e ∧ srcCells h n (.slice p n c) olds ∧
        ∀ cap, n + m ≤ cap → cap < 9223372036854775808 →
          K (some ⟨h.size, 0, none⟩) (n + m) cap (hnew h (olds ++ news ++ (Builtin.zeroCells (zcells P e).toArray (cap - (n + m))).toList) e)

def appendS (P : Program) (e : TypeId) (p : Option Addr) (n c : Nat) (x : Value) (m : Nat) (h : Heap) (K : Value → Heap → Prop) : Prop :=
  appendT P e p n c x m h fun p n c h => K (.slice p n c) h

def appendP (P : Program) (ts : List TypeId) (args : List Value) (h : Heap) (K : Value → Heap → Prop) : Prop :=
  match ts, args with
  | [t, u], [.slice p n c, x] =>
    match P.underlying t, P.underlying u, lenOfV x with
    | some (.slice _), some (.int _), some _ => False
    | some (.slice e), some _, some m => bif hasZero P e then appendS P e p n c x m h K else False
    | _, _, _ => False
  | _, _ => False

theorem appendP_sound {ts : List TypeId} {args : List Value} {ty : TypeId} {h : Heap} {K : Value → Heap → Prop} (H : appendP P ts args h K) :
    ∀ w : World, w.heap = h → ∃ v w', (Builtin.append_ ts.toArray ty args.toArray).run P w = .ok v w' ∧ Alike w w' ∧ K v w'.heap := by
  intro w hw
  unfold appendP at H
  split at H
  · rename_i t u p n c x
    split at H
    · exact H.elim
    · rename_i e du m hnot hd hu hm
      cases hh : hasZero P e with
      | false => rw [hh] at H; exact H.elim
      | true =>
        obtain ⟨i, z, hi, hz⟩ := hasZero_spec hh
        rw [hh] at H
        obtain ⟨news, hln, hsrc, H⟩ := H
        rw [typeSize_eq hi] at hln
        have hfirst : ∀ w' : World, w'.heap = h → (Builtin.firstCells i.size m x).run P w' = .ok news.toArray w' := fun w' hw' => run_firstCells hsrc hln hw'
        have hz0 : (match du with | TypeDesc.int _ => true | _ => false) = false := by
          cases du <;> first | rfl | exact (hnot _ rfl).elim
        have hgt : ∀ u : Nat, u < 9223372036854775808 → ¬ ((u : Int) > IntKind.i64.max) := by
          intro u hu'
          have : IntKind.i64.max = 9223372036854775807 := by rfl
          omega
        unfold Builtin.append_
        simp only [List.getElem?_toArray, List.getElem?_cons_zero, List.getElem?_cons_succ]
        simp only [Sem.run_bind, run_underlying hd, Result.andThen_ok, run_sizeOf' hi]
        simp only [run_underlying hu, Result.andThen_ok, Sem.run_pure]
        simp only [Bool.false_eq_true, if_false, Sem.run_bind, run_lenOf hm, Result.andThen_ok, Bool.not_false, if_true]
        by_cases hc : n + m ≤ c
        · rw [if_pos hc] at H
          simp only [hc, if_true, Sem.run_bind, hfirst w hw, Result.andThen_ok]
          cases p with
          | none =>
            exact ⟨_, w, rfl, Alike.refl w, by rw [hw]; exact H⟩
          | some a =>
            simp only at H
            rw [typeSize_eq hi] at H
            obtain ⟨h', hK, hr⟩ := stP_sound (P := P) H
            simp only [Sem.run_bind, hr w hw, Result.andThen_ok, Sem.run_pure]
            exact ⟨_, _, rfl, ⟨rfl, rfl, rfl⟩, hK⟩
        · rw [if_neg hc] at H
          obtain ⟨hby, h63, olds, hlo, hso, H⟩ := H
          rw [typeBytes_eq hi] at hby
          rw [typeSize_eq hi] at hlo
          have hb2 := growslice_fits (need := n + m) (old := c) (by omega) hby
          simp only [hc, if_false, Sem.run_bind, run_typeInfo' hi, Result.andThen_ok]
          have hn1 : ¬ (((n + m : Nat) : Int) > IntKind.i64.max) := hgt _ h63
          have hn2 : ¬ (Builtin.nextslicecap (n + m) c * i.bytes > 2 ^ 48) := by
            have : (2 : Nat) ^ 48 = 281474976710656 := by rfl
            omega
          simp only [hn1, false_and, if_false, hn2, Sem.run_bind, run_typeInfo' hi, Result.andThen_ok, run_choose, Question.forced, Bool.false_eq_true, run_askRoom]
          have hwd : ({ w with drawn := w.drawn + 1 } : World).heap = h := hw
          have hold := run_firstCells (P := P) hso hlo hwd
          have hnewc := hfirst { w with drawn := w.drawn + 1 } hwd
          simp only [hold, hnewc, run_zeroValue' hi hz, Result.andThen_ok]
          refine ⟨_, _, rfl, ⟨rfl, rfl, rfl⟩, ?_⟩
          have hcap1 : n + m ≤ Question.cut (.appendCap (n + m) c e) (w.tape w.drawn (.appendCap (n + m) c e)) := by simp [Question.cut]
          have hcap2 : Question.cut (.appendCap (n + m) c e) (w.tape w.drawn (.appendCap (n + m) c e)) < 9223372036854775808 := by
            simp only [Question.cut]
            have h0 : (2 : Nat) ^ 63 = 9223372036854775808 := by rfl
            have := Nat.mod_lt (w.tape w.drawn (.appendCap (n + m) c e)) (show 0 < 2 ^ 63 - (n + m) by omega)
            omega
          have hK := H _ hcap1 hcap2
          rw [zcells_eq hi hz, Array.toArray_toList] at hK
          simp only [hw]
          have e1 : ∀ (a b : List Value) (d : Array Value), (a ++ b ++ d.toList).toArray = a.toArray ++ b.toArray ++ d := by
            intro a b d; apply Array.ext'; simp
          rw [hnew, e1] at hK
          exact hK
    · exact H.elim
  · exact H.elim

/-- copy(dst, x), dst the slice (p, n). -/
def copyT (P : Program) (e : TypeId) (p : Option Addr) (n : Nat) (x : Value) (m : Nat) (h : Heap) (K : Int → Heap → Prop) : Prop :=
  ∃ news : List Value, news.length = min m n * typeSize P e ∧ srcCells h (min m n) x news ∧
    match p with
    | none => K ((min m n : Nat) : Int) h
    | some a => stP news a 0 h fun h' => K ((min m n : Nat) : Int) h'

def copyS (P : Program) (e : TypeId) (p : Option Addr) (n : Nat) (x : Value) (m : Nat) (h : Heap) (K : Value → Heap → Prop) : Prop :=
  copyT P e p n x m h fun k h => K (.int .i64 k) h

def copyP (P : Program) (ts : List TypeId) (args : List Value) (h : Heap) (K : Value → Heap → Prop) : Prop :=
  match ts, args with
  | t :: _, [.slice p n _, x] =>
    match P.underlying t, lenOfV x with
    | some (.slice e), some m => bif (P.info? e).isSome then copyS P e p n x m h K else False
    | _, _ => False
  | _, _ => False

theorem copyP_sound {ts : List TypeId} {args : List Value} {ty : TypeId} {h : Heap} {K : Value → Heap → Prop} (H : copyP P ts args h K) :
    ∀ w : World, w.heap = h → ∃ v w', (Builtin.copy_ ts.toArray ty args.toArray).run P w = .ok v w' ∧ Alike w w' ∧ K v w'.heap := by
  intro w hw
  unfold copyP at H
  split at H
  · rename_i t _ p n c x
    split at H
    · rename_i e m hd hm
      cases hi : P.info? e with
      | none => rw [hi] at H; exact H.elim
      | some i =>
        rw [hi] at H
        simp only [Option.isSome_some, cond_true] at H
        obtain ⟨news, hln, hsrc, H⟩ := H
        rw [typeSize_eq hi] at hln
        have hfirst := run_firstCells (P := P) hsrc hln hw
        unfold Builtin.copy_
        simp only [List.getElem?_toArray, List.getElem?_cons_zero, List.getElem?_cons_succ]
        have hmin : Nat.min m n = min m n := rfl
        simp only [Sem.run_bind, run_underlying hd, Result.andThen_ok, run_sizeOf' hi, run_lenOf hm, hmin, hfirst]
        cases p with
        | none => exact ⟨_, w, rfl, Alike.refl w, by rw [hw]; exact H⟩
        | some a =>
          obtain ⟨h', hK, hr⟩ := stP_sound (P := P) H
          simp only [Sem.run_bind, hr w hw, Result.andThen_ok, Sem.run_pure]
          exact ⟨_, _, rfl, ⟨rfl, rfl, rfl⟩, hK⟩
    · exact H.elim
  · exact H.elim

/-- An operation that writes or makes memory. -/
def effOp (P : Program) (ev : Operand → Option Value) (op : Op) (h : Heap) (K : Value → Heap → Prop) : Prop :=
  match op with
  | .store t a x => match ev a, ev x with
    | some (.pointer p), some v => ptrE p fun ad => storeP P t ad v h fun h' => K undef h'
    | _, _ => False
  | .alloc t => allocP P t h K
  | .box t x => match ev x with
    | some v => boxP P t v h K
    | none => False
  | .makeSlice t l c => match ev l, ev c with
    | some l, some c => mkSlP P t l c h K
    | _, _ => False
  | .buildSlice t n parts => match evParts ev parts.toList with
    | some ps => bldSlP P t n ps h K
    | none => False
  | .call c => match c.callee, evList ev c.args.toList with
    | .builtin .append, some vs => appendP P c.argTypes.toList vs h K
    | .builtin .copy, some vs => copyP P c.argTypes.toList vs h K
    | _, _ => False
  | _ => False

theorem effOp_sound {ev : Operand → Option Value} {ρ : Operand → Value} (hev : ∀ x v, ev x = some v → ρ x = v) {o : Oper} {h : Heap} {K : Value → Heap → Prop} (H : effOp P ev o.op h K) :
    ∀ w : World, w.heap = h → ∃ r v w', (execOp ρ o).run P w = .ok r w' ∧ (r = .value v ∨ r = .skip ∧ v = undef) ∧ Alike w w' ∧ K v w'.heap := by
  intro w hw
  obtain ⟨dst, op, type, pos, after, guard⟩ := o
  simp only at H
  cases op <;> simp only [effOp] at H
  case store t a x =>
    split at H
    · rename_i p v ha hx
      obtain ⟨ad, rfl, H⟩ := ptrE_elim H
      obtain ⟨h', hK, hr⟩ := storeP_sound H
      refine ⟨.skip, undef, { w with heap := h' }, ?_, .inr ⟨rfl, rfl⟩, ⟨rfl, rfl, rfl⟩, hK⟩
      simp [execOp, Instr.storeAt, Instr.sureAddr, hev _ _ ha, hev _ _ hx, hr w hw]
    · exact H.elim
  case alloc t =>
    unfold allocP at H
    cases hh : hasZero P t with
    | false => rw [hh] at H; exact H.elim
    | true =>
      obtain ⟨i, z, hi, hz⟩ := hasZero_spec hh
      rw [hh] at H
      simp only [cond_true] at H
      rw [zcells_eq hi hz] at H
      subst hw
      refine ⟨.value _, _, { w with heap := hnew w.heap z.cells.toList t }, ?_, .inl rfl, ⟨rfl, rfl, rfl⟩, H⟩
      simp [execOp, Instr.alloc, run_zeroValue' hi hz, newVar, newRow, hnew]
  case box t x =>
    cases hx : ev x with
    | none => rw [hx] at H; exact H.elim
    | some v =>
      rw [hx] at H
      subst hw
      have key : ∀ cs : List Value, v.cells.toList = cs → K (.pointer (some ⟨w.heap.size, 0, none⟩)) (hnew w.heap cs t) →
          ∃ r v w', (execOp ρ { dst, op := .box t x, type, pos, after, guard }).run P w = .ok r w' ∧ (r = .value v ∨ r = .skip ∧ v = undef) ∧ Alike w w' ∧ K v w'.heap := by
        intro cs hcs hK
        refine ⟨.value _, _, { w with heap := hnew w.heap cs t }, ?_, .inl rfl, ⟨rfl, rfl, rfl⟩, hK⟩
        simp [execOp, Instr.box, hev _ _ hx, newVar, newRow, hnew, ← hcs]
      simp only at H
      unfold boxP at H
      cases hz : zeroAgg P t with
      | true =>
        rw [hz] at H
        simp only [cond_true] at H
        split at H
        · exact key _ rfl H
        · exact H.elim
      | false =>
        rw [hz] at H
        simp only [cond_false] at H
        cases v <;> first | exact H.elim | exact key _ rfl H
  case makeSlice t l c =>
    split at H
    · rename_i l' c' hl hc
      obtain ⟨v, h', hK, hr⟩ := mkSlP_sound H
      refine ⟨.value v, v, { w with heap := h' }, ?_, .inl rfl, ⟨rfl, rfl, rfl⟩, hK⟩
      simp [execOp, hev _ _ hl, hev _ _ hc, hr w hw]
    · exact H.elim
  case buildSlice t n parts =>
    cases hx : evParts ev parts.toList with
    | none => rw [hx] at H; exact H.elim
    | some ps =>
      rw [hx] at H
      obtain ⟨v, h', hK, hr⟩ := bldSlP_sound H
      have e1 : (parts.map fun (p : Nat × Operand) => (p.1, ρ p.2)) = ps.toArray := by apply Array.ext'; simpa using evParts_sound hev hx
      have h2 := hr w hw
      rw [← e1] at h2
      refine ⟨.value v, v, { w with heap := h' }, ?_, .inl rfl, ⟨rfl, rfl, rfl⟩, hK⟩
      simp only [execOp, Sem.run_bind]
      have h3 : (Instr.buildSlice t n (parts.map fun (i, x) => (i, ρ x))).run P w = .ok v { w with heap := h' } := h2
      rw [h3]
      rfl
  case call c =>
    obtain ⟨callee, args, argTypes⟩ := c
    simp only at H
    split at H
    · rename_i vs he
      obtain ⟨v, w', hr, hal, hK⟩ := appendP_sound (ty := type) H w hw
      refine ⟨.value v, v, w', ?_, .inl rfl, hal, hK⟩
      have e1 : args.map ρ = vs.toArray := by apply Array.ext'; simpa using evList_sound hev he
      rw [Array.toArray_toList] at hr
      simp [execOp, resolve, invoke, builtin, e1, hr]
    · rename_i vs he
      obtain ⟨v, w', hr, hal, hK⟩ := copyP_sound (ty := type) H w hw
      refine ⟨.value v, v, w', ?_, .inl rfl, hal, hK⟩
      have e1 : args.map ρ = vs.toArray := by apply Array.ext'; simpa using evList_sound hev he
      rw [Array.toArray_toList] at hr
      simp [execOp, resolve, invoke, builtin, e1, hr]
    · exact H.elim

end Go.Vc
