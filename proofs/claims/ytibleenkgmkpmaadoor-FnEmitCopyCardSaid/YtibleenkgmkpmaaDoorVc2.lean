/- A part of a calculus over heaps: what the steps of the Go model compute, told by terms that the kernel reduces. Nothing of the law is stated here. -/
import Derived.Test.YtibleenkgmkpmaaDoorVc
namespace Go.Vc

/-! ### Values whose make is known -/
/-- A value like 'z': its constructor laid open. -/
def quant1 (z : Value) (K : Value → Prop) : Prop :=
  match z with
  | .int k _ => ∃ n : Int, K (.int k n)
  | .bool _ => ∃ b : Bool, K (.bool b)
  | .slice _ _ _ => ∃ (p : Option Addr) (n c : Nat), K (.slice p n c)
  | .pointer _ => ∃ p : Option Addr, K (.pointer p)
  | .string _ => ∃ s : ByteArray, K (.string s)
  | _ => ∃ v : Value, K v

theorem quant1_elim {z : Value} {K : Value → Prop} (h : quant1 z K) : ∃ v, K v := by
  cases z <;> simp only [quant1] at h
  all_goals first
    | (obtain ⟨p, n, c, h⟩ := h; exact ⟨_, h⟩)
    | (obtain ⟨v, h⟩ := h; exact ⟨_, h⟩)

def ld1 (z : Value) (c : Option Value) (K : Value → Prop) : Prop := quant1 z fun v => c = some v ∧ K v

theorem ld1_elim {z : Value} {c : Option Value} {K : Value → Prop} (h : ld1 z c K) : ∃ v, c = some v ∧ K v := quant1_elim h

def ldCells : List Value → (Nat → Option Value) → Nat → List Value → (List Value → Prop) → Prop
  | [], _, _, acc, K => K acc.reverse
  | z :: zs, f, i, acc, K => ld1 z (f i) fun v => ldCells zs f (i + 1) (v :: acc) K

theorem ldCells_elim : ∀ {zs : List Value} {f : Nat → Option Value} {i : Nat} {acc : List Value} {K : List Value → Prop}, ldCells zs f i acc K →
    ∃ vs, vs.length = zs.length ∧ (∀ j v, vs[j]? = some v → f (i + j) = some v) ∧ K (acc.reverse ++ vs)
  | [], f, i, acc, K, h => ⟨[], rfl, by simp, by simpa [ldCells] using h⟩
  | z :: zs, f, i, acc, K, h => by
    obtain ⟨v, hv, h⟩ := ld1_elim h
    obtain ⟨vs, hl, hf, hK⟩ := ldCells_elim h
    refine ⟨v :: vs, by simp [hl], ?_, by simpa using hK⟩
    intro j u hu
    cases j with
    | zero => simp at hu; subst hu; simpa using hv
    | succ j => simp at hu; have := hf j u hu; rwa [show i + 1 + j = i + (j + 1) by omega] at this

def isAggD : TypeDesc → Bool
  | .struct _ | .array _ _ => true
  | _ => false

theorem run_isAgg' {P : Program} {t : TypeId} {d : TypeDesc} (hd : P.underlying t = some d) (w : World) : (isAgg t).run P w = .ok (isAggD d) w := by
  unfold isAgg
  simp only [Sem.run_bind, run_underlying hd, Result.andThen]
  cases d <;> rfl

def ldP (P : Program) (t : TypeId) (a : Addr) (h : Heap) (K : Value → Prop) : Prop :=
  match P.info? t, P.underlying t with
  | some i, some d =>
    match i.zero with
    | some (.agg zs) => bif isAggD d && Nat.beq zs.toList.length i.size then ldCells zs.toList (fun j => hcell h (a.add j)) 0 [] (fun l => K (.agg l.toArray)) else False
    | some z => bif isAggD d then False else ld1 z (hcell h a) K
    | none => False
  | _, _ => False

theorem run_typeInfo' {P : Program} {t : TypeId} {i : TypeInfo} (hi : P.info? t = some i) (w : World) : (typeInfo t).run P w = .ok i w := by
  simp [typeInfo, hi]
theorem run_sizeOf' {P : Program} {t : TypeId} {i : TypeInfo} (hi : P.info? t = some i) (w : World) : (sizeOf t).run P w = .ok i.size w := by
  simp [sizeOf, run_typeInfo' hi]
theorem run_zeroValue' {P : Program} {t : TypeId} {i : TypeInfo} {z : Value} (hi : P.info? t = some i) (hz : i.zero = some z) (w : World) : (zeroValue t).run P w = .ok z w := by
  simp [zeroValue, run_typeInfo' hi, hz]

theorem ldP_sound {P : Program} {t : TypeId} {a : Addr} {h : Heap} {K : Value → Prop} (H : ldP P t a h K) :
    ∃ v, K v ∧ ∀ w : World, (∀ a v, hcell h a = some v → hcell w.heap a = some v) → (loadVar t a).run P w = .ok v w := by
  unfold ldP at H
  cases hi : P.info? t with
  | none => simp [hi] at H
  | some i =>
    cases hd : P.underlying t with
    | none => simp [hi, hd] at H
    | some d =>
      simp only [hi, hd] at H
      cases hz : i.zero with
      | none => simp [hz] at H
      | some z =>
        rw [hz] at H
        by_cases hg : ∃ zs, z = .agg zs
        · obtain ⟨zs, rfl⟩ := hg
          simp only at H
          cases hb : isAggD d with
          | false => simp [hb] at H
          | true =>
            cases hn : Nat.beq zs.toList.length i.size with
            | false => rw [hb, hn] at H; exact H.elim
            | true =>
              simp only [hb, hn, Bool.and_self, cond_true] at H
              obtain ⟨vs, hl, hf, hK⟩ := ldCells_elim H
              refine ⟨_, hK, fun w hw => ?_⟩
              have h1 : zs.toList.length = i.size := Nat.eq_of_beq_eq_true hn
              have h2 := run_loadCells_list (P := P) w a vs (fun j v hv => by have := hf j v hv; rw [Nat.zero_add] at this; exact hw _ _ this)
              rw [hl, h1] at h2
              unfold loadVar
              simp [run_isAgg' hd, hb, run_sizeOf' hi, h2]
        · have H' : (bif isAggD d then False else ld1 z (hcell h a) K) := by
            cases z <;> first | exact H | exact absurd ⟨_, rfl⟩ hg
          cases hb : isAggD d with
          | true => simp [hb] at H'
          | false =>
            simp only [hb, cond_false] at H'
            obtain ⟨v, hv, hK⟩ := ld1_elim H'
            refine ⟨v, hK, fun w hw => ?_⟩
            have hv' := hw _ _ hv
            unfold loadVar
            simp [run_isAgg' hd, hb, cell_eq, hv']

/-! ### Numbers -/
@[reducible] def bAnd (k : IntKind) (x y : Int) : Int := k.wrap ((BitVec.ofInt k.bits x) &&& (BitVec.ofInt k.bits y)).toNat
@[reducible] def bOr (k : IntKind) (x y : Int) : Int := k.wrap ((BitVec.ofInt k.bits x) ||| (BitVec.ofInt k.bits y)).toNat
@[reducible] def bXor (k : IntKind) (x y : Int) : Int := k.wrap ((BitVec.ofInt k.bits x) ^^^ (BitVec.ofInt k.bits y)).toNat
@[reducible] def bAndNot (k : IntKind) (x y : Int) : Int := k.wrap ((BitVec.ofInt k.bits x) &&& ~~~(BitVec.ofInt k.bits y)).toNat

def kEq : IntKind → IntKind → Bool
  | .i8, .i8 | .i16, .i16 | .i32, .i32 | .i64, .i64 | .u8, .u8 | .u16, .u16 | .u32, .u32 | .u64, .u64 => true
  | _, _ => false
theorem kEq_eq {a b : IntKind} (h : kEq a b = true) : a = b := by cases a <;> cases b <;> simp_all [kEq]

def isNilI : Value → Option Bool
  | .nilIface => some true
  | .iface _ _ => some false
  | _ => none

/-- Whether an interface value is nil. -/
def nilE (x : Value) (K : Bool → Prop) : Prop :=
  match isNilI x with
  | some b => K b
  | none => False

/-- '=' of what is no number. -/
def eqV (P : Program) (t : TypeId) (x y : Value) (K : Bool → Prop) : Prop :=
  match P.underlying t with
  | some (.slice _) => match x, y with
    | .slice p _ _, .slice none _ _ => K p.isNone
    | .slice none _ _, .slice q _ _ => K q.isNone
    | _, _ => False
  | some (.pointer _) => match x, y with
    | .pointer p, .pointer none => K p.isNone
    | .pointer none, .pointer q => K q.isNone
    | _, _ => False
  | some .bool => match x, y with
    | .bool a, .bool b => K (a == b)
    | _, _ => False
  | some (.interface _) => match y with
    | .nilIface => nilE x K
    | _ => False
  | _ => False

def binInt (op : BinOp) (k : IntKind) (x y : Int) (K : Value → Prop) : Prop :=
  match op with
  | .add => K (.int k (k.wrap (x + y)))
  | .sub => K (.int k (k.wrap (x - y)))
  | .mul => K (.int k (k.wrap (x * y)))
  | .quo => if y = 0 then False else K (.int k (k.wrap (x.tdiv y)))
  | .rem => if y = 0 then False else K (.int k (x.tmod y))
  | .and => K (.int k (bAnd k x y))
  | .or => K (.int k (bOr k x y))
  | .xor => K (.int k (bXor k x y))
  | .andNot => K (.int k (bAndNot k x y))
  | .eql => K (.bool (x == y))
  | .neq => K (.bool (x != y))
  | .lss => K (.bool (x < y))
  | .leq => K (.bool (x ≤ y))
  | .gtr => K (.bool (x > y))
  | .geq => K (.bool (x ≥ y))
  | _ => False

def binN (P : Program) (op : BinOp) (t : TypeId) (x y : Value) (K : Value → Prop) : Prop :=
  match op, x, y with
  | .shl, .int k a, .int _ b => if b < 0 then False else K (.int k (k.wrap (a * 2 ^ (min b.toNat k.bits))))
  | .shr, .int k a, .int _ b => if b < 0 then False else K (.int k (a.fdiv (2 ^ (min b.toNat k.bits))))
  | op, .int k a, .int k' b => bif kEq k k' then binInt op k a b K else False
  | .eql, x, y => eqV P t x y (fun b => K (.bool b))
  | .neq, x, y => eqV P t x y (fun b => K (.bool (!b)))
  | _, _, _ => False

def isIfaceT (P : Program) (t : TypeId) : Bool :=
  match P.underlying t with
  | some (.interface _) => true
  | _ => false

def binP (P : Program) (op : BinOp) (t : TypeId) (x y : Value) (K : Value → Prop) : Prop :=
  bif isIfaceT P t then match op with
    | .eql => eqV P t x y fun b => K (.bool b)
    | .neq => eqV P t x y fun b => K (.bool (!b))
    | _ => False
  else binN P op t x y K

theorem run_binInt {P : Program} {op : BinOp} {k : IntKind} {x y : Int} {K : Value → Prop} (H : binInt op k x y K) (hs : op ≠ .shl ∧ op ≠ .shr) (t : TypeId) :
    ∃ v, K v ∧ ∀ w : World, (binOp op t (.int k x) (.int k y)).run P w = .ok v w := by
  cases op <;> simp only [binInt] at H
  case quo =>
    split at H
    · exact H.elim
    · rename_i h0; exact ⟨_, H, fun w => by simp [binOp, Op.intDiv, h0]⟩
  case rem =>
    split at H
    · exact H.elim
    · rename_i h0; exact ⟨_, H, fun w => by simp [binOp, Op.intDiv, h0]⟩
  all_goals first
    | exact H.elim
    | (refine ⟨_, H, fun w => ?_⟩; first
        | (simp [binOp, Op.intArith, Op.intCmp]; done)
        | (simp only [binOp, ne_eq, not_true_eq_false, if_false]; rfl))

/-- An operand that is written in the text. -/
def isConstO : Operand → Bool
  | .const _ => true
  | _ => false

def eqOk (P : Program) (op : BinOp) (t : TypeId) (y : Operand) : Bool :=
  match op, P.underlying t with
  | .eql, some (.interface _) | .neq, some (.interface _) => isConstO y
  | _, _ => true

theorem equal_open {P : Program} {t : TypeId} (x y : Value) (w : World) :
    (Op.equal t x y).run P w = (Op.equalIn (9999 + 1) t x y).run P w := rfl

theorem eqV_sound {P : Program} {t : TypeId} {x y : Value} {K : Bool → Prop} (H : eqV P t x y K) :
    ∃ b, K b ∧ ∀ w : World, (Op.equal t x y).run P w = .ok b w := by
  unfold eqV at H
  cases hd : P.underlying t with
  | none => rw [hd] at H; exact H.elim
  | some d =>
    rw [hd] at H
    cases d <;> simp only at H
    case bool =>
      split at H
      · exact ⟨_, H, fun w => run_equal_bool w t _ _ hd⟩
      · exact H.elim
    case pointer e =>
      split at H
      · refine ⟨_, H, fun w => ?_⟩
        rename_i p
        rw [equal_open, Op.equalIn]
        simp only [Sem.run_bind, run_underlying hd, Result.andThen]
        cases p <;> rfl
      · refine ⟨_, H, fun w => ?_⟩
        rw [equal_open, Op.equalIn]
        simp only [Sem.run_bind, run_underlying hd, Result.andThen]
        rfl
      · exact H.elim
    case slice e =>
      split at H
      · refine ⟨_, H, fun w => ?_⟩
        rename_i p _ _ _ _
        rw [equal_open, Op.equalIn]
        simp only [Sem.run_bind, run_underlying hd, Result.andThen]
        cases p <;> rfl
      · refine ⟨_, H, fun w => ?_⟩
        rw [equal_open, Op.equalIn]
        simp only [Sem.run_bind, run_underlying hd, Result.andThen]
        rfl
      · exact H.elim
    case interface ms =>
      cases y <;> simp only at H
      all_goals first
        | exact H.elim
        | (cases x <;> simp only [nilE, isNilI] at H <;> first
            | exact H.elim
            | (refine ⟨_, H, fun w => ?_⟩
               rw [equal_open, Op.equalIn]
               simp only [Sem.run_bind, run_underlying hd, Result.andThen]
               rfl))
    all_goals exact H.elim

theorem binN_sound {P : Program} {op : BinOp} {t : TypeId} {x y : Value} {K : Value → Prop} {ox oy : Operand} (hok : eqOk P op t oy = true) (H : binN P op t x y K) :
    ∃ v, K v ∧ ∀ w : World, (do eqGuard op t ox oy x y; binOp op t x y : Sem Value).run P w = .ok v w := by
  have hguard : ∀ w : World, (eqGuard op t ox oy x y).run P w = .ok () w := by
    intro w
    by_cases hop : op = .eql ∨ op = .neq
    · have hnil : ¬ (x = .nilIface ∧ y = .nilIface ∧ isConstO oy = false) := by
        rintro ⟨rfl, rfl, hc⟩
        rcases hop with rfl | rfl
        all_goals
          simp only [binN, eqV] at H
          simp only [eqOk] at hok
          cases hd : P.underlying t with
          | none => simp only [hd] at H
          | some d => cases d <;> simp only [hd] at H hok <;> simp_all
      have hagg : ¬ ((∃ a, x = .agg a) ∧ ∃ b, y = .agg b) := by
        rintro ⟨⟨a, rfl⟩, b, rfl⟩
        rcases hop with rfl | rfl
        all_goals
          simp only [binN, eqV] at H
          cases hd : P.underlying t with
          | none => simp only [hd] at H
          | some d => cases d <;> simp only [hd] at H
      unfold eqGuard
      cases x <;> cases y <;> first
        | (rcases hop with rfl | rfl <;> rfl)
        | (exfalso; exact hagg ⟨⟨_, rfl⟩, _, rfl⟩)
        | (cases oy <;> first
            | (exfalso; exact hnil ⟨rfl, rfl, rfl⟩)
            | (rcases hop with rfl | rfl <;> simp <;> rfl))
    · unfold eqGuard
      cases op <;> first
        | (exfalso; exact hop (.inl rfl))
        | (exfalso; exact hop (.inr rfl))
        | rfl
  have key : ∃ v, K v ∧ ∀ w : World, (binOp op t x y).run P w = .ok v w := by
    unfold binN at H
    split at H
    · split at H
      · exact H.elim
      · rename_i hb
        exact ⟨_, H, fun w => by simp [binOp, Op.shift, hb]⟩
    · split at H
      · exact H.elim
      · rename_i hb
        exact ⟨_, H, fun w => by simp [binOp, Op.shift, hb]⟩
    · rename_i hs1 hs2
      cases hk : kEq _ _ with
      | false => rw [hk] at H; exact H.elim
      | true =>
        rw [hk] at H
        have := kEq_eq hk
        subst this
        exact run_binInt H ⟨hs1, hs2⟩ t
    · rename_i hnum
      obtain ⟨b, hK, hb⟩ := eqV_sound H
      refine ⟨_, hK, fun w => ?_⟩
      unfold eqV at H
      cases hd : P.underlying t with
      | none => simp only [hd] at H
      | some d =>
        simp only [hd] at H
        cases x <;> cases y <;> first
          | (exact absurd rfl (hnum _ _ _ _ rfl))
          | (simp only [binOp, Sem.run_bind, hb w, Result.andThen]; rfl)
          | (cases d <;> simp only at H)
    · rename_i hnum
      obtain ⟨b, hK, hb⟩ := eqV_sound H
      refine ⟨_, hK, fun w => ?_⟩
      unfold eqV at H
      cases hd : P.underlying t with
      | none => simp only [hd] at H
      | some d =>
        simp only [hd] at H
        cases x <;> cases y <;> first
          | (exact absurd rfl (hnum _ _ _ _ rfl))
          | (simp only [binOp, Sem.run_bind, hb w, Result.andThen]; rfl)
          | (cases d <;> simp only at H)
    · exact H.elim
  obtain ⟨v, hK, hr⟩ := key
  exact ⟨v, hK, fun w => by simp only [Sem.run_bind, hguard, Result.andThen, hr]⟩

theorem isIfaceT_spec {P : Program} {t : TypeId} (h : isIfaceT P t = true) : ∃ ms, P.underlying t = some (.interface ms) := by
  unfold isIfaceT at h
  cases hd : P.underlying t with
  | none => rw [hd] at h; cases h
  | some d => rw [hd] at h; cases d <;> first | exact ⟨_, rfl⟩ | (cases h)

/-- An interface value against nil. -/
theorem eqV_iface {P : Program} {t : TypeId} {ms : Array (String × TypeId)} (hd : P.underlying t = some (.interface ms)) {x y : Value} {K : Bool → Prop} (H : eqV P t x y K) :
    y = .nilIface ∧ (x = .nilIface ∨ ∃ u v, x = .iface u v) := by
  unfold eqV at H
  rw [hd] at H
  cases y <;> simp only at H <;> (try exact H.elim)
  cases x <;> simp only [nilE, isNilI] at H <;> first | exact H.elim | exact ⟨rfl, .inl rfl⟩ | exact ⟨rfl, .inr ⟨_, _, rfl⟩⟩

theorem binP_sound {P : Program} {op : BinOp} {t : TypeId} {x y : Value} {K : Value → Prop} {ox oy : Operand} (hok : eqOk P op t oy = true) (H : binP P op t x y K) :
    ∃ v, K v ∧ ∀ w : World, (do eqGuard op t ox oy x y; binOp op t x y : Sem Value).run P w = .ok v w := by
  unfold binP at H
  cases hif : isIfaceT P t with
  | true =>
    rw [hif] at H
    simp only [cond_true] at H
    obtain ⟨ms, hd⟩ := isIfaceT_spec hif
    have key : ∀ (f : Bool → Bool), (op = .eql ∧ f = id ∨ op = .neq ∧ f = fun b => !b) → eqV P t x y (fun b => K (.bool (f b))) →
        ∃ v, K v ∧ ∀ w : World, (do eqGuard op t ox oy x y; binOp op t x y : Sem Value).run P w = .ok v w := by
      intro f hf he
      obtain ⟨b, hK, hb⟩ := eqV_sound he
      obtain ⟨rfl, hx⟩ := eqV_iface hd he
      refine ⟨_, hK, fun w => ?_⟩
      have hc : isConstO oy = true := by
        rcases hf with ⟨rfl, _⟩ | ⟨rfl, _⟩ <;> simpa [eqOk, hd] using hok
      have hg : (eqGuard op t ox oy x .nilIface).run P w = .ok () w := by
        unfold eqGuard
        rcases hx with rfl | ⟨u, v, rfl⟩
        · cases oy <;> first
            | (simp [isConstO] at hc; done)
            | (rcases hf with ⟨rfl, _⟩ | ⟨rfl, _⟩ <;> simp <;> rfl)
        · rcases hf with ⟨rfl, _⟩ | ⟨rfl, _⟩ <;> rfl
      simp only [Sem.run_bind, hg, Result.andThen]
      rcases hf with ⟨rfl, rfl⟩ | ⟨rfl, rfl⟩
      · rcases hx with rfl | ⟨u, v, rfl⟩ <;> (simp only [binOp, Sem.run_bind, hb w, Result.andThen]; rfl)
      · rcases hx with rfl | ⟨u, v, rfl⟩ <;> (simp only [binOp, Sem.run_bind, hb w, Result.andThen]; rfl)
    split at H
    · exact key id (.inl ⟨rfl, rfl⟩) H
    · exact key _ (.inr ⟨rfl, rfl⟩) H
    · exact H.elim
  | false =>
    rw [hif] at H
    simp only [cond_false] at H
    exact binN_sound hok H

end Go.Vc
