/- A part of a calculus over heaps: what the steps of the Go model compute, told by terms that the kernel reduces. Nothing of the law is stated here. -/
import Derived.Test.YtibleenkgmkpmaaDoorVc2
namespace Go.Vc

def ptrE (p : Option Addr) (K : Addr → Prop) : Prop :=
  match p with
  | some a => K a
  | none => False

theorem ptrE_elim {p : Option Addr} {K : Addr → Prop} (h : ptrE p K) : ∃ a, p = some a ∧ K a := by
  cases p with
  | none => exact h.elim
  | some a => exact ⟨a, rfl, h⟩

def unP (op : UnOp) (x : Value) (K : Value → Prop) : Prop :=
  match op, x with
  | .neg, .int k n => K (.int k (k.wrap (0 - n)))
  | .xor, .int k n => K (.int k (bXor k (if k.signed then -1 else k.max) n))
  | .not, .bool b => K (.bool (!b))
  | _, _ => False

def convP (P : Program) (s d : TypeId) (x : Value) (K : Value → Prop) : Prop :=
  match P.underlying s, P.underlying d, x with
  | some _, some (.int k), .int _ n => K (.int k (k.wrap n))
  | _, _, _ => False

def boundP (v : Value) (y : Nat) (K : Nat → Prop) : Prop :=
  match v with
  | .int _ i => 0 ≤ i ∧ i ≤ y ∧ K i.toNat
  | _ => False

/-- The address of a slice's part. -/
def subP (p : Option Addr) (l m s : Nat) : Option Addr := if m = l then p else p.map (·.add (l * s))

def loP (lo : Option Value) (K : Nat → Nat → Nat → Prop) (h m : Nat) : Prop :=
  match lo with
  | some v => boundP v h fun l => K l h m
  | none => K 0 h m

def bndsP (n c : Nat) (lo hi mx : Option Value) (K : Nat → Nat → Nat → Prop) : Prop :=
  match mx, hi with
  | none, none => loP lo K n c
  | none, some v => boundP v c fun h => loP lo K h c
  | some u, some v => boundP u c fun m => boundP v m fun h => loP lo K h m
  | some _, none => False

def slP (P : Program) (t : TypeId) (x : Value) (lo hi mx : Option Value) (K : Value → Prop) : Prop :=
  match P.underlying t, x with
  | some (.slice e), .slice p n c =>
    match P.info? e with
    | some i => bndsP n c lo hi mx fun l h m => K (.slice (subP p l m i.size) (h - l) (m - l))
    | none => False
  | some (.array n e), .pointer p =>
    match P.info? e with
    | some i => ptrE p fun a => bndsP n n lo hi mx fun l h m => K (.slice (subP (some a) l m i.size) (h - l) (m - l))
    | none => False
  | some .string, .string s =>
    match mx with
    | none => bndsP s.size s.size lo hi none fun l h _ => K (.string (s.extract l h))
    | some _ => False
  | _, _ => False

def partP (P : Program) (t : TypeId) (cs : Array Value) (off : Nat) (K : Value → Prop) : Prop :=
  match P.underlying t, P.info? t with
  | some d, some i =>
    bif isAggD d then K (.agg ((cs.toList.drop off).take i.size).toArray)
    else match cs.toList[off]? with
      | some v => K v
      | none => False
  | _, _ => False

def fldAddrP (P : Program) (s : TypeId) (x : Value) (f : Nat) (K : Value → Prop) : Prop :=
  match P.underlying s with
  | some (.struct fs) =>
    match fs.toList[f]? with
    | some fd =>
      match P.info? fd.type with
      | some i => bif Nat.beq i.size 0 then False else match x with
        | .pointer p => ptrE p fun a => K (.pointer (some (a.add fd.offset)))
        | _ => False
      | none => False
    | none => False
  | _ => False

def fldP (P : Program) (t : TypeId) (x : Value) (f : Nat) (K : Value → Prop) : Prop :=
  match P.underlying t, x with
  | some (.struct fs), .agg cs =>
    match fs.toList[f]? with
    | some fd => partP P fd.type cs fd.offset K
    | none => False
  | _, _ => False

def idxAddrP (P : Program) (t : TypeId) (x i : Value) (K : Value → Prop) : Prop :=
  match P.underlying t, x, i with
  | some (.slice e), .slice p n _, .int _ j =>
    match P.info? e with
    | some i => 0 ≤ j ∧ j < n ∧ ptrE p fun a => K (.pointer (some (a.add (j.toNat * i.size))))
    | none => False
  | some (.array n e), .pointer p, .int _ j =>
    match P.info? e with
    | some i => 0 ≤ j ∧ j < n ∧ ptrE p fun a => K (.pointer (some (a.add (j.toNat * i.size))))
    | none => False
  | _, _, _ => False

def idxP (P : Program) (t : TypeId) (x i : Value) (K : Value → Prop) : Prop :=
  match P.underlying t, x, i with
  | some (.array n e), .agg cs, .int _ j =>
    match P.info? e, P.underlying e with
    | some i, some d => bif isAggD d then False else match i.zero with
      | some z => 0 ≤ j ∧ j < n ∧ ld1 z (cs.toList[j.toNat * i.size]?) K
      | none => False
    | _, _ => False
  | some .string, .string s, .int _ j => 0 ≤ j ∧ ∃ b : UInt8, s[j.toNat]? = some b ∧ K (.int .u8 b.toNat)
  | _, _, _ => False

def extP (x : Value) (i : Nat) (K : Value → Prop) : Prop :=
  match x with
  | .tuple vs => match vs.toList[i]? with
    | some v => K v
    | none => False
  | _ => False

def evList (ev : Operand → Option Value) : List Operand → Option (List Value)
  | [] => some []
  | x :: r => match ev x, evList ev r with
    | some v, some vs => some (v :: vs)
    | _, _ => none

def evParts (ev : Operand → Option Value) : List (Nat × Operand) → Option (List (Nat × Value))
  | [] => some []
  | (i, x) :: r => match ev x, evParts ev r with
    | some v, some vs => some ((i, v) :: vs)
    | _, _ => none

/-- Parts laid into cells. -/
def fillL (place : Nat → Option (Nat × Nat)) (cells : List Value) : List (Nat × Value) → Option (List Value)
  | [] => some cells
  | (i, v) :: r =>
    match place i with
    | none => none
    | some (off, size) => bif Nat.beq v.cells.toList.length size && Nat.ble (off + v.cells.toList.length) cells.length then
        fillL place (cells.take off ++ v.cells.toList ++ cells.drop (off + v.cells.toList.length)) r else none

def structPlace (P : Program) (fs : Array Field) (i : Nat) : Option (Nat × Nat) :=
  match fs.toList[i]? with
  | some f => match P.info? f.type with
    | some j => some (f.offset, j.size)
    | none => none
  | none => none

def allSized (P : Program) : List Field → Bool
  | [] => true
  | f :: r => (P.info? f.type).isSome && allSized P r

def buildP (P : Program) (t : TypeId) (parts : List (Nat × Value)) (K : Value → Prop) : Prop :=
  match P.info? t, P.underlying t with
  | some i, some (.struct fs) =>
    match i.zero with
    | some z => bif allSized P fs.toList then match fillL (structPlace P fs) z.cells.toList parts with
      | some cs => K (.agg cs.toArray)
      | none => False
      else False
    | none => False
  | some i, some (.array _ e) =>
    match i.zero, P.info? e with
    | some z, some j => match fillL (fun k => some (k * j.size, j.size)) z.cells.toList parts with
      | some cs => K (.agg cs.toArray)
      | none => False
    | _, _ => False
  | _, _ => False

def lenP (P : Program) (t : TypeId) (x : Value) (K : Value → Prop) : Prop :=
  match P.underlying t, x with
  | some .string, .string s => K (.int .i64 s.size)
  | some (.slice _), .slice _ n _ => K (.int .i64 n)
  | some (.array n _), _ => K (.int .i64 n)
  | some (.pointer arr), _ => match P.underlying arr with
    | some (.array n _) => K (.int .i64 n)
    | _ => False
  | _, _ => False

def capP (P : Program) (t : TypeId) (x : Value) (K : Value → Prop) : Prop :=
  match P.underlying t, x with
  | some (.slice _), .slice _ _ c => K (.int .i64 c)
  | _, _ => False

def callVal (P : Program) (ev : Operand → Option Value) (c : Call) (K : Value → Prop) : Prop :=
  match c.callee with
  | .builtin .len => match c.args.toList, c.argTypes.toList with
    | [x], [t] => match ev x with
      | some v => lenP P t v K
      | none => False
    | _, _ => False
  | .builtin .cap => match c.args.toList, c.argTypes.toList with
    | [x], [t] => match ev x with
      | some v => capP P t v K
      | none => False
    | _, _ => False
  | .builtin .min => match c.args.toList with
    | [x, y] => match ev x, ev y with
      | some (.int k a), some (.int _ b) => K (.int k (if b < a then b else a))
      | _, _ => False
    | _ => False
  | .builtin .max => match c.args.toList with
    | [x, y] => match ev x, ev y with
      | some (.int k a), some (.int _ b) => K (.int k (if b > a then b else a))
      | _, _ => False
    | _ => False
  | _ => False

/-- An operation that reads at most: the values that it may yield. -/
def valOp (P : Program) (ev : Operand → Option Value) (op : Op) (h : Heap) (K : Value → Prop) : Prop :=
  match op with
  | .move x | .assign x => match ev x with
    | some v => K v
    | none => False
  | .pick c a b => match ev c with
    | some (.bool true) => match ev a with
      | some v => K v
      | none => False
    | some (.bool false) => match ev b with
      | some v => K v
      | none => False
    | _ => False
  | .load t a => match ev a with
    | some (.pointer p) => ptrE p fun ad => ldP P t ad h K
    | _ => False
  | .nilCheck x => match ev x with
    | some (.pointer p) => ptrE p fun a => K (.pointer (some a))
    | _ => False
  | .binOp op t x y _ => match ev x, ev y with
    | some a, some b => bif eqOk P op t y then binP P op t a b K else False
    | _, _ => False
  | .unOp op _ x => match ev x with
    | some a => unP op a K
    | none => False
  | .convert s d x => match ev x with
    | some a => convP P s d a K
    | none => False
  | .makeInterface t x => match ev x, P.underlying t with
    | some _, some (.interface _) => False
    | some v, some _ => K (.iface t v)
    | _, _ => False
  | .makeFunc fn first captured => match evList ev first.toList, evList ev captured.toList with
    | some a, some b => K (.func fn a.toArray b.toArray)
    | _, _ => False
  | .slice t x lo hi mx => match ev x with
    | some v => match lo, hi, mx with
      | none, none, none => slP P t v none none none K
      | some l, none, none => match ev l with
        | some l => slP P t v (some l) none none K
        | none => False
      | none, some u, none => match ev u with
        | some u => slP P t v none (some u) none K
        | none => False
      | some l, some u, none => match ev l, ev u with
        | some l, some u => slP P t v (some l) (some u) none K
        | _, _ => False
      | some l, some u, some m => match ev l, ev u, ev m with
        | some l, some u, some m => slP P t v (some l) (some u) (some m) K
        | _, _, _ => False
      | none, some u, some m => match ev u, ev m with
        | some u, some m => slP P t v none (some u) (some m) K
        | _, _ => False
      | _, none, some _ => False
    | none => False
  | .fieldAddr s x f => match ev x with
    | some v => fldAddrP P s v f K
    | none => False
  | .field t x f => match ev x with
    | some v => fldP P t v f K
    | none => False
  | .indexAddr t x i => match ev x, ev i with
    | some v, some j => idxAddrP P t v j K
    | _, _ => False
  | .index t x i => match ev x, ev i with
    | some v, some j => idxP P t v j K
    | _, _ => False
  | .extract x i => match ev x with
    | some v => extP v i K
    | none => False
  | .build t parts => match evParts ev parts.toList with
    | some ps => buildP P t ps K
    | none => False
  | .call c => callVal P ev c K
  | _ => False

end Go.Vc
