/- The program's functions, each told as a predicate transformer over heaps and tied to the program's text by the kernel. -/
import Derived.Test.YtgcmdkiahjjpeaaDoorVc10
import Derived.Test.YtgcmdkiahjjpeaaDoorProg
import Derived.KernelRfl
namespace Go.Proofs.YtgcmdkiahjjpeaaDoor
open Go Go.Vc Go.Proofs

/-- The seat's program. -/
noncomputable abbrev Pg : Program := Tryd.prog

def c_littleEndian_Uint32 (x_b : Sl) (h : Heap) (K : Int → Heap → Prop) : Prop :=
  CallsH Pg 13 #[(.agg #[]), (.slice x_b.p x_b.n x_b.c)] h fun v h1 => ∃ r0 : Int, v = (.int .u32 r0) ∧ K r0 h1

def c_littleEndian_Uint64 (x_b : Sl) (h : Heap) (K : Int → Heap → Prop) : Prop :=
  CallsH Pg 14 #[(.agg #[]), (.slice x_b.p x_b.n x_b.c)] h fun v h1 => ∃ r0 : Int, v = (.int .u64 r0) ∧ K r0 h1

def c_Load32 (x_b : Sl) (x_i : Int) (h : Heap) (K : Int → Heap → Prop) : Prop :=
  CallsH Pg 11 #[(.slice x_b.p x_b.n x_b.c), (.int .i64 x_i)] h fun v h1 => ∃ r0 : Int, v = (.int .u32 r0) ∧ K r0 h1

def c_Load64 (x_b : Sl) (x_i : Int) (h : Heap) (K : Int → Heap → Prop) : Prop :=
  CallsH Pg 12 #[(.slice x_b.p x_b.n x_b.c), (.int .i64 x_i)] h fun v h1 => ∃ r0 : Int, v = (.int .u64 r0) ∧ K r0 h1

def c_load32 (x_b : Sl) (x_i : Int) (h : Heap) (K : Int → Heap → Prop) : Prop :=
  CallsH Pg 7 #[(.slice x_b.p x_b.n x_b.c), (.int .i64 x_i)] h fun v h1 => ∃ r0 : Int, v = (.int .u32 r0) ∧ K r0 h1

def c_load64 (x_b : Sl) (x_i : Int) (h : Heap) (K : Int → Heap → Prop) : Prop :=
  CallsH Pg 9 #[(.slice x_b.p x_b.n x_b.c), (.int .i64 x_i)] h fun v h1 => ∃ r0 : Int, v = (.int .u64 r0) ∧ K r0 h1

def c_TrailingZeros32 (x_x : Int) (h : Heap) (K : Int → Heap → Prop) : Prop :=
  CallsH Pg 8 #[(.int .u32 x_x)] h fun v h1 => ∃ r0 : Int, v = (.int .i64 r0) ∧ K r0 h1

def c_TrailingZeros64 (x_x : Int) (h : Heap) (K : Int → Heap → Prop) : Prop :=
  CallsH Pg 10 #[(.int .u64 x_x)] h fun v h1 => ∃ r0 : Int, v = (.int .i64 r0) ∧ K r0 h1

def c_matchLen (x_a : Sl) (x_b : Sl) (h : Heap) (K : Int → Heap → Prop) : Prop :=
  CallsH Pg 6 #[(.slice x_a.p x_a.n x_a.c), (.slice x_b.p x_b.n x_b.c)] h fun v h1 => ∃ r0 : Int, v = (.int .i64 r0) ∧ K r0 h1

def c_ZzMatchLen (x_a : Sl) (x_b : Sl) (h : Heap) (K : Int → Heap → Prop) : Prop :=
  CallsH Pg 5 #[(.slice x_a.p x_a.n x_a.c), (.slice x_b.p x_b.n x_b.c)] h fun v h1 => ∃ r0 : Int, v = (.int .i64 r0) ∧ K r0 h1

def c_impl_S2MatchLen (x_a : Sl) (x_b : Sl) (h : Heap) (K : Int → Heap → Prop) : Prop :=
  CallsH Pg 4 #[(.slice x_a.p x_a.n x_a.c), (.slice x_b.p x_b.n x_b.c)] h fun v h1 => ∃ r0 : Int, v = (.int .i64 r0) ∧ K r0 h1

def c_laws_FnMatchLen (x_a : Sl) (x_b : Sl) (h : Heap) (K : Bool → Heap → Prop) : Prop :=
  CallsH Pg 3 #[(.slice x_a.p x_a.n x_a.c), (.slice x_b.p x_b.n x_b.c)] h fun v h1 => ∃ r0 : Bool, v = (.bool r0) ∧ K r0 h1

namespace M_littleEndian_Uint32

structure St where
  x_b : Sl
  t4 : Int

def p0 : Pt St where
  env s := [(4, (.int .u32 s.t4))]
  fin e s K := getV e 4 fun v1 => asI .u32 v1 fun n1 => K { s with t4 := n1 }
  ok := by
    intro e s K h0
    obtain ⟨w1, g1, h1⟩ := getV_elim h0
    obtain ⟨n1, rfl, h2⟩ := asI_elim h1
    exact ⟨_, ⟨g1, trivial⟩, h2⟩

def p1 : Pt St where
  env s := [(0, (.agg #[])), (1, (.slice s.x_b.p s.x_b.n s.x_b.c))]
  fin e s K := getV e 0 fun v1 => asA v1 fun l1 => asN l1 (getV e 1 fun v2 => asS v2 fun p1 n1 c1 => K { s with x_b := ⟨p1, n1, c1⟩ })
  ok := by
    intro e s K h0
    obtain ⟨w1, g1, h1⟩ := getV_elim h0
    obtain ⟨l1, rfl, h2⟩ := asA_elim h1
    obtain ⟨rfl, h3⟩ := asN_elim h2
    obtain ⟨w2, g2, h4⟩ := getV_elim h3
    obtain ⟨p1, n1, c1, rfl, h5⟩ := asS_elim h4
    exact ⟨_, ⟨g1, g2, trivial⟩, h5⟩

def p2 : Pt St where
  env s := [(1, (.slice s.x_b.p s.x_b.n s.x_b.c))]
  fin e s K := getV e 1 fun v1 => asS v1 fun p1 n1 c1 => K { s with x_b := ⟨p1, n1, c1⟩ }
  ok := by
    intro e s K h0
    obtain ⟨w1, g1, h1⟩ := getV_elim h0
    obtain ⟨p1, n1, c1, rfl, h2⟩ := asS_elim h1
    exact ⟨_, ⟨g1, trivial⟩, h2⟩

def r0 (s : St) (h : Heap) (Q : St → Heap → Prop) : Prop :=
  withH (hnew h [] 35) fun h1 =>
  Q s h1

def r1 (s : St) (h : Heap) (Q : St → Heap → Prop) : Prop :=
  0 ≤ (3 : Int) ∧ (3 : Int) < ((s.x_b.n : Nat) : Int) ∧
  ptrE s.x_b.p fun a1 =>
  ∃ v2 : Int, hcell h (Addr.add a1 (Int.toNat (3 : Int) * 1)) = some (.int .u8 v2) ∧
  Q s h

def r2 (s : St) (h : Heap) (Q : St → Heap → Prop) : Prop :=
  0 ≤ (0 : Int) ∧ (0 : Int) < ((s.x_b.n : Nat) : Int) ∧
  ptrE s.x_b.p fun a1 =>
  ∃ v2 : Int, hcell h (Addr.add a1 (Int.toNat (0 : Int) * 1)) = some (.int .u8 v2) ∧
  0 ≤ (1 : Int) ∧ (1 : Int) < ((s.x_b.n : Nat) : Int) ∧
  ptrE s.x_b.p fun a3 =>
  ∃ v4 : Int, hcell h (Addr.add a3 (Int.toNat (1 : Int) * 1)) = some (.int .u8 v4) ∧
  0 ≤ (2 : Int) ∧ (2 : Int) < ((s.x_b.n : Nat) : Int) ∧
  ptrE s.x_b.p fun a5 =>
  ∃ v6 : Int, hcell h (Addr.add a5 (Int.toNat (2 : Int) * 1)) = some (.int .u8 v6) ∧
  0 ≤ (3 : Int) ∧ (3 : Int) < ((s.x_b.n : Nat) : Int) ∧
  ptrE s.x_b.p fun a7 =>
  ∃ v8 : Int, hcell h (Addr.add a7 (Int.toNat (3 : Int) * 1)) = some (.int .u8 v8) ∧
  Q { s with t4 := (bOr .u32 (bOr .u32 (bOr .u32 (IntKind.wrap .u32 v2) (IntKind.wrap .u32 ((IntKind.wrap .u32 v4) * 2 ^ (8 : Nat)))) (IntKind.wrap .u32 ((IntKind.wrap .u32 v6) * 2 ^ (16 : Nat)))) (IntKind.wrap .u32 ((IntKind.wrap .u32 v8) * 2 ^ (24 : Nat)))) } h

def stm : Stm St :=
  (.seq (.reg r0)
  (.seq (.reg r1)
  (.seq (.reg r2)
  .ret)))

def ex : Ex → Pt St := fun _ => p0

set_option maxRecDepth 100000 in
theorem sim : Sim Pg 30 p1 (Tryd.f13.body.getD .skip) stm p0 ex :=
  (Sim.seq (Sim.reg (A := p1) (B := p2) (fun _ _ _ => by kernel_rfl))
  (Sim.seq (Sim.reg (A := p2) (B := p2) (fun _ _ _ => by kernel_rfl))
  (Sim.seq (Sim.reg (A := p2) (B := p0) (fun _ _ _ => by kernel_rfl))
  (Sim.ret (A := p0) (E := ex) (fun _ => ⟨rfl, trivial⟩)))))

def init (x_b : Sl) : St := { x_b := x_b, t4 := 0 }

/-- What is left of the results. -/
def res (K : Int → Heap → Prop) (s : St) (h1 : Heap) : Prop := K s.t4 h1

/-- The call of '(encoding/binary.littleEndian).Uint32'. -/
theorem calls (x_b : Sl) (h : Heap) (K : Int → Heap → Prop)
    (H : stm (init x_b) h (endK (res K))) : c_littleEndian_Uint32 x_b h K := by
  have hc : CallsH Pg 13 #[(.agg #[]), (.slice x_b.p x_b.n x_b.c)] h fun v h1 => asI .u32 v fun n1 => K n1 h1 :=
    callsH_of_sim (R := p0) (fn := Tryd.f13) (c := Tryd.f13.body.getD .skip) Tryd.func13 rfl Tryd.ntmps13 Tryd.call13 sim (init x_b) (⟨rfl, rfl, trivial⟩) (Nat.le_of_ble_eq_true rfl) (fun _ => ⟨rfl, trivial⟩) rfl
      (res K) (fun _ _ => by kernel_rfl) H
  refine hc.mono ?_
  intro v hp H
  obtain ⟨n1, rfl, h1⟩ := asI_elim H
  exact ⟨_, rfl, h1⟩

end M_littleEndian_Uint32

namespace M_littleEndian_Uint64

structure St where
  x_b : Sl
  t4 : Int

def p0 : Pt St where
  env s := [(4, (.int .u64 s.t4))]
  fin e s K := getV e 4 fun v1 => asI .u64 v1 fun n1 => K { s with t4 := n1 }
  ok := by
    intro e s K h0
    obtain ⟨w1, g1, h1⟩ := getV_elim h0
    obtain ⟨n1, rfl, h2⟩ := asI_elim h1
    exact ⟨_, ⟨g1, trivial⟩, h2⟩

def p1 : Pt St where
  env s := [(0, (.agg #[])), (1, (.slice s.x_b.p s.x_b.n s.x_b.c))]
  fin e s K := getV e 0 fun v1 => asA v1 fun l1 => asN l1 (getV e 1 fun v2 => asS v2 fun p1 n1 c1 => K { s with x_b := ⟨p1, n1, c1⟩ })
  ok := by
    intro e s K h0
    obtain ⟨w1, g1, h1⟩ := getV_elim h0
    obtain ⟨l1, rfl, h2⟩ := asA_elim h1
    obtain ⟨rfl, h3⟩ := asN_elim h2
    obtain ⟨w2, g2, h4⟩ := getV_elim h3
    obtain ⟨p1, n1, c1, rfl, h5⟩ := asS_elim h4
    exact ⟨_, ⟨g1, g2, trivial⟩, h5⟩

def p2 : Pt St where
  env s := [(1, (.slice s.x_b.p s.x_b.n s.x_b.c))]
  fin e s K := getV e 1 fun v1 => asS v1 fun p1 n1 c1 => K { s with x_b := ⟨p1, n1, c1⟩ }
  ok := by
    intro e s K h0
    obtain ⟨w1, g1, h1⟩ := getV_elim h0
    obtain ⟨p1, n1, c1, rfl, h2⟩ := asS_elim h1
    exact ⟨_, ⟨g1, trivial⟩, h2⟩

def r0 (s : St) (h : Heap) (Q : St → Heap → Prop) : Prop :=
  withH (hnew h [] 35) fun h1 =>
  Q s h1

def r1 (s : St) (h : Heap) (Q : St → Heap → Prop) : Prop :=
  0 ≤ (7 : Int) ∧ (7 : Int) < ((s.x_b.n : Nat) : Int) ∧
  ptrE s.x_b.p fun a1 =>
  ∃ v2 : Int, hcell h (Addr.add a1 (Int.toNat (7 : Int) * 1)) = some (.int .u8 v2) ∧
  Q s h

def r2 (s : St) (h : Heap) (Q : St → Heap → Prop) : Prop :=
  0 ≤ (0 : Int) ∧ (0 : Int) < ((s.x_b.n : Nat) : Int) ∧
  ptrE s.x_b.p fun a1 =>
  ∃ v2 : Int, hcell h (Addr.add a1 (Int.toNat (0 : Int) * 1)) = some (.int .u8 v2) ∧
  0 ≤ (1 : Int) ∧ (1 : Int) < ((s.x_b.n : Nat) : Int) ∧
  ptrE s.x_b.p fun a3 =>
  ∃ v4 : Int, hcell h (Addr.add a3 (Int.toNat (1 : Int) * 1)) = some (.int .u8 v4) ∧
  0 ≤ (2 : Int) ∧ (2 : Int) < ((s.x_b.n : Nat) : Int) ∧
  ptrE s.x_b.p fun a5 =>
  ∃ v6 : Int, hcell h (Addr.add a5 (Int.toNat (2 : Int) * 1)) = some (.int .u8 v6) ∧
  0 ≤ (3 : Int) ∧ (3 : Int) < ((s.x_b.n : Nat) : Int) ∧
  ptrE s.x_b.p fun a7 =>
  ∃ v8 : Int, hcell h (Addr.add a7 (Int.toNat (3 : Int) * 1)) = some (.int .u8 v8) ∧
  0 ≤ (4 : Int) ∧ (4 : Int) < ((s.x_b.n : Nat) : Int) ∧
  ptrE s.x_b.p fun a9 =>
  ∃ v10 : Int, hcell h (Addr.add a9 (Int.toNat (4 : Int) * 1)) = some (.int .u8 v10) ∧
  0 ≤ (5 : Int) ∧ (5 : Int) < ((s.x_b.n : Nat) : Int) ∧
  ptrE s.x_b.p fun a11 =>
  ∃ v12 : Int, hcell h (Addr.add a11 (Int.toNat (5 : Int) * 1)) = some (.int .u8 v12) ∧
  0 ≤ (6 : Int) ∧ (6 : Int) < ((s.x_b.n : Nat) : Int) ∧
  ptrE s.x_b.p fun a13 =>
  ∃ v14 : Int, hcell h (Addr.add a13 (Int.toNat (6 : Int) * 1)) = some (.int .u8 v14) ∧
  0 ≤ (7 : Int) ∧ (7 : Int) < ((s.x_b.n : Nat) : Int) ∧
  ptrE s.x_b.p fun a15 =>
  ∃ v16 : Int, hcell h (Addr.add a15 (Int.toNat (7 : Int) * 1)) = some (.int .u8 v16) ∧
  Q { s with t4 := (bOr .u64 (bOr .u64 (bOr .u64 (bOr .u64 (bOr .u64 (bOr .u64 (bOr .u64 (IntKind.wrap .u64 v2) (IntKind.wrap .u64 ((IntKind.wrap .u64 v4) * 2 ^ (8 : Nat)))) (IntKind.wrap .u64 ((IntKind.wrap .u64 v6) * 2 ^ (16 : Nat)))) (IntKind.wrap .u64 ((IntKind.wrap .u64 v8) * 2 ^ (24 : Nat)))) (IntKind.wrap .u64 ((IntKind.wrap .u64 v10) * 2 ^ (32 : Nat)))) (IntKind.wrap .u64 ((IntKind.wrap .u64 v12) * 2 ^ (40 : Nat)))) (IntKind.wrap .u64 ((IntKind.wrap .u64 v14) * 2 ^ (48 : Nat)))) (IntKind.wrap .u64 ((IntKind.wrap .u64 v16) * 2 ^ (56 : Nat)))) } h

def stm : Stm St :=
  (.seq (.reg r0)
  (.seq (.reg r1)
  (.seq (.reg r2)
  .ret)))

def ex : Ex → Pt St := fun _ => p0

set_option maxRecDepth 100000 in
theorem sim : Sim Pg 54 p1 (Tryd.f14.body.getD .skip) stm p0 ex :=
  (Sim.seq (Sim.reg (A := p1) (B := p2) (fun _ _ _ => by kernel_rfl))
  (Sim.seq (Sim.reg (A := p2) (B := p2) (fun _ _ _ => by kernel_rfl))
  (Sim.seq (Sim.reg (A := p2) (B := p0) (fun _ _ _ => by kernel_rfl))
  (Sim.ret (A := p0) (E := ex) (fun _ => ⟨rfl, trivial⟩)))))

def init (x_b : Sl) : St := { x_b := x_b, t4 := 0 }

/-- What is left of the results. -/
def res (K : Int → Heap → Prop) (s : St) (h1 : Heap) : Prop := K s.t4 h1

/-- The call of '(encoding/binary.littleEndian).Uint64'. -/
theorem calls (x_b : Sl) (h : Heap) (K : Int → Heap → Prop)
    (H : stm (init x_b) h (endK (res K))) : c_littleEndian_Uint64 x_b h K := by
  have hc : CallsH Pg 14 #[(.agg #[]), (.slice x_b.p x_b.n x_b.c)] h fun v h1 => asI .u64 v fun n1 => K n1 h1 :=
    callsH_of_sim (R := p0) (fn := Tryd.f14) (c := Tryd.f14.body.getD .skip) Tryd.func14 rfl Tryd.ntmps14 Tryd.call14 sim (init x_b) (⟨rfl, rfl, trivial⟩) (Nat.le_of_ble_eq_true rfl) (fun _ => ⟨rfl, trivial⟩) rfl
      (res K) (fun _ _ => by kernel_rfl) H
  refine hc.mono ?_
  intro v hp H
  obtain ⟨n1, rfl, h1⟩ := asI_elim H
  exact ⟨_, rfl, h1⟩

end M_littleEndian_Uint64

namespace M_Load32

structure St where
  x_b : Sl
  x_i : Int
  t4 : Int

def p0 : Pt St where
  env s := [(4, (.int .u32 s.t4))]
  fin e s K := getV e 4 fun v1 => asI .u32 v1 fun n1 => K { s with t4 := n1 }
  ok := by
    intro e s K h0
    obtain ⟨w1, g1, h1⟩ := getV_elim h0
    obtain ⟨n1, rfl, h2⟩ := asI_elim h1
    exact ⟨_, ⟨g1, trivial⟩, h2⟩

def p1 : Pt St where
  env s := [(0, (.slice s.x_b.p s.x_b.n s.x_b.c)), (1, (.int .i64 s.x_i))]
  fin e s K := getV e 0 fun v1 => asS v1 fun p1 n1 c1 => getV e 1 fun v2 => asI .i64 v2 fun n2 => K { s with x_b := ⟨p1, n1, c1⟩, x_i := n2 }
  ok := by
    intro e s K h0
    obtain ⟨w1, g1, h1⟩ := getV_elim h0
    obtain ⟨p1, n1, c1, rfl, h2⟩ := asS_elim h1
    obtain ⟨w2, g2, h3⟩ := getV_elim h2
    obtain ⟨n2, rfl, h4⟩ := asI_elim h3
    exact ⟨_, ⟨g1, g2, trivial⟩, h4⟩

def r0 (s : St) (h : Heap) (Q : St → Heap → Prop) : Prop :=
  Q s h

def r1 (s : St) (h : Heap) (Q : St → Heap → Prop) : Prop :=
  0 ≤ s.x_i ∧ s.x_i ≤ ((s.x_b.n : Nat) : Int) ∧
  c_littleEndian_Uint32 ⟨(subP s.x_b.p (Int.toNat s.x_i) s.x_b.c 1), (s.x_b.n - (Int.toNat s.x_i)), (s.x_b.c - (Int.toNat s.x_i))⟩ h fun r2 h1 =>
  Q { s with t4 := r2 } h1

def stm : Stm St :=
  (.seq (.reg r0)
  (.seq (.reg r1)
  .ret))

def ex : Ex → Pt St := fun _ => p0

set_option maxRecDepth 100000 in
theorem sim : Sim Pg 10 p1 (Tryd.f11.body.getD .skip) stm p0 ex :=
  (Sim.seq (Sim.reg (A := p1) (B := p1) (fun _ _ _ => by kernel_rfl))
  (Sim.seq (Sim.reg (A := p1) (B := p0) (fun _ _ _ => by kernel_rfl))
  (Sim.ret (A := p0) (E := ex) (fun _ => ⟨rfl, trivial⟩))))

def init (x_b : Sl) (x_i : Int) : St := { x_b := x_b, x_i := x_i, t4 := 0 }

/-- What is left of the results. -/
def res (K : Int → Heap → Prop) (s : St) (h1 : Heap) : Prop := K s.t4 h1

/-- The call of 'pub-pemmican/pub/compress/inner/le.Load32[int]'. -/
theorem calls (x_b : Sl) (x_i : Int) (h : Heap) (K : Int → Heap → Prop)
    (H : stm (init x_b x_i) h (endK (res K))) : c_Load32 x_b x_i h K := by
  have hc : CallsH Pg 11 #[(.slice x_b.p x_b.n x_b.c), (.int .i64 x_i)] h fun v h1 => asI .u32 v fun n1 => K n1 h1 :=
    callsH_of_sim (R := p0) (fn := Tryd.f11) (c := Tryd.f11.body.getD .skip) Tryd.func11 rfl Tryd.ntmps11 Tryd.call11 sim (init x_b x_i) (⟨rfl, rfl, trivial⟩) (Nat.le_of_ble_eq_true rfl) (fun _ => ⟨rfl, trivial⟩) rfl
      (res K) (fun _ _ => by kernel_rfl) H
  refine hc.mono ?_
  intro v hp H
  obtain ⟨n1, rfl, h1⟩ := asI_elim H
  exact ⟨_, rfl, h1⟩

end M_Load32

namespace M_Load64

structure St where
  x_b : Sl
  x_i : Int
  t4 : Int

def p0 : Pt St where
  env s := [(4, (.int .u64 s.t4))]
  fin e s K := getV e 4 fun v1 => asI .u64 v1 fun n1 => K { s with t4 := n1 }
  ok := by
    intro e s K h0
    obtain ⟨w1, g1, h1⟩ := getV_elim h0
    obtain ⟨n1, rfl, h2⟩ := asI_elim h1
    exact ⟨_, ⟨g1, trivial⟩, h2⟩

def p1 : Pt St where
  env s := [(0, (.slice s.x_b.p s.x_b.n s.x_b.c)), (1, (.int .i64 s.x_i))]
  fin e s K := getV e 0 fun v1 => asS v1 fun p1 n1 c1 => getV e 1 fun v2 => asI .i64 v2 fun n2 => K { s with x_b := ⟨p1, n1, c1⟩, x_i := n2 }
  ok := by
    intro e s K h0
    obtain ⟨w1, g1, h1⟩ := getV_elim h0
    obtain ⟨p1, n1, c1, rfl, h2⟩ := asS_elim h1
    obtain ⟨w2, g2, h3⟩ := getV_elim h2
    obtain ⟨n2, rfl, h4⟩ := asI_elim h3
    exact ⟨_, ⟨g1, g2, trivial⟩, h4⟩

def r0 (s : St) (h : Heap) (Q : St → Heap → Prop) : Prop :=
  Q s h

def r1 (s : St) (h : Heap) (Q : St → Heap → Prop) : Prop :=
  0 ≤ s.x_i ∧ s.x_i ≤ ((s.x_b.n : Nat) : Int) ∧
  c_littleEndian_Uint64 ⟨(subP s.x_b.p (Int.toNat s.x_i) s.x_b.c 1), (s.x_b.n - (Int.toNat s.x_i)), (s.x_b.c - (Int.toNat s.x_i))⟩ h fun r2 h1 =>
  Q { s with t4 := r2 } h1

def stm : Stm St :=
  (.seq (.reg r0)
  (.seq (.reg r1)
  .ret))

def ex : Ex → Pt St := fun _ => p0

set_option maxRecDepth 100000 in
theorem sim : Sim Pg 10 p1 (Tryd.f12.body.getD .skip) stm p0 ex :=
  (Sim.seq (Sim.reg (A := p1) (B := p1) (fun _ _ _ => by kernel_rfl))
  (Sim.seq (Sim.reg (A := p1) (B := p0) (fun _ _ _ => by kernel_rfl))
  (Sim.ret (A := p0) (E := ex) (fun _ => ⟨rfl, trivial⟩))))

def init (x_b : Sl) (x_i : Int) : St := { x_b := x_b, x_i := x_i, t4 := 0 }

/-- What is left of the results. -/
def res (K : Int → Heap → Prop) (s : St) (h1 : Heap) : Prop := K s.t4 h1

/-- The call of 'pub-pemmican/pub/compress/inner/le.Load64[int]'. -/
theorem calls (x_b : Sl) (x_i : Int) (h : Heap) (K : Int → Heap → Prop)
    (H : stm (init x_b x_i) h (endK (res K))) : c_Load64 x_b x_i h K := by
  have hc : CallsH Pg 12 #[(.slice x_b.p x_b.n x_b.c), (.int .i64 x_i)] h fun v h1 => asI .u64 v fun n1 => K n1 h1 :=
    callsH_of_sim (R := p0) (fn := Tryd.f12) (c := Tryd.f12.body.getD .skip) Tryd.func12 rfl Tryd.ntmps12 Tryd.call12 sim (init x_b x_i) (⟨rfl, rfl, trivial⟩) (Nat.le_of_ble_eq_true rfl) (fun _ => ⟨rfl, trivial⟩) rfl
      (res K) (fun _ _ => by kernel_rfl) H
  refine hc.mono ?_
  intro v hp H
  obtain ⟨n1, rfl, h1⟩ := asI_elim H
  exact ⟨_, rfl, h1⟩

end M_Load64

namespace M_load32

structure St where
  x_b : Sl
  x_i : Int
  t4 : Int

def p0 : Pt St where
  env s := [(4, (.int .u32 s.t4))]
  fin e s K := getV e 4 fun v1 => asI .u32 v1 fun n1 => K { s with t4 := n1 }
  ok := by
    intro e s K h0
    obtain ⟨w1, g1, h1⟩ := getV_elim h0
    obtain ⟨n1, rfl, h2⟩ := asI_elim h1
    exact ⟨_, ⟨g1, trivial⟩, h2⟩

def p1 : Pt St where
  env s := [(0, (.slice s.x_b.p s.x_b.n s.x_b.c)), (1, (.int .i64 s.x_i))]
  fin e s K := getV e 0 fun v1 => asS v1 fun p1 n1 c1 => getV e 1 fun v2 => asI .i64 v2 fun n2 => K { s with x_b := ⟨p1, n1, c1⟩, x_i := n2 }
  ok := by
    intro e s K h0
    obtain ⟨w1, g1, h1⟩ := getV_elim h0
    obtain ⟨p1, n1, c1, rfl, h2⟩ := asS_elim h1
    obtain ⟨w2, g2, h3⟩ := getV_elim h2
    obtain ⟨n2, rfl, h4⟩ := asI_elim h3
    exact ⟨_, ⟨g1, g2, trivial⟩, h4⟩

def r0 (s : St) (h : Heap) (Q : St → Heap → Prop) : Prop :=
  Q s h

def r1 (s : St) (h : Heap) (Q : St → Heap → Prop) : Prop :=
  c_Load32 s.x_b s.x_i h fun r2 h1 =>
  Q { s with t4 := r2 } h1

def stm : Stm St :=
  (.seq (.reg r0)
  (.seq (.reg r1)
  .ret))

def ex : Ex → Pt St := fun _ => p0

set_option maxRecDepth 100000 in
theorem sim : Sim Pg 8 p1 (Tryd.f7.body.getD .skip) stm p0 ex :=
  (Sim.seq (Sim.reg (A := p1) (B := p1) (fun _ _ _ => by kernel_rfl))
  (Sim.seq (Sim.reg (A := p1) (B := p0) (fun _ _ _ => by kernel_rfl))
  (Sim.ret (A := p0) (E := ex) (fun _ => ⟨rfl, trivial⟩))))

def init (x_b : Sl) (x_i : Int) : St := { x_b := x_b, x_i := x_i, t4 := 0 }

/-- What is left of the results. -/
def res (K : Int → Heap → Prop) (s : St) (h1 : Heap) : Prop := K s.t4 h1

/-- The call of 'pub-pemmican/pub/compress/s2.load32'. -/
theorem calls (x_b : Sl) (x_i : Int) (h : Heap) (K : Int → Heap → Prop)
    (H : stm (init x_b x_i) h (endK (res K))) : c_load32 x_b x_i h K := by
  have hc : CallsH Pg 7 #[(.slice x_b.p x_b.n x_b.c), (.int .i64 x_i)] h fun v h1 => asI .u32 v fun n1 => K n1 h1 :=
    callsH_of_sim (R := p0) (fn := Tryd.f7) (c := Tryd.f7.body.getD .skip) Tryd.func7 rfl Tryd.ntmps7 Tryd.call7 sim (init x_b x_i) (⟨rfl, rfl, trivial⟩) (Nat.le_of_ble_eq_true rfl) (fun _ => ⟨rfl, trivial⟩) rfl
      (res K) (fun _ _ => by kernel_rfl) H
  refine hc.mono ?_
  intro v hp H
  obtain ⟨n1, rfl, h1⟩ := asI_elim H
  exact ⟨_, rfl, h1⟩

end M_load32

namespace M_load64

structure St where
  x_b : Sl
  x_i : Int
  t4 : Int

def p0 : Pt St where
  env s := [(4, (.int .u64 s.t4))]
  fin e s K := getV e 4 fun v1 => asI .u64 v1 fun n1 => K { s with t4 := n1 }
  ok := by
    intro e s K h0
    obtain ⟨w1, g1, h1⟩ := getV_elim h0
    obtain ⟨n1, rfl, h2⟩ := asI_elim h1
    exact ⟨_, ⟨g1, trivial⟩, h2⟩

def p1 : Pt St where
  env s := [(0, (.slice s.x_b.p s.x_b.n s.x_b.c)), (1, (.int .i64 s.x_i))]
  fin e s K := getV e 0 fun v1 => asS v1 fun p1 n1 c1 => getV e 1 fun v2 => asI .i64 v2 fun n2 => K { s with x_b := ⟨p1, n1, c1⟩, x_i := n2 }
  ok := by
    intro e s K h0
    obtain ⟨w1, g1, h1⟩ := getV_elim h0
    obtain ⟨p1, n1, c1, rfl, h2⟩ := asS_elim h1
    obtain ⟨w2, g2, h3⟩ := getV_elim h2
    obtain ⟨n2, rfl, h4⟩ := asI_elim h3
    exact ⟨_, ⟨g1, g2, trivial⟩, h4⟩

def r0 (s : St) (h : Heap) (Q : St → Heap → Prop) : Prop :=
  Q s h

def r1 (s : St) (h : Heap) (Q : St → Heap → Prop) : Prop :=
  c_Load64 s.x_b s.x_i h fun r2 h1 =>
  Q { s with t4 := r2 } h1

def stm : Stm St :=
  (.seq (.reg r0)
  (.seq (.reg r1)
  .ret))

def ex : Ex → Pt St := fun _ => p0

set_option maxRecDepth 100000 in
theorem sim : Sim Pg 8 p1 (Tryd.f9.body.getD .skip) stm p0 ex :=
  (Sim.seq (Sim.reg (A := p1) (B := p1) (fun _ _ _ => by kernel_rfl))
  (Sim.seq (Sim.reg (A := p1) (B := p0) (fun _ _ _ => by kernel_rfl))
  (Sim.ret (A := p0) (E := ex) (fun _ => ⟨rfl, trivial⟩))))

def init (x_b : Sl) (x_i : Int) : St := { x_b := x_b, x_i := x_i, t4 := 0 }

/-- What is left of the results. -/
def res (K : Int → Heap → Prop) (s : St) (h1 : Heap) : Prop := K s.t4 h1

/-- The call of 'pub-pemmican/pub/compress/s2.load64'. -/
theorem calls (x_b : Sl) (x_i : Int) (h : Heap) (K : Int → Heap → Prop)
    (H : stm (init x_b x_i) h (endK (res K))) : c_load64 x_b x_i h K := by
  have hc : CallsH Pg 9 #[(.slice x_b.p x_b.n x_b.c), (.int .i64 x_i)] h fun v h1 => asI .u64 v fun n1 => K n1 h1 :=
    callsH_of_sim (R := p0) (fn := Tryd.f9) (c := Tryd.f9.body.getD .skip) Tryd.func9 rfl Tryd.ntmps9 Tryd.call9 sim (init x_b x_i) (⟨rfl, rfl, trivial⟩) (Nat.le_of_ble_eq_true rfl) (fun _ => ⟨rfl, trivial⟩) rfl
      (res K) (fun _ _ => by kernel_rfl) H
  refine hc.mono ?_
  intro v hp H
  obtain ⟨n1, rfl, h1⟩ := asI_elim H
  exact ⟨_, rfl, h1⟩

end M_load64

namespace M_TrailingZeros32

structure St where
  x_x : Int
  t2 : Int

def p0 : Pt St where
  env s := [(2, (.int .i64 s.t2))]
  fin e s K := getV e 2 fun v1 => asI .i64 v1 fun n1 => K { s with t2 := n1 }
  ok := by
    intro e s K h0
    obtain ⟨w1, g1, h1⟩ := getV_elim h0
    obtain ⟨n1, rfl, h2⟩ := asI_elim h1
    exact ⟨_, ⟨g1, trivial⟩, h2⟩

def p1 : Pt St where
  env s := [(0, (.int .u32 s.x_x))]
  fin e s K := getV e 0 fun v1 => asI .u32 v1 fun n1 => K { s with x_x := n1 }
  ok := by
    intro e s K h0
    obtain ⟨w1, g1, h1⟩ := getV_elim h0
    obtain ⟨n1, rfl, h2⟩ := asI_elim h1
    exact ⟨_, ⟨g1, trivial⟩, h2⟩

def r0 (s : St) (h : Heap) (Q : St → Heap → Prop) : Prop :=
  Q s h

def r1 (s : St) (h : Heap) (Q : Bool → St → Heap → Prop) : Prop :=
  Q (s.x_x == (0 : Int)) s h

def r2 (s : St) (h : Heap) (Q : St → Heap → Prop) : Prop :=
  Q { s with t2 := (32 : Int) } h

def r3 (s : St) (h : Heap) (Q : St → Heap → Prop) : Prop :=
  0 ≤ (Int.fdiv (IntKind.wrap .u32 ((bAnd .u32 s.x_x (IntKind.wrap .u32 (0 - s.x_x))) * (125613361 : Int))) (2 ^ (27 : Nat))) ∧ (Int.fdiv (IntKind.wrap .u32 ((bAnd .u32 s.x_x (IntKind.wrap .u32 (0 - s.x_x))) * (125613361 : Int))) (2 ^ (27 : Nat))) < ((32 : Nat) : Int) ∧
  ∃ v1 : Int, hcell h (Addr.add ⟨0, 0, none⟩ (Int.toNat (Int.fdiv (IntKind.wrap .u32 ((bAnd .u32 s.x_x (IntKind.wrap .u32 (0 - s.x_x))) * (125613361 : Int))) (2 ^ (27 : Nat))) * 1)) = some (.int .u8 v1) ∧
  Q { s with t2 := (IntKind.wrap .i64 v1) } h

def stm : Stm St :=
  (.seq (.reg r0)
  (.seq (.test r1 (.seq (.reg r2)
  .ret)
  .skip)
  (.seq (.reg r3)
  .ret)))

def ex : Ex → Pt St := fun _ => p0

set_option maxRecDepth 100000 in
theorem sim : Sim Pg 14 p1 (Tryd.f8.body.getD .skip) stm p0 ex :=
  (Sim.seq (Sim.reg (A := p1) (B := p1) (fun _ _ _ => by kernel_rfl))
  (Sim.seq (Sim.test (A := p1) (B := p1) (fun _ _ _ => by kernel_rfl) (Sim.seq (Sim.reg (A := p1) (B := p0) (fun _ _ _ => by kernel_rfl))
  (Sim.ret (A := p0) (E := ex) (fun _ => ⟨rfl, trivial⟩)))
  (Sim.skip (A := p1)))
  (Sim.seq (Sim.reg (A := p1) (B := p0) (fun _ _ _ => by kernel_rfl))
  (Sim.ret (A := p0) (E := ex) (fun _ => ⟨rfl, trivial⟩)))))

def init (x_x : Int) : St := { x_x := x_x, t2 := 0 }

/-- What is left of the results. -/
def res (K : Int → Heap → Prop) (s : St) (h1 : Heap) : Prop := K s.t2 h1

/-- The call of 'math/bits.TrailingZeros32'. -/
theorem calls (x_x : Int) (h : Heap) (K : Int → Heap → Prop)
    (H : stm (init x_x) h (endK (res K))) : c_TrailingZeros32 x_x h K := by
  have hc : CallsH Pg 8 #[(.int .u32 x_x)] h fun v h1 => asI .i64 v fun n1 => K n1 h1 :=
    callsH_of_sim (R := p0) (fn := Tryd.f8) (c := Tryd.f8.body.getD .skip) Tryd.func8 rfl Tryd.ntmps8 Tryd.call8 sim (init x_x) (⟨rfl, trivial⟩) (Nat.le_of_ble_eq_true rfl) (fun _ => ⟨rfl, trivial⟩) rfl
      (res K) (fun _ _ => by kernel_rfl) H
  refine hc.mono ?_
  intro v hp H
  obtain ⟨n1, rfl, h1⟩ := asI_elim H
  exact ⟨_, rfl, h1⟩

end M_TrailingZeros32

namespace M_TrailingZeros64

structure St where
  x_x : Int
  t2 : Int

def p0 : Pt St where
  env s := [(2, (.int .i64 s.t2))]
  fin e s K := getV e 2 fun v1 => asI .i64 v1 fun n1 => K { s with t2 := n1 }
  ok := by
    intro e s K h0
    obtain ⟨w1, g1, h1⟩ := getV_elim h0
    obtain ⟨n1, rfl, h2⟩ := asI_elim h1
    exact ⟨_, ⟨g1, trivial⟩, h2⟩

def p1 : Pt St where
  env s := [(0, (.int .u64 s.x_x))]
  fin e s K := getV e 0 fun v1 => asI .u64 v1 fun n1 => K { s with x_x := n1 }
  ok := by
    intro e s K h0
    obtain ⟨w1, g1, h1⟩ := getV_elim h0
    obtain ⟨n1, rfl, h2⟩ := asI_elim h1
    exact ⟨_, ⟨g1, trivial⟩, h2⟩

def r0 (s : St) (h : Heap) (Q : St → Heap → Prop) : Prop :=
  Q s h

def r1 (s : St) (h : Heap) (Q : Bool → St → Heap → Prop) : Prop :=
  Q (s.x_x == (0 : Int)) s h

def r2 (s : St) (h : Heap) (Q : St → Heap → Prop) : Prop :=
  Q { s with t2 := (64 : Int) } h

def r3 (s : St) (h : Heap) (Q : St → Heap → Prop) : Prop :=
  0 ≤ (Int.fdiv (IntKind.wrap .u64 ((bAnd .u64 s.x_x (IntKind.wrap .u64 (0 - s.x_x))) * (285870213051353865 : Int))) (2 ^ (58 : Nat))) ∧ (Int.fdiv (IntKind.wrap .u64 ((bAnd .u64 s.x_x (IntKind.wrap .u64 (0 - s.x_x))) * (285870213051353865 : Int))) (2 ^ (58 : Nat))) < ((64 : Nat) : Int) ∧
  ∃ v1 : Int, hcell h (Addr.add ⟨1, 0, none⟩ (Int.toNat (Int.fdiv (IntKind.wrap .u64 ((bAnd .u64 s.x_x (IntKind.wrap .u64 (0 - s.x_x))) * (285870213051353865 : Int))) (2 ^ (58 : Nat))) * 1)) = some (.int .u8 v1) ∧
  Q { s with t2 := (IntKind.wrap .i64 v1) } h

def stm : Stm St :=
  (.seq (.reg r0)
  (.seq (.test r1 (.seq (.reg r2)
  .ret)
  .skip)
  (.seq (.reg r3)
  .ret)))

def ex : Ex → Pt St := fun _ => p0

set_option maxRecDepth 100000 in
theorem sim : Sim Pg 14 p1 (Tryd.f10.body.getD .skip) stm p0 ex :=
  (Sim.seq (Sim.reg (A := p1) (B := p1) (fun _ _ _ => by kernel_rfl))
  (Sim.seq (Sim.test (A := p1) (B := p1) (fun _ _ _ => by kernel_rfl) (Sim.seq (Sim.reg (A := p1) (B := p0) (fun _ _ _ => by kernel_rfl))
  (Sim.ret (A := p0) (E := ex) (fun _ => ⟨rfl, trivial⟩)))
  (Sim.skip (A := p1)))
  (Sim.seq (Sim.reg (A := p1) (B := p0) (fun _ _ _ => by kernel_rfl))
  (Sim.ret (A := p0) (E := ex) (fun _ => ⟨rfl, trivial⟩)))))

def init (x_x : Int) : St := { x_x := x_x, t2 := 0 }

/-- What is left of the results. -/
def res (K : Int → Heap → Prop) (s : St) (h1 : Heap) : Prop := K s.t2 h1

/-- The call of 'math/bits.TrailingZeros64'. -/
theorem calls (x_x : Int) (h : Heap) (K : Int → Heap → Prop)
    (H : stm (init x_x) h (endK (res K))) : c_TrailingZeros64 x_x h K := by
  have hc : CallsH Pg 10 #[(.int .u64 x_x)] h fun v h1 => asI .i64 v fun n1 => K n1 h1 :=
    callsH_of_sim (R := p0) (fn := Tryd.f10) (c := Tryd.f10.body.getD .skip) Tryd.func10 rfl Tryd.ntmps10 Tryd.call10 sim (init x_x) (⟨rfl, trivial⟩) (Nat.le_of_ble_eq_true rfl) (fun _ => ⟨rfl, trivial⟩) rfl
      (res K) (fun _ _ => by kernel_rfl) H
  refine hc.mono ?_
  intro v hp H
  obtain ⟨n1, rfl, h1⟩ := asI_elim H
  exact ⟨_, rfl, h1⟩

end M_TrailingZeros64

namespace M_matchLen

structure St where
  x_a : Sl
  x_b : Sl
  t4 : Int
  x_checked : Int
  x_diff : Int
  x_diffq7 : Int
  x_i : Int
  t60 : Int
  t61 : Int
  t62 : Bool

def p0 : Pt St where
  env s := [(4, (.int .i64 s.t4))]
  fin e s K := getV e 4 fun v1 => asI .i64 v1 fun n1 => K { s with t4 := n1 }
  ok := by
    intro e s K h0
    obtain ⟨w1, g1, h1⟩ := getV_elim h0
    obtain ⟨n1, rfl, h2⟩ := asI_elim h1
    exact ⟨_, ⟨g1, trivial⟩, h2⟩

def p1 : Pt St where
  env s := [(0, (.slice s.x_a.p s.x_a.n s.x_a.c)), (1, (.slice s.x_b.p s.x_b.n s.x_b.c))]
  fin e s K := getV e 0 fun v1 => asS v1 fun p1 n1 c1 => getV e 1 fun v2 => asS v2 fun p2 n2 c2 => K { s with x_a := ⟨p1, n1, c1⟩, x_b := ⟨p2, n2, c2⟩ }
  ok := by
    intro e s K h0
    obtain ⟨w1, g1, h1⟩ := getV_elim h0
    obtain ⟨p1, n1, c1, rfl, h2⟩ := asS_elim h1
    obtain ⟨w2, g2, h3⟩ := getV_elim h2
    obtain ⟨p2, n2, c2, rfl, h4⟩ := asS_elim h3
    exact ⟨_, ⟨g1, g2, trivial⟩, h4⟩

def p2 : Pt St where
  env s := [(0, (.slice s.x_a.p s.x_a.n s.x_a.c)), (1, (.slice s.x_b.p s.x_b.n s.x_b.c)), (5, (.int .i64 s.x_checked))]
  fin e s K := getV e 0 fun v1 => asS v1 fun p1 n1 c1 => getV e 1 fun v2 => asS v2 fun p2 n2 c2 => getV e 5 fun v3 => asI .i64 v3 fun n3 => K { s with x_a := ⟨p1, n1, c1⟩, x_b := ⟨p2, n2, c2⟩, x_checked := n3 }
  ok := by
    intro e s K h0
    obtain ⟨w1, g1, h1⟩ := getV_elim h0
    obtain ⟨p1, n1, c1, rfl, h2⟩ := asS_elim h1
    obtain ⟨w2, g2, h3⟩ := getV_elim h2
    obtain ⟨p2, n2, c2, rfl, h4⟩ := asS_elim h3
    obtain ⟨w3, g3, h5⟩ := getV_elim h4
    obtain ⟨n3, rfl, h6⟩ := asI_elim h5
    exact ⟨_, ⟨g1, g2, g3, trivial⟩, h6⟩

def p3 : Pt St where
  env s := [(0, (.slice s.x_a.p s.x_a.n s.x_a.c)), (1, (.slice s.x_b.p s.x_b.n s.x_b.c)), (6, (.int .u32 s.x_diff))]
  fin e s K := getV e 0 fun v1 => asS v1 fun p1 n1 c1 => getV e 1 fun v2 => asS v2 fun p2 n2 c2 => getV e 6 fun v3 => asI .u32 v3 fun n3 => K { s with x_a := ⟨p1, n1, c1⟩, x_b := ⟨p2, n2, c2⟩, x_diff := n3 }
  ok := by
    intro e s K h0
    obtain ⟨w1, g1, h1⟩ := getV_elim h0
    obtain ⟨p1, n1, c1, rfl, h2⟩ := asS_elim h1
    obtain ⟨w2, g2, h3⟩ := getV_elim h2
    obtain ⟨p2, n2, c2, rfl, h4⟩ := asS_elim h3
    obtain ⟨w3, g3, h5⟩ := getV_elim h4
    obtain ⟨n3, rfl, h6⟩ := asI_elim h5
    exact ⟨_, ⟨g1, g2, g3, trivial⟩, h6⟩

def p4 : Pt St where
  env s := [(0, (.slice s.x_a.p s.x_a.n s.x_a.c)), (1, (.slice s.x_b.p s.x_b.n s.x_b.c)), (5, (.int .i64 s.x_checked)), (7, (.int .u64 s.x_diffq7))]
  fin e s K := getV e 0 fun v1 => asS v1 fun p1 n1 c1 => getV e 1 fun v2 => asS v2 fun p2 n2 c2 => getV e 5 fun v3 => asI .i64 v3 fun n3 => getV e 7 fun v4 => asI .u64 v4 fun n4 => K { s with x_a := ⟨p1, n1, c1⟩, x_b := ⟨p2, n2, c2⟩, x_checked := n3, x_diffq7 := n4 }
  ok := by
    intro e s K h0
    obtain ⟨w1, g1, h1⟩ := getV_elim h0
    obtain ⟨p1, n1, c1, rfl, h2⟩ := asS_elim h1
    obtain ⟨w2, g2, h3⟩ := getV_elim h2
    obtain ⟨p2, n2, c2, rfl, h4⟩ := asS_elim h3
    obtain ⟨w3, g3, h5⟩ := getV_elim h4
    obtain ⟨n3, rfl, h6⟩ := asI_elim h5
    obtain ⟨w4, g4, h7⟩ := getV_elim h6
    obtain ⟨n4, rfl, h8⟩ := asI_elim h7
    exact ⟨_, ⟨g1, g2, g3, g4, trivial⟩, h8⟩

def p5 : Pt St where
  env s := [(0, (.slice s.x_a.p s.x_a.n s.x_a.c)), (1, (.slice s.x_b.p s.x_b.n s.x_b.c)), (5, (.int .i64 s.x_checked)), (60, (.int .i64 s.t60)), (61, (.int .i64 s.t61))]
  fin e s K := getV e 0 fun v1 => asS v1 fun p1 n1 c1 => getV e 1 fun v2 => asS v2 fun p2 n2 c2 => getV e 5 fun v3 => asI .i64 v3 fun n3 => getV e 60 fun v4 => asI .i64 v4 fun n4 => getV e 61 fun v5 => asI .i64 v5 fun n5 => K { s with x_a := ⟨p1, n1, c1⟩, x_b := ⟨p2, n2, c2⟩, x_checked := n3, t60 := n4, t61 := n5 }
  ok := by
    intro e s K h0
    obtain ⟨w1, g1, h1⟩ := getV_elim h0
    obtain ⟨p1, n1, c1, rfl, h2⟩ := asS_elim h1
    obtain ⟨w2, g2, h3⟩ := getV_elim h2
    obtain ⟨p2, n2, c2, rfl, h4⟩ := asS_elim h3
    obtain ⟨w3, g3, h5⟩ := getV_elim h4
    obtain ⟨n3, rfl, h6⟩ := asI_elim h5
    obtain ⟨w4, g4, h7⟩ := getV_elim h6
    obtain ⟨n4, rfl, h8⟩ := asI_elim h7
    obtain ⟨w5, g5, h9⟩ := getV_elim h8
    obtain ⟨n5, rfl, h10⟩ := asI_elim h9
    exact ⟨_, ⟨g1, g2, g3, g4, g5, trivial⟩, h10⟩

def p6 : Pt St where
  env s := [(0, (.slice s.x_a.p s.x_a.n s.x_a.c)), (5, (.int .i64 s.x_checked))]
  fin e s K := getV e 0 fun v1 => asS v1 fun p1 n1 c1 => getV e 5 fun v2 => asI .i64 v2 fun n2 => K { s with x_a := ⟨p1, n1, c1⟩, x_checked := n2 }
  ok := by
    intro e s K h0
    obtain ⟨w1, g1, h1⟩ := getV_elim h0
    obtain ⟨p1, n1, c1, rfl, h2⟩ := asS_elim h1
    obtain ⟨w2, g2, h3⟩ := getV_elim h2
    obtain ⟨n2, rfl, h4⟩ := asI_elim h3
    exact ⟨_, ⟨g1, g2, trivial⟩, h4⟩

def p7 : Pt St where
  env s := [(0, (.slice s.x_a.p s.x_a.n s.x_a.c)), (1, (.slice s.x_b.p s.x_b.n s.x_b.c)), (5, (.int .i64 s.x_checked)), (60, (.int .i64 s.t60)), (61, (.int .i64 s.t61)), (62, (.bool s.t62))]
  fin e s K := getV e 0 fun v1 => asS v1 fun p1 n1 c1 => getV e 1 fun v2 => asS v2 fun p2 n2 c2 => getV e 5 fun v3 => asI .i64 v3 fun n3 => getV e 60 fun v4 => asI .i64 v4 fun n4 => getV e 61 fun v5 => asI .i64 v5 fun n5 => getV e 62 fun v6 => asB v6 fun b1 => K { s with x_a := ⟨p1, n1, c1⟩, x_b := ⟨p2, n2, c2⟩, x_checked := n3, t60 := n4, t61 := n5, t62 := b1 }
  ok := by
    intro e s K h0
    obtain ⟨w1, g1, h1⟩ := getV_elim h0
    obtain ⟨p1, n1, c1, rfl, h2⟩ := asS_elim h1
    obtain ⟨w2, g2, h3⟩ := getV_elim h2
    obtain ⟨p2, n2, c2, rfl, h4⟩ := asS_elim h3
    obtain ⟨w3, g3, h5⟩ := getV_elim h4
    obtain ⟨n3, rfl, h6⟩ := asI_elim h5
    obtain ⟨w4, g4, h7⟩ := getV_elim h6
    obtain ⟨n4, rfl, h8⟩ := asI_elim h7
    obtain ⟨w5, g5, h9⟩ := getV_elim h8
    obtain ⟨n5, rfl, h10⟩ := asI_elim h9
    obtain ⟨w6, g6, h11⟩ := getV_elim h10
    obtain ⟨b1, rfl, h12⟩ := asB_elim h11
    exact ⟨_, ⟨g1, g2, g3, g4, g5, g6, trivial⟩, h12⟩

def p8 : Pt St where
  env s := [(0, (.slice s.x_a.p s.x_a.n s.x_a.c)), (1, (.slice s.x_b.p s.x_b.n s.x_b.c)), (5, (.int .i64 s.x_checked)), (8, (.int .i64 s.x_i)), (60, (.int .i64 s.t60)), (61, (.int .i64 s.t61))]
  fin e s K := getV e 0 fun v1 => asS v1 fun p1 n1 c1 => getV e 1 fun v2 => asS v2 fun p2 n2 c2 => getV e 5 fun v3 => asI .i64 v3 fun n3 => getV e 8 fun v4 => asI .i64 v4 fun n4 => getV e 60 fun v5 => asI .i64 v5 fun n5 => getV e 61 fun v6 => asI .i64 v6 fun n6 => K { s with x_a := ⟨p1, n1, c1⟩, x_b := ⟨p2, n2, c2⟩, x_checked := n3, x_i := n4, t60 := n5, t61 := n6 }
  ok := by
    intro e s K h0
    obtain ⟨w1, g1, h1⟩ := getV_elim h0
    obtain ⟨p1, n1, c1, rfl, h2⟩ := asS_elim h1
    obtain ⟨w2, g2, h3⟩ := getV_elim h2
    obtain ⟨p2, n2, c2, rfl, h4⟩ := asS_elim h3
    obtain ⟨w3, g3, h5⟩ := getV_elim h4
    obtain ⟨n3, rfl, h6⟩ := asI_elim h5
    obtain ⟨w4, g4, h7⟩ := getV_elim h6
    obtain ⟨n4, rfl, h8⟩ := asI_elim h7
    obtain ⟨w5, g5, h9⟩ := getV_elim h8
    obtain ⟨n5, rfl, h10⟩ := asI_elim h9
    obtain ⟨w6, g6, h11⟩ := getV_elim h10
    obtain ⟨n6, rfl, h12⟩ := asI_elim h11
    exact ⟨_, ⟨g1, g2, g3, g4, g5, g6, trivial⟩, h12⟩

def r0 (s : St) (h : Heap) (Q : St → Heap → Prop) : Prop :=
  Q s h

def r1 (s : St) (h : Heap) (Q : St → Heap → Prop) : Prop :=
  0 ≤ ((s.x_a.n : Nat) : Int) ∧ ((s.x_a.n : Nat) : Int) ≤ ((s.x_b.c : Nat) : Int) ∧
  Q { s with x_b := ⟨(subP s.x_b.p 0 s.x_b.c 1), ((Int.toNat ((s.x_a.n : Nat) : Int)) - 0), (s.x_b.c - 0)⟩ } h

def r2 (s : St) (h : Heap) (Q : St → Heap → Prop) : Prop :=
  Q { s with x_checked := (0 : Int) } h

def r3 (s : St) (h : Heap) (Q : Bool → St → Heap → Prop) : Prop :=
  Q (decide (((s.x_a.n : Nat) : Int) > (4 : Int))) s h

def r4 (s : St) (h : Heap) (Q : St → Heap → Prop) : Prop :=
  c_load32 s.x_a (0 : Int) h fun r2 h1 =>
  c_load32 s.x_b (0 : Int) h1 fun r4 h3 =>
  Q { s with x_diff := (bXor .u32 r2 r4) } h3

def r5 (s : St) (h : Heap) (Q : Bool → St → Heap → Prop) : Prop :=
  Q (s.x_diff != (0 : Int)) s h

def r6 (s : St) (h : Heap) (Q : St → Heap → Prop) : Prop :=
  c_TrailingZeros32 s.x_diff h fun r2 h1 =>
  Q { s with t4 := (Int.fdiv r2 (2 ^ (3 : Nat))) } h1

def r7 (s : St) (h : Heap) (Q : St → Heap → Prop) : Prop :=
  Q { s with x_checked := (4 : Int) } h

def r8 (s : St) (h : Heap) (Q : St → Heap → Prop) : Prop :=
  0 ≤ (4 : Int) ∧ (4 : Int) ≤ ((s.x_a.n : Nat) : Int) ∧
  Q { s with x_a := ⟨(subP s.x_a.p (Int.toNat (4 : Int)) s.x_a.c 1), (s.x_a.n - (Int.toNat (4 : Int))), (s.x_a.c - (Int.toNat (4 : Int)))⟩ } h

def r9 (s : St) (h : Heap) (Q : St → Heap → Prop) : Prop :=
  0 ≤ (4 : Int) ∧ (4 : Int) ≤ ((s.x_b.n : Nat) : Int) ∧
  Q { s with x_b := ⟨(subP s.x_b.p (Int.toNat (4 : Int)) s.x_b.c 1), (s.x_b.n - (Int.toNat (4 : Int))), (s.x_b.c - (Int.toNat (4 : Int)))⟩ } h

def r10 (s : St) (h : Heap) (Q : Bool → St → Heap → Prop) : Prop :=
  Q (decide (((s.x_a.n : Nat) : Int) ≥ (8 : Int))) s h

def r11 (s : St) (h : Heap) (Q : St → Heap → Prop) : Prop :=
  0 ≤ ((s.x_a.n : Nat) : Int) ∧ ((s.x_a.n : Nat) : Int) ≤ ((s.x_b.c : Nat) : Int) ∧
  Q { s with x_b := ⟨(subP s.x_b.p 0 s.x_b.c 1), ((Int.toNat ((s.x_a.n : Nat) : Int)) - 0), (s.x_b.c - 0)⟩ } h

def r12 (s : St) (h : Heap) (Q : St → Heap → Prop) : Prop :=
  c_load64 s.x_a (0 : Int) h fun r2 h1 =>
  c_load64 s.x_b (0 : Int) h1 fun r4 h3 =>
  Q { s with x_diffq7 := (bXor .u64 r2 r4) } h3

def r13 (s : St) (h : Heap) (Q : Bool → St → Heap → Prop) : Prop :=
  Q (s.x_diffq7 != (0 : Int)) s h

def r14 (s : St) (h : Heap) (Q : St → Heap → Prop) : Prop :=
  c_TrailingZeros64 s.x_diffq7 h fun r2 h1 =>
  Q { s with t4 := (IntKind.wrap .i64 (s.x_checked + (Int.fdiv r2 (2 ^ (3 : Nat))))) } h1

def r15 (s : St) (h : Heap) (Q : St → Heap → Prop) : Prop :=
  Q { s with x_checked := (IntKind.wrap .i64 (s.x_checked + (8 : Int))) } h

def r16 (s : St) (h : Heap) (Q : St → Heap → Prop) : Prop :=
  0 ≤ (8 : Int) ∧ (8 : Int) ≤ ((s.x_a.n : Nat) : Int) ∧
  Q { s with x_a := ⟨(subP s.x_a.p (Int.toNat (8 : Int)) s.x_a.c 1), (s.x_a.n - (Int.toNat (8 : Int))), (s.x_a.c - (Int.toNat (8 : Int)))⟩ } h

def r17 (s : St) (h : Heap) (Q : St → Heap → Prop) : Prop :=
  0 ≤ (8 : Int) ∧ (8 : Int) ≤ ((s.x_b.n : Nat) : Int) ∧
  Q { s with x_b := ⟨(subP s.x_b.p (Int.toNat (8 : Int)) s.x_b.c 1), (s.x_b.n - (Int.toNat (8 : Int))), (s.x_b.c - (Int.toNat (8 : Int)))⟩ } h

def r18 (s : St) (h : Heap) (Q : St → Heap → Prop) : Prop :=
  0 ≤ ((s.x_a.n : Nat) : Int) ∧ ((s.x_a.n : Nat) : Int) ≤ ((s.x_b.c : Nat) : Int) ∧
  Q { s with x_b := ⟨(subP s.x_b.p 0 s.x_b.c 1), ((Int.toNat ((s.x_a.n : Nat) : Int)) - 0), (s.x_b.c - 0)⟩ } h

def r19 (s : St) (h : Heap) (Q : St → Heap → Prop) : Prop :=
  Q { s with t60 := ((s.x_a.n : Nat) : Int), t61 := (0 : Int) } h

def r20 (s : St) (h : Heap) (Q : St → Heap → Prop) : Prop :=
  Q { s with t62 := (decide (s.t61 < s.t60)) } h

def r21 (s : St) (h : Heap) (Q : St → Heap → Prop) : Prop :=
  Q { s with x_i := s.t61 } h

def r22 (s : St) (h : Heap) (Q : Bool → St → Heap → Prop) : Prop :=
  0 ≤ s.x_i ∧ s.x_i < ((s.x_a.n : Nat) : Int) ∧
  ptrE s.x_a.p fun a1 =>
  ∃ v2 : Int, hcell h (Addr.add a1 (Int.toNat s.x_i * 1)) = some (.int .u8 v2) ∧
  0 ≤ s.x_i ∧ s.x_i < ((s.x_b.n : Nat) : Int) ∧
  ptrE s.x_b.p fun a3 =>
  ∃ v4 : Int, hcell h (Addr.add a3 (Int.toNat s.x_i * 1)) = some (.int .u8 v4) ∧
  Q (v2 != v4) s h

def r23 (s : St) (h : Heap) (Q : St → Heap → Prop) : Prop :=
  Q { s with t4 := (IntKind.wrap .i64 (s.x_i + s.x_checked)) } h

def r24 (s : St) (h : Heap) (Q : St → Heap → Prop) : Prop :=
  Q { s with t61 := (IntKind.wrap .i64 (s.t61 + (1 : Int))) } h

def r25 (s : St) (h : Heap) (Q : St → Heap → Prop) : Prop :=
  Q { s with t4 := (IntKind.wrap .i64 (((s.x_a.n : Nat) : Int) + s.x_checked)) } h

def stm : Stm St :=
  (.seq (.reg r0)
  (.seq (.reg r1)
  (.seq (.reg r2)
  (.seq (.test r3 (.seq (.seq (.reg r4)
  (.test r5 (.seq (.reg r6)
  .ret)
  .skip))
  (.seq (.reg r7)
  (.seq (.reg r8)
  (.seq (.reg r9)
  (.block 0 (.loop (.seq (.test r10 .skip
  (.exit 0))
  (.block 1 (.seq (.reg r11)
  (.seq (.seq (.reg r12)
  (.test r13 (.seq (.reg r14)
  .ret)
  .skip))
  (.seq (.reg r15)
  (.seq (.reg r16)
  (.reg r17)))))))))))))
  .skip)
  (.seq (.reg r18)
  (.seq (.seq (.reg r19)
  (.block 2 (.loop (.seq (.reg r20)
  (.seq (.cond (fun s => s.t62) .skip
  (.exit 2))
  (.seq (.block 3 (.seq (.reg r21)
  (.test r22 (.seq (.reg r23)
  .ret)
  .skip)))
  (.reg r24)))))))
  (.seq (.reg r25)
  .ret)))))))

def ex : Ex → Pt St := fun _ => p0

set_option maxRecDepth 100000 in
theorem sim : Sim Pg 81 p1 (Tryd.f6.body.getD .skip) stm p0 ex :=
  (Sim.seq (Sim.reg (A := p1) (B := p1) (fun _ _ _ => by kernel_rfl))
  (Sim.seq (Sim.reg (A := p1) (B := p1) (fun _ _ _ => by kernel_rfl))
  (Sim.seq (Sim.reg (A := p1) (B := p2) (fun _ _ _ => by kernel_rfl))
  (Sim.seq (Sim.test (A := p2) (B := p2) (fun _ _ _ => by kernel_rfl) (Sim.seq (Sim.seq (Sim.reg (A := p2) (B := p3) (fun _ _ _ => by kernel_rfl))
  (Sim.test (A := p3) (B := p3) (fun _ _ _ => by kernel_rfl) (Sim.seq (Sim.reg (A := p3) (B := p0) (fun _ _ _ => by kernel_rfl))
  (Sim.ret (A := p0) (E := ex) (fun _ => ⟨rfl, trivial⟩)))
  (Sim.weak (B := p3) (C := p1) (Sim.skip (A := p3)) (fun _ => ⟨rfl, rfl, trivial⟩))))
  (Sim.seq (Sim.reg (A := p1) (B := p2) (fun _ _ _ => by kernel_rfl))
  (Sim.seq (Sim.reg (A := p2) (B := p2) (fun _ _ _ => by kernel_rfl))
  (Sim.seq (Sim.reg (A := p2) (B := p2) (fun _ _ _ => by kernel_rfl))
  (Sim.block (B := p2) (Sim.loop (A := p2) (Sim.seq (Sim.test (A := p2) (B := p2) (fun _ _ _ => by kernel_rfl) (Sim.skip (A := p2))
  (Sim.exit (A := p2) (fun _ => ⟨rfl, rfl, rfl, trivial⟩)))
  (Sim.block (B := p2) (Sim.seq (Sim.reg (A := p2) (B := p2) (fun _ _ _ => by kernel_rfl))
  (Sim.seq (Sim.seq (Sim.reg (A := p2) (B := p4) (fun _ _ _ => by kernel_rfl))
  (Sim.test (A := p4) (B := p4) (fun _ _ _ => by kernel_rfl) (Sim.seq (Sim.reg (A := p4) (B := p0) (fun _ _ _ => by kernel_rfl))
  (Sim.ret (A := p0) (E := (exAt (exAt ex 0 p2) 1 p2)) (fun _ => ⟨rfl, trivial⟩)))
  (Sim.weak (B := p4) (C := p2) (Sim.skip (A := p4)) (fun _ => ⟨rfl, rfl, rfl, trivial⟩))))
  (Sim.seq (Sim.reg (A := p2) (B := p2) (fun _ _ _ => by kernel_rfl))
  (Sim.seq (Sim.reg (A := p2) (B := p2) (fun _ _ _ => by kernel_rfl))
  (Sim.reg (A := p2) (B := p2) (fun _ _ _ => by kernel_rfl))))))))))))))
  (Sim.skip (A := p2)))
  (Sim.seq (Sim.reg (A := p2) (B := p2) (fun _ _ _ => by kernel_rfl))
  (Sim.seq (Sim.seq (Sim.reg (A := p2) (B := p5) (fun _ _ _ => by kernel_rfl))
  (Sim.block (B := p6) (Sim.loop (A := p5) (Sim.seq (Sim.reg (A := p5) (B := p7) (fun _ _ _ => by kernel_rfl))
  (Sim.seq (Sim.cond (A := p7) (fun s => s.t62) (fun _ => rfl) (Sim.weak (B := p7) (C := p5) (Sim.skip (A := p7)) (fun _ => ⟨rfl, rfl, rfl, rfl, rfl, trivial⟩))
  (Sim.exit (A := p7) (fun _ => ⟨rfl, rfl, trivial⟩)))
  (Sim.seq (Sim.block (B := p5) (Sim.seq (Sim.reg (A := p5) (B := p8) (fun _ _ _ => by kernel_rfl))
  (Sim.test (A := p8) (B := p8) (fun _ _ _ => by kernel_rfl) (Sim.seq (Sim.reg (A := p8) (B := p0) (fun _ _ _ => by kernel_rfl))
  (Sim.ret (A := p0) (E := (exAt (exAt ex 2 p6) 3 p5)) (fun _ => ⟨rfl, trivial⟩)))
  (Sim.weak (B := p8) (C := p5) (Sim.skip (A := p8)) (fun _ => ⟨rfl, rfl, rfl, rfl, rfl, trivial⟩)))))
  (Sim.reg (A := p5) (B := p5) (fun _ _ _ => by kernel_rfl))))))))
  (Sim.seq (Sim.reg (A := p6) (B := p0) (fun _ _ _ => by kernel_rfl))
  (Sim.ret (A := p0) (E := ex) (fun _ => ⟨rfl, trivial⟩)))))))))

def init (x_a : Sl) (x_b : Sl) : St := { x_a := x_a, x_b := x_b, t4 := 0, x_checked := 0, x_diff := 0, x_diffq7 := 0, x_i := 0, t60 := 0, t61 := 0, t62 := false }

/-- What is left of the results. -/
def res (K : Int → Heap → Prop) (s : St) (h1 : Heap) : Prop := K s.t4 h1

/-- The call of 'pub-pemmican/pub/compress/s2.matchLen'. -/
theorem calls (x_a : Sl) (x_b : Sl) (h : Heap) (K : Int → Heap → Prop)
    (H : stm (init x_a x_b) h (endK (res K))) : c_matchLen x_a x_b h K := by
  have hc : CallsH Pg 6 #[(.slice x_a.p x_a.n x_a.c), (.slice x_b.p x_b.n x_b.c)] h fun v h1 => asI .i64 v fun n1 => K n1 h1 :=
    callsH_of_sim (R := p0) (fn := Tryd.f6) (c := Tryd.f6.body.getD .skip) Tryd.func6 rfl Tryd.ntmps6 Tryd.call6 sim (init x_a x_b) (⟨rfl, rfl, trivial⟩) (Nat.le_of_ble_eq_true rfl) (fun _ => ⟨rfl, trivial⟩) rfl
      (res K) (fun _ _ => by kernel_rfl) H
  refine hc.mono ?_
  intro v hp H
  obtain ⟨n1, rfl, h1⟩ := asI_elim H
  exact ⟨_, rfl, h1⟩

end M_matchLen

namespace M_ZzMatchLen

structure St where
  x_a : Sl
  x_b : Sl
  t4 : Int

def p0 : Pt St where
  env s := [(4, (.int .i64 s.t4))]
  fin e s K := getV e 4 fun v1 => asI .i64 v1 fun n1 => K { s with t4 := n1 }
  ok := by
    intro e s K h0
    obtain ⟨w1, g1, h1⟩ := getV_elim h0
    obtain ⟨n1, rfl, h2⟩ := asI_elim h1
    exact ⟨_, ⟨g1, trivial⟩, h2⟩

def p1 : Pt St where
  env s := [(0, (.slice s.x_a.p s.x_a.n s.x_a.c)), (1, (.slice s.x_b.p s.x_b.n s.x_b.c))]
  fin e s K := getV e 0 fun v1 => asS v1 fun p1 n1 c1 => getV e 1 fun v2 => asS v2 fun p2 n2 c2 => K { s with x_a := ⟨p1, n1, c1⟩, x_b := ⟨p2, n2, c2⟩ }
  ok := by
    intro e s K h0
    obtain ⟨w1, g1, h1⟩ := getV_elim h0
    obtain ⟨p1, n1, c1, rfl, h2⟩ := asS_elim h1
    obtain ⟨w2, g2, h3⟩ := getV_elim h2
    obtain ⟨p2, n2, c2, rfl, h4⟩ := asS_elim h3
    exact ⟨_, ⟨g1, g2, trivial⟩, h4⟩

def r0 (s : St) (h : Heap) (Q : St → Heap → Prop) : Prop :=
  Q s h

def r1 (s : St) (h : Heap) (Q : St → Heap → Prop) : Prop :=
  c_matchLen s.x_a s.x_b h fun r2 h1 =>
  Q { s with t4 := r2 } h1

def stm : Stm St :=
  (.seq (.reg r0)
  (.seq (.reg r1)
  .ret))

def ex : Ex → Pt St := fun _ => p0

set_option maxRecDepth 100000 in
theorem sim : Sim Pg 8 p1 (Tryd.f5.body.getD .skip) stm p0 ex :=
  (Sim.seq (Sim.reg (A := p1) (B := p1) (fun _ _ _ => by kernel_rfl))
  (Sim.seq (Sim.reg (A := p1) (B := p0) (fun _ _ _ => by kernel_rfl))
  (Sim.ret (A := p0) (E := ex) (fun _ => ⟨rfl, trivial⟩))))

def init (x_a : Sl) (x_b : Sl) : St := { x_a := x_a, x_b := x_b, t4 := 0 }

/-- What is left of the results. -/
def res (K : Int → Heap → Prop) (s : St) (h1 : Heap) : Prop := K s.t4 h1

/-- The call of 'pub-pemmican/pub/compress/s2.ZzMatchLen'. -/
theorem calls (x_a : Sl) (x_b : Sl) (h : Heap) (K : Int → Heap → Prop)
    (H : stm (init x_a x_b) h (endK (res K))) : c_ZzMatchLen x_a x_b h K := by
  have hc : CallsH Pg 5 #[(.slice x_a.p x_a.n x_a.c), (.slice x_b.p x_b.n x_b.c)] h fun v h1 => asI .i64 v fun n1 => K n1 h1 :=
    callsH_of_sim (R := p0) (fn := Tryd.f5) (c := Tryd.f5.body.getD .skip) Tryd.func5 rfl Tryd.ntmps5 Tryd.call5 sim (init x_a x_b) (⟨rfl, rfl, trivial⟩) (Nat.le_of_ble_eq_true rfl) (fun _ => ⟨rfl, trivial⟩) rfl
      (res K) (fun _ _ => by kernel_rfl) H
  refine hc.mono ?_
  intro v hp H
  obtain ⟨n1, rfl, h1⟩ := asI_elim H
  exact ⟨_, rfl, h1⟩

end M_ZzMatchLen

namespace M_impl_S2MatchLen

structure St where
  x_a : Sl
  x_b : Sl
  t4 : Int

def p0 : Pt St where
  env s := [(4, (.int .i64 s.t4))]
  fin e s K := getV e 4 fun v1 => asI .i64 v1 fun n1 => K { s with t4 := n1 }
  ok := by
    intro e s K h0
    obtain ⟨w1, g1, h1⟩ := getV_elim h0
    obtain ⟨n1, rfl, h2⟩ := asI_elim h1
    exact ⟨_, ⟨g1, trivial⟩, h2⟩

def p1 : Pt St where
  env s := [(0, (.slice s.x_a.p s.x_a.n s.x_a.c)), (1, (.slice s.x_b.p s.x_b.n s.x_b.c))]
  fin e s K := getV e 0 fun v1 => asS v1 fun p1 n1 c1 => getV e 1 fun v2 => asS v2 fun p2 n2 c2 => K { s with x_a := ⟨p1, n1, c1⟩, x_b := ⟨p2, n2, c2⟩ }
  ok := by
    intro e s K h0
    obtain ⟨w1, g1, h1⟩ := getV_elim h0
    obtain ⟨p1, n1, c1, rfl, h2⟩ := asS_elim h1
    obtain ⟨w2, g2, h3⟩ := getV_elim h2
    obtain ⟨p2, n2, c2, rfl, h4⟩ := asS_elim h3
    exact ⟨_, ⟨g1, g2, trivial⟩, h4⟩

def r0 (s : St) (h : Heap) (Q : St → Heap → Prop) : Prop :=
  Q s h

def r1 (s : St) (h : Heap) (Q : St → Heap → Prop) : Prop :=
  c_ZzMatchLen s.x_a s.x_b h fun r2 h1 =>
  Q { s with t4 := r2 } h1

def stm : Stm St :=
  (.seq (.reg r0)
  (.seq (.reg r1)
  .ret))

def ex : Ex → Pt St := fun _ => p0

set_option maxRecDepth 100000 in
theorem sim : Sim Pg 8 p1 (Tryd.f4.body.getD .skip) stm p0 ex :=
  (Sim.seq (Sim.reg (A := p1) (B := p1) (fun _ _ _ => by kernel_rfl))
  (Sim.seq (Sim.reg (A := p1) (B := p0) (fun _ _ _ => by kernel_rfl))
  (Sim.ret (A := p0) (E := ex) (fun _ => ⟨rfl, trivial⟩))))

def init (x_a : Sl) (x_b : Sl) : St := { x_a := x_a, x_b := x_b, t4 := 0 }

/-- What is left of the results. -/
def res (K : Int → Heap → Prop) (s : St) (h1 : Heap) : Prop := K s.t4 h1

/-- The call of 'pub-pemmican/impl.S2MatchLen'. -/
theorem calls (x_a : Sl) (x_b : Sl) (h : Heap) (K : Int → Heap → Prop)
    (H : stm (init x_a x_b) h (endK (res K))) : c_impl_S2MatchLen x_a x_b h K := by
  have hc : CallsH Pg 4 #[(.slice x_a.p x_a.n x_a.c), (.slice x_b.p x_b.n x_b.c)] h fun v h1 => asI .i64 v fun n1 => K n1 h1 :=
    callsH_of_sim (R := p0) (fn := Tryd.f4) (c := Tryd.f4.body.getD .skip) Tryd.func4 rfl Tryd.ntmps4 Tryd.call4 sim (init x_a x_b) (⟨rfl, rfl, trivial⟩) (Nat.le_of_ble_eq_true rfl) (fun _ => ⟨rfl, trivial⟩) rfl
      (res K) (fun _ _ => by kernel_rfl) H
  refine hc.mono ?_
  intro v hp H
  obtain ⟨n1, rfl, h1⟩ := asI_elim H
  exact ⟨_, rfl, h1⟩

end M_impl_S2MatchLen

namespace M_laws_FnMatchLen

structure St where
  x_a : Sl
  x_b : Sl
  t4 : Bool
  x_n : Int

def p0 : Pt St where
  env s := [(4, (.bool s.t4))]
  fin e s K := getV e 4 fun v1 => asB v1 fun b1 => K { s with t4 := b1 }
  ok := by
    intro e s K h0
    obtain ⟨w1, g1, h1⟩ := getV_elim h0
    obtain ⟨b1, rfl, h2⟩ := asB_elim h1
    exact ⟨_, ⟨g1, trivial⟩, h2⟩

def p1 : Pt St where
  env s := [(0, (.slice s.x_a.p s.x_a.n s.x_a.c)), (1, (.slice s.x_b.p s.x_b.n s.x_b.c))]
  fin e s K := getV e 0 fun v1 => asS v1 fun p1 n1 c1 => getV e 1 fun v2 => asS v2 fun p2 n2 c2 => K { s with x_a := ⟨p1, n1, c1⟩, x_b := ⟨p2, n2, c2⟩ }
  ok := by
    intro e s K h0
    obtain ⟨w1, g1, h1⟩ := getV_elim h0
    obtain ⟨p1, n1, c1, rfl, h2⟩ := asS_elim h1
    obtain ⟨w2, g2, h3⟩ := getV_elim h2
    obtain ⟨p2, n2, c2, rfl, h4⟩ := asS_elim h3
    exact ⟨_, ⟨g1, g2, trivial⟩, h4⟩

def p2 : Pt St where
  env s := [(0, (.slice s.x_a.p s.x_a.n s.x_a.c)), (1, (.slice s.x_b.p s.x_b.n s.x_b.c)), (5, (.int .i64 s.x_n))]
  fin e s K := getV e 0 fun v1 => asS v1 fun p1 n1 c1 => getV e 1 fun v2 => asS v2 fun p2 n2 c2 => getV e 5 fun v3 => asI .i64 v3 fun n3 => K { s with x_a := ⟨p1, n1, c1⟩, x_b := ⟨p2, n2, c2⟩, x_n := n3 }
  ok := by
    intro e s K h0
    obtain ⟨w1, g1, h1⟩ := getV_elim h0
    obtain ⟨p1, n1, c1, rfl, h2⟩ := asS_elim h1
    obtain ⟨w2, g2, h3⟩ := getV_elim h2
    obtain ⟨p2, n2, c2, rfl, h4⟩ := asS_elim h3
    obtain ⟨w3, g3, h5⟩ := getV_elim h4
    obtain ⟨n3, rfl, h6⟩ := asI_elim h5
    exact ⟨_, ⟨g1, g2, g3, trivial⟩, h6⟩

def r0 (s : St) (h : Heap) (Q : St → Heap → Prop) : Prop :=
  Q s h

def r1 (s : St) (h : Heap) (Q : Bool → St → Heap → Prop) : Prop :=
  (if (decide (((s.x_a.n : Nat) : Int) > (2147483647 : Int))) = false then
  (Q (decide (((s.x_b.n : Nat) : Int) > (2147483647 : Int))) s h)
  else
  (Q true s h))

def r2 (s : St) (h : Heap) (Q : St → Heap → Prop) : Prop :=
  Q { s with t4 := true } h

def r3 (s : St) (h : Heap) (Q : Bool → St → Heap → Prop) : Prop :=
  (if (decide (((s.x_a.n : Nat) : Int) > ((s.x_b.n : Nat) : Int))) = false then
  (Q (decide (((s.x_b.n : Nat) : Int) > (1048576 : Int))) s h)
  else
  (Q true s h))

def r4 (s : St) (h : Heap) (Q : St → Heap → Prop) : Prop :=
  Q { s with t4 := true } h

def r5 (s : St) (h : Heap) (Q : St → Heap → Prop) : Prop :=
  Q { s with x_n := (0 : Int) } h

def r6 (s : St) (h : Heap) (Q : Bool → St → Heap → Prop) : Prop :=
  (if (decide (s.x_n < ((s.x_a.n : Nat) : Int))) = true then
  (0 ≤ s.x_n ∧ s.x_n < ((s.x_a.n : Nat) : Int) ∧
  ptrE s.x_a.p fun a1 =>
  ∃ v2 : Int, hcell h (Addr.add a1 (Int.toNat s.x_n * 1)) = some (.int .u8 v2) ∧
  0 ≤ s.x_n ∧ s.x_n < ((s.x_b.n : Nat) : Int) ∧
  ptrE s.x_b.p fun a3 =>
  ∃ v4 : Int, hcell h (Addr.add a3 (Int.toNat s.x_n * 1)) = some (.int .u8 v4) ∧
  Q (v2 == v4) s h)
  else
  (Q false s h))

def r7 (s : St) (h : Heap) (Q : St → Heap → Prop) : Prop :=
  Q { s with x_n := (IntKind.wrap .i64 (s.x_n + (1 : Int))) } h

def r8 (s : St) (h : Heap) (Q : St → Heap → Prop) : Prop :=
  c_impl_S2MatchLen s.x_a s.x_b h fun r2 h1 =>
  Q { s with t4 := (r2 == s.x_n) } h1

def stm : Stm St :=
  (.seq (.reg r0)
  (.seq (.test r1 (.seq (.reg r2)
  .ret)
  .skip)
  (.seq (.test r3 (.seq (.reg r4)
  .ret)
  .skip)
  (.seq (.reg r5)
  (.seq (.block 0 (.loop (.seq (.test r6 .skip
  (.exit 0))
  (.block 1 (.reg r7)))))
  (.seq (.reg r8)
  .ret))))))

def ex : Ex → Pt St := fun _ => p0

set_option maxRecDepth 100000 in
theorem sim : Sim Pg 46 p1 (Tryd.f3.body.getD .skip) stm p0 ex :=
  (Sim.seq (Sim.reg (A := p1) (B := p1) (fun _ _ _ => by kernel_rfl))
  (Sim.seq (Sim.test (A := p1) (B := p1) (fun _ _ _ => by kernel_rfl) (Sim.seq (Sim.reg (A := p1) (B := p0) (fun _ _ _ => by kernel_rfl))
  (Sim.ret (A := p0) (E := ex) (fun _ => ⟨rfl, trivial⟩)))
  (Sim.skip (A := p1)))
  (Sim.seq (Sim.test (A := p1) (B := p1) (fun _ _ _ => by kernel_rfl) (Sim.seq (Sim.reg (A := p1) (B := p0) (fun _ _ _ => by kernel_rfl))
  (Sim.ret (A := p0) (E := ex) (fun _ => ⟨rfl, trivial⟩)))
  (Sim.skip (A := p1)))
  (Sim.seq (Sim.reg (A := p1) (B := p2) (fun _ _ _ => by kernel_rfl))
  (Sim.seq (Sim.block (B := p2) (Sim.loop (A := p2) (Sim.seq (Sim.test (A := p2) (B := p2) (fun _ _ _ => by kernel_rfl) (Sim.skip (A := p2))
  (Sim.exit (A := p2) (fun _ => ⟨rfl, rfl, rfl, trivial⟩)))
  (Sim.block (B := p2) (Sim.reg (A := p2) (B := p2) (fun _ _ _ => by kernel_rfl))))))
  (Sim.seq (Sim.reg (A := p2) (B := p0) (fun _ _ _ => by kernel_rfl))
  (Sim.ret (A := p0) (E := ex) (fun _ => ⟨rfl, trivial⟩))))))))

def init (x_a : Sl) (x_b : Sl) : St := { x_a := x_a, x_b := x_b, t4 := false, x_n := 0 }

/-- What is left of the results. -/
def res (K : Bool → Heap → Prop) (s : St) (h1 : Heap) : Prop := K s.t4 h1

/-- The call of 'pub-pemmican/laws.FnMatchLen'. -/
theorem calls (x_a : Sl) (x_b : Sl) (h : Heap) (K : Bool → Heap → Prop)
    (H : stm (init x_a x_b) h (endK (res K))) : c_laws_FnMatchLen x_a x_b h K := by
  have hc : CallsH Pg 3 #[(.slice x_a.p x_a.n x_a.c), (.slice x_b.p x_b.n x_b.c)] h fun v h1 => asB v fun b1 => K b1 h1 :=
    callsH_of_sim (R := p0) (fn := Tryd.f3) (c := Tryd.f3.body.getD .skip) Tryd.func3 rfl Tryd.ntmps3 Tryd.call3 sim (init x_a x_b) (⟨rfl, rfl, trivial⟩) (Nat.le_of_ble_eq_true rfl) (fun _ => ⟨rfl, trivial⟩) rfl
      (res K) (fun _ _ => by kernel_rfl) H
  refine hc.mono ?_
  intro v hp H
  obtain ⟨b1, rfl, h1⟩ := asB_elim H
  exact ⟨_, rfl, h1⟩

end M_laws_FnMatchLen

end Go.Proofs.YtgcmdkiahjjpeaaDoor
