/- Models of functions of the program: what each one computes, over heaps, tied to the program by one check a region. Written by a program. -/
import Derived.Test.YtibleenkgmkpmaaDoorSigs
namespace Go.Proofs.YtibleenkgmkpmaaDoor
open Go Go.Vc Go.Proofs

namespace M_spec_little

structure St where
  x_src : Sl
  x_at : Int
  x_bytes : Int
  t6 : Int
  x_n : Int
  x_i : Int

def p0 : Pt St where
  env s := [(6, (.int .i64 s.t6))]
  fin e s K := getV e 6 fun v1 => asI .i64 v1 fun n1 => K { s with t6 := n1 }
  ok := by
    intro e s K h0
    obtain ⟨w1, g1, h1⟩ := getV_elim h0
    obtain ⟨n1, rfl, h2⟩ := asI_elim h1
    exact ⟨_, ⟨g1, trivial⟩, h2⟩

def p1 : Pt St where
  env s := [(0, (.slice s.x_src.p s.x_src.n s.x_src.c)), (1, (.int .i64 s.x_at)), (2, (.int .i64 s.x_bytes))]
  fin e s K := getV e 0 fun v1 => asS v1 fun p1 n1 c1 => getV e 1 fun v2 => asI .i64 v2 fun n2 => getV e 2 fun v3 => asI .i64 v3 fun n3 => K { s with x_src := ⟨p1, n1, c1⟩, x_at := n2, x_bytes := n3 }
  ok := by
    intro e s K h0
    obtain ⟨w1, g1, h1⟩ := getV_elim h0
    obtain ⟨p1, n1, c1, rfl, h2⟩ := asS_elim h1
    obtain ⟨w2, g2, h3⟩ := getV_elim h2
    obtain ⟨n2, rfl, h4⟩ := asI_elim h3
    obtain ⟨w3, g3, h5⟩ := getV_elim h4
    obtain ⟨n3, rfl, h6⟩ := asI_elim h5
    exact ⟨_, ⟨g1, g2, g3, trivial⟩, h6⟩

def p2 : Pt St where
  env s := [(0, (.slice s.x_src.p s.x_src.n s.x_src.c)), (1, (.int .i64 s.x_at)), (2, (.int .i64 s.x_bytes)), (7, (.int .i64 s.x_n))]
  fin e s K := getV e 0 fun v1 => asS v1 fun p1 n1 c1 => getV e 1 fun v2 => asI .i64 v2 fun n2 => getV e 2 fun v3 => asI .i64 v3 fun n3 => getV e 7 fun v4 => asI .i64 v4 fun n4 => K { s with x_src := ⟨p1, n1, c1⟩, x_at := n2, x_bytes := n3, x_n := n4 }
  ok := by
    intro e s K h0
    obtain ⟨w1, g1, h1⟩ := getV_elim h0
    obtain ⟨p1, n1, c1, rfl, h2⟩ := asS_elim h1
    obtain ⟨w2, g2, h3⟩ := getV_elim h2
    obtain ⟨n2, rfl, h4⟩ := asI_elim h3
    obtain ⟨w3, g3, h5⟩ := getV_elim h4
    obtain ⟨n3, rfl, h6⟩ := asI_elim h5
    obtain ⟨w4, g4, h7⟩ := getV_elim h6
    obtain ⟨n4, rfl, h8⟩ := asI_elim h7
    exact ⟨_, ⟨g1, g2, g3, g4, trivial⟩, h8⟩

def p3 : Pt St where
  env s := [(0, (.slice s.x_src.p s.x_src.n s.x_src.c)), (1, (.int .i64 s.x_at)), (7, (.int .i64 s.x_n)), (8, (.int .i64 s.x_i))]
  fin e s K := getV e 0 fun v1 => asS v1 fun p1 n1 c1 => getV e 1 fun v2 => asI .i64 v2 fun n2 => getV e 7 fun v3 => asI .i64 v3 fun n3 => getV e 8 fun v4 => asI .i64 v4 fun n4 => K { s with x_src := ⟨p1, n1, c1⟩, x_at := n2, x_n := n3, x_i := n4 }
  ok := by
    intro e s K h0
    obtain ⟨w1, g1, h1⟩ := getV_elim h0
    obtain ⟨p1, n1, c1, rfl, h2⟩ := asS_elim h1
    obtain ⟨w2, g2, h3⟩ := getV_elim h2
    obtain ⟨n2, rfl, h4⟩ := asI_elim h3
    obtain ⟨w3, g3, h5⟩ := getV_elim h4
    obtain ⟨n3, rfl, h6⟩ := asI_elim h5
    obtain ⟨w4, g4, h7⟩ := getV_elim h6
    obtain ⟨n4, rfl, h8⟩ := asI_elim h7
    exact ⟨_, ⟨g1, g2, g3, g4, trivial⟩, h8⟩

def p4 : Pt St where
  env s := [(7, (.int .i64 s.x_n))]
  fin e s K := getV e 7 fun v1 => asI .i64 v1 fun n1 => K { s with x_n := n1 }
  ok := by
    intro e s K h0
    obtain ⟨w1, g1, h1⟩ := getV_elim h0
    obtain ⟨n1, rfl, h2⟩ := asI_elim h1
    exact ⟨_, ⟨g1, trivial⟩, h2⟩

def r0 (s : St) (h : Heap) (Q : St → Heap → Prop) : Prop :=
  Q s h

def r1 (s : St) (h : Heap) (Q : Bool → St → Heap → Prop) : Prop :=
  Q (decide ((IntKind.wrap .i64 (s.x_at + s.x_bytes)) > ((s.x_src.n : Nat) : Int))) s h

def r2 (s : St) (h : Heap) (Q : St → Heap → Prop) : Prop :=
  Q { s with t6 := (-1 : Int) } h

def r3 (s : St) (h : Heap) (Q : St → Heap → Prop) : Prop :=
  Q { s with x_n := (0 : Int) } h

def r4 (s : St) (h : Heap) (Q : St → Heap → Prop) : Prop :=
  Q { s with x_i := (IntKind.wrap .i64 (s.x_bytes - (1 : Int))) } h

def r5 (s : St) (h : Heap) (Q : Bool → St → Heap → Prop) : Prop :=
  Q (decide (s.x_i ≥ (0 : Int))) s h

def r6 (s : St) (h : Heap) (Q : St → Heap → Prop) : Prop :=
  Q { s with x_i := (IntKind.wrap .i64 (s.x_i - (1 : Int))) } h

def r7 (s : St) (h : Heap) (Q : St → Heap → Prop) : Prop :=
  0 ≤ (IntKind.wrap .i64 (s.x_at + s.x_i)) ∧ (IntKind.wrap .i64 (s.x_at + s.x_i)) < ((s.x_src.n : Nat) : Int) ∧
  ptrE s.x_src.p fun a1 =>
  ∃ v2 : Int, hcell h (Addr.add a1 (Int.toNat (IntKind.wrap .i64 (s.x_at + s.x_i)) * 1)) = some (.int .u8 v2) ∧
  Q { s with x_n := (IntKind.wrap .i64 ((IntKind.wrap .i64 (s.x_n * (256 : Int))) + (IntKind.wrap .i64 v2))) } h

def r8 (s : St) (h : Heap) (Q : St → Heap → Prop) : Prop :=
  Q { s with t6 := s.x_n } h

def k5 : Stm St := (.seq (.block 1 (.reg r7)) (.reg r6))
def k4 : Stm St := (.seq (.test r5 .skip (.exit 0)) k5)
def k3 : Stm St := (.block 0 (.loop k4))
def k2 : Stm St := (.seq (.seq (.reg r4) k3) (.seq (.reg r8) .ret))
def k1 : Stm St := (.seq (.reg r3) k2)
def k0 : Stm St := (.seq (.test r1 (.seq (.reg r2) .ret) .skip) k1)

def stm : Stm St := (.seq (.reg r0) k0)

def ex : Ex → Pt St := fun _ => p0

set_option maxRecDepth 100000 in
theorem sim : Sim Pg 32 p1 (Tryd.f86.body.getD .skip) stm p0 ex :=
  (Sim.seq (Sim.reg (A := p1) (B := p1) (fun _ _ _ => by kernel_rfl))
  (Sim.seq (Sim.test (A := p1) (B := p1) (fun _ _ _ => by kernel_rfl) (Sim.seq (Sim.reg (A := p1) (B := p0) (fun _ _ _ => by kernel_rfl))
  (Sim.ret (A := p0) (E := ex) (fun _ => ⟨rfl, trivial⟩)))
  (Sim.skip (A := p1)))
  (Sim.seq (Sim.reg (A := p1) (B := p2) (fun _ _ _ => by kernel_rfl))
  (Sim.seq (Sim.seq (Sim.reg (A := p2) (B := p3) (fun _ _ _ => by kernel_rfl))
  (Sim.block (B := p4) (Sim.loop (A := p3) (Sim.seq (Sim.test (A := p3) (B := p3) (fun _ _ _ => by kernel_rfl) (Sim.skip (A := p3))
  (Sim.exit (A := p3) (fun _ => ⟨rfl, trivial⟩)))
  (Sim.seq (Sim.block (B := p3) (Sim.reg (A := p3) (B := p3) (fun _ _ _ => by kernel_rfl)))
  (Sim.reg (A := p3) (B := p3) (fun _ _ _ => by kernel_rfl)))))))
  (Sim.seq (Sim.reg (A := p4) (B := p0) (fun _ _ _ => by kernel_rfl))
  (Sim.ret (A := p0) (E := ex) (fun _ => ⟨rfl, trivial⟩)))))))

def init (x_src : Sl) (x_at : Int) (x_bytes : Int) : St := { x_src := x_src, x_at := x_at, x_bytes := x_bytes, t6 := 0, x_n := 0, x_i := 0 }

/-- What is left of the results. -/
def res (K : Int → Heap → Prop) (s : St) (h1 : Heap) : Prop := K s.t6 h1

/-- The call of 'pub-pemmican/spec.little'. -/
theorem calls (x_src : Sl) (x_at : Int) (x_bytes : Int) (h : Heap) (K : Int → Heap → Prop)
    (H : stm (init x_src x_at x_bytes) h (endK (res K))) : c_spec_little x_src x_at x_bytes h K := by
  have hc : CallsH Pg 86 #[(.slice x_src.p x_src.n x_src.c), (.int .i64 x_at), (.int .i64 x_bytes)] h fun v h1 => asI .i64 v fun n1 => K n1 h1 :=
    callsH_of_sim (R := p0) (fn := Tryd.f86) (c := Tryd.f86.body.getD .skip) Tryd.func86 rfl Tryd.ntmps86 Tryd.call86 sim (init x_src x_at x_bytes) (⟨rfl, rfl, rfl, trivial⟩) (Nat.le_of_ble_eq_true rfl) (fun _ => ⟨rfl, trivial⟩) rfl
      (res K) (fun _ _ => by kernel_rfl) H
  refine hc.mono ?_
  intro v hp H
  obtain ⟨n1, rfl, h1⟩ := asI_elim H
  exact ⟨_, rfl, h1⟩

end M_spec_little

end Go.Proofs.YtibleenkgmkpmaaDoor

namespace Go.Proofs.YtibleenkgmkpmaaDoor
open Go Go.Vc Go.Proofs

namespace M_spec_readLiteral

structure St where
  x_src : Sl
  x_at : Int
  t4 : Option Addr
  t5 : Bool
  x_n : Int
  x_from : Int
  x_bytes : Int

def p0 : Pt St where
  env s := [(4, (.pointer s.t4)), (5, (.bool s.t5))]
  fin e s K := getV e 4 fun v1 => asP v1 fun p1 => getV e 5 fun v2 => asB v2 fun b1 => K { s with t4 := p1, t5 := b1 }
  ok := by
    intro e s K h0
    obtain ⟨w1, g1, h1⟩ := getV_elim h0
    obtain ⟨p1, rfl, h2⟩ := asP_elim h1
    obtain ⟨w2, g2, h3⟩ := getV_elim h2
    obtain ⟨b1, rfl, h4⟩ := asB_elim h3
    exact ⟨_, ⟨g1, g2, trivial⟩, h4⟩

def p1 : Pt St where
  env s := [(0, (.slice s.x_src.p s.x_src.n s.x_src.c)), (1, (.int .i64 s.x_at))]
  fin e s K := getV e 0 fun v1 => asS v1 fun p1 n1 c1 => getV e 1 fun v2 => asI .i64 v2 fun n2 => K { s with x_src := ⟨p1, n1, c1⟩, x_at := n2 }
  ok := by
    intro e s K h0
    obtain ⟨w1, g1, h1⟩ := getV_elim h0
    obtain ⟨p1, n1, c1, rfl, h2⟩ := asS_elim h1
    obtain ⟨w2, g2, h3⟩ := getV_elim h2
    obtain ⟨n2, rfl, h4⟩ := asI_elim h3
    exact ⟨_, ⟨g1, g2, trivial⟩, h4⟩

def p2 : Pt St where
  env s := [(0, (.slice s.x_src.p s.x_src.n s.x_src.c)), (1, (.int .i64 s.x_at)), (4, (.pointer s.t4))]
  fin e s K := getV e 0 fun v1 => asS v1 fun p1 n1 c1 => getV e 1 fun v2 => asI .i64 v2 fun n2 => getV e 4 fun v3 => asP v3 fun p2 => K { s with x_src := ⟨p1, n1, c1⟩, x_at := n2, t4 := p2 }
  ok := by
    intro e s K h0
    obtain ⟨w1, g1, h1⟩ := getV_elim h0
    obtain ⟨p1, n1, c1, rfl, h2⟩ := asS_elim h1
    obtain ⟨w2, g2, h3⟩ := getV_elim h2
    obtain ⟨n2, rfl, h4⟩ := asI_elim h3
    obtain ⟨w3, g3, h5⟩ := getV_elim h4
    obtain ⟨p2, rfl, h6⟩ := asP_elim h5
    exact ⟨_, ⟨g1, g2, g3, trivial⟩, h6⟩

def p3 : Pt St where
  env s := [(0, (.slice s.x_src.p s.x_src.n s.x_src.c)), (1, (.int .i64 s.x_at)), (4, (.pointer s.t4)), (6, (.int .i64 s.x_n))]
  fin e s K := getV e 0 fun v1 => asS v1 fun p1 n1 c1 => getV e 1 fun v2 => asI .i64 v2 fun n2 => getV e 4 fun v3 => asP v3 fun p2 => getV e 6 fun v4 => asI .i64 v4 fun n3 => K { s with x_src := ⟨p1, n1, c1⟩, x_at := n2, t4 := p2, x_n := n3 }
  ok := by
    intro e s K h0
    obtain ⟨w1, g1, h1⟩ := getV_elim h0
    obtain ⟨p1, n1, c1, rfl, h2⟩ := asS_elim h1
    obtain ⟨w2, g2, h3⟩ := getV_elim h2
    obtain ⟨n2, rfl, h4⟩ := asI_elim h3
    obtain ⟨w3, g3, h5⟩ := getV_elim h4
    obtain ⟨p2, rfl, h6⟩ := asP_elim h5
    obtain ⟨w4, g4, h7⟩ := getV_elim h6
    obtain ⟨n3, rfl, h8⟩ := asI_elim h7
    exact ⟨_, ⟨g1, g2, g3, g4, trivial⟩, h8⟩

def p4 : Pt St where
  env s := [(0, (.slice s.x_src.p s.x_src.n s.x_src.c)), (4, (.pointer s.t4)), (6, (.int .i64 s.x_n)), (7, (.int .i64 s.x_from))]
  fin e s K := getV e 0 fun v1 => asS v1 fun p1 n1 c1 => getV e 4 fun v2 => asP v2 fun p2 => getV e 6 fun v3 => asI .i64 v3 fun n2 => getV e 7 fun v4 => asI .i64 v4 fun n3 => K { s with x_src := ⟨p1, n1, c1⟩, t4 := p2, x_n := n2, x_from := n3 }
  ok := by
    intro e s K h0
    obtain ⟨w1, g1, h1⟩ := getV_elim h0
    obtain ⟨p1, n1, c1, rfl, h2⟩ := asS_elim h1
    obtain ⟨w2, g2, h3⟩ := getV_elim h2
    obtain ⟨p2, rfl, h4⟩ := asP_elim h3
    obtain ⟨w3, g3, h5⟩ := getV_elim h4
    obtain ⟨n2, rfl, h6⟩ := asI_elim h5
    obtain ⟨w4, g4, h7⟩ := getV_elim h6
    obtain ⟨n3, rfl, h8⟩ := asI_elim h7
    exact ⟨_, ⟨g1, g2, g3, g4, trivial⟩, h8⟩

def p5 : Pt St where
  env s := [(0, (.slice s.x_src.p s.x_src.n s.x_src.c)), (4, (.pointer s.t4)), (7, (.int .i64 s.x_from)), (8, (.int .i64 s.x_bytes))]
  fin e s K := getV e 0 fun v1 => asS v1 fun p1 n1 c1 => getV e 4 fun v2 => asP v2 fun p2 => getV e 7 fun v3 => asI .i64 v3 fun n2 => getV e 8 fun v4 => asI .i64 v4 fun n3 => K { s with x_src := ⟨p1, n1, c1⟩, t4 := p2, x_from := n2, x_bytes := n3 }
  ok := by
    intro e s K h0
    obtain ⟨w1, g1, h1⟩ := getV_elim h0
    obtain ⟨p1, n1, c1, rfl, h2⟩ := asS_elim h1
    obtain ⟨w2, g2, h3⟩ := getV_elim h2
    obtain ⟨p2, rfl, h4⟩ := asP_elim h3
    obtain ⟨w3, g3, h5⟩ := getV_elim h4
    obtain ⟨n2, rfl, h6⟩ := asI_elim h5
    obtain ⟨w4, g4, h7⟩ := getV_elim h6
    obtain ⟨n3, rfl, h8⟩ := asI_elim h7
    exact ⟨_, ⟨g1, g2, g3, g4, trivial⟩, h8⟩

def p6 : Pt St where
  env s := [(0, (.slice s.x_src.p s.x_src.n s.x_src.c)), (4, (.pointer s.t4)), (6, (.int .i64 s.x_n)), (7, (.int .i64 s.x_from)), (8, (.int .i64 s.x_bytes))]
  fin e s K := getV e 0 fun v1 => asS v1 fun p1 n1 c1 => getV e 4 fun v2 => asP v2 fun p2 => getV e 6 fun v3 => asI .i64 v3 fun n2 => getV e 7 fun v4 => asI .i64 v4 fun n3 => getV e 8 fun v5 => asI .i64 v5 fun n4 => K { s with x_src := ⟨p1, n1, c1⟩, t4 := p2, x_n := n2, x_from := n3, x_bytes := n4 }
  ok := by
    intro e s K h0
    obtain ⟨w1, g1, h1⟩ := getV_elim h0
    obtain ⟨p1, n1, c1, rfl, h2⟩ := asS_elim h1
    obtain ⟨w2, g2, h3⟩ := getV_elim h2
    obtain ⟨p2, rfl, h4⟩ := asP_elim h3
    obtain ⟨w3, g3, h5⟩ := getV_elim h4
    obtain ⟨n2, rfl, h6⟩ := asI_elim h5
    obtain ⟨w4, g4, h7⟩ := getV_elim h6
    obtain ⟨n3, rfl, h8⟩ := asI_elim h7
    obtain ⟨w5, g5, h9⟩ := getV_elim h8
    obtain ⟨n4, rfl, h10⟩ := asI_elim h9
    exact ⟨_, ⟨g1, g2, g3, g4, g5, trivial⟩, h10⟩

def p7 : Pt St where
  env s := [(4, (.pointer s.t4)), (6, (.int .i64 s.x_n)), (7, (.int .i64 s.x_from))]
  fin e s K := getV e 4 fun v1 => asP v1 fun p1 => getV e 6 fun v2 => asI .i64 v2 fun n1 => getV e 7 fun v3 => asI .i64 v3 fun n2 => K { s with t4 := p1, x_n := n1, x_from := n2 }
  ok := by
    intro e s K h0
    obtain ⟨w1, g1, h1⟩ := getV_elim h0
    obtain ⟨p1, rfl, h2⟩ := asP_elim h1
    obtain ⟨w2, g2, h3⟩ := getV_elim h2
    obtain ⟨n1, rfl, h4⟩ := asI_elim h3
    obtain ⟨w3, g3, h5⟩ := getV_elim h4
    obtain ⟨n2, rfl, h6⟩ := asI_elim h5
    exact ⟨_, ⟨g1, g2, g3, trivial⟩, h6⟩

def r0 (s : St) (h : Heap) (Q : St → Heap → Prop) : Prop :=
  withH (hnew h (zcells Pg 113) 113) fun h1 =>
  Q { s with t4 := (some ⟨Array.size h, 0, none⟩) } h1

def r1 (s : St) (h : Heap) (Q : St → Heap → Prop) : Prop :=
  0 ≤ s.x_at ∧ s.x_at < ((s.x_src.n : Nat) : Int) ∧
  ptrE s.x_src.p fun a1 =>
  ∃ v2 : Int, hcell h (Addr.add a1 (Int.toNat s.x_at * 1)) = some (.int .u8 v2) ∧
  Q { s with x_n := (IntKind.wrap .i64 (Int.fdiv v2 (2 ^ (2 : Nat)))) } h

def r2 (s : St) (h : Heap) (Q : St → Heap → Prop) : Prop :=
  Q { s with x_from := (IntKind.wrap .i64 (s.x_at + (1 : Int))) } h

def r3 (s : St) (h : Heap) (Q : Bool → St → Heap → Prop) : Prop :=
  Q (decide (s.x_n ≥ (60 : Int))) s h

def r4 (s : St) (h : Heap) (Q : St → Heap → Prop) : Prop :=
  Q { s with x_bytes := (IntKind.wrap .i64 (s.x_n - (59 : Int))) } h

def r5 (s : St) (h : Heap) (Q : St → Heap → Prop) : Prop :=
  c_spec_little s.x_src s.x_from s.x_bytes h fun r2 h1 =>
  Q { s with x_n := r2 } h1

def r6 (s : St) (h : Heap) (Q : St → Heap → Prop) : Prop :=
  Q { s with x_from := (IntKind.wrap .i64 (s.x_from + s.x_bytes)) } h

def r7 (s : St) (h : Heap) (Q : Bool → St → Heap → Prop) : Prop :=
  Q (decide (s.x_n < (0 : Int))) s h

def r8 (s : St) (h : Heap) (Q : St → Heap → Prop) : Prop :=
  ptrE s.t4 fun a1 =>
  st1 (Addr.add a1 0) (.bool false) h fun h2 =>
  st1 (Addr.add a1 1) (.int .i64 (0 : Int)) h2 fun h3 =>
  st1 (Addr.add a1 2) (.int .i64 (0 : Int)) h3 fun h4 =>
  st1 (Addr.add a1 3) (.int .i64 (0 : Int)) h4 fun h5 =>
  st1 (Addr.add a1 4) (.bool false) h5 fun h6 =>
  st1 (Addr.add a1 5) (.int .i64 (0 : Int)) h6 fun h7 =>
  Q { s with t5 := false } h7

def r9 (s : St) (h : Heap) (Q : St → Heap → Prop) : Prop :=
  Q { s with x_n := (IntKind.wrap .i64 (s.x_n + (1 : Int))) } h

def r10 (s : St) (h : Heap) (Q : Bool → St → Heap → Prop) : Prop :=
  Q (decide (s.x_n > (IntKind.wrap .i64 (((s.x_src.n : Nat) : Int) - s.x_from)))) s h

def r11 (s : St) (h : Heap) (Q : St → Heap → Prop) : Prop :=
  ptrE s.t4 fun a1 =>
  st1 (Addr.add a1 0) (.bool false) h fun h2 =>
  st1 (Addr.add a1 1) (.int .i64 (0 : Int)) h2 fun h3 =>
  st1 (Addr.add a1 2) (.int .i64 (0 : Int)) h3 fun h4 =>
  st1 (Addr.add a1 3) (.int .i64 (0 : Int)) h4 fun h5 =>
  st1 (Addr.add a1 4) (.bool false) h5 fun h6 =>
  st1 (Addr.add a1 5) (.int .i64 (0 : Int)) h6 fun h7 =>
  Q { s with t5 := false } h7

def r12 (s : St) (h : Heap) (Q : St → Heap → Prop) : Prop :=
  ptrE s.t4 fun a1 =>
  st1 (Addr.add a1 0) (.bool true) h fun h2 =>
  st1 (Addr.add a1 1) (.int .i64 s.x_from) h2 fun h3 =>
  st1 (Addr.add a1 2) (.int .i64 (0 : Int)) h3 fun h4 =>
  st1 (Addr.add a1 3) (.int .i64 s.x_n) h4 fun h5 =>
  st1 (Addr.add a1 4) (.bool false) h5 fun h6 =>
  st1 (Addr.add a1 5) (.int .i64 (IntKind.wrap .i64 (s.x_from + s.x_n))) h6 fun h7 =>
  Q { s with t5 := true } h7

def k8 : Stm St := (.seq (.test r10 (.seq (.reg r11) .ret) .skip) (.seq (.reg r12) .ret))
def k7 : Stm St := (.seq (.reg r9) k8)
def k6 : Stm St := (.test r7 (.seq (.reg r8) .ret) .skip)
def k5 : Stm St := (.seq (.reg r6) k6)
def k4 : Stm St := (.seq (.reg r5) k5)
def k3 : Stm St := (.seq (.reg r4) k4)
def k2 : Stm St := (.seq (.test r3 k3 .skip) k7)
def k1 : Stm St := (.seq (.reg r2) k2)
def k0 : Stm St := (.seq (.reg r1) k1)

def stm : Stm St := (.seq (.reg r0) k0)

def ex : Ex → Pt St := fun _ => p0

set_option maxRecDepth 100000 in
theorem sim : Sim Pg 46 p1 (Tryd.f97.body.getD .skip) stm p0 ex :=
  (Sim.seq (Sim.reg (A := p1) (B := p2) (fun _ _ _ => by kernel_rfl))
  (Sim.seq (Sim.reg (A := p2) (B := p3) (fun _ _ _ => by kernel_rfl))
  (Sim.seq (Sim.reg (A := p3) (B := p4) (fun _ _ _ => by kernel_rfl))
  (Sim.seq (Sim.test (A := p4) (B := p4) (fun _ _ _ => by kernel_rfl) (Sim.seq (Sim.reg (A := p4) (B := p5) (fun _ _ _ => by kernel_rfl))
  (Sim.seq (Sim.reg (A := p5) (B := p6) (fun _ _ _ => by kernel_rfl))
  (Sim.seq (Sim.reg (A := p6) (B := p4) (fun _ _ _ => by kernel_rfl))
  (Sim.test (A := p4) (B := p4) (fun _ _ _ => by kernel_rfl) (Sim.seq (Sim.reg (A := p4) (B := p0) (fun _ _ _ => by kernel_rfl))
  (Sim.ret (A := p0) (E := ex) (fun _ => ⟨rfl, rfl, trivial⟩)))
  (Sim.skip (A := p4))))))
  (Sim.skip (A := p4)))
  (Sim.seq (Sim.reg (A := p4) (B := p4) (fun _ _ _ => by kernel_rfl))
  (Sim.seq (Sim.test (A := p4) (B := p7) (fun _ _ _ => by kernel_rfl) (Sim.seq (Sim.reg (A := p7) (B := p0) (fun _ _ _ => by kernel_rfl))
  (Sim.ret (A := p0) (E := ex) (fun _ => ⟨rfl, rfl, trivial⟩)))
  (Sim.skip (A := p7)))
  (Sim.seq (Sim.reg (A := p7) (B := p0) (fun _ _ _ => by kernel_rfl))
  (Sim.ret (A := p0) (E := ex) (fun _ => ⟨rfl, rfl, trivial⟩)))))))))

def init (x_src : Sl) (x_at : Int) : St := { x_src := x_src, x_at := x_at, t4 := none, t5 := false, x_n := 0, x_from := 0, x_bytes := 0 }

/-- What is left of the results. -/
def res (K : Bool → Int → Int → Int → Bool → Int → Bool → Heap → Prop) (s : St) (h1 : Heap) : Prop := ptrE s.t4 fun a1 => ∃ b1 : Bool, hcell h1 (Addr.add a1 0) = some (.bool b1) ∧ ∃ v1 : Int, hcell h1 (Addr.add a1 1) = some (.int .i64 v1) ∧ ∃ v2 : Int, hcell h1 (Addr.add a1 2) = some (.int .i64 v2) ∧ ∃ v3 : Int, hcell h1 (Addr.add a1 3) = some (.int .i64 v3) ∧ ∃ b2 : Bool, hcell h1 (Addr.add a1 4) = some (.bool b2) ∧ ∃ v4 : Int, hcell h1 (Addr.add a1 5) = some (.int .i64 v4) ∧ K b1 v1 v2 v3 b2 v4 s.t5 h1

/-- The call of 'pub-pemmican/spec.readLiteral'. -/
theorem calls (x_src : Sl) (x_at : Int) (h : Heap) (K : Bool → Int → Int → Int → Bool → Int → Bool → Heap → Prop)
    (H : stm (init x_src x_at) h (endK (res K))) : c_spec_readLiteral x_src x_at h K := by
  have hc : CallsH Pg 97 #[(.slice x_src.p x_src.n x_src.c), (.int .i64 x_at)] h fun v h1 => asT v fun l1 => asC l1 fun v1 l2 => asA v1 fun l3 => asC l3 fun v2 l4 => asB v2 fun b1 => asC l4 fun v3 l5 => asI .i64 v3 fun n1 => asC l5 fun v4 l6 => asI .i64 v4 fun n2 => asC l6 fun v5 l7 => asI .i64 v5 fun n3 => asC l7 fun v6 l8 => asB v6 fun b2 => asC l8 fun v7 l9 => asI .i64 v7 fun n4 => asN l9 (asC l2 fun v8 l10 => asB v8 fun b3 => asN l10 (K b1 n1 n2 n3 b2 n4 b3 h1)) :=
    callsH_of_sim (R := p0) (fn := Tryd.f97) (c := Tryd.f97.body.getD .skip) Tryd.func97 rfl Tryd.ntmps97 Tryd.call97 sim (init x_src x_at) (⟨rfl, rfl, trivial⟩) (Nat.le_of_ble_eq_true rfl) (fun _ => ⟨rfl, rfl, trivial⟩) rfl
      (res K) (fun _ _ => by kernel_rfl) H
  refine hc.mono ?_
  intro v hp H
  obtain ⟨l1, rfl, h1⟩ := asT_elim H
  obtain ⟨v1, l2, rfl, h2⟩ := asC_elim h1
  obtain ⟨l3, rfl, h3⟩ := asA_elim h2
  obtain ⟨v2, l4, rfl, h4⟩ := asC_elim h3
  obtain ⟨b1, rfl, h5⟩ := asB_elim h4
  obtain ⟨v3, l5, rfl, h6⟩ := asC_elim h5
  obtain ⟨n1, rfl, h7⟩ := asI_elim h6
  obtain ⟨v4, l6, rfl, h8⟩ := asC_elim h7
  obtain ⟨n2, rfl, h9⟩ := asI_elim h8
  obtain ⟨v5, l7, rfl, h10⟩ := asC_elim h9
  obtain ⟨n3, rfl, h11⟩ := asI_elim h10
  obtain ⟨v6, l8, rfl, h12⟩ := asC_elim h11
  obtain ⟨b2, rfl, h13⟩ := asB_elim h12
  obtain ⟨v7, l9, rfl, h14⟩ := asC_elim h13
  obtain ⟨n4, rfl, h15⟩ := asI_elim h14
  obtain ⟨rfl, h16⟩ := asN_elim h15
  obtain ⟨v8, l10, rfl, h17⟩ := asC_elim h16
  obtain ⟨b3, rfl, h18⟩ := asB_elim h17
  obtain ⟨rfl, h19⟩ := asN_elim h18
  exact ⟨_, _, _, _, _, _, _, rfl, h19⟩

end M_spec_readLiteral

end Go.Proofs.YtibleenkgmkpmaaDoor

namespace Go.Proofs.YtibleenkgmkpmaaDoor
open Go Go.Vc Go.Proofs

namespace M_spec_readElement

structure St where
  x_src : Sl
  x_at : Int
  x_s2 : Bool
  t6 : Option Addr
  t7 : Bool
  x_tag : Int
  x_low : Int
  x_e : Option Addr
  x_bytes : Int
  x_more : Int
  x_eq13 : Option Addr
  x_eq14 : Option Addr
  t21 : Int

def p0 : Pt St where
  env s := [(6, (.pointer s.t6)), (7, (.bool s.t7))]
  fin e s K := getV e 6 fun v1 => asP v1 fun p1 => getV e 7 fun v2 => asB v2 fun b1 => K { s with t6 := p1, t7 := b1 }
  ok := by
    intro e s K h0
    obtain ⟨w1, g1, h1⟩ := getV_elim h0
    obtain ⟨p1, rfl, h2⟩ := asP_elim h1
    obtain ⟨w2, g2, h3⟩ := getV_elim h2
    obtain ⟨b1, rfl, h4⟩ := asB_elim h3
    exact ⟨_, ⟨g1, g2, trivial⟩, h4⟩

def p1 : Pt St where
  env s := [(0, (.slice s.x_src.p s.x_src.n s.x_src.c)), (1, (.int .i64 s.x_at)), (2, (.bool s.x_s2))]
  fin e s K := getV e 0 fun v1 => asS v1 fun p1 n1 c1 => getV e 1 fun v2 => asI .i64 v2 fun n2 => getV e 2 fun v3 => asB v3 fun b1 => K { s with x_src := ⟨p1, n1, c1⟩, x_at := n2, x_s2 := b1 }
  ok := by
    intro e s K h0
    obtain ⟨w1, g1, h1⟩ := getV_elim h0
    obtain ⟨p1, n1, c1, rfl, h2⟩ := asS_elim h1
    obtain ⟨w2, g2, h3⟩ := getV_elim h2
    obtain ⟨n2, rfl, h4⟩ := asI_elim h3
    obtain ⟨w3, g3, h5⟩ := getV_elim h4
    obtain ⟨b1, rfl, h6⟩ := asB_elim h5
    exact ⟨_, ⟨g1, g2, g3, trivial⟩, h6⟩

def p2 : Pt St where
  env s := [(0, (.slice s.x_src.p s.x_src.n s.x_src.c)), (1, (.int .i64 s.x_at)), (2, (.bool s.x_s2)), (6, (.pointer s.t6))]
  fin e s K := getV e 0 fun v1 => asS v1 fun p1 n1 c1 => getV e 1 fun v2 => asI .i64 v2 fun n2 => getV e 2 fun v3 => asB v3 fun b1 => getV e 6 fun v4 => asP v4 fun p2 => K { s with x_src := ⟨p1, n1, c1⟩, x_at := n2, x_s2 := b1, t6 := p2 }
  ok := by
    intro e s K h0
    obtain ⟨w1, g1, h1⟩ := getV_elim h0
    obtain ⟨p1, n1, c1, rfl, h2⟩ := asS_elim h1
    obtain ⟨w2, g2, h3⟩ := getV_elim h2
    obtain ⟨n2, rfl, h4⟩ := asI_elim h3
    obtain ⟨w3, g3, h5⟩ := getV_elim h4
    obtain ⟨b1, rfl, h6⟩ := asB_elim h5
    obtain ⟨w4, g4, h7⟩ := getV_elim h6
    obtain ⟨p2, rfl, h8⟩ := asP_elim h7
    exact ⟨_, ⟨g1, g2, g3, g4, trivial⟩, h8⟩

def p3 : Pt St where
  env s := [(0, (.slice s.x_src.p s.x_src.n s.x_src.c)), (1, (.int .i64 s.x_at)), (2, (.bool s.x_s2)), (6, (.pointer s.t6)), (8, (.int .i64 s.x_tag))]
  fin e s K := getV e 0 fun v1 => asS v1 fun p1 n1 c1 => getV e 1 fun v2 => asI .i64 v2 fun n2 => getV e 2 fun v3 => asB v3 fun b1 => getV e 6 fun v4 => asP v4 fun p2 => getV e 8 fun v5 => asI .i64 v5 fun n3 => K { s with x_src := ⟨p1, n1, c1⟩, x_at := n2, x_s2 := b1, t6 := p2, x_tag := n3 }
  ok := by
    intro e s K h0
    obtain ⟨w1, g1, h1⟩ := getV_elim h0
    obtain ⟨p1, n1, c1, rfl, h2⟩ := asS_elim h1
    obtain ⟨w2, g2, h3⟩ := getV_elim h2
    obtain ⟨n2, rfl, h4⟩ := asI_elim h3
    obtain ⟨w3, g3, h5⟩ := getV_elim h4
    obtain ⟨b1, rfl, h6⟩ := asB_elim h5
    obtain ⟨w4, g4, h7⟩ := getV_elim h6
    obtain ⟨p2, rfl, h8⟩ := asP_elim h7
    obtain ⟨w5, g5, h9⟩ := getV_elim h8
    obtain ⟨n3, rfl, h10⟩ := asI_elim h9
    exact ⟨_, ⟨g1, g2, g3, g4, g5, trivial⟩, h10⟩

def p4 : Pt St where
  env s := [(0, (.slice s.x_src.p s.x_src.n s.x_src.c)), (1, (.int .i64 s.x_at)), (2, (.bool s.x_s2)), (6, (.pointer s.t6)), (8, (.int .i64 s.x_tag)), (21, (.int .i64 s.t21))]
  fin e s K := getV e 0 fun v1 => asS v1 fun p1 n1 c1 => getV e 1 fun v2 => asI .i64 v2 fun n2 => getV e 2 fun v3 => asB v3 fun b1 => getV e 6 fun v4 => asP v4 fun p2 => getV e 8 fun v5 => asI .i64 v5 fun n3 => getV e 21 fun v6 => asI .i64 v6 fun n4 => K { s with x_src := ⟨p1, n1, c1⟩, x_at := n2, x_s2 := b1, t6 := p2, x_tag := n3, t21 := n4 }
  ok := by
    intro e s K h0
    obtain ⟨w1, g1, h1⟩ := getV_elim h0
    obtain ⟨p1, n1, c1, rfl, h2⟩ := asS_elim h1
    obtain ⟨w2, g2, h3⟩ := getV_elim h2
    obtain ⟨n2, rfl, h4⟩ := asI_elim h3
    obtain ⟨w3, g3, h5⟩ := getV_elim h4
    obtain ⟨b1, rfl, h6⟩ := asB_elim h5
    obtain ⟨w4, g4, h7⟩ := getV_elim h6
    obtain ⟨p2, rfl, h8⟩ := asP_elim h7
    obtain ⟨w5, g5, h9⟩ := getV_elim h8
    obtain ⟨n3, rfl, h10⟩ := asI_elim h9
    obtain ⟨w6, g6, h11⟩ := getV_elim h10
    obtain ⟨n4, rfl, h12⟩ := asI_elim h11
    exact ⟨_, ⟨g1, g2, g3, g4, g5, g6, trivial⟩, h12⟩

def p5 : Pt St where
  env s := [(0, (.slice s.x_src.p s.x_src.n s.x_src.c)), (1, (.int .i64 s.x_at)), (6, (.pointer s.t6)), (8, (.int .i64 s.x_tag))]
  fin e s K := getV e 0 fun v1 => asS v1 fun p1 n1 c1 => getV e 1 fun v2 => asI .i64 v2 fun n2 => getV e 6 fun v3 => asP v3 fun p2 => getV e 8 fun v4 => asI .i64 v4 fun n3 => K { s with x_src := ⟨p1, n1, c1⟩, x_at := n2, t6 := p2, x_tag := n3 }
  ok := by
    intro e s K h0
    obtain ⟨w1, g1, h1⟩ := getV_elim h0
    obtain ⟨p1, n1, c1, rfl, h2⟩ := asS_elim h1
    obtain ⟨w2, g2, h3⟩ := getV_elim h2
    obtain ⟨n2, rfl, h4⟩ := asI_elim h3
    obtain ⟨w3, g3, h5⟩ := getV_elim h4
    obtain ⟨p2, rfl, h6⟩ := asP_elim h5
    obtain ⟨w4, g4, h7⟩ := getV_elim h6
    obtain ⟨n3, rfl, h8⟩ := asI_elim h7
    exact ⟨_, ⟨g1, g2, g3, g4, trivial⟩, h8⟩

def p6 : Pt St where
  env s := [(0, (.slice s.x_src.p s.x_src.n s.x_src.c)), (1, (.int .i64 s.x_at)), (2, (.bool s.x_s2)), (6, (.pointer s.t6)), (8, (.int .i64 s.x_tag)), (9, (.int .i64 s.x_low))]
  fin e s K := getV e 0 fun v1 => asS v1 fun p1 n1 c1 => getV e 1 fun v2 => asI .i64 v2 fun n2 => getV e 2 fun v3 => asB v3 fun b1 => getV e 6 fun v4 => asP v4 fun p2 => getV e 8 fun v5 => asI .i64 v5 fun n3 => getV e 9 fun v6 => asI .i64 v6 fun n4 => K { s with x_src := ⟨p1, n1, c1⟩, x_at := n2, x_s2 := b1, t6 := p2, x_tag := n3, x_low := n4 }
  ok := by
    intro e s K h0
    obtain ⟨w1, g1, h1⟩ := getV_elim h0
    obtain ⟨p1, n1, c1, rfl, h2⟩ := asS_elim h1
    obtain ⟨w2, g2, h3⟩ := getV_elim h2
    obtain ⟨n2, rfl, h4⟩ := asI_elim h3
    obtain ⟨w3, g3, h5⟩ := getV_elim h4
    obtain ⟨b1, rfl, h6⟩ := asB_elim h5
    obtain ⟨w4, g4, h7⟩ := getV_elim h6
    obtain ⟨p2, rfl, h8⟩ := asP_elim h7
    obtain ⟨w5, g5, h9⟩ := getV_elim h8
    obtain ⟨n3, rfl, h10⟩ := asI_elim h9
    obtain ⟨w6, g6, h11⟩ := getV_elim h10
    obtain ⟨n4, rfl, h12⟩ := asI_elim h11
    exact ⟨_, ⟨g1, g2, g3, g4, g5, g6, trivial⟩, h12⟩

def p7 : Pt St where
  env s := [(0, (.slice s.x_src.p s.x_src.n s.x_src.c)), (2, (.bool s.x_s2)), (6, (.pointer s.t6)), (8, (.int .i64 s.x_tag)), (9, (.int .i64 s.x_low)), (10, (.pointer s.x_e))]
  fin e s K := getV e 0 fun v1 => asS v1 fun p1 n1 c1 => getV e 2 fun v2 => asB v2 fun b1 => getV e 6 fun v3 => asP v3 fun p2 => getV e 8 fun v4 => asI .i64 v4 fun n2 => getV e 9 fun v5 => asI .i64 v5 fun n3 => getV e 10 fun v6 => asP v6 fun p3 => K { s with x_src := ⟨p1, n1, c1⟩, x_s2 := b1, t6 := p2, x_tag := n2, x_low := n3, x_e := p3 }
  ok := by
    intro e s K h0
    obtain ⟨w1, g1, h1⟩ := getV_elim h0
    obtain ⟨p1, n1, c1, rfl, h2⟩ := asS_elim h1
    obtain ⟨w2, g2, h3⟩ := getV_elim h2
    obtain ⟨b1, rfl, h4⟩ := asB_elim h3
    obtain ⟨w3, g3, h5⟩ := getV_elim h4
    obtain ⟨p2, rfl, h6⟩ := asP_elim h5
    obtain ⟨w4, g4, h7⟩ := getV_elim h6
    obtain ⟨n2, rfl, h8⟩ := asI_elim h7
    obtain ⟨w5, g5, h9⟩ := getV_elim h8
    obtain ⟨n3, rfl, h10⟩ := asI_elim h9
    obtain ⟨w6, g6, h11⟩ := getV_elim h10
    obtain ⟨p3, rfl, h12⟩ := asP_elim h11
    exact ⟨_, ⟨g1, g2, g3, g4, g5, g6, trivial⟩, h12⟩

def p8 : Pt St where
  env s := [(0, (.slice s.x_src.p s.x_src.n s.x_src.c)), (2, (.bool s.x_s2)), (6, (.pointer s.t6)), (8, (.int .i64 s.x_tag)), (10, (.pointer s.x_e))]
  fin e s K := getV e 0 fun v1 => asS v1 fun p1 n1 c1 => getV e 2 fun v2 => asB v2 fun b1 => getV e 6 fun v3 => asP v3 fun p2 => getV e 8 fun v4 => asI .i64 v4 fun n2 => getV e 10 fun v5 => asP v5 fun p3 => K { s with x_src := ⟨p1, n1, c1⟩, x_s2 := b1, t6 := p2, x_tag := n2, x_e := p3 }
  ok := by
    intro e s K h0
    obtain ⟨w1, g1, h1⟩ := getV_elim h0
    obtain ⟨p1, n1, c1, rfl, h2⟩ := asS_elim h1
    obtain ⟨w2, g2, h3⟩ := getV_elim h2
    obtain ⟨b1, rfl, h4⟩ := asB_elim h3
    obtain ⟨w3, g3, h5⟩ := getV_elim h4
    obtain ⟨p2, rfl, h6⟩ := asP_elim h5
    obtain ⟨w4, g4, h7⟩ := getV_elim h6
    obtain ⟨n2, rfl, h8⟩ := asI_elim h7
    obtain ⟨w5, g5, h9⟩ := getV_elim h8
    obtain ⟨p3, rfl, h10⟩ := asP_elim h9
    exact ⟨_, ⟨g1, g2, g3, g4, g5, trivial⟩, h10⟩

def p9 : Pt St where
  env s := [(0, (.slice s.x_src.p s.x_src.n s.x_src.c)), (6, (.pointer s.t6)), (8, (.int .i64 s.x_tag)), (10, (.pointer s.x_e))]
  fin e s K := getV e 0 fun v1 => asS v1 fun p1 n1 c1 => getV e 6 fun v2 => asP v2 fun p2 => getV e 8 fun v3 => asI .i64 v3 fun n2 => getV e 10 fun v4 => asP v4 fun p3 => K { s with x_src := ⟨p1, n1, c1⟩, t6 := p2, x_tag := n2, x_e := p3 }
  ok := by
    intro e s K h0
    obtain ⟨w1, g1, h1⟩ := getV_elim h0
    obtain ⟨p1, n1, c1, rfl, h2⟩ := asS_elim h1
    obtain ⟨w2, g2, h3⟩ := getV_elim h2
    obtain ⟨p2, rfl, h4⟩ := asP_elim h3
    obtain ⟨w3, g3, h5⟩ := getV_elim h4
    obtain ⟨n2, rfl, h6⟩ := asI_elim h5
    obtain ⟨w4, g4, h7⟩ := getV_elim h6
    obtain ⟨p3, rfl, h8⟩ := asP_elim h7
    exact ⟨_, ⟨g1, g2, g3, g4, trivial⟩, h8⟩

def p10 : Pt St where
  env s := [(0, (.slice s.x_src.p s.x_src.n s.x_src.c)), (6, (.pointer s.t6)), (10, (.pointer s.x_e)), (11, (.int .i64 s.x_bytes))]
  fin e s K := getV e 0 fun v1 => asS v1 fun p1 n1 c1 => getV e 6 fun v2 => asP v2 fun p2 => getV e 10 fun v3 => asP v3 fun p3 => getV e 11 fun v4 => asI .i64 v4 fun n2 => K { s with x_src := ⟨p1, n1, c1⟩, t6 := p2, x_e := p3, x_bytes := n2 }
  ok := by
    intro e s K h0
    obtain ⟨w1, g1, h1⟩ := getV_elim h0
    obtain ⟨p1, n1, c1, rfl, h2⟩ := asS_elim h1
    obtain ⟨w2, g2, h3⟩ := getV_elim h2
    obtain ⟨p2, rfl, h4⟩ := asP_elim h3
    obtain ⟨w3, g3, h5⟩ := getV_elim h4
    obtain ⟨p3, rfl, h6⟩ := asP_elim h5
    obtain ⟨w4, g4, h7⟩ := getV_elim h6
    obtain ⟨n2, rfl, h8⟩ := asI_elim h7
    exact ⟨_, ⟨g1, g2, g3, g4, trivial⟩, h8⟩

def p11 : Pt St where
  env s := [(6, (.pointer s.t6)), (10, (.pointer s.x_e)), (11, (.int .i64 s.x_bytes)), (12, (.int .i64 s.x_more))]
  fin e s K := getV e 6 fun v1 => asP v1 fun p1 => getV e 10 fun v2 => asP v2 fun p2 => getV e 11 fun v3 => asI .i64 v3 fun n1 => getV e 12 fun v4 => asI .i64 v4 fun n2 => K { s with t6 := p1, x_e := p2, x_bytes := n1, x_more := n2 }
  ok := by
    intro e s K h0
    obtain ⟨w1, g1, h1⟩ := getV_elim h0
    obtain ⟨p1, rfl, h2⟩ := asP_elim h1
    obtain ⟨w2, g2, h3⟩ := getV_elim h2
    obtain ⟨p2, rfl, h4⟩ := asP_elim h3
    obtain ⟨w3, g3, h5⟩ := getV_elim h4
    obtain ⟨n1, rfl, h6⟩ := asI_elim h5
    obtain ⟨w4, g4, h7⟩ := getV_elim h6
    obtain ⟨n2, rfl, h8⟩ := asI_elim h7
    exact ⟨_, ⟨g1, g2, g3, g4, trivial⟩, h8⟩

def p12 : Pt St where
  env s := [(6, (.pointer s.t6)), (10, (.pointer s.x_e)), (11, (.int .i64 s.x_bytes))]
  fin e s K := getV e 6 fun v1 => asP v1 fun p1 => getV e 10 fun v2 => asP v2 fun p2 => getV e 11 fun v3 => asI .i64 v3 fun n1 => K { s with t6 := p1, x_e := p2, x_bytes := n1 }
  ok := by
    intro e s K h0
    obtain ⟨w1, g1, h1⟩ := getV_elim h0
    obtain ⟨p1, rfl, h2⟩ := asP_elim h1
    obtain ⟨w2, g2, h3⟩ := getV_elim h2
    obtain ⟨p2, rfl, h4⟩ := asP_elim h3
    obtain ⟨w3, g3, h5⟩ := getV_elim h4
    obtain ⟨n1, rfl, h6⟩ := asI_elim h5
    exact ⟨_, ⟨g1, g2, g3, trivial⟩, h6⟩

def p13 : Pt St where
  env s := [(6, (.pointer s.t6)), (10, (.pointer s.x_e))]
  fin e s K := getV e 6 fun v1 => asP v1 fun p1 => getV e 10 fun v2 => asP v2 fun p2 => K { s with t6 := p1, x_e := p2 }
  ok := by
    intro e s K h0
    obtain ⟨w1, g1, h1⟩ := getV_elim h0
    obtain ⟨p1, rfl, h2⟩ := asP_elim h1
    obtain ⟨w2, g2, h3⟩ := getV_elim h2
    obtain ⟨p2, rfl, h4⟩ := asP_elim h3
    exact ⟨_, ⟨g1, g2, trivial⟩, h4⟩

def p14 : Pt St where
  env s := [(6, (.pointer s.t6)), (13, (.pointer s.x_eq13))]
  fin e s K := getV e 6 fun v1 => asP v1 fun p1 => getV e 13 fun v2 => asP v2 fun p2 => K { s with t6 := p1, x_eq13 := p2 }
  ok := by
    intro e s K h0
    obtain ⟨w1, g1, h1⟩ := getV_elim h0
    obtain ⟨p1, rfl, h2⟩ := asP_elim h1
    obtain ⟨w2, g2, h3⟩ := getV_elim h2
    obtain ⟨p2, rfl, h4⟩ := asP_elim h3
    exact ⟨_, ⟨g1, g2, trivial⟩, h4⟩

def p15 : Pt St where
  env s := [(6, (.pointer s.t6)), (14, (.pointer s.x_eq14))]
  fin e s K := getV e 6 fun v1 => asP v1 fun p1 => getV e 14 fun v2 => asP v2 fun p2 => K { s with t6 := p1, x_eq14 := p2 }
  ok := by
    intro e s K h0
    obtain ⟨w1, g1, h1⟩ := getV_elim h0
    obtain ⟨p1, rfl, h2⟩ := asP_elim h1
    obtain ⟨w2, g2, h3⟩ := getV_elim h2
    obtain ⟨p2, rfl, h4⟩ := asP_elim h3
    exact ⟨_, ⟨g1, g2, trivial⟩, h4⟩

def r0 (s : St) (h : Heap) (Q : St → Heap → Prop) : Prop :=
  withH (hnew h (zcells Pg 113) 113) fun h1 =>
  Q { s with t6 := (some ⟨Array.size h, 0, none⟩) } h1

def r1 (s : St) (h : Heap) (Q : St → Heap → Prop) : Prop :=
  0 ≤ s.x_at ∧ s.x_at < ((s.x_src.n : Nat) : Int) ∧
  ptrE s.x_src.p fun a1 =>
  ∃ v2 : Int, hcell h (Addr.add a1 (Int.toNat s.x_at * 1)) = some (.int .u8 v2) ∧
  Q { s with x_tag := (IntKind.wrap .i64 v2) } h

def r2 (s : St) (h : Heap) (Q : St → Heap → Prop) : Prop :=
  Q { s with t21 := (bAnd .i64 s.x_tag (3 : Int)) } h

def r3 (s : St) (h : Heap) (Q : Bool → St → Heap → Prop) : Prop :=
  Q (s.t21 == (0 : Int)) s h

def r4 (s : St) (h : Heap) (Q : St → Heap → Prop) : Prop :=
  c_spec_readLiteral s.x_src s.x_at h fun b2 r3 r4 r5 b6 r7 b8 h1 =>
  ptrE s.t6 fun a9 =>
  st1 (Addr.add a9 0) (.bool b2) h1 fun h10 =>
  st1 (Addr.add a9 1) (.int .i64 r3) h10 fun h11 =>
  st1 (Addr.add a9 2) (.int .i64 r4) h11 fun h12 =>
  st1 (Addr.add a9 3) (.int .i64 r5) h12 fun h13 =>
  st1 (Addr.add a9 4) (.bool b6) h13 fun h14 =>
  st1 (Addr.add a9 5) (.int .i64 r7) h14 fun h15 =>
  Q { s with t7 := b8 } h15

def r5 (s : St) (h : Heap) (Q : Bool → St → Heap → Prop) : Prop :=
  Q (s.t21 == (1 : Int)) s h

def r6 (s : St) (h : Heap) (Q : St → Heap → Prop) : Prop :=
  c_spec_little s.x_src (IntKind.wrap .i64 (s.x_at + (1 : Int))) (1 : Int) h fun r2 h1 =>
  Q { s with x_low := r2 } h1

def r7 (s : St) (h : Heap) (Q : St → Heap → Prop) : Prop :=
  withH (hnew h (zcells Pg 113) 113) fun h1 =>
  st1 (Addr.add ⟨Array.size h, 0, none⟩ 0) (.bool false) h1 fun h2 =>
  st1 (Addr.add ⟨Array.size h, 0, none⟩ 1) (.int .i64 (0 : Int)) h2 fun h3 =>
  st1 (Addr.add ⟨Array.size h, 0, none⟩ 2) (.int .i64 (IntKind.wrap .i64 ((IntKind.wrap .i64 ((Int.fdiv s.x_tag (2 ^ (5 : Nat))) * 2 ^ (8 : Nat))) + s.x_low))) h3 fun h4 =>
  st1 (Addr.add ⟨Array.size h, 0, none⟩ 3) (.int .i64 (IntKind.wrap .i64 ((bAnd .i64 (Int.fdiv s.x_tag (2 ^ (2 : Nat))) (7 : Int)) + (4 : Int)))) h4 fun h5 =>
  st1 (Addr.add ⟨Array.size h, 0, none⟩ 4) (.bool false) h5 fun h6 =>
  st1 (Addr.add ⟨Array.size h, 0, none⟩ 5) (.int .i64 (IntKind.wrap .i64 (s.x_at + (2 : Int)))) h6 fun h7 =>
  Q { s with x_e := (some ⟨Array.size h, 0, none⟩) } h7

def r8 (s : St) (h : Heap) (Q : Bool → St → Heap → Prop) : Prop :=
  Q (decide (s.x_low < (0 : Int))) s h

def r9 (s : St) (h : Heap) (Q : St → Heap → Prop) : Prop :=
  ptrE s.t6 fun a1 =>
  st1 (Addr.add a1 0) (.bool false) h fun h2 =>
  st1 (Addr.add a1 1) (.int .i64 (0 : Int)) h2 fun h3 =>
  st1 (Addr.add a1 2) (.int .i64 (0 : Int)) h3 fun h4 =>
  st1 (Addr.add a1 3) (.int .i64 (0 : Int)) h4 fun h5 =>
  st1 (Addr.add a1 4) (.bool false) h5 fun h6 =>
  st1 (Addr.add a1 5) (.int .i64 (0 : Int)) h6 fun h7 =>
  Q { s with t7 := false } h7

def r10 (s : St) (h : Heap) (Q : Bool → St → Heap → Prop) : Prop :=
  ptrE s.x_e fun a1 =>
  ∃ v2 : Int, hcell h (Addr.add a1 2) = some (.int .i64 v2) ∧
  (if (decide (v2 > (0 : Int))) = false then
  (Q (!s.x_s2) s h)
  else
  (Q true s h))

def r11 (s : St) (h : Heap) (Q : St → Heap → Prop) : Prop :=
  ptrE s.x_e fun a1 =>
  ∃ b2 : Bool, hcell h (Addr.add a1 0) = some (.bool b2) ∧
  ∃ v3 : Int, hcell h (Addr.add a1 1) = some (.int .i64 v3) ∧
  ∃ v4 : Int, hcell h (Addr.add a1 2) = some (.int .i64 v4) ∧
  ∃ v5 : Int, hcell h (Addr.add a1 3) = some (.int .i64 v5) ∧
  ∃ b6 : Bool, hcell h (Addr.add a1 4) = some (.bool b6) ∧
  ∃ v7 : Int, hcell h (Addr.add a1 5) = some (.int .i64 v7) ∧
  ptrE s.t6 fun a8 =>
  st1 (Addr.add a8 0) (.bool b2) h fun h9 =>
  st1 (Addr.add a8 1) (.int .i64 v3) h9 fun h10 =>
  st1 (Addr.add a8 2) (.int .i64 v4) h10 fun h11 =>
  st1 (Addr.add a8 3) (.int .i64 v5) h11 fun h12 =>
  st1 (Addr.add a8 4) (.bool b6) h12 fun h13 =>
  st1 (Addr.add a8 5) (.int .i64 v7) h13 fun h14 =>
  Q { s with t7 := true } h14

def r12 (s : St) (h : Heap) (Q : St → Heap → Prop) : Prop :=
  ptrE s.x_e fun a1 =>
  st1 (Addr.add (Addr.add a1 4) 0) (.bool true) h fun h2 =>
  Q s h2

def r13 (s : St) (h : Heap) (Q : St → Heap → Prop) : Prop :=
  Q { s with x_bytes := (IntKind.wrap .i64 ((bAnd .i64 (Int.fdiv s.x_tag (2 ^ (2 : Nat))) (7 : Int)) - (4 : Int))) } h

def r14 (s : St) (h : Heap) (Q : Bool → St → Heap → Prop) : Prop :=
  Q (decide (s.x_bytes ≤ (0 : Int))) s h

def r15 (s : St) (h : Heap) (Q : St → Heap → Prop) : Prop :=
  ptrE s.x_e fun a1 =>
  ∃ b2 : Bool, hcell h (Addr.add a1 0) = some (.bool b2) ∧
  ∃ v3 : Int, hcell h (Addr.add a1 1) = some (.int .i64 v3) ∧
  ∃ v4 : Int, hcell h (Addr.add a1 2) = some (.int .i64 v4) ∧
  ∃ v5 : Int, hcell h (Addr.add a1 3) = some (.int .i64 v5) ∧
  ∃ b6 : Bool, hcell h (Addr.add a1 4) = some (.bool b6) ∧
  ∃ v7 : Int, hcell h (Addr.add a1 5) = some (.int .i64 v7) ∧
  ptrE s.t6 fun a8 =>
  st1 (Addr.add a8 0) (.bool b2) h fun h9 =>
  st1 (Addr.add a8 1) (.int .i64 v3) h9 fun h10 =>
  st1 (Addr.add a8 2) (.int .i64 v4) h10 fun h11 =>
  st1 (Addr.add a8 3) (.int .i64 v5) h11 fun h12 =>
  st1 (Addr.add a8 4) (.bool b6) h12 fun h13 =>
  st1 (Addr.add a8 5) (.int .i64 v7) h13 fun h14 =>
  Q { s with t7 := true } h14

def r16 (s : St) (h : Heap) (Q : St → Heap → Prop) : Prop :=
  ptrE s.x_e fun a1 =>
  ∃ v2 : Int, hcell h (Addr.add a1 5) = some (.int .i64 v2) ∧
  c_spec_little s.x_src v2 s.x_bytes h fun r4 h3 =>
  Q { s with x_more := r4 } h3

def r17 (s : St) (h : Heap) (Q : Bool → St → Heap → Prop) : Prop :=
  Q (decide (s.x_more < (0 : Int))) s h

def r18 (s : St) (h : Heap) (Q : St → Heap → Prop) : Prop :=
  ptrE s.t6 fun a1 =>
  st1 (Addr.add a1 0) (.bool false) h fun h2 =>
  st1 (Addr.add a1 1) (.int .i64 (0 : Int)) h2 fun h3 =>
  st1 (Addr.add a1 2) (.int .i64 (0 : Int)) h3 fun h4 =>
  st1 (Addr.add a1 3) (.int .i64 (0 : Int)) h4 fun h5 =>
  st1 (Addr.add a1 4) (.bool false) h5 fun h6 =>
  st1 (Addr.add a1 5) (.int .i64 (0 : Int)) h6 fun h7 =>
  Q { s with t7 := false } h7

def r19 (s : St) (h : Heap) (Q : St → Heap → Prop) : Prop :=
  withH (hnew h [(.int .i64 (0 : Int)), (.int .i64 (8 : Int)), (.int .i64 (260 : Int)), (.int .i64 (65540 : Int))] 3) fun h1 =>
  0 ≤ s.x_bytes ∧ s.x_bytes < ((4 : Nat) : Int) ∧
  ∃ v2 : Int, hcell h1 (Addr.add ⟨Array.size h, 0, none⟩ (Int.toNat s.x_bytes * 1)) = some (.int .i64 v2) ∧
  ptrE s.x_e fun a3 =>
  st1 (Addr.add (Addr.add a3 3) 0) (.int .i64 (IntKind.wrap .i64 (s.x_more + v2))) h1 fun h4 =>
  Q s h4

def r20 (s : St) (h : Heap) (Q : St → Heap → Prop) : Prop :=
  ptrE s.x_e fun a1 =>
  ∃ v2 : Int, hcell h (Addr.add a1 5) = some (.int .i64 v2) ∧
  ptrE s.x_e fun a3 =>
  st1 (Addr.add (Addr.add a3 5) 0) (.int .i64 (IntKind.wrap .i64 (v2 + s.x_bytes))) h fun h4 =>
  Q s h4

def r21 (s : St) (h : Heap) (Q : St → Heap → Prop) : Prop :=
  ptrE s.x_e fun a1 =>
  ∃ b2 : Bool, hcell h (Addr.add a1 0) = some (.bool b2) ∧
  ∃ v3 : Int, hcell h (Addr.add a1 1) = some (.int .i64 v3) ∧
  ∃ v4 : Int, hcell h (Addr.add a1 2) = some (.int .i64 v4) ∧
  ∃ v5 : Int, hcell h (Addr.add a1 3) = some (.int .i64 v5) ∧
  ∃ b6 : Bool, hcell h (Addr.add a1 4) = some (.bool b6) ∧
  ∃ v7 : Int, hcell h (Addr.add a1 5) = some (.int .i64 v7) ∧
  ptrE s.t6 fun a8 =>
  st1 (Addr.add a8 0) (.bool b2) h fun h9 =>
  st1 (Addr.add a8 1) (.int .i64 v3) h9 fun h10 =>
  st1 (Addr.add a8 2) (.int .i64 v4) h10 fun h11 =>
  st1 (Addr.add a8 3) (.int .i64 v5) h11 fun h12 =>
  st1 (Addr.add a8 4) (.bool b6) h12 fun h13 =>
  st1 (Addr.add a8 5) (.int .i64 v7) h13 fun h14 =>
  Q { s with t7 := true } h14

def r22 (s : St) (h : Heap) (Q : Bool → St → Heap → Prop) : Prop :=
  Q (s.t21 == (2 : Int)) s h

def r23 (s : St) (h : Heap) (Q : St → Heap → Prop) : Prop :=
  c_spec_little s.x_src (IntKind.wrap .i64 (s.x_at + (1 : Int))) (2 : Int) h fun r2 h1 =>
  withH (hnew h1 (zcells Pg 113) 113) fun h3 =>
  st1 (Addr.add ⟨Array.size h1, 0, none⟩ 0) (.bool false) h3 fun h4 =>
  st1 (Addr.add ⟨Array.size h1, 0, none⟩ 1) (.int .i64 (0 : Int)) h4 fun h5 =>
  st1 (Addr.add ⟨Array.size h1, 0, none⟩ 2) (.int .i64 r2) h5 fun h6 =>
  st1 (Addr.add ⟨Array.size h1, 0, none⟩ 3) (.int .i64 (IntKind.wrap .i64 ((Int.fdiv s.x_tag (2 ^ (2 : Nat))) + (1 : Int)))) h6 fun h7 =>
  st1 (Addr.add ⟨Array.size h1, 0, none⟩ 4) (.bool false) h7 fun h8 =>
  st1 (Addr.add ⟨Array.size h1, 0, none⟩ 5) (.int .i64 (IntKind.wrap .i64 (s.x_at + (3 : Int)))) h8 fun h9 =>
  Q { s with x_eq13 := (some ⟨Array.size h1, 0, none⟩) } h9

def r24 (s : St) (h : Heap) (Q : St → Heap → Prop) : Prop :=
  ptrE s.x_eq13 fun a1 =>
  ∃ b2 : Bool, hcell h (Addr.add a1 0) = some (.bool b2) ∧
  ∃ v3 : Int, hcell h (Addr.add a1 1) = some (.int .i64 v3) ∧
  ∃ v4 : Int, hcell h (Addr.add a1 2) = some (.int .i64 v4) ∧
  ∃ v5 : Int, hcell h (Addr.add a1 3) = some (.int .i64 v5) ∧
  ∃ b6 : Bool, hcell h (Addr.add a1 4) = some (.bool b6) ∧
  ∃ v7 : Int, hcell h (Addr.add a1 5) = some (.int .i64 v7) ∧
  ptrE s.x_eq13 fun a8 =>
  (∃ v9 : Int, hcell h (Addr.add a8 2) = some (.int .i64 v9) ∧
  ptrE s.t6 fun a10 =>
  st1 (Addr.add a10 0) (.bool b2) h fun h11 =>
  st1 (Addr.add a10 1) (.int .i64 v3) h11 fun h12 =>
  st1 (Addr.add a10 2) (.int .i64 v4) h12 fun h13 =>
  st1 (Addr.add a10 3) (.int .i64 v5) h13 fun h14 =>
  st1 (Addr.add a10 4) (.bool b6) h14 fun h15 =>
  st1 (Addr.add a10 5) (.int .i64 v7) h15 fun h16 =>
  Q { s with t7 := (decide (v9 ≥ (0 : Int))) } h16) ∧
  (ptrE s.t6 fun a17 =>
  st1 (Addr.add a17 0) (.bool b2) h fun h18 =>
  st1 (Addr.add a17 1) (.int .i64 v3) h18 fun h19 =>
  st1 (Addr.add a17 2) (.int .i64 v4) h19 fun h20 =>
  st1 (Addr.add a17 3) (.int .i64 v5) h20 fun h21 =>
  st1 (Addr.add a17 4) (.bool b6) h21 fun h22 =>
  st1 (Addr.add a17 5) (.int .i64 v7) h22 fun h23 =>
  ∃ v24 : Int, hcell h23 (Addr.add a8 2) = some (.int .i64 v24) ∧
  Q { s with t7 := (decide (v24 ≥ (0 : Int))) } h23)

def r25 (s : St) (h : Heap) (Q : St → Heap → Prop) : Prop :=
  c_spec_little s.x_src (IntKind.wrap .i64 (s.x_at + (1 : Int))) (4 : Int) h fun r2 h1 =>
  withH (hnew h1 (zcells Pg 113) 113) fun h3 =>
  st1 (Addr.add ⟨Array.size h1, 0, none⟩ 0) (.bool false) h3 fun h4 =>
  st1 (Addr.add ⟨Array.size h1, 0, none⟩ 1) (.int .i64 (0 : Int)) h4 fun h5 =>
  st1 (Addr.add ⟨Array.size h1, 0, none⟩ 2) (.int .i64 r2) h5 fun h6 =>
  st1 (Addr.add ⟨Array.size h1, 0, none⟩ 3) (.int .i64 (IntKind.wrap .i64 ((Int.fdiv s.x_tag (2 ^ (2 : Nat))) + (1 : Int)))) h6 fun h7 =>
  st1 (Addr.add ⟨Array.size h1, 0, none⟩ 4) (.bool false) h7 fun h8 =>
  st1 (Addr.add ⟨Array.size h1, 0, none⟩ 5) (.int .i64 (IntKind.wrap .i64 (s.x_at + (5 : Int)))) h8 fun h9 =>
  Q { s with x_eq14 := (some ⟨Array.size h1, 0, none⟩) } h9

def r26 (s : St) (h : Heap) (Q : St → Heap → Prop) : Prop :=
  ptrE s.x_eq14 fun a1 =>
  ∃ b2 : Bool, hcell h (Addr.add a1 0) = some (.bool b2) ∧
  ∃ v3 : Int, hcell h (Addr.add a1 1) = some (.int .i64 v3) ∧
  ∃ v4 : Int, hcell h (Addr.add a1 2) = some (.int .i64 v4) ∧
  ∃ v5 : Int, hcell h (Addr.add a1 3) = some (.int .i64 v5) ∧
  ∃ b6 : Bool, hcell h (Addr.add a1 4) = some (.bool b6) ∧
  ∃ v7 : Int, hcell h (Addr.add a1 5) = some (.int .i64 v7) ∧
  ptrE s.x_eq14 fun a8 =>
  (∃ v9 : Int, hcell h (Addr.add a8 2) = some (.int .i64 v9) ∧
  ptrE s.t6 fun a10 =>
  st1 (Addr.add a10 0) (.bool b2) h fun h11 =>
  st1 (Addr.add a10 1) (.int .i64 v3) h11 fun h12 =>
  st1 (Addr.add a10 2) (.int .i64 v4) h12 fun h13 =>
  st1 (Addr.add a10 3) (.int .i64 v5) h13 fun h14 =>
  st1 (Addr.add a10 4) (.bool b6) h14 fun h15 =>
  st1 (Addr.add a10 5) (.int .i64 v7) h15 fun h16 =>
  Q { s with t7 := (decide (v9 ≥ (0 : Int))) } h16) ∧
  (ptrE s.t6 fun a17 =>
  st1 (Addr.add a17 0) (.bool b2) h fun h18 =>
  st1 (Addr.add a17 1) (.int .i64 v3) h18 fun h19 =>
  st1 (Addr.add a17 2) (.int .i64 v4) h19 fun h20 =>
  st1 (Addr.add a17 3) (.int .i64 v5) h20 fun h21 =>
  st1 (Addr.add a17 4) (.bool b6) h21 fun h22 =>
  st1 (Addr.add a17 5) (.int .i64 v7) h22 fun h23 =>
  ∃ v24 : Int, hcell h23 (Addr.add a8 2) = some (.int .i64 v24) ∧
  Q { s with t7 := (decide (v24 ≥ (0 : Int))) } h23)

def k17 : Stm St := (.seq (.reg r25) (.seq (.reg r26) .ret))
def k16 : Stm St := (.seq (.reg r23) (.seq (.reg r24) .ret))
def k15 : Stm St := (.test r22 k16 .skip)
def k14 : Stm St := (.seq (.reg r20) (.seq (.reg r21) .ret))
def k13 : Stm St := (.seq (.reg r19) k14)
def k12 : Stm St := (.seq (.test r17 (.seq (.reg r18) .ret) .skip) k13)
def k11 : Stm St := (.seq (.reg r16) k12)
def k10 : Stm St := (.seq (.test r14 (.seq (.reg r15) .ret) .skip) k11)
def k9 : Stm St := (.seq (.reg r13) k10)
def k8 : Stm St := (.seq (.reg r12) k9)
def k7 : Stm St := (.seq (.test r10 (.seq (.reg r11) .ret) .skip) k8)
def k6 : Stm St := (.seq (.test r8 (.seq (.reg r9) .ret) .skip) k7)
def k5 : Stm St := (.seq (.reg r7) k6)
def k4 : Stm St := (.seq (.reg r6) k5)
def k3 : Stm St := (.test r5 k4 k15)
def k2 : Stm St := (.block 0 (.test r3 (.seq (.reg r4) .ret) k3))
def k1 : Stm St := (.seq (.seq (.reg r2) k2) k17)
def k0 : Stm St := (.seq (.reg r1) k1)

def stm : Stm St := (.seq (.reg r0) k0)

def ex : Ex → Pt St := fun _ => p0

set_option maxRecDepth 100000 in
theorem sim : Sim Pg 117 p1 (Tryd.f80.body.getD .skip) stm p0 ex :=
  (Sim.seq (Sim.reg (A := p1) (B := p2) (fun _ _ _ => by kernel_rfl))
  (Sim.seq (Sim.reg (A := p2) (B := p3) (fun _ _ _ => by kernel_rfl))
  (Sim.seq (Sim.seq (Sim.reg (A := p3) (B := p4) (fun _ _ _ => by kernel_rfl))
  (Sim.block (B := p5) (Sim.test (A := p4) (B := p4) (fun _ _ _ => by kernel_rfl) (Sim.seq (Sim.reg (A := p4) (B := p0) (fun _ _ _ => by kernel_rfl))
  (Sim.ret (A := p0) (E := (exAt ex 0 p5)) (fun _ => ⟨rfl, rfl, trivial⟩)))
  (Sim.test (A := p4) (B := p4) (fun _ _ _ => by kernel_rfl) (Sim.seq (Sim.reg (A := p4) (B := p6) (fun _ _ _ => by kernel_rfl))
  (Sim.seq (Sim.reg (A := p6) (B := p7) (fun _ _ _ => by kernel_rfl))
  (Sim.seq (Sim.test (A := p7) (B := p8) (fun _ _ _ => by kernel_rfl) (Sim.seq (Sim.reg (A := p8) (B := p0) (fun _ _ _ => by kernel_rfl))
  (Sim.ret (A := p0) (E := (exAt ex 0 p5)) (fun _ => ⟨rfl, rfl, trivial⟩)))
  (Sim.skip (A := p8)))
  (Sim.seq (Sim.test (A := p8) (B := p9) (fun _ _ _ => by kernel_rfl) (Sim.seq (Sim.reg (A := p9) (B := p0) (fun _ _ _ => by kernel_rfl))
  (Sim.ret (A := p0) (E := (exAt ex 0 p5)) (fun _ => ⟨rfl, rfl, trivial⟩)))
  (Sim.skip (A := p9)))
  (Sim.seq (Sim.reg (A := p9) (B := p9) (fun _ _ _ => by kernel_rfl))
  (Sim.seq (Sim.reg (A := p9) (B := p10) (fun _ _ _ => by kernel_rfl))
  (Sim.seq (Sim.test (A := p10) (B := p10) (fun _ _ _ => by kernel_rfl) (Sim.seq (Sim.reg (A := p10) (B := p0) (fun _ _ _ => by kernel_rfl))
  (Sim.ret (A := p0) (E := (exAt ex 0 p5)) (fun _ => ⟨rfl, rfl, trivial⟩)))
  (Sim.skip (A := p10)))
  (Sim.seq (Sim.reg (A := p10) (B := p11) (fun _ _ _ => by kernel_rfl))
  (Sim.seq (Sim.test (A := p11) (B := p11) (fun _ _ _ => by kernel_rfl) (Sim.seq (Sim.reg (A := p11) (B := p0) (fun _ _ _ => by kernel_rfl))
  (Sim.ret (A := p0) (E := (exAt ex 0 p5)) (fun _ => ⟨rfl, rfl, trivial⟩)))
  (Sim.skip (A := p11)))
  (Sim.seq (Sim.reg (A := p11) (B := p12) (fun _ _ _ => by kernel_rfl))
  (Sim.seq (Sim.reg (A := p12) (B := p13) (fun _ _ _ => by kernel_rfl))
  (Sim.seq (Sim.reg (A := p13) (B := p0) (fun _ _ _ => by kernel_rfl))
  (Sim.ret (A := p0) (E := (exAt ex 0 p5)) (fun _ => ⟨rfl, rfl, trivial⟩))))))))))))))
  (Sim.test (A := p4) (B := p5) (fun _ _ _ => by kernel_rfl) (Sim.seq (Sim.reg (A := p5) (B := p14) (fun _ _ _ => by kernel_rfl))
  (Sim.seq (Sim.reg (A := p14) (B := p0) (fun _ _ _ => by kernel_rfl))
  (Sim.ret (A := p0) (E := (exAt ex 0 p5)) (fun _ => ⟨rfl, rfl, trivial⟩))))
  (Sim.skip (A := p5)))))))
  (Sim.seq (Sim.reg (A := p5) (B := p15) (fun _ _ _ => by kernel_rfl))
  (Sim.seq (Sim.reg (A := p15) (B := p0) (fun _ _ _ => by kernel_rfl))
  (Sim.ret (A := p0) (E := ex) (fun _ => ⟨rfl, rfl, trivial⟩)))))))

def init (x_src : Sl) (x_at : Int) (x_s2 : Bool) : St := { x_src := x_src, x_at := x_at, x_s2 := x_s2, t6 := none, t7 := false, x_tag := 0, x_low := 0, x_e := none, x_bytes := 0, x_more := 0, x_eq13 := none, x_eq14 := none, t21 := 0 }

/-- What is left of the results. -/
def res (K : Bool → Int → Int → Int → Bool → Int → Bool → Heap → Prop) (s : St) (h1 : Heap) : Prop := ptrE s.t6 fun a1 => ∃ b1 : Bool, hcell h1 (Addr.add a1 0) = some (.bool b1) ∧ ∃ v1 : Int, hcell h1 (Addr.add a1 1) = some (.int .i64 v1) ∧ ∃ v2 : Int, hcell h1 (Addr.add a1 2) = some (.int .i64 v2) ∧ ∃ v3 : Int, hcell h1 (Addr.add a1 3) = some (.int .i64 v3) ∧ ∃ b2 : Bool, hcell h1 (Addr.add a1 4) = some (.bool b2) ∧ ∃ v4 : Int, hcell h1 (Addr.add a1 5) = some (.int .i64 v4) ∧ K b1 v1 v2 v3 b2 v4 s.t7 h1

/-- The call of 'pub-pemmican/spec.readElement'. -/
theorem calls (x_src : Sl) (x_at : Int) (x_s2 : Bool) (h : Heap) (K : Bool → Int → Int → Int → Bool → Int → Bool → Heap → Prop)
    (H : stm (init x_src x_at x_s2) h (endK (res K))) : c_spec_readElement x_src x_at x_s2 h K := by
  have hc : CallsH Pg 80 #[(.slice x_src.p x_src.n x_src.c), (.int .i64 x_at), (.bool x_s2)] h fun v h1 => asT v fun l1 => asC l1 fun v1 l2 => asA v1 fun l3 => asC l3 fun v2 l4 => asB v2 fun b1 => asC l4 fun v3 l5 => asI .i64 v3 fun n1 => asC l5 fun v4 l6 => asI .i64 v4 fun n2 => asC l6 fun v5 l7 => asI .i64 v5 fun n3 => asC l7 fun v6 l8 => asB v6 fun b2 => asC l8 fun v7 l9 => asI .i64 v7 fun n4 => asN l9 (asC l2 fun v8 l10 => asB v8 fun b3 => asN l10 (K b1 n1 n2 n3 b2 n4 b3 h1)) :=
    callsH_of_sim (R := p0) (fn := Tryd.f80) (c := Tryd.f80.body.getD .skip) Tryd.func80 rfl Tryd.ntmps80 Tryd.call80 sim (init x_src x_at x_s2) (⟨rfl, rfl, rfl, trivial⟩) (Nat.le_of_ble_eq_true rfl) (fun _ => ⟨rfl, rfl, trivial⟩) rfl
      (res K) (fun _ _ => by kernel_rfl) H
  refine hc.mono ?_
  intro v hp H
  obtain ⟨l1, rfl, h1⟩ := asT_elim H
  obtain ⟨v1, l2, rfl, h2⟩ := asC_elim h1
  obtain ⟨l3, rfl, h3⟩ := asA_elim h2
  obtain ⟨v2, l4, rfl, h4⟩ := asC_elim h3
  obtain ⟨b1, rfl, h5⟩ := asB_elim h4
  obtain ⟨v3, l5, rfl, h6⟩ := asC_elim h5
  obtain ⟨n1, rfl, h7⟩ := asI_elim h6
  obtain ⟨v4, l6, rfl, h8⟩ := asC_elim h7
  obtain ⟨n2, rfl, h9⟩ := asI_elim h8
  obtain ⟨v5, l7, rfl, h10⟩ := asC_elim h9
  obtain ⟨n3, rfl, h11⟩ := asI_elim h10
  obtain ⟨v6, l8, rfl, h12⟩ := asC_elim h11
  obtain ⟨b2, rfl, h13⟩ := asB_elim h12
  obtain ⟨v7, l9, rfl, h14⟩ := asC_elim h13
  obtain ⟨n4, rfl, h15⟩ := asI_elim h14
  obtain ⟨rfl, h16⟩ := asN_elim h15
  obtain ⟨v8, l10, rfl, h17⟩ := asC_elim h16
  obtain ⟨b3, rfl, h18⟩ := asB_elim h17
  obtain ⟨rfl, h19⟩ := asN_elim h18
  exact ⟨_, _, _, _, _, _, _, rfl, h19⟩

end M_spec_readElement

end Go.Proofs.YtibleenkgmkpmaaDoor

namespace Go.Proofs.YtibleenkgmkpmaaDoor
open Go Go.Vc Go.Proofs

namespace M_state_copied

structure St where
  x_s : Option Addr
  x_offset : Int
  x_length : Int
  t6 : Bool
  x_from : Int
  x_i : Int

def p0 : Pt St where
  env s := [(6, (.bool s.t6))]
  fin e s K := getV e 6 fun v1 => asB v1 fun b1 => K { s with t6 := b1 }
  ok := by
    intro e s K h0
    obtain ⟨w1, g1, h1⟩ := getV_elim h0
    obtain ⟨b1, rfl, h2⟩ := asB_elim h1
    exact ⟨_, ⟨g1, trivial⟩, h2⟩

def p1 : Pt St where
  env s := [(0, (.pointer s.x_s)), (1, (.int .i64 s.x_offset)), (2, (.int .i64 s.x_length))]
  fin e s K := getV e 0 fun v1 => asP v1 fun p1 => getV e 1 fun v2 => asI .i64 v2 fun n1 => getV e 2 fun v3 => asI .i64 v3 fun n2 => K { s with x_s := p1, x_offset := n1, x_length := n2 }
  ok := by
    intro e s K h0
    obtain ⟨w1, g1, h1⟩ := getV_elim h0
    obtain ⟨p1, rfl, h2⟩ := asP_elim h1
    obtain ⟨w2, g2, h3⟩ := getV_elim h2
    obtain ⟨n1, rfl, h4⟩ := asI_elim h3
    obtain ⟨w3, g3, h5⟩ := getV_elim h4
    obtain ⟨n2, rfl, h6⟩ := asI_elim h5
    exact ⟨_, ⟨g1, g2, g3, trivial⟩, h6⟩

def p2 : Pt St where
  env s := [(0, (.pointer s.x_s)), (2, (.int .i64 s.x_length)), (7, (.int .i64 s.x_from))]
  fin e s K := getV e 0 fun v1 => asP v1 fun p1 => getV e 2 fun v2 => asI .i64 v2 fun n1 => getV e 7 fun v3 => asI .i64 v3 fun n2 => K { s with x_s := p1, x_length := n1, x_from := n2 }
  ok := by
    intro e s K h0
    obtain ⟨w1, g1, h1⟩ := getV_elim h0
    obtain ⟨p1, rfl, h2⟩ := asP_elim h1
    obtain ⟨w2, g2, h3⟩ := getV_elim h2
    obtain ⟨n1, rfl, h4⟩ := asI_elim h3
    obtain ⟨w3, g3, h5⟩ := getV_elim h4
    obtain ⟨n2, rfl, h6⟩ := asI_elim h5
    exact ⟨_, ⟨g1, g2, g3, trivial⟩, h6⟩

def p3 : Pt St where
  env s := [(0, (.pointer s.x_s)), (2, (.int .i64 s.x_length)), (7, (.int .i64 s.x_from)), (8, (.int .i64 s.x_i))]
  fin e s K := getV e 0 fun v1 => asP v1 fun p1 => getV e 2 fun v2 => asI .i64 v2 fun n1 => getV e 7 fun v3 => asI .i64 v3 fun n2 => getV e 8 fun v4 => asI .i64 v4 fun n3 => K { s with x_s := p1, x_length := n1, x_from := n2, x_i := n3 }
  ok := by
    intro e s K h0
    obtain ⟨w1, g1, h1⟩ := getV_elim h0
    obtain ⟨p1, rfl, h2⟩ := asP_elim h1
    obtain ⟨w2, g2, h3⟩ := getV_elim h2
    obtain ⟨n1, rfl, h4⟩ := asI_elim h3
    obtain ⟨w3, g3, h5⟩ := getV_elim h4
    obtain ⟨n2, rfl, h6⟩ := asI_elim h5
    obtain ⟨w4, g4, h7⟩ := getV_elim h6
    obtain ⟨n3, rfl, h8⟩ := asI_elim h7
    exact ⟨_, ⟨g1, g2, g3, g4, trivial⟩, h8⟩

def p4 : Pt St where
  env s := []
  fin e s K := K s
  ok := by
    intro e s K h0
    exact ⟨_, trivial, h0⟩

def r0 (s : St) (h : Heap) (Q : St → Heap → Prop) : Prop :=
  Q s h

def r1 (s : St) (h : Heap) (Q : Bool → St → Heap → Prop) : Prop :=
  Q (s.x_offset == (0 : Int)) s h

def r2 (s : St) (h : Heap) (Q : St → Heap → Prop) : Prop :=
  Q { s with t6 := false } h

def r3 (s : St) (h : Heap) (Q : St → Heap → Prop) : Prop :=
  ptrE s.x_s fun a1 =>
  ∃ (p2 : Option Addr) (n3 c4 : Nat), hcell h (Addr.add a1 0) = some (.slice p2 n3 c4) ∧
  Q { s with x_from := (IntKind.wrap .i64 (((n3 : Nat) : Int) - s.x_offset)) } h

def r4 (s : St) (h : Heap) (Q : Bool → St → Heap → Prop) : Prop :=
  Q (decide (s.x_from ≥ (0 : Int))) s h

def r5 (s : St) (h : Heap) (Q : St → Heap → Prop) : Prop :=
  Q { s with x_i := (0 : Int) } h

def r6 (s : St) (h : Heap) (Q : Bool → St → Heap → Prop) : Prop :=
  Q (decide (s.x_i < s.x_length)) s h

def r7 (s : St) (h : Heap) (Q : St → Heap → Prop) : Prop :=
  Q { s with x_i := (IntKind.wrap .i64 (s.x_i + (1 : Int))) } h

def r8 (s : St) (h : Heap) (Q : St → Heap → Prop) : Prop :=
  ptrE s.x_s fun a1 =>
  ∃ (p2 : Option Addr) (n3 c4 : Nat), hcell h (Addr.add a1 0) = some (.slice p2 n3 c4) ∧
  ptrE s.x_s fun a5 =>
  ∃ (p6 : Option Addr) (n7 c8 : Nat), hcell h (Addr.add a5 0) = some (.slice p6 n7 c8) ∧
  0 ≤ (IntKind.wrap .i64 (s.x_from + s.x_i)) ∧ (IntKind.wrap .i64 (s.x_from + s.x_i)) < ((n7 : Nat) : Int) ∧
  ptrE p6 fun a9 =>
  ∃ v10 : Int, hcell h (Addr.add a9 (Int.toNat (IntKind.wrap .i64 (s.x_from + s.x_i)) * 1)) = some (.int .u8 v10) ∧
  withH (hnew h [(.int .u8 v10)] 5) fun h11 =>
  appendT Pg 5 p2 n3 c4 (.slice (some ⟨Array.size h, 0, none⟩) 1 1) 1 h11 fun p12 n13 c14 h15 =>
  ptrE s.x_s fun a16 =>
  st1 (Addr.add (Addr.add a16 0) 0) (.slice p12 n13 c14) h15 fun h17 =>
  Q s h17

def r9 (s : St) (h : Heap) (Q : St → Heap → Prop) : Prop :=
  Q { s with t6 := true } h

def r10 (s : St) (h : Heap) (Q : St → Heap → Prop) : Prop :=
  ptrE s.x_s fun a1 =>
  ∃ (p2 : Option Addr) (n3 c4 : Nat), hcell h (Addr.add a1 1) = some (.slice p2 n3 c4) ∧
  Q { s with x_from := (IntKind.wrap .i64 (s.x_from + ((n3 : Nat) : Int))) } h

def r11 (s : St) (h : Heap) (Q : Bool → St → Heap → Prop) : Prop :=
  Q (decide (s.x_from < (0 : Int))) s h

def r12 (s : St) (h : Heap) (Q : St → Heap → Prop) : Prop :=
  Q { s with t6 := false } h

def r13 (s : St) (h : Heap) (Q : Bool → St → Heap → Prop) : Prop :=
  ptrE s.x_s fun a1 =>
  ∃ (p2 : Option Addr) (n3 c4 : Nat), hcell h (Addr.add a1 1) = some (.slice p2 n3 c4) ∧
  (if (decide ((IntKind.wrap .i64 (s.x_from + s.x_length)) > ((n3 : Nat) : Int))) = false then
  (ptrE s.x_s fun a5 =>
  ∃ (p6 : Option Addr) (n7 c8 : Nat), hcell h (Addr.add a5 0) = some (.slice p6 n7 c8) ∧
  Q (decide (((n7 : Nat) : Int) > (65535 : Int))) s h)
  else
  (Q true s h))

def r14 (s : St) (h : Heap) (Q : St → Heap → Prop) : Prop :=
  ptrE s.x_s fun a1 =>
  st1 (Addr.add (Addr.add a1 3) 0) (.bool true) h fun h2 =>
  Q s h2

def r15 (s : St) (h : Heap) (Q : St → Heap → Prop) : Prop :=
  Q { s with t6 := false } h

def r16 (s : St) (h : Heap) (Q : St → Heap → Prop) : Prop :=
  ptrE s.x_s fun a1 =>
  ∃ (p2 : Option Addr) (n3 c4 : Nat), hcell h (Addr.add a1 0) = some (.slice p2 n3 c4) ∧
  ptrE s.x_s fun a5 =>
  ∃ (p6 : Option Addr) (n7 c8 : Nat), hcell h (Addr.add a5 1) = some (.slice p6 n7 c8) ∧
  0 ≤ (IntKind.wrap .i64 (s.x_from + s.x_length)) ∧ (IntKind.wrap .i64 (s.x_from + s.x_length)) ≤ ((c8 : Nat) : Int) ∧
  0 ≤ s.x_from ∧ s.x_from ≤ (((Int.toNat (IntKind.wrap .i64 (s.x_from + s.x_length))) : Nat) : Int) ∧
  appendT Pg 5 p2 n3 c4 (.slice (subP p6 (Int.toNat s.x_from) c8 1) ((Int.toNat (IntKind.wrap .i64 (s.x_from + s.x_length))) - (Int.toNat s.x_from)) (c8 - (Int.toNat s.x_from))) ((Int.toNat (IntKind.wrap .i64 (s.x_from + s.x_length))) - (Int.toNat s.x_from)) h fun p9 n10 c11 h12 =>
  ptrE s.x_s fun a13 =>
  st1 (Addr.add (Addr.add a13 0) 0) (.slice p9 n10 c11) h12 fun h14 =>
  Q s h14

def r17 (s : St) (h : Heap) (Q : St → Heap → Prop) : Prop :=
  Q { s with t6 := true } h

def k11 : Stm St := (.seq (.reg r16) (.seq (.reg r17) .ret))
def k10 : Stm St := (.seq (.reg r14) (.seq (.reg r15) .ret))
def k9 : Stm St := (.seq (.test r13 k10 .skip) k11)
def k8 : Stm St := (.seq (.test r11 (.seq (.reg r12) .ret) .skip) k9)
def k7 : Stm St := (.seq (.reg r10) k8)
def k6 : Stm St := (.seq (.block 1 (.reg r8)) (.reg r7))
def k5 : Stm St := (.seq (.test r6 .skip (.exit 0)) k6)
def k4 : Stm St := (.block 0 (.loop k5))
def k3 : Stm St := (.seq (.seq (.reg r5) k4) (.seq (.reg r9) .ret))
def k2 : Stm St := (.seq (.test r4 k3 .skip) k7)
def k1 : Stm St := (.seq (.reg r3) k2)
def k0 : Stm St := (.seq (.test r1 (.seq (.reg r2) .ret) .skip) k1)

def stm : Stm St := (.seq (.reg r0) k0)

def ex : Ex → Pt St := fun _ => p0

set_option maxRecDepth 100000 in
theorem sim : Sim Pg 89 p1 (Tryd.f64.body.getD .skip) stm p0 ex :=
  (Sim.seq (Sim.reg (A := p1) (B := p1) (fun _ _ _ => by kernel_rfl))
  (Sim.seq (Sim.test (A := p1) (B := p1) (fun _ _ _ => by kernel_rfl) (Sim.seq (Sim.reg (A := p1) (B := p0) (fun _ _ _ => by kernel_rfl))
  (Sim.ret (A := p0) (E := ex) (fun _ => ⟨rfl, trivial⟩)))
  (Sim.skip (A := p1)))
  (Sim.seq (Sim.reg (A := p1) (B := p2) (fun _ _ _ => by kernel_rfl))
  (Sim.seq (Sim.test (A := p2) (B := p2) (fun _ _ _ => by kernel_rfl) (Sim.seq (Sim.seq (Sim.reg (A := p2) (B := p3) (fun _ _ _ => by kernel_rfl))
  (Sim.block (B := p4) (Sim.loop (A := p3) (Sim.seq (Sim.test (A := p3) (B := p3) (fun _ _ _ => by kernel_rfl) (Sim.skip (A := p3))
  (Sim.exit (A := p3) (fun _ => trivial)))
  (Sim.seq (Sim.block (B := p3) (Sim.reg (A := p3) (B := p3) (fun _ _ _ => by kernel_rfl)))
  (Sim.reg (A := p3) (B := p3) (fun _ _ _ => by kernel_rfl)))))))
  (Sim.seq (Sim.reg (A := p4) (B := p0) (fun _ _ _ => by kernel_rfl))
  (Sim.ret (A := p0) (E := ex) (fun _ => ⟨rfl, trivial⟩))))
  (Sim.skip (A := p2)))
  (Sim.seq (Sim.reg (A := p2) (B := p2) (fun _ _ _ => by kernel_rfl))
  (Sim.seq (Sim.test (A := p2) (B := p2) (fun _ _ _ => by kernel_rfl) (Sim.seq (Sim.reg (A := p2) (B := p0) (fun _ _ _ => by kernel_rfl))
  (Sim.ret (A := p0) (E := ex) (fun _ => ⟨rfl, trivial⟩)))
  (Sim.skip (A := p2)))
  (Sim.seq (Sim.test (A := p2) (B := p2) (fun _ _ _ => by kernel_rfl) (Sim.seq (Sim.reg (A := p2) (B := p4) (fun _ _ _ => by kernel_rfl))
  (Sim.seq (Sim.reg (A := p4) (B := p0) (fun _ _ _ => by kernel_rfl))
  (Sim.ret (A := p0) (E := ex) (fun _ => ⟨rfl, trivial⟩))))
  (Sim.skip (A := p2)))
  (Sim.seq (Sim.reg (A := p2) (B := p4) (fun _ _ _ => by kernel_rfl))
  (Sim.seq (Sim.reg (A := p4) (B := p0) (fun _ _ _ => by kernel_rfl))
  (Sim.ret (A := p0) (E := ex) (fun _ => ⟨rfl, trivial⟩)))))))))))

def init (x_s : Option Addr) (x_offset : Int) (x_length : Int) : St := { x_s := x_s, x_offset := x_offset, x_length := x_length, t6 := false, x_from := 0, x_i := 0 }

/-- What is left of the results. -/
def res (K : Bool → Heap → Prop) (s : St) (h1 : Heap) : Prop := K s.t6 h1

/-- The call of '(*pub-pemmican/spec.state).copied'. -/
theorem calls (x_s : Option Addr) (x_offset : Int) (x_length : Int) (h : Heap) (K : Bool → Heap → Prop)
    (H : stm (init x_s x_offset x_length) h (endK (res K))) : c_state_copied x_s x_offset x_length h K := by
  have hc : CallsH Pg 64 #[(.pointer x_s), (.int .i64 x_offset), (.int .i64 x_length)] h fun v h1 => asB v fun b1 => K b1 h1 :=
    callsH_of_sim (R := p0) (fn := Tryd.f64) (c := Tryd.f64.body.getD .skip) Tryd.func64 rfl Tryd.ntmps64 Tryd.call64 sim (init x_s x_offset x_length) (⟨rfl, rfl, rfl, trivial⟩) (Nat.le_of_ble_eq_true rfl) (fun _ => ⟨rfl, trivial⟩) rfl
      (res K) (fun _ _ => by kernel_rfl) H
  refine hc.mono ?_
  intro v hp H
  obtain ⟨b1, rfl, h1⟩ := asB_elim H
  exact ⟨_, rfl, h1⟩

end M_state_copied

end Go.Proofs.YtibleenkgmkpmaaDoor

namespace Go.Proofs.YtibleenkgmkpmaaDoor
open Go Go.Vc Go.Proofs

namespace M_state_elements

structure St where
  x_s : Option Addr
  x_src : Sl
  x_at : Int
  x_n : Int
  x_s2 : Bool
  t10 : Int
  x_e : Option Addr
  x_ok : Bool

def p0 : Pt St where
  env s := [(10, (.int .i64 s.t10))]
  fin e s K := getV e 10 fun v1 => asI .i64 v1 fun n1 => K { s with t10 := n1 }
  ok := by
    intro e s K h0
    obtain ⟨w1, g1, h1⟩ := getV_elim h0
    obtain ⟨n1, rfl, h2⟩ := asI_elim h1
    exact ⟨_, ⟨g1, trivial⟩, h2⟩

def p1 : Pt St where
  env s := [(0, (.pointer s.x_s)), (1, (.slice s.x_src.p s.x_src.n s.x_src.c)), (2, (.int .i64 s.x_at)), (3, (.int .i64 s.x_n)), (4, (.bool s.x_s2))]
  fin e s K := getV e 0 fun v1 => asP v1 fun p1 => getV e 1 fun v2 => asS v2 fun p2 n1 c1 => getV e 2 fun v3 => asI .i64 v3 fun n2 => getV e 3 fun v4 => asI .i64 v4 fun n3 => getV e 4 fun v5 => asB v5 fun b1 => K { s with x_s := p1, x_src := ⟨p2, n1, c1⟩, x_at := n2, x_n := n3, x_s2 := b1 }
  ok := by
    intro e s K h0
    obtain ⟨w1, g1, h1⟩ := getV_elim h0
    obtain ⟨p1, rfl, h2⟩ := asP_elim h1
    obtain ⟨w2, g2, h3⟩ := getV_elim h2
    obtain ⟨p2, n1, c1, rfl, h4⟩ := asS_elim h3
    obtain ⟨w3, g3, h5⟩ := getV_elim h4
    obtain ⟨n2, rfl, h6⟩ := asI_elim h5
    obtain ⟨w4, g4, h7⟩ := getV_elim h6
    obtain ⟨n3, rfl, h8⟩ := asI_elim h7
    obtain ⟨w5, g5, h9⟩ := getV_elim h8
    obtain ⟨b1, rfl, h10⟩ := asB_elim h9
    exact ⟨_, ⟨g1, g2, g3, g4, g5, trivial⟩, h10⟩

def p2 : Pt St where
  env s := [(0, (.pointer s.x_s)), (3, (.int .i64 s.x_n))]
  fin e s K := getV e 0 fun v1 => asP v1 fun p1 => getV e 3 fun v2 => asI .i64 v2 fun n1 => K { s with x_s := p1, x_n := n1 }
  ok := by
    intro e s K h0
    obtain ⟨w1, g1, h1⟩ := getV_elim h0
    obtain ⟨p1, rfl, h2⟩ := asP_elim h1
    obtain ⟨w2, g2, h3⟩ := getV_elim h2
    obtain ⟨n1, rfl, h4⟩ := asI_elim h3
    exact ⟨_, ⟨g1, g2, trivial⟩, h4⟩

def p3 : Pt St where
  env s := [(0, (.pointer s.x_s)), (1, (.slice s.x_src.p s.x_src.n s.x_src.c)), (3, (.int .i64 s.x_n)), (4, (.bool s.x_s2)), (11, (.pointer s.x_e)), (12, (.bool s.x_ok))]
  fin e s K := getV e 0 fun v1 => asP v1 fun p1 => getV e 1 fun v2 => asS v2 fun p2 n1 c1 => getV e 3 fun v3 => asI .i64 v3 fun n2 => getV e 4 fun v4 => asB v4 fun b1 => getV e 11 fun v5 => asP v5 fun p3 => getV e 12 fun v6 => asB v6 fun b2 => K { s with x_s := p1, x_src := ⟨p2, n1, c1⟩, x_n := n2, x_s2 := b1, x_e := p3, x_ok := b2 }
  ok := by
    intro e s K h0
    obtain ⟨w1, g1, h1⟩ := getV_elim h0
    obtain ⟨p1, rfl, h2⟩ := asP_elim h1
    obtain ⟨w2, g2, h3⟩ := getV_elim h2
    obtain ⟨p2, n1, c1, rfl, h4⟩ := asS_elim h3
    obtain ⟨w3, g3, h5⟩ := getV_elim h4
    obtain ⟨n2, rfl, h6⟩ := asI_elim h5
    obtain ⟨w4, g4, h7⟩ := getV_elim h6
    obtain ⟨b1, rfl, h8⟩ := asB_elim h7
    obtain ⟨w5, g5, h9⟩ := getV_elim h8
    obtain ⟨p3, rfl, h10⟩ := asP_elim h9
    obtain ⟨w6, g6, h11⟩ := getV_elim h10
    obtain ⟨b2, rfl, h12⟩ := asB_elim h11
    exact ⟨_, ⟨g1, g2, g3, g4, g5, g6, trivial⟩, h12⟩

def p4 : Pt St where
  env s := [(0, (.pointer s.x_s)), (1, (.slice s.x_src.p s.x_src.n s.x_src.c)), (3, (.int .i64 s.x_n)), (4, (.bool s.x_s2)), (11, (.pointer s.x_e))]
  fin e s K := getV e 0 fun v1 => asP v1 fun p1 => getV e 1 fun v2 => asS v2 fun p2 n1 c1 => getV e 3 fun v3 => asI .i64 v3 fun n2 => getV e 4 fun v4 => asB v4 fun b1 => getV e 11 fun v5 => asP v5 fun p3 => K { s with x_s := p1, x_src := ⟨p2, n1, c1⟩, x_n := n2, x_s2 := b1, x_e := p3 }
  ok := by
    intro e s K h0
    obtain ⟨w1, g1, h1⟩ := getV_elim h0
    obtain ⟨p1, rfl, h2⟩ := asP_elim h1
    obtain ⟨w2, g2, h3⟩ := getV_elim h2
    obtain ⟨p2, n1, c1, rfl, h4⟩ := asS_elim h3
    obtain ⟨w3, g3, h5⟩ := getV_elim h4
    obtain ⟨n2, rfl, h6⟩ := asI_elim h5
    obtain ⟨w4, g4, h7⟩ := getV_elim h6
    obtain ⟨b1, rfl, h8⟩ := asB_elim h7
    obtain ⟨w5, g5, h9⟩ := getV_elim h8
    obtain ⟨p3, rfl, h10⟩ := asP_elim h9
    exact ⟨_, ⟨g1, g2, g3, g4, g5, trivial⟩, h10⟩

def p5 : Pt St where
  env s := [(0, (.pointer s.x_s)), (1, (.slice s.x_src.p s.x_src.n s.x_src.c)), (2, (.int .i64 s.x_at)), (3, (.int .i64 s.x_n)), (4, (.bool s.x_s2)), (11, (.pointer s.x_e))]
  fin e s K := getV e 0 fun v1 => asP v1 fun p1 => getV e 1 fun v2 => asS v2 fun p2 n1 c1 => getV e 2 fun v3 => asI .i64 v3 fun n2 => getV e 3 fun v4 => asI .i64 v4 fun n3 => getV e 4 fun v5 => asB v5 fun b1 => getV e 11 fun v6 => asP v6 fun p3 => K { s with x_s := p1, x_src := ⟨p2, n1, c1⟩, x_at := n2, x_n := n3, x_s2 := b1, x_e := p3 }
  ok := by
    intro e s K h0
    obtain ⟨w1, g1, h1⟩ := getV_elim h0
    obtain ⟨p1, rfl, h2⟩ := asP_elim h1
    obtain ⟨w2, g2, h3⟩ := getV_elim h2
    obtain ⟨p2, n1, c1, rfl, h4⟩ := asS_elim h3
    obtain ⟨w3, g3, h5⟩ := getV_elim h4
    obtain ⟨n2, rfl, h6⟩ := asI_elim h5
    obtain ⟨w4, g4, h7⟩ := getV_elim h6
    obtain ⟨n3, rfl, h8⟩ := asI_elim h7
    obtain ⟨w5, g5, h9⟩ := getV_elim h8
    obtain ⟨b1, rfl, h10⟩ := asB_elim h9
    obtain ⟨w6, g6, h11⟩ := getV_elim h10
    obtain ⟨p3, rfl, h12⟩ := asP_elim h11
    exact ⟨_, ⟨g1, g2, g3, g4, g5, g6, trivial⟩, h12⟩

def p6 : Pt St where
  env s := []
  fin e s K := K s
  ok := by
    intro e s K h0
    exact ⟨_, trivial, h0⟩

def r0 (s : St) (h : Heap) (Q : St → Heap → Prop) : Prop :=
  Q s h

def r1 (s : St) (h : Heap) (Q : Bool → St → Heap → Prop) : Prop :=
  Q (decide (s.x_at < ((s.x_src.n : Nat) : Int))) s h

def r2 (s : St) (h : Heap) (Q : St → Heap → Prop) : Prop :=
  c_spec_readElement s.x_src s.x_at s.x_s2 h fun b2 r3 r4 r5 b6 r7 b8 h1 =>
  withH (hnew h1 (zcells Pg 113) 113) fun h9 =>
  st1 (Addr.add ⟨Array.size h1, 0, none⟩ 0) (.bool b2) h9 fun h10 =>
  st1 (Addr.add ⟨Array.size h1, 0, none⟩ 1) (.int .i64 r3) h10 fun h11 =>
  st1 (Addr.add ⟨Array.size h1, 0, none⟩ 2) (.int .i64 r4) h11 fun h12 =>
  st1 (Addr.add ⟨Array.size h1, 0, none⟩ 3) (.int .i64 r5) h12 fun h13 =>
  st1 (Addr.add ⟨Array.size h1, 0, none⟩ 4) (.bool b6) h13 fun h14 =>
  st1 (Addr.add ⟨Array.size h1, 0, none⟩ 5) (.int .i64 r7) h14 fun h15 =>
  Q { s with x_e := (some ⟨Array.size h1, 0, none⟩), x_ok := b8 } h15

def r3 (s : St) (h : Heap) (Q : Bool → St → Heap → Prop) : Prop :=
  (if (!s.x_ok) = false then
  (ptrE s.x_s fun a1 =>
  ∃ (p2 : Option Addr) (n3 c4 : Nat), hcell h (Addr.add a1 0) = some (.slice p2 n3 c4) ∧
  ptrE s.x_e fun a5 =>
  ∃ v6 : Int, hcell h (Addr.add a5 3) = some (.int .i64 v6) ∧
  Q (decide ((IntKind.wrap .i64 (((n3 : Nat) : Int) + v6)) > s.x_n)) s h)
  else
  (Q true s h))

def r4 (s : St) (h : Heap) (Q : St → Heap → Prop) : Prop :=
  Q { s with t10 := (0 : Int) } h

def r5 (s : St) (h : Heap) (Q : St → Heap → Prop) : Prop :=
  ptrE s.x_e fun a1 =>
  ∃ v2 : Int, hcell h (Addr.add a1 5) = some (.int .i64 v2) ∧
  Q { s with x_at := v2 } h

def r6 (s : St) (h : Heap) (Q : Bool → St → Heap → Prop) : Prop :=
  ptrE s.x_e fun a1 =>
  ∃ b2 : Bool, hcell h (Addr.add a1 0) = some (.bool b2) ∧
  Q b2 s h

def r7 (s : St) (h : Heap) (Q : St → Heap → Prop) : Prop :=
  ptrE s.x_s fun a1 =>
  ∃ (p2 : Option Addr) (n3 c4 : Nat), hcell h (Addr.add a1 0) = some (.slice p2 n3 c4) ∧
  ptrE s.x_e fun a5 =>
  ∃ v6 : Int, hcell h (Addr.add a5 1) = some (.int .i64 v6) ∧
  ptrE s.x_e fun a7 =>
  ∃ v8 : Int, hcell h (Addr.add a7 1) = some (.int .i64 v8) ∧
  ptrE s.x_e fun a9 =>
  ∃ v10 : Int, hcell h (Addr.add a9 3) = some (.int .i64 v10) ∧
  0 ≤ (IntKind.wrap .i64 (v8 + v10)) ∧ (IntKind.wrap .i64 (v8 + v10)) ≤ ((s.x_src.c : Nat) : Int) ∧
  0 ≤ v6 ∧ v6 ≤ (((Int.toNat (IntKind.wrap .i64 (v8 + v10))) : Nat) : Int) ∧
  appendT Pg 5 p2 n3 c4 (.slice (subP s.x_src.p (Int.toNat v6) s.x_src.c 1) ((Int.toNat (IntKind.wrap .i64 (v8 + v10))) - (Int.toNat v6)) (s.x_src.c - (Int.toNat v6))) ((Int.toNat (IntKind.wrap .i64 (v8 + v10))) - (Int.toNat v6)) h fun p11 n12 c13 h14 =>
  ptrE s.x_s fun a15 =>
  st1 (Addr.add (Addr.add a15 0) 0) (.slice p11 n12 c13) h14 fun h16 =>
  Q s h16

def r8 (s : St) (h : Heap) (Q : Bool → St → Heap → Prop) : Prop :=
  ptrE s.x_e fun a1 =>
  ∃ b2 : Bool, hcell h (Addr.add a1 4) = some (.bool b2) ∧
  Q (!b2) s h

def r9 (s : St) (h : Heap) (Q : St → Heap → Prop) : Prop :=
  ptrE s.x_e fun a1 =>
  ∃ v2 : Int, hcell h (Addr.add a1 2) = some (.int .i64 v2) ∧
  ptrE s.x_s fun a3 =>
  st1 (Addr.add (Addr.add a3 2) 0) (.int .i64 v2) h fun h4 =>
  Q s h4

def r10 (s : St) (h : Heap) (Q : Bool → St → Heap → Prop) : Prop :=
  ptrE s.x_s fun a1 =>
  ∃ v2 : Int, hcell h (Addr.add a1 2) = some (.int .i64 v2) ∧
  ptrE s.x_e fun a3 =>
  ∃ v4 : Int, hcell h (Addr.add a3 3) = some (.int .i64 v4) ∧
  c_state_copied s.x_s v2 v4 h fun b6 h5 =>
  Q (!b6) s h5

def r11 (s : St) (h : Heap) (Q : Bool → St → Heap → Prop) : Prop :=
  ptrE s.x_s fun a1 =>
  ∃ b2 : Bool, hcell h (Addr.add a1 3) = some (.bool b2) ∧
  Q b2 s h

def r12 (s : St) (h : Heap) (Q : St → Heap → Prop) : Prop :=
  Q { s with t10 := (2 : Int) } h

def r13 (s : St) (h : Heap) (Q : St → Heap → Prop) : Prop :=
  Q { s with t10 := (0 : Int) } h

def r14 (s : St) (h : Heap) (Q : Bool → St → Heap → Prop) : Prop :=
  ptrE s.x_s fun a1 =>
  ∃ (p2 : Option Addr) (n3 c4 : Nat), hcell h (Addr.add a1 0) = some (.slice p2 n3 c4) ∧
  Q (((n3 : Nat) : Int) != s.x_n) s h

def r15 (s : St) (h : Heap) (Q : St → Heap → Prop) : Prop :=
  Q { s with t10 := (0 : Int) } h

def r16 (s : St) (h : Heap) (Q : St → Heap → Prop) : Prop :=
  Q { s with t10 := (1 : Int) } h

def k9 : Stm St := (.seq (.test r14 (.seq (.reg r15) .ret) .skip) (.seq (.reg r16) .ret))
def k8 : Stm St := (.seq (.test r11 (.seq (.reg r12) .ret) .skip) (.seq (.reg r13) .ret))
def k7 : Stm St := (.test r10 k8 .skip)
def k6 : Stm St := (.seq (.test r8 (.reg r9) .skip) k7)
def k5 : Stm St := (.seq (.test r6 (.seq (.reg r7) (.exit 1)) .skip) k6)
def k4 : Stm St := (.seq (.reg r5) k5)
def k3 : Stm St := (.seq (.test r3 (.seq (.reg r4) .ret) .skip) k4)
def k2 : Stm St := (.block 1 (.seq (.reg r2) k3))
def k1 : Stm St := (.seq (.test r1 .skip (.exit 0)) k2)
def k0 : Stm St := (.seq (.block 0 (.loop k1)) k9)

def stm : Stm St := (.seq (.reg r0) k0)

def ex : Ex → Pt St := fun _ => p0

set_option maxRecDepth 100000 in
theorem sim : Sim Pg 87 p1 (Tryd.f55.body.getD .skip) stm p0 ex :=
  (Sim.seq (Sim.reg (A := p1) (B := p1) (fun _ _ _ => by kernel_rfl))
  (Sim.seq (Sim.block (B := p2) (Sim.loop (A := p1) (Sim.seq (Sim.test (A := p1) (B := p1) (fun _ _ _ => by kernel_rfl) (Sim.skip (A := p1))
  (Sim.exit (A := p1) (fun _ => ⟨rfl, rfl, trivial⟩)))
  (Sim.block (B := p1) (Sim.seq (Sim.reg (A := p1) (B := p3) (fun _ _ _ => by kernel_rfl))
  (Sim.seq (Sim.test (A := p3) (B := p4) (fun _ _ _ => by kernel_rfl) (Sim.seq (Sim.reg (A := p4) (B := p0) (fun _ _ _ => by kernel_rfl))
  (Sim.ret (A := p0) (E := (exAt (exAt ex 0 p2) 1 p1)) (fun _ => ⟨rfl, trivial⟩)))
  (Sim.skip (A := p4)))
  (Sim.seq (Sim.reg (A := p4) (B := p5) (fun _ _ _ => by kernel_rfl))
  (Sim.seq (Sim.test (A := p5) (B := p5) (fun _ _ _ => by kernel_rfl) (Sim.seq (Sim.reg (A := p5) (B := p1) (fun _ _ _ => by kernel_rfl))
  (Sim.exit (A := p1) (fun _ => ⟨rfl, rfl, rfl, rfl, rfl, trivial⟩)))
  (Sim.skip (A := p5)))
  (Sim.seq (Sim.test (A := p5) (B := p5) (fun _ _ _ => by kernel_rfl) (Sim.reg (A := p5) (B := p5) (fun _ _ _ => by kernel_rfl))
  (Sim.skip (A := p5)))
  (Sim.test (A := p5) (B := p1) (fun _ _ _ => by kernel_rfl) (Sim.seq (Sim.test (A := p1) (B := p6) (fun _ _ _ => by kernel_rfl) (Sim.seq (Sim.reg (A := p6) (B := p0) (fun _ _ _ => by kernel_rfl))
  (Sim.ret (A := p0) (E := (exAt (exAt ex 0 p2) 1 p1)) (fun _ => ⟨rfl, trivial⟩)))
  (Sim.skip (A := p6)))
  (Sim.seq (Sim.reg (A := p6) (B := p0) (fun _ _ _ => by kernel_rfl))
  (Sim.ret (A := p0) (E := (exAt (exAt ex 0 p2) 1 p1)) (fun _ => ⟨rfl, trivial⟩))))
  (Sim.skip (A := p1))))))))))))
  (Sim.seq (Sim.test (A := p2) (B := p6) (fun _ _ _ => by kernel_rfl) (Sim.seq (Sim.reg (A := p6) (B := p0) (fun _ _ _ => by kernel_rfl))
  (Sim.ret (A := p0) (E := ex) (fun _ => ⟨rfl, trivial⟩)))
  (Sim.skip (A := p6)))
  (Sim.seq (Sim.reg (A := p6) (B := p0) (fun _ _ _ => by kernel_rfl))
  (Sim.ret (A := p0) (E := ex) (fun _ => ⟨rfl, trivial⟩))))))

def init (x_s : Option Addr) (x_src : Sl) (x_at : Int) (x_n : Int) (x_s2 : Bool) : St := { x_s := x_s, x_src := x_src, x_at := x_at, x_n := x_n, x_s2 := x_s2, t10 := 0, x_e := none, x_ok := false }

/-- What is left of the results. -/
def res (K : Int → Heap → Prop) (s : St) (h1 : Heap) : Prop := K s.t10 h1

/-- The call of '(*pub-pemmican/spec.state).elements'. -/
theorem calls (x_s : Option Addr) (x_src : Sl) (x_at : Int) (x_n : Int) (x_s2 : Bool) (h : Heap) (K : Int → Heap → Prop)
    (H : stm (init x_s x_src x_at x_n x_s2) h (endK (res K))) : c_state_elements x_s x_src x_at x_n x_s2 h K := by
  have hc : CallsH Pg 55 #[(.pointer x_s), (.slice x_src.p x_src.n x_src.c), (.int .i64 x_at), (.int .i64 x_n), (.bool x_s2)] h fun v h1 => asI .i64 v fun n1 => K n1 h1 :=
    callsH_of_sim (R := p0) (fn := Tryd.f55) (c := Tryd.f55.body.getD .skip) Tryd.func55 rfl Tryd.ntmps55 Tryd.call55 sim (init x_s x_src x_at x_n x_s2) (⟨rfl, rfl, rfl, rfl, rfl, trivial⟩) (Nat.le_of_ble_eq_true rfl) (fun _ => ⟨rfl, trivial⟩) rfl
      (res K) (fun _ _ => by kernel_rfl) H
  refine hc.mono ?_
  intro v hp H
  obtain ⟨n1, rfl, h1⟩ := asI_elim H
  exact ⟨_, rfl, h1⟩

end M_state_elements

end Go.Proofs.YtibleenkgmkpmaaDoor

namespace Go.Proofs.YtibleenkgmkpmaaDoor
open Go Go.Vc Go.Proofs

namespace M_s2Decode

structure St where
  x_dst : Sl
  x_src : Sl
  t4 : Int
  x_d : Int
  x_s : Int
  x_length : Int
  x_offset : Int
  x_x : Int
  x_toffset : Int
  x_in : Sl
  x_a : Sl
  x_b : Sl
  x_i : Int
  x_xq15 : Int
  x_toffsetq16 : Int
  x_aq17 : Sl
  x_bq18 : Sl
  x_iq19 : Int
  t29 : Int
  t152 : Int
  t283 : Int
  t284 : Int
  t285 : Bool
  t306 : Int
  t511 : Int
  t724 : Int
  t725 : Int
  t726 : Bool

def p0 : Pt St where
  env s := [(4, (.int .i64 s.t4))]
  fin e s K := getV e 4 fun v1 => asI .i64 v1 fun n1 => K { s with t4 := n1 }
  ok := by
    intro e s K h0
    obtain ⟨w1, g1, h1⟩ := getV_elim h0
    obtain ⟨n1, rfl, h2⟩ := asI_elim h1
    exact ⟨_, ⟨g1, trivial⟩, h2⟩

def p1 : Pt St where
  env s := [(0, (.slice s.x_dst.p s.x_dst.n s.x_dst.c)), (1, (.slice s.x_src.p s.x_src.n s.x_src.c))]
  fin e s K := getV e 0 fun v1 => asS v1 fun p1 n1 c1 => getV e 1 fun v2 => asS v2 fun p2 n2 c2 => K { s with x_dst := ⟨p1, n1, c1⟩, x_src := ⟨p2, n2, c2⟩ }
  ok := by
    intro e s K h0
    obtain ⟨w1, g1, h1⟩ := getV_elim h0
    obtain ⟨p1, n1, c1, rfl, h2⟩ := asS_elim h1
    obtain ⟨w2, g2, h3⟩ := getV_elim h2
    obtain ⟨p2, n2, c2, rfl, h4⟩ := asS_elim h3
    exact ⟨_, ⟨g1, g2, trivial⟩, h4⟩

def p2 : Pt St where
  env s := [(0, (.slice s.x_dst.p s.x_dst.n s.x_dst.c)), (1, (.slice s.x_src.p s.x_src.n s.x_src.c)), (5, (.int .i64 s.x_d)), (6, (.int .i64 s.x_s)), (7, (.int .i64 s.x_length))]
  fin e s K := getV e 0 fun v1 => asS v1 fun p1 n1 c1 => getV e 1 fun v2 => asS v2 fun p2 n2 c2 => getV e 5 fun v3 => asI .i64 v3 fun n3 => getV e 6 fun v4 => asI .i64 v4 fun n4 => getV e 7 fun v5 => asI .i64 v5 fun n5 => K { s with x_dst := ⟨p1, n1, c1⟩, x_src := ⟨p2, n2, c2⟩, x_d := n3, x_s := n4, x_length := n5 }
  ok := by
    intro e s K h0
    obtain ⟨w1, g1, h1⟩ := getV_elim h0
    obtain ⟨p1, n1, c1, rfl, h2⟩ := asS_elim h1
    obtain ⟨w2, g2, h3⟩ := getV_elim h2
    obtain ⟨p2, n2, c2, rfl, h4⟩ := asS_elim h3
    obtain ⟨w3, g3, h5⟩ := getV_elim h4
    obtain ⟨n3, rfl, h6⟩ := asI_elim h5
    obtain ⟨w4, g4, h7⟩ := getV_elim h6
    obtain ⟨n4, rfl, h8⟩ := asI_elim h7
    obtain ⟨w5, g5, h9⟩ := getV_elim h8
    obtain ⟨n5, rfl, h10⟩ := asI_elim h9
    exact ⟨_, ⟨g1, g2, g3, g4, g5, trivial⟩, h10⟩

def p3 : Pt St where
  env s := [(0, (.slice s.x_dst.p s.x_dst.n s.x_dst.c)), (1, (.slice s.x_src.p s.x_src.n s.x_src.c)), (5, (.int .i64 s.x_d)), (6, (.int .i64 s.x_s)), (7, (.int .i64 s.x_length)), (8, (.int .i64 s.x_offset))]
  fin e s K := getV e 0 fun v1 => asS v1 fun p1 n1 c1 => getV e 1 fun v2 => asS v2 fun p2 n2 c2 => getV e 5 fun v3 => asI .i64 v3 fun n3 => getV e 6 fun v4 => asI .i64 v4 fun n4 => getV e 7 fun v5 => asI .i64 v5 fun n5 => getV e 8 fun v6 => asI .i64 v6 fun n6 => K { s with x_dst := ⟨p1, n1, c1⟩, x_src := ⟨p2, n2, c2⟩, x_d := n3, x_s := n4, x_length := n5, x_offset := n6 }
  ok := by
    intro e s K h0
    obtain ⟨w1, g1, h1⟩ := getV_elim h0
    obtain ⟨p1, n1, c1, rfl, h2⟩ := asS_elim h1
    obtain ⟨w2, g2, h3⟩ := getV_elim h2
    obtain ⟨p2, n2, c2, rfl, h4⟩ := asS_elim h3
    obtain ⟨w3, g3, h5⟩ := getV_elim h4
    obtain ⟨n3, rfl, h6⟩ := asI_elim h5
    obtain ⟨w4, g4, h7⟩ := getV_elim h6
    obtain ⟨n4, rfl, h8⟩ := asI_elim h7
    obtain ⟨w5, g5, h9⟩ := getV_elim h8
    obtain ⟨n5, rfl, h10⟩ := asI_elim h9
    obtain ⟨w6, g6, h11⟩ := getV_elim h10
    obtain ⟨n6, rfl, h12⟩ := asI_elim h11
    exact ⟨_, ⟨g1, g2, g3, g4, g5, g6, trivial⟩, h12⟩

def p4 : Pt St where
  env s := [(0, (.slice s.x_dst.p s.x_dst.n s.x_dst.c)), (1, (.slice s.x_src.p s.x_src.n s.x_src.c)), (5, (.int .i64 s.x_d)), (6, (.int .i64 s.x_s)), (7, (.int .i64 s.x_length)), (8, (.int .i64 s.x_offset)), (29, (.int .u8 s.t29))]
  fin e s K := getV e 0 fun v1 => asS v1 fun p1 n1 c1 => getV e 1 fun v2 => asS v2 fun p2 n2 c2 => getV e 5 fun v3 => asI .i64 v3 fun n3 => getV e 6 fun v4 => asI .i64 v4 fun n4 => getV e 7 fun v5 => asI .i64 v5 fun n5 => getV e 8 fun v6 => asI .i64 v6 fun n6 => getV e 29 fun v7 => asI .u8 v7 fun n7 => K { s with x_dst := ⟨p1, n1, c1⟩, x_src := ⟨p2, n2, c2⟩, x_d := n3, x_s := n4, x_length := n5, x_offset := n6, t29 := n7 }
  ok := by
    intro e s K h0
    obtain ⟨w1, g1, h1⟩ := getV_elim h0
    obtain ⟨p1, n1, c1, rfl, h2⟩ := asS_elim h1
    obtain ⟨w2, g2, h3⟩ := getV_elim h2
    obtain ⟨p2, n2, c2, rfl, h4⟩ := asS_elim h3
    obtain ⟨w3, g3, h5⟩ := getV_elim h4
    obtain ⟨n3, rfl, h6⟩ := asI_elim h5
    obtain ⟨w4, g4, h7⟩ := getV_elim h6
    obtain ⟨n4, rfl, h8⟩ := asI_elim h7
    obtain ⟨w5, g5, h9⟩ := getV_elim h8
    obtain ⟨n5, rfl, h10⟩ := asI_elim h9
    obtain ⟨w6, g6, h11⟩ := getV_elim h10
    obtain ⟨n6, rfl, h12⟩ := asI_elim h11
    obtain ⟨w7, g7, h13⟩ := getV_elim h12
    obtain ⟨n7, rfl, h14⟩ := asI_elim h13
    exact ⟨_, ⟨g1, g2, g3, g4, g5, g6, g7, trivial⟩, h14⟩

def p5 : Pt St where
  env s := [(0, (.slice s.x_dst.p s.x_dst.n s.x_dst.c)), (1, (.slice s.x_src.p s.x_src.n s.x_src.c)), (5, (.int .i64 s.x_d)), (6, (.int .i64 s.x_s)), (8, (.int .i64 s.x_offset)), (9, (.int .u32 s.x_x))]
  fin e s K := getV e 0 fun v1 => asS v1 fun p1 n1 c1 => getV e 1 fun v2 => asS v2 fun p2 n2 c2 => getV e 5 fun v3 => asI .i64 v3 fun n3 => getV e 6 fun v4 => asI .i64 v4 fun n4 => getV e 8 fun v5 => asI .i64 v5 fun n5 => getV e 9 fun v6 => asI .u32 v6 fun n6 => K { s with x_dst := ⟨p1, n1, c1⟩, x_src := ⟨p2, n2, c2⟩, x_d := n3, x_s := n4, x_offset := n5, x_x := n6 }
  ok := by
    intro e s K h0
    obtain ⟨w1, g1, h1⟩ := getV_elim h0
    obtain ⟨p1, n1, c1, rfl, h2⟩ := asS_elim h1
    obtain ⟨w2, g2, h3⟩ := getV_elim h2
    obtain ⟨p2, n2, c2, rfl, h4⟩ := asS_elim h3
    obtain ⟨w3, g3, h5⟩ := getV_elim h4
    obtain ⟨n3, rfl, h6⟩ := asI_elim h5
    obtain ⟨w4, g4, h7⟩ := getV_elim h6
    obtain ⟨n4, rfl, h8⟩ := asI_elim h7
    obtain ⟨w5, g5, h9⟩ := getV_elim h8
    obtain ⟨n5, rfl, h10⟩ := asI_elim h9
    obtain ⟨w6, g6, h11⟩ := getV_elim h10
    obtain ⟨n6, rfl, h12⟩ := asI_elim h11
    exact ⟨_, ⟨g1, g2, g3, g4, g5, g6, trivial⟩, h12⟩

def p6 : Pt St where
  env s := [(0, (.slice s.x_dst.p s.x_dst.n s.x_dst.c)), (1, (.slice s.x_src.p s.x_src.n s.x_src.c)), (5, (.int .i64 s.x_d)), (6, (.int .i64 s.x_s)), (8, (.int .i64 s.x_offset))]
  fin e s K := getV e 0 fun v1 => asS v1 fun p1 n1 c1 => getV e 1 fun v2 => asS v2 fun p2 n2 c2 => getV e 5 fun v3 => asI .i64 v3 fun n3 => getV e 6 fun v4 => asI .i64 v4 fun n4 => getV e 8 fun v5 => asI .i64 v5 fun n5 => K { s with x_dst := ⟨p1, n1, c1⟩, x_src := ⟨p2, n2, c2⟩, x_d := n3, x_s := n4, x_offset := n5 }
  ok := by
    intro e s K h0
    obtain ⟨w1, g1, h1⟩ := getV_elim h0
    obtain ⟨p1, n1, c1, rfl, h2⟩ := asS_elim h1
    obtain ⟨w2, g2, h3⟩ := getV_elim h2
    obtain ⟨p2, n2, c2, rfl, h4⟩ := asS_elim h3
    obtain ⟨w3, g3, h5⟩ := getV_elim h4
    obtain ⟨n3, rfl, h6⟩ := asI_elim h5
    obtain ⟨w4, g4, h7⟩ := getV_elim h6
    obtain ⟨n4, rfl, h8⟩ := asI_elim h7
    obtain ⟨w5, g5, h9⟩ := getV_elim h8
    obtain ⟨n5, rfl, h10⟩ := asI_elim h9
    exact ⟨_, ⟨g1, g2, g3, g4, g5, trivial⟩, h10⟩

def p7 : Pt St where
  env s := [(0, (.slice s.x_dst.p s.x_dst.n s.x_dst.c)), (1, (.slice s.x_src.p s.x_src.n s.x_src.c)), (5, (.int .i64 s.x_d)), (6, (.int .i64 s.x_s)), (8, (.int .i64 s.x_offset)), (10, (.int .i64 s.x_toffset))]
  fin e s K := getV e 0 fun v1 => asS v1 fun p1 n1 c1 => getV e 1 fun v2 => asS v2 fun p2 n2 c2 => getV e 5 fun v3 => asI .i64 v3 fun n3 => getV e 6 fun v4 => asI .i64 v4 fun n4 => getV e 8 fun v5 => asI .i64 v5 fun n5 => getV e 10 fun v6 => asI .i64 v6 fun n6 => K { s with x_dst := ⟨p1, n1, c1⟩, x_src := ⟨p2, n2, c2⟩, x_d := n3, x_s := n4, x_offset := n5, x_toffset := n6 }
  ok := by
    intro e s K h0
    obtain ⟨w1, g1, h1⟩ := getV_elim h0
    obtain ⟨p1, n1, c1, rfl, h2⟩ := asS_elim h1
    obtain ⟨w2, g2, h3⟩ := getV_elim h2
    obtain ⟨p2, n2, c2, rfl, h4⟩ := asS_elim h3
    obtain ⟨w3, g3, h5⟩ := getV_elim h4
    obtain ⟨n3, rfl, h6⟩ := asI_elim h5
    obtain ⟨w4, g4, h7⟩ := getV_elim h6
    obtain ⟨n4, rfl, h8⟩ := asI_elim h7
    obtain ⟨w5, g5, h9⟩ := getV_elim h8
    obtain ⟨n5, rfl, h10⟩ := asI_elim h9
    obtain ⟨w6, g6, h11⟩ := getV_elim h10
    obtain ⟨n6, rfl, h12⟩ := asI_elim h11
    exact ⟨_, ⟨g1, g2, g3, g4, g5, g6, trivial⟩, h12⟩

def p8 : Pt St where
  env s := [(0, (.slice s.x_dst.p s.x_dst.n s.x_dst.c)), (1, (.slice s.x_src.p s.x_src.n s.x_src.c)), (5, (.int .i64 s.x_d)), (6, (.int .i64 s.x_s)), (7, (.int .i64 s.x_length)), (8, (.int .i64 s.x_offset)), (10, (.int .i64 s.x_toffset))]
  fin e s K := getV e 0 fun v1 => asS v1 fun p1 n1 c1 => getV e 1 fun v2 => asS v2 fun p2 n2 c2 => getV e 5 fun v3 => asI .i64 v3 fun n3 => getV e 6 fun v4 => asI .i64 v4 fun n4 => getV e 7 fun v5 => asI .i64 v5 fun n5 => getV e 8 fun v6 => asI .i64 v6 fun n6 => getV e 10 fun v7 => asI .i64 v7 fun n7 => K { s with x_dst := ⟨p1, n1, c1⟩, x_src := ⟨p2, n2, c2⟩, x_d := n3, x_s := n4, x_length := n5, x_offset := n6, x_toffset := n7 }
  ok := by
    intro e s K h0
    obtain ⟨w1, g1, h1⟩ := getV_elim h0
    obtain ⟨p1, n1, c1, rfl, h2⟩ := asS_elim h1
    obtain ⟨w2, g2, h3⟩ := getV_elim h2
    obtain ⟨p2, n2, c2, rfl, h4⟩ := asS_elim h3
    obtain ⟨w3, g3, h5⟩ := getV_elim h4
    obtain ⟨n3, rfl, h6⟩ := asI_elim h5
    obtain ⟨w4, g4, h7⟩ := getV_elim h6
    obtain ⟨n4, rfl, h8⟩ := asI_elim h7
    obtain ⟨w5, g5, h9⟩ := getV_elim h8
    obtain ⟨n5, rfl, h10⟩ := asI_elim h9
    obtain ⟨w6, g6, h11⟩ := getV_elim h10
    obtain ⟨n6, rfl, h12⟩ := asI_elim h11
    obtain ⟨w7, g7, h13⟩ := getV_elim h12
    obtain ⟨n7, rfl, h14⟩ := asI_elim h13
    exact ⟨_, ⟨g1, g2, g3, g4, g5, g6, g7, trivial⟩, h14⟩

def p9 : Pt St where
  env s := [(0, (.slice s.x_dst.p s.x_dst.n s.x_dst.c)), (1, (.slice s.x_src.p s.x_src.n s.x_src.c)), (5, (.int .i64 s.x_d)), (6, (.int .i64 s.x_s)), (7, (.int .i64 s.x_length)), (8, (.int .i64 s.x_offset)), (152, (.int .i64 s.t152))]
  fin e s K := getV e 0 fun v1 => asS v1 fun p1 n1 c1 => getV e 1 fun v2 => asS v2 fun p2 n2 c2 => getV e 5 fun v3 => asI .i64 v3 fun n3 => getV e 6 fun v4 => asI .i64 v4 fun n4 => getV e 7 fun v5 => asI .i64 v5 fun n5 => getV e 8 fun v6 => asI .i64 v6 fun n6 => getV e 152 fun v7 => asI .i64 v7 fun n7 => K { s with x_dst := ⟨p1, n1, c1⟩, x_src := ⟨p2, n2, c2⟩, x_d := n3, x_s := n4, x_length := n5, x_offset := n6, t152 := n7 }
  ok := by
    intro e s K h0
    obtain ⟨w1, g1, h1⟩ := getV_elim h0
    obtain ⟨p1, n1, c1, rfl, h2⟩ := asS_elim h1
    obtain ⟨w2, g2, h3⟩ := getV_elim h2
    obtain ⟨p2, n2, c2, rfl, h4⟩ := asS_elim h3
    obtain ⟨w3, g3, h5⟩ := getV_elim h4
    obtain ⟨n3, rfl, h6⟩ := asI_elim h5
    obtain ⟨w4, g4, h7⟩ := getV_elim h6
    obtain ⟨n4, rfl, h8⟩ := asI_elim h7
    obtain ⟨w5, g5, h9⟩ := getV_elim h8
    obtain ⟨n5, rfl, h10⟩ := asI_elim h9
    obtain ⟨w6, g6, h11⟩ := getV_elim h10
    obtain ⟨n6, rfl, h12⟩ := asI_elim h11
    obtain ⟨w7, g7, h13⟩ := getV_elim h12
    obtain ⟨n7, rfl, h14⟩ := asI_elim h13
    exact ⟨_, ⟨g1, g2, g3, g4, g5, g6, g7, trivial⟩, h14⟩

def p10 : Pt St where
  env s := [(0, (.slice s.x_dst.p s.x_dst.n s.x_dst.c)), (1, (.slice s.x_src.p s.x_src.n s.x_src.c)), (5, (.int .i64 s.x_d)), (6, (.int .i64 s.x_s)), (8, (.int .i64 s.x_offset)), (11, (.slice s.x_in.p s.x_in.n s.x_in.c))]
  fin e s K := getV e 0 fun v1 => asS v1 fun p1 n1 c1 => getV e 1 fun v2 => asS v2 fun p2 n2 c2 => getV e 5 fun v3 => asI .i64 v3 fun n3 => getV e 6 fun v4 => asI .i64 v4 fun n4 => getV e 8 fun v5 => asI .i64 v5 fun n5 => getV e 11 fun v6 => asS v6 fun p3 n6 c3 => K { s with x_dst := ⟨p1, n1, c1⟩, x_src := ⟨p2, n2, c2⟩, x_d := n3, x_s := n4, x_offset := n5, x_in := ⟨p3, n6, c3⟩ }
  ok := by
    intro e s K h0
    obtain ⟨w1, g1, h1⟩ := getV_elim h0
    obtain ⟨p1, n1, c1, rfl, h2⟩ := asS_elim h1
    obtain ⟨w2, g2, h3⟩ := getV_elim h2
    obtain ⟨p2, n2, c2, rfl, h4⟩ := asS_elim h3
    obtain ⟨w3, g3, h5⟩ := getV_elim h4
    obtain ⟨n3, rfl, h6⟩ := asI_elim h5
    obtain ⟨w4, g4, h7⟩ := getV_elim h6
    obtain ⟨n4, rfl, h8⟩ := asI_elim h7
    obtain ⟨w5, g5, h9⟩ := getV_elim h8
    obtain ⟨n5, rfl, h10⟩ := asI_elim h9
    obtain ⟨w6, g6, h11⟩ := getV_elim h10
    obtain ⟨p3, n6, c3, rfl, h12⟩ := asS_elim h11
    exact ⟨_, ⟨g1, g2, g3, g4, g5, g6, trivial⟩, h12⟩

def p11 : Pt St where
  env s := [(0, (.slice s.x_dst.p s.x_dst.n s.x_dst.c)), (1, (.slice s.x_src.p s.x_src.n s.x_src.c)), (5, (.int .i64 s.x_d)), (6, (.int .i64 s.x_s)), (7, (.int .i64 s.x_length)), (8, (.int .i64 s.x_offset)), (12, (.slice s.x_a.p s.x_a.n s.x_a.c))]
  fin e s K := getV e 0 fun v1 => asS v1 fun p1 n1 c1 => getV e 1 fun v2 => asS v2 fun p2 n2 c2 => getV e 5 fun v3 => asI .i64 v3 fun n3 => getV e 6 fun v4 => asI .i64 v4 fun n4 => getV e 7 fun v5 => asI .i64 v5 fun n5 => getV e 8 fun v6 => asI .i64 v6 fun n6 => getV e 12 fun v7 => asS v7 fun p3 n7 c3 => K { s with x_dst := ⟨p1, n1, c1⟩, x_src := ⟨p2, n2, c2⟩, x_d := n3, x_s := n4, x_length := n5, x_offset := n6, x_a := ⟨p3, n7, c3⟩ }
  ok := by
    intro e s K h0
    obtain ⟨w1, g1, h1⟩ := getV_elim h0
    obtain ⟨p1, n1, c1, rfl, h2⟩ := asS_elim h1
    obtain ⟨w2, g2, h3⟩ := getV_elim h2
    obtain ⟨p2, n2, c2, rfl, h4⟩ := asS_elim h3
    obtain ⟨w3, g3, h5⟩ := getV_elim h4
    obtain ⟨n3, rfl, h6⟩ := asI_elim h5
    obtain ⟨w4, g4, h7⟩ := getV_elim h6
    obtain ⟨n4, rfl, h8⟩ := asI_elim h7
    obtain ⟨w5, g5, h9⟩ := getV_elim h8
    obtain ⟨n5, rfl, h10⟩ := asI_elim h9
    obtain ⟨w6, g6, h11⟩ := getV_elim h10
    obtain ⟨n6, rfl, h12⟩ := asI_elim h11
    obtain ⟨w7, g7, h13⟩ := getV_elim h12
    obtain ⟨p3, n7, c3, rfl, h14⟩ := asS_elim h13
    exact ⟨_, ⟨g1, g2, g3, g4, g5, g6, g7, trivial⟩, h14⟩

def p12 : Pt St where
  env s := [(0, (.slice s.x_dst.p s.x_dst.n s.x_dst.c)), (1, (.slice s.x_src.p s.x_src.n s.x_src.c)), (5, (.int .i64 s.x_d)), (6, (.int .i64 s.x_s)), (7, (.int .i64 s.x_length)), (8, (.int .i64 s.x_offset)), (12, (.slice s.x_a.p s.x_a.n s.x_a.c)), (13, (.slice s.x_b.p s.x_b.n s.x_b.c))]
  fin e s K := getV e 0 fun v1 => asS v1 fun p1 n1 c1 => getV e 1 fun v2 => asS v2 fun p2 n2 c2 => getV e 5 fun v3 => asI .i64 v3 fun n3 => getV e 6 fun v4 => asI .i64 v4 fun n4 => getV e 7 fun v5 => asI .i64 v5 fun n5 => getV e 8 fun v6 => asI .i64 v6 fun n6 => getV e 12 fun v7 => asS v7 fun p3 n7 c3 => getV e 13 fun v8 => asS v8 fun p4 n8 c4 => K { s with x_dst := ⟨p1, n1, c1⟩, x_src := ⟨p2, n2, c2⟩, x_d := n3, x_s := n4, x_length := n5, x_offset := n6, x_a := ⟨p3, n7, c3⟩, x_b := ⟨p4, n8, c4⟩ }
  ok := by
    intro e s K h0
    obtain ⟨w1, g1, h1⟩ := getV_elim h0
    obtain ⟨p1, n1, c1, rfl, h2⟩ := asS_elim h1
    obtain ⟨w2, g2, h3⟩ := getV_elim h2
    obtain ⟨p2, n2, c2, rfl, h4⟩ := asS_elim h3
    obtain ⟨w3, g3, h5⟩ := getV_elim h4
    obtain ⟨n3, rfl, h6⟩ := asI_elim h5
    obtain ⟨w4, g4, h7⟩ := getV_elim h6
    obtain ⟨n4, rfl, h8⟩ := asI_elim h7
    obtain ⟨w5, g5, h9⟩ := getV_elim h8
    obtain ⟨n5, rfl, h10⟩ := asI_elim h9
    obtain ⟨w6, g6, h11⟩ := getV_elim h10
    obtain ⟨n6, rfl, h12⟩ := asI_elim h11
    obtain ⟨w7, g7, h13⟩ := getV_elim h12
    obtain ⟨p3, n7, c3, rfl, h14⟩ := asS_elim h13
    obtain ⟨w8, g8, h15⟩ := getV_elim h14
    obtain ⟨p4, n8, c4, rfl, h16⟩ := asS_elim h15
    exact ⟨_, ⟨g1, g2, g3, g4, g5, g6, g7, g8, trivial⟩, h16⟩

def p13 : Pt St where
  env s := [(0, (.slice s.x_dst.p s.x_dst.n s.x_dst.c)), (1, (.slice s.x_src.p s.x_src.n s.x_src.c)), (5, (.int .i64 s.x_d)), (6, (.int .i64 s.x_s)), (7, (.int .i64 s.x_length)), (8, (.int .i64 s.x_offset)), (12, (.slice s.x_a.p s.x_a.n s.x_a.c)), (13, (.slice s.x_b.p s.x_b.n s.x_b.c)), (283, (.int .i64 s.t283)), (284, (.int .i64 s.t284))]
  fin e s K := getV e 0 fun v1 => asS v1 fun p1 n1 c1 => getV e 1 fun v2 => asS v2 fun p2 n2 c2 => getV e 5 fun v3 => asI .i64 v3 fun n3 => getV e 6 fun v4 => asI .i64 v4 fun n4 => getV e 7 fun v5 => asI .i64 v5 fun n5 => getV e 8 fun v6 => asI .i64 v6 fun n6 => getV e 12 fun v7 => asS v7 fun p3 n7 c3 => getV e 13 fun v8 => asS v8 fun p4 n8 c4 => getV e 283 fun v9 => asI .i64 v9 fun n9 => getV e 284 fun v10 => asI .i64 v10 fun n10 => K { s with x_dst := ⟨p1, n1, c1⟩, x_src := ⟨p2, n2, c2⟩, x_d := n3, x_s := n4, x_length := n5, x_offset := n6, x_a := ⟨p3, n7, c3⟩, x_b := ⟨p4, n8, c4⟩, t283 := n9, t284 := n10 }
  ok := by
    intro e s K h0
    obtain ⟨w1, g1, h1⟩ := getV_elim h0
    obtain ⟨p1, n1, c1, rfl, h2⟩ := asS_elim h1
    obtain ⟨w2, g2, h3⟩ := getV_elim h2
    obtain ⟨p2, n2, c2, rfl, h4⟩ := asS_elim h3
    obtain ⟨w3, g3, h5⟩ := getV_elim h4
    obtain ⟨n3, rfl, h6⟩ := asI_elim h5
    obtain ⟨w4, g4, h7⟩ := getV_elim h6
    obtain ⟨n4, rfl, h8⟩ := asI_elim h7
    obtain ⟨w5, g5, h9⟩ := getV_elim h8
    obtain ⟨n5, rfl, h10⟩ := asI_elim h9
    obtain ⟨w6, g6, h11⟩ := getV_elim h10
    obtain ⟨n6, rfl, h12⟩ := asI_elim h11
    obtain ⟨w7, g7, h13⟩ := getV_elim h12
    obtain ⟨p3, n7, c3, rfl, h14⟩ := asS_elim h13
    obtain ⟨w8, g8, h15⟩ := getV_elim h14
    obtain ⟨p4, n8, c4, rfl, h16⟩ := asS_elim h15
    obtain ⟨w9, g9, h17⟩ := getV_elim h16
    obtain ⟨n9, rfl, h18⟩ := asI_elim h17
    obtain ⟨w10, g10, h19⟩ := getV_elim h18
    obtain ⟨n10, rfl, h20⟩ := asI_elim h19
    exact ⟨_, ⟨g1, g2, g3, g4, g5, g6, g7, g8, g9, g10, trivial⟩, h20⟩

def p14 : Pt St where
  env s := [(0, (.slice s.x_dst.p s.x_dst.n s.x_dst.c)), (1, (.slice s.x_src.p s.x_src.n s.x_src.c)), (5, (.int .i64 s.x_d)), (6, (.int .i64 s.x_s)), (7, (.int .i64 s.x_length)), (8, (.int .i64 s.x_offset)), (12, (.slice s.x_a.p s.x_a.n s.x_a.c)), (13, (.slice s.x_b.p s.x_b.n s.x_b.c)), (283, (.int .i64 s.t283)), (284, (.int .i64 s.t284)), (285, (.bool s.t285))]
  fin e s K := getV e 0 fun v1 => asS v1 fun p1 n1 c1 => getV e 1 fun v2 => asS v2 fun p2 n2 c2 => getV e 5 fun v3 => asI .i64 v3 fun n3 => getV e 6 fun v4 => asI .i64 v4 fun n4 => getV e 7 fun v5 => asI .i64 v5 fun n5 => getV e 8 fun v6 => asI .i64 v6 fun n6 => getV e 12 fun v7 => asS v7 fun p3 n7 c3 => getV e 13 fun v8 => asS v8 fun p4 n8 c4 => getV e 283 fun v9 => asI .i64 v9 fun n9 => getV e 284 fun v10 => asI .i64 v10 fun n10 => getV e 285 fun v11 => asB v11 fun b1 => K { s with x_dst := ⟨p1, n1, c1⟩, x_src := ⟨p2, n2, c2⟩, x_d := n3, x_s := n4, x_length := n5, x_offset := n6, x_a := ⟨p3, n7, c3⟩, x_b := ⟨p4, n8, c4⟩, t283 := n9, t284 := n10, t285 := b1 }
  ok := by
    intro e s K h0
    obtain ⟨w1, g1, h1⟩ := getV_elim h0
    obtain ⟨p1, n1, c1, rfl, h2⟩ := asS_elim h1
    obtain ⟨w2, g2, h3⟩ := getV_elim h2
    obtain ⟨p2, n2, c2, rfl, h4⟩ := asS_elim h3
    obtain ⟨w3, g3, h5⟩ := getV_elim h4
    obtain ⟨n3, rfl, h6⟩ := asI_elim h5
    obtain ⟨w4, g4, h7⟩ := getV_elim h6
    obtain ⟨n4, rfl, h8⟩ := asI_elim h7
    obtain ⟨w5, g5, h9⟩ := getV_elim h8
    obtain ⟨n5, rfl, h10⟩ := asI_elim h9
    obtain ⟨w6, g6, h11⟩ := getV_elim h10
    obtain ⟨n6, rfl, h12⟩ := asI_elim h11
    obtain ⟨w7, g7, h13⟩ := getV_elim h12
    obtain ⟨p3, n7, c3, rfl, h14⟩ := asS_elim h13
    obtain ⟨w8, g8, h15⟩ := getV_elim h14
    obtain ⟨p4, n8, c4, rfl, h16⟩ := asS_elim h15
    obtain ⟨w9, g9, h17⟩ := getV_elim h16
    obtain ⟨n9, rfl, h18⟩ := asI_elim h17
    obtain ⟨w10, g10, h19⟩ := getV_elim h18
    obtain ⟨n10, rfl, h20⟩ := asI_elim h19
    obtain ⟨w11, g11, h21⟩ := getV_elim h20
    obtain ⟨b1, rfl, h22⟩ := asB_elim h21
    exact ⟨_, ⟨g1, g2, g3, g4, g5, g6, g7, g8, g9, g10, g11, trivial⟩, h22⟩

def p15 : Pt St where
  env s := [(0, (.slice s.x_dst.p s.x_dst.n s.x_dst.c)), (1, (.slice s.x_src.p s.x_src.n s.x_src.c)), (5, (.int .i64 s.x_d)), (6, (.int .i64 s.x_s)), (7, (.int .i64 s.x_length)), (8, (.int .i64 s.x_offset)), (12, (.slice s.x_a.p s.x_a.n s.x_a.c)), (13, (.slice s.x_b.p s.x_b.n s.x_b.c)), (14, (.int .i64 s.x_i)), (283, (.int .i64 s.t283)), (284, (.int .i64 s.t284))]
  fin e s K := getV e 0 fun v1 => asS v1 fun p1 n1 c1 => getV e 1 fun v2 => asS v2 fun p2 n2 c2 => getV e 5 fun v3 => asI .i64 v3 fun n3 => getV e 6 fun v4 => asI .i64 v4 fun n4 => getV e 7 fun v5 => asI .i64 v5 fun n5 => getV e 8 fun v6 => asI .i64 v6 fun n6 => getV e 12 fun v7 => asS v7 fun p3 n7 c3 => getV e 13 fun v8 => asS v8 fun p4 n8 c4 => getV e 14 fun v9 => asI .i64 v9 fun n9 => getV e 283 fun v10 => asI .i64 v10 fun n10 => getV e 284 fun v11 => asI .i64 v11 fun n11 => K { s with x_dst := ⟨p1, n1, c1⟩, x_src := ⟨p2, n2, c2⟩, x_d := n3, x_s := n4, x_length := n5, x_offset := n6, x_a := ⟨p3, n7, c3⟩, x_b := ⟨p4, n8, c4⟩, x_i := n9, t283 := n10, t284 := n11 }
  ok := by
    intro e s K h0
    obtain ⟨w1, g1, h1⟩ := getV_elim h0
    obtain ⟨p1, n1, c1, rfl, h2⟩ := asS_elim h1
    obtain ⟨w2, g2, h3⟩ := getV_elim h2
    obtain ⟨p2, n2, c2, rfl, h4⟩ := asS_elim h3
    obtain ⟨w3, g3, h5⟩ := getV_elim h4
    obtain ⟨n3, rfl, h6⟩ := asI_elim h5
    obtain ⟨w4, g4, h7⟩ := getV_elim h6
    obtain ⟨n4, rfl, h8⟩ := asI_elim h7
    obtain ⟨w5, g5, h9⟩ := getV_elim h8
    obtain ⟨n5, rfl, h10⟩ := asI_elim h9
    obtain ⟨w6, g6, h11⟩ := getV_elim h10
    obtain ⟨n6, rfl, h12⟩ := asI_elim h11
    obtain ⟨w7, g7, h13⟩ := getV_elim h12
    obtain ⟨p3, n7, c3, rfl, h14⟩ := asS_elim h13
    obtain ⟨w8, g8, h15⟩ := getV_elim h14
    obtain ⟨p4, n8, c4, rfl, h16⟩ := asS_elim h15
    obtain ⟨w9, g9, h17⟩ := getV_elim h16
    obtain ⟨n9, rfl, h18⟩ := asI_elim h17
    obtain ⟨w10, g10, h19⟩ := getV_elim h18
    obtain ⟨n10, rfl, h20⟩ := asI_elim h19
    obtain ⟨w11, g11, h21⟩ := getV_elim h20
    obtain ⟨n11, rfl, h22⟩ := asI_elim h21
    exact ⟨_, ⟨g1, g2, g3, g4, g5, g6, g7, g8, g9, g10, g11, trivial⟩, h22⟩

def p16 : Pt St where
  env s := [(0, (.slice s.x_dst.p s.x_dst.n s.x_dst.c)), (5, (.int .i64 s.x_d))]
  fin e s K := getV e 0 fun v1 => asS v1 fun p1 n1 c1 => getV e 5 fun v2 => asI .i64 v2 fun n2 => K { s with x_dst := ⟨p1, n1, c1⟩, x_d := n2 }
  ok := by
    intro e s K h0
    obtain ⟨w1, g1, h1⟩ := getV_elim h0
    obtain ⟨p1, n1, c1, rfl, h2⟩ := asS_elim h1
    obtain ⟨w2, g2, h3⟩ := getV_elim h2
    obtain ⟨n2, rfl, h4⟩ := asI_elim h3
    exact ⟨_, ⟨g1, g2, trivial⟩, h4⟩

def p17 : Pt St where
  env s := [(0, (.slice s.x_dst.p s.x_dst.n s.x_dst.c)), (1, (.slice s.x_src.p s.x_src.n s.x_src.c)), (5, (.int .i64 s.x_d)), (6, (.int .i64 s.x_s)), (7, (.int .i64 s.x_length)), (8, (.int .i64 s.x_offset)), (306, (.int .u8 s.t306))]
  fin e s K := getV e 0 fun v1 => asS v1 fun p1 n1 c1 => getV e 1 fun v2 => asS v2 fun p2 n2 c2 => getV e 5 fun v3 => asI .i64 v3 fun n3 => getV e 6 fun v4 => asI .i64 v4 fun n4 => getV e 7 fun v5 => asI .i64 v5 fun n5 => getV e 8 fun v6 => asI .i64 v6 fun n6 => getV e 306 fun v7 => asI .u8 v7 fun n7 => K { s with x_dst := ⟨p1, n1, c1⟩, x_src := ⟨p2, n2, c2⟩, x_d := n3, x_s := n4, x_length := n5, x_offset := n6, t306 := n7 }
  ok := by
    intro e s K h0
    obtain ⟨w1, g1, h1⟩ := getV_elim h0
    obtain ⟨p1, n1, c1, rfl, h2⟩ := asS_elim h1
    obtain ⟨w2, g2, h3⟩ := getV_elim h2
    obtain ⟨p2, n2, c2, rfl, h4⟩ := asS_elim h3
    obtain ⟨w3, g3, h5⟩ := getV_elim h4
    obtain ⟨n3, rfl, h6⟩ := asI_elim h5
    obtain ⟨w4, g4, h7⟩ := getV_elim h6
    obtain ⟨n4, rfl, h8⟩ := asI_elim h7
    obtain ⟨w5, g5, h9⟩ := getV_elim h8
    obtain ⟨n5, rfl, h10⟩ := asI_elim h9
    obtain ⟨w6, g6, h11⟩ := getV_elim h10
    obtain ⟨n6, rfl, h12⟩ := asI_elim h11
    obtain ⟨w7, g7, h13⟩ := getV_elim h12
    obtain ⟨n7, rfl, h14⟩ := asI_elim h13
    exact ⟨_, ⟨g1, g2, g3, g4, g5, g6, g7, trivial⟩, h14⟩

def p18 : Pt St where
  env s := [(0, (.slice s.x_dst.p s.x_dst.n s.x_dst.c)), (1, (.slice s.x_src.p s.x_src.n s.x_src.c)), (5, (.int .i64 s.x_d)), (6, (.int .i64 s.x_s)), (8, (.int .i64 s.x_offset)), (15, (.int .u32 s.x_xq15))]
  fin e s K := getV e 0 fun v1 => asS v1 fun p1 n1 c1 => getV e 1 fun v2 => asS v2 fun p2 n2 c2 => getV e 5 fun v3 => asI .i64 v3 fun n3 => getV e 6 fun v4 => asI .i64 v4 fun n4 => getV e 8 fun v5 => asI .i64 v5 fun n5 => getV e 15 fun v6 => asI .u32 v6 fun n6 => K { s with x_dst := ⟨p1, n1, c1⟩, x_src := ⟨p2, n2, c2⟩, x_d := n3, x_s := n4, x_offset := n5, x_xq15 := n6 }
  ok := by
    intro e s K h0
    obtain ⟨w1, g1, h1⟩ := getV_elim h0
    obtain ⟨p1, n1, c1, rfl, h2⟩ := asS_elim h1
    obtain ⟨w2, g2, h3⟩ := getV_elim h2
    obtain ⟨p2, n2, c2, rfl, h4⟩ := asS_elim h3
    obtain ⟨w3, g3, h5⟩ := getV_elim h4
    obtain ⟨n3, rfl, h6⟩ := asI_elim h5
    obtain ⟨w4, g4, h7⟩ := getV_elim h6
    obtain ⟨n4, rfl, h8⟩ := asI_elim h7
    obtain ⟨w5, g5, h9⟩ := getV_elim h8
    obtain ⟨n5, rfl, h10⟩ := asI_elim h9
    obtain ⟨w6, g6, h11⟩ := getV_elim h10
    obtain ⟨n6, rfl, h12⟩ := asI_elim h11
    exact ⟨_, ⟨g1, g2, g3, g4, g5, g6, trivial⟩, h12⟩

def p19 : Pt St where
  env s := [(0, (.slice s.x_dst.p s.x_dst.n s.x_dst.c)), (1, (.slice s.x_src.p s.x_src.n s.x_src.c)), (5, (.int .i64 s.x_d)), (6, (.int .i64 s.x_s)), (7, (.int .i64 s.x_length)), (8, (.int .i64 s.x_offset)), (16, (.int .i64 s.x_toffsetq16))]
  fin e s K := getV e 0 fun v1 => asS v1 fun p1 n1 c1 => getV e 1 fun v2 => asS v2 fun p2 n2 c2 => getV e 5 fun v3 => asI .i64 v3 fun n3 => getV e 6 fun v4 => asI .i64 v4 fun n4 => getV e 7 fun v5 => asI .i64 v5 fun n5 => getV e 8 fun v6 => asI .i64 v6 fun n6 => getV e 16 fun v7 => asI .i64 v7 fun n7 => K { s with x_dst := ⟨p1, n1, c1⟩, x_src := ⟨p2, n2, c2⟩, x_d := n3, x_s := n4, x_length := n5, x_offset := n6, x_toffsetq16 := n7 }
  ok := by
    intro e s K h0
    obtain ⟨w1, g1, h1⟩ := getV_elim h0
    obtain ⟨p1, n1, c1, rfl, h2⟩ := asS_elim h1
    obtain ⟨w2, g2, h3⟩ := getV_elim h2
    obtain ⟨p2, n2, c2, rfl, h4⟩ := asS_elim h3
    obtain ⟨w3, g3, h5⟩ := getV_elim h4
    obtain ⟨n3, rfl, h6⟩ := asI_elim h5
    obtain ⟨w4, g4, h7⟩ := getV_elim h6
    obtain ⟨n4, rfl, h8⟩ := asI_elim h7
    obtain ⟨w5, g5, h9⟩ := getV_elim h8
    obtain ⟨n5, rfl, h10⟩ := asI_elim h9
    obtain ⟨w6, g6, h11⟩ := getV_elim h10
    obtain ⟨n6, rfl, h12⟩ := asI_elim h11
    obtain ⟨w7, g7, h13⟩ := getV_elim h12
    obtain ⟨n7, rfl, h14⟩ := asI_elim h13
    exact ⟨_, ⟨g1, g2, g3, g4, g5, g6, g7, trivial⟩, h14⟩

def p20 : Pt St where
  env s := [(0, (.slice s.x_dst.p s.x_dst.n s.x_dst.c)), (1, (.slice s.x_src.p s.x_src.n s.x_src.c)), (5, (.int .i64 s.x_d)), (6, (.int .i64 s.x_s)), (7, (.int .i64 s.x_length)), (8, (.int .i64 s.x_offset)), (511, (.int .i64 s.t511))]
  fin e s K := getV e 0 fun v1 => asS v1 fun p1 n1 c1 => getV e 1 fun v2 => asS v2 fun p2 n2 c2 => getV e 5 fun v3 => asI .i64 v3 fun n3 => getV e 6 fun v4 => asI .i64 v4 fun n4 => getV e 7 fun v5 => asI .i64 v5 fun n5 => getV e 8 fun v6 => asI .i64 v6 fun n6 => getV e 511 fun v7 => asI .i64 v7 fun n7 => K { s with x_dst := ⟨p1, n1, c1⟩, x_src := ⟨p2, n2, c2⟩, x_d := n3, x_s := n4, x_length := n5, x_offset := n6, t511 := n7 }
  ok := by
    intro e s K h0
    obtain ⟨w1, g1, h1⟩ := getV_elim h0
    obtain ⟨p1, n1, c1, rfl, h2⟩ := asS_elim h1
    obtain ⟨w2, g2, h3⟩ := getV_elim h2
    obtain ⟨p2, n2, c2, rfl, h4⟩ := asS_elim h3
    obtain ⟨w3, g3, h5⟩ := getV_elim h4
    obtain ⟨n3, rfl, h6⟩ := asI_elim h5
    obtain ⟨w4, g4, h7⟩ := getV_elim h6
    obtain ⟨n4, rfl, h8⟩ := asI_elim h7
    obtain ⟨w5, g5, h9⟩ := getV_elim h8
    obtain ⟨n5, rfl, h10⟩ := asI_elim h9
    obtain ⟨w6, g6, h11⟩ := getV_elim h10
    obtain ⟨n6, rfl, h12⟩ := asI_elim h11
    obtain ⟨w7, g7, h13⟩ := getV_elim h12
    obtain ⟨n7, rfl, h14⟩ := asI_elim h13
    exact ⟨_, ⟨g1, g2, g3, g4, g5, g6, g7, trivial⟩, h14⟩

def p21 : Pt St where
  env s := [(0, (.slice s.x_dst.p s.x_dst.n s.x_dst.c)), (1, (.slice s.x_src.p s.x_src.n s.x_src.c)), (5, (.int .i64 s.x_d)), (6, (.int .i64 s.x_s))]
  fin e s K := getV e 0 fun v1 => asS v1 fun p1 n1 c1 => getV e 1 fun v2 => asS v2 fun p2 n2 c2 => getV e 5 fun v3 => asI .i64 v3 fun n3 => getV e 6 fun v4 => asI .i64 v4 fun n4 => K { s with x_dst := ⟨p1, n1, c1⟩, x_src := ⟨p2, n2, c2⟩, x_d := n3, x_s := n4 }
  ok := by
    intro e s K h0
    obtain ⟨w1, g1, h1⟩ := getV_elim h0
    obtain ⟨p1, n1, c1, rfl, h2⟩ := asS_elim h1
    obtain ⟨w2, g2, h3⟩ := getV_elim h2
    obtain ⟨p2, n2, c2, rfl, h4⟩ := asS_elim h3
    obtain ⟨w3, g3, h5⟩ := getV_elim h4
    obtain ⟨n3, rfl, h6⟩ := asI_elim h5
    obtain ⟨w4, g4, h7⟩ := getV_elim h6
    obtain ⟨n4, rfl, h8⟩ := asI_elim h7
    exact ⟨_, ⟨g1, g2, g3, g4, trivial⟩, h8⟩

def p22 : Pt St where
  env s := [(0, (.slice s.x_dst.p s.x_dst.n s.x_dst.c)), (1, (.slice s.x_src.p s.x_src.n s.x_src.c)), (5, (.int .i64 s.x_d)), (6, (.int .i64 s.x_s)), (7, (.int .i64 s.x_length)), (8, (.int .i64 s.x_offset)), (17, (.slice s.x_aq17.p s.x_aq17.n s.x_aq17.c))]
  fin e s K := getV e 0 fun v1 => asS v1 fun p1 n1 c1 => getV e 1 fun v2 => asS v2 fun p2 n2 c2 => getV e 5 fun v3 => asI .i64 v3 fun n3 => getV e 6 fun v4 => asI .i64 v4 fun n4 => getV e 7 fun v5 => asI .i64 v5 fun n5 => getV e 8 fun v6 => asI .i64 v6 fun n6 => getV e 17 fun v7 => asS v7 fun p3 n7 c3 => K { s with x_dst := ⟨p1, n1, c1⟩, x_src := ⟨p2, n2, c2⟩, x_d := n3, x_s := n4, x_length := n5, x_offset := n6, x_aq17 := ⟨p3, n7, c3⟩ }
  ok := by
    intro e s K h0
    obtain ⟨w1, g1, h1⟩ := getV_elim h0
    obtain ⟨p1, n1, c1, rfl, h2⟩ := asS_elim h1
    obtain ⟨w2, g2, h3⟩ := getV_elim h2
    obtain ⟨p2, n2, c2, rfl, h4⟩ := asS_elim h3
    obtain ⟨w3, g3, h5⟩ := getV_elim h4
    obtain ⟨n3, rfl, h6⟩ := asI_elim h5
    obtain ⟨w4, g4, h7⟩ := getV_elim h6
    obtain ⟨n4, rfl, h8⟩ := asI_elim h7
    obtain ⟨w5, g5, h9⟩ := getV_elim h8
    obtain ⟨n5, rfl, h10⟩ := asI_elim h9
    obtain ⟨w6, g6, h11⟩ := getV_elim h10
    obtain ⟨n6, rfl, h12⟩ := asI_elim h11
    obtain ⟨w7, g7, h13⟩ := getV_elim h12
    obtain ⟨p3, n7, c3, rfl, h14⟩ := asS_elim h13
    exact ⟨_, ⟨g1, g2, g3, g4, g5, g6, g7, trivial⟩, h14⟩

def p23 : Pt St where
  env s := [(0, (.slice s.x_dst.p s.x_dst.n s.x_dst.c)), (1, (.slice s.x_src.p s.x_src.n s.x_src.c)), (5, (.int .i64 s.x_d)), (6, (.int .i64 s.x_s)), (7, (.int .i64 s.x_length)), (8, (.int .i64 s.x_offset)), (17, (.slice s.x_aq17.p s.x_aq17.n s.x_aq17.c)), (18, (.slice s.x_bq18.p s.x_bq18.n s.x_bq18.c))]
  fin e s K := getV e 0 fun v1 => asS v1 fun p1 n1 c1 => getV e 1 fun v2 => asS v2 fun p2 n2 c2 => getV e 5 fun v3 => asI .i64 v3 fun n3 => getV e 6 fun v4 => asI .i64 v4 fun n4 => getV e 7 fun v5 => asI .i64 v5 fun n5 => getV e 8 fun v6 => asI .i64 v6 fun n6 => getV e 17 fun v7 => asS v7 fun p3 n7 c3 => getV e 18 fun v8 => asS v8 fun p4 n8 c4 => K { s with x_dst := ⟨p1, n1, c1⟩, x_src := ⟨p2, n2, c2⟩, x_d := n3, x_s := n4, x_length := n5, x_offset := n6, x_aq17 := ⟨p3, n7, c3⟩, x_bq18 := ⟨p4, n8, c4⟩ }
  ok := by
    intro e s K h0
    obtain ⟨w1, g1, h1⟩ := getV_elim h0
    obtain ⟨p1, n1, c1, rfl, h2⟩ := asS_elim h1
    obtain ⟨w2, g2, h3⟩ := getV_elim h2
    obtain ⟨p2, n2, c2, rfl, h4⟩ := asS_elim h3
    obtain ⟨w3, g3, h5⟩ := getV_elim h4
    obtain ⟨n3, rfl, h6⟩ := asI_elim h5
    obtain ⟨w4, g4, h7⟩ := getV_elim h6
    obtain ⟨n4, rfl, h8⟩ := asI_elim h7
    obtain ⟨w5, g5, h9⟩ := getV_elim h8
    obtain ⟨n5, rfl, h10⟩ := asI_elim h9
    obtain ⟨w6, g6, h11⟩ := getV_elim h10
    obtain ⟨n6, rfl, h12⟩ := asI_elim h11
    obtain ⟨w7, g7, h13⟩ := getV_elim h12
    obtain ⟨p3, n7, c3, rfl, h14⟩ := asS_elim h13
    obtain ⟨w8, g8, h15⟩ := getV_elim h14
    obtain ⟨p4, n8, c4, rfl, h16⟩ := asS_elim h15
    exact ⟨_, ⟨g1, g2, g3, g4, g5, g6, g7, g8, trivial⟩, h16⟩

def p24 : Pt St where
  env s := [(0, (.slice s.x_dst.p s.x_dst.n s.x_dst.c)), (1, (.slice s.x_src.p s.x_src.n s.x_src.c)), (5, (.int .i64 s.x_d)), (6, (.int .i64 s.x_s)), (7, (.int .i64 s.x_length)), (8, (.int .i64 s.x_offset)), (17, (.slice s.x_aq17.p s.x_aq17.n s.x_aq17.c)), (18, (.slice s.x_bq18.p s.x_bq18.n s.x_bq18.c)), (724, (.int .i64 s.t724)), (725, (.int .i64 s.t725))]
  fin e s K := getV e 0 fun v1 => asS v1 fun p1 n1 c1 => getV e 1 fun v2 => asS v2 fun p2 n2 c2 => getV e 5 fun v3 => asI .i64 v3 fun n3 => getV e 6 fun v4 => asI .i64 v4 fun n4 => getV e 7 fun v5 => asI .i64 v5 fun n5 => getV e 8 fun v6 => asI .i64 v6 fun n6 => getV e 17 fun v7 => asS v7 fun p3 n7 c3 => getV e 18 fun v8 => asS v8 fun p4 n8 c4 => getV e 724 fun v9 => asI .i64 v9 fun n9 => getV e 725 fun v10 => asI .i64 v10 fun n10 => K { s with x_dst := ⟨p1, n1, c1⟩, x_src := ⟨p2, n2, c2⟩, x_d := n3, x_s := n4, x_length := n5, x_offset := n6, x_aq17 := ⟨p3, n7, c3⟩, x_bq18 := ⟨p4, n8, c4⟩, t724 := n9, t725 := n10 }
  ok := by
    intro e s K h0
    obtain ⟨w1, g1, h1⟩ := getV_elim h0
    obtain ⟨p1, n1, c1, rfl, h2⟩ := asS_elim h1
    obtain ⟨w2, g2, h3⟩ := getV_elim h2
    obtain ⟨p2, n2, c2, rfl, h4⟩ := asS_elim h3
    obtain ⟨w3, g3, h5⟩ := getV_elim h4
    obtain ⟨n3, rfl, h6⟩ := asI_elim h5
    obtain ⟨w4, g4, h7⟩ := getV_elim h6
    obtain ⟨n4, rfl, h8⟩ := asI_elim h7
    obtain ⟨w5, g5, h9⟩ := getV_elim h8
    obtain ⟨n5, rfl, h10⟩ := asI_elim h9
    obtain ⟨w6, g6, h11⟩ := getV_elim h10
    obtain ⟨n6, rfl, h12⟩ := asI_elim h11
    obtain ⟨w7, g7, h13⟩ := getV_elim h12
    obtain ⟨p3, n7, c3, rfl, h14⟩ := asS_elim h13
    obtain ⟨w8, g8, h15⟩ := getV_elim h14
    obtain ⟨p4, n8, c4, rfl, h16⟩ := asS_elim h15
    obtain ⟨w9, g9, h17⟩ := getV_elim h16
    obtain ⟨n9, rfl, h18⟩ := asI_elim h17
    obtain ⟨w10, g10, h19⟩ := getV_elim h18
    obtain ⟨n10, rfl, h20⟩ := asI_elim h19
    exact ⟨_, ⟨g1, g2, g3, g4, g5, g6, g7, g8, g9, g10, trivial⟩, h20⟩

def p25 : Pt St where
  env s := [(0, (.slice s.x_dst.p s.x_dst.n s.x_dst.c)), (1, (.slice s.x_src.p s.x_src.n s.x_src.c)), (5, (.int .i64 s.x_d)), (6, (.int .i64 s.x_s)), (7, (.int .i64 s.x_length)), (8, (.int .i64 s.x_offset)), (17, (.slice s.x_aq17.p s.x_aq17.n s.x_aq17.c)), (18, (.slice s.x_bq18.p s.x_bq18.n s.x_bq18.c)), (724, (.int .i64 s.t724)), (725, (.int .i64 s.t725)), (726, (.bool s.t726))]
  fin e s K := getV e 0 fun v1 => asS v1 fun p1 n1 c1 => getV e 1 fun v2 => asS v2 fun p2 n2 c2 => getV e 5 fun v3 => asI .i64 v3 fun n3 => getV e 6 fun v4 => asI .i64 v4 fun n4 => getV e 7 fun v5 => asI .i64 v5 fun n5 => getV e 8 fun v6 => asI .i64 v6 fun n6 => getV e 17 fun v7 => asS v7 fun p3 n7 c3 => getV e 18 fun v8 => asS v8 fun p4 n8 c4 => getV e 724 fun v9 => asI .i64 v9 fun n9 => getV e 725 fun v10 => asI .i64 v10 fun n10 => getV e 726 fun v11 => asB v11 fun b1 => K { s with x_dst := ⟨p1, n1, c1⟩, x_src := ⟨p2, n2, c2⟩, x_d := n3, x_s := n4, x_length := n5, x_offset := n6, x_aq17 := ⟨p3, n7, c3⟩, x_bq18 := ⟨p4, n8, c4⟩, t724 := n9, t725 := n10, t726 := b1 }
  ok := by
    intro e s K h0
    obtain ⟨w1, g1, h1⟩ := getV_elim h0
    obtain ⟨p1, n1, c1, rfl, h2⟩ := asS_elim h1
    obtain ⟨w2, g2, h3⟩ := getV_elim h2
    obtain ⟨p2, n2, c2, rfl, h4⟩ := asS_elim h3
    obtain ⟨w3, g3, h5⟩ := getV_elim h4
    obtain ⟨n3, rfl, h6⟩ := asI_elim h5
    obtain ⟨w4, g4, h7⟩ := getV_elim h6
    obtain ⟨n4, rfl, h8⟩ := asI_elim h7
    obtain ⟨w5, g5, h9⟩ := getV_elim h8
    obtain ⟨n5, rfl, h10⟩ := asI_elim h9
    obtain ⟨w6, g6, h11⟩ := getV_elim h10
    obtain ⟨n6, rfl, h12⟩ := asI_elim h11
    obtain ⟨w7, g7, h13⟩ := getV_elim h12
    obtain ⟨p3, n7, c3, rfl, h14⟩ := asS_elim h13
    obtain ⟨w8, g8, h15⟩ := getV_elim h14
    obtain ⟨p4, n8, c4, rfl, h16⟩ := asS_elim h15
    obtain ⟨w9, g9, h17⟩ := getV_elim h16
    obtain ⟨n9, rfl, h18⟩ := asI_elim h17
    obtain ⟨w10, g10, h19⟩ := getV_elim h18
    obtain ⟨n10, rfl, h20⟩ := asI_elim h19
    obtain ⟨w11, g11, h21⟩ := getV_elim h20
    obtain ⟨b1, rfl, h22⟩ := asB_elim h21
    exact ⟨_, ⟨g1, g2, g3, g4, g5, g6, g7, g8, g9, g10, g11, trivial⟩, h22⟩

def p26 : Pt St where
  env s := [(0, (.slice s.x_dst.p s.x_dst.n s.x_dst.c)), (1, (.slice s.x_src.p s.x_src.n s.x_src.c)), (5, (.int .i64 s.x_d)), (6, (.int .i64 s.x_s)), (7, (.int .i64 s.x_length)), (8, (.int .i64 s.x_offset)), (17, (.slice s.x_aq17.p s.x_aq17.n s.x_aq17.c)), (18, (.slice s.x_bq18.p s.x_bq18.n s.x_bq18.c)), (19, (.int .i64 s.x_iq19)), (724, (.int .i64 s.t724)), (725, (.int .i64 s.t725))]
  fin e s K := getV e 0 fun v1 => asS v1 fun p1 n1 c1 => getV e 1 fun v2 => asS v2 fun p2 n2 c2 => getV e 5 fun v3 => asI .i64 v3 fun n3 => getV e 6 fun v4 => asI .i64 v4 fun n4 => getV e 7 fun v5 => asI .i64 v5 fun n5 => getV e 8 fun v6 => asI .i64 v6 fun n6 => getV e 17 fun v7 => asS v7 fun p3 n7 c3 => getV e 18 fun v8 => asS v8 fun p4 n8 c4 => getV e 19 fun v9 => asI .i64 v9 fun n9 => getV e 724 fun v10 => asI .i64 v10 fun n10 => getV e 725 fun v11 => asI .i64 v11 fun n11 => K { s with x_dst := ⟨p1, n1, c1⟩, x_src := ⟨p2, n2, c2⟩, x_d := n3, x_s := n4, x_length := n5, x_offset := n6, x_aq17 := ⟨p3, n7, c3⟩, x_bq18 := ⟨p4, n8, c4⟩, x_iq19 := n9, t724 := n10, t725 := n11 }
  ok := by
    intro e s K h0
    obtain ⟨w1, g1, h1⟩ := getV_elim h0
    obtain ⟨p1, n1, c1, rfl, h2⟩ := asS_elim h1
    obtain ⟨w2, g2, h3⟩ := getV_elim h2
    obtain ⟨p2, n2, c2, rfl, h4⟩ := asS_elim h3
    obtain ⟨w3, g3, h5⟩ := getV_elim h4
    obtain ⟨n3, rfl, h6⟩ := asI_elim h5
    obtain ⟨w4, g4, h7⟩ := getV_elim h6
    obtain ⟨n4, rfl, h8⟩ := asI_elim h7
    obtain ⟨w5, g5, h9⟩ := getV_elim h8
    obtain ⟨n5, rfl, h10⟩ := asI_elim h9
    obtain ⟨w6, g6, h11⟩ := getV_elim h10
    obtain ⟨n6, rfl, h12⟩ := asI_elim h11
    obtain ⟨w7, g7, h13⟩ := getV_elim h12
    obtain ⟨p3, n7, c3, rfl, h14⟩ := asS_elim h13
    obtain ⟨w8, g8, h15⟩ := getV_elim h14
    obtain ⟨p4, n8, c4, rfl, h16⟩ := asS_elim h15
    obtain ⟨w9, g9, h17⟩ := getV_elim h16
    obtain ⟨n9, rfl, h18⟩ := asI_elim h17
    obtain ⟨w10, g10, h19⟩ := getV_elim h18
    obtain ⟨n10, rfl, h20⟩ := asI_elim h19
    obtain ⟨w11, g11, h21⟩ := getV_elim h20
    obtain ⟨n11, rfl, h22⟩ := asI_elim h21
    exact ⟨_, ⟨g1, g2, g3, g4, g5, g6, g7, g8, g9, g10, g11, trivial⟩, h22⟩

def p27 : Pt St where
  env s := []
  fin e s K := K s
  ok := by
    intro e s K h0
    exact ⟨_, trivial, h0⟩

def r0 (s : St) (h : Heap) (Q : St → Heap → Prop) : Prop :=
  Q s h

def r1 (s : St) (h : Heap) (Q : St → Heap → Prop) : Prop :=
  Q { s with x_d := (0 : Int), x_s := (0 : Int), x_length := (0 : Int) } h

def r2 (s : St) (h : Heap) (Q : St → Heap → Prop) : Prop :=
  Q { s with x_offset := (0 : Int) } h

def r3 (s : St) (h : Heap) (Q : Bool → St → Heap → Prop) : Prop :=
  Q (decide (s.x_s < (IntKind.wrap .i64 (((s.x_src.n : Nat) : Int) - (5 : Int))))) s h

def r4 (s : St) (h : Heap) (Q : St → Heap → Prop) : Prop :=
  0 ≤ s.x_s ∧ s.x_s < ((s.x_src.n : Nat) : Int) ∧
  ptrE s.x_src.p fun a1 =>
  ∃ v2 : Int, hcell h (Addr.add a1 (Int.toNat s.x_s * 1)) = some (.int .u8 v2) ∧
  Q { s with t29 := (bAnd .u8 v2 (3 : Int)) } h

def r5 (s : St) (h : Heap) (Q : Bool → St → Heap → Prop) : Prop :=
  Q (s.t29 == (0 : Int)) s h

def r6 (s : St) (h : Heap) (Q : St → Heap → Prop) : Prop :=
  0 ≤ s.x_s ∧ s.x_s < ((s.x_src.n : Nat) : Int) ∧
  ptrE s.x_src.p fun a1 =>
  ∃ v2 : Int, hcell h (Addr.add a1 (Int.toNat s.x_s * 1)) = some (.int .u8 v2) ∧
  Q { s with x_x := (IntKind.wrap .u32 (Int.fdiv v2 (2 ^ (2 : Nat)))) } h

def r7 (s : St) (h : Heap) (Q : Bool → St → Heap → Prop) : Prop :=
  Q (decide (s.x_x < (60 : Int))) s h

def r8 (s : St) (h : Heap) (Q : St → Heap → Prop) : Prop :=
  Q { s with x_s := (IntKind.wrap .i64 (s.x_s + (1 : Int))) } h

def r9 (s : St) (h : Heap) (Q : Bool → St → Heap → Prop) : Prop :=
  Q (s.x_x == (60 : Int)) s h

def r10 (s : St) (h : Heap) (Q : St → Heap → Prop) : Prop :=
  0 ≤ (IntKind.wrap .i64 (s.x_s + (1 : Int))) ∧ (IntKind.wrap .i64 (s.x_s + (1 : Int))) < ((s.x_src.n : Nat) : Int) ∧
  ptrE s.x_src.p fun a1 =>
  ∃ v2 : Int, hcell h (Addr.add a1 (Int.toNat (IntKind.wrap .i64 (s.x_s + (1 : Int))) * 1)) = some (.int .u8 v2) ∧
  Q { s with x_x := (IntKind.wrap .u32 v2) } h

def r11 (s : St) (h : Heap) (Q : St → Heap → Prop) : Prop :=
  Q { s with x_s := (IntKind.wrap .i64 (s.x_s + (2 : Int))) } h

def r12 (s : St) (h : Heap) (Q : Bool → St → Heap → Prop) : Prop :=
  Q (s.x_x == (61 : Int)) s h

def r13 (s : St) (h : Heap) (Q : St → Heap → Prop) : Prop :=
  c_Load16 s.x_src (IntKind.wrap .i64 (s.x_s + (1 : Int))) h fun r2 h1 =>
  Q { s with x_x := (IntKind.wrap .u32 r2) } h1

def r14 (s : St) (h : Heap) (Q : St → Heap → Prop) : Prop :=
  Q { s with x_s := (IntKind.wrap .i64 (s.x_s + (3 : Int))) } h

def r15 (s : St) (h : Heap) (Q : Bool → St → Heap → Prop) : Prop :=
  Q (s.x_x == (62 : Int)) s h

def r16 (s : St) (h : Heap) (Q : St → Heap → Prop) : Prop :=
  c_Load32 s.x_src s.x_s h fun r2 h1 =>
  Q { s with x_x := r2 } h1

def r17 (s : St) (h : Heap) (Q : St → Heap → Prop) : Prop :=
  Q { s with x_x := (Int.fdiv s.x_x (2 ^ (8 : Nat))) } h

def r18 (s : St) (h : Heap) (Q : St → Heap → Prop) : Prop :=
  Q { s with x_s := (IntKind.wrap .i64 (s.x_s + (4 : Int))) } h

def r19 (s : St) (h : Heap) (Q : Bool → St → Heap → Prop) : Prop :=
  Q (s.x_x == (63 : Int)) s h

def r20 (s : St) (h : Heap) (Q : St → Heap → Prop) : Prop :=
  c_Load32 s.x_src (IntKind.wrap .i64 (s.x_s + (1 : Int))) h fun r2 h1 =>
  Q { s with x_x := r2 } h1

def r21 (s : St) (h : Heap) (Q : St → Heap → Prop) : Prop :=
  Q { s with x_s := (IntKind.wrap .i64 (s.x_s + (5 : Int))) } h

def r22 (s : St) (h : Heap) (Q : St → Heap → Prop) : Prop :=
  Q { s with x_length := (IntKind.wrap .i64 ((IntKind.wrap .i64 s.x_x) + (1 : Int))) } h

def r23 (s : St) (h : Heap) (Q : Bool → St → Heap → Prop) : Prop :=
  (if (decide (s.x_length > (IntKind.wrap .i64 (((s.x_dst.n : Nat) : Int) - s.x_d)))) = false then
  ((if (decide (s.x_length > (IntKind.wrap .i64 (((s.x_src.n : Nat) : Int) - s.x_s)))) = false then
  (Q false s h)
  else
  (Q true s h)))
  else
  (Q true s h))

def r24 (s : St) (h : Heap) (Q : St → Heap → Prop) : Prop :=
  Q { s with t4 := (1 : Int) } h

def r25 (s : St) (h : Heap) (Q : St → Heap → Prop) : Prop :=
  0 ≤ s.x_d ∧ s.x_d ≤ ((s.x_dst.n : Nat) : Int) ∧
  0 ≤ (IntKind.wrap .i64 (s.x_s + s.x_length)) ∧ (IntKind.wrap .i64 (s.x_s + s.x_length)) ≤ ((s.x_src.c : Nat) : Int) ∧
  0 ≤ s.x_s ∧ s.x_s ≤ (((Int.toNat (IntKind.wrap .i64 (s.x_s + s.x_length))) : Nat) : Int) ∧
  copyT Pg 5 (subP s.x_dst.p (Int.toNat s.x_d) s.x_dst.c 1) (s.x_dst.n - (Int.toNat s.x_d)) (.slice (subP s.x_src.p (Int.toNat s.x_s) s.x_src.c 1) ((Int.toNat (IntKind.wrap .i64 (s.x_s + s.x_length))) - (Int.toNat s.x_s)) (s.x_src.c - (Int.toNat s.x_s))) ((Int.toNat (IntKind.wrap .i64 (s.x_s + s.x_length))) - (Int.toNat s.x_s)) h fun n1 h2 =>
  Q s h2

def r26 (s : St) (h : Heap) (Q : St → Heap → Prop) : Prop :=
  Q { s with x_d := (IntKind.wrap .i64 (s.x_d + s.x_length)) } h

def r27 (s : St) (h : Heap) (Q : St → Heap → Prop) : Prop :=
  Q { s with x_s := (IntKind.wrap .i64 (s.x_s + s.x_length)) } h

def r28 (s : St) (h : Heap) (Q : Bool → St → Heap → Prop) : Prop :=
  Q (s.t29 == (1 : Int)) s h

def r29 (s : St) (h : Heap) (Q : St → Heap → Prop) : Prop :=
  Q { s with x_s := (IntKind.wrap .i64 (s.x_s + (2 : Int))) } h

def r30 (s : St) (h : Heap) (Q : St → Heap → Prop) : Prop :=
  0 ≤ (IntKind.wrap .i64 (s.x_s - (2 : Int))) ∧ (IntKind.wrap .i64 (s.x_s - (2 : Int))) < ((s.x_src.n : Nat) : Int) ∧
  ptrE s.x_src.p fun a1 =>
  ∃ v2 : Int, hcell h (Addr.add a1 (Int.toNat (IntKind.wrap .i64 (s.x_s - (2 : Int))) * 1)) = some (.int .u8 v2) ∧
  0 ≤ (IntKind.wrap .i64 (s.x_s - (1 : Int))) ∧ (IntKind.wrap .i64 (s.x_s - (1 : Int))) < ((s.x_src.n : Nat) : Int) ∧
  ptrE s.x_src.p fun a3 =>
  ∃ v4 : Int, hcell h (Addr.add a3 (Int.toNat (IntKind.wrap .i64 (s.x_s - (1 : Int))) * 1)) = some (.int .u8 v4) ∧
  Q { s with x_toffset := (IntKind.wrap .i64 (bOr .u32 (IntKind.wrap .u32 ((bAnd .u32 (IntKind.wrap .u32 v2) (224 : Int)) * 2 ^ (3 : Nat))) (IntKind.wrap .u32 v4))) } h

def r31 (s : St) (h : Heap) (Q : St → Heap → Prop) : Prop :=
  0 ≤ (IntKind.wrap .i64 (s.x_s - (2 : Int))) ∧ (IntKind.wrap .i64 (s.x_s - (2 : Int))) < ((s.x_src.n : Nat) : Int) ∧
  ptrE s.x_src.p fun a1 =>
  ∃ v2 : Int, hcell h (Addr.add a1 (Int.toNat (IntKind.wrap .i64 (s.x_s - (2 : Int))) * 1)) = some (.int .u8 v2) ∧
  Q { s with x_length := (bAnd .i64 (Int.fdiv (IntKind.wrap .i64 v2) (2 ^ (2 : Nat))) (7 : Int)) } h

def r32 (s : St) (h : Heap) (Q : Bool → St → Heap → Prop) : Prop :=
  Q (s.x_toffset == (0 : Int)) s h

def r33 (s : St) (h : Heap) (Q : St → Heap → Prop) : Prop :=
  Q { s with t152 := s.x_length } h

def r34 (s : St) (h : Heap) (Q : Bool → St → Heap → Prop) : Prop :=
  Q (s.t152 == (5 : Int)) s h

def r35 (s : St) (h : Heap) (Q : St → Heap → Prop) : Prop :=
  0 ≤ s.x_s ∧ s.x_s < ((s.x_src.n : Nat) : Int) ∧
  ptrE s.x_src.p fun a1 =>
  ∃ v2 : Int, hcell h (Addr.add a1 (Int.toNat s.x_s * 1)) = some (.int .u8 v2) ∧
  Q { s with x_length := (IntKind.wrap .i64 ((IntKind.wrap .i64 v2) + (4 : Int))) } h

def r36 (s : St) (h : Heap) (Q : St → Heap → Prop) : Prop :=
  Q { s with x_s := (IntKind.wrap .i64 (s.x_s + (1 : Int))) } h

def r37 (s : St) (h : Heap) (Q : Bool → St → Heap → Prop) : Prop :=
  Q (s.t152 == (6 : Int)) s h

def r38 (s : St) (h : Heap) (Q : St → Heap → Prop) : Prop :=
  c_Load16 s.x_src s.x_s h fun r2 h1 =>
  Q { s with x_length := (IntKind.wrap .i64 ((IntKind.wrap .i64 r2) + (256 : Int))) } h1

def r39 (s : St) (h : Heap) (Q : St → Heap → Prop) : Prop :=
  Q { s with x_s := (IntKind.wrap .i64 (s.x_s + (2 : Int))) } h

def r40 (s : St) (h : Heap) (Q : Bool → St → Heap → Prop) : Prop :=
  Q (s.t152 == (7 : Int)) s h

def r41 (s : St) (h : Heap) (Q : St → Heap → Prop) : Prop :=
  0 ≤ (IntKind.wrap .i64 (s.x_s + (3 : Int))) ∧ (IntKind.wrap .i64 (s.x_s + (3 : Int))) ≤ ((s.x_src.c : Nat) : Int) ∧
  0 ≤ s.x_s ∧ s.x_s ≤ (((Int.toNat (IntKind.wrap .i64 (s.x_s + (3 : Int)))) : Nat) : Int) ∧
  Q { s with x_in := ⟨(subP s.x_src.p (Int.toNat s.x_s) s.x_src.c 1), ((Int.toNat (IntKind.wrap .i64 (s.x_s + (3 : Int)))) - (Int.toNat s.x_s)), (s.x_src.c - (Int.toNat s.x_s))⟩ } h

def r42 (s : St) (h : Heap) (Q : St → Heap → Prop) : Prop :=
  0 ≤ (2 : Int) ∧ (2 : Int) < ((s.x_in.n : Nat) : Int) ∧
  ptrE s.x_in.p fun a1 =>
  ∃ v2 : Int, hcell h (Addr.add a1 (Int.toNat (2 : Int) * 1)) = some (.int .u8 v2) ∧
  0 ≤ (1 : Int) ∧ (1 : Int) < ((s.x_in.n : Nat) : Int) ∧
  ptrE s.x_in.p fun a3 =>
  ∃ v4 : Int, hcell h (Addr.add a3 (Int.toNat (1 : Int) * 1)) = some (.int .u8 v4) ∧
  0 ≤ (0 : Int) ∧ (0 : Int) < ((s.x_in.n : Nat) : Int) ∧
  ptrE s.x_in.p fun a5 =>
  ∃ v6 : Int, hcell h (Addr.add a5 (Int.toNat (0 : Int) * 1)) = some (.int .u8 v6) ∧
  Q { s with x_length := (IntKind.wrap .i64 ((IntKind.wrap .i64 (bOr .u32 (bOr .u32 (IntKind.wrap .u32 ((IntKind.wrap .u32 v2) * 2 ^ (16 : Nat))) (IntKind.wrap .u32 ((IntKind.wrap .u32 v4) * 2 ^ (8 : Nat)))) (IntKind.wrap .u32 v6))) + (65536 : Int))) } h

def r43 (s : St) (h : Heap) (Q : St → Heap → Prop) : Prop :=
  Q { s with x_s := (IntKind.wrap .i64 (s.x_s + (3 : Int))) } h

def r44 (s : St) (h : Heap) (Q : St → Heap → Prop) : Prop :=
  Q { s with x_offset := s.x_toffset } h

def r45 (s : St) (h : Heap) (Q : St → Heap → Prop) : Prop :=
  Q { s with x_length := (IntKind.wrap .i64 (s.x_length + (4 : Int))) } h

def r46 (s : St) (h : Heap) (Q : Bool → St → Heap → Prop) : Prop :=
  Q (s.t29 == (2 : Int)) s h

def r47 (s : St) (h : Heap) (Q : St → Heap → Prop) : Prop :=
  c_Load16 s.x_src (IntKind.wrap .i64 (s.x_s + (1 : Int))) h fun r2 h1 =>
  Q { s with x_offset := (IntKind.wrap .i64 r2) } h1

def r48 (s : St) (h : Heap) (Q : St → Heap → Prop) : Prop :=
  0 ≤ s.x_s ∧ s.x_s < ((s.x_src.n : Nat) : Int) ∧
  ptrE s.x_src.p fun a1 =>
  ∃ v2 : Int, hcell h (Addr.add a1 (Int.toNat s.x_s * 1)) = some (.int .u8 v2) ∧
  Q { s with x_length := (IntKind.wrap .i64 ((1 : Int) + (Int.fdiv (IntKind.wrap .i64 v2) (2 ^ (2 : Nat))))) } h

def r49 (s : St) (h : Heap) (Q : St → Heap → Prop) : Prop :=
  Q { s with x_s := (IntKind.wrap .i64 (s.x_s + (3 : Int))) } h

def r50 (s : St) (h : Heap) (Q : Bool → St → Heap → Prop) : Prop :=
  Q (s.t29 == (3 : Int)) s h

def r51 (s : St) (h : Heap) (Q : St → Heap → Prop) : Prop :=
  c_Load32 s.x_src (IntKind.wrap .i64 (s.x_s + (1 : Int))) h fun r2 h1 =>
  Q { s with x_offset := (IntKind.wrap .i64 r2) } h1

def r52 (s : St) (h : Heap) (Q : St → Heap → Prop) : Prop :=
  0 ≤ s.x_s ∧ s.x_s < ((s.x_src.n : Nat) : Int) ∧
  ptrE s.x_src.p fun a1 =>
  ∃ v2 : Int, hcell h (Addr.add a1 (Int.toNat s.x_s * 1)) = some (.int .u8 v2) ∧
  Q { s with x_length := (IntKind.wrap .i64 ((1 : Int) + (Int.fdiv (IntKind.wrap .i64 v2) (2 ^ (2 : Nat))))) } h

def r53 (s : St) (h : Heap) (Q : St → Heap → Prop) : Prop :=
  Q { s with x_s := (IntKind.wrap .i64 (s.x_s + (5 : Int))) } h

def r54 (s : St) (h : Heap) (Q : Bool → St → Heap → Prop) : Prop :=
  (if (decide (s.x_offset ≤ (0 : Int))) = false then
  ((if (decide (s.x_d < s.x_offset)) = false then
  (Q (decide (s.x_length > (IntKind.wrap .i64 (((s.x_dst.n : Nat) : Int) - s.x_d)))) s h)
  else
  (Q true s h)))
  else
  (Q true s h))

def r55 (s : St) (h : Heap) (Q : St → Heap → Prop) : Prop :=
  Q { s with t4 := (1 : Int) } h

def r56 (s : St) (h : Heap) (Q : Bool → St → Heap → Prop) : Prop :=
  Q (decide (s.x_offset > s.x_length)) s h

def r57 (s : St) (h : Heap) (Q : St → Heap → Prop) : Prop :=
  0 ≤ (IntKind.wrap .i64 (s.x_d + s.x_length)) ∧ (IntKind.wrap .i64 (s.x_d + s.x_length)) ≤ ((s.x_dst.c : Nat) : Int) ∧
  0 ≤ s.x_d ∧ s.x_d ≤ (((Int.toNat (IntKind.wrap .i64 (s.x_d + s.x_length))) : Nat) : Int) ∧
  0 ≤ (IntKind.wrap .i64 (s.x_d - s.x_offset)) ∧ (IntKind.wrap .i64 (s.x_d - s.x_offset)) ≤ ((s.x_dst.n : Nat) : Int) ∧
  copyT Pg 5 (subP s.x_dst.p (Int.toNat s.x_d) s.x_dst.c 1) ((Int.toNat (IntKind.wrap .i64 (s.x_d + s.x_length))) - (Int.toNat s.x_d)) (.slice (subP s.x_dst.p (Int.toNat (IntKind.wrap .i64 (s.x_d - s.x_offset))) s.x_dst.c 1) (s.x_dst.n - (Int.toNat (IntKind.wrap .i64 (s.x_d - s.x_offset)))) (s.x_dst.c - (Int.toNat (IntKind.wrap .i64 (s.x_d - s.x_offset))))) (s.x_dst.n - (Int.toNat (IntKind.wrap .i64 (s.x_d - s.x_offset)))) h fun n1 h2 =>
  Q s h2

def r58 (s : St) (h : Heap) (Q : St → Heap → Prop) : Prop :=
  Q { s with x_d := (IntKind.wrap .i64 (s.x_d + s.x_length)) } h

def r59 (s : St) (h : Heap) (Q : St → Heap → Prop) : Prop :=
  0 ≤ (IntKind.wrap .i64 (s.x_d + s.x_length)) ∧ (IntKind.wrap .i64 (s.x_d + s.x_length)) ≤ ((s.x_dst.c : Nat) : Int) ∧
  0 ≤ s.x_d ∧ s.x_d ≤ (((Int.toNat (IntKind.wrap .i64 (s.x_d + s.x_length))) : Nat) : Int) ∧
  Q { s with x_a := ⟨(subP s.x_dst.p (Int.toNat s.x_d) s.x_dst.c 1), ((Int.toNat (IntKind.wrap .i64 (s.x_d + s.x_length))) - (Int.toNat s.x_d)), (s.x_dst.c - (Int.toNat s.x_d))⟩ } h

def r60 (s : St) (h : Heap) (Q : St → Heap → Prop) : Prop :=
  0 ≤ (IntKind.wrap .i64 (s.x_d - s.x_offset)) ∧ (IntKind.wrap .i64 (s.x_d - s.x_offset)) ≤ ((s.x_dst.n : Nat) : Int) ∧
  Q { s with x_b := ⟨(subP s.x_dst.p (Int.toNat (IntKind.wrap .i64 (s.x_d - s.x_offset))) s.x_dst.c 1), (s.x_dst.n - (Int.toNat (IntKind.wrap .i64 (s.x_d - s.x_offset)))), (s.x_dst.c - (Int.toNat (IntKind.wrap .i64 (s.x_d - s.x_offset))))⟩ } h

def r61 (s : St) (h : Heap) (Q : St → Heap → Prop) : Prop :=
  0 ≤ ((s.x_a.n : Nat) : Int) ∧ ((s.x_a.n : Nat) : Int) ≤ ((s.x_b.c : Nat) : Int) ∧
  Q { s with x_b := ⟨(subP s.x_b.p 0 s.x_b.c 1), ((Int.toNat ((s.x_a.n : Nat) : Int)) - 0), (s.x_b.c - 0)⟩ } h

def r62 (s : St) (h : Heap) (Q : St → Heap → Prop) : Prop :=
  Q { s with t283 := ((s.x_a.n : Nat) : Int), t284 := (0 : Int) } h

def r63 (s : St) (h : Heap) (Q : St → Heap → Prop) : Prop :=
  Q { s with t285 := (decide (s.t284 < s.t283)) } h

def r64 (s : St) (h : Heap) (Q : St → Heap → Prop) : Prop :=
  Q { s with x_i := s.t284 } h

def r65 (s : St) (h : Heap) (Q : St → Heap → Prop) : Prop :=
  0 ≤ s.x_i ∧ s.x_i < ((s.x_b.n : Nat) : Int) ∧
  ptrE s.x_b.p fun a1 =>
  ∃ v2 : Int, hcell h (Addr.add a1 (Int.toNat s.x_i * 1)) = some (.int .u8 v2) ∧
  0 ≤ s.x_i ∧ s.x_i < ((s.x_a.n : Nat) : Int) ∧
  ptrE s.x_a.p fun a3 =>
  st1 (Addr.add (Addr.add a3 (Int.toNat s.x_i * 1)) 0) (.int .u8 v2) h fun h4 =>
  Q s h4

def r66 (s : St) (h : Heap) (Q : St → Heap → Prop) : Prop :=
  Q { s with t284 := (IntKind.wrap .i64 (s.t284 + (1 : Int))) } h

def r67 (s : St) (h : Heap) (Q : St → Heap → Prop) : Prop :=
  Q { s with x_d := (IntKind.wrap .i64 (s.x_d + s.x_length)) } h

def r68 (s : St) (h : Heap) (Q : Bool → St → Heap → Prop) : Prop :=
  Q (decide (s.x_s < ((s.x_src.n : Nat) : Int))) s h

def r69 (s : St) (h : Heap) (Q : St → Heap → Prop) : Prop :=
  0 ≤ s.x_s ∧ s.x_s < ((s.x_src.n : Nat) : Int) ∧
  ptrE s.x_src.p fun a1 =>
  ∃ v2 : Int, hcell h (Addr.add a1 (Int.toNat s.x_s * 1)) = some (.int .u8 v2) ∧
  Q { s with t306 := (bAnd .u8 v2 (3 : Int)) } h

def r70 (s : St) (h : Heap) (Q : Bool → St → Heap → Prop) : Prop :=
  Q (s.t306 == (0 : Int)) s h

def r71 (s : St) (h : Heap) (Q : St → Heap → Prop) : Prop :=
  0 ≤ s.x_s ∧ s.x_s < ((s.x_src.n : Nat) : Int) ∧
  ptrE s.x_src.p fun a1 =>
  ∃ v2 : Int, hcell h (Addr.add a1 (Int.toNat s.x_s * 1)) = some (.int .u8 v2) ∧
  Q { s with x_xq15 := (IntKind.wrap .u32 (Int.fdiv v2 (2 ^ (2 : Nat)))) } h

def r72 (s : St) (h : Heap) (Q : Bool → St → Heap → Prop) : Prop :=
  Q (decide (s.x_xq15 < (60 : Int))) s h

def r73 (s : St) (h : Heap) (Q : St → Heap → Prop) : Prop :=
  Q { s with x_s := (IntKind.wrap .i64 (s.x_s + (1 : Int))) } h

def r74 (s : St) (h : Heap) (Q : Bool → St → Heap → Prop) : Prop :=
  Q (s.x_xq15 == (60 : Int)) s h

def r75 (s : St) (h : Heap) (Q : St → Heap → Prop) : Prop :=
  Q { s with x_s := (IntKind.wrap .i64 (s.x_s + (2 : Int))) } h

def r76 (s : St) (h : Heap) (Q : Bool → St → Heap → Prop) : Prop :=
  Q (decide ((IntKind.wrap .u64 s.x_s) > (IntKind.wrap .u64 ((s.x_src.n : Nat) : Int)))) s h

def r77 (s : St) (h : Heap) (Q : St → Heap → Prop) : Prop :=
  Q { s with t4 := (1 : Int) } h

def r78 (s : St) (h : Heap) (Q : St → Heap → Prop) : Prop :=
  0 ≤ (IntKind.wrap .i64 (s.x_s - (1 : Int))) ∧ (IntKind.wrap .i64 (s.x_s - (1 : Int))) < ((s.x_src.n : Nat) : Int) ∧
  ptrE s.x_src.p fun a1 =>
  ∃ v2 : Int, hcell h (Addr.add a1 (Int.toNat (IntKind.wrap .i64 (s.x_s - (1 : Int))) * 1)) = some (.int .u8 v2) ∧
  Q { s with x_xq15 := (IntKind.wrap .u32 v2) } h

def r79 (s : St) (h : Heap) (Q : Bool → St → Heap → Prop) : Prop :=
  Q (s.x_xq15 == (61 : Int)) s h

def r80 (s : St) (h : Heap) (Q : St → Heap → Prop) : Prop :=
  Q { s with x_s := (IntKind.wrap .i64 (s.x_s + (3 : Int))) } h

def r81 (s : St) (h : Heap) (Q : Bool → St → Heap → Prop) : Prop :=
  Q (decide ((IntKind.wrap .u64 s.x_s) > (IntKind.wrap .u64 ((s.x_src.n : Nat) : Int)))) s h

def r82 (s : St) (h : Heap) (Q : St → Heap → Prop) : Prop :=
  Q { s with t4 := (1 : Int) } h

def r83 (s : St) (h : Heap) (Q : St → Heap → Prop) : Prop :=
  0 ≤ (IntKind.wrap .i64 (s.x_s - (2 : Int))) ∧ (IntKind.wrap .i64 (s.x_s - (2 : Int))) < ((s.x_src.n : Nat) : Int) ∧
  ptrE s.x_src.p fun a1 =>
  ∃ v2 : Int, hcell h (Addr.add a1 (Int.toNat (IntKind.wrap .i64 (s.x_s - (2 : Int))) * 1)) = some (.int .u8 v2) ∧
  0 ≤ (IntKind.wrap .i64 (s.x_s - (1 : Int))) ∧ (IntKind.wrap .i64 (s.x_s - (1 : Int))) < ((s.x_src.n : Nat) : Int) ∧
  ptrE s.x_src.p fun a3 =>
  ∃ v4 : Int, hcell h (Addr.add a3 (Int.toNat (IntKind.wrap .i64 (s.x_s - (1 : Int))) * 1)) = some (.int .u8 v4) ∧
  Q { s with x_xq15 := (bOr .u32 (IntKind.wrap .u32 v2) (IntKind.wrap .u32 ((IntKind.wrap .u32 v4) * 2 ^ (8 : Nat)))) } h

def r84 (s : St) (h : Heap) (Q : Bool → St → Heap → Prop) : Prop :=
  Q (s.x_xq15 == (62 : Int)) s h

def r85 (s : St) (h : Heap) (Q : St → Heap → Prop) : Prop :=
  Q { s with x_s := (IntKind.wrap .i64 (s.x_s + (4 : Int))) } h

def r86 (s : St) (h : Heap) (Q : Bool → St → Heap → Prop) : Prop :=
  Q (decide ((IntKind.wrap .u64 s.x_s) > (IntKind.wrap .u64 ((s.x_src.n : Nat) : Int)))) s h

def r87 (s : St) (h : Heap) (Q : St → Heap → Prop) : Prop :=
  Q { s with t4 := (1 : Int) } h

def r88 (s : St) (h : Heap) (Q : St → Heap → Prop) : Prop :=
  0 ≤ (IntKind.wrap .i64 (s.x_s - (3 : Int))) ∧ (IntKind.wrap .i64 (s.x_s - (3 : Int))) < ((s.x_src.n : Nat) : Int) ∧
  ptrE s.x_src.p fun a1 =>
  ∃ v2 : Int, hcell h (Addr.add a1 (Int.toNat (IntKind.wrap .i64 (s.x_s - (3 : Int))) * 1)) = some (.int .u8 v2) ∧
  0 ≤ (IntKind.wrap .i64 (s.x_s - (2 : Int))) ∧ (IntKind.wrap .i64 (s.x_s - (2 : Int))) < ((s.x_src.n : Nat) : Int) ∧
  ptrE s.x_src.p fun a3 =>
  ∃ v4 : Int, hcell h (Addr.add a3 (Int.toNat (IntKind.wrap .i64 (s.x_s - (2 : Int))) * 1)) = some (.int .u8 v4) ∧
  0 ≤ (IntKind.wrap .i64 (s.x_s - (1 : Int))) ∧ (IntKind.wrap .i64 (s.x_s - (1 : Int))) < ((s.x_src.n : Nat) : Int) ∧
  ptrE s.x_src.p fun a5 =>
  ∃ v6 : Int, hcell h (Addr.add a5 (Int.toNat (IntKind.wrap .i64 (s.x_s - (1 : Int))) * 1)) = some (.int .u8 v6) ∧
  Q { s with x_xq15 := (bOr .u32 (bOr .u32 (IntKind.wrap .u32 v2) (IntKind.wrap .u32 ((IntKind.wrap .u32 v4) * 2 ^ (8 : Nat)))) (IntKind.wrap .u32 ((IntKind.wrap .u32 v6) * 2 ^ (16 : Nat)))) } h

def r89 (s : St) (h : Heap) (Q : Bool → St → Heap → Prop) : Prop :=
  Q (s.x_xq15 == (63 : Int)) s h

def r90 (s : St) (h : Heap) (Q : St → Heap → Prop) : Prop :=
  Q { s with x_s := (IntKind.wrap .i64 (s.x_s + (5 : Int))) } h

def r91 (s : St) (h : Heap) (Q : Bool → St → Heap → Prop) : Prop :=
  Q (decide ((IntKind.wrap .u64 s.x_s) > (IntKind.wrap .u64 ((s.x_src.n : Nat) : Int)))) s h

def r92 (s : St) (h : Heap) (Q : St → Heap → Prop) : Prop :=
  Q { s with t4 := (1 : Int) } h

def r93 (s : St) (h : Heap) (Q : St → Heap → Prop) : Prop :=
  0 ≤ (IntKind.wrap .i64 (s.x_s - (4 : Int))) ∧ (IntKind.wrap .i64 (s.x_s - (4 : Int))) < ((s.x_src.n : Nat) : Int) ∧
  ptrE s.x_src.p fun a1 =>
  ∃ v2 : Int, hcell h (Addr.add a1 (Int.toNat (IntKind.wrap .i64 (s.x_s - (4 : Int))) * 1)) = some (.int .u8 v2) ∧
  0 ≤ (IntKind.wrap .i64 (s.x_s - (3 : Int))) ∧ (IntKind.wrap .i64 (s.x_s - (3 : Int))) < ((s.x_src.n : Nat) : Int) ∧
  ptrE s.x_src.p fun a3 =>
  ∃ v4 : Int, hcell h (Addr.add a3 (Int.toNat (IntKind.wrap .i64 (s.x_s - (3 : Int))) * 1)) = some (.int .u8 v4) ∧
  0 ≤ (IntKind.wrap .i64 (s.x_s - (2 : Int))) ∧ (IntKind.wrap .i64 (s.x_s - (2 : Int))) < ((s.x_src.n : Nat) : Int) ∧
  ptrE s.x_src.p fun a5 =>
  ∃ v6 : Int, hcell h (Addr.add a5 (Int.toNat (IntKind.wrap .i64 (s.x_s - (2 : Int))) * 1)) = some (.int .u8 v6) ∧
  0 ≤ (IntKind.wrap .i64 (s.x_s - (1 : Int))) ∧ (IntKind.wrap .i64 (s.x_s - (1 : Int))) < ((s.x_src.n : Nat) : Int) ∧
  ptrE s.x_src.p fun a7 =>
  ∃ v8 : Int, hcell h (Addr.add a7 (Int.toNat (IntKind.wrap .i64 (s.x_s - (1 : Int))) * 1)) = some (.int .u8 v8) ∧
  Q { s with x_xq15 := (bOr .u32 (bOr .u32 (bOr .u32 (IntKind.wrap .u32 v2) (IntKind.wrap .u32 ((IntKind.wrap .u32 v4) * 2 ^ (8 : Nat)))) (IntKind.wrap .u32 ((IntKind.wrap .u32 v6) * 2 ^ (16 : Nat)))) (IntKind.wrap .u32 ((IntKind.wrap .u32 v8) * 2 ^ (24 : Nat)))) } h

def r94 (s : St) (h : Heap) (Q : St → Heap → Prop) : Prop :=
  Q { s with x_length := (IntKind.wrap .i64 ((IntKind.wrap .i64 s.x_xq15) + (1 : Int))) } h

def r95 (s : St) (h : Heap) (Q : Bool → St → Heap → Prop) : Prop :=
  (if (decide (s.x_length > (IntKind.wrap .i64 (((s.x_dst.n : Nat) : Int) - s.x_d)))) = false then
  ((if (decide (s.x_length > (IntKind.wrap .i64 (((s.x_src.n : Nat) : Int) - s.x_s)))) = false then
  (Q false s h)
  else
  (Q true s h)))
  else
  (Q true s h))

def r96 (s : St) (h : Heap) (Q : St → Heap → Prop) : Prop :=
  Q { s with t4 := (1 : Int) } h

def r97 (s : St) (h : Heap) (Q : St → Heap → Prop) : Prop :=
  0 ≤ s.x_d ∧ s.x_d ≤ ((s.x_dst.n : Nat) : Int) ∧
  0 ≤ (IntKind.wrap .i64 (s.x_s + s.x_length)) ∧ (IntKind.wrap .i64 (s.x_s + s.x_length)) ≤ ((s.x_src.c : Nat) : Int) ∧
  0 ≤ s.x_s ∧ s.x_s ≤ (((Int.toNat (IntKind.wrap .i64 (s.x_s + s.x_length))) : Nat) : Int) ∧
  copyT Pg 5 (subP s.x_dst.p (Int.toNat s.x_d) s.x_dst.c 1) (s.x_dst.n - (Int.toNat s.x_d)) (.slice (subP s.x_src.p (Int.toNat s.x_s) s.x_src.c 1) ((Int.toNat (IntKind.wrap .i64 (s.x_s + s.x_length))) - (Int.toNat s.x_s)) (s.x_src.c - (Int.toNat s.x_s))) ((Int.toNat (IntKind.wrap .i64 (s.x_s + s.x_length))) - (Int.toNat s.x_s)) h fun n1 h2 =>
  Q s h2

def r98 (s : St) (h : Heap) (Q : St → Heap → Prop) : Prop :=
  Q { s with x_d := (IntKind.wrap .i64 (s.x_d + s.x_length)) } h

def r99 (s : St) (h : Heap) (Q : St → Heap → Prop) : Prop :=
  Q { s with x_s := (IntKind.wrap .i64 (s.x_s + s.x_length)) } h

def r100 (s : St) (h : Heap) (Q : Bool → St → Heap → Prop) : Prop :=
  Q (s.t306 == (1 : Int)) s h

def r101 (s : St) (h : Heap) (Q : St → Heap → Prop) : Prop :=
  Q { s with x_s := (IntKind.wrap .i64 (s.x_s + (2 : Int))) } h

def r102 (s : St) (h : Heap) (Q : Bool → St → Heap → Prop) : Prop :=
  Q (decide ((IntKind.wrap .u64 s.x_s) > (IntKind.wrap .u64 ((s.x_src.n : Nat) : Int)))) s h

def r103 (s : St) (h : Heap) (Q : St → Heap → Prop) : Prop :=
  Q { s with t4 := (1 : Int) } h

def r104 (s : St) (h : Heap) (Q : St → Heap → Prop) : Prop :=
  0 ≤ (IntKind.wrap .i64 (s.x_s - (2 : Int))) ∧ (IntKind.wrap .i64 (s.x_s - (2 : Int))) < ((s.x_src.n : Nat) : Int) ∧
  ptrE s.x_src.p fun a1 =>
  ∃ v2 : Int, hcell h (Addr.add a1 (Int.toNat (IntKind.wrap .i64 (s.x_s - (2 : Int))) * 1)) = some (.int .u8 v2) ∧
  Q { s with x_length := (bAnd .i64 (Int.fdiv (IntKind.wrap .i64 v2) (2 ^ (2 : Nat))) (7 : Int)) } h

def r105 (s : St) (h : Heap) (Q : St → Heap → Prop) : Prop :=
  0 ≤ (IntKind.wrap .i64 (s.x_s - (2 : Int))) ∧ (IntKind.wrap .i64 (s.x_s - (2 : Int))) < ((s.x_src.n : Nat) : Int) ∧
  ptrE s.x_src.p fun a1 =>
  ∃ v2 : Int, hcell h (Addr.add a1 (Int.toNat (IntKind.wrap .i64 (s.x_s - (2 : Int))) * 1)) = some (.int .u8 v2) ∧
  0 ≤ (IntKind.wrap .i64 (s.x_s - (1 : Int))) ∧ (IntKind.wrap .i64 (s.x_s - (1 : Int))) < ((s.x_src.n : Nat) : Int) ∧
  ptrE s.x_src.p fun a3 =>
  ∃ v4 : Int, hcell h (Addr.add a3 (Int.toNat (IntKind.wrap .i64 (s.x_s - (1 : Int))) * 1)) = some (.int .u8 v4) ∧
  Q { s with x_toffsetq16 := (IntKind.wrap .i64 (bOr .u32 (IntKind.wrap .u32 ((bAnd .u32 (IntKind.wrap .u32 v2) (224 : Int)) * 2 ^ (3 : Nat))) (IntKind.wrap .u32 v4))) } h

def r106 (s : St) (h : Heap) (Q : Bool → St → Heap → Prop) : Prop :=
  Q (s.x_toffsetq16 == (0 : Int)) s h

def r107 (s : St) (h : Heap) (Q : St → Heap → Prop) : Prop :=
  Q { s with t511 := s.x_length } h

def r108 (s : St) (h : Heap) (Q : Bool → St → Heap → Prop) : Prop :=
  Q (s.t511 == (5 : Int)) s h

def r109 (s : St) (h : Heap) (Q : St → Heap → Prop) : Prop :=
  Q { s with x_s := (IntKind.wrap .i64 (s.x_s + (1 : Int))) } h

def r110 (s : St) (h : Heap) (Q : Bool → St → Heap → Prop) : Prop :=
  Q (decide ((IntKind.wrap .u64 s.x_s) > (IntKind.wrap .u64 ((s.x_src.n : Nat) : Int)))) s h

def r111 (s : St) (h : Heap) (Q : St → Heap → Prop) : Prop :=
  Q { s with t4 := (1 : Int) } h

def r112 (s : St) (h : Heap) (Q : St → Heap → Prop) : Prop :=
  0 ≤ (IntKind.wrap .i64 (s.x_s - (1 : Int))) ∧ (IntKind.wrap .i64 (s.x_s - (1 : Int))) < ((s.x_src.n : Nat) : Int) ∧
  ptrE s.x_src.p fun a1 =>
  ∃ v2 : Int, hcell h (Addr.add a1 (Int.toNat (IntKind.wrap .i64 (s.x_s - (1 : Int))) * 1)) = some (.int .u8 v2) ∧
  Q { s with x_length := (IntKind.wrap .i64 ((IntKind.wrap .i64 (IntKind.wrap .u32 v2)) + (4 : Int))) } h

def r113 (s : St) (h : Heap) (Q : Bool → St → Heap → Prop) : Prop :=
  Q (s.t511 == (6 : Int)) s h

def r114 (s : St) (h : Heap) (Q : St → Heap → Prop) : Prop :=
  Q { s with x_s := (IntKind.wrap .i64 (s.x_s + (2 : Int))) } h

def r115 (s : St) (h : Heap) (Q : Bool → St → Heap → Prop) : Prop :=
  Q (decide ((IntKind.wrap .u64 s.x_s) > (IntKind.wrap .u64 ((s.x_src.n : Nat) : Int)))) s h

def r116 (s : St) (h : Heap) (Q : St → Heap → Prop) : Prop :=
  Q { s with t4 := (1 : Int) } h

def r117 (s : St) (h : Heap) (Q : St → Heap → Prop) : Prop :=
  0 ≤ (IntKind.wrap .i64 (s.x_s - (2 : Int))) ∧ (IntKind.wrap .i64 (s.x_s - (2 : Int))) < ((s.x_src.n : Nat) : Int) ∧
  ptrE s.x_src.p fun a1 =>
  ∃ v2 : Int, hcell h (Addr.add a1 (Int.toNat (IntKind.wrap .i64 (s.x_s - (2 : Int))) * 1)) = some (.int .u8 v2) ∧
  0 ≤ (IntKind.wrap .i64 (s.x_s - (1 : Int))) ∧ (IntKind.wrap .i64 (s.x_s - (1 : Int))) < ((s.x_src.n : Nat) : Int) ∧
  ptrE s.x_src.p fun a3 =>
  ∃ v4 : Int, hcell h (Addr.add a3 (Int.toNat (IntKind.wrap .i64 (s.x_s - (1 : Int))) * 1)) = some (.int .u8 v4) ∧
  Q { s with x_length := (IntKind.wrap .i64 ((IntKind.wrap .i64 (bOr .u32 (IntKind.wrap .u32 v2) (IntKind.wrap .u32 ((IntKind.wrap .u32 v4) * 2 ^ (8 : Nat))))) + (256 : Int))) } h

def r118 (s : St) (h : Heap) (Q : Bool → St → Heap → Prop) : Prop :=
  Q (s.t511 == (7 : Int)) s h

def r119 (s : St) (h : Heap) (Q : St → Heap → Prop) : Prop :=
  Q { s with x_s := (IntKind.wrap .i64 (s.x_s + (3 : Int))) } h

def r120 (s : St) (h : Heap) (Q : Bool → St → Heap → Prop) : Prop :=
  Q (decide ((IntKind.wrap .u64 s.x_s) > (IntKind.wrap .u64 ((s.x_src.n : Nat) : Int)))) s h

def r121 (s : St) (h : Heap) (Q : St → Heap → Prop) : Prop :=
  Q { s with t4 := (1 : Int) } h

def r122 (s : St) (h : Heap) (Q : St → Heap → Prop) : Prop :=
  0 ≤ (IntKind.wrap .i64 (s.x_s - (3 : Int))) ∧ (IntKind.wrap .i64 (s.x_s - (3 : Int))) < ((s.x_src.n : Nat) : Int) ∧
  ptrE s.x_src.p fun a1 =>
  ∃ v2 : Int, hcell h (Addr.add a1 (Int.toNat (IntKind.wrap .i64 (s.x_s - (3 : Int))) * 1)) = some (.int .u8 v2) ∧
  0 ≤ (IntKind.wrap .i64 (s.x_s - (2 : Int))) ∧ (IntKind.wrap .i64 (s.x_s - (2 : Int))) < ((s.x_src.n : Nat) : Int) ∧
  ptrE s.x_src.p fun a3 =>
  ∃ v4 : Int, hcell h (Addr.add a3 (Int.toNat (IntKind.wrap .i64 (s.x_s - (2 : Int))) * 1)) = some (.int .u8 v4) ∧
  0 ≤ (IntKind.wrap .i64 (s.x_s - (1 : Int))) ∧ (IntKind.wrap .i64 (s.x_s - (1 : Int))) < ((s.x_src.n : Nat) : Int) ∧
  ptrE s.x_src.p fun a5 =>
  ∃ v6 : Int, hcell h (Addr.add a5 (Int.toNat (IntKind.wrap .i64 (s.x_s - (1 : Int))) * 1)) = some (.int .u8 v6) ∧
  Q { s with x_length := (IntKind.wrap .i64 ((IntKind.wrap .i64 (bOr .u32 (bOr .u32 (IntKind.wrap .u32 v2) (IntKind.wrap .u32 ((IntKind.wrap .u32 v4) * 2 ^ (8 : Nat)))) (IntKind.wrap .u32 ((IntKind.wrap .u32 v6) * 2 ^ (16 : Nat))))) + (65536 : Int))) } h

def r123 (s : St) (h : Heap) (Q : St → Heap → Prop) : Prop :=
  Q { s with x_offset := s.x_toffsetq16 } h

def r124 (s : St) (h : Heap) (Q : St → Heap → Prop) : Prop :=
  Q { s with x_length := (IntKind.wrap .i64 (s.x_length + (4 : Int))) } h

def r125 (s : St) (h : Heap) (Q : Bool → St → Heap → Prop) : Prop :=
  Q (s.t306 == (2 : Int)) s h

def r126 (s : St) (h : Heap) (Q : St → Heap → Prop) : Prop :=
  Q { s with x_s := (IntKind.wrap .i64 (s.x_s + (3 : Int))) } h

def r127 (s : St) (h : Heap) (Q : Bool → St → Heap → Prop) : Prop :=
  Q (decide ((IntKind.wrap .u64 s.x_s) > (IntKind.wrap .u64 ((s.x_src.n : Nat) : Int)))) s h

def r128 (s : St) (h : Heap) (Q : St → Heap → Prop) : Prop :=
  Q { s with t4 := (1 : Int) } h

def r129 (s : St) (h : Heap) (Q : St → Heap → Prop) : Prop :=
  0 ≤ (IntKind.wrap .i64 (s.x_s - (3 : Int))) ∧ (IntKind.wrap .i64 (s.x_s - (3 : Int))) < ((s.x_src.n : Nat) : Int) ∧
  ptrE s.x_src.p fun a1 =>
  ∃ v2 : Int, hcell h (Addr.add a1 (Int.toNat (IntKind.wrap .i64 (s.x_s - (3 : Int))) * 1)) = some (.int .u8 v2) ∧
  Q { s with x_length := (IntKind.wrap .i64 ((1 : Int) + (Int.fdiv (IntKind.wrap .i64 v2) (2 ^ (2 : Nat))))) } h

def r130 (s : St) (h : Heap) (Q : St → Heap → Prop) : Prop :=
  0 ≤ (IntKind.wrap .i64 (s.x_s - (2 : Int))) ∧ (IntKind.wrap .i64 (s.x_s - (2 : Int))) < ((s.x_src.n : Nat) : Int) ∧
  ptrE s.x_src.p fun a1 =>
  ∃ v2 : Int, hcell h (Addr.add a1 (Int.toNat (IntKind.wrap .i64 (s.x_s - (2 : Int))) * 1)) = some (.int .u8 v2) ∧
  0 ≤ (IntKind.wrap .i64 (s.x_s - (1 : Int))) ∧ (IntKind.wrap .i64 (s.x_s - (1 : Int))) < ((s.x_src.n : Nat) : Int) ∧
  ptrE s.x_src.p fun a3 =>
  ∃ v4 : Int, hcell h (Addr.add a3 (Int.toNat (IntKind.wrap .i64 (s.x_s - (1 : Int))) * 1)) = some (.int .u8 v4) ∧
  Q { s with x_offset := (IntKind.wrap .i64 (bOr .u32 (IntKind.wrap .u32 v2) (IntKind.wrap .u32 ((IntKind.wrap .u32 v4) * 2 ^ (8 : Nat))))) } h

def r131 (s : St) (h : Heap) (Q : Bool → St → Heap → Prop) : Prop :=
  Q (s.t306 == (3 : Int)) s h

def r132 (s : St) (h : Heap) (Q : St → Heap → Prop) : Prop :=
  Q { s with x_s := (IntKind.wrap .i64 (s.x_s + (5 : Int))) } h

def r133 (s : St) (h : Heap) (Q : Bool → St → Heap → Prop) : Prop :=
  Q (decide ((IntKind.wrap .u64 s.x_s) > (IntKind.wrap .u64 ((s.x_src.n : Nat) : Int)))) s h

def r134 (s : St) (h : Heap) (Q : St → Heap → Prop) : Prop :=
  Q { s with t4 := (1 : Int) } h

def r135 (s : St) (h : Heap) (Q : St → Heap → Prop) : Prop :=
  0 ≤ (IntKind.wrap .i64 (s.x_s - (5 : Int))) ∧ (IntKind.wrap .i64 (s.x_s - (5 : Int))) < ((s.x_src.n : Nat) : Int) ∧
  ptrE s.x_src.p fun a1 =>
  ∃ v2 : Int, hcell h (Addr.add a1 (Int.toNat (IntKind.wrap .i64 (s.x_s - (5 : Int))) * 1)) = some (.int .u8 v2) ∧
  Q { s with x_length := (IntKind.wrap .i64 ((1 : Int) + (Int.fdiv (IntKind.wrap .i64 v2) (2 ^ (2 : Nat))))) } h

def r136 (s : St) (h : Heap) (Q : St → Heap → Prop) : Prop :=
  0 ≤ (IntKind.wrap .i64 (s.x_s - (4 : Int))) ∧ (IntKind.wrap .i64 (s.x_s - (4 : Int))) < ((s.x_src.n : Nat) : Int) ∧
  ptrE s.x_src.p fun a1 =>
  ∃ v2 : Int, hcell h (Addr.add a1 (Int.toNat (IntKind.wrap .i64 (s.x_s - (4 : Int))) * 1)) = some (.int .u8 v2) ∧
  0 ≤ (IntKind.wrap .i64 (s.x_s - (3 : Int))) ∧ (IntKind.wrap .i64 (s.x_s - (3 : Int))) < ((s.x_src.n : Nat) : Int) ∧
  ptrE s.x_src.p fun a3 =>
  ∃ v4 : Int, hcell h (Addr.add a3 (Int.toNat (IntKind.wrap .i64 (s.x_s - (3 : Int))) * 1)) = some (.int .u8 v4) ∧
  0 ≤ (IntKind.wrap .i64 (s.x_s - (2 : Int))) ∧ (IntKind.wrap .i64 (s.x_s - (2 : Int))) < ((s.x_src.n : Nat) : Int) ∧
  ptrE s.x_src.p fun a5 =>
  ∃ v6 : Int, hcell h (Addr.add a5 (Int.toNat (IntKind.wrap .i64 (s.x_s - (2 : Int))) * 1)) = some (.int .u8 v6) ∧
  0 ≤ (IntKind.wrap .i64 (s.x_s - (1 : Int))) ∧ (IntKind.wrap .i64 (s.x_s - (1 : Int))) < ((s.x_src.n : Nat) : Int) ∧
  ptrE s.x_src.p fun a7 =>
  ∃ v8 : Int, hcell h (Addr.add a7 (Int.toNat (IntKind.wrap .i64 (s.x_s - (1 : Int))) * 1)) = some (.int .u8 v8) ∧
  Q { s with x_offset := (IntKind.wrap .i64 (bOr .u32 (bOr .u32 (bOr .u32 (IntKind.wrap .u32 v2) (IntKind.wrap .u32 ((IntKind.wrap .u32 v4) * 2 ^ (8 : Nat)))) (IntKind.wrap .u32 ((IntKind.wrap .u32 v6) * 2 ^ (16 : Nat)))) (IntKind.wrap .u32 ((IntKind.wrap .u32 v8) * 2 ^ (24 : Nat))))) } h

def r137 (s : St) (h : Heap) (Q : Bool → St → Heap → Prop) : Prop :=
  (if (decide (s.x_offset ≤ (0 : Int))) = false then
  ((if (decide (s.x_d < s.x_offset)) = false then
  (Q (decide (s.x_length > (IntKind.wrap .i64 (((s.x_dst.n : Nat) : Int) - s.x_d)))) s h)
  else
  (Q true s h)))
  else
  (Q true s h))

def r138 (s : St) (h : Heap) (Q : St → Heap → Prop) : Prop :=
  Q { s with t4 := (1 : Int) } h

def r139 (s : St) (h : Heap) (Q : Bool → St → Heap → Prop) : Prop :=
  Q (decide (s.x_offset > s.x_length)) s h

def r140 (s : St) (h : Heap) (Q : St → Heap → Prop) : Prop :=
  0 ≤ (IntKind.wrap .i64 (s.x_d + s.x_length)) ∧ (IntKind.wrap .i64 (s.x_d + s.x_length)) ≤ ((s.x_dst.c : Nat) : Int) ∧
  0 ≤ s.x_d ∧ s.x_d ≤ (((Int.toNat (IntKind.wrap .i64 (s.x_d + s.x_length))) : Nat) : Int) ∧
  0 ≤ (IntKind.wrap .i64 (s.x_d - s.x_offset)) ∧ (IntKind.wrap .i64 (s.x_d - s.x_offset)) ≤ ((s.x_dst.n : Nat) : Int) ∧
  copyT Pg 5 (subP s.x_dst.p (Int.toNat s.x_d) s.x_dst.c 1) ((Int.toNat (IntKind.wrap .i64 (s.x_d + s.x_length))) - (Int.toNat s.x_d)) (.slice (subP s.x_dst.p (Int.toNat (IntKind.wrap .i64 (s.x_d - s.x_offset))) s.x_dst.c 1) (s.x_dst.n - (Int.toNat (IntKind.wrap .i64 (s.x_d - s.x_offset)))) (s.x_dst.c - (Int.toNat (IntKind.wrap .i64 (s.x_d - s.x_offset))))) (s.x_dst.n - (Int.toNat (IntKind.wrap .i64 (s.x_d - s.x_offset)))) h fun n1 h2 =>
  Q s h2

def r141 (s : St) (h : Heap) (Q : St → Heap → Prop) : Prop :=
  Q { s with x_d := (IntKind.wrap .i64 (s.x_d + s.x_length)) } h

def r142 (s : St) (h : Heap) (Q : St → Heap → Prop) : Prop :=
  0 ≤ (IntKind.wrap .i64 (s.x_d + s.x_length)) ∧ (IntKind.wrap .i64 (s.x_d + s.x_length)) ≤ ((s.x_dst.c : Nat) : Int) ∧
  0 ≤ s.x_d ∧ s.x_d ≤ (((Int.toNat (IntKind.wrap .i64 (s.x_d + s.x_length))) : Nat) : Int) ∧
  Q { s with x_aq17 := ⟨(subP s.x_dst.p (Int.toNat s.x_d) s.x_dst.c 1), ((Int.toNat (IntKind.wrap .i64 (s.x_d + s.x_length))) - (Int.toNat s.x_d)), (s.x_dst.c - (Int.toNat s.x_d))⟩ } h

def r143 (s : St) (h : Heap) (Q : St → Heap → Prop) : Prop :=
  0 ≤ (IntKind.wrap .i64 (s.x_d - s.x_offset)) ∧ (IntKind.wrap .i64 (s.x_d - s.x_offset)) ≤ ((s.x_dst.n : Nat) : Int) ∧
  Q { s with x_bq18 := ⟨(subP s.x_dst.p (Int.toNat (IntKind.wrap .i64 (s.x_d - s.x_offset))) s.x_dst.c 1), (s.x_dst.n - (Int.toNat (IntKind.wrap .i64 (s.x_d - s.x_offset)))), (s.x_dst.c - (Int.toNat (IntKind.wrap .i64 (s.x_d - s.x_offset))))⟩ } h

def r144 (s : St) (h : Heap) (Q : St → Heap → Prop) : Prop :=
  0 ≤ ((s.x_aq17.n : Nat) : Int) ∧ ((s.x_aq17.n : Nat) : Int) ≤ ((s.x_bq18.c : Nat) : Int) ∧
  Q { s with x_bq18 := ⟨(subP s.x_bq18.p 0 s.x_bq18.c 1), ((Int.toNat ((s.x_aq17.n : Nat) : Int)) - 0), (s.x_bq18.c - 0)⟩ } h

def r145 (s : St) (h : Heap) (Q : St → Heap → Prop) : Prop :=
  Q { s with t724 := ((s.x_aq17.n : Nat) : Int), t725 := (0 : Int) } h

def r146 (s : St) (h : Heap) (Q : St → Heap → Prop) : Prop :=
  Q { s with t726 := (decide (s.t725 < s.t724)) } h

def r147 (s : St) (h : Heap) (Q : St → Heap → Prop) : Prop :=
  Q { s with x_iq19 := s.t725 } h

def r148 (s : St) (h : Heap) (Q : St → Heap → Prop) : Prop :=
  0 ≤ s.x_iq19 ∧ s.x_iq19 < ((s.x_bq18.n : Nat) : Int) ∧
  ptrE s.x_bq18.p fun a1 =>
  ∃ v2 : Int, hcell h (Addr.add a1 (Int.toNat s.x_iq19 * 1)) = some (.int .u8 v2) ∧
  0 ≤ s.x_iq19 ∧ s.x_iq19 < ((s.x_aq17.n : Nat) : Int) ∧
  ptrE s.x_aq17.p fun a3 =>
  st1 (Addr.add (Addr.add a3 (Int.toNat s.x_iq19 * 1)) 0) (.int .u8 v2) h fun h4 =>
  Q s h4

def r149 (s : St) (h : Heap) (Q : St → Heap → Prop) : Prop :=
  Q { s with t725 := (IntKind.wrap .i64 (s.t725 + (1 : Int))) } h

def r150 (s : St) (h : Heap) (Q : St → Heap → Prop) : Prop :=
  Q { s with x_d := (IntKind.wrap .i64 (s.x_d + s.x_length)) } h

def r151 (s : St) (h : Heap) (Q : Bool → St → Heap → Prop) : Prop :=
  Q (s.x_d != ((s.x_dst.n : Nat) : Int)) s h

def r152 (s : St) (h : Heap) (Q : St → Heap → Prop) : Prop :=
  Q { s with t4 := (1 : Int) } h

def r153 (s : St) (h : Heap) (Q : St → Heap → Prop) : Prop :=
  Q { s with t4 := (0 : Int) } h

def k97 : Stm St := (.seq (.test r151 (.seq (.reg r152) .ret) .skip) (.seq (.reg r153) .ret))
def k96 : Stm St := (.seq (.block 13 (.seq (.reg r147) (.reg r148))) (.reg r149))
def k95 : Stm St := (.seq (.cond (fun s => s.t726) .skip (.exit 12)) k96)
def k94 : Stm St := (.seq (.reg r146) k95)
def k93 : Stm St := (.block 12 (.loop k94))
def k92 : Stm St := (.seq (.seq (.reg r145) k93) (.reg r150))
def k91 : Stm St := (.seq (.reg r144) k92)
def k90 : Stm St := (.seq (.reg r143) k91)
def k89 : Stm St := (.seq (.reg r142) k90)
def k88 : Stm St := (.seq (.reg r140) (.seq (.reg r141) (.exit 8)))
def k87 : Stm St := (.seq (.test r139 k88 .skip) k89)
def k86 : Stm St := (.seq (.test r137 (.seq (.reg r138) .ret) .skip) k87)
def k85 : Stm St := (.seq (.test r133 (.seq (.reg r134) .ret) .skip) (.seq (.reg r135) (.reg r136)))
def k84 : Stm St := (.seq (.reg r132) k85)
def k83 : Stm St := (.test r131 k84 .skip)
def k82 : Stm St := (.seq (.test r127 (.seq (.reg r128) .ret) .skip) (.seq (.reg r129) (.reg r130)))
def k81 : Stm St := (.seq (.reg r126) k82)
def k80 : Stm St := (.test r125 k81 k83)
def k79 : Stm St := (.seq (.test r120 (.seq (.reg r121) .ret) .skip) (.reg r122))
def k78 : Stm St := (.seq (.reg r119) k79)
def k77 : Stm St := (.test r118 k78 .skip)
def k76 : Stm St := (.seq (.test r115 (.seq (.reg r116) .ret) .skip) (.reg r117))
def k75 : Stm St := (.seq (.reg r114) k76)
def k74 : Stm St := (.test r113 k75 k77)
def k73 : Stm St := (.seq (.test r110 (.seq (.reg r111) .ret) .skip) (.reg r112))
def k72 : Stm St := (.seq (.reg r109) k73)
def k71 : Stm St := (.block 11 (.test r108 k72 k74))
def k70 : Stm St := (.seq (.reg r107) k71)
def k69 : Stm St := (.seq (.test r106 k70 (.reg r123)) (.reg r124))
def k68 : Stm St := (.seq (.reg r105) k69)
def k67 : Stm St := (.seq (.reg r104) k68)
def k66 : Stm St := (.seq (.test r102 (.seq (.reg r103) .ret) .skip) k67)
def k65 : Stm St := (.seq (.reg r101) k66)
def k64 : Stm St := (.test r100 k65 k80)
def k63 : Stm St := (.seq (.reg r98) (.seq (.reg r99) (.exit 8)))
def k62 : Stm St := (.seq (.reg r97) k63)
def k61 : Stm St := (.seq (.test r95 (.seq (.reg r96) .ret) .skip) k62)
def k60 : Stm St := (.seq (.reg r94) k61)
def k59 : Stm St := (.seq (.test r91 (.seq (.reg r92) .ret) .skip) (.reg r93))
def k58 : Stm St := (.seq (.reg r90) k59)
def k57 : Stm St := (.test r89 k58 .skip)
def k56 : Stm St := (.seq (.test r86 (.seq (.reg r87) .ret) .skip) (.reg r88))
def k55 : Stm St := (.seq (.reg r85) k56)
def k54 : Stm St := (.test r84 k55 k57)
def k53 : Stm St := (.seq (.test r81 (.seq (.reg r82) .ret) .skip) (.reg r83))
def k52 : Stm St := (.seq (.reg r80) k53)
def k51 : Stm St := (.test r79 k52 k54)
def k50 : Stm St := (.seq (.test r76 (.seq (.reg r77) .ret) .skip) (.reg r78))
def k49 : Stm St := (.seq (.reg r75) k50)
def k48 : Stm St := (.test r74 k49 k51)
def k47 : Stm St := (.seq (.block 10 (.test r72 (.reg r73) k48)) k60)
def k46 : Stm St := (.seq (.reg r71) k47)
def k45 : Stm St := (.block 9 (.test r70 k46 k64))
def k44 : Stm St := (.block 8 (.seq (.seq (.reg r69) k45) k86))
def k43 : Stm St := (.seq (.test r68 .skip (.exit 7)) k44)
def k42 : Stm St := (.seq (.block 7 (.loop k43)) k97)
def k41 : Stm St := (.seq (.block 6 (.seq (.reg r64) (.reg r65))) (.reg r66))
def k40 : Stm St := (.seq (.cond (fun s => s.t285) .skip (.exit 5)) k41)
def k39 : Stm St := (.seq (.reg r63) k40)
def k38 : Stm St := (.block 5 (.loop k39))
def k37 : Stm St := (.seq (.seq (.reg r62) k38) (.reg r67))
def k36 : Stm St := (.seq (.reg r61) k37)
def k35 : Stm St := (.seq (.reg r60) k36)
def k34 : Stm St := (.seq (.reg r59) k35)
def k33 : Stm St := (.seq (.reg r57) (.seq (.reg r58) (.exit 1)))
def k32 : Stm St := (.seq (.test r56 k33 .skip) k34)
def k31 : Stm St := (.seq (.test r54 (.seq (.reg r55) .ret) .skip) k32)
def k30 : Stm St := (.seq (.reg r51) (.seq (.reg r52) (.reg r53)))
def k29 : Stm St := (.test r50 k30 .skip)
def k28 : Stm St := (.seq (.reg r47) (.seq (.reg r48) (.reg r49)))
def k27 : Stm St := (.test r46 k28 k29)
def k26 : Stm St := (.seq (.reg r41) (.seq (.reg r42) (.reg r43)))
def k25 : Stm St := (.test r40 k26 .skip)
def k24 : Stm St := (.test r37 (.seq (.reg r38) (.reg r39)) k25)
def k23 : Stm St := (.block 4 (.test r34 (.seq (.reg r35) (.reg r36)) k24))
def k22 : Stm St := (.seq (.reg r33) k23)
def k21 : Stm St := (.seq (.test r32 k22 (.reg r44)) (.reg r45))
def k20 : Stm St := (.seq (.reg r31) k21)
def k19 : Stm St := (.seq (.reg r30) k20)
def k18 : Stm St := (.seq (.reg r29) k19)
def k17 : Stm St := (.test r28 k18 k27)
def k16 : Stm St := (.seq (.reg r26) (.seq (.reg r27) (.exit 1)))
def k15 : Stm St := (.seq (.reg r25) k16)
def k14 : Stm St := (.seq (.test r23 (.seq (.reg r24) .ret) .skip) k15)
def k13 : Stm St := (.seq (.reg r22) k14)
def k12 : Stm St := (.test r19 (.seq (.reg r20) (.reg r21)) .skip)
def k11 : Stm St := (.seq (.reg r16) (.seq (.reg r17) (.reg r18)))
def k10 : Stm St := (.test r15 k11 k12)
def k9 : Stm St := (.test r12 (.seq (.reg r13) (.reg r14)) k10)
def k8 : Stm St := (.test r9 (.seq (.reg r10) (.reg r11)) k9)
def k7 : Stm St := (.seq (.block 3 (.test r7 (.reg r8) k8)) k13)
def k6 : Stm St := (.seq (.reg r6) k7)
def k5 : Stm St := (.block 2 (.test r5 k6 k17))
def k4 : Stm St := (.block 1 (.seq (.seq (.reg r4) k5) k31))
def k3 : Stm St := (.seq (.test r3 .skip (.exit 0)) k4)
def k2 : Stm St := (.seq (.block 0 (.loop k3)) k42)
def k1 : Stm St := (.seq (.reg r2) k2)
def k0 : Stm St := (.seq (.reg r1) k1)

def stm : Stm St := (.seq (.reg r0) k0)

def ex : Ex → Pt St := fun _ => p0

set_option maxRecDepth 100000 in
theorem sim : Sim Pg 743 p1 (Tryd.f59.body.getD .skip) stm p0 ex :=
  (Sim.seq (Sim.reg (A := p1) (B := p1) (fun _ _ _ => by kernel_rfl))
  (Sim.seq (Sim.reg (A := p1) (B := p2) (fun _ _ _ => by kernel_rfl))
  (Sim.seq (Sim.reg (A := p2) (B := p3) (fun _ _ _ => by kernel_rfl))
  (Sim.seq (Sim.block (B := p3) (Sim.loop (A := p3) (Sim.seq (Sim.test (A := p3) (B := p3) (fun _ _ _ => by kernel_rfl) (Sim.skip (A := p3))
  (Sim.exit (A := p3) (fun _ => ⟨rfl, rfl, rfl, rfl, rfl, rfl, trivial⟩)))
  (Sim.block (B := p3) (Sim.seq (Sim.seq (Sim.reg (A := p3) (B := p4) (fun _ _ _ => by kernel_rfl))
  (Sim.block (B := p3) (Sim.test (A := p4) (B := p4) (fun _ _ _ => by kernel_rfl) (Sim.seq (Sim.reg (A := p4) (B := p5) (fun _ _ _ => by kernel_rfl))
  (Sim.seq (Sim.block (B := p5) (Sim.test (A := p5) (B := p5) (fun _ _ _ => by kernel_rfl) (Sim.reg (A := p5) (B := p5) (fun _ _ _ => by kernel_rfl))
  (Sim.test (A := p5) (B := p5) (fun _ _ _ => by kernel_rfl) (Sim.seq (Sim.reg (A := p5) (B := p5) (fun _ _ _ => by kernel_rfl))
  (Sim.reg (A := p5) (B := p5) (fun _ _ _ => by kernel_rfl)))
  (Sim.test (A := p5) (B := p5) (fun _ _ _ => by kernel_rfl) (Sim.seq (Sim.reg (A := p5) (B := p5) (fun _ _ _ => by kernel_rfl))
  (Sim.reg (A := p5) (B := p5) (fun _ _ _ => by kernel_rfl)))
  (Sim.test (A := p5) (B := p5) (fun _ _ _ => by kernel_rfl) (Sim.seq (Sim.reg (A := p5) (B := p5) (fun _ _ _ => by kernel_rfl))
  (Sim.seq (Sim.reg (A := p5) (B := p5) (fun _ _ _ => by kernel_rfl))
  (Sim.reg (A := p5) (B := p5) (fun _ _ _ => by kernel_rfl))))
  (Sim.test (A := p5) (B := p5) (fun _ _ _ => by kernel_rfl) (Sim.seq (Sim.reg (A := p5) (B := p5) (fun _ _ _ => by kernel_rfl))
  (Sim.reg (A := p5) (B := p5) (fun _ _ _ => by kernel_rfl)))
  (Sim.skip (A := p5))))))))
  (Sim.seq (Sim.reg (A := p5) (B := p3) (fun _ _ _ => by kernel_rfl))
  (Sim.seq (Sim.test (A := p3) (B := p3) (fun _ _ _ => by kernel_rfl) (Sim.seq (Sim.reg (A := p3) (B := p0) (fun _ _ _ => by kernel_rfl))
  (Sim.ret (A := p0) (E := (exAt (exAt (exAt ex 0 p3) 1 p3) 2 p3)) (fun _ => ⟨rfl, trivial⟩)))
  (Sim.skip (A := p3)))
  (Sim.seq (Sim.reg (A := p3) (B := p3) (fun _ _ _ => by kernel_rfl))
  (Sim.seq (Sim.reg (A := p3) (B := p3) (fun _ _ _ => by kernel_rfl))
  (Sim.seq (Sim.reg (A := p3) (B := p3) (fun _ _ _ => by kernel_rfl))
  (Sim.exit (A := p3) (fun _ => ⟨rfl, rfl, rfl, rfl, rfl, rfl, trivial⟩)))))))))
  (Sim.test (A := p4) (B := p4) (fun _ _ _ => by kernel_rfl) (Sim.seq (Sim.reg (A := p4) (B := p6) (fun _ _ _ => by kernel_rfl))
  (Sim.seq (Sim.reg (A := p6) (B := p7) (fun _ _ _ => by kernel_rfl))
  (Sim.seq (Sim.reg (A := p7) (B := p8) (fun _ _ _ => by kernel_rfl))
  (Sim.seq (Sim.test (A := p8) (B := p8) (fun _ _ _ => by kernel_rfl) (Sim.seq (Sim.reg (A := p8) (B := p9) (fun _ _ _ => by kernel_rfl))
  (Sim.block (B := p3) (Sim.test (A := p9) (B := p9) (fun _ _ _ => by kernel_rfl) (Sim.seq (Sim.reg (A := p9) (B := p3) (fun _ _ _ => by kernel_rfl))
  (Sim.reg (A := p3) (B := p3) (fun _ _ _ => by kernel_rfl)))
  (Sim.test (A := p9) (B := p9) (fun _ _ _ => by kernel_rfl) (Sim.seq (Sim.reg (A := p9) (B := p3) (fun _ _ _ => by kernel_rfl))
  (Sim.reg (A := p3) (B := p3) (fun _ _ _ => by kernel_rfl)))
  (Sim.test (A := p9) (B := p3) (fun _ _ _ => by kernel_rfl) (Sim.seq (Sim.reg (A := p3) (B := p10) (fun _ _ _ => by kernel_rfl))
  (Sim.seq (Sim.reg (A := p10) (B := p3) (fun _ _ _ => by kernel_rfl))
  (Sim.reg (A := p3) (B := p3) (fun _ _ _ => by kernel_rfl))))
  (Sim.skip (A := p3)))))))
  (Sim.reg (A := p8) (B := p3) (fun _ _ _ => by kernel_rfl)))
  (Sim.reg (A := p3) (B := p3) (fun _ _ _ => by kernel_rfl))))))
  (Sim.test (A := p4) (B := p4) (fun _ _ _ => by kernel_rfl) (Sim.seq (Sim.reg (A := p4) (B := p6) (fun _ _ _ => by kernel_rfl))
  (Sim.seq (Sim.reg (A := p6) (B := p3) (fun _ _ _ => by kernel_rfl))
  (Sim.reg (A := p3) (B := p3) (fun _ _ _ => by kernel_rfl))))
  (Sim.test (A := p4) (B := p3) (fun _ _ _ => by kernel_rfl) (Sim.seq (Sim.reg (A := p3) (B := p6) (fun _ _ _ => by kernel_rfl))
  (Sim.seq (Sim.reg (A := p6) (B := p3) (fun _ _ _ => by kernel_rfl))
  (Sim.reg (A := p3) (B := p3) (fun _ _ _ => by kernel_rfl))))
  (Sim.skip (A := p3))))))))
  (Sim.seq (Sim.test (A := p3) (B := p3) (fun _ _ _ => by kernel_rfl) (Sim.seq (Sim.reg (A := p3) (B := p0) (fun _ _ _ => by kernel_rfl))
  (Sim.ret (A := p0) (E := (exAt (exAt ex 0 p3) 1 p3)) (fun _ => ⟨rfl, trivial⟩)))
  (Sim.skip (A := p3)))
  (Sim.seq (Sim.test (A := p3) (B := p3) (fun _ _ _ => by kernel_rfl) (Sim.seq (Sim.reg (A := p3) (B := p3) (fun _ _ _ => by kernel_rfl))
  (Sim.seq (Sim.reg (A := p3) (B := p3) (fun _ _ _ => by kernel_rfl))
  (Sim.exit (A := p3) (fun _ => ⟨rfl, rfl, rfl, rfl, rfl, rfl, trivial⟩))))
  (Sim.skip (A := p3)))
  (Sim.seq (Sim.reg (A := p3) (B := p11) (fun _ _ _ => by kernel_rfl))
  (Sim.seq (Sim.reg (A := p11) (B := p12) (fun _ _ _ => by kernel_rfl))
  (Sim.seq (Sim.reg (A := p12) (B := p12) (fun _ _ _ => by kernel_rfl))
  (Sim.seq (Sim.seq (Sim.reg (A := p12) (B := p13) (fun _ _ _ => by kernel_rfl))
  (Sim.block (B := p3) (Sim.loop (A := p13) (Sim.seq (Sim.reg (A := p13) (B := p14) (fun _ _ _ => by kernel_rfl))
  (Sim.seq (Sim.cond (A := p14) (fun s => s.t285) (fun _ => rfl) (Sim.weak (B := p14) (C := p13) (Sim.skip (A := p14)) (fun _ => ⟨rfl, rfl, rfl, rfl, rfl, rfl, rfl, rfl, rfl, rfl, trivial⟩))
  (Sim.exit (A := p14) (fun _ => ⟨rfl, rfl, rfl, rfl, rfl, rfl, trivial⟩)))
  (Sim.seq (Sim.block (B := p13) (Sim.seq (Sim.reg (A := p13) (B := p15) (fun _ _ _ => by kernel_rfl))
  (Sim.reg (A := p15) (B := p13) (fun _ _ _ => by kernel_rfl))))
  (Sim.reg (A := p13) (B := p13) (fun _ _ _ => by kernel_rfl))))))))
  (Sim.reg (A := p3) (B := p3) (fun _ _ _ => by kernel_rfl)))))))))))))
  (Sim.seq (Sim.block (B := p16) (Sim.loop (A := p3) (Sim.seq (Sim.test (A := p3) (B := p3) (fun _ _ _ => by kernel_rfl) (Sim.skip (A := p3))
  (Sim.exit (A := p3) (fun _ => ⟨rfl, rfl, trivial⟩)))
  (Sim.block (B := p3) (Sim.seq (Sim.seq (Sim.reg (A := p3) (B := p17) (fun _ _ _ => by kernel_rfl))
  (Sim.block (B := p3) (Sim.test (A := p17) (B := p17) (fun _ _ _ => by kernel_rfl) (Sim.seq (Sim.reg (A := p17) (B := p18) (fun _ _ _ => by kernel_rfl))
  (Sim.seq (Sim.block (B := p18) (Sim.test (A := p18) (B := p18) (fun _ _ _ => by kernel_rfl) (Sim.reg (A := p18) (B := p18) (fun _ _ _ => by kernel_rfl))
  (Sim.test (A := p18) (B := p18) (fun _ _ _ => by kernel_rfl) (Sim.seq (Sim.reg (A := p18) (B := p6) (fun _ _ _ => by kernel_rfl))
  (Sim.seq (Sim.test (A := p6) (B := p6) (fun _ _ _ => by kernel_rfl) (Sim.seq (Sim.reg (A := p6) (B := p0) (fun _ _ _ => by kernel_rfl))
  (Sim.ret (A := p0) (E := (exAt (exAt (exAt (exAt ex 7 p16) 8 p3) 9 p3) 10 p18)) (fun _ => ⟨rfl, trivial⟩)))
  (Sim.skip (A := p6)))
  (Sim.reg (A := p6) (B := p18) (fun _ _ _ => by kernel_rfl))))
  (Sim.test (A := p18) (B := p18) (fun _ _ _ => by kernel_rfl) (Sim.seq (Sim.reg (A := p18) (B := p6) (fun _ _ _ => by kernel_rfl))
  (Sim.seq (Sim.test (A := p6) (B := p6) (fun _ _ _ => by kernel_rfl) (Sim.seq (Sim.reg (A := p6) (B := p0) (fun _ _ _ => by kernel_rfl))
  (Sim.ret (A := p0) (E := (exAt (exAt (exAt (exAt ex 7 p16) 8 p3) 9 p3) 10 p18)) (fun _ => ⟨rfl, trivial⟩)))
  (Sim.skip (A := p6)))
  (Sim.reg (A := p6) (B := p18) (fun _ _ _ => by kernel_rfl))))
  (Sim.test (A := p18) (B := p18) (fun _ _ _ => by kernel_rfl) (Sim.seq (Sim.reg (A := p18) (B := p6) (fun _ _ _ => by kernel_rfl))
  (Sim.seq (Sim.test (A := p6) (B := p6) (fun _ _ _ => by kernel_rfl) (Sim.seq (Sim.reg (A := p6) (B := p0) (fun _ _ _ => by kernel_rfl))
  (Sim.ret (A := p0) (E := (exAt (exAt (exAt (exAt ex 7 p16) 8 p3) 9 p3) 10 p18)) (fun _ => ⟨rfl, trivial⟩)))
  (Sim.skip (A := p6)))
  (Sim.reg (A := p6) (B := p18) (fun _ _ _ => by kernel_rfl))))
  (Sim.test (A := p18) (B := p18) (fun _ _ _ => by kernel_rfl) (Sim.seq (Sim.reg (A := p18) (B := p6) (fun _ _ _ => by kernel_rfl))
  (Sim.seq (Sim.test (A := p6) (B := p6) (fun _ _ _ => by kernel_rfl) (Sim.seq (Sim.reg (A := p6) (B := p0) (fun _ _ _ => by kernel_rfl))
  (Sim.ret (A := p0) (E := (exAt (exAt (exAt (exAt ex 7 p16) 8 p3) 9 p3) 10 p18)) (fun _ => ⟨rfl, trivial⟩)))
  (Sim.skip (A := p6)))
  (Sim.reg (A := p6) (B := p18) (fun _ _ _ => by kernel_rfl))))
  (Sim.skip (A := p18))))))))
  (Sim.seq (Sim.reg (A := p18) (B := p3) (fun _ _ _ => by kernel_rfl))
  (Sim.seq (Sim.test (A := p3) (B := p3) (fun _ _ _ => by kernel_rfl) (Sim.seq (Sim.reg (A := p3) (B := p0) (fun _ _ _ => by kernel_rfl))
  (Sim.ret (A := p0) (E := (exAt (exAt (exAt ex 7 p16) 8 p3) 9 p3)) (fun _ => ⟨rfl, trivial⟩)))
  (Sim.skip (A := p3)))
  (Sim.seq (Sim.reg (A := p3) (B := p3) (fun _ _ _ => by kernel_rfl))
  (Sim.seq (Sim.reg (A := p3) (B := p3) (fun _ _ _ => by kernel_rfl))
  (Sim.seq (Sim.reg (A := p3) (B := p3) (fun _ _ _ => by kernel_rfl))
  (Sim.exit (A := p3) (fun _ => ⟨rfl, rfl, rfl, rfl, rfl, rfl, trivial⟩)))))))))
  (Sim.test (A := p17) (B := p17) (fun _ _ _ => by kernel_rfl) (Sim.seq (Sim.reg (A := p17) (B := p6) (fun _ _ _ => by kernel_rfl))
  (Sim.seq (Sim.test (A := p6) (B := p6) (fun _ _ _ => by kernel_rfl) (Sim.seq (Sim.reg (A := p6) (B := p0) (fun _ _ _ => by kernel_rfl))
  (Sim.ret (A := p0) (E := (exAt (exAt (exAt ex 7 p16) 8 p3) 9 p3)) (fun _ => ⟨rfl, trivial⟩)))
  (Sim.skip (A := p6)))
  (Sim.seq (Sim.reg (A := p6) (B := p3) (fun _ _ _ => by kernel_rfl))
  (Sim.seq (Sim.reg (A := p3) (B := p19) (fun _ _ _ => by kernel_rfl))
  (Sim.seq (Sim.test (A := p19) (B := p19) (fun _ _ _ => by kernel_rfl) (Sim.seq (Sim.reg (A := p19) (B := p20) (fun _ _ _ => by kernel_rfl))
  (Sim.block (B := p3) (Sim.test (A := p20) (B := p20) (fun _ _ _ => by kernel_rfl) (Sim.seq (Sim.reg (A := p20) (B := p6) (fun _ _ _ => by kernel_rfl))
  (Sim.seq (Sim.test (A := p6) (B := p6) (fun _ _ _ => by kernel_rfl) (Sim.seq (Sim.reg (A := p6) (B := p0) (fun _ _ _ => by kernel_rfl))
  (Sim.ret (A := p0) (E := (exAt (exAt (exAt (exAt ex 7 p16) 8 p3) 9 p3) 11 p3)) (fun _ => ⟨rfl, trivial⟩)))
  (Sim.skip (A := p6)))
  (Sim.reg (A := p6) (B := p3) (fun _ _ _ => by kernel_rfl))))
  (Sim.test (A := p20) (B := p20) (fun _ _ _ => by kernel_rfl) (Sim.seq (Sim.reg (A := p20) (B := p6) (fun _ _ _ => by kernel_rfl))
  (Sim.seq (Sim.test (A := p6) (B := p6) (fun _ _ _ => by kernel_rfl) (Sim.seq (Sim.reg (A := p6) (B := p0) (fun _ _ _ => by kernel_rfl))
  (Sim.ret (A := p0) (E := (exAt (exAt (exAt (exAt ex 7 p16) 8 p3) 9 p3) 11 p3)) (fun _ => ⟨rfl, trivial⟩)))
  (Sim.skip (A := p6)))
  (Sim.reg (A := p6) (B := p3) (fun _ _ _ => by kernel_rfl))))
  (Sim.test (A := p20) (B := p3) (fun _ _ _ => by kernel_rfl) (Sim.seq (Sim.reg (A := p3) (B := p6) (fun _ _ _ => by kernel_rfl))
  (Sim.seq (Sim.test (A := p6) (B := p6) (fun _ _ _ => by kernel_rfl) (Sim.seq (Sim.reg (A := p6) (B := p0) (fun _ _ _ => by kernel_rfl))
  (Sim.ret (A := p0) (E := (exAt (exAt (exAt (exAt ex 7 p16) 8 p3) 9 p3) 11 p3)) (fun _ => ⟨rfl, trivial⟩)))
  (Sim.skip (A := p6)))
  (Sim.reg (A := p6) (B := p3) (fun _ _ _ => by kernel_rfl))))
  (Sim.skip (A := p3)))))))
  (Sim.reg (A := p19) (B := p3) (fun _ _ _ => by kernel_rfl)))
  (Sim.reg (A := p3) (B := p3) (fun _ _ _ => by kernel_rfl)))))))
  (Sim.test (A := p17) (B := p17) (fun _ _ _ => by kernel_rfl) (Sim.seq (Sim.reg (A := p17) (B := p21) (fun _ _ _ => by kernel_rfl))
  (Sim.seq (Sim.test (A := p21) (B := p21) (fun _ _ _ => by kernel_rfl) (Sim.seq (Sim.reg (A := p21) (B := p0) (fun _ _ _ => by kernel_rfl))
  (Sim.ret (A := p0) (E := (exAt (exAt (exAt ex 7 p16) 8 p3) 9 p3)) (fun _ => ⟨rfl, trivial⟩)))
  (Sim.skip (A := p21)))
  (Sim.seq (Sim.reg (A := p21) (B := p2) (fun _ _ _ => by kernel_rfl))
  (Sim.reg (A := p2) (B := p3) (fun _ _ _ => by kernel_rfl)))))
  (Sim.test (A := p17) (B := p3) (fun _ _ _ => by kernel_rfl) (Sim.seq (Sim.reg (A := p3) (B := p21) (fun _ _ _ => by kernel_rfl))
  (Sim.seq (Sim.test (A := p21) (B := p21) (fun _ _ _ => by kernel_rfl) (Sim.seq (Sim.reg (A := p21) (B := p0) (fun _ _ _ => by kernel_rfl))
  (Sim.ret (A := p0) (E := (exAt (exAt (exAt ex 7 p16) 8 p3) 9 p3)) (fun _ => ⟨rfl, trivial⟩)))
  (Sim.skip (A := p21)))
  (Sim.seq (Sim.reg (A := p21) (B := p2) (fun _ _ _ => by kernel_rfl))
  (Sim.reg (A := p2) (B := p3) (fun _ _ _ => by kernel_rfl)))))
  (Sim.skip (A := p3))))))))
  (Sim.seq (Sim.test (A := p3) (B := p3) (fun _ _ _ => by kernel_rfl) (Sim.seq (Sim.reg (A := p3) (B := p0) (fun _ _ _ => by kernel_rfl))
  (Sim.ret (A := p0) (E := (exAt (exAt ex 7 p16) 8 p3)) (fun _ => ⟨rfl, trivial⟩)))
  (Sim.skip (A := p3)))
  (Sim.seq (Sim.test (A := p3) (B := p3) (fun _ _ _ => by kernel_rfl) (Sim.seq (Sim.reg (A := p3) (B := p3) (fun _ _ _ => by kernel_rfl))
  (Sim.seq (Sim.reg (A := p3) (B := p3) (fun _ _ _ => by kernel_rfl))
  (Sim.exit (A := p3) (fun _ => ⟨rfl, rfl, rfl, rfl, rfl, rfl, trivial⟩))))
  (Sim.skip (A := p3)))
  (Sim.seq (Sim.reg (A := p3) (B := p22) (fun _ _ _ => by kernel_rfl))
  (Sim.seq (Sim.reg (A := p22) (B := p23) (fun _ _ _ => by kernel_rfl))
  (Sim.seq (Sim.reg (A := p23) (B := p23) (fun _ _ _ => by kernel_rfl))
  (Sim.seq (Sim.seq (Sim.reg (A := p23) (B := p24) (fun _ _ _ => by kernel_rfl))
  (Sim.block (B := p3) (Sim.loop (A := p24) (Sim.seq (Sim.reg (A := p24) (B := p25) (fun _ _ _ => by kernel_rfl))
  (Sim.seq (Sim.cond (A := p25) (fun s => s.t726) (fun _ => rfl) (Sim.weak (B := p25) (C := p24) (Sim.skip (A := p25)) (fun _ => ⟨rfl, rfl, rfl, rfl, rfl, rfl, rfl, rfl, rfl, rfl, trivial⟩))
  (Sim.exit (A := p25) (fun _ => ⟨rfl, rfl, rfl, rfl, rfl, rfl, trivial⟩)))
  (Sim.seq (Sim.block (B := p24) (Sim.seq (Sim.reg (A := p24) (B := p26) (fun _ _ _ => by kernel_rfl))
  (Sim.reg (A := p26) (B := p24) (fun _ _ _ => by kernel_rfl))))
  (Sim.reg (A := p24) (B := p24) (fun _ _ _ => by kernel_rfl))))))))
  (Sim.reg (A := p3) (B := p3) (fun _ _ _ => by kernel_rfl)))))))))))))
  (Sim.seq (Sim.test (A := p16) (B := p27) (fun _ _ _ => by kernel_rfl) (Sim.seq (Sim.reg (A := p27) (B := p0) (fun _ _ _ => by kernel_rfl))
  (Sim.ret (A := p0) (E := ex) (fun _ => ⟨rfl, trivial⟩)))
  (Sim.skip (A := p27)))
  (Sim.seq (Sim.reg (A := p27) (B := p0) (fun _ _ _ => by kernel_rfl))
  (Sim.ret (A := p0) (E := ex) (fun _ => ⟨rfl, trivial⟩)))))))))

def init (x_dst : Sl) (x_src : Sl) : St := { x_dst := x_dst, x_src := x_src, t4 := 0, x_d := 0, x_s := 0, x_length := 0, x_offset := 0, x_x := 0, x_toffset := 0, x_in := Sl.nil, x_a := Sl.nil, x_b := Sl.nil, x_i := 0, x_xq15 := 0, x_toffsetq16 := 0, x_aq17 := Sl.nil, x_bq18 := Sl.nil, x_iq19 := 0, t29 := 0, t152 := 0, t283 := 0, t284 := 0, t285 := false, t306 := 0, t511 := 0, t724 := 0, t725 := 0, t726 := false }

/-- What is left of the results. -/
def res (K : Int → Heap → Prop) (s : St) (h1 : Heap) : Prop := K s.t4 h1

/-- The call of 'pub-pemmican/pub/compress/s2.s2Decode'. -/
theorem calls (x_dst : Sl) (x_src : Sl) (h : Heap) (K : Int → Heap → Prop)
    (H : stm (init x_dst x_src) h (endK (res K))) : c_s2Decode x_dst x_src h K := by
  have hc : CallsH Pg 59 #[(.slice x_dst.p x_dst.n x_dst.c), (.slice x_src.p x_src.n x_src.c)] h fun v h1 => asI .i64 v fun n1 => K n1 h1 :=
    callsH_of_sim (R := p0) (fn := Tryd.f59) (c := Tryd.f59.body.getD .skip) Tryd.func59 rfl Tryd.ntmps59 Tryd.call59 sim (init x_dst x_src) (⟨rfl, rfl, trivial⟩) (Nat.le_of_ble_eq_true rfl) (fun _ => ⟨rfl, trivial⟩) rfl
      (res K) (fun _ _ => by kernel_rfl) H
  refine hc.mono ?_
  intro v hp H
  obtain ⟨n1, rfl, h1⟩ := asI_elim H
  exact ⟨_, rfl, h1⟩

end M_s2Decode

end Go.Proofs.YtibleenkgmkpmaaDoor

namespace Go.Proofs.YtibleenkgmkpmaaDoor
open Go Go.Vc Go.Proofs

namespace M_Load16

structure St where
  x_b : Sl
  x_i : Int
  t4 : Int

def p0 : Pt St where
  env s := [(4, (.int .u16 s.t4))]
  fin e s K := getV e 4 fun v1 => asI .u16 v1 fun n1 => K { s with t4 := n1 }
  ok := by
    intro e s K h0
    obtain ⟨w1, g1, h1⟩ := getV_elim h0
    obtain ⟨n1, rfl, h2⟩ := asI_elim h1
    exact ⟨_, ⟨g1, trivial⟩, h2⟩

def p1 : Pt St where
  env s := [(0, (.slice s.x_b.p s.x_b.n s.x_b.c)), (1, (.int .i64 s.x_i))]
  fin e s K := getV e 0 fun v1 => asS v1 fun p1 n1 c1 => getV e 1 fun v2 => asI .i64 v2 fun n2 => K { s with x_b := ⟨p1, n1, c1⟩, x_i := n2 }
  ok := by
    intro e s K h0
    obtain ⟨w1, g1, h1⟩ := getV_elim h0
    obtain ⟨p1, n1, c1, rfl, h2⟩ := asS_elim h1
    obtain ⟨w2, g2, h3⟩ := getV_elim h2
    obtain ⟨n2, rfl, h4⟩ := asI_elim h3
    exact ⟨_, ⟨g1, g2, trivial⟩, h4⟩

def r0 (s : St) (h : Heap) (Q : St → Heap → Prop) : Prop :=
  Q s h

def r1 (s : St) (h : Heap) (Q : St → Heap → Prop) : Prop :=
  0 ≤ s.x_i ∧ s.x_i ≤ ((s.x_b.n : Nat) : Int) ∧
  c_littleEndian_Uint16 ⟨(subP s.x_b.p (Int.toNat s.x_i) s.x_b.c 1), (s.x_b.n - (Int.toNat s.x_i)), (s.x_b.c - (Int.toNat s.x_i))⟩ h fun r2 h1 =>
  Q { s with t4 := r2 } h1

def stm : Stm St := (.seq (.reg r0) (.seq (.reg r1) .ret))

def ex : Ex → Pt St := fun _ => p0

set_option maxRecDepth 100000 in
theorem sim : Sim Pg 10 p1 (Tryd.f82.body.getD .skip) stm p0 ex :=
  (Sim.seq (Sim.reg (A := p1) (B := p1) (fun _ _ _ => by kernel_rfl))
  (Sim.seq (Sim.reg (A := p1) (B := p0) (fun _ _ _ => by kernel_rfl))
  (Sim.ret (A := p0) (E := ex) (fun _ => ⟨rfl, trivial⟩))))

def init (x_b : Sl) (x_i : Int) : St := { x_b := x_b, x_i := x_i, t4 := 0 }

/-- What is left of the results. -/
def res (K : Int → Heap → Prop) (s : St) (h1 : Heap) : Prop := K s.t4 h1

/-- The call of 'pub-pemmican/pub/compress/inner/le.Load16[int]'. -/
theorem calls (x_b : Sl) (x_i : Int) (h : Heap) (K : Int → Heap → Prop)
    (H : stm (init x_b x_i) h (endK (res K))) : c_Load16 x_b x_i h K := by
  have hc : CallsH Pg 82 #[(.slice x_b.p x_b.n x_b.c), (.int .i64 x_i)] h fun v h1 => asI .u16 v fun n1 => K n1 h1 :=
    callsH_of_sim (R := p0) (fn := Tryd.f82) (c := Tryd.f82.body.getD .skip) Tryd.func82 rfl Tryd.ntmps82 Tryd.call82 sim (init x_b x_i) (⟨rfl, rfl, trivial⟩) (Nat.le_of_ble_eq_true rfl) (fun _ => ⟨rfl, trivial⟩) rfl
      (res K) (fun _ _ => by kernel_rfl) H
  refine hc.mono ?_
  intro v hp H
  obtain ⟨n1, rfl, h1⟩ := asI_elim H
  exact ⟨_, rfl, h1⟩

end M_Load16

end Go.Proofs.YtibleenkgmkpmaaDoor

namespace Go.Proofs.YtibleenkgmkpmaaDoor
open Go Go.Vc Go.Proofs

namespace M_Load32

structure St where
  x_b : Sl
  x_i : Int
  t4 : Int

def p0 : Pt St where
  env s := [(4, (.int .u32 s.t4))]
  fin e s K := getV e 4 fun v1 => asI .u32 v1 fun n1 => K { s with t4 := n1 }
  ok := by
    intro e s K h0
    obtain ⟨w1, g1, h1⟩ := getV_elim h0
    obtain ⟨n1, rfl, h2⟩ := asI_elim h1
    exact ⟨_, ⟨g1, trivial⟩, h2⟩

def p1 : Pt St where
  env s := [(0, (.slice s.x_b.p s.x_b.n s.x_b.c)), (1, (.int .i64 s.x_i))]
  fin e s K := getV e 0 fun v1 => asS v1 fun p1 n1 c1 => getV e 1 fun v2 => asI .i64 v2 fun n2 => K { s with x_b := ⟨p1, n1, c1⟩, x_i := n2 }
  ok := by
    intro e s K h0
    obtain ⟨w1, g1, h1⟩ := getV_elim h0
    obtain ⟨p1, n1, c1, rfl, h2⟩ := asS_elim h1
    obtain ⟨w2, g2, h3⟩ := getV_elim h2
    obtain ⟨n2, rfl, h4⟩ := asI_elim h3
    exact ⟨_, ⟨g1, g2, trivial⟩, h4⟩

def r0 (s : St) (h : Heap) (Q : St → Heap → Prop) : Prop :=
  Q s h

def r1 (s : St) (h : Heap) (Q : St → Heap → Prop) : Prop :=
  0 ≤ s.x_i ∧ s.x_i ≤ ((s.x_b.n : Nat) : Int) ∧
  c_littleEndian_Uint32 ⟨(subP s.x_b.p (Int.toNat s.x_i) s.x_b.c 1), (s.x_b.n - (Int.toNat s.x_i)), (s.x_b.c - (Int.toNat s.x_i))⟩ h fun r2 h1 =>
  Q { s with t4 := r2 } h1

def stm : Stm St := (.seq (.reg r0) (.seq (.reg r1) .ret))

def ex : Ex → Pt St := fun _ => p0

set_option maxRecDepth 100000 in
theorem sim : Sim Pg 10 p1 (Tryd.f83.body.getD .skip) stm p0 ex :=
  (Sim.seq (Sim.reg (A := p1) (B := p1) (fun _ _ _ => by kernel_rfl))
  (Sim.seq (Sim.reg (A := p1) (B := p0) (fun _ _ _ => by kernel_rfl))
  (Sim.ret (A := p0) (E := ex) (fun _ => ⟨rfl, trivial⟩))))

def init (x_b : Sl) (x_i : Int) : St := { x_b := x_b, x_i := x_i, t4 := 0 }

/-- What is left of the results. -/
def res (K : Int → Heap → Prop) (s : St) (h1 : Heap) : Prop := K s.t4 h1

/-- The call of 'pub-pemmican/pub/compress/inner/le.Load32[int]'. -/
theorem calls (x_b : Sl) (x_i : Int) (h : Heap) (K : Int → Heap → Prop)
    (H : stm (init x_b x_i) h (endK (res K))) : c_Load32 x_b x_i h K := by
  have hc : CallsH Pg 83 #[(.slice x_b.p x_b.n x_b.c), (.int .i64 x_i)] h fun v h1 => asI .u32 v fun n1 => K n1 h1 :=
    callsH_of_sim (R := p0) (fn := Tryd.f83) (c := Tryd.f83.body.getD .skip) Tryd.func83 rfl Tryd.ntmps83 Tryd.call83 sim (init x_b x_i) (⟨rfl, rfl, trivial⟩) (Nat.le_of_ble_eq_true rfl) (fun _ => ⟨rfl, trivial⟩) rfl
      (res K) (fun _ _ => by kernel_rfl) H
  refine hc.mono ?_
  intro v hp H
  obtain ⟨n1, rfl, h1⟩ := asI_elim H
  exact ⟨_, rfl, h1⟩

end M_Load32

end Go.Proofs.YtibleenkgmkpmaaDoor

namespace Go.Proofs.YtibleenkgmkpmaaDoor
open Go Go.Vc Go.Proofs

namespace M_littleEndian_Uint16

structure St where
  x_b : Sl
  t4 : Int

def p0 : Pt St where
  env s := [(4, (.int .u16 s.t4))]
  fin e s K := getV e 4 fun v1 => asI .u16 v1 fun n1 => K { s with t4 := n1 }
  ok := by
    intro e s K h0
    obtain ⟨w1, g1, h1⟩ := getV_elim h0
    obtain ⟨n1, rfl, h2⟩ := asI_elim h1
    exact ⟨_, ⟨g1, trivial⟩, h2⟩

def p1 : Pt St where
  env s := [(0, (.agg #[])), (1, (.slice s.x_b.p s.x_b.n s.x_b.c))]
  fin e s K := getV e 0 fun v1 => asA v1 fun l1 => asN l1 (getV e 1 fun v2 => asS v2 fun p1 n1 c1 => K { s with x_b := ⟨p1, n1, c1⟩ })
  ok := by
    intro e s K h0
    obtain ⟨w1, g1, h1⟩ := getV_elim h0
    obtain ⟨l1, rfl, h2⟩ := asA_elim h1
    obtain ⟨rfl, h3⟩ := asN_elim h2
    obtain ⟨w2, g2, h4⟩ := getV_elim h3
    obtain ⟨p1, n1, c1, rfl, h5⟩ := asS_elim h4
    exact ⟨_, ⟨g1, g2, trivial⟩, h5⟩

def p2 : Pt St where
  env s := [(1, (.slice s.x_b.p s.x_b.n s.x_b.c))]
  fin e s K := getV e 1 fun v1 => asS v1 fun p1 n1 c1 => K { s with x_b := ⟨p1, n1, c1⟩ }
  ok := by
    intro e s K h0
    obtain ⟨w1, g1, h1⟩ := getV_elim h0
    obtain ⟨p1, n1, c1, rfl, h2⟩ := asS_elim h1
    exact ⟨_, ⟨g1, trivial⟩, h2⟩

def r0 (s : St) (h : Heap) (Q : St → Heap → Prop) : Prop :=
  withH (hnew h [] 126) fun h1 =>
  Q s h1

def r1 (s : St) (h : Heap) (Q : St → Heap → Prop) : Prop :=
  0 ≤ (1 : Int) ∧ (1 : Int) < ((s.x_b.n : Nat) : Int) ∧
  ptrE s.x_b.p fun a1 =>
  ∃ v2 : Int, hcell h (Addr.add a1 (Int.toNat (1 : Int) * 1)) = some (.int .u8 v2) ∧
  Q s h

def r2 (s : St) (h : Heap) (Q : St → Heap → Prop) : Prop :=
  0 ≤ (0 : Int) ∧ (0 : Int) < ((s.x_b.n : Nat) : Int) ∧
  ptrE s.x_b.p fun a1 =>
  ∃ v2 : Int, hcell h (Addr.add a1 (Int.toNat (0 : Int) * 1)) = some (.int .u8 v2) ∧
  0 ≤ (1 : Int) ∧ (1 : Int) < ((s.x_b.n : Nat) : Int) ∧
  ptrE s.x_b.p fun a3 =>
  ∃ v4 : Int, hcell h (Addr.add a3 (Int.toNat (1 : Int) * 1)) = some (.int .u8 v4) ∧
  Q { s with t4 := (bOr .u16 (IntKind.wrap .u16 v2) (IntKind.wrap .u16 ((IntKind.wrap .u16 v4) * 2 ^ (8 : Nat)))) } h

def k0 : Stm St := (.seq (.reg r1) (.seq (.reg r2) .ret))

def stm : Stm St := (.seq (.reg r0) k0)

def ex : Ex → Pt St := fun _ => p0

set_option maxRecDepth 100000 in
theorem sim : Sim Pg 18 p1 (Tryd.f90.body.getD .skip) stm p0 ex :=
  (Sim.seq (Sim.reg (A := p1) (B := p2) (fun _ _ _ => by kernel_rfl))
  (Sim.seq (Sim.reg (A := p2) (B := p2) (fun _ _ _ => by kernel_rfl))
  (Sim.seq (Sim.reg (A := p2) (B := p0) (fun _ _ _ => by kernel_rfl))
  (Sim.ret (A := p0) (E := ex) (fun _ => ⟨rfl, trivial⟩)))))

def init (x_b : Sl) : St := { x_b := x_b, t4 := 0 }

/-- What is left of the results. -/
def res (K : Int → Heap → Prop) (s : St) (h1 : Heap) : Prop := K s.t4 h1

/-- The call of '(encoding/binary.littleEndian).Uint16'. -/
theorem calls (x_b : Sl) (h : Heap) (K : Int → Heap → Prop)
    (H : stm (init x_b) h (endK (res K))) : c_littleEndian_Uint16 x_b h K := by
  have hc : CallsH Pg 90 #[(.agg #[]), (.slice x_b.p x_b.n x_b.c)] h fun v h1 => asI .u16 v fun n1 => K n1 h1 :=
    callsH_of_sim (R := p0) (fn := Tryd.f90) (c := Tryd.f90.body.getD .skip) Tryd.func90 rfl Tryd.ntmps90 Tryd.call90 sim (init x_b) (⟨rfl, rfl, trivial⟩) (Nat.le_of_ble_eq_true rfl) (fun _ => ⟨rfl, trivial⟩) rfl
      (res K) (fun _ _ => by kernel_rfl) H
  refine hc.mono ?_
  intro v hp H
  obtain ⟨n1, rfl, h1⟩ := asI_elim H
  exact ⟨_, rfl, h1⟩

end M_littleEndian_Uint16

end Go.Proofs.YtibleenkgmkpmaaDoor

namespace Go.Proofs.YtibleenkgmkpmaaDoor
open Go Go.Vc Go.Proofs

namespace M_littleEndian_Uint32

structure St where
  x_b : Sl
  t4 : Int

def p0 : Pt St where
  env s := [(4, (.int .u32 s.t4))]
  fin e s K := getV e 4 fun v1 => asI .u32 v1 fun n1 => K { s with t4 := n1 }
  ok := by
    intro e s K h0
    obtain ⟨w1, g1, h1⟩ := getV_elim h0
    obtain ⟨n1, rfl, h2⟩ := asI_elim h1
    exact ⟨_, ⟨g1, trivial⟩, h2⟩

def p1 : Pt St where
  env s := [(0, (.agg #[])), (1, (.slice s.x_b.p s.x_b.n s.x_b.c))]
  fin e s K := getV e 0 fun v1 => asA v1 fun l1 => asN l1 (getV e 1 fun v2 => asS v2 fun p1 n1 c1 => K { s with x_b := ⟨p1, n1, c1⟩ })
  ok := by
    intro e s K h0
    obtain ⟨w1, g1, h1⟩ := getV_elim h0
    obtain ⟨l1, rfl, h2⟩ := asA_elim h1
    obtain ⟨rfl, h3⟩ := asN_elim h2
    obtain ⟨w2, g2, h4⟩ := getV_elim h3
    obtain ⟨p1, n1, c1, rfl, h5⟩ := asS_elim h4
    exact ⟨_, ⟨g1, g2, trivial⟩, h5⟩

def p2 : Pt St where
  env s := [(1, (.slice s.x_b.p s.x_b.n s.x_b.c))]
  fin e s K := getV e 1 fun v1 => asS v1 fun p1 n1 c1 => K { s with x_b := ⟨p1, n1, c1⟩ }
  ok := by
    intro e s K h0
    obtain ⟨w1, g1, h1⟩ := getV_elim h0
    obtain ⟨p1, n1, c1, rfl, h2⟩ := asS_elim h1
    exact ⟨_, ⟨g1, trivial⟩, h2⟩

def r0 (s : St) (h : Heap) (Q : St → Heap → Prop) : Prop :=
  withH (hnew h [] 126) fun h1 =>
  Q s h1

def r1 (s : St) (h : Heap) (Q : St → Heap → Prop) : Prop :=
  0 ≤ (3 : Int) ∧ (3 : Int) < ((s.x_b.n : Nat) : Int) ∧
  ptrE s.x_b.p fun a1 =>
  ∃ v2 : Int, hcell h (Addr.add a1 (Int.toNat (3 : Int) * 1)) = some (.int .u8 v2) ∧
  Q s h

def r2 (s : St) (h : Heap) (Q : St → Heap → Prop) : Prop :=
  0 ≤ (0 : Int) ∧ (0 : Int) < ((s.x_b.n : Nat) : Int) ∧
  ptrE s.x_b.p fun a1 =>
  ∃ v2 : Int, hcell h (Addr.add a1 (Int.toNat (0 : Int) * 1)) = some (.int .u8 v2) ∧
  0 ≤ (1 : Int) ∧ (1 : Int) < ((s.x_b.n : Nat) : Int) ∧
  ptrE s.x_b.p fun a3 =>
  ∃ v4 : Int, hcell h (Addr.add a3 (Int.toNat (1 : Int) * 1)) = some (.int .u8 v4) ∧
  0 ≤ (2 : Int) ∧ (2 : Int) < ((s.x_b.n : Nat) : Int) ∧
  ptrE s.x_b.p fun a5 =>
  ∃ v6 : Int, hcell h (Addr.add a5 (Int.toNat (2 : Int) * 1)) = some (.int .u8 v6) ∧
  0 ≤ (3 : Int) ∧ (3 : Int) < ((s.x_b.n : Nat) : Int) ∧
  ptrE s.x_b.p fun a7 =>
  ∃ v8 : Int, hcell h (Addr.add a7 (Int.toNat (3 : Int) * 1)) = some (.int .u8 v8) ∧
  Q { s with t4 := (bOr .u32 (bOr .u32 (bOr .u32 (IntKind.wrap .u32 v2) (IntKind.wrap .u32 ((IntKind.wrap .u32 v4) * 2 ^ (8 : Nat)))) (IntKind.wrap .u32 ((IntKind.wrap .u32 v6) * 2 ^ (16 : Nat)))) (IntKind.wrap .u32 ((IntKind.wrap .u32 v8) * 2 ^ (24 : Nat)))) } h

def k0 : Stm St := (.seq (.reg r1) (.seq (.reg r2) .ret))

def stm : Stm St := (.seq (.reg r0) k0)

def ex : Ex → Pt St := fun _ => p0

set_option maxRecDepth 100000 in
theorem sim : Sim Pg 30 p1 (Tryd.f98.body.getD .skip) stm p0 ex :=
  (Sim.seq (Sim.reg (A := p1) (B := p2) (fun _ _ _ => by kernel_rfl))
  (Sim.seq (Sim.reg (A := p2) (B := p2) (fun _ _ _ => by kernel_rfl))
  (Sim.seq (Sim.reg (A := p2) (B := p0) (fun _ _ _ => by kernel_rfl))
  (Sim.ret (A := p0) (E := ex) (fun _ => ⟨rfl, trivial⟩)))))

def init (x_b : Sl) : St := { x_b := x_b, t4 := 0 }

/-- What is left of the results. -/
def res (K : Int → Heap → Prop) (s : St) (h1 : Heap) : Prop := K s.t4 h1

/-- The call of '(encoding/binary.littleEndian).Uint32'. -/
theorem calls (x_b : Sl) (h : Heap) (K : Int → Heap → Prop)
    (H : stm (init x_b) h (endK (res K))) : c_littleEndian_Uint32 x_b h K := by
  have hc : CallsH Pg 98 #[(.agg #[]), (.slice x_b.p x_b.n x_b.c)] h fun v h1 => asI .u32 v fun n1 => K n1 h1 :=
    callsH_of_sim (R := p0) (fn := Tryd.f98) (c := Tryd.f98.body.getD .skip) Tryd.func98 rfl Tryd.ntmps98 Tryd.call98 sim (init x_b) (⟨rfl, rfl, trivial⟩) (Nat.le_of_ble_eq_true rfl) (fun _ => ⟨rfl, trivial⟩) rfl
      (res K) (fun _ _ => by kernel_rfl) H
  refine hc.mono ?_
  intro v hp H
  obtain ⟨n1, rfl, h1⟩ := asI_elim H
  exact ⟨_, rfl, h1⟩

end M_littleEndian_Uint32

end Go.Proofs.YtibleenkgmkpmaaDoor

