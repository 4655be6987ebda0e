/- Models of functions of the program: what each one computes, over heaps, tied to the program by one check a region. Written by a program. -/
import Derived.Test.YtibleenkgmkpmaaDoorSigs
namespace Go.Proofs.YtibleenkgmkpmaaDoor
open Go Go.Vc Go.Proofs

namespace M_spec_little

structure St where
  x_src : Sl
  x_at : Int
  x_bytes : Int
  t6 : Int
  x_n : Int
  x_i : Int

def p0 : Pt St where
  env s := [(6, (.int .i64 s.t6))]
  fin e s K := vI e 6 .i64 fun n1 => K { s with t6 := n1 }
  ok := by
    intro e s K h0
    obtain ⟨n1, g1, h2⟩ := gI h0
    exact ⟨_, ⟨g1, trivial⟩, h2⟩

def p1 : Pt St where
  env s := [(0, (.slice s.x_src.p s.x_src.n s.x_src.c)), (1, (.int .i64 s.x_at)), (2, (.int .i64 s.x_bytes))]
  fin e s K := vS e 0 fun p1 n1 c1 => vI e 1 .i64 fun n2 => vI e 2 .i64 fun n3 => K { s with x_src := ⟨p1, n1, c1⟩, x_at := n2, x_bytes := n3 }
  ok := by
    intro e s K h0
    obtain ⟨p1, n1, c1, g1, h2⟩ := gS h0
    obtain ⟨n2, g2, h4⟩ := gI h2
    obtain ⟨n3, g3, h6⟩ := gI h4
    exact ⟨_, ⟨g1, g2, g3, trivial⟩, h6⟩

def p2 : Pt St where
  env s := [(0, (.slice s.x_src.p s.x_src.n s.x_src.c)), (1, (.int .i64 s.x_at)), (2, (.int .i64 s.x_bytes)), (7, (.int .i64 s.x_n))]
  fin e s K := vS e 0 fun p1 n1 c1 => vI e 1 .i64 fun n2 => vI e 2 .i64 fun n3 => vI e 7 .i64 fun n4 => K { s with x_src := ⟨p1, n1, c1⟩, x_at := n2, x_bytes := n3, x_n := n4 }
  ok := by
    intro e s K h0
    obtain ⟨p1, n1, c1, g1, h2⟩ := gS h0
    obtain ⟨n2, g2, h4⟩ := gI h2
    obtain ⟨n3, g3, h6⟩ := gI h4
    obtain ⟨n4, g4, h8⟩ := gI h6
    exact ⟨_, ⟨g1, g2, g3, g4, trivial⟩, h8⟩

def p3 : Pt St where
  env s := [(0, (.slice s.x_src.p s.x_src.n s.x_src.c)), (1, (.int .i64 s.x_at)), (7, (.int .i64 s.x_n)), (8, (.int .i64 s.x_i))]
  fin e s K := vS e 0 fun p1 n1 c1 => vI e 1 .i64 fun n2 => vI e 7 .i64 fun n3 => vI e 8 .i64 fun n4 => K { s with x_src := ⟨p1, n1, c1⟩, x_at := n2, x_n := n3, x_i := n4 }
  ok := by
    intro e s K h0
    obtain ⟨p1, n1, c1, g1, h2⟩ := gS h0
    obtain ⟨n2, g2, h4⟩ := gI h2
    obtain ⟨n3, g3, h6⟩ := gI h4
    obtain ⟨n4, g4, h8⟩ := gI h6
    exact ⟨_, ⟨g1, g2, g3, g4, trivial⟩, h8⟩

def p4 : Pt St where
  env s := [(7, (.int .i64 s.x_n))]
  fin e s K := vI e 7 .i64 fun n1 => K { s with x_n := n1 }
  ok := by
    intro e s K h0
    obtain ⟨n1, g1, h2⟩ := gI h0
    exact ⟨_, ⟨g1, trivial⟩, h2⟩

def r0 (s : St) (h : Heap) (Q : St → Heap → Prop) : Prop :=
  Q s h

def r1 (s : St) (h : Heap) (Q : Bool → St → Heap → Prop) : Prop :=
  Q (decide ((IntKind.wrap .i64 (s.x_at + s.x_bytes)) > ((s.x_src.n : Nat) : Int))) s h

def r2 (s : St) (h : Heap) (Q : St → Heap → Prop) : Prop :=
  Q { s with t6 := (-1 : Int) } h

def r3 (s : St) (h : Heap) (Q : St → Heap → Prop) : Prop :=
  Q { s with x_n := (0 : Int) } h

def r4 (s : St) (h : Heap) (Q : St → Heap → Prop) : Prop :=
  Q { s with x_i := (IntKind.wrap .i64 (s.x_bytes - (1 : Int))) } h

def r5 (s : St) (h : Heap) (Q : Bool → St → Heap → Prop) : Prop :=
  Q (decide (s.x_i ≥ (0 : Int))) s h

def r6 (s : St) (h : Heap) (Q : St → Heap → Prop) : Prop :=
  Q { s with x_i := (IntKind.wrap .i64 (s.x_i - (1 : Int))) } h

def r7 (s : St) (h : Heap) (Q : St → Heap → Prop) : Prop :=
  0 ≤ (IntKind.wrap .i64 (s.x_at + s.x_i)) ∧ (IntKind.wrap .i64 (s.x_at + s.x_i)) < ((s.x_src.n : Nat) : Int) ∧
  ptrE s.x_src.p fun a1 =>
  ∃ v2 : Int, hcell h (Addr.add a1 (Int.toNat (IntKind.wrap .i64 (s.x_at + s.x_i)) * 1)) = some (.int .u8 v2) ∧
  Q { s with x_n := (IntKind.wrap .i64 ((IntKind.wrap .i64 (s.x_n * (256 : Int))) + (IntKind.wrap .i64 v2))) } h

def r8 (s : St) (h : Heap) (Q : St → Heap → Prop) : Prop :=
  Q { s with t6 := s.x_n } h

def k5 : Stm St := (.seq (.block 1 (.reg r7)) (.reg r6))
def k4 : Stm St := (.seq (.test r5 .skip (.exit 0)) k5)
def k3 : Stm St := (.block 0 (.loop k4))
def k2 : Stm St := (.seq (.seq (.reg r4) k3) (.seq (.reg r8) .ret))
def k1 : Stm St := (.seq (.reg r3) k2)
def k0 : Stm St := (.seq (.test r1 (.seq (.reg r2) .ret) .skip) k1)

def stm : Stm St := (.seq (.reg r0) k0)

def ex : Ex → Pt St := fun _ => p0

set_option maxRecDepth 100000 in
theorem sim : Sim Pg 32 p1 (Tryd.f86.body.getD .skip) stm p0 ex :=
  (Sim.seq (Sim.reg (A := p1) (B := p1) (fun _ _ _ => by kernel_rfl))
  (Sim.seq (Sim.test (A := p1) (B := p1) (fun _ _ _ => by kernel_rfl) (Sim.seq (Sim.reg (A := p1) (B := p0) (fun _ _ _ => by kernel_rfl))
  (Sim.ret (A := p0) (E := ex) (fun _ => ⟨rfl, trivial⟩)))
  (Sim.skip (A := p1)))
  (Sim.seq (Sim.reg (A := p1) (B := p2) (fun _ _ _ => by kernel_rfl))
  (Sim.seq (Sim.seq (Sim.reg (A := p2) (B := p3) (fun _ _ _ => by kernel_rfl))
  (Sim.block (B := p4) (Sim.loop (A := p3) (Sim.seq (Sim.test (A := p3) (B := p3) (fun _ _ _ => by kernel_rfl) (Sim.skip (A := p3))
  (Sim.exit (A := p3) (fun _ => ⟨rfl, trivial⟩)))
  (Sim.seq (Sim.block (B := p3) (Sim.reg (A := p3) (B := p3) (fun _ _ _ => by kernel_rfl)))
  (Sim.reg (A := p3) (B := p3) (fun _ _ _ => by kernel_rfl)))))))
  (Sim.seq (Sim.reg (A := p4) (B := p0) (fun _ _ _ => by kernel_rfl))
  (Sim.ret (A := p0) (E := ex) (fun _ => ⟨rfl, trivial⟩)))))))

def init (x_src : Sl) (x_at : Int) (x_bytes : Int) : St := { x_src := x_src, x_at := x_at, x_bytes := x_bytes, t6 := 0, x_n := 0, x_i := 0 }

/-- What is left of the results. -/
def res (K : Int → Heap → Prop) (s : St) (h1 : Heap) : Prop := K s.t6 h1

/-- The call of 'pub-pemmican/spec.little'. -/
theorem calls (x_src : Sl) (x_at : Int) (x_bytes : Int) (h : Heap) (K : Int → Heap → Prop)
    (H : stm (init x_src x_at x_bytes) h (endK (res K))) : c_spec_little x_src x_at x_bytes h K := by
  have hc : CallsH Pg 86 #[(.slice x_src.p x_src.n x_src.c), (.int .i64 x_at), (.int .i64 x_bytes)] h fun v h1 => asI .i64 v fun n1 => K n1 h1 :=
    callsH_of_sim (R := p0) (fn := Tryd.f86) (c := Tryd.f86.body.getD .skip) Tryd.func86 rfl Tryd.ntmps86 Tryd.call86 sim (init x_src x_at x_bytes) (⟨rfl, rfl, rfl, trivial⟩) (Nat.le_of_ble_eq_true rfl) (fun _ => ⟨rfl, trivial⟩) rfl
      (res K) (fun _ _ => by kernel_rfl) H
  refine hc.mono ?_
  intro v hp H
  obtain ⟨n1, rfl, h1⟩ := asI_elim H
  exact ⟨_, rfl, h1⟩

end M_spec_little

end Go.Proofs.YtibleenkgmkpmaaDoor

namespace Go.Proofs.YtibleenkgmkpmaaDoor
open Go Go.Vc Go.Proofs

namespace M_spec_readLiteral

structure St where
  x_src : Sl
  x_at : Int
  t4 : Option Addr
  t5 : Bool
  x_n : Int
  x_from : Int
  x_bytes : Int

def p0 : Pt St where
  env s := [(4, (.pointer s.t4)), (5, (.bool s.t5))]
  fin e s K := vP e 4 fun p1 => vB e 5 fun b1 => K { s with t4 := p1, t5 := b1 }
  ok := by
    intro e s K h0
    obtain ⟨p1, g1, h2⟩ := gP h0
    obtain ⟨b1, g2, h4⟩ := gB h2
    exact ⟨_, ⟨g1, g2, trivial⟩, h4⟩

def p1 : Pt St where
  env s := [(0, (.slice s.x_src.p s.x_src.n s.x_src.c)), (1, (.int .i64 s.x_at))]
  fin e s K := vS e 0 fun p1 n1 c1 => vI e 1 .i64 fun n2 => K { s with x_src := ⟨p1, n1, c1⟩, x_at := n2 }
  ok := by
    intro e s K h0
    obtain ⟨p1, n1, c1, g1, h2⟩ := gS h0
    obtain ⟨n2, g2, h4⟩ := gI h2
    exact ⟨_, ⟨g1, g2, trivial⟩, h4⟩

def p2 : Pt St where
  env s := [(0, (.slice s.x_src.p s.x_src.n s.x_src.c)), (1, (.int .i64 s.x_at)), (4, (.pointer s.t4))]
  fin e s K := vS e 0 fun p1 n1 c1 => vI e 1 .i64 fun n2 => vP e 4 fun p2 => K { s with x_src := ⟨p1, n1, c1⟩, x_at := n2, t4 := p2 }
  ok := by
    intro e s K h0
    obtain ⟨p1, n1, c1, g1, h2⟩ := gS h0
    obtain ⟨n2, g2, h4⟩ := gI h2
    obtain ⟨p2, g3, h6⟩ := gP h4
    exact ⟨_, ⟨g1, g2, g3, trivial⟩, h6⟩

def p3 : Pt St where
  env s := [(0, (.slice s.x_src.p s.x_src.n s.x_src.c)), (1, (.int .i64 s.x_at)), (4, (.pointer s.t4)), (6, (.int .i64 s.x_n))]
  fin e s K := vS e 0 fun p1 n1 c1 => vI e 1 .i64 fun n2 => vP e 4 fun p2 => vI e 6 .i64 fun n3 => K { s with x_src := ⟨p1, n1, c1⟩, x_at := n2, t4 := p2, x_n := n3 }
  ok := by
    intro e s K h0
    obtain ⟨p1, n1, c1, g1, h2⟩ := gS h0
    obtain ⟨n2, g2, h4⟩ := gI h2
    obtain ⟨p2, g3, h6⟩ := gP h4
    obtain ⟨n3, g4, h8⟩ := gI h6
    exact ⟨_, ⟨g1, g2, g3, g4, trivial⟩, h8⟩

def p4 : Pt St where
  env s := [(0, (.slice s.x_src.p s.x_src.n s.x_src.c)), (4, (.pointer s.t4)), (6, (.int .i64 s.x_n)), (7, (.int .i64 s.x_from))]
  fin e s K := vS e 0 fun p1 n1 c1 => vP e 4 fun p2 => vI e 6 .i64 fun n2 => vI e 7 .i64 fun n3 => K { s with x_src := ⟨p1, n1, c1⟩, t4 := p2, x_n := n2, x_from := n3 }
  ok := by
    intro e s K h0
    obtain ⟨p1, n1, c1, g1, h2⟩ := gS h0
    obtain ⟨p2, g2, h4⟩ := gP h2
    obtain ⟨n2, g3, h6⟩ := gI h4
    obtain ⟨n3, g4, h8⟩ := gI h6
    exact ⟨_, ⟨g1, g2, g3, g4, trivial⟩, h8⟩

def p5 : Pt St where
  env s := [(0, (.slice s.x_src.p s.x_src.n s.x_src.c)), (4, (.pointer s.t4)), (7, (.int .i64 s.x_from)), (8, (.int .i64 s.x_bytes))]
  fin e s K := vS e 0 fun p1 n1 c1 => vP e 4 fun p2 => vI e 7 .i64 fun n2 => vI e 8 .i64 fun n3 => K { s with x_src := ⟨p1, n1, c1⟩, t4 := p2, x_from := n2, x_bytes := n3 }
  ok := by
    intro e s K h0
    obtain ⟨p1, n1, c1, g1, h2⟩ := gS h0
    obtain ⟨p2, g2, h4⟩ := gP h2
    obtain ⟨n2, g3, h6⟩ := gI h4
    obtain ⟨n3, g4, h8⟩ := gI h6
    exact ⟨_, ⟨g1, g2, g3, g4, trivial⟩, h8⟩

def p6 : Pt St where
  env s := [(0, (.slice s.x_src.p s.x_src.n s.x_src.c)), (4, (.pointer s.t4)), (6, (.int .i64 s.x_n)), (7, (.int .i64 s.x_from)), (8, (.int .i64 s.x_bytes))]
  fin e s K := vS e 0 fun p1 n1 c1 => vP e 4 fun p2 => vI e 6 .i64 fun n2 => vI e 7 .i64 fun n3 => vI e 8 .i64 fun n4 => K { s with x_src := ⟨p1, n1, c1⟩, t4 := p2, x_n := n2, x_from := n3, x_bytes := n4 }
  ok := by
    intro e s K h0
    obtain ⟨p1, n1, c1, g1, h2⟩ := gS h0
    obtain ⟨p2, g2, h4⟩ := gP h2
    obtain ⟨n2, g3, h6⟩ := gI h4
    obtain ⟨n3, g4, h8⟩ := gI h6
    obtain ⟨n4, g5, h10⟩ := gI h8
    exact ⟨_, ⟨g1, g2, g3, g4, g5, trivial⟩, h10⟩

def p7 : Pt St where
  env s := [(4, (.pointer s.t4)), (6, (.int .i64 s.x_n)), (7, (.int .i64 s.x_from))]
  fin e s K := vP e 4 fun p1 => vI e 6 .i64 fun n1 => vI e 7 .i64 fun n2 => K { s with t4 := p1, x_n := n1, x_from := n2 }
  ok := by
    intro e s K h0
    obtain ⟨p1, g1, h2⟩ := gP h0
    obtain ⟨n1, g2, h4⟩ := gI h2
    obtain ⟨n2, g3, h6⟩ := gI h4
    exact ⟨_, ⟨g1, g2, g3, trivial⟩, h6⟩

def r0 (s : St) (h : Heap) (Q : St → Heap → Prop) : Prop :=
  withH (hnew h (zcells Pg 113) 113) fun h1 =>
  Q { s with t4 := (some ⟨Array.size h, 0, none⟩) } h1

def r1 (s : St) (h : Heap) (Q : St → Heap → Prop) : Prop :=
  0 ≤ s.x_at ∧ s.x_at < ((s.x_src.n : Nat) : Int) ∧
  ptrE s.x_src.p fun a1 =>
  ∃ v2 : Int, hcell h (Addr.add a1 (Int.toNat s.x_at * 1)) = some (.int .u8 v2) ∧
  Q { s with x_n := (IntKind.wrap .i64 (Int.fdiv v2 (2 ^ (2 : Nat)))) } h

def r2 (s : St) (h : Heap) (Q : St → Heap → Prop) : Prop :=
  Q { s with x_from := (IntKind.wrap .i64 (s.x_at + (1 : Int))) } h

def r3 (s : St) (h : Heap) (Q : Bool → St → Heap → Prop) : Prop :=
  Q (decide (s.x_n ≥ (60 : Int))) s h

def r4 (s : St) (h : Heap) (Q : St → Heap → Prop) : Prop :=
  Q { s with x_bytes := (IntKind.wrap .i64 (s.x_n - (59 : Int))) } h

def r5 (s : St) (h : Heap) (Q : St → Heap → Prop) : Prop :=
  c_spec_little s.x_src s.x_from s.x_bytes h fun r2 h1 =>
  Q { s with x_n := r2 } h1

def r6 (s : St) (h : Heap) (Q : St → Heap → Prop) : Prop :=
  Q { s with x_from := (IntKind.wrap .i64 (s.x_from + s.x_bytes)) } h

def r7 (s : St) (h : Heap) (Q : Bool → St → Heap → Prop) : Prop :=
  Q (decide (s.x_n < (0 : Int))) s h

def r8 (s : St) (h : Heap) (Q : St → Heap → Prop) : Prop :=
  ptrE s.t4 fun a1 =>
  st1 (Addr.add a1 0) (.bool false) h fun h2 =>
  st1 (Addr.add a1 1) (.int .i64 (0 : Int)) h2 fun h3 =>
  st1 (Addr.add a1 2) (.int .i64 (0 : Int)) h3 fun h4 =>
  st1 (Addr.add a1 3) (.int .i64 (0 : Int)) h4 fun h5 =>
  st1 (Addr.add a1 4) (.bool false) h5 fun h6 =>
  st1 (Addr.add a1 5) (.int .i64 (0 : Int)) h6 fun h7 =>
  Q { s with t5 := false } h7

def r9 (s : St) (h : Heap) (Q : St → Heap → Prop) : Prop :=
  Q { s with x_n := (IntKind.wrap .i64 (s.x_n + (1 : Int))) } h

def r10 (s : St) (h : Heap) (Q : Bool → St → Heap → Prop) : Prop :=
  Q (decide (s.x_n > (IntKind.wrap .i64 (((s.x_src.n : Nat) : Int) - s.x_from)))) s h

def r11 (s : St) (h : Heap) (Q : St → Heap → Prop) : Prop :=
  ptrE s.t4 fun a1 =>
  st1 (Addr.add a1 0) (.bool false) h fun h2 =>
  st1 (Addr.add a1 1) (.int .i64 (0 : Int)) h2 fun h3 =>
  st1 (Addr.add a1 2) (.int .i64 (0 : Int)) h3 fun h4 =>
  st1 (Addr.add a1 3) (.int .i64 (0 : Int)) h4 fun h5 =>
  st1 (Addr.add a1 4) (.bool false) h5 fun h6 =>
  st1 (Addr.add a1 5) (.int .i64 (0 : Int)) h6 fun h7 =>
  Q { s with t5 := false } h7

def r12 (s : St) (h : Heap) (Q : St → Heap → Prop) : Prop :=
  ptrE s.t4 fun a1 =>
  st1 (Addr.add a1 0) (.bool true) h fun h2 =>
  st1 (Addr.add a1 1) (.int .i64 s.x_from) h2 fun h3 =>
  st1 (Addr.add a1 2) (.int .i64 (0 : Int)) h3 fun h4 =>
  st1 (Addr.add a1 3) (.int .i64 s.x_n) h4 fun h5 =>
  st1 (Addr.add a1 4) (.bool false) h5 fun h6 =>
  st1 (Addr.add a1 5) (.int .i64 (IntKind.wrap .i64 (s.x_from + s.x_n))) h6 fun h7 =>
  Q { s with t5 := true } h7

def k8 : Stm St := (.seq (.test r10 (.seq (.reg r11) .ret) .skip) (.seq (.reg r12) .ret))
def k7 : Stm St := (.seq (.reg r9) k8)
def k6 : Stm St := (.test r7 (.seq (.reg r8) .ret) .skip)
def k5 : Stm St := (.seq (.reg r6) k6)
def k4 : Stm St := (.seq (.reg r5) k5)
def k3 : Stm St := (.seq (.reg r4) k4)
def k2 : Stm St := (.seq (.test r3 k3 .skip) k7)
def k1 : Stm St := (.seq (.reg r2) k2)
def k0 : Stm St := (.seq (.reg r1) k1)

def stm : Stm St := (.seq (.reg r0) k0)

def ex : Ex → Pt St := fun _ => p0

set_option maxRecDepth 100000 in
theorem sim : Sim Pg 46 p1 (Tryd.f97.body.getD .skip) stm p0 ex :=
  (Sim.seq (Sim.reg (A := p1) (B := p2) (fun _ _ _ => by kernel_rfl))
  (Sim.seq (Sim.reg (A := p2) (B := p3) (fun _ _ _ => by kernel_rfl))
  (Sim.seq (Sim.reg (A := p3) (B := p4) (fun _ _ _ => by kernel_rfl))
  (Sim.seq (Sim.test (A := p4) (B := p4) (fun _ _ _ => by kernel_rfl) (Sim.seq (Sim.reg (A := p4) (B := p5) (fun _ _ _ => by kernel_rfl))
  (Sim.seq (Sim.reg (A := p5) (B := p6) (fun _ _ _ => by kernel_rfl))
  (Sim.seq (Sim.reg (A := p6) (B := p4) (fun _ _ _ => by kernel_rfl))
  (Sim.test (A := p4) (B := p4) (fun _ _ _ => by kernel_rfl) (Sim.seq (Sim.reg (A := p4) (B := p0) (fun _ _ _ => by kernel_rfl))
  (Sim.ret (A := p0) (E := ex) (fun _ => ⟨rfl, rfl, trivial⟩)))
  (Sim.skip (A := p4))))))
  (Sim.skip (A := p4)))
  (Sim.seq (Sim.reg (A := p4) (B := p4) (fun _ _ _ => by kernel_rfl))
  (Sim.seq (Sim.test (A := p4) (B := p7) (fun _ _ _ => by kernel_rfl) (Sim.seq (Sim.reg (A := p7) (B := p0) (fun _ _ _ => by kernel_rfl))
  (Sim.ret (A := p0) (E := ex) (fun _ => ⟨rfl, rfl, trivial⟩)))
  (Sim.skip (A := p7)))
  (Sim.seq (Sim.reg (A := p7) (B := p0) (fun _ _ _ => by kernel_rfl))
  (Sim.ret (A := p0) (E := ex) (fun _ => ⟨rfl, rfl, trivial⟩)))))))))

def init (x_src : Sl) (x_at : Int) : St := { x_src := x_src, x_at := x_at, t4 := none, t5 := false, x_n := 0, x_from := 0, x_bytes := 0 }

/-- What is left of the results. -/
def res (K : Bool → Int → Int → Int → Bool → Int → Bool → Heap → Prop) (s : St) (h1 : Heap) : Prop := ptrE s.t4 fun a1 => ∃ b1 : Bool, hcell h1 (Addr.add a1 0) = some (.bool b1) ∧ ∃ v1 : Int, hcell h1 (Addr.add a1 1) = some (.int .i64 v1) ∧ ∃ v2 : Int, hcell h1 (Addr.add a1 2) = some (.int .i64 v2) ∧ ∃ v3 : Int, hcell h1 (Addr.add a1 3) = some (.int .i64 v3) ∧ ∃ b2 : Bool, hcell h1 (Addr.add a1 4) = some (.bool b2) ∧ ∃ v4 : Int, hcell h1 (Addr.add a1 5) = some (.int .i64 v4) ∧ K b1 v1 v2 v3 b2 v4 s.t5 h1

/-- The call of 'pub-pemmican/spec.readLiteral'. -/
theorem calls (x_src : Sl) (x_at : Int) (h : Heap) (K : Bool → Int → Int → Int → Bool → Int → Bool → Heap → Prop)
    (H : stm (init x_src x_at) h (endK (res K))) : c_spec_readLiteral x_src x_at h K := by
  have hc : CallsH Pg 97 #[(.slice x_src.p x_src.n x_src.c), (.int .i64 x_at)] h fun v h1 => asT v fun l1 => asC l1 fun v1 l2 => asA v1 fun l3 => asC l3 fun v2 l4 => asB v2 fun b1 => asC l4 fun v3 l5 => asI .i64 v3 fun n1 => asC l5 fun v4 l6 => asI .i64 v4 fun n2 => asC l6 fun v5 l7 => asI .i64 v5 fun n3 => asC l7 fun v6 l8 => asB v6 fun b2 => asC l8 fun v7 l9 => asI .i64 v7 fun n4 => asN l9 (asC l2 fun v8 l10 => asB v8 fun b3 => asN l10 (K b1 n1 n2 n3 b2 n4 b3 h1)) :=
    callsH_of_sim (R := p0) (fn := Tryd.f97) (c := Tryd.f97.body.getD .skip) Tryd.func97 rfl Tryd.ntmps97 Tryd.call97 sim (init x_src x_at) (⟨rfl, rfl, trivial⟩) (Nat.le_of_ble_eq_true rfl) (fun _ => ⟨rfl, rfl, trivial⟩) rfl
      (res K) (fun _ _ => by kernel_rfl) H
  refine hc.mono ?_
  intro v hp H
  obtain ⟨l1, rfl, h1⟩ := asT_elim H
  obtain ⟨v1, l2, rfl, h2⟩ := asC_elim h1
  obtain ⟨l3, rfl, h3⟩ := asA_elim h2
  obtain ⟨v2, l4, rfl, h4⟩ := asC_elim h3
  obtain ⟨b1, rfl, h5⟩ := asB_elim h4
  obtain ⟨v3, l5, rfl, h6⟩ := asC_elim h5
  obtain ⟨n1, rfl, h7⟩ := asI_elim h6
  obtain ⟨v4, l6, rfl, h8⟩ := asC_elim h7
  obtain ⟨n2, rfl, h9⟩ := asI_elim h8
  obtain ⟨v5, l7, rfl, h10⟩ := asC_elim h9
  obtain ⟨n3, rfl, h11⟩ := asI_elim h10
  obtain ⟨v6, l8, rfl, h12⟩ := asC_elim h11
  obtain ⟨b2, rfl, h13⟩ := asB_elim h12
  obtain ⟨v7, l9, rfl, h14⟩ := asC_elim h13
  obtain ⟨n4, rfl, h15⟩ := asI_elim h14
  obtain ⟨rfl, h16⟩ := asN_elim h15
  obtain ⟨v8, l10, rfl, h17⟩ := asC_elim h16
  obtain ⟨b3, rfl, h18⟩ := asB_elim h17
  obtain ⟨rfl, h19⟩ := asN_elim h18
  exact ⟨_, _, _, _, _, _, _, rfl, h19⟩

end M_spec_readLiteral

end Go.Proofs.YtibleenkgmkpmaaDoor

namespace Go.Proofs.YtibleenkgmkpmaaDoor
open Go Go.Vc Go.Proofs

namespace M_spec_readElement

structure St where
  x_src : Sl
  x_at : Int
  x_s2 : Bool
  t6 : Option Addr
  t7 : Bool
  x_tag : Int
  x_low : Int
  x_e : Option Addr
  x_bytes : Int
  x_more : Int
  x_eq13 : Option Addr
  x_eq14 : Option Addr
  t21 : Int

def p0 : Pt St where
  env s := [(6, (.pointer s.t6)), (7, (.bool s.t7))]
  fin e s K := vP e 6 fun p1 => vB e 7 fun b1 => K { s with t6 := p1, t7 := b1 }
  ok := by
    intro e s K h0
    obtain ⟨p1, g1, h2⟩ := gP h0
    obtain ⟨b1, g2, h4⟩ := gB h2
    exact ⟨_, ⟨g1, g2, trivial⟩, h4⟩

def p1 : Pt St where
  env s := [(0, (.slice s.x_src.p s.x_src.n s.x_src.c)), (1, (.int .i64 s.x_at)), (2, (.bool s.x_s2))]
  fin e s K := vS e 0 fun p1 n1 c1 => vI e 1 .i64 fun n2 => vB e 2 fun b1 => K { s with x_src := ⟨p1, n1, c1⟩, x_at := n2, x_s2 := b1 }
  ok := by
    intro e s K h0
    obtain ⟨p1, n1, c1, g1, h2⟩ := gS h0
    obtain ⟨n2, g2, h4⟩ := gI h2
    obtain ⟨b1, g3, h6⟩ := gB h4
    exact ⟨_, ⟨g1, g2, g3, trivial⟩, h6⟩

def p2 : Pt St where
  env s := [(0, (.slice s.x_src.p s.x_src.n s.x_src.c)), (1, (.int .i64 s.x_at)), (2, (.bool s.x_s2)), (6, (.pointer s.t6))]
  fin e s K := vS e 0 fun p1 n1 c1 => vI e 1 .i64 fun n2 => vB e 2 fun b1 => vP e 6 fun p2 => K { s with x_src := ⟨p1, n1, c1⟩, x_at := n2, x_s2 := b1, t6 := p2 }
  ok := by
    intro e s K h0
    obtain ⟨p1, n1, c1, g1, h2⟩ := gS h0
    obtain ⟨n2, g2, h4⟩ := gI h2
    obtain ⟨b1, g3, h6⟩ := gB h4
    obtain ⟨p2, g4, h8⟩ := gP h6
    exact ⟨_, ⟨g1, g2, g3, g4, trivial⟩, h8⟩

def p3 : Pt St where
  env s := [(0, (.slice s.x_src.p s.x_src.n s.x_src.c)), (1, (.int .i64 s.x_at)), (2, (.bool s.x_s2)), (6, (.pointer s.t6)), (8, (.int .i64 s.x_tag))]
  fin e s K := vS e 0 fun p1 n1 c1 => vI e 1 .i64 fun n2 => vB e 2 fun b1 => vP e 6 fun p2 => vI e 8 .i64 fun n3 => K { s with x_src := ⟨p1, n1, c1⟩, x_at := n2, x_s2 := b1, t6 := p2, x_tag := n3 }
  ok := by
    intro e s K h0
    obtain ⟨p1, n1, c1, g1, h2⟩ := gS h0
    obtain ⟨n2, g2, h4⟩ := gI h2
    obtain ⟨b1, g3, h6⟩ := gB h4
    obtain ⟨p2, g4, h8⟩ := gP h6
    obtain ⟨n3, g5, h10⟩ := gI h8
    exact ⟨_, ⟨g1, g2, g3, g4, g5, trivial⟩, h10⟩

def p4 : Pt St where
  env s := [(0, (.slice s.x_src.p s.x_src.n s.x_src.c)), (1, (.int .i64 s.x_at)), (2, (.bool s.x_s2)), (6, (.pointer s.t6)), (8, (.int .i64 s.x_tag)), (21, (.int .i64 s.t21))]
  fin e s K := vS e 0 fun p1 n1 c1 => vI e 1 .i64 fun n2 => vB e 2 fun b1 => vP e 6 fun p2 => vI e 8 .i64 fun n3 => vI e 21 .i64 fun n4 => K { s with x_src := ⟨p1, n1, c1⟩, x_at := n2, x_s2 := b1, t6 := p2, x_tag := n3, t21 := n4 }
  ok := by
    intro e s K h0
    obtain ⟨p1, n1, c1, g1, h2⟩ := gS h0
    obtain ⟨n2, g2, h4⟩ := gI h2
    obtain ⟨b1, g3, h6⟩ := gB h4
    obtain ⟨p2, g4, h8⟩ := gP h6
    obtain ⟨n3, g5, h10⟩ := gI h8
    obtain ⟨n4, g6, h12⟩ := gI h10
    exact ⟨_, ⟨g1, g2, g3, g4, g5, g6, trivial⟩, h12⟩

def p5 : Pt St where
  env s := [(0, (.slice s.x_src.p s.x_src.n s.x_src.c)), (1, (.int .i64 s.x_at)), (6, (.pointer s.t6)), (8, (.int .i64 s.x_tag))]
  fin e s K := vS e 0 fun p1 n1 c1 => vI e 1 .i64 fun n2 => vP e 6 fun p2 => vI e 8 .i64 fun n3 => K { s with x_src := ⟨p1, n1, c1⟩, x_at := n2, t6 := p2, x_tag := n3 }
  ok := by
    intro e s K h0
    obtain ⟨p1, n1, c1, g1, h2⟩ := gS h0
    obtain ⟨n2, g2, h4⟩ := gI h2
    obtain ⟨p2, g3, h6⟩ := gP h4
    obtain ⟨n3, g4, h8⟩ := gI h6
    exact ⟨_, ⟨g1, g2, g3, g4, trivial⟩, h8⟩

def p6 : Pt St where
  env s := [(0, (.slice s.x_src.p s.x_src.n s.x_src.c)), (1, (.int .i64 s.x_at)), (2, (.bool s.x_s2)), (6, (.pointer s.t6)), (8, (.int .i64 s.x_tag)), (9, (.int .i64 s.x_low))]
  fin e s K := vS e 0 fun p1 n1 c1 => vI e 1 .i64 fun n2 => vB e 2 fun b1 => vP e 6 fun p2 => vI e 8 .i64 fun n3 => vI e 9 .i64 fun n4 => K { s with x_src := ⟨p1, n1, c1⟩, x_at := n2, x_s2 := b1, t6 := p2, x_tag := n3, x_low := n4 }
  ok := by
    intro e s K h0
    obtain ⟨p1, n1, c1, g1, h2⟩ := gS h0
    obtain ⟨n2, g2, h4⟩ := gI h2
    obtain ⟨b1, g3, h6⟩ := gB h4
    obtain ⟨p2, g4, h8⟩ := gP h6
    obtain ⟨n3, g5, h10⟩ := gI h8
    obtain ⟨n4, g6, h12⟩ := gI h10
    exact ⟨_, ⟨g1, g2, g3, g4, g5, g6, trivial⟩, h12⟩

def p7 : Pt St where
  env s := [(0, (.slice s.x_src.p s.x_src.n s.x_src.c)), (2, (.bool s.x_s2)), (6, (.pointer s.t6)), (8, (.int .i64 s.x_tag)), (9, (.int .i64 s.x_low)), (10, (.pointer s.x_e))]
  fin e s K := vS e 0 fun p1 n1 c1 => vB e 2 fun b1 => vP e 6 fun p2 => vI e 8 .i64 fun n2 => vI e 9 .i64 fun n3 => vP e 10 fun p3 => K { s with x_src := ⟨p1, n1, c1⟩, x_s2 := b1, t6 := p2, x_tag := n2, x_low := n3, x_e := p3 }
  ok := by
    intro e s K h0
    obtain ⟨p1, n1, c1, g1, h2⟩ := gS h0
    obtain ⟨b1, g2, h4⟩ := gB h2
    obtain ⟨p2, g3, h6⟩ := gP h4
    obtain ⟨n2, g4, h8⟩ := gI h6
    obtain ⟨n3, g5, h10⟩ := gI h8
    obtain ⟨p3, g6, h12⟩ := gP h10
    exact ⟨_, ⟨g1, g2, g3, g4, g5, g6, trivial⟩, h12⟩

def p8 : Pt St where
  env s := [(0, (.slice s.x_src.p s.x_src.n s.x_src.c)), (2, (.bool s.x_s2)), (6, (.pointer s.t6)), (8, (.int .i64 s.x_tag)), (10, (.pointer s.x_e))]
  fin e s K := vS e 0 fun p1 n1 c1 => vB e 2 fun b1 => vP e 6 fun p2 => vI e 8 .i64 fun n2 => vP e 10 fun p3 => K { s with x_src := ⟨p1, n1, c1⟩, x_s2 := b1, t6 := p2, x_tag := n2, x_e := p3 }
  ok := by
    intro e s K h0
    obtain ⟨p1, n1, c1, g1, h2⟩ := gS h0
    obtain ⟨b1, g2, h4⟩ := gB h2
    obtain ⟨p2, g3, h6⟩ := gP h4
    obtain ⟨n2, g4, h8⟩ := gI h6
    obtain ⟨p3, g5, h10⟩ := gP h8
    exact ⟨_, ⟨g1, g2, g3, g4, g5, trivial⟩, h10⟩

def p9 : Pt St where
  env s := [(0, (.slice s.x_src.p s.x_src.n s.x_src.c)), (6, (.pointer s.t6)), (8, (.int .i64 s.x_tag)), (10, (.pointer s.x_e))]
  fin e s K := vS e 0 fun p1 n1 c1 => vP e 6 fun p2 => vI e 8 .i64 fun n2 => vP e 10 fun p3 => K { s with x_src := ⟨p1, n1, c1⟩, t6 := p2, x_tag := n2, x_e := p3 }
  ok := by
    intro e s K h0
    obtain ⟨p1, n1, c1, g1, h2⟩ := gS h0
    obtain ⟨p2, g2, h4⟩ := gP h2
    obtain ⟨n2, g3, h6⟩ := gI h4
    obtain ⟨p3, g4, h8⟩ := gP h6
    exact ⟨_, ⟨g1, g2, g3, g4, trivial⟩, h8⟩

def p10 : Pt St where
  env s := [(0, (.slice s.x_src.p s.x_src.n s.x_src.c)), (6, (.pointer s.t6)), (10, (.pointer s.x_e)), (11, (.int .i64 s.x_bytes))]
  fin e s K := vS e 0 fun p1 n1 c1 => vP e 6 fun p2 => vP e 10 fun p3 => vI e 11 .i64 fun n2 => K { s with x_src := ⟨p1, n1, c1⟩, t6 := p2, x_e := p3, x_bytes := n2 }
  ok := by
    intro e s K h0
    obtain ⟨p1, n1, c1, g1, h2⟩ := gS h0
    obtain ⟨p2, g2, h4⟩ := gP h2
    obtain ⟨p3, g3, h6⟩ := gP h4
    obtain ⟨n2, g4, h8⟩ := gI h6
    exact ⟨_, ⟨g1, g2, g3, g4, trivial⟩, h8⟩

def p11 : Pt St where
  env s := [(6, (.pointer s.t6)), (10, (.pointer s.x_e)), (11, (.int .i64 s.x_bytes)), (12, (.int .i64 s.x_more))]
  fin e s K := vP e 6 fun p1 => vP e 10 fun p2 => vI e 11 .i64 fun n1 => vI e 12 .i64 fun n2 => K { s with t6 := p1, x_e := p2, x_bytes := n1, x_more := n2 }
  ok := by
    intro e s K h0
    obtain ⟨p1, g1, h2⟩ := gP h0
    obtain ⟨p2, g2, h4⟩ := gP h2
    obtain ⟨n1, g3, h6⟩ := gI h4
    obtain ⟨n2, g4, h8⟩ := gI h6
    exact ⟨_, ⟨g1, g2, g3, g4, trivial⟩, h8⟩

def p12 : Pt St where
  env s := [(6, (.pointer s.t6)), (10, (.pointer s.x_e)), (11, (.int .i64 s.x_bytes))]
  fin e s K := vP e 6 fun p1 => vP e 10 fun p2 => vI e 11 .i64 fun n1 => K { s with t6 := p1, x_e := p2, x_bytes := n1 }
  ok := by
    intro e s K h0
    obtain ⟨p1, g1, h2⟩ := gP h0
    obtain ⟨p2, g2, h4⟩ := gP h2
    obtain ⟨n1, g3, h6⟩ := gI h4
    exact ⟨_, ⟨g1, g2, g3, trivial⟩, h6⟩

def p13 : Pt St where
  env s := [(6, (.pointer s.t6)), (10, (.pointer s.x_e))]
  fin e s K := vP e 6 fun p1 => vP e 10 fun p2 => K { s with t6 := p1, x_e := p2 }
  ok := by
    intro e s K h0
    obtain ⟨p1, g1, h2⟩ := gP h0
    obtain ⟨p2, g2, h4⟩ := gP h2
    exact ⟨_, ⟨g1, g2, trivial⟩, h4⟩

def p14 : Pt St where
  env s := [(6, (.pointer s.t6)), (13, (.pointer s.x_eq13))]
  fin e s K := vP e 6 fun p1 => vP e 13 fun p2 => K { s with t6 := p1, x_eq13 := p2 }
  ok := by
    intro e s K h0
    obtain ⟨p1, g1, h2⟩ := gP h0
    obtain ⟨p2, g2, h4⟩ := gP h2
    exact ⟨_, ⟨g1, g2, trivial⟩, h4⟩

def p15 : Pt St where
  env s := [(6, (.pointer s.t6)), (14, (.pointer s.x_eq14))]
  fin e s K := vP e 6 fun p1 => vP e 14 fun p2 => K { s with t6 := p1, x_eq14 := p2 }
  ok := by
    intro e s K h0
    obtain ⟨p1, g1, h2⟩ := gP h0
    obtain ⟨p2, g2, h4⟩ := gP h2
    exact ⟨_, ⟨g1, g2, trivial⟩, h4⟩

def r0 (s : St) (h : Heap) (Q : St → Heap → Prop) : Prop :=
  withH (hnew h (zcells Pg 113) 113) fun h1 =>
  Q { s with t6 := (some ⟨Array.size h, 0, none⟩) } h1

def r1 (s : St) (h : Heap) (Q : St → Heap → Prop) : Prop :=
  0 ≤ s.x_at ∧ s.x_at < ((s.x_src.n : Nat) : Int) ∧
  ptrE s.x_src.p fun a1 =>
  ∃ v2 : Int, hcell h (Addr.add a1 (Int.toNat s.x_at * 1)) = some (.int .u8 v2) ∧
  Q { s with x_tag := (IntKind.wrap .i64 v2) } h

def r2 (s : St) (h : Heap) (Q : St → Heap → Prop) : Prop :=
  Q { s with t21 := (bAnd .i64 s.x_tag (3 : Int)) } h

def r3 (s : St) (h : Heap) (Q : Bool → St → Heap → Prop) : Prop :=
  Q (s.t21 == (0 : Int)) s h

def r4 (s : St) (h : Heap) (Q : St → Heap → Prop) : Prop :=
  c_spec_readLiteral s.x_src s.x_at h fun b2 r3 r4 r5 b6 r7 b8 h1 =>
  ptrE s.t6 fun a9 =>
  st1 (Addr.add a9 0) (.bool b2) h1 fun h10 =>
  st1 (Addr.add a9 1) (.int .i64 r3) h10 fun h11 =>
  st1 (Addr.add a9 2) (.int .i64 r4) h11 fun h12 =>
  st1 (Addr.add a9 3) (.int .i64 r5) h12 fun h13 =>
  st1 (Addr.add a9 4) (.bool b6) h13 fun h14 =>
  st1 (Addr.add a9 5) (.int .i64 r7) h14 fun h15 =>
  Q { s with t7 := b8 } h15

def r5 (s : St) (h : Heap) (Q : Bool → St → Heap → Prop) : Prop :=
  Q (s.t21 == (1 : Int)) s h

def r6 (s : St) (h : Heap) (Q : St → Heap → Prop) : Prop :=
  c_spec_little s.x_src (IntKind.wrap .i64 (s.x_at + (1 : Int))) (1 : Int) h fun r2 h1 =>
  Q { s with x_low := r2 } h1

def r7 (s : St) (h : Heap) (Q : St → Heap → Prop) : Prop :=
  withH (hnew h (zcells Pg 113) 113) fun h1 =>
  st1 (Addr.add ⟨Array.size h, 0, none⟩ 0) (.bool false) h1 fun h2 =>
  st1 (Addr.add ⟨Array.size h, 0, none⟩ 1) (.int .i64 (0 : Int)) h2 fun h3 =>
  st1 (Addr.add ⟨Array.size h, 0, none⟩ 2) (.int .i64 (IntKind.wrap .i64 ((IntKind.wrap .i64 ((Int.fdiv s.x_tag (2 ^ (5 : Nat))) * 2 ^ (8 : Nat))) + s.x_low))) h3 fun h4 =>
  st1 (Addr.add ⟨Array.size h, 0, none⟩ 3) (.int .i64 (IntKind.wrap .i64 ((bAnd .i64 (Int.fdiv s.x_tag (2 ^ (2 : Nat))) (7 : Int)) + (4 : Int)))) h4 fun h5 =>
  st1 (Addr.add ⟨Array.size h, 0, none⟩ 4) (.bool false) h5 fun h6 =>
  st1 (Addr.add ⟨Array.size h, 0, none⟩ 5) (.int .i64 (IntKind.wrap .i64 (s.x_at + (2 : Int)))) h6 fun h7 =>
  Q { s with x_e := (some ⟨Array.size h, 0, none⟩) } h7

def r8 (s : St) (h : Heap) (Q : Bool → St → Heap → Prop) : Prop :=
  Q (decide (s.x_low < (0 : Int))) s h

def r9 (s : St) (h : Heap) (Q : St → Heap → Prop) : Prop :=
  ptrE s.t6 fun a1 =>
  st1 (Addr.add a1 0) (.bool false) h fun h2 =>
  st1 (Addr.add a1 1) (.int .i64 (0 : Int)) h2 fun h3 =>
  st1 (Addr.add a1 2) (.int .i64 (0 : Int)) h3 fun h4 =>
  st1 (Addr.add a1 3) (.int .i64 (0 : Int)) h4 fun h5 =>
  st1 (Addr.add a1 4) (.bool false) h5 fun h6 =>
  st1 (Addr.add a1 5) (.int .i64 (0 : Int)) h6 fun h7 =>
  Q { s with t7 := false } h7

def r10 (s : St) (h : Heap) (Q : Bool → St → Heap → Prop) : Prop :=
  ptrE s.x_e fun a1 =>
  ∃ v2 : Int, hcell h (Addr.add a1 2) = some (.int .i64 v2) ∧
  (if (decide (v2 > (0 : Int))) = false then
  (Q (!s.x_s2) s h)
  else
  (Q true s h))

def r11 (s : St) (h : Heap) (Q : St → Heap → Prop) : Prop :=
  ptrE s.x_e fun a1 =>
  ∃ b2 : Bool, hcell h (Addr.add a1 0) = some (.bool b2) ∧
  ∃ v3 : Int, hcell h (Addr.add a1 1) = some (.int .i64 v3) ∧
  ∃ v4 : Int, hcell h (Addr.add a1 2) = some (.int .i64 v4) ∧
  ∃ v5 : Int, hcell h (Addr.add a1 3) = some (.int .i64 v5) ∧
  ∃ b6 : Bool, hcell h (Addr.add a1 4) = some (.bool b6) ∧
  ∃ v7 : Int, hcell h (Addr.add a1 5) = some (.int .i64 v7) ∧
  ptrE s.t6 fun a8 =>
  st1 (Addr.add a8 0) (.bool b2) h fun h9 =>
  st1 (Addr.add a8 1) (.int .i64 v3) h9 fun h10 =>
  st1 (Addr.add a8 2) (.int .i64 v4) h10 fun h11 =>
  st1 (Addr.add a8 3) (.int .i64 v5) h11 fun h12 =>
  st1 (Addr.add a8 4) (.bool b6) h12 fun h13 =>
  st1 (Addr.add a8 5) (.int .i64 v7) h13 fun h14 =>
  Q { s with t7 := true } h14

def r12 (s : St) (h : Heap) (Q : St → Heap → Prop) : Prop :=
  ptrE s.x_e fun a1 =>
  st1 (Addr.add (Addr.add a1 4) 0) (.bool true) h fun h2 =>
  Q s h2

def r13 (s : St) (h : Heap) (Q : St → Heap → Prop) : Prop :=
  Q { s with x_bytes := (IntKind.wrap .i64 ((bAnd .i64 (Int.fdiv s.x_tag (2 ^ (2 : Nat))) (7 : Int)) - (4 : Int))) } h

def r14 (s : St) (h : Heap) (Q : Bool → St → Heap → Prop) : Prop :=
  Q (decide (s.x_bytes ≤ (0 : Int))) s h

def r15 (s : St) (h : Heap) (Q : St → Heap → Prop) : Prop :=
  ptrE s.x_e fun a1 =>
  ∃ b2 : Bool, hcell h (Addr.add a1 0) = some (.bool b2) ∧
  ∃ v3 : Int, hcell h (Addr.add a1 1) = some (.int .i64 v3) ∧
  ∃ v4 : Int, hcell h (Addr.add a1 2) = some (.int .i64 v4) ∧
  ∃ v5 : Int, hcell h (Addr.add a1 3) = some (.int .i64 v5) ∧
  ∃ b6 : Bool, hcell h (Addr.add a1 4) = some (.bool b6) ∧
  ∃ v7 : Int, hcell h (Addr.add a1 5) = some (.int .i64 v7) ∧
  ptrE s.t6 fun a8 =>
  st1 (Addr.add a8 0) (.bool b2) h fun h9 =>
  st1 (Addr.add a8 1) (.int .i64 v3) h9 fun h10 =>
  st1 (Addr.add a8 2) (.int .i64 v4) h10 fun h11 =>
  st1 (Addr.add a8 3) (.int .i64 v5) h11 fun h12 =>
  st1 (Addr.add a8 4) (.bool b6) h12 fun h13 =>
  st1 (Addr.add a8 5) (.int .i64 v7) h13 fun h14 =>
  Q { s with t7 := true } h14

def r16 (s : St) (h : Heap) (Q : St → Heap → Prop) : Prop :=
  ptrE s.x_e fun a1 =>
  ∃ v2 : Int, hcell h (Addr.add a1 5) = some (.int .i64 v2) ∧
  c_spec_little s.x_src v2 s.x_bytes h fun r4 h3 =>
  Q { s with x_more := r4 } h3

def r17 (s : St) (h : Heap) (Q : Bool → St → Heap → Prop) : Prop :=
  Q (decide (s.x_more < (0 : Int))) s h

def r18 (s : St) (h : Heap) (Q : St → Heap → Prop) : Prop :=
  ptrE s.t6 fun a1 =>
  st1 (Addr.add a1 0) (.bool false) h fun h2 =>
  st1 (Addr.add a1 1) (.int .i64 (0 : Int)) h2 fun h3 =>
  st1 (Addr.add a1 2) (.int .i64 (0 : Int)) h3 fun h4 =>
  st1 (Addr.add a1 3) (.int .i64 (0 : Int)) h4 fun h5 =>
  st1 (Addr.add a1 4) (.bool false) h5 fun h6 =>
  st1 (Addr.add a1 5) (.int .i64 (0 : Int)) h6 fun h7 =>
  Q { s with t7 := false } h7

def r19 (s : St) (h : Heap) (Q : St → Heap → Prop) : Prop :=
  withH (hnew h [(.int .i64 (0 : Int)), (.int .i64 (8 : Int)), (.int .i64 (260 : Int)), (.int .i64 (65540 : Int))] 3) fun h1 =>
  0 ≤ s.x_bytes ∧ s.x_bytes < ((4 : Nat) : Int) ∧
  ∃ v2 : Int, hcell h1 (Addr.add ⟨Array.size h, 0, none⟩ (Int.toNat s.x_bytes * 1)) = some (.int .i64 v2) ∧
  ptrE s.x_e fun a3 =>
  st1 (Addr.add (Addr.add a3 3) 0) (.int .i64 (IntKind.wrap .i64 (s.x_more + v2))) h1 fun h4 =>
  Q s h4

def r20 (s : St) (h : Heap) (Q : St → Heap → Prop) : Prop :=
  ptrE s.x_e fun a1 =>
  ∃ v2 : Int, hcell h (Addr.add a1 5) = some (.int .i64 v2) ∧
  ptrE s.x_e fun a3 =>
  st1 (Addr.add (Addr.add a3 5) 0) (.int .i64 (IntKind.wrap .i64 (v2 + s.x_bytes))) h fun h4 =>
  Q s h4

def r21 (s : St) (h : Heap) (Q : St → Heap → Prop) : Prop :=
  ptrE s.x_e fun a1 =>
  ∃ b2 : Bool, hcell h (Addr.add a1 0) = some (.bool b2) ∧
  ∃ v3 : Int, hcell h (Addr.add a1 1) = some (.int .i64 v3) ∧
  ∃ v4 : Int, hcell h (Addr.add a1 2) = some (.int .i64 v4) ∧
  ∃ v5 : Int, hcell h (Addr.add a1 3) = some (.int .i64 v5) ∧
  ∃ b6 : Bool, hcell h (Addr.add a1 4) = some (.bool b6) ∧
  ∃ v7 : Int, hcell h (Addr.add a1 5) = some (.int .i64 v7) ∧
  ptrE s.t6 fun a8 =>
  st1 (Addr.add a8 0) (.bool b2) h fun h9 =>
  st1 (Addr.add a8 1) (.int .i64 v3) h9 fun h10 =>
  st1 (Addr.add a8 2) (.int .i64 v4) h10 fun h11 =>
  st1 (Addr.add a8 3) (.int .i64 v5) h11 fun h12 =>
  st1 (Addr.add a8 4) (.bool b6) h12 fun h13 =>
  st1 (Addr.add a8 5) (.int .i64 v7) h13 fun h14 =>
  Q { s with t7 := true } h14

def r22 (s : St) (h : Heap) (Q : Bool → St → Heap → Prop) : Prop :=
  Q (s.t21 == (2 : Int)) s h

def r23 (s : St) (h : Heap) (Q : St → Heap → Prop) : Prop :=
  c_spec_little s.x_src (IntKind.wrap .i64 (s.x_at + (1 : Int))) (2 : Int) h fun r2 h1 =>
  withH (hnew h1 (zcells Pg 113) 113) fun h3 =>
  st1 (Addr.add ⟨Array.size h1, 0, none⟩ 0) (.bool false) h3 fun h4 =>
  st1 (Addr.add ⟨Array.size h1, 0, none⟩ 1) (.int .i64 (0 : Int)) h4 fun h5 =>
  st1 (Addr.add ⟨Array.size h1, 0, none⟩ 2) (.int .i64 r2) h5 fun h6 =>
  st1 (Addr.add ⟨Array.size h1, 0, none⟩ 3) (.int .i64 (IntKind.wrap .i64 ((Int.fdiv s.x_tag (2 ^ (2 : Nat))) + (1 : Int)))) h6 fun h7 =>
  st1 (Addr.add ⟨Array.size h1, 0, none⟩ 4) (.bool false) h7 fun h8 =>
  st1 (Addr.add ⟨Array.size h1, 0, none⟩ 5) (.int .i64 (IntKind.wrap .i64 (s.x_at + (3 : Int)))) h8 fun h9 =>
  Q { s with x_eq13 := (some ⟨Array.size h1, 0, none⟩) } h9

def r24 (s : St) (h : Heap) (Q : St → Heap → Prop) : Prop :=
  ptrE s.x_eq13 fun a1 =>
  ∃ b2 : Bool, hcell h (Addr.add a1 0) = some (.bool b2) ∧
  ∃ v3 : Int, hcell h (Addr.add a1 1) = some (.int .i64 v3) ∧
  ∃ v4 : Int, hcell h (Addr.add a1 2) = some (.int .i64 v4) ∧
  ∃ v5 : Int, hcell h (Addr.add a1 3) = some (.int .i64 v5) ∧
  ∃ b6 : Bool, hcell h (Addr.add a1 4) = some (.bool b6) ∧
  ∃ v7 : Int, hcell h (Addr.add a1 5) = some (.int .i64 v7) ∧
  ptrE s.x_eq13 fun a8 =>
  (∃ v9 : Int, hcell h (Addr.add a8 2) = some (.int .i64 v9) ∧
  ptrE s.t6 fun a10 =>
  st1 (Addr.add a10 0) (.bool b2) h fun h11 =>
  st1 (Addr.add a10 1) (.int .i64 v3) h11 fun h12 =>
  st1 (Addr.add a10 2) (.int .i64 v4) h12 fun h13 =>
  st1 (Addr.add a10 3) (.int .i64 v5) h13 fun h14 =>
  st1 (Addr.add a10 4) (.bool b6) h14 fun h15 =>
  st1 (Addr.add a10 5) (.int .i64 v7) h15 fun h16 =>
  Q { s with t7 := (decide (v9 ≥ (0 : Int))) } h16) ∧
  (ptrE s.t6 fun a17 =>
  st1 (Addr.add a17 0) (.bool b2) h fun h18 =>
  st1 (Addr.add a17 1) (.int .i64 v3) h18 fun h19 =>
  st1 (Addr.add a17 2) (.int .i64 v4) h19 fun h20 =>
  st1 (Addr.add a17 3) (.int .i64 v5) h20 fun h21 =>
  st1 (Addr.add a17 4) (.bool b6) h21 fun h22 =>
  st1 (Addr.add a17 5) (.int .i64 v7) h22 fun h23 =>
  ∃ v24 : Int, hcell h23 (Addr.add a8 2) = some (.int .i64 v24) ∧
  Q { s with t7 := (decide (v24 ≥ (0 : Int))) } h23)

def r25 (s : St) (h : Heap) (Q : St → Heap → Prop) : Prop :=
  c_spec_little s.x_src (IntKind.wrap .i64 (s.x_at + (1 : Int))) (4 : Int) h fun r2 h1 =>
  withH (hnew h1 (zcells Pg 113) 113) fun h3 =>
  st1 (Addr.add ⟨Array.size h1, 0, none⟩ 0) (.bool false) h3 fun h4 =>
  st1 (Addr.add ⟨Array.size h1, 0, none⟩ 1) (.int .i64 (0 : Int)) h4 fun h5 =>
  st1 (Addr.add ⟨Array.size h1, 0, none⟩ 2) (.int .i64 r2) h5 fun h6 =>
  st1 (Addr.add ⟨Array.size h1, 0, none⟩ 3) (.int .i64 (IntKind.wrap .i64 ((Int.fdiv s.x_tag (2 ^ (2 : Nat))) + (1 : Int)))) h6 fun h7 =>
  st1 (Addr.add ⟨Array.size h1, 0, none⟩ 4) (.bool false) h7 fun h8 =>
  st1 (Addr.add ⟨Array.size h1, 0, none⟩ 5) (.int .i64 (IntKind.wrap .i64 (s.x_at + (5 : Int)))) h8 fun h9 =>
  Q { s with x_eq14 := (some ⟨Array.size h1, 0, none⟩) } h9

def r26 (s : St) (h : Heap) (Q : St → Heap → Prop) : Prop :=
  ptrE s.x_eq14 fun a1 =>
  ∃ b2 : Bool, hcell h (Addr.add a1 0) = some (.bool b2) ∧
  ∃ v3 : Int, hcell h (Addr.add a1 1) = some (.int .i64 v3) ∧
  ∃ v4 : Int, hcell h (Addr.add a1 2) = some (.int .i64 v4) ∧
  ∃ v5 : Int, hcell h (Addr.add a1 3) = some (.int .i64 v5) ∧
  ∃ b6 : Bool, hcell h (Addr.add a1 4) = some (.bool b6) ∧
  ∃ v7 : Int, hcell h (Addr.add a1 5) = some (.int .i64 v7) ∧
  ptrE s.x_eq14 fun a8 =>
  (∃ v9 : Int, hcell h (Addr.add a8 2) = some (.int .i64 v9) ∧
  ptrE s.t6 fun a10 =>
  st1 (Addr.add a10 0) (.bool b2) h fun h11 =>
  st1 (Addr.add a10 1) (.int .i64 v3) h11 fun h12 =>
  st1 (Addr.add a10 2) (.int .i64 v4) h12 fun h13 =>
  st1 (Addr.add a10 3) (.int .i64 v5) h13 fun h14 =>
  st1 (Addr.add a10 4) (.bool b6) h14 fun h15 =>
  st1 (Addr.add a10 5) (.int .i64 v7) h15 fun h16 =>
  Q { s with t7 := (decide (v9 ≥ (0 : Int))) } h16) ∧
  (ptrE s.t6 fun a17 =>
  st1 (Addr.add a17 0) (.bool b2) h fun h18 =>
  st1 (Addr.add a17 1) (.int .i64 v3) h18 fun h19 =>
  st1 (Addr.add a17 2) (.int .i64 v4) h19 fun h20 =>
  st1 (Addr.add a17 3) (.int .i64 v5) h20 fun h21 =>
  st1 (Addr.add a17 4) (.bool b6) h21 fun h22 =>
  st1 (Addr.add a17 5) (.int .i64 v7) h22 fun h23 =>
  ∃ v24 : Int, hcell h23 (Addr.add a8 2) = some (.int .i64 v24) ∧
  Q { s with t7 := (decide (v24 ≥ (0 : Int))) } h23)

def k17 : Stm St := (.seq (.reg r25) (.seq (.reg r26) .ret))
def k16 : Stm St := (.seq (.reg r23) (.seq (.reg r24) .ret))
def k15 : Stm St := (.test r22 k16 .skip)
def k14 : Stm St := (.seq (.reg r20) (.seq (.reg r21) .ret))
def k13 : Stm St := (.seq (.reg r19) k14)
def k12 : Stm St := (.seq (.test r17 (.seq (.reg r18) .ret) .skip) k13)
def k11 : Stm St := (.seq (.reg r16) k12)
def k10 : Stm St := (.seq (.test r14 (.seq (.reg r15) .ret) .skip) k11)
def k9 : Stm St := (.seq (.reg r13) k10)
def k8 : Stm St := (.seq (.reg r12) k9)
def k7 : Stm St := (.seq (.test r10 (.seq (.reg r11) .ret) .skip) k8)
def k6 : Stm St := (.seq (.test r8 (.seq (.reg r9) .ret) .skip) k7)
def k5 : Stm St := (.seq (.reg r7) k6)
def k4 : Stm St := (.seq (.reg r6) k5)
def k3 : Stm St := (.test r5 k4 k15)
def k2 : Stm St := (.block 0 (.test r3 (.seq (.reg r4) .ret) k3))
def k1 : Stm St := (.seq (.seq (.reg r2) k2) k17)
def k0 : Stm St := (.seq (.reg r1) k1)

def stm : Stm St := (.seq (.reg r0) k0)

def ex : Ex → Pt St := fun _ => p0

set_option maxRecDepth 100000 in
theorem sim : Sim Pg 117 p1 (Tryd.f80.body.getD .skip) stm p0 ex :=
  (Sim.seq (Sim.reg (A := p1) (B := p2) (fun _ _ _ => by kernel_rfl))
  (Sim.seq (Sim.reg (A := p2) (B := p3) (fun _ _ _ => by kernel_rfl))
  (Sim.seq (Sim.seq (Sim.reg (A := p3) (B := p4) (fun _ _ _ => by kernel_rfl))
  (Sim.block (B := p5) (Sim.test (A := p4) (B := p4) (fun _ _ _ => by kernel_rfl) (Sim.seq (Sim.reg (A := p4) (B := p0) (fun _ _ _ => by kernel_rfl))
  (Sim.ret (A := p0) (E := (exAt ex 0 p5)) (fun _ => ⟨rfl, rfl, trivial⟩)))
  (Sim.test (A := p4) (B := p4) (fun _ _ _ => by kernel_rfl) (Sim.seq (Sim.reg (A := p4) (B := p6) (fun _ _ _ => by kernel_rfl))
  (Sim.seq (Sim.reg (A := p6) (B := p7) (fun _ _ _ => by kernel_rfl))
  (Sim.seq (Sim.test (A := p7) (B := p8) (fun _ _ _ => by kernel_rfl) (Sim.seq (Sim.reg (A := p8) (B := p0) (fun _ _ _ => by kernel_rfl))
  (Sim.ret (A := p0) (E := (exAt ex 0 p5)) (fun _ => ⟨rfl, rfl, trivial⟩)))
  (Sim.skip (A := p8)))
  (Sim.seq (Sim.test (A := p8) (B := p9) (fun _ _ _ => by kernel_rfl) (Sim.seq (Sim.reg (A := p9) (B := p0) (fun _ _ _ => by kernel_rfl))
  (Sim.ret (A := p0) (E := (exAt ex 0 p5)) (fun _ => ⟨rfl, rfl, trivial⟩)))
  (Sim.skip (A := p9)))
  (Sim.seq (Sim.reg (A := p9) (B := p9) (fun _ _ _ => by kernel_rfl))
  (Sim.seq (Sim.reg (A := p9) (B := p10) (fun _ _ _ => by kernel_rfl))
  (Sim.seq (Sim.test (A := p10) (B := p10) (fun _ _ _ => by kernel_rfl) (Sim.seq (Sim.reg (A := p10) (B := p0) (fun _ _ _ => by kernel_rfl))
  (Sim.ret (A := p0) (E := (exAt ex 0 p5)) (fun _ => ⟨rfl, rfl, trivial⟩)))
  (Sim.skip (A := p10)))
  (Sim.seq (Sim.reg (A := p10) (B := p11) (fun _ _ _ => by kernel_rfl))
  (Sim.seq (Sim.test (A := p11) (B := p11) (fun _ _ _ => by kernel_rfl) (Sim.seq (Sim.reg (A := p11) (B := p0) (fun _ _ _ => by kernel_rfl))
  (Sim.ret (A := p0) (E := (exAt ex 0 p5)) (fun _ => ⟨rfl, rfl, trivial⟩)))
  (Sim.skip (A := p11)))
  (Sim.seq (Sim.reg (A := p11) (B := p12) (fun _ _ _ => by kernel_rfl))
  (Sim.seq (Sim.reg (A := p12) (B := p13) (fun _ _ _ => by kernel_rfl))
  (Sim.seq (Sim.reg (A := p13) (B := p0) (fun _ _ _ => by kernel_rfl))
  (Sim.ret (A := p0) (E := (exAt ex 0 p5)) (fun _ => ⟨rfl, rfl, trivial⟩))))))))))))))
  (Sim.test (A := p4) (B := p5) (fun _ _ _ => by kernel_rfl) (Sim.seq (Sim.reg (A := p5) (B := p14) (fun _ _ _ => by kernel_rfl))
  (Sim.seq (Sim.reg (A := p14) (B := p0) (fun _ _ _ => by kernel_rfl))
  (Sim.ret (A := p0) (E := (exAt ex 0 p5)) (fun _ => ⟨rfl, rfl, trivial⟩))))
  (Sim.skip (A := p5)))))))
  (Sim.seq (Sim.reg (A := p5) (B := p15) (fun _ _ _ => by kernel_rfl))
  (Sim.seq (Sim.reg (A := p15) (B := p0) (fun _ _ _ => by kernel_rfl))
  (Sim.ret (A := p0) (E := ex) (fun _ => ⟨rfl, rfl, trivial⟩)))))))

def init (x_src : Sl) (x_at : Int) (x_s2 : Bool) : St := { x_src := x_src, x_at := x_at, x_s2 := x_s2, t6 := none, t7 := false, x_tag := 0, x_low := 0, x_e := none, x_bytes := 0, x_more := 0, x_eq13 := none, x_eq14 := none, t21 := 0 }

/-- What is left of the results. -/
def res (K : Bool → Int → Int → Int → Bool → Int → Bool → Heap → Prop) (s : St) (h1 : Heap) : Prop := ptrE s.t6 fun a1 => ∃ b1 : Bool, hcell h1 (Addr.add a1 0) = some (.bool b1) ∧ ∃ v1 : Int, hcell h1 (Addr.add a1 1) = some (.int .i64 v1) ∧ ∃ v2 : Int, hcell h1 (Addr.add a1 2) = some (.int .i64 v2) ∧ ∃ v3 : Int, hcell h1 (Addr.add a1 3) = some (.int .i64 v3) ∧ ∃ b2 : Bool, hcell h1 (Addr.add a1 4) = some (.bool b2) ∧ ∃ v4 : Int, hcell h1 (Addr.add a1 5) = some (.int .i64 v4) ∧ K b1 v1 v2 v3 b2 v4 s.t7 h1

/-- The call of 'pub-pemmican/spec.readElement'. -/
theorem calls (x_src : Sl) (x_at : Int) (x_s2 : Bool) (h : Heap) (K : Bool → Int → Int → Int → Bool → Int → Bool → Heap → Prop)
    (H : stm (init x_src x_at x_s2) h (endK (res K))) : c_spec_readElement x_src x_at x_s2 h K := by
  have hc : CallsH Pg 80 #[(.slice x_src.p x_src.n x_src.c), (.int .i64 x_at), (.bool x_s2)] h fun v h1 => asT v fun l1 => asC l1 fun v1 l2 => asA v1 fun l3 => asC l3 fun v2 l4 => asB v2 fun b1 => asC l4 fun v3 l5 => asI .i64 v3 fun n1 => asC l5 fun v4 l6 => asI .i64 v4 fun n2 => asC l6 fun v5 l7 => asI .i64 v5 fun n3 => asC l7 fun v6 l8 => asB v6 fun b2 => asC l8 fun v7 l9 => asI .i64 v7 fun n4 => asN l9 (asC l2 fun v8 l10 => asB v8 fun b3 => asN l10 (K b1 n1 n2 n3 b2 n4 b3 h1)) :=
    callsH_of_sim (R := p0) (fn := Tryd.f80) (c := Tryd.f80.body.getD .skip) Tryd.func80 rfl Tryd.ntmps80 Tryd.call80 sim (init x_src x_at x_s2) (⟨rfl, rfl, rfl, trivial⟩) (Nat.le_of_ble_eq_true rfl) (fun _ => ⟨rfl, rfl, trivial⟩) rfl
      (res K) (fun _ _ => by kernel_rfl) H
  refine hc.mono ?_
  intro v hp H
  obtain ⟨l1, rfl, h1⟩ := asT_elim H
  obtain ⟨v1, l2, rfl, h2⟩ := asC_elim h1
  obtain ⟨l3, rfl, h3⟩ := asA_elim h2
  obtain ⟨v2, l4, rfl, h4⟩ := asC_elim h3
  obtain ⟨b1, rfl, h5⟩ := asB_elim h4
  obtain ⟨v3, l5, rfl, h6⟩ := asC_elim h5
  obtain ⟨n1, rfl, h7⟩ := asI_elim h6
  obtain ⟨v4, l6, rfl, h8⟩ := asC_elim h7
  obtain ⟨n2, rfl, h9⟩ := asI_elim h8
  obtain ⟨v5, l7, rfl, h10⟩ := asC_elim h9
  obtain ⟨n3, rfl, h11⟩ := asI_elim h10
  obtain ⟨v6, l8, rfl, h12⟩ := asC_elim h11
  obtain ⟨b2, rfl, h13⟩ := asB_elim h12
  obtain ⟨v7, l9, rfl, h14⟩ := asC_elim h13
  obtain ⟨n4, rfl, h15⟩ := asI_elim h14
  obtain ⟨rfl, h16⟩ := asN_elim h15
  obtain ⟨v8, l10, rfl, h17⟩ := asC_elim h16
  obtain ⟨b3, rfl, h18⟩ := asB_elim h17
  obtain ⟨rfl, h19⟩ := asN_elim h18
  exact ⟨_, _, _, _, _, _, _, rfl, h19⟩

end M_spec_readElement

end Go.Proofs.YtibleenkgmkpmaaDoor

namespace Go.Proofs.YtibleenkgmkpmaaDoor
open Go Go.Vc Go.Proofs

namespace M_state_copied

structure St where
  x_s : Option Addr
  x_offset : Int
  x_length : Int
  t6 : Bool
  x_from : Int
  x_i : Int

def p0 : Pt St where
  env s := [(6, (.bool s.t6))]
  fin e s K := vB e 6 fun b1 => K { s with t6 := b1 }
  ok := by
    intro e s K h0
    obtain ⟨b1, g1, h2⟩ := gB h0
    exact ⟨_, ⟨g1, trivial⟩, h2⟩

def p1 : Pt St where
  env s := [(0, (.pointer s.x_s)), (1, (.int .i64 s.x_offset)), (2, (.int .i64 s.x_length))]
  fin e s K := vP e 0 fun p1 => vI e 1 .i64 fun n1 => vI e 2 .i64 fun n2 => K { s with x_s := p1, x_offset := n1, x_length := n2 }
  ok := by
    intro e s K h0
    obtain ⟨p1, g1, h2⟩ := gP h0
    obtain ⟨n1, g2, h4⟩ := gI h2
    obtain ⟨n2, g3, h6⟩ := gI h4
    exact ⟨_, ⟨g1, g2, g3, trivial⟩, h6⟩

def p2 : Pt St where
  env s := [(0, (.pointer s.x_s)), (2, (.int .i64 s.x_length)), (7, (.int .i64 s.x_from))]
  fin e s K := vP e 0 fun p1 => vI e 2 .i64 fun n1 => vI e 7 .i64 fun n2 => K { s with x_s := p1, x_length := n1, x_from := n2 }
  ok := by
    intro e s K h0
    obtain ⟨p1, g1, h2⟩ := gP h0
    obtain ⟨n1, g2, h4⟩ := gI h2
    obtain ⟨n2, g3, h6⟩ := gI h4
    exact ⟨_, ⟨g1, g2, g3, trivial⟩, h6⟩

def p3 : Pt St where
  env s := [(0, (.pointer s.x_s)), (2, (.int .i64 s.x_length)), (7, (.int .i64 s.x_from)), (8, (.int .i64 s.x_i))]
  fin e s K := vP e 0 fun p1 => vI e 2 .i64 fun n1 => vI e 7 .i64 fun n2 => vI e 8 .i64 fun n3 => K { s with x_s := p1, x_length := n1, x_from := n2, x_i := n3 }
  ok := by
    intro e s K h0
    obtain ⟨p1, g1, h2⟩ := gP h0
    obtain ⟨n1, g2, h4⟩ := gI h2
    obtain ⟨n2, g3, h6⟩ := gI h4
    obtain ⟨n3, g4, h8⟩ := gI h6
    exact ⟨_, ⟨g1, g2, g3, g4, trivial⟩, h8⟩

def p4 : Pt St where
  env s := []
  fin e s K := K s
  ok := by
    intro e s K h0
    exact ⟨_, trivial, h0⟩

def r0 (s : St) (h : Heap) (Q : St → Heap → Prop) : Prop :=
  Q s h

def r1 (s : St) (h : Heap) (Q : Bool → St → Heap → Prop) : Prop :=
  Q (s.x_offset == (0 : Int)) s h

def r2 (s : St) (h : Heap) (Q : St → Heap → Prop) : Prop :=
  Q { s with t6 := false } h

def r3 (s : St) (h : Heap) (Q : St → Heap → Prop) : Prop :=
  ptrE s.x_s fun a1 =>
  ∃ (p2 : Option Addr) (n3 c4 : Nat), hcell h (Addr.add a1 0) = some (.slice p2 n3 c4) ∧
  Q { s with x_from := (IntKind.wrap .i64 (((n3 : Nat) : Int) - s.x_offset)) } h

def r4 (s : St) (h : Heap) (Q : Bool → St → Heap → Prop) : Prop :=
  Q (decide (s.x_from ≥ (0 : Int))) s h

def r5 (s : St) (h : Heap) (Q : St → Heap → Prop) : Prop :=
  Q { s with x_i := (0 : Int) } h

def r6 (s : St) (h : Heap) (Q : Bool → St → Heap → Prop) : Prop :=
  Q (decide (s.x_i < s.x_length)) s h

def r7 (s : St) (h : Heap) (Q : St → Heap → Prop) : Prop :=
  Q { s with x_i := (IntKind.wrap .i64 (s.x_i + (1 : Int))) } h

def r8 (s : St) (h : Heap) (Q : St → Heap → Prop) : Prop :=
  ptrE s.x_s fun a1 =>
  ∃ (p2 : Option Addr) (n3 c4 : Nat), hcell h (Addr.add a1 0) = some (.slice p2 n3 c4) ∧
  ptrE s.x_s fun a5 =>
  ∃ (p6 : Option Addr) (n7 c8 : Nat), hcell h (Addr.add a5 0) = some (.slice p6 n7 c8) ∧
  0 ≤ (IntKind.wrap .i64 (s.x_from + s.x_i)) ∧ (IntKind.wrap .i64 (s.x_from + s.x_i)) < ((n7 : Nat) : Int) ∧
  ptrE p6 fun a9 =>
  ∃ v10 : Int, hcell h (Addr.add a9 (Int.toNat (IntKind.wrap .i64 (s.x_from + s.x_i)) * 1)) = some (.int .u8 v10) ∧
  withH (hnew h [(.int .u8 v10)] 5) fun h11 =>
  appendT Pg 5 p2 n3 c4 (.slice (some ⟨Array.size h, 0, none⟩) 1 1) 1 h11 fun p12 n13 c14 h15 =>
  ptrE s.x_s fun a16 =>
  st1 (Addr.add (Addr.add a16 0) 0) (.slice p12 n13 c14) h15 fun h17 =>
  Q s h17

def r9 (s : St) (h : Heap) (Q : St → Heap → Prop) : Prop :=
  Q { s with t6 := true } h

def r10 (s : St) (h : Heap) (Q : St → Heap → Prop) : Prop :=
  ptrE s.x_s fun a1 =>
  ∃ (p2 : Option Addr) (n3 c4 : Nat), hcell h (Addr.add a1 1) = some (.slice p2 n3 c4) ∧
  Q { s with x_from := (IntKind.wrap .i64 (s.x_from + ((n3 : Nat) : Int))) } h

def r11 (s : St) (h : Heap) (Q : Bool → St → Heap → Prop) : Prop :=
  Q (decide (s.x_from < (0 : Int))) s h

def r12 (s : St) (h : Heap) (Q : St → Heap → Prop) : Prop :=
  Q { s with t6 := false } h

def r13 (s : St) (h : Heap) (Q : Bool → St → Heap → Prop) : Prop :=
  ptrE s.x_s fun a1 =>
  ∃ (p2 : Option Addr) (n3 c4 : Nat), hcell h (Addr.add a1 1) = some (.slice p2 n3 c4) ∧
  (if (decide ((IntKind.wrap .i64 (s.x_from + s.x_length)) > ((n3 : Nat) : Int))) = false then
  (ptrE s.x_s fun a5 =>
  ∃ (p6 : Option Addr) (n7 c8 : Nat), hcell h (Addr.add a5 0) = some (.slice p6 n7 c8) ∧
  Q (decide (((n7 : Nat) : Int) > (65535 : Int))) s h)
  else
  (Q true s h))

def r14 (s : St) (h : Heap) (Q : St → Heap → Prop) : Prop :=
  ptrE s.x_s fun a1 =>
  st1 (Addr.add (Addr.add a1 3) 0) (.bool true) h fun h2 =>
  Q s h2

def r15 (s : St) (h : Heap) (Q : St → Heap → Prop) : Prop :=
  Q { s with t6 := false } h

def r16 (s : St) (h : Heap) (Q : St → Heap → Prop) : Prop :=
  ptrE s.x_s fun a1 =>
  ∃ (p2 : Option Addr) (n3 c4 : Nat), hcell h (Addr.add a1 0) = some (.slice p2 n3 c4) ∧
  ptrE s.x_s fun a5 =>
  ∃ (p6 : Option Addr) (n7 c8 : Nat), hcell h (Addr.add a5 1) = some (.slice p6 n7 c8) ∧
  0 ≤ (IntKind.wrap .i64 (s.x_from + s.x_length)) ∧ (IntKind.wrap .i64 (s.x_from + s.x_length)) ≤ ((c8 : Nat) : Int) ∧
  0 ≤ s.x_from ∧ s.x_from ≤ (((Int.toNat (IntKind.wrap .i64 (s.x_from + s.x_length))) : Nat) : Int) ∧
  appendT Pg 5 p2 n3 c4 (.slice (subP p6 (Int.toNat s.x_from) c8 1) ((Int.toNat (IntKind.wrap .i64 (s.x_from + s.x_length))) - (Int.toNat s.x_from)) (c8 - (Int.toNat s.x_from))) ((Int.toNat (IntKind.wrap .i64 (s.x_from + s.x_length))) - (Int.toNat s.x_from)) h fun p9 n10 c11 h12 =>
  ptrE s.x_s fun a13 =>
  st1 (Addr.add (Addr.add a13 0) 0) (.slice p9 n10 c11) h12 fun h14 =>
  Q s h14

def r17 (s : St) (h : Heap) (Q : St → Heap → Prop) : Prop :=
  Q { s with t6 := true } h

def k11 : Stm St := (.seq (.reg r16) (.seq (.reg r17) .ret))
def k10 : Stm St := (.seq (.reg r14) (.seq (.reg r15) .ret))
def k9 : Stm St := (.seq (.test r13 k10 .skip) k11)
def k8 : Stm St := (.seq (.test r11 (.seq (.reg r12) .ret) .skip) k9)
def k7 : Stm St := (.seq (.reg r10) k8)
def k6 : Stm St := (.seq (.block 1 (.reg r8)) (.reg r7))
def k5 : Stm St := (.seq (.test r6 .skip (.exit 0)) k6)
def k4 : Stm St := (.block 0 (.loop k5))
def k3 : Stm St := (.seq (.seq (.reg r5) k4) (.seq (.reg r9) .ret))
def k2 : Stm St := (.seq (.test r4 k3 .skip) k7)
def k1 : Stm St := (.seq (.reg r3) k2)
def k0 : Stm St := (.seq (.test r1 (.seq (.reg r2) .ret) .skip) k1)

def stm : Stm St := (.seq (.reg r0) k0)

def ex : Ex → Pt St := fun _ => p0

set_option maxRecDepth 100000 in
theorem sim : Sim Pg 89 p1 (Tryd.f64.body.getD .skip) stm p0 ex :=
  (Sim.seq (Sim.reg (A := p1) (B := p1) (fun _ _ _ => by kernel_rfl))
  (Sim.seq (Sim.test (A := p1) (B := p1) (fun _ _ _ => by kernel_rfl) (Sim.seq (Sim.reg (A := p1) (B := p0) (fun _ _ _ => by kernel_rfl))
  (Sim.ret (A := p0) (E := ex) (fun _ => ⟨rfl, trivial⟩)))
  (Sim.skip (A := p1)))
  (Sim.seq (Sim.reg (A := p1) (B := p2) (fun _ _ _ => by kernel_rfl))
  (Sim.seq (Sim.test (A := p2) (B := p2) (fun _ _ _ => by kernel_rfl) (Sim.seq (Sim.seq (Sim.reg (A := p2) (B := p3) (fun _ _ _ => by kernel_rfl))
  (Sim.block (B := p4) (Sim.loop (A := p3) (Sim.seq (Sim.test (A := p3) (B := p3) (fun _ _ _ => by kernel_rfl) (Sim.skip (A := p3))
  (Sim.exit (A := p3) (fun _ => trivial)))
  (Sim.seq (Sim.block (B := p3) (Sim.reg (A := p3) (B := p3) (fun _ _ _ => by kernel_rfl)))
  (Sim.reg (A := p3) (B := p3) (fun _ _ _ => by kernel_rfl)))))))
  (Sim.seq (Sim.reg (A := p4) (B := p0) (fun _ _ _ => by kernel_rfl))
  (Sim.ret (A := p0) (E := ex) (fun _ => ⟨rfl, trivial⟩))))
  (Sim.skip (A := p2)))
  (Sim.seq (Sim.reg (A := p2) (B := p2) (fun _ _ _ => by kernel_rfl))
  (Sim.seq (Sim.test (A := p2) (B := p2) (fun _ _ _ => by kernel_rfl) (Sim.seq (Sim.reg (A := p2) (B := p0) (fun _ _ _ => by kernel_rfl))
  (Sim.ret (A := p0) (E := ex) (fun _ => ⟨rfl, trivial⟩)))
  (Sim.skip (A := p2)))
  (Sim.seq (Sim.test (A := p2) (B := p2) (fun _ _ _ => by kernel_rfl) (Sim.seq (Sim.reg (A := p2) (B := p4) (fun _ _ _ => by kernel_rfl))
  (Sim.seq (Sim.reg (A := p4) (B := p0) (fun _ _ _ => by kernel_rfl))
  (Sim.ret (A := p0) (E := ex) (fun _ => ⟨rfl, trivial⟩))))
  (Sim.skip (A := p2)))
  (Sim.seq (Sim.reg (A := p2) (B := p4) (fun _ _ _ => by kernel_rfl))
  (Sim.seq (Sim.reg (A := p4) (B := p0) (fun _ _ _ => by kernel_rfl))
  (Sim.ret (A := p0) (E := ex) (fun _ => ⟨rfl, trivial⟩)))))))))))

def init (x_s : Option Addr) (x_offset : Int) (x_length : Int) : St := { x_s := x_s, x_offset := x_offset, x_length := x_length, t6 := false, x_from := 0, x_i := 0 }

/-- What is left of the results. -/
def res (K : Bool → Heap → Prop) (s : St) (h1 : Heap) : Prop := K s.t6 h1

/-- The call of '(*pub-pemmican/spec.state).copied'. -/
theorem calls (x_s : Option Addr) (x_offset : Int) (x_length : Int) (h : Heap) (K : Bool → Heap → Prop)
    (H : stm (init x_s x_offset x_length) h (endK (res K))) : c_state_copied x_s x_offset x_length h K := by
  have hc : CallsH Pg 64 #[(.pointer x_s), (.int .i64 x_offset), (.int .i64 x_length)] h fun v h1 => asB v fun b1 => K b1 h1 :=
    callsH_of_sim (R := p0) (fn := Tryd.f64) (c := Tryd.f64.body.getD .skip) Tryd.func64 rfl Tryd.ntmps64 Tryd.call64 sim (init x_s x_offset x_length) (⟨rfl, rfl, rfl, trivial⟩) (Nat.le_of_ble_eq_true rfl) (fun _ => ⟨rfl, trivial⟩) rfl
      (res K) (fun _ _ => by kernel_rfl) H
  refine hc.mono ?_
  intro v hp H
  obtain ⟨b1, rfl, h1⟩ := asB_elim H
  exact ⟨_, rfl, h1⟩

end M_state_copied

end Go.Proofs.YtibleenkgmkpmaaDoor

namespace Go.Proofs.YtibleenkgmkpmaaDoor
open Go Go.Vc Go.Proofs

namespace M_state_elements

structure St where
  x_s : Option Addr
  x_src : Sl
  x_at : Int
  x_n : Int
  x_s2 : Bool
  t10 : Int
  x_e : Option Addr
  x_ok : Bool

def p0 : Pt St where
  env s := [(10, (.int .i64 s.t10))]
  fin e s K := vI e 10 .i64 fun n1 => K { s with t10 := n1 }
  ok := by
    intro e s K h0
    obtain ⟨n1, g1, h2⟩ := gI h0
    exact ⟨_, ⟨g1, trivial⟩, h2⟩

def p1 : Pt St where
  env s := [(0, (.pointer s.x_s)), (1, (.slice s.x_src.p s.x_src.n s.x_src.c)), (2, (.int .i64 s.x_at)), (3, (.int .i64 s.x_n)), (4, (.bool s.x_s2))]
  fin e s K := vP e 0 fun p1 => vS e 1 fun p2 n1 c1 => vI e 2 .i64 fun n2 => vI e 3 .i64 fun n3 => vB e 4 fun b1 => K { s with x_s := p1, x_src := ⟨p2, n1, c1⟩, x_at := n2, x_n := n3, x_s2 := b1 }
  ok := by
    intro e s K h0
    obtain ⟨p1, g1, h2⟩ := gP h0
    obtain ⟨p2, n1, c1, g2, h4⟩ := gS h2
    obtain ⟨n2, g3, h6⟩ := gI h4
    obtain ⟨n3, g4, h8⟩ := gI h6
    obtain ⟨b1, g5, h10⟩ := gB h8
    exact ⟨_, ⟨g1, g2, g3, g4, g5, trivial⟩, h10⟩

def p2 : Pt St where
  env s := [(0, (.pointer s.x_s)), (3, (.int .i64 s.x_n))]
  fin e s K := vP e 0 fun p1 => vI e 3 .i64 fun n1 => K { s with x_s := p1, x_n := n1 }
  ok := by
    intro e s K h0
    obtain ⟨p1, g1, h2⟩ := gP h0
    obtain ⟨n1, g2, h4⟩ := gI h2
    exact ⟨_, ⟨g1, g2, trivial⟩, h4⟩

def p3 : Pt St where
  env s := [(0, (.pointer s.x_s)), (1, (.slice s.x_src.p s.x_src.n s.x_src.c)), (3, (.int .i64 s.x_n)), (4, (.bool s.x_s2)), (11, (.pointer s.x_e)), (12, (.bool s.x_ok))]
  fin e s K := vP e 0 fun p1 => vS e 1 fun p2 n1 c1 => vI e 3 .i64 fun n2 => vB e 4 fun b1 => vP e 11 fun p3 => vB e 12 fun b2 => K { s with x_s := p1, x_src := ⟨p2, n1, c1⟩, x_n := n2, x_s2 := b1, x_e := p3, x_ok := b2 }
  ok := by
    intro e s K h0
    obtain ⟨p1, g1, h2⟩ := gP h0
    obtain ⟨p2, n1, c1, g2, h4⟩ := gS h2
    obtain ⟨n2, g3, h6⟩ := gI h4
    obtain ⟨b1, g4, h8⟩ := gB h6
    obtain ⟨p3, g5, h10⟩ := gP h8
    obtain ⟨b2, g6, h12⟩ := gB h10
    exact ⟨_, ⟨g1, g2, g3, g4, g5, g6, trivial⟩, h12⟩

def p4 : Pt St where
  env s := [(0, (.pointer s.x_s)), (1, (.slice s.x_src.p s.x_src.n s.x_src.c)), (3, (.int .i64 s.x_n)), (4, (.bool s.x_s2)), (11, (.pointer s.x_e))]
  fin e s K := vP e 0 fun p1 => vS e 1 fun p2 n1 c1 => vI e 3 .i64 fun n2 => vB e 4 fun b1 => vP e 11 fun p3 => K { s with x_s := p1, x_src := ⟨p2, n1, c1⟩, x_n := n2, x_s2 := b1, x_e := p3 }
  ok := by
    intro e s K h0
    obtain ⟨p1, g1, h2⟩ := gP h0
    obtain ⟨p2, n1, c1, g2, h4⟩ := gS h2
    obtain ⟨n2, g3, h6⟩ := gI h4
    obtain ⟨b1, g4, h8⟩ := gB h6
    obtain ⟨p3, g5, h10⟩ := gP h8
    exact ⟨_, ⟨g1, g2, g3, g4, g5, trivial⟩, h10⟩

def p5 : Pt St where
  env s := [(0, (.pointer s.x_s)), (1, (.slice s.x_src.p s.x_src.n s.x_src.c)), (2, (.int .i64 s.x_at)), (3, (.int .i64 s.x_n)), (4, (.bool s.x_s2)), (11, (.pointer s.x_e))]
  fin e s K := vP e 0 fun p1 => vS e 1 fun p2 n1 c1 => vI e 2 .i64 fun n2 => vI e 3 .i64 fun n3 => vB e 4 fun b1 => vP e 11 fun p3 => K { s with x_s := p1, x_src := ⟨p2, n1, c1⟩, x_at := n2, x_n := n3, x_s2 := b1, x_e := p3 }
  ok := by
    intro e s K h0
    obtain ⟨p1, g1, h2⟩ := gP h0
    obtain ⟨p2, n1, c1, g2, h4⟩ := gS h2
    obtain ⟨n2, g3, h6⟩ := gI h4
    obtain ⟨n3, g4, h8⟩ := gI h6
    obtain ⟨b1, g5, h10⟩ := gB h8
    obtain ⟨p3, g6, h12⟩ := gP h10
    exact ⟨_, ⟨g1, g2, g3, g4, g5, g6, trivial⟩, h12⟩

def p6 : Pt St where
  env s := []
  fin e s K := K s
  ok := by
    intro e s K h0
    exact ⟨_, trivial, h0⟩

def r0 (s : St) (h : Heap) (Q : St → Heap → Prop) : Prop :=
  Q s h

def r1 (s : St) (h : Heap) (Q : Bool → St → Heap → Prop) : Prop :=
  Q (decide (s.x_at < ((s.x_src.n : Nat) : Int))) s h

def r2 (s : St) (h : Heap) (Q : St → Heap → Prop) : Prop :=
  c_spec_readElement s.x_src s.x_at s.x_s2 h fun b2 r3 r4 r5 b6 r7 b8 h1 =>
  withH (hnew h1 (zcells Pg 113) 113) fun h9 =>
  st1 (Addr.add ⟨Array.size h1, 0, none⟩ 0) (.bool b2) h9 fun h10 =>
  st1 (Addr.add ⟨Array.size h1, 0, none⟩ 1) (.int .i64 r3) h10 fun h11 =>
  st1 (Addr.add ⟨Array.size h1, 0, none⟩ 2) (.int .i64 r4) h11 fun h12 =>
  st1 (Addr.add ⟨Array.size h1, 0, none⟩ 3) (.int .i64 r5) h12 fun h13 =>
  st1 (Addr.add ⟨Array.size h1, 0, none⟩ 4) (.bool b6) h13 fun h14 =>
  st1 (Addr.add ⟨Array.size h1, 0, none⟩ 5) (.int .i64 r7) h14 fun h15 =>
  Q { s with x_e := (some ⟨Array.size h1, 0, none⟩), x_ok := b8 } h15

def r3 (s : St) (h : Heap) (Q : Bool → St → Heap → Prop) : Prop :=
  (if (!s.x_ok) = false then
  (ptrE s.x_s fun a1 =>
  ∃ (p2 : Option Addr) (n3 c4 : Nat), hcell h (Addr.add a1 0) = some (.slice p2 n3 c4) ∧
  ptrE s.x_e fun a5 =>
  ∃ v6 : Int, hcell h (Addr.add a5 3) = some (.int .i64 v6) ∧
  Q (decide ((IntKind.wrap .i64 (((n3 : Nat) : Int) + v6)) > s.x_n)) s h)
  else
  (Q true s h))

def r4 (s : St) (h : Heap) (Q : St → Heap → Prop) : Prop :=
  Q { s with t10 := (0 : Int) } h

def r5 (s : St) (h : Heap) (Q : St → Heap → Prop) : Prop :=
  ptrE s.x_e fun a1 =>
  ∃ v2 : Int, hcell h (Addr.add a1 5) = some (.int .i64 v2) ∧
  Q { s with x_at := v2 } h

def r6 (s : St) (h : Heap) (Q : Bool → St → Heap → Prop) : Prop :=
  ptrE s.x_e fun a1 =>
  ∃ b2 : Bool, hcell h (Addr.add a1 0) = some (.bool b2) ∧
  Q b2 s h

def r7 (s : St) (h : Heap) (Q : St → Heap → Prop) : Prop :=
  ptrE s.x_s fun a1 =>
  ∃ (p2 : Option Addr) (n3 c4 : Nat), hcell h (Addr.add a1 0) = some (.slice p2 n3 c4) ∧
  ptrE s.x_e fun a5 =>
  ∃ v6 : Int, hcell h (Addr.add a5 1) = some (.int .i64 v6) ∧
  ptrE s.x_e fun a7 =>
  ∃ v8 : Int, hcell h (Addr.add a7 1) = some (.int .i64 v8) ∧
  ptrE s.x_e fun a9 =>
  ∃ v10 : Int, hcell h (Addr.add a9 3) = some (.int .i64 v10) ∧
  0 ≤ (IntKind.wrap .i64 (v8 + v10)) ∧ (IntKind.wrap .i64 (v8 + v10)) ≤ ((s.x_src.c : Nat) : Int) ∧
  0 ≤ v6 ∧ v6 ≤ (((Int.toNat (IntKind.wrap .i64 (v8 + v10))) : Nat) : Int) ∧
  appendT Pg 5 p2 n3 c4 (.slice (subP s.x_src.p (Int.toNat v6) s.x_src.c 1) ((Int.toNat (IntKind.wrap .i64 (v8 + v10))) - (Int.toNat v6)) (s.x_src.c - (Int.toNat v6))) ((Int.toNat (IntKind.wrap .i64 (v8 + v10))) - (Int.toNat v6)) h fun p11 n12 c13 h14 =>
  ptrE s.x_s fun a15 =>
  st1 (Addr.add (Addr.add a15 0) 0) (.slice p11 n12 c13) h14 fun h16 =>
  Q s h16

def r8 (s : St) (h : Heap) (Q : Bool → St → Heap → Prop) : Prop :=
  ptrE s.x_e fun a1 =>
  ∃ b2 : Bool, hcell h (Addr.add a1 4) = some (.bool b2) ∧
  Q (!b2) s h

def r9 (s : St) (h : Heap) (Q : St → Heap → Prop) : Prop :=
  ptrE s.x_e fun a1 =>
  ∃ v2 : Int, hcell h (Addr.add a1 2) = some (.int .i64 v2) ∧
  ptrE s.x_s fun a3 =>
  st1 (Addr.add (Addr.add a3 2) 0) (.int .i64 v2) h fun h4 =>
  Q s h4

def r10 (s : St) (h : Heap) (Q : Bool → St → Heap → Prop) : Prop :=
  ptrE s.x_s fun a1 =>
  ∃ v2 : Int, hcell h (Addr.add a1 2) = some (.int .i64 v2) ∧
  ptrE s.x_e fun a3 =>
  ∃ v4 : Int, hcell h (Addr.add a3 3) = some (.int .i64 v4) ∧
  c_state_copied s.x_s v2 v4 h fun b6 h5 =>
  Q (!b6) s h5

def r11 (s : St) (h : Heap) (Q : Bool → St → Heap → Prop) : Prop :=
  ptrE s.x_s fun a1 =>
  ∃ b2 : Bool, hcell h (Addr.add a1 3) = some (.bool b2) ∧
  Q b2 s h

def r12 (s : St) (h : Heap) (Q : St → Heap → Prop) : Prop :=
  Q { s with t10 := (2 : Int) } h

def r13 (s : St) (h : Heap) (Q : St → Heap → Prop) : Prop :=
  Q { s with t10 := (0 : Int) } h

def r14 (s : St) (h : Heap) (Q : Bool → St → Heap → Prop) : Prop :=
  ptrE s.x_s fun a1 =>
  ∃ (p2 : Option Addr) (n3 c4 : Nat), hcell h (Addr.add a1 0) = some (.slice p2 n3 c4) ∧
  Q (((n3 : Nat) : Int) != s.x_n) s h

def r15 (s : St) (h : Heap) (Q : St → Heap → Prop) : Prop :=
  Q { s with t10 := (0 : Int) } h

def r16 (s : St) (h : Heap) (Q : St → Heap → Prop) : Prop :=
  Q { s with t10 := (1 : Int) } h

def k9 : Stm St := (.seq (.test r14 (.seq (.reg r15) .ret) .skip) (.seq (.reg r16) .ret))
def k8 : Stm St := (.seq (.test r11 (.seq (.reg r12) .ret) .skip) (.seq (.reg r13) .ret))
def k7 : Stm St := (.test r10 k8 .skip)
def k6 : Stm St := (.seq (.test r8 (.reg r9) .skip) k7)
def k5 : Stm St := (.seq (.test r6 (.seq (.reg r7) (.exit 1)) .skip) k6)
def k4 : Stm St := (.seq (.reg r5) k5)
def k3 : Stm St := (.seq (.test r3 (.seq (.reg r4) .ret) .skip) k4)
def k2 : Stm St := (.block 1 (.seq (.reg r2) k3))
def k1 : Stm St := (.seq (.test r1 .skip (.exit 0)) k2)
def k0 : Stm St := (.seq (.block 0 (.loop k1)) k9)

def stm : Stm St := (.seq (.reg r0) k0)

def ex : Ex → Pt St := fun _ => p0

set_option maxRecDepth 100000 in
theorem sim : Sim Pg 87 p1 (Tryd.f55.body.getD .skip) stm p0 ex :=
  (Sim.seq (Sim.reg (A := p1) (B := p1) (fun _ _ _ => by kernel_rfl))
  (Sim.seq (Sim.block (B := p2) (Sim.loop (A := p1) (Sim.seq (Sim.test (A := p1) (B := p1) (fun _ _ _ => by kernel_rfl) (Sim.skip (A := p1))
  (Sim.exit (A := p1) (fun _ => ⟨rfl, rfl, trivial⟩)))
  (Sim.block (B := p1) (Sim.seq (Sim.reg (A := p1) (B := p3) (fun _ _ _ => by kernel_rfl))
  (Sim.seq (Sim.test (A := p3) (B := p4) (fun _ _ _ => by kernel_rfl) (Sim.seq (Sim.reg (A := p4) (B := p0) (fun _ _ _ => by kernel_rfl))
  (Sim.ret (A := p0) (E := (exAt (exAt ex 0 p2) 1 p1)) (fun _ => ⟨rfl, trivial⟩)))
  (Sim.skip (A := p4)))
  (Sim.seq (Sim.reg (A := p4) (B := p5) (fun _ _ _ => by kernel_rfl))
  (Sim.seq (Sim.test (A := p5) (B := p5) (fun _ _ _ => by kernel_rfl) (Sim.seq (Sim.reg (A := p5) (B := p1) (fun _ _ _ => by kernel_rfl))
  (Sim.exit (A := p1) (fun _ => ⟨rfl, rfl, rfl, rfl, rfl, trivial⟩)))
  (Sim.skip (A := p5)))
  (Sim.seq (Sim.test (A := p5) (B := p5) (fun _ _ _ => by kernel_rfl) (Sim.reg (A := p5) (B := p5) (fun _ _ _ => by kernel_rfl))
  (Sim.skip (A := p5)))
  (Sim.test (A := p5) (B := p1) (fun _ _ _ => by kernel_rfl) (Sim.seq (Sim.test (A := p1) (B := p6) (fun _ _ _ => by kernel_rfl) (Sim.seq (Sim.reg (A := p6) (B := p0) (fun _ _ _ => by kernel_rfl))
  (Sim.ret (A := p0) (E := (exAt (exAt ex 0 p2) 1 p1)) (fun _ => ⟨rfl, trivial⟩)))
  (Sim.skip (A := p6)))
  (Sim.seq (Sim.reg (A := p6) (B := p0) (fun _ _ _ => by kernel_rfl))
  (Sim.ret (A := p0) (E := (exAt (exAt ex 0 p2) 1 p1)) (fun _ => ⟨rfl, trivial⟩))))
  (Sim.skip (A := p1))))))))))))
  (Sim.seq (Sim.test (A := p2) (B := p6) (fun _ _ _ => by kernel_rfl) (Sim.seq (Sim.reg (A := p6) (B := p0) (fun _ _ _ => by kernel_rfl))
  (Sim.ret (A := p0) (E := ex) (fun _ => ⟨rfl, trivial⟩)))
  (Sim.skip (A := p6)))
  (Sim.seq (Sim.reg (A := p6) (B := p0) (fun _ _ _ => by kernel_rfl))
  (Sim.ret (A := p0) (E := ex) (fun _ => ⟨rfl, trivial⟩))))))

def init (x_s : Option Addr) (x_src : Sl) (x_at : Int) (x_n : Int) (x_s2 : Bool) : St := { x_s := x_s, x_src := x_src, x_at := x_at, x_n := x_n, x_s2 := x_s2, t10 := 0, x_e := none, x_ok := false }

/-- What is left of the results. -/
def res (K : Int → Heap → Prop) (s : St) (h1 : Heap) : Prop := K s.t10 h1

/-- The call of '(*pub-pemmican/spec.state).elements'. -/
theorem calls (x_s : Option Addr) (x_src : Sl) (x_at : Int) (x_n : Int) (x_s2 : Bool) (h : Heap) (K : Int → Heap → Prop)
    (H : stm (init x_s x_src x_at x_n x_s2) h (endK (res K))) : c_state_elements x_s x_src x_at x_n x_s2 h K := by
  have hc : CallsH Pg 55 #[(.pointer x_s), (.slice x_src.p x_src.n x_src.c), (.int .i64 x_at), (.int .i64 x_n), (.bool x_s2)] h fun v h1 => asI .i64 v fun n1 => K n1 h1 :=
    callsH_of_sim (R := p0) (fn := Tryd.f55) (c := Tryd.f55.body.getD .skip) Tryd.func55 rfl Tryd.ntmps55 Tryd.call55 sim (init x_s x_src x_at x_n x_s2) (⟨rfl, rfl, rfl, rfl, rfl, trivial⟩) (Nat.le_of_ble_eq_true rfl) (fun _ => ⟨rfl, trivial⟩) rfl
      (res K) (fun _ _ => by kernel_rfl) H
  refine hc.mono ?_
  intro v hp H
  obtain ⟨n1, rfl, h1⟩ := asI_elim H
  exact ⟨_, rfl, h1⟩

end M_state_elements

end Go.Proofs.YtibleenkgmkpmaaDoor

namespace Go.Proofs.YtibleenkgmkpmaaDoor
open Go Go.Vc Go.Proofs

namespace M_spec_S2Len

structure St where
  x_src : Sl
  x_n : Int
  x_used : Int
  x_ok : Int
  x_i : Int
  x_b : Int

def p0 : Pt St where
  env s := [(2, (.int .i64 s.x_n)), (3, (.int .i64 s.x_used)), (4, (.int .i64 s.x_ok))]
  fin e s K := vI e 2 .i64 fun n1 => vI e 3 .i64 fun n2 => vI e 4 .i64 fun n3 => K { s with x_n := n1, x_used := n2, x_ok := n3 }
  ok := by
    intro e s K h0
    obtain ⟨n1, g1, h2⟩ := gI h0
    obtain ⟨n2, g2, h4⟩ := gI h2
    obtain ⟨n3, g3, h6⟩ := gI h4
    exact ⟨_, ⟨g1, g2, g3, trivial⟩, h6⟩

def p1 : Pt St where
  env s := [(0, (.slice s.x_src.p s.x_src.n s.x_src.c))]
  fin e s K := vS e 0 fun p1 n1 c1 => K { s with x_src := ⟨p1, n1, c1⟩ }
  ok := by
    intro e s K h0
    obtain ⟨p1, n1, c1, g1, h2⟩ := gS h0
    exact ⟨_, ⟨g1, trivial⟩, h2⟩

def p2 : Pt St where
  env s := [(0, (.slice s.x_src.p s.x_src.n s.x_src.c)), (2, (.int .i64 s.x_n))]
  fin e s K := vS e 0 fun p1 n1 c1 => vI e 2 .i64 fun n2 => K { s with x_src := ⟨p1, n1, c1⟩, x_n := n2 }
  ok := by
    intro e s K h0
    obtain ⟨p1, n1, c1, g1, h2⟩ := gS h0
    obtain ⟨n2, g2, h4⟩ := gI h2
    exact ⟨_, ⟨g1, g2, trivial⟩, h4⟩

def p3 : Pt St where
  env s := [(0, (.slice s.x_src.p s.x_src.n s.x_src.c)), (2, (.int .i64 s.x_n)), (5, (.int .i64 s.x_i))]
  fin e s K := vS e 0 fun p1 n1 c1 => vI e 2 .i64 fun n2 => vI e 5 .i64 fun n3 => K { s with x_src := ⟨p1, n1, c1⟩, x_n := n2, x_i := n3 }
  ok := by
    intro e s K h0
    obtain ⟨p1, n1, c1, g1, h2⟩ := gS h0
    obtain ⟨n2, g2, h4⟩ := gI h2
    obtain ⟨n3, g3, h6⟩ := gI h4
    exact ⟨_, ⟨g1, g2, g3, trivial⟩, h6⟩

def p4 : Pt St where
  env s := [(0, (.slice s.x_src.p s.x_src.n s.x_src.c)), (2, (.int .i64 s.x_n)), (5, (.int .i64 s.x_i)), (6, (.int .i64 s.x_b))]
  fin e s K := vS e 0 fun p1 n1 c1 => vI e 2 .i64 fun n2 => vI e 5 .i64 fun n3 => vI e 6 .i64 fun n4 => K { s with x_src := ⟨p1, n1, c1⟩, x_n := n2, x_i := n3, x_b := n4 }
  ok := by
    intro e s K h0
    obtain ⟨p1, n1, c1, g1, h2⟩ := gS h0
    obtain ⟨n2, g2, h4⟩ := gI h2
    obtain ⟨n3, g3, h6⟩ := gI h4
    obtain ⟨n4, g4, h8⟩ := gI h6
    exact ⟨_, ⟨g1, g2, g3, g4, trivial⟩, h8⟩

def p5 : Pt St where
  env s := [(2, (.int .i64 s.x_n)), (5, (.int .i64 s.x_i)), (6, (.int .i64 s.x_b))]
  fin e s K := vI e 2 .i64 fun n1 => vI e 5 .i64 fun n2 => vI e 6 .i64 fun n3 => K { s with x_n := n1, x_i := n2, x_b := n3 }
  ok := by
    intro e s K h0
    obtain ⟨n1, g1, h2⟩ := gI h0
    obtain ⟨n2, g2, h4⟩ := gI h2
    obtain ⟨n3, g3, h6⟩ := gI h4
    exact ⟨_, ⟨g1, g2, g3, trivial⟩, h6⟩

def p6 : Pt St where
  env s := [(2, (.int .i64 s.x_n)), (5, (.int .i64 s.x_i))]
  fin e s K := vI e 2 .i64 fun n1 => vI e 5 .i64 fun n2 => K { s with x_n := n1, x_i := n2 }
  ok := by
    intro e s K h0
    obtain ⟨n1, g1, h2⟩ := gI h0
    obtain ⟨n2, g2, h4⟩ := gI h2
    exact ⟨_, ⟨g1, g2, trivial⟩, h4⟩

def p7 : Pt St where
  env s := []
  fin e s K := K s
  ok := by
    intro e s K h0
    exact ⟨_, trivial, h0⟩

def r0 (s : St) (h : Heap) (Q : St → Heap → Prop) : Prop :=
  Q { s with x_n := (0 : Int) } h

def r1 (s : St) (h : Heap) (Q : St → Heap → Prop) : Prop :=
  Q { s with x_i := (0 : Int) } h

def r2 (s : St) (h : Heap) (Q : Bool → St → Heap → Prop) : Prop :=
  (if (decide (s.x_i < ((s.x_src.n : Nat) : Int))) = true then
  (Q (decide (s.x_i < (10 : Int))) s h)
  else
  (Q false s h))

def r3 (s : St) (h : Heap) (Q : St → Heap → Prop) : Prop :=
  Q { s with x_i := (IntKind.wrap .i64 (s.x_i + (1 : Int))) } h

def r4 (s : St) (h : Heap) (Q : St → Heap → Prop) : Prop :=
  0 ≤ s.x_i ∧ s.x_i < ((s.x_src.n : Nat) : Int) ∧
  ptrE s.x_src.p fun a1 =>
  ∃ v2 : Int, hcell h (Addr.add a1 (Int.toNat s.x_i * 1)) = some (.int .u8 v2) ∧
  Q { s with x_b := (IntKind.wrap .i64 v2) } h

def r5 (s : St) (h : Heap) (Q : Bool → St → Heap → Prop) : Prop :=
  (if (decide (s.x_i < (9 : Int))) = true then
  (Q (decide (s.x_n < (1099511627776 : Int))) s h)
  else
  (Q false s h))

def r6 (s : St) (h : Heap) (Q : St → Heap → Prop) : Prop :=
  (if (IntKind.wrap .i64 ((7 : Int) * s.x_i)) < 0 then False else
  Q { s with x_n := (IntKind.wrap .i64 (s.x_n + (IntKind.wrap .i64 ((bAnd .i64 s.x_b (127 : Int)) * 2 ^ (min (Int.toNat (IntKind.wrap .i64 ((7 : Int) * s.x_i))) 64))))) } h)

def r7 (s : St) (h : Heap) (Q : Bool → St → Heap → Prop) : Prop :=
  Q (decide (s.x_b ≥ (128 : Int))) s h

def r8 (s : St) (h : Heap) (Q : Bool → St → Heap → Prop) : Prop :=
  Q (decide (s.x_n ≥ (4294967296 : Int))) s h

def r9 (s : St) (h : Heap) (Q : St → Heap → Prop) : Prop :=
  Q { s with x_n := (0 : Int), x_used := (0 : Int), x_ok := (0 : Int) } h

def r10 (s : St) (h : Heap) (Q : Bool → St → Heap → Prop) : Prop :=
  (if (decide (s.x_i > (0 : Int))) = true then
  ((if (s.x_b == (0 : Int)) = false then
  (Q (decide (s.x_i > (4 : Int))) s h)
  else
  (Q true s h)))
  else
  (Q (decide (s.x_i > (4 : Int))) s h))

def r11 (s : St) (h : Heap) (Q : St → Heap → Prop) : Prop :=
  Q { s with x_used := (IntKind.wrap .i64 (s.x_i + (1 : Int))), x_ok := (2 : Int) } h

def r12 (s : St) (h : Heap) (Q : St → Heap → Prop) : Prop :=
  Q { s with x_used := (IntKind.wrap .i64 (s.x_i + (1 : Int))), x_ok := (1 : Int) } h

def r13 (s : St) (h : Heap) (Q : Bool → St → Heap → Prop) : Prop :=
  Q (decide (((s.x_src.n : Nat) : Int) > (5 : Int))) s h

def r14 (s : St) (h : Heap) (Q : St → Heap → Prop) : Prop :=
  Q { s with x_n := (0 : Int), x_used := (0 : Int), x_ok := (2 : Int) } h

def r15 (s : St) (h : Heap) (Q : St → Heap → Prop) : Prop :=
  Q { s with x_n := (0 : Int), x_used := (0 : Int), x_ok := (0 : Int) } h

def k8 : Stm St := (.seq (.test r13 (.seq (.reg r14) .ret) .skip) (.seq (.reg r15) .ret))
def k7 : Stm St := (.test r10 (.seq (.reg r11) .ret) .skip)
def k6 : Stm St := (.seq (.block 2 (.test r8 (.seq (.reg r9) .ret) k7)) (.seq (.reg r12) .ret))
def k5 : Stm St := (.seq (.test r7 (.exit 1) .skip) k6)
def k4 : Stm St := (.seq (.test r5 (.reg r6) .skip) k5)
def k3 : Stm St := (.seq (.block 1 (.seq (.reg r4) k4)) (.reg r3))
def k2 : Stm St := (.seq (.test r2 .skip (.exit 0)) k3)
def k1 : Stm St := (.block 0 (.loop k2))
def k0 : Stm St := (.seq (.seq (.reg r1) k1) k8)

def stm : Stm St := (.seq (.reg r0) k0)

def ex : Ex → Pt St := fun _ => p0

set_option maxRecDepth 100000 in
theorem sim : Sim Pg 60 p1 (Tryd.f12.body.getD .skip) stm p0 ex :=
  (Sim.seq (Sim.reg (A := p1) (B := p2) (fun _ _ _ => by kernel_rfl))
  (Sim.seq (Sim.seq (Sim.reg (A := p2) (B := p3) (fun _ _ _ => by kernel_rfl))
  (Sim.block (B := p1) (Sim.loop (A := p3) (Sim.seq (Sim.test (A := p3) (B := p3) (fun _ _ _ => by kernel_rfl) (Sim.skip (A := p3))
  (Sim.exit (A := p3) (fun _ => ⟨rfl, trivial⟩)))
  (Sim.seq (Sim.block (B := p3) (Sim.seq (Sim.reg (A := p3) (B := p4) (fun _ _ _ => by kernel_rfl))
  (Sim.seq (Sim.test (A := p4) (B := p4) (fun _ _ _ => by kernel_rfl) (Sim.reg (A := p4) (B := p4) (fun _ _ _ => by kernel_rfl))
  (Sim.skip (A := p4)))
  (Sim.seq (Sim.test (A := p4) (B := p4) (fun _ _ _ => by kernel_rfl) (Sim.exit (A := p4) (fun _ => ⟨rfl, rfl, rfl, trivial⟩))
  (Sim.weak (B := p4) (C := p5) (Sim.skip (A := p4)) (fun _ => ⟨rfl, rfl, rfl, trivial⟩)))
  (Sim.seq (Sim.block (B := p6) (Sim.test (A := p5) (B := p5) (fun _ _ _ => by kernel_rfl) (Sim.seq (Sim.reg (A := p5) (B := p0) (fun _ _ _ => by kernel_rfl))
  (Sim.ret (A := p0) (E := (exAt (exAt (exAt ex 0 p1) 1 p3) 2 p6)) (fun _ => ⟨rfl, rfl, rfl, trivial⟩)))
  (Sim.test (A := p5) (B := p6) (fun _ _ _ => by kernel_rfl) (Sim.seq (Sim.reg (A := p6) (B := p0) (fun _ _ _ => by kernel_rfl))
  (Sim.ret (A := p0) (E := (exAt (exAt (exAt ex 0 p1) 1 p3) 2 p6)) (fun _ => ⟨rfl, rfl, rfl, trivial⟩)))
  (Sim.skip (A := p6)))))
  (Sim.seq (Sim.reg (A := p6) (B := p0) (fun _ _ _ => by kernel_rfl))
  (Sim.ret (A := p0) (E := (exAt (exAt ex 0 p1) 1 p3)) (fun _ => ⟨rfl, rfl, rfl, trivial⟩))))))))
  (Sim.reg (A := p3) (B := p3) (fun _ _ _ => by kernel_rfl)))))))
  (Sim.seq (Sim.test (A := p1) (B := p7) (fun _ _ _ => by kernel_rfl) (Sim.seq (Sim.reg (A := p7) (B := p0) (fun _ _ _ => by kernel_rfl))
  (Sim.ret (A := p0) (E := ex) (fun _ => ⟨rfl, rfl, rfl, trivial⟩)))
  (Sim.skip (A := p7)))
  (Sim.seq (Sim.reg (A := p7) (B := p0) (fun _ _ _ => by kernel_rfl))
  (Sim.ret (A := p0) (E := ex) (fun _ => ⟨rfl, rfl, rfl, trivial⟩))))))

def init (x_src : Sl) : St := { x_src := x_src, x_n := 0, x_used := 0, x_ok := 0, x_i := 0, x_b := 0 }

/-- What is left of the results. -/
def res (K : Int → Int → Int → Heap → Prop) (s : St) (h1 : Heap) : Prop := K s.x_n s.x_used s.x_ok h1

/-- The call of 'pub-pemmican/spec.S2Len'. -/
theorem calls (x_src : Sl) (h : Heap) (K : Int → Int → Int → Heap → Prop)
    (H : stm (init x_src) h (endK (res K))) : c_spec_S2Len x_src h K := by
  have hc : CallsH Pg 12 #[(.slice x_src.p x_src.n x_src.c)] h fun v h1 => asT v fun l1 => asC l1 fun v1 l2 => asI .i64 v1 fun n1 => asC l2 fun v2 l3 => asI .i64 v2 fun n2 => asC l3 fun v3 l4 => asI .i64 v3 fun n3 => asN l4 (K n1 n2 n3 h1) :=
    callsH_of_sim (R := p0) (fn := Tryd.f12) (c := Tryd.f12.body.getD .skip) Tryd.func12 rfl Tryd.ntmps12 Tryd.call12 sim (init x_src) (⟨rfl, trivial⟩) (Nat.le_of_ble_eq_true rfl) (fun _ => ⟨rfl, rfl, rfl, trivial⟩) rfl
      (res K) (fun _ _ => by kernel_rfl) H
  refine hc.mono ?_
  intro v hp H
  obtain ⟨l1, rfl, h1⟩ := asT_elim H
  obtain ⟨v1, l2, rfl, h2⟩ := asC_elim h1
  obtain ⟨n1, rfl, h3⟩ := asI_elim h2
  obtain ⟨v2, l3, rfl, h4⟩ := asC_elim h3
  obtain ⟨n2, rfl, h5⟩ := asI_elim h4
  obtain ⟨v3, l4, rfl, h6⟩ := asC_elim h5
  obtain ⟨n3, rfl, h7⟩ := asI_elim h6
  obtain ⟨rfl, h8⟩ := asN_elim h7
  exact ⟨_, _, _, rfl, h8⟩

end M_spec_S2Len

end Go.Proofs.YtibleenkgmkpmaaDoor

namespace Go.Proofs.YtibleenkgmkpmaaDoor
open Go Go.Vc Go.Proofs

namespace M_spec_decoded

structure St where
  x_src : Sl
  x_s : Option Addr
  x_s2 : Bool
  t6 : Sl
  t7 : Int
  x_n : Int
  x_used : Int
  x_ok : Int
  x_is : Int

def p0 : Pt St where
  env s := [(6, (.slice s.t6.p s.t6.n s.t6.c)), (7, (.int .i64 s.t7))]
  fin e s K := vS e 6 fun p1 n1 c1 => vI e 7 .i64 fun n2 => K { s with t6 := ⟨p1, n1, c1⟩, t7 := n2 }
  ok := by
    intro e s K h0
    obtain ⟨p1, n1, c1, g1, h2⟩ := gS h0
    obtain ⟨n2, g2, h4⟩ := gI h2
    exact ⟨_, ⟨g1, g2, trivial⟩, h4⟩

def p1 : Pt St where
  env s := [(0, (.slice s.x_src.p s.x_src.n s.x_src.c)), (1, (.pointer s.x_s)), (2, (.bool s.x_s2))]
  fin e s K := vS e 0 fun p1 n1 c1 => vP e 1 fun p2 => vB e 2 fun b1 => K { s with x_src := ⟨p1, n1, c1⟩, x_s := p2, x_s2 := b1 }
  ok := by
    intro e s K h0
    obtain ⟨p1, n1, c1, g1, h2⟩ := gS h0
    obtain ⟨p2, g2, h4⟩ := gP h2
    obtain ⟨b1, g3, h6⟩ := gB h4
    exact ⟨_, ⟨g1, g2, g3, trivial⟩, h6⟩

def p2 : Pt St where
  env s := [(0, (.slice s.x_src.p s.x_src.n s.x_src.c)), (1, (.pointer s.x_s)), (2, (.bool s.x_s2)), (8, (.int .i64 s.x_n)), (9, (.int .i64 s.x_used)), (10, (.int .i64 s.x_ok))]
  fin e s K := vS e 0 fun p1 n1 c1 => vP e 1 fun p2 => vB e 2 fun b1 => vI e 8 .i64 fun n2 => vI e 9 .i64 fun n3 => vI e 10 .i64 fun n4 => K { s with x_src := ⟨p1, n1, c1⟩, x_s := p2, x_s2 := b1, x_n := n2, x_used := n3, x_ok := n4 }
  ok := by
    intro e s K h0
    obtain ⟨p1, n1, c1, g1, h2⟩ := gS h0
    obtain ⟨p2, g2, h4⟩ := gP h2
    obtain ⟨b1, g3, h6⟩ := gB h4
    obtain ⟨n2, g4, h8⟩ := gI h6
    obtain ⟨n3, g5, h10⟩ := gI h8
    obtain ⟨n4, g6, h12⟩ := gI h10
    exact ⟨_, ⟨g1, g2, g3, g4, g5, g6, trivial⟩, h12⟩

def p3 : Pt St where
  env s := [(1, (.pointer s.x_s)), (10, (.int .i64 s.x_ok)), (11, (.int .i64 s.x_is))]
  fin e s K := vP e 1 fun p1 => vI e 10 .i64 fun n1 => vI e 11 .i64 fun n2 => K { s with x_s := p1, x_ok := n1, x_is := n2 }
  ok := by
    intro e s K h0
    obtain ⟨p1, g1, h2⟩ := gP h0
    obtain ⟨n1, g2, h4⟩ := gI h2
    obtain ⟨n2, g3, h6⟩ := gI h4
    exact ⟨_, ⟨g1, g2, g3, trivial⟩, h6⟩

def p4 : Pt St where
  env s := [(1, (.pointer s.x_s))]
  fin e s K := vP e 1 fun p1 => K { s with x_s := p1 }
  ok := by
    intro e s K h0
    obtain ⟨p1, g1, h2⟩ := gP h0
    exact ⟨_, ⟨g1, trivial⟩, h2⟩

def r0 (s : St) (h : Heap) (Q : St → Heap → Prop) : Prop :=
  Q s h

def r1 (s : St) (h : Heap) (Q : St → Heap → Prop) : Prop :=
  c_spec_S2Len s.x_src h fun r2 r3 r4 h1 =>
  Q { s with x_n := r2, x_used := r3, x_ok := r4 } h1

def r2 (s : St) (h : Heap) (Q : Bool → St → Heap → Prop) : Prop :=
  Q (s.x_ok == (0 : Int)) s h

def r3 (s : St) (h : Heap) (Q : St → Heap → Prop) : Prop :=
  Q { s with t6 := ⟨none, 0, 0⟩, t7 := (0 : Int) } h

def r4 (s : St) (h : Heap) (Q : Bool → St → Heap → Prop) : Prop :=
  Q (decide (s.x_n > (4194304 : Int))) s h

def r5 (s : St) (h : Heap) (Q : St → Heap → Prop) : Prop :=
  Q { s with t6 := ⟨none, 0, 0⟩, t7 := (2 : Int) } h

def r6 (s : St) (h : Heap) (Q : St → Heap → Prop) : Prop :=
  c_state_elements s.x_s s.x_src s.x_used s.x_n s.x_s2 h fun r2 h1 =>
  Q { s with x_is := r2 } h1

def r7 (s : St) (h : Heap) (Q : Bool → St → Heap → Prop) : Prop :=
  Q (s.x_is == (0 : Int)) s h

def r8 (s : St) (h : Heap) (Q : St → Heap → Prop) : Prop :=
  Q { s with t6 := ⟨none, 0, 0⟩, t7 := (0 : Int) } h

def r9 (s : St) (h : Heap) (Q : Bool → St → Heap → Prop) : Prop :=
  (if (s.x_is == (2 : Int)) = false then
  (Q (s.x_ok == (2 : Int)) s h)
  else
  (Q true s h))

def r10 (s : St) (h : Heap) (Q : St → Heap → Prop) : Prop :=
  Q { s with t6 := ⟨none, 0, 0⟩, t7 := (2 : Int) } h

def r11 (s : St) (h : Heap) (Q : St → Heap → Prop) : Prop :=
  ptrE s.x_s fun a1 =>
  ∃ (p2 : Option Addr) (n3 c4 : Nat), hcell h (Addr.add a1 0) = some (.slice p2 n3 c4) ∧
  Q { s with t6 := ⟨p2, n3, c4⟩, t7 := (1 : Int) } h

def k5 : Stm St := (.seq (.test r9 (.seq (.reg r10) .ret) .skip) (.seq (.reg r11) .ret))
def k4 : Stm St := (.seq (.test r7 (.seq (.reg r8) .ret) .skip) k5)
def k3 : Stm St := (.seq (.reg r6) k4)
def k2 : Stm St := (.seq (.test r4 (.seq (.reg r5) .ret) .skip) k3)
def k1 : Stm St := (.seq (.test r2 (.seq (.reg r3) .ret) .skip) k2)
def k0 : Stm St := (.seq (.reg r1) k1)

def stm : Stm St := (.seq (.reg r0) k0)

def ex : Ex → Pt St := fun _ => p0

set_option maxRecDepth 100000 in
theorem sim : Sim Pg 40 p1 (Tryd.f35.body.getD .skip) stm p0 ex :=
  (Sim.seq (Sim.reg (A := p1) (B := p1) (fun _ _ _ => by kernel_rfl))
  (Sim.seq (Sim.reg (A := p1) (B := p2) (fun _ _ _ => by kernel_rfl))
  (Sim.seq (Sim.test (A := p2) (B := p2) (fun _ _ _ => by kernel_rfl) (Sim.seq (Sim.reg (A := p2) (B := p0) (fun _ _ _ => by kernel_rfl))
  (Sim.ret (A := p0) (E := ex) (fun _ => ⟨rfl, rfl, trivial⟩)))
  (Sim.skip (A := p2)))
  (Sim.seq (Sim.test (A := p2) (B := p2) (fun _ _ _ => by kernel_rfl) (Sim.seq (Sim.reg (A := p2) (B := p0) (fun _ _ _ => by kernel_rfl))
  (Sim.ret (A := p0) (E := ex) (fun _ => ⟨rfl, rfl, trivial⟩)))
  (Sim.skip (A := p2)))
  (Sim.seq (Sim.reg (A := p2) (B := p3) (fun _ _ _ => by kernel_rfl))
  (Sim.seq (Sim.test (A := p3) (B := p3) (fun _ _ _ => by kernel_rfl) (Sim.seq (Sim.reg (A := p3) (B := p0) (fun _ _ _ => by kernel_rfl))
  (Sim.ret (A := p0) (E := ex) (fun _ => ⟨rfl, rfl, trivial⟩)))
  (Sim.skip (A := p3)))
  (Sim.seq (Sim.test (A := p3) (B := p4) (fun _ _ _ => by kernel_rfl) (Sim.seq (Sim.reg (A := p4) (B := p0) (fun _ _ _ => by kernel_rfl))
  (Sim.ret (A := p0) (E := ex) (fun _ => ⟨rfl, rfl, trivial⟩)))
  (Sim.skip (A := p4)))
  (Sim.seq (Sim.reg (A := p4) (B := p0) (fun _ _ _ => by kernel_rfl))
  (Sim.ret (A := p0) (E := ex) (fun _ => ⟨rfl, rfl, trivial⟩))))))))))

def init (x_src : Sl) (x_s : Option Addr) (x_s2 : Bool) : St := { x_src := x_src, x_s := x_s, x_s2 := x_s2, t6 := Sl.nil, t7 := 0, x_n := 0, x_used := 0, x_ok := 0, x_is := 0 }

/-- What is left of the results. -/
def res (K : Sl → Int → Heap → Prop) (s : St) (h1 : Heap) : Prop := K s.t6 s.t7 h1

/-- The call of 'pub-pemmican/spec.decoded'. -/
theorem calls (x_src : Sl) (x_s : Option Addr) (x_s2 : Bool) (h : Heap) (K : Sl → Int → Heap → Prop)
    (H : stm (init x_src x_s x_s2) h (endK (res K))) : c_spec_decoded x_src x_s x_s2 h K := by
  have hc : CallsH Pg 35 #[(.slice x_src.p x_src.n x_src.c), (.pointer x_s), (.bool x_s2)] h fun v h1 => asT v fun l1 => asC l1 fun v1 l2 => asS v1 fun p1 n1 c1 => asC l2 fun v2 l3 => asI .i64 v2 fun n2 => asN l3 (K ⟨p1, n1, c1⟩ n2 h1) :=
    callsH_of_sim (R := p0) (fn := Tryd.f35) (c := Tryd.f35.body.getD .skip) Tryd.func35 rfl Tryd.ntmps35 Tryd.call35 sim (init x_src x_s x_s2) (⟨rfl, rfl, rfl, trivial⟩) (Nat.le_of_ble_eq_true rfl) (fun _ => ⟨rfl, rfl, trivial⟩) rfl
      (res K) (fun _ _ => by kernel_rfl) H
  refine hc.mono ?_
  intro v hp H
  obtain ⟨l1, rfl, h1⟩ := asT_elim H
  obtain ⟨v1, l2, rfl, h2⟩ := asC_elim h1
  obtain ⟨p1, n1, c1, rfl, h3⟩ := asS_elim h2
  obtain ⟨v2, l3, rfl, h4⟩ := asC_elim h3
  obtain ⟨n2, rfl, h5⟩ := asI_elim h4
  obtain ⟨rfl, h6⟩ := asN_elim h5
  exact ⟨_, _, _, _, rfl, h6⟩

end M_spec_decoded

end Go.Proofs.YtibleenkgmkpmaaDoor

namespace Go.Proofs.YtibleenkgmkpmaaDoor
open Go Go.Vc Go.Proofs

namespace M_spec_S2Decode

structure St where
  x_src : Sl
  x_out : Sl
  x_ok : Int

def p0 : Pt St where
  env s := [(2, (.slice s.x_out.p s.x_out.n s.x_out.c)), (3, (.int .i64 s.x_ok))]
  fin e s K := vS e 2 fun p1 n1 c1 => vI e 3 .i64 fun n2 => K { s with x_out := ⟨p1, n1, c1⟩, x_ok := n2 }
  ok := by
    intro e s K h0
    obtain ⟨p1, n1, c1, g1, h2⟩ := gS h0
    obtain ⟨n2, g2, h4⟩ := gI h2
    exact ⟨_, ⟨g1, g2, trivial⟩, h4⟩

def p1 : Pt St where
  env s := [(0, (.slice s.x_src.p s.x_src.n s.x_src.c))]
  fin e s K := vS e 0 fun p1 n1 c1 => K { s with x_src := ⟨p1, n1, c1⟩ }
  ok := by
    intro e s K h0
    obtain ⟨p1, n1, c1, g1, h2⟩ := gS h0
    exact ⟨_, ⟨g1, trivial⟩, h2⟩

def r0 (s : St) (h : Heap) (Q : St → Heap → Prop) : Prop :=
  Q s h

def r1 (s : St) (h : Heap) (Q : St → Heap → Prop) : Prop :=
  withH (hnew h [(.slice none 0 0), (.slice none 0 0), (.int .i64 (0 : Int)), (.bool false)] 65) fun h1 =>
  c_spec_decoded s.x_src (some ⟨Array.size h, 0, none⟩) true h1 fun w3 r4 h2 =>
  Q { s with x_out := w3, x_ok := r4 } h2

def stm : Stm St := (.seq (.reg r0) (.seq (.reg r1) .ret))

def ex : Ex → Pt St := fun _ => p0

set_option maxRecDepth 100000 in
theorem sim : Sim Pg 10 p1 (Tryd.f13.body.getD .skip) stm p0 ex :=
  (Sim.seq (Sim.reg (A := p1) (B := p1) (fun _ _ _ => by kernel_rfl))
  (Sim.seq (Sim.reg (A := p1) (B := p0) (fun _ _ _ => by kernel_rfl))
  (Sim.ret (A := p0) (E := ex) (fun _ => ⟨rfl, rfl, trivial⟩))))

def init (x_src : Sl) : St := { x_src := x_src, x_out := Sl.nil, x_ok := 0 }

/-- What is left of the results. -/
def res (K : Sl → Int → Heap → Prop) (s : St) (h1 : Heap) : Prop := K s.x_out s.x_ok h1

/-- The call of 'pub-pemmican/spec.S2Decode'. -/
theorem calls (x_src : Sl) (h : Heap) (K : Sl → Int → Heap → Prop)
    (H : stm (init x_src) h (endK (res K))) : c_spec_S2Decode x_src h K := by
  have hc : CallsH Pg 13 #[(.slice x_src.p x_src.n x_src.c)] h fun v h1 => asT v fun l1 => asC l1 fun v1 l2 => asS v1 fun p1 n1 c1 => asC l2 fun v2 l3 => asI .i64 v2 fun n2 => asN l3 (K ⟨p1, n1, c1⟩ n2 h1) :=
    callsH_of_sim (R := p0) (fn := Tryd.f13) (c := Tryd.f13.body.getD .skip) Tryd.func13 rfl Tryd.ntmps13 Tryd.call13 sim (init x_src) (⟨rfl, trivial⟩) (Nat.le_of_ble_eq_true rfl) (fun _ => ⟨rfl, rfl, trivial⟩) rfl
      (res K) (fun _ _ => by kernel_rfl) H
  refine hc.mono ?_
  intro v hp H
  obtain ⟨l1, rfl, h1⟩ := asT_elim H
  obtain ⟨v1, l2, rfl, h2⟩ := asC_elim h1
  obtain ⟨p1, n1, c1, rfl, h3⟩ := asS_elim h2
  obtain ⟨v2, l3, rfl, h4⟩ := asC_elim h3
  obtain ⟨n2, rfl, h5⟩ := asI_elim h4
  obtain ⟨rfl, h6⟩ := asN_elim h5
  exact ⟨_, _, _, _, rfl, h6⟩

end M_spec_S2Decode

end Go.Proofs.YtibleenkgmkpmaaDoor

namespace Go.Proofs.YtibleenkgmkpmaaDoor
open Go Go.Vc Go.Proofs

namespace M_impl_copied

structure St where
  x_b : Sl
  t2 : Sl

def p0 : Pt St where
  env s := [(2, (.slice s.t2.p s.t2.n s.t2.c))]
  fin e s K := vS e 2 fun p1 n1 c1 => K { s with t2 := ⟨p1, n1, c1⟩ }
  ok := by
    intro e s K h0
    obtain ⟨p1, n1, c1, g1, h2⟩ := gS h0
    exact ⟨_, ⟨g1, trivial⟩, h2⟩

def p1 : Pt St where
  env s := [(0, (.slice s.x_b.p s.x_b.n s.x_b.c))]
  fin e s K := vS e 0 fun p1 n1 c1 => K { s with x_b := ⟨p1, n1, c1⟩ }
  ok := by
    intro e s K h0
    obtain ⟨p1, n1, c1, g1, h2⟩ := gS h0
    exact ⟨_, ⟨g1, trivial⟩, h2⟩

def r0 (s : St) (h : Heap) (Q : St → Heap → Prop) : Prop :=
  Q s h

def r1 (s : St) (h : Heap) (Q : St → Heap → Prop) : Prop :=
  withH (hnew h [] 5) fun h1 =>
  appendT Pg 5 (some ⟨Array.size h, 0, none⟩) 0 0 (.slice s.x_b.p s.x_b.n s.x_b.c) s.x_b.n h1 fun p2 n3 c4 h5 =>
  Q { s with t2 := ⟨p2, n3, c4⟩ } h5

def stm : Stm St := (.seq (.reg r0) (.seq (.reg r1) .ret))

def ex : Ex → Pt St := fun _ => p0

set_option maxRecDepth 100000 in
theorem sim : Sim Pg 6 p1 (Tryd.f45.body.getD .skip) stm p0 ex :=
  (Sim.seq (Sim.reg (A := p1) (B := p1) (fun _ _ _ => by kernel_rfl))
  (Sim.seq (Sim.reg (A := p1) (B := p0) (fun _ _ _ => by kernel_rfl))
  (Sim.ret (A := p0) (E := ex) (fun _ => ⟨rfl, trivial⟩))))

def init (x_b : Sl) : St := { x_b := x_b, t2 := Sl.nil }

/-- What is left of the results. -/
def res (K : Sl → Heap → Prop) (s : St) (h1 : Heap) : Prop := K s.t2 h1

/-- The call of 'pub-pemmican/impl.copied'. -/
theorem calls (x_b : Sl) (h : Heap) (K : Sl → Heap → Prop)
    (H : stm (init x_b) h (endK (res K))) : c_impl_copied x_b h K := by
  have hc : CallsH Pg 45 #[(.slice x_b.p x_b.n x_b.c)] h fun v h1 => asS v fun p1 n1 c1 => K ⟨p1, n1, c1⟩ h1 :=
    callsH_of_sim (R := p0) (fn := Tryd.f45) (c := Tryd.f45.body.getD .skip) Tryd.func45 rfl Tryd.ntmps45 Tryd.call45 sim (init x_b) (⟨rfl, trivial⟩) (Nat.le_of_ble_eq_true rfl) (fun _ => ⟨rfl, trivial⟩) rfl
      (res K) (fun _ _ => by kernel_rfl) H
  refine hc.mono ?_
  intro v hp H
  obtain ⟨p1, n1, c1, rfl, h1⟩ := asS_elim H
  exact ⟨_, _, _, rfl, h1⟩

end M_impl_copied

end Go.Proofs.YtibleenkgmkpmaaDoor

namespace Go.Proofs.YtibleenkgmkpmaaDoor
open Go Go.Vc Go.Proofs

namespace M_laws_eq

structure St where
  x_a : Sl
  x_b : Sl
  t4 : Bool
  x_i : Int
  t12 : Int
  t13 : Int
  t14 : Bool

def p0 : Pt St where
  env s := [(4, (.bool s.t4))]
  fin e s K := vB e 4 fun b1 => K { s with t4 := b1 }
  ok := by
    intro e s K h0
    obtain ⟨b1, g1, h2⟩ := gB h0
    exact ⟨_, ⟨g1, trivial⟩, h2⟩

def p1 : Pt St where
  env s := [(0, (.slice s.x_a.p s.x_a.n s.x_a.c)), (1, (.slice s.x_b.p s.x_b.n s.x_b.c))]
  fin e s K := vS e 0 fun p1 n1 c1 => vS e 1 fun p2 n2 c2 => K { s with x_a := ⟨p1, n1, c1⟩, x_b := ⟨p2, n2, c2⟩ }
  ok := by
    intro e s K h0
    obtain ⟨p1, n1, c1, g1, h2⟩ := gS h0
    obtain ⟨p2, n2, c2, g2, h4⟩ := gS h2
    exact ⟨_, ⟨g1, g2, trivial⟩, h4⟩

def p2 : Pt St where
  env s := [(0, (.slice s.x_a.p s.x_a.n s.x_a.c)), (1, (.slice s.x_b.p s.x_b.n s.x_b.c)), (12, (.int .i64 s.t12)), (13, (.int .i64 s.t13))]
  fin e s K := vS e 0 fun p1 n1 c1 => vS e 1 fun p2 n2 c2 => vI e 12 .i64 fun n3 => vI e 13 .i64 fun n4 => K { s with x_a := ⟨p1, n1, c1⟩, x_b := ⟨p2, n2, c2⟩, t12 := n3, t13 := n4 }
  ok := by
    intro e s K h0
    obtain ⟨p1, n1, c1, g1, h2⟩ := gS h0
    obtain ⟨p2, n2, c2, g2, h4⟩ := gS h2
    obtain ⟨n3, g3, h6⟩ := gI h4
    obtain ⟨n4, g4, h8⟩ := gI h6
    exact ⟨_, ⟨g1, g2, g3, g4, trivial⟩, h8⟩

def p3 : Pt St where
  env s := []
  fin e s K := K s
  ok := by
    intro e s K h0
    exact ⟨_, trivial, h0⟩

def p4 : Pt St where
  env s := [(0, (.slice s.x_a.p s.x_a.n s.x_a.c)), (1, (.slice s.x_b.p s.x_b.n s.x_b.c)), (12, (.int .i64 s.t12)), (13, (.int .i64 s.t13)), (14, (.bool s.t14))]
  fin e s K := vS e 0 fun p1 n1 c1 => vS e 1 fun p2 n2 c2 => vI e 12 .i64 fun n3 => vI e 13 .i64 fun n4 => vB e 14 fun b1 => K { s with x_a := ⟨p1, n1, c1⟩, x_b := ⟨p2, n2, c2⟩, t12 := n3, t13 := n4, t14 := b1 }
  ok := by
    intro e s K h0
    obtain ⟨p1, n1, c1, g1, h2⟩ := gS h0
    obtain ⟨p2, n2, c2, g2, h4⟩ := gS h2
    obtain ⟨n3, g3, h6⟩ := gI h4
    obtain ⟨n4, g4, h8⟩ := gI h6
    obtain ⟨b1, g5, h10⟩ := gB h8
    exact ⟨_, ⟨g1, g2, g3, g4, g5, trivial⟩, h10⟩

def p5 : Pt St where
  env s := [(0, (.slice s.x_a.p s.x_a.n s.x_a.c)), (1, (.slice s.x_b.p s.x_b.n s.x_b.c)), (5, (.int .i64 s.x_i)), (12, (.int .i64 s.t12)), (13, (.int .i64 s.t13))]
  fin e s K := vS e 0 fun p1 n1 c1 => vS e 1 fun p2 n2 c2 => vI e 5 .i64 fun n3 => vI e 12 .i64 fun n4 => vI e 13 .i64 fun n5 => K { s with x_a := ⟨p1, n1, c1⟩, x_b := ⟨p2, n2, c2⟩, x_i := n3, t12 := n4, t13 := n5 }
  ok := by
    intro e s K h0
    obtain ⟨p1, n1, c1, g1, h2⟩ := gS h0
    obtain ⟨p2, n2, c2, g2, h4⟩ := gS h2
    obtain ⟨n3, g3, h6⟩ := gI h4
    obtain ⟨n4, g4, h8⟩ := gI h6
    obtain ⟨n5, g5, h10⟩ := gI h8
    exact ⟨_, ⟨g1, g2, g3, g4, g5, trivial⟩, h10⟩

def r0 (s : St) (h : Heap) (Q : St → Heap → Prop) : Prop :=
  Q s h

def r1 (s : St) (h : Heap) (Q : Bool → St → Heap → Prop) : Prop :=
  Q (((s.x_a.n : Nat) : Int) != ((s.x_b.n : Nat) : Int)) s h

def r2 (s : St) (h : Heap) (Q : St → Heap → Prop) : Prop :=
  Q { s with t4 := false } h

def r3 (s : St) (h : Heap) (Q : St → Heap → Prop) : Prop :=
  Q { s with t12 := ((s.x_a.n : Nat) : Int), t13 := (0 : Int) } h

def r4 (s : St) (h : Heap) (Q : St → Heap → Prop) : Prop :=
  Q { s with t14 := (decide (s.t13 < s.t12)) } h

def r5 (s : St) (h : Heap) (Q : St → Heap → Prop) : Prop :=
  Q { s with x_i := s.t13 } h

def r6 (s : St) (h : Heap) (Q : Bool → St → Heap → Prop) : Prop :=
  0 ≤ s.x_i ∧ s.x_i < ((s.x_a.n : Nat) : Int) ∧
  ptrE s.x_a.p fun a1 =>
  ∃ v2 : Int, hcell h (Addr.add a1 (Int.toNat s.x_i * 1)) = some (.int .u8 v2) ∧
  0 ≤ s.x_i ∧ s.x_i < ((s.x_b.n : Nat) : Int) ∧
  ptrE s.x_b.p fun a3 =>
  ∃ v4 : Int, hcell h (Addr.add a3 (Int.toNat s.x_i * 1)) = some (.int .u8 v4) ∧
  Q (v2 != v4) s h

def r7 (s : St) (h : Heap) (Q : St → Heap → Prop) : Prop :=
  Q { s with t4 := false } h

def r8 (s : St) (h : Heap) (Q : St → Heap → Prop) : Prop :=
  Q { s with t13 := (IntKind.wrap .i64 (s.t13 + (1 : Int))) } h

def r9 (s : St) (h : Heap) (Q : St → Heap → Prop) : Prop :=
  Q { s with t4 := true } h

def k6 : Stm St := (.test r6 (.seq (.reg r7) .ret) .skip)
def k5 : Stm St := (.seq (.block 1 (.seq (.reg r5) k6)) (.reg r8))
def k4 : Stm St := (.seq (.cond (fun s => s.t14) .skip (.exit 0)) k5)
def k3 : Stm St := (.seq (.reg r4) k4)
def k2 : Stm St := (.block 0 (.loop k3))
def k1 : Stm St := (.seq (.seq (.reg r3) k2) (.seq (.reg r9) .ret))
def k0 : Stm St := (.seq (.test r1 (.seq (.reg r2) .ret) .skip) k1)

def stm : Stm St := (.seq (.reg r0) k0)

def ex : Ex → Pt St := fun _ => p0

set_option maxRecDepth 100000 in
theorem sim : Sim Pg 26 p1 (Tryd.f15.body.getD .skip) stm p0 ex :=
  (Sim.seq (Sim.reg (A := p1) (B := p1) (fun _ _ _ => by kernel_rfl))
  (Sim.seq (Sim.test (A := p1) (B := p1) (fun _ _ _ => by kernel_rfl) (Sim.seq (Sim.reg (A := p1) (B := p0) (fun _ _ _ => by kernel_rfl))
  (Sim.ret (A := p0) (E := ex) (fun _ => ⟨rfl, trivial⟩)))
  (Sim.skip (A := p1)))
  (Sim.seq (Sim.seq (Sim.reg (A := p1) (B := p2) (fun _ _ _ => by kernel_rfl))
  (Sim.block (B := p3) (Sim.loop (A := p2) (Sim.seq (Sim.reg (A := p2) (B := p4) (fun _ _ _ => by kernel_rfl))
  (Sim.seq (Sim.cond (A := p4) (fun s => s.t14) (fun _ => rfl) (Sim.weak (B := p4) (C := p2) (Sim.skip (A := p4)) (fun _ => ⟨rfl, rfl, rfl, rfl, trivial⟩))
  (Sim.exit (A := p4) (fun _ => trivial)))
  (Sim.seq (Sim.block (B := p2) (Sim.seq (Sim.reg (A := p2) (B := p5) (fun _ _ _ => by kernel_rfl))
  (Sim.test (A := p5) (B := p2) (fun _ _ _ => by kernel_rfl) (Sim.seq (Sim.reg (A := p2) (B := p0) (fun _ _ _ => by kernel_rfl))
  (Sim.ret (A := p0) (E := (exAt (exAt ex 0 p3) 1 p2)) (fun _ => ⟨rfl, trivial⟩)))
  (Sim.skip (A := p2)))))
  (Sim.reg (A := p2) (B := p2) (fun _ _ _ => by kernel_rfl))))))))
  (Sim.seq (Sim.reg (A := p3) (B := p0) (fun _ _ _ => by kernel_rfl))
  (Sim.ret (A := p0) (E := ex) (fun _ => ⟨rfl, trivial⟩))))))

def init (x_a : Sl) (x_b : Sl) : St := { x_a := x_a, x_b := x_b, t4 := false, x_i := 0, t12 := 0, t13 := 0, t14 := false }

/-- What is left of the results. -/
def res (K : Bool → Heap → Prop) (s : St) (h1 : Heap) : Prop := K s.t4 h1

/-- The call of 'pub-pemmican/laws.eq'. -/
theorem calls (x_a : Sl) (x_b : Sl) (h : Heap) (K : Bool → Heap → Prop)
    (H : stm (init x_a x_b) h (endK (res K))) : c_laws_eq x_a x_b h K := by
  have hc : CallsH Pg 15 #[(.slice x_a.p x_a.n x_a.c), (.slice x_b.p x_b.n x_b.c)] h fun v h1 => asB v fun b1 => K b1 h1 :=
    callsH_of_sim (R := p0) (fn := Tryd.f15) (c := Tryd.f15.body.getD .skip) Tryd.func15 rfl Tryd.ntmps15 Tryd.call15 sim (init x_a x_b) (⟨rfl, rfl, trivial⟩) (Nat.le_of_ble_eq_true rfl) (fun _ => ⟨rfl, trivial⟩) rfl
      (res K) (fun _ _ => by kernel_rfl) H
  refine hc.mono ?_
  intro v hp H
  obtain ⟨b1, rfl, h1⟩ := asB_elim H
  exact ⟨_, rfl, h1⟩

end M_laws_eq

end Go.Proofs.YtibleenkgmkpmaaDoor

namespace Go.Proofs.YtibleenkgmkpmaaDoor
open Go Go.Vc Go.Proofs

namespace M_emitRepeat

structure St where
  x_dst : Sl
  x_offset : Int
  x_length : Int
  t6 : Int
  x_left : Int

def p0 : Pt St where
  env s := [(6, (.int .i64 s.t6))]
  fin e s K := vI e 6 .i64 fun n1 => K { s with t6 := n1 }
  ok := by
    intro e s K h0
    obtain ⟨n1, g1, h2⟩ := gI h0
    exact ⟨_, ⟨g1, trivial⟩, h2⟩

def p1 : Pt St where
  env s := [(0, (.slice s.x_dst.p s.x_dst.n s.x_dst.c)), (1, (.int .i64 s.x_offset)), (2, (.int .i64 s.x_length))]
  fin e s K := vS e 0 fun p1 n1 c1 => vI e 1 .i64 fun n2 => vI e 2 .i64 fun n3 => K { s with x_dst := ⟨p1, n1, c1⟩, x_offset := n2, x_length := n3 }
  ok := by
    intro e s K h0
    obtain ⟨p1, n1, c1, g1, h2⟩ := gS h0
    obtain ⟨n2, g2, h4⟩ := gI h2
    obtain ⟨n3, g3, h6⟩ := gI h4
    exact ⟨_, ⟨g1, g2, g3, trivial⟩, h6⟩

def p2 : Pt St where
  env s := [(0, (.slice s.x_dst.p s.x_dst.n s.x_dst.c))]
  fin e s K := vS e 0 fun p1 n1 c1 => K { s with x_dst := ⟨p1, n1, c1⟩ }
  ok := by
    intro e s K h0
    obtain ⟨p1, n1, c1, g1, h2⟩ := gS h0
    exact ⟨_, ⟨g1, trivial⟩, h2⟩

def p3 : Pt St where
  env s := []
  fin e s K := K s
  ok := by
    intro e s K h0
    exact ⟨_, trivial, h0⟩

def p4 : Pt St where
  env s := [(0, (.slice s.x_dst.p s.x_dst.n s.x_dst.c)), (2, (.int .i64 s.x_length))]
  fin e s K := vS e 0 fun p1 n1 c1 => vI e 2 .i64 fun n2 => K { s with x_dst := ⟨p1, n1, c1⟩, x_length := n2 }
  ok := by
    intro e s K h0
    obtain ⟨p1, n1, c1, g1, h2⟩ := gS h0
    obtain ⟨n2, g2, h4⟩ := gI h2
    exact ⟨_, ⟨g1, g2, trivial⟩, h4⟩

def p5 : Pt St where
  env s := [(0, (.slice s.x_dst.p s.x_dst.n s.x_dst.c)), (1, (.int .i64 s.x_offset)), (2, (.int .i64 s.x_length)), (7, (.int .i64 s.x_left))]
  fin e s K := vS e 0 fun p1 n1 c1 => vI e 1 .i64 fun n2 => vI e 2 .i64 fun n3 => vI e 7 .i64 fun n4 => K { s with x_dst := ⟨p1, n1, c1⟩, x_offset := n2, x_length := n3, x_left := n4 }
  ok := by
    intro e s K h0
    obtain ⟨p1, n1, c1, g1, h2⟩ := gS h0
    obtain ⟨n2, g2, h4⟩ := gI h2
    obtain ⟨n3, g3, h6⟩ := gI h4
    obtain ⟨n4, g4, h8⟩ := gI h6
    exact ⟨_, ⟨g1, g2, g3, g4, trivial⟩, h8⟩

def p6 : Pt St where
  env s := [(0, (.slice s.x_dst.p s.x_dst.n s.x_dst.c)), (1, (.int .i64 s.x_offset)), (7, (.int .i64 s.x_left))]
  fin e s K := vS e 0 fun p1 n1 c1 => vI e 1 .i64 fun n2 => vI e 7 .i64 fun n3 => K { s with x_dst := ⟨p1, n1, c1⟩, x_offset := n2, x_left := n3 }
  ok := by
    intro e s K h0
    obtain ⟨p1, n1, c1, g1, h2⟩ := gS h0
    obtain ⟨n2, g2, h4⟩ := gI h2
    obtain ⟨n3, g3, h6⟩ := gI h4
    exact ⟨_, ⟨g1, g2, g3, trivial⟩, h6⟩

def r0 (s : St) (h : Heap) (Q : St → Heap → Prop) : Prop :=
  Q s h

def r1 (s : St) (h : Heap) (Q : St → Heap → Prop) : Prop :=
  Q { s with x_length := (IntKind.wrap .i64 (s.x_length - (4 : Int))) } h

def r2 (s : St) (h : Heap) (Q : Bool → St → Heap → Prop) : Prop :=
  Q (decide (s.x_length ≤ (4 : Int))) s h

def r3 (s : St) (h : Heap) (Q : St → Heap → Prop) : Prop :=
  0 ≤ (0 : Int) ∧ (0 : Int) < ((s.x_dst.n : Nat) : Int) ∧
  ptrE s.x_dst.p fun a1 =>
  st1 (Addr.add (Addr.add a1 (Int.toNat (0 : Int) * 1)) 0) (.int .u8 (bOr .u8 (IntKind.wrap .u8 ((IntKind.wrap .u8 s.x_length) * 2 ^ (2 : Nat))) (1 : Int))) h fun h2 =>
  Q s h2

def r4 (s : St) (h : Heap) (Q : St → Heap → Prop) : Prop :=
  0 ≤ (1 : Int) ∧ (1 : Int) < ((s.x_dst.n : Nat) : Int) ∧
  ptrE s.x_dst.p fun a1 =>
  st1 (Addr.add (Addr.add a1 (Int.toNat (1 : Int) * 1)) 0) (.int .u8 (0 : Int)) h fun h2 =>
  Q s h2

def r5 (s : St) (h : Heap) (Q : St → Heap → Prop) : Prop :=
  Q { s with t6 := (2 : Int) } h

def r6 (s : St) (h : Heap) (Q : Bool → St → Heap → Prop) : Prop :=
  (if (decide (s.x_length < (8 : Int))) = true then
  (Q (decide (s.x_offset < (2048 : Int))) s h)
  else
  (Q false s h))

def r7 (s : St) (h : Heap) (Q : St → Heap → Prop) : Prop :=
  0 ≤ (1 : Int) ∧ (1 : Int) < ((s.x_dst.n : Nat) : Int) ∧
  ptrE s.x_dst.p fun a1 =>
  st1 (Addr.add (Addr.add a1 (Int.toNat (1 : Int) * 1)) 0) (.int .u8 (IntKind.wrap .u8 s.x_offset)) h fun h2 =>
  Q s h2

def r8 (s : St) (h : Heap) (Q : St → Heap → Prop) : Prop :=
  0 ≤ (0 : Int) ∧ (0 : Int) < ((s.x_dst.n : Nat) : Int) ∧
  ptrE s.x_dst.p fun a1 =>
  st1 (Addr.add (Addr.add a1 (Int.toNat (0 : Int) * 1)) 0) (.int .u8 (bOr .u8 (bOr .u8 (IntKind.wrap .u8 ((IntKind.wrap .u8 (Int.fdiv s.x_offset (2 ^ (8 : Nat)))) * 2 ^ (5 : Nat))) (IntKind.wrap .u8 ((IntKind.wrap .u8 s.x_length) * 2 ^ (2 : Nat)))) (1 : Int))) h fun h2 =>
  Q s h2

def r9 (s : St) (h : Heap) (Q : St → Heap → Prop) : Prop :=
  Q { s with t6 := (2 : Int) } h

def r10 (s : St) (h : Heap) (Q : Bool → St → Heap → Prop) : Prop :=
  Q (decide (s.x_length < (260 : Int))) s h

def r11 (s : St) (h : Heap) (Q : St → Heap → Prop) : Prop :=
  Q { s with x_length := (IntKind.wrap .i64 (s.x_length - (4 : Int))) } h

def r12 (s : St) (h : Heap) (Q : St → Heap → Prop) : Prop :=
  0 ≤ (2 : Int) ∧ (2 : Int) < ((s.x_dst.n : Nat) : Int) ∧
  ptrE s.x_dst.p fun a1 =>
  st1 (Addr.add (Addr.add a1 (Int.toNat (2 : Int) * 1)) 0) (.int .u8 (IntKind.wrap .u8 s.x_length)) h fun h2 =>
  Q s h2

def r13 (s : St) (h : Heap) (Q : St → Heap → Prop) : Prop :=
  0 ≤ (1 : Int) ∧ (1 : Int) < ((s.x_dst.n : Nat) : Int) ∧
  ptrE s.x_dst.p fun a1 =>
  st1 (Addr.add (Addr.add a1 (Int.toNat (1 : Int) * 1)) 0) (.int .u8 (0 : Int)) h fun h2 =>
  Q s h2

def r14 (s : St) (h : Heap) (Q : St → Heap → Prop) : Prop :=
  0 ≤ (0 : Int) ∧ (0 : Int) < ((s.x_dst.n : Nat) : Int) ∧
  ptrE s.x_dst.p fun a1 =>
  st1 (Addr.add (Addr.add a1 (Int.toNat (0 : Int) * 1)) 0) (.int .u8 (21 : Int)) h fun h2 =>
  Q s h2

def r15 (s : St) (h : Heap) (Q : St → Heap → Prop) : Prop :=
  Q { s with t6 := (3 : Int) } h

def r16 (s : St) (h : Heap) (Q : Bool → St → Heap → Prop) : Prop :=
  Q (decide (s.x_length < (65792 : Int))) s h

def r17 (s : St) (h : Heap) (Q : St → Heap → Prop) : Prop :=
  Q { s with x_length := (IntKind.wrap .i64 (s.x_length - (256 : Int))) } h

def r18 (s : St) (h : Heap) (Q : St → Heap → Prop) : Prop :=
  0 ≤ (3 : Int) ∧ (3 : Int) < ((s.x_dst.n : Nat) : Int) ∧
  ptrE s.x_dst.p fun a1 =>
  st1 (Addr.add (Addr.add a1 (Int.toNat (3 : Int) * 1)) 0) (.int .u8 (IntKind.wrap .u8 (Int.fdiv s.x_length (2 ^ (8 : Nat))))) h fun h2 =>
  Q s h2

def r19 (s : St) (h : Heap) (Q : St → Heap → Prop) : Prop :=
  0 ≤ (2 : Int) ∧ (2 : Int) < ((s.x_dst.n : Nat) : Int) ∧
  ptrE s.x_dst.p fun a1 =>
  st1 (Addr.add (Addr.add a1 (Int.toNat (2 : Int) * 1)) 0) (.int .u8 (IntKind.wrap .u8 (Int.fdiv s.x_length (2 ^ (0 : Nat))))) h fun h2 =>
  Q s h2

def r20 (s : St) (h : Heap) (Q : St → Heap → Prop) : Prop :=
  0 ≤ (1 : Int) ∧ (1 : Int) < ((s.x_dst.n : Nat) : Int) ∧
  ptrE s.x_dst.p fun a1 =>
  st1 (Addr.add (Addr.add a1 (Int.toNat (1 : Int) * 1)) 0) (.int .u8 (0 : Int)) h fun h2 =>
  Q s h2

def r21 (s : St) (h : Heap) (Q : St → Heap → Prop) : Prop :=
  0 ≤ (0 : Int) ∧ (0 : Int) < ((s.x_dst.n : Nat) : Int) ∧
  ptrE s.x_dst.p fun a1 =>
  st1 (Addr.add (Addr.add a1 (Int.toNat (0 : Int) * 1)) 0) (.int .u8 (25 : Int)) h fun h2 =>
  Q s h2

def r22 (s : St) (h : Heap) (Q : St → Heap → Prop) : Prop :=
  Q { s with t6 := (4 : Int) } h

def r23 (s : St) (h : Heap) (Q : St → Heap → Prop) : Prop :=
  Q { s with x_length := (IntKind.wrap .i64 (s.x_length - (65536 : Int))) } h

def r24 (s : St) (h : Heap) (Q : St → Heap → Prop) : Prop :=
  Q { s with x_left := (0 : Int) } h

def r25 (s : St) (h : Heap) (Q : Bool → St → Heap → Prop) : Prop :=
  Q (decide (s.x_length > (16777215 : Int))) s h

def r26 (s : St) (h : Heap) (Q : St → Heap → Prop) : Prop :=
  Q { s with x_left := (IntKind.wrap .i64 ((IntKind.wrap .i64 (s.x_length - (16777215 : Int))) + (4 : Int))) } h

def r27 (s : St) (h : Heap) (Q : St → Heap → Prop) : Prop :=
  Q { s with x_length := (16777211 : Int) } h

def r28 (s : St) (h : Heap) (Q : St → Heap → Prop) : Prop :=
  0 ≤ (4 : Int) ∧ (4 : Int) < ((s.x_dst.n : Nat) : Int) ∧
  ptrE s.x_dst.p fun a1 =>
  st1 (Addr.add (Addr.add a1 (Int.toNat (4 : Int) * 1)) 0) (.int .u8 (IntKind.wrap .u8 (Int.fdiv s.x_length (2 ^ (16 : Nat))))) h fun h2 =>
  Q s h2

def r29 (s : St) (h : Heap) (Q : St → Heap → Prop) : Prop :=
  0 ≤ (3 : Int) ∧ (3 : Int) < ((s.x_dst.n : Nat) : Int) ∧
  ptrE s.x_dst.p fun a1 =>
  st1 (Addr.add (Addr.add a1 (Int.toNat (3 : Int) * 1)) 0) (.int .u8 (IntKind.wrap .u8 (Int.fdiv s.x_length (2 ^ (8 : Nat))))) h fun h2 =>
  Q s h2

def r30 (s : St) (h : Heap) (Q : St → Heap → Prop) : Prop :=
  0 ≤ (2 : Int) ∧ (2 : Int) < ((s.x_dst.n : Nat) : Int) ∧
  ptrE s.x_dst.p fun a1 =>
  st1 (Addr.add (Addr.add a1 (Int.toNat (2 : Int) * 1)) 0) (.int .u8 (IntKind.wrap .u8 (Int.fdiv s.x_length (2 ^ (0 : Nat))))) h fun h2 =>
  Q s h2

def r31 (s : St) (h : Heap) (Q : St → Heap → Prop) : Prop :=
  0 ≤ (1 : Int) ∧ (1 : Int) < ((s.x_dst.n : Nat) : Int) ∧
  ptrE s.x_dst.p fun a1 =>
  st1 (Addr.add (Addr.add a1 (Int.toNat (1 : Int) * 1)) 0) (.int .u8 (0 : Int)) h fun h2 =>
  Q s h2

def r32 (s : St) (h : Heap) (Q : St → Heap → Prop) : Prop :=
  0 ≤ (0 : Int) ∧ (0 : Int) < ((s.x_dst.n : Nat) : Int) ∧
  ptrE s.x_dst.p fun a1 =>
  st1 (Addr.add (Addr.add a1 (Int.toNat (0 : Int) * 1)) 0) (.int .u8 (29 : Int)) h fun h2 =>
  Q s h2

def r33 (s : St) (h : Heap) (Q : Bool → St → Heap → Prop) : Prop :=
  Q (decide (s.x_left > (0 : Int))) s h

def r34 (s : St) (h : Heap) (Q : St → Heap → Prop) : Prop :=
  0 ≤ (5 : Int) ∧ (5 : Int) ≤ ((s.x_dst.n : Nat) : Int) ∧
  c_emitRepeat ⟨(subP s.x_dst.p (Int.toNat (5 : Int)) s.x_dst.c 1), (s.x_dst.n - (Int.toNat (5 : Int))), (s.x_dst.c - (Int.toNat (5 : Int)))⟩ s.x_offset s.x_left h fun r2 h1 =>
  Q { s with t6 := (IntKind.wrap .i64 ((5 : Int) + r2)) } h1

def r35 (s : St) (h : Heap) (Q : St → Heap → Prop) : Prop :=
  Q { s with t6 := (5 : Int) } h

def k26 : Stm St := (.seq (.test r33 (.seq (.reg r34) .ret) .skip) (.seq (.reg r35) .ret))
def k25 : Stm St := (.seq (.reg r32) k26)
def k24 : Stm St := (.seq (.reg r31) k25)
def k23 : Stm St := (.seq (.reg r30) k24)
def k22 : Stm St := (.seq (.reg r29) k23)
def k21 : Stm St := (.seq (.reg r28) k22)
def k20 : Stm St := (.seq (.test r25 (.seq (.reg r26) (.reg r27)) .skip) k21)
def k19 : Stm St := (.seq (.reg r24) k20)
def k18 : Stm St := (.seq (.reg r23) k19)
def k17 : Stm St := (.seq (.reg r21) (.seq (.reg r22) .ret))
def k16 : Stm St := (.seq (.reg r20) k17)
def k15 : Stm St := (.seq (.reg r19) k16)
def k14 : Stm St := (.seq (.reg r18) k15)
def k13 : Stm St := (.seq (.reg r17) k14)
def k12 : Stm St := (.seq (.test r16 k13 .skip) k18)
def k11 : Stm St := (.seq (.reg r14) (.seq (.reg r15) .ret))
def k10 : Stm St := (.seq (.reg r13) k11)
def k9 : Stm St := (.seq (.reg r12) k10)
def k8 : Stm St := (.seq (.reg r11) k9)
def k7 : Stm St := (.seq (.test r10 k8 .skip) k12)
def k6 : Stm St := (.seq (.reg r8) (.seq (.reg r9) .ret))
def k5 : Stm St := (.seq (.reg r7) k6)
def k4 : Stm St := (.seq (.test r6 k5 .skip) k7)
def k3 : Stm St := (.seq (.reg r4) (.seq (.reg r5) .ret))
def k2 : Stm St := (.seq (.reg r3) k3)
def k1 : Stm St := (.seq (.test r2 k2 .skip) k4)
def k0 : Stm St := (.seq (.reg r1) k1)

def stm : Stm St := (.seq (.reg r0) k0)

def ex : Ex → Pt St := fun _ => p0

set_option maxRecDepth 100000 in
theorem sim : Sim Pg 105 p1 (Tryd.f84.body.getD .skip) stm p0 ex :=
  (Sim.seq (Sim.reg (A := p1) (B := p1) (fun _ _ _ => by kernel_rfl))
  (Sim.seq (Sim.reg (A := p1) (B := p1) (fun _ _ _ => by kernel_rfl))
  (Sim.seq (Sim.test (A := p1) (B := p1) (fun _ _ _ => by kernel_rfl) (Sim.seq (Sim.reg (A := p1) (B := p2) (fun _ _ _ => by kernel_rfl))
  (Sim.seq (Sim.reg (A := p2) (B := p3) (fun _ _ _ => by kernel_rfl))
  (Sim.seq (Sim.reg (A := p3) (B := p0) (fun _ _ _ => by kernel_rfl))
  (Sim.ret (A := p0) (E := ex) (fun _ => ⟨rfl, trivial⟩)))))
  (Sim.skip (A := p1)))
  (Sim.seq (Sim.test (A := p1) (B := p1) (fun _ _ _ => by kernel_rfl) (Sim.seq (Sim.reg (A := p1) (B := p1) (fun _ _ _ => by kernel_rfl))
  (Sim.seq (Sim.reg (A := p1) (B := p3) (fun _ _ _ => by kernel_rfl))
  (Sim.seq (Sim.reg (A := p3) (B := p0) (fun _ _ _ => by kernel_rfl))
  (Sim.ret (A := p0) (E := ex) (fun _ => ⟨rfl, trivial⟩)))))
  (Sim.skip (A := p1)))
  (Sim.seq (Sim.test (A := p1) (B := p1) (fun _ _ _ => by kernel_rfl) (Sim.seq (Sim.reg (A := p1) (B := p4) (fun _ _ _ => by kernel_rfl))
  (Sim.seq (Sim.reg (A := p4) (B := p2) (fun _ _ _ => by kernel_rfl))
  (Sim.seq (Sim.reg (A := p2) (B := p2) (fun _ _ _ => by kernel_rfl))
  (Sim.seq (Sim.reg (A := p2) (B := p3) (fun _ _ _ => by kernel_rfl))
  (Sim.seq (Sim.reg (A := p3) (B := p0) (fun _ _ _ => by kernel_rfl))
  (Sim.ret (A := p0) (E := ex) (fun _ => ⟨rfl, trivial⟩)))))))
  (Sim.skip (A := p1)))
  (Sim.seq (Sim.test (A := p1) (B := p1) (fun _ _ _ => by kernel_rfl) (Sim.seq (Sim.reg (A := p1) (B := p4) (fun _ _ _ => by kernel_rfl))
  (Sim.seq (Sim.reg (A := p4) (B := p4) (fun _ _ _ => by kernel_rfl))
  (Sim.seq (Sim.reg (A := p4) (B := p2) (fun _ _ _ => by kernel_rfl))
  (Sim.seq (Sim.reg (A := p2) (B := p2) (fun _ _ _ => by kernel_rfl))
  (Sim.seq (Sim.reg (A := p2) (B := p3) (fun _ _ _ => by kernel_rfl))
  (Sim.seq (Sim.reg (A := p3) (B := p0) (fun _ _ _ => by kernel_rfl))
  (Sim.ret (A := p0) (E := ex) (fun _ => ⟨rfl, trivial⟩))))))))
  (Sim.skip (A := p1)))
  (Sim.seq (Sim.reg (A := p1) (B := p1) (fun _ _ _ => by kernel_rfl))
  (Sim.seq (Sim.reg (A := p1) (B := p5) (fun _ _ _ => by kernel_rfl))
  (Sim.seq (Sim.test (A := p5) (B := p5) (fun _ _ _ => by kernel_rfl) (Sim.seq (Sim.reg (A := p5) (B := p6) (fun _ _ _ => by kernel_rfl))
  (Sim.reg (A := p6) (B := p5) (fun _ _ _ => by kernel_rfl)))
  (Sim.skip (A := p5)))
  (Sim.seq (Sim.reg (A := p5) (B := p5) (fun _ _ _ => by kernel_rfl))
  (Sim.seq (Sim.reg (A := p5) (B := p5) (fun _ _ _ => by kernel_rfl))
  (Sim.seq (Sim.reg (A := p5) (B := p6) (fun _ _ _ => by kernel_rfl))
  (Sim.seq (Sim.reg (A := p6) (B := p6) (fun _ _ _ => by kernel_rfl))
  (Sim.seq (Sim.reg (A := p6) (B := p6) (fun _ _ _ => by kernel_rfl))
  (Sim.seq (Sim.test (A := p6) (B := p6) (fun _ _ _ => by kernel_rfl) (Sim.seq (Sim.reg (A := p6) (B := p0) (fun _ _ _ => by kernel_rfl))
  (Sim.ret (A := p0) (E := ex) (fun _ => ⟨rfl, trivial⟩)))
  (Sim.weak (B := p6) (C := p3) (Sim.skip (A := p6)) (fun _ => trivial)))
  (Sim.seq (Sim.reg (A := p3) (B := p0) (fun _ _ _ => by kernel_rfl))
  (Sim.ret (A := p0) (E := ex) (fun _ => ⟨rfl, trivial⟩))))))))))))))))))

def init (x_dst : Sl) (x_offset : Int) (x_length : Int) : St := { x_dst := x_dst, x_offset := x_offset, x_length := x_length, t6 := 0, x_left := 0 }

/-- What is left of the results. -/
def res (K : Int → Heap → Prop) (s : St) (h1 : Heap) : Prop := K s.t6 h1

/-- The call of 'pub-pemmican/pub/compress/s2.emitRepeat'. -/
theorem calls (x_dst : Sl) (x_offset : Int) (x_length : Int) (h : Heap) (K : Int → Heap → Prop)
    (H : stm (init x_dst x_offset x_length) h (endK (res K))) : c_emitRepeat x_dst x_offset x_length h K := by
  have hc : CallsH Pg 84 #[(.slice x_dst.p x_dst.n x_dst.c), (.int .i64 x_offset), (.int .i64 x_length)] h fun v h1 => asI .i64 v fun n1 => K n1 h1 :=
    callsH_of_sim (R := p0) (fn := Tryd.f84) (c := Tryd.f84.body.getD .skip) Tryd.func84 rfl Tryd.ntmps84 Tryd.call84 sim (init x_dst x_offset x_length) (⟨rfl, rfl, rfl, trivial⟩) (Nat.le_of_ble_eq_true rfl) (fun _ => ⟨rfl, trivial⟩) rfl
      (res K) (fun _ _ => by kernel_rfl) H
  refine hc.mono ?_
  intro v hp H
  obtain ⟨n1, rfl, h1⟩ := asI_elim H
  exact ⟨_, rfl, h1⟩

end M_emitRepeat

end Go.Proofs.YtibleenkgmkpmaaDoor

namespace Go.Proofs.YtibleenkgmkpmaaDoor
open Go Go.Vc Go.Proofs

namespace M_emitCopy

structure St where
  x_dst : Sl
  x_offset : Int
  x_length : Int
  t6 : Int
  x_i : Int
  x_off : Int

def p0 : Pt St where
  env s := [(6, (.int .i64 s.t6))]
  fin e s K := vI e 6 .i64 fun n1 => K { s with t6 := n1 }
  ok := by
    intro e s K h0
    obtain ⟨n1, g1, h2⟩ := gI h0
    exact ⟨_, ⟨g1, trivial⟩, h2⟩

def p1 : Pt St where
  env s := [(0, (.slice s.x_dst.p s.x_dst.n s.x_dst.c)), (1, (.int .i64 s.x_offset)), (2, (.int .i64 s.x_length))]
  fin e s K := vS e 0 fun p1 n1 c1 => vI e 1 .i64 fun n2 => vI e 2 .i64 fun n3 => K { s with x_dst := ⟨p1, n1, c1⟩, x_offset := n2, x_length := n3 }
  ok := by
    intro e s K h0
    obtain ⟨p1, n1, c1, g1, h2⟩ := gS h0
    obtain ⟨n2, g2, h4⟩ := gI h2
    obtain ⟨n3, g3, h6⟩ := gI h4
    exact ⟨_, ⟨g1, g2, g3, trivial⟩, h6⟩

def p2 : Pt St where
  env s := [(0, (.slice s.x_dst.p s.x_dst.n s.x_dst.c)), (1, (.int .i64 s.x_offset)), (2, (.int .i64 s.x_length)), (7, (.int .i64 s.x_i))]
  fin e s K := vS e 0 fun p1 n1 c1 => vI e 1 .i64 fun n2 => vI e 2 .i64 fun n3 => vI e 7 .i64 fun n4 => K { s with x_dst := ⟨p1, n1, c1⟩, x_offset := n2, x_length := n3, x_i := n4 }
  ok := by
    intro e s K h0
    obtain ⟨p1, n1, c1, g1, h2⟩ := gS h0
    obtain ⟨n2, g2, h4⟩ := gI h2
    obtain ⟨n3, g3, h6⟩ := gI h4
    obtain ⟨n4, g4, h8⟩ := gI h6
    exact ⟨_, ⟨g1, g2, g3, g4, trivial⟩, h8⟩

def p3 : Pt St where
  env s := [(0, (.slice s.x_dst.p s.x_dst.n s.x_dst.c)), (1, (.int .i64 s.x_offset)), (7, (.int .i64 s.x_i))]
  fin e s K := vS e 0 fun p1 n1 c1 => vI e 1 .i64 fun n2 => vI e 7 .i64 fun n3 => K { s with x_dst := ⟨p1, n1, c1⟩, x_offset := n2, x_i := n3 }
  ok := by
    intro e s K h0
    obtain ⟨p1, n1, c1, g1, h2⟩ := gS h0
    obtain ⟨n2, g2, h4⟩ := gI h2
    obtain ⟨n3, g3, h6⟩ := gI h4
    exact ⟨_, ⟨g1, g2, g3, trivial⟩, h6⟩

def p4 : Pt St where
  env s := [(7, (.int .i64 s.x_i))]
  fin e s K := vI e 7 .i64 fun n1 => K { s with x_i := n1 }
  ok := by
    intro e s K h0
    obtain ⟨n1, g1, h2⟩ := gI h0
    exact ⟨_, ⟨g1, trivial⟩, h2⟩

def p5 : Pt St where
  env s := [(0, (.slice s.x_dst.p s.x_dst.n s.x_dst.c)), (1, (.int .i64 s.x_offset)), (2, (.int .i64 s.x_length)), (8, (.int .i64 s.x_off))]
  fin e s K := vS e 0 fun p1 n1 c1 => vI e 1 .i64 fun n2 => vI e 2 .i64 fun n3 => vI e 8 .i64 fun n4 => K { s with x_dst := ⟨p1, n1, c1⟩, x_offset := n2, x_length := n3, x_off := n4 }
  ok := by
    intro e s K h0
    obtain ⟨p1, n1, c1, g1, h2⟩ := gS h0
    obtain ⟨n2, g2, h4⟩ := gI h2
    obtain ⟨n3, g3, h6⟩ := gI h4
    obtain ⟨n4, g4, h8⟩ := gI h6
    exact ⟨_, ⟨g1, g2, g3, g4, trivial⟩, h8⟩

def p6 : Pt St where
  env s := [(0, (.slice s.x_dst.p s.x_dst.n s.x_dst.c)), (2, (.int .i64 s.x_length))]
  fin e s K := vS e 0 fun p1 n1 c1 => vI e 2 .i64 fun n2 => K { s with x_dst := ⟨p1, n1, c1⟩, x_length := n2 }
  ok := by
    intro e s K h0
    obtain ⟨p1, n1, c1, g1, h2⟩ := gS h0
    obtain ⟨n2, g2, h4⟩ := gI h2
    exact ⟨_, ⟨g1, g2, trivial⟩, h4⟩

def p7 : Pt St where
  env s := []
  fin e s K := K s
  ok := by
    intro e s K h0
    exact ⟨_, trivial, h0⟩

def r0 (s : St) (h : Heap) (Q : St → Heap → Prop) : Prop :=
  Q s h

def r1 (s : St) (h : Heap) (Q : Bool → St → Heap → Prop) : Prop :=
  Q (decide (s.x_offset ≥ (65536 : Int))) s h

def r2 (s : St) (h : Heap) (Q : St → Heap → Prop) : Prop :=
  Q { s with x_i := (0 : Int) } h

def r3 (s : St) (h : Heap) (Q : Bool → St → Heap → Prop) : Prop :=
  Q (decide (s.x_length > (64 : Int))) s h

def r4 (s : St) (h : Heap) (Q : St → Heap → Prop) : Prop :=
  0 ≤ (4 : Int) ∧ (4 : Int) < ((s.x_dst.n : Nat) : Int) ∧
  ptrE s.x_dst.p fun a1 =>
  st1 (Addr.add (Addr.add a1 (Int.toNat (4 : Int) * 1)) 0) (.int .u8 (IntKind.wrap .u8 (Int.fdiv s.x_offset (2 ^ (24 : Nat))))) h fun h2 =>
  Q s h2

def r5 (s : St) (h : Heap) (Q : St → Heap → Prop) : Prop :=
  0 ≤ (3 : Int) ∧ (3 : Int) < ((s.x_dst.n : Nat) : Int) ∧
  ptrE s.x_dst.p fun a1 =>
  st1 (Addr.add (Addr.add a1 (Int.toNat (3 : Int) * 1)) 0) (.int .u8 (IntKind.wrap .u8 (Int.fdiv s.x_offset (2 ^ (16 : Nat))))) h fun h2 =>
  Q s h2

def r6 (s : St) (h : Heap) (Q : St → Heap → Prop) : Prop :=
  0 ≤ (2 : Int) ∧ (2 : Int) < ((s.x_dst.n : Nat) : Int) ∧
  ptrE s.x_dst.p fun a1 =>
  st1 (Addr.add (Addr.add a1 (Int.toNat (2 : Int) * 1)) 0) (.int .u8 (IntKind.wrap .u8 (Int.fdiv s.x_offset (2 ^ (8 : Nat))))) h fun h2 =>
  Q s h2

def r7 (s : St) (h : Heap) (Q : St → Heap → Prop) : Prop :=
  0 ≤ (1 : Int) ∧ (1 : Int) < ((s.x_dst.n : Nat) : Int) ∧
  ptrE s.x_dst.p fun a1 =>
  st1 (Addr.add (Addr.add a1 (Int.toNat (1 : Int) * 1)) 0) (.int .u8 (IntKind.wrap .u8 s.x_offset)) h fun h2 =>
  Q s h2

def r8 (s : St) (h : Heap) (Q : St → Heap → Prop) : Prop :=
  0 ≤ (0 : Int) ∧ (0 : Int) < ((s.x_dst.n : Nat) : Int) ∧
  ptrE s.x_dst.p fun a1 =>
  st1 (Addr.add (Addr.add a1 (Int.toNat (0 : Int) * 1)) 0) (.int .u8 (255 : Int)) h fun h2 =>
  Q s h2

def r9 (s : St) (h : Heap) (Q : St → Heap → Prop) : Prop :=
  Q { s with x_length := (IntKind.wrap .i64 (s.x_length - (64 : Int))) } h

def r10 (s : St) (h : Heap) (Q : Bool → St → Heap → Prop) : Prop :=
  Q (decide (s.x_length ≥ (4 : Int))) s h

def r11 (s : St) (h : Heap) (Q : St → Heap → Prop) : Prop :=
  0 ≤ (5 : Int) ∧ (5 : Int) ≤ ((s.x_dst.n : Nat) : Int) ∧
  c_emitRepeat ⟨(subP s.x_dst.p (Int.toNat (5 : Int)) s.x_dst.c 1), (s.x_dst.n - (Int.toNat (5 : Int))), (s.x_dst.c - (Int.toNat (5 : Int)))⟩ s.x_offset s.x_length h fun r2 h1 =>
  Q { s with t6 := (IntKind.wrap .i64 ((5 : Int) + r2)) } h1

def r12 (s : St) (h : Heap) (Q : St → Heap → Prop) : Prop :=
  Q { s with x_i := (5 : Int) } h

def r13 (s : St) (h : Heap) (Q : Bool → St → Heap → Prop) : Prop :=
  Q (s.x_length == (0 : Int)) s h

def r14 (s : St) (h : Heap) (Q : St → Heap → Prop) : Prop :=
  Q { s with t6 := s.x_i } h

def r15 (s : St) (h : Heap) (Q : St → Heap → Prop) : Prop :=
  0 ≤ (IntKind.wrap .i64 (s.x_i + (0 : Int))) ∧ (IntKind.wrap .i64 (s.x_i + (0 : Int))) < ((s.x_dst.n : Nat) : Int) ∧
  ptrE s.x_dst.p fun a1 =>
  st1 (Addr.add (Addr.add a1 (Int.toNat (IntKind.wrap .i64 (s.x_i + (0 : Int))) * 1)) 0) (.int .u8 (bOr .u8 (IntKind.wrap .u8 ((IntKind.wrap .u8 (IntKind.wrap .i64 (s.x_length - (1 : Int)))) * 2 ^ (2 : Nat))) (3 : Int))) h fun h2 =>
  Q s h2

def r16 (s : St) (h : Heap) (Q : St → Heap → Prop) : Prop :=
  0 ≤ (IntKind.wrap .i64 (s.x_i + (1 : Int))) ∧ (IntKind.wrap .i64 (s.x_i + (1 : Int))) < ((s.x_dst.n : Nat) : Int) ∧
  ptrE s.x_dst.p fun a1 =>
  st1 (Addr.add (Addr.add a1 (Int.toNat (IntKind.wrap .i64 (s.x_i + (1 : Int))) * 1)) 0) (.int .u8 (IntKind.wrap .u8 s.x_offset)) h fun h2 =>
  Q s h2

def r17 (s : St) (h : Heap) (Q : St → Heap → Prop) : Prop :=
  0 ≤ (IntKind.wrap .i64 (s.x_i + (2 : Int))) ∧ (IntKind.wrap .i64 (s.x_i + (2 : Int))) < ((s.x_dst.n : Nat) : Int) ∧
  ptrE s.x_dst.p fun a1 =>
  st1 (Addr.add (Addr.add a1 (Int.toNat (IntKind.wrap .i64 (s.x_i + (2 : Int))) * 1)) 0) (.int .u8 (IntKind.wrap .u8 (Int.fdiv s.x_offset (2 ^ (8 : Nat))))) h fun h2 =>
  Q s h2

def r18 (s : St) (h : Heap) (Q : St → Heap → Prop) : Prop :=
  0 ≤ (IntKind.wrap .i64 (s.x_i + (3 : Int))) ∧ (IntKind.wrap .i64 (s.x_i + (3 : Int))) < ((s.x_dst.n : Nat) : Int) ∧
  ptrE s.x_dst.p fun a1 =>
  st1 (Addr.add (Addr.add a1 (Int.toNat (IntKind.wrap .i64 (s.x_i + (3 : Int))) * 1)) 0) (.int .u8 (IntKind.wrap .u8 (Int.fdiv s.x_offset (2 ^ (16 : Nat))))) h fun h2 =>
  Q s h2

def r19 (s : St) (h : Heap) (Q : St → Heap → Prop) : Prop :=
  0 ≤ (IntKind.wrap .i64 (s.x_i + (4 : Int))) ∧ (IntKind.wrap .i64 (s.x_i + (4 : Int))) < ((s.x_dst.n : Nat) : Int) ∧
  ptrE s.x_dst.p fun a1 =>
  st1 (Addr.add (Addr.add a1 (Int.toNat (IntKind.wrap .i64 (s.x_i + (4 : Int))) * 1)) 0) (.int .u8 (IntKind.wrap .u8 (Int.fdiv s.x_offset (2 ^ (24 : Nat))))) h fun h2 =>
  Q s h2

def r20 (s : St) (h : Heap) (Q : St → Heap → Prop) : Prop :=
  Q { s with t6 := (IntKind.wrap .i64 (s.x_i + (5 : Int))) } h

def r21 (s : St) (h : Heap) (Q : Bool → St → Heap → Prop) : Prop :=
  Q (decide (s.x_length > (64 : Int))) s h

def r22 (s : St) (h : Heap) (Q : St → Heap → Prop) : Prop :=
  Q { s with x_off := (3 : Int) } h

def r23 (s : St) (h : Heap) (Q : Bool → St → Heap → Prop) : Prop :=
  Q (decide (s.x_offset < (2048 : Int))) s h

def r24 (s : St) (h : Heap) (Q : St → Heap → Prop) : Prop :=
  0 ≤ (1 : Int) ∧ (1 : Int) < ((s.x_dst.n : Nat) : Int) ∧
  ptrE s.x_dst.p fun a1 =>
  st1 (Addr.add (Addr.add a1 (Int.toNat (1 : Int) * 1)) 0) (.int .u8 (IntKind.wrap .u8 s.x_offset)) h fun h2 =>
  Q s h2

def r25 (s : St) (h : Heap) (Q : St → Heap → Prop) : Prop :=
  0 ≤ (0 : Int) ∧ (0 : Int) < ((s.x_dst.n : Nat) : Int) ∧
  ptrE s.x_dst.p fun a1 =>
  st1 (Addr.add (Addr.add a1 (Int.toNat (0 : Int) * 1)) 0) (.int .u8 (bOr .u8 (bOr .u8 (IntKind.wrap .u8 ((IntKind.wrap .u8 (Int.fdiv s.x_offset (2 ^ (8 : Nat)))) * 2 ^ (5 : Nat))) (16 : Int)) (1 : Int))) h fun h2 =>
  Q s h2

def r26 (s : St) (h : Heap) (Q : St → Heap → Prop) : Prop :=
  Q { s with x_length := (IntKind.wrap .i64 (s.x_length - (8 : Int))) } h

def r27 (s : St) (h : Heap) (Q : St → Heap → Prop) : Prop :=
  Q { s with x_off := (2 : Int) } h

def r28 (s : St) (h : Heap) (Q : St → Heap → Prop) : Prop :=
  0 ≤ (2 : Int) ∧ (2 : Int) < ((s.x_dst.n : Nat) : Int) ∧
  ptrE s.x_dst.p fun a1 =>
  st1 (Addr.add (Addr.add a1 (Int.toNat (2 : Int) * 1)) 0) (.int .u8 (IntKind.wrap .u8 (Int.fdiv s.x_offset (2 ^ (8 : Nat))))) h fun h2 =>
  Q s h2

def r29 (s : St) (h : Heap) (Q : St → Heap → Prop) : Prop :=
  0 ≤ (1 : Int) ∧ (1 : Int) < ((s.x_dst.n : Nat) : Int) ∧
  ptrE s.x_dst.p fun a1 =>
  st1 (Addr.add (Addr.add a1 (Int.toNat (1 : Int) * 1)) 0) (.int .u8 (IntKind.wrap .u8 s.x_offset)) h fun h2 =>
  Q s h2

def r30 (s : St) (h : Heap) (Q : St → Heap → Prop) : Prop :=
  0 ≤ (0 : Int) ∧ (0 : Int) < ((s.x_dst.n : Nat) : Int) ∧
  ptrE s.x_dst.p fun a1 =>
  st1 (Addr.add (Addr.add a1 (Int.toNat (0 : Int) * 1)) 0) (.int .u8 (238 : Int)) h fun h2 =>
  Q s h2

def r31 (s : St) (h : Heap) (Q : St → Heap → Prop) : Prop :=
  Q { s with x_length := (IntKind.wrap .i64 (s.x_length - (60 : Int))) } h

def r32 (s : St) (h : Heap) (Q : St → Heap → Prop) : Prop :=
  0 ≤ s.x_off ∧ s.x_off ≤ ((s.x_dst.n : Nat) : Int) ∧
  c_emitRepeat ⟨(subP s.x_dst.p (Int.toNat s.x_off) s.x_dst.c 1), (s.x_dst.n - (Int.toNat s.x_off)), (s.x_dst.c - (Int.toNat s.x_off))⟩ s.x_offset s.x_length h fun r2 h1 =>
  Q { s with t6 := (IntKind.wrap .i64 (s.x_off + r2)) } h1

def r33 (s : St) (h : Heap) (Q : Bool → St → Heap → Prop) : Prop :=
  (if (decide (s.x_length ≥ (12 : Int))) = false then
  (Q (decide (s.x_offset ≥ (2048 : Int))) s h)
  else
  (Q true s h))

def r34 (s : St) (h : Heap) (Q : St → Heap → Prop) : Prop :=
  0 ≤ (2 : Int) ∧ (2 : Int) < ((s.x_dst.n : Nat) : Int) ∧
  ptrE s.x_dst.p fun a1 =>
  st1 (Addr.add (Addr.add a1 (Int.toNat (2 : Int) * 1)) 0) (.int .u8 (IntKind.wrap .u8 (Int.fdiv s.x_offset (2 ^ (8 : Nat))))) h fun h2 =>
  Q s h2

def r35 (s : St) (h : Heap) (Q : St → Heap → Prop) : Prop :=
  0 ≤ (1 : Int) ∧ (1 : Int) < ((s.x_dst.n : Nat) : Int) ∧
  ptrE s.x_dst.p fun a1 =>
  st1 (Addr.add (Addr.add a1 (Int.toNat (1 : Int) * 1)) 0) (.int .u8 (IntKind.wrap .u8 s.x_offset)) h fun h2 =>
  Q s h2

def r36 (s : St) (h : Heap) (Q : St → Heap → Prop) : Prop :=
  0 ≤ (0 : Int) ∧ (0 : Int) < ((s.x_dst.n : Nat) : Int) ∧
  ptrE s.x_dst.p fun a1 =>
  st1 (Addr.add (Addr.add a1 (Int.toNat (0 : Int) * 1)) 0) (.int .u8 (bOr .u8 (IntKind.wrap .u8 ((IntKind.wrap .u8 (IntKind.wrap .i64 (s.x_length - (1 : Int)))) * 2 ^ (2 : Nat))) (2 : Int))) h fun h2 =>
  Q s h2

def r37 (s : St) (h : Heap) (Q : St → Heap → Prop) : Prop :=
  Q { s with t6 := (3 : Int) } h

def r38 (s : St) (h : Heap) (Q : St → Heap → Prop) : Prop :=
  0 ≤ (1 : Int) ∧ (1 : Int) < ((s.x_dst.n : Nat) : Int) ∧
  ptrE s.x_dst.p fun a1 =>
  st1 (Addr.add (Addr.add a1 (Int.toNat (1 : Int) * 1)) 0) (.int .u8 (IntKind.wrap .u8 s.x_offset)) h fun h2 =>
  Q s h2

def r39 (s : St) (h : Heap) (Q : St → Heap → Prop) : Prop :=
  0 ≤ (0 : Int) ∧ (0 : Int) < ((s.x_dst.n : Nat) : Int) ∧
  ptrE s.x_dst.p fun a1 =>
  st1 (Addr.add (Addr.add a1 (Int.toNat (0 : Int) * 1)) 0) (.int .u8 (bOr .u8 (bOr .u8 (IntKind.wrap .u8 ((IntKind.wrap .u8 (Int.fdiv s.x_offset (2 ^ (8 : Nat)))) * 2 ^ (5 : Nat))) (IntKind.wrap .u8 ((IntKind.wrap .u8 (IntKind.wrap .i64 (s.x_length - (4 : Int)))) * 2 ^ (2 : Nat)))) (1 : Int))) h fun h2 =>
  Q s h2

def r40 (s : St) (h : Heap) (Q : St → Heap → Prop) : Prop :=
  Q { s with t6 := (2 : Int) } h

def k28 : Stm St := (.seq (.reg r39) (.seq (.reg r40) .ret))
def k27 : Stm St := (.seq (.reg r38) k28)
def k26 : Stm St := (.seq (.reg r36) (.seq (.reg r37) .ret))
def k25 : Stm St := (.seq (.reg r35) k26)
def k24 : Stm St := (.seq (.reg r34) k25)
def k23 : Stm St := (.seq (.test r33 k24 .skip) k27)
def k22 : Stm St := (.seq (.reg r29) (.seq (.reg r30) (.reg r31)))
def k21 : Stm St := (.seq (.reg r28) k22)
def k20 : Stm St := (.seq (.reg r25) (.seq (.reg r26) (.reg r27)))
def k19 : Stm St := (.seq (.reg r24) k20)
def k18 : Stm St := (.seq (.test r23 k19 k21) (.seq (.reg r32) .ret))
def k17 : Stm St := (.seq (.reg r22) k18)
def k16 : Stm St := (.seq (.test r21 k17 .skip) k23)
def k15 : Stm St := (.seq (.reg r19) (.seq (.reg r20) .ret))
def k14 : Stm St := (.seq (.reg r18) k15)
def k13 : Stm St := (.seq (.reg r17) k14)
def k12 : Stm St := (.seq (.reg r16) k13)
def k11 : Stm St := (.seq (.reg r15) k12)
def k10 : Stm St := (.seq (.test r13 (.seq (.reg r14) .ret) .skip) k11)
def k9 : Stm St := (.seq (.test r10 (.seq (.reg r11) .ret) .skip) (.reg r12))
def k8 : Stm St := (.seq (.reg r9) k9)
def k7 : Stm St := (.seq (.reg r8) k8)
def k6 : Stm St := (.seq (.reg r7) k7)
def k5 : Stm St := (.seq (.reg r6) k6)
def k4 : Stm St := (.seq (.reg r5) k5)
def k3 : Stm St := (.seq (.reg r4) k4)
def k2 : Stm St := (.seq (.test r3 k3 .skip) k10)
def k1 : Stm St := (.seq (.reg r2) k2)
def k0 : Stm St := (.seq (.test r1 k1 .skip) k16)

def stm : Stm St := (.seq (.reg r0) k0)

def ex : Ex → Pt St := fun _ => p0

set_option maxRecDepth 100000 in
theorem sim : Sim Pg 162 p1 (Tryd.f67.body.getD .skip) stm p0 ex :=
  (Sim.seq (Sim.reg (A := p1) (B := p1) (fun _ _ _ => by kernel_rfl))
  (Sim.seq (Sim.test (A := p1) (B := p1) (fun _ _ _ => by kernel_rfl) (Sim.seq (Sim.reg (A := p1) (B := p2) (fun _ _ _ => by kernel_rfl))
  (Sim.seq (Sim.test (A := p2) (B := p2) (fun _ _ _ => by kernel_rfl) (Sim.seq (Sim.reg (A := p2) (B := p1) (fun _ _ _ => by kernel_rfl))
  (Sim.seq (Sim.reg (A := p1) (B := p1) (fun _ _ _ => by kernel_rfl))
  (Sim.seq (Sim.reg (A := p1) (B := p1) (fun _ _ _ => by kernel_rfl))
  (Sim.seq (Sim.reg (A := p1) (B := p1) (fun _ _ _ => by kernel_rfl))
  (Sim.seq (Sim.reg (A := p1) (B := p1) (fun _ _ _ => by kernel_rfl))
  (Sim.seq (Sim.reg (A := p1) (B := p1) (fun _ _ _ => by kernel_rfl))
  (Sim.seq (Sim.test (A := p1) (B := p1) (fun _ _ _ => by kernel_rfl) (Sim.seq (Sim.reg (A := p1) (B := p0) (fun _ _ _ => by kernel_rfl))
  (Sim.ret (A := p0) (E := ex) (fun _ => ⟨rfl, trivial⟩)))
  (Sim.skip (A := p1)))
  (Sim.reg (A := p1) (B := p2) (fun _ _ _ => by kernel_rfl)))))))))
  (Sim.skip (A := p2)))
  (Sim.seq (Sim.test (A := p2) (B := p2) (fun _ _ _ => by kernel_rfl) (Sim.seq (Sim.reg (A := p2) (B := p0) (fun _ _ _ => by kernel_rfl))
  (Sim.ret (A := p0) (E := ex) (fun _ => ⟨rfl, trivial⟩)))
  (Sim.skip (A := p2)))
  (Sim.seq (Sim.reg (A := p2) (B := p3) (fun _ _ _ => by kernel_rfl))
  (Sim.seq (Sim.reg (A := p3) (B := p3) (fun _ _ _ => by kernel_rfl))
  (Sim.seq (Sim.reg (A := p3) (B := p3) (fun _ _ _ => by kernel_rfl))
  (Sim.seq (Sim.reg (A := p3) (B := p3) (fun _ _ _ => by kernel_rfl))
  (Sim.seq (Sim.reg (A := p3) (B := p4) (fun _ _ _ => by kernel_rfl))
  (Sim.seq (Sim.reg (A := p4) (B := p0) (fun _ _ _ => by kernel_rfl))
  (Sim.ret (A := p0) (E := ex) (fun _ => ⟨rfl, trivial⟩)))))))))))
  (Sim.skip (A := p1)))
  (Sim.seq (Sim.test (A := p1) (B := p1) (fun _ _ _ => by kernel_rfl) (Sim.seq (Sim.reg (A := p1) (B := p5) (fun _ _ _ => by kernel_rfl))
  (Sim.seq (Sim.test (A := p5) (B := p5) (fun _ _ _ => by kernel_rfl) (Sim.seq (Sim.reg (A := p5) (B := p1) (fun _ _ _ => by kernel_rfl))
  (Sim.seq (Sim.reg (A := p1) (B := p1) (fun _ _ _ => by kernel_rfl))
  (Sim.seq (Sim.reg (A := p1) (B := p1) (fun _ _ _ => by kernel_rfl))
  (Sim.reg (A := p1) (B := p5) (fun _ _ _ => by kernel_rfl)))))
  (Sim.seq (Sim.reg (A := p5) (B := p5) (fun _ _ _ => by kernel_rfl))
  (Sim.seq (Sim.reg (A := p5) (B := p5) (fun _ _ _ => by kernel_rfl))
  (Sim.seq (Sim.reg (A := p5) (B := p5) (fun _ _ _ => by kernel_rfl))
  (Sim.reg (A := p5) (B := p5) (fun _ _ _ => by kernel_rfl))))))
  (Sim.seq (Sim.reg (A := p5) (B := p0) (fun _ _ _ => by kernel_rfl))
  (Sim.ret (A := p0) (E := ex) (fun _ => ⟨rfl, trivial⟩)))))
  (Sim.skip (A := p1)))
  (Sim.seq (Sim.test (A := p1) (B := p1) (fun _ _ _ => by kernel_rfl) (Sim.seq (Sim.reg (A := p1) (B := p1) (fun _ _ _ => by kernel_rfl))
  (Sim.seq (Sim.reg (A := p1) (B := p6) (fun _ _ _ => by kernel_rfl))
  (Sim.seq (Sim.reg (A := p6) (B := p7) (fun _ _ _ => by kernel_rfl))
  (Sim.seq (Sim.reg (A := p7) (B := p0) (fun _ _ _ => by kernel_rfl))
  (Sim.ret (A := p0) (E := ex) (fun _ => ⟨rfl, trivial⟩))))))
  (Sim.skip (A := p1)))
  (Sim.seq (Sim.reg (A := p1) (B := p1) (fun _ _ _ => by kernel_rfl))
  (Sim.seq (Sim.reg (A := p1) (B := p7) (fun _ _ _ => by kernel_rfl))
  (Sim.seq (Sim.reg (A := p7) (B := p0) (fun _ _ _ => by kernel_rfl))
  (Sim.ret (A := p0) (E := ex) (fun _ => ⟨rfl, trivial⟩)))))))))

def init (x_dst : Sl) (x_offset : Int) (x_length : Int) : St := { x_dst := x_dst, x_offset := x_offset, x_length := x_length, t6 := 0, x_i := 0, x_off := 0 }

/-- What is left of the results. -/
def res (K : Int → Heap → Prop) (s : St) (h1 : Heap) : Prop := K s.t6 h1

/-- The call of 'pub-pemmican/pub/compress/s2.emitCopy'. -/
theorem calls (x_dst : Sl) (x_offset : Int) (x_length : Int) (h : Heap) (K : Int → Heap → Prop)
    (H : stm (init x_dst x_offset x_length) h (endK (res K))) : c_emitCopy x_dst x_offset x_length h K := by
  have hc : CallsH Pg 67 #[(.slice x_dst.p x_dst.n x_dst.c), (.int .i64 x_offset), (.int .i64 x_length)] h fun v h1 => asI .i64 v fun n1 => K n1 h1 :=
    callsH_of_sim (R := p0) (fn := Tryd.f67) (c := Tryd.f67.body.getD .skip) Tryd.func67 rfl Tryd.ntmps67 Tryd.call67 sim (init x_dst x_offset x_length) (⟨rfl, rfl, rfl, trivial⟩) (Nat.le_of_ble_eq_true rfl) (fun _ => ⟨rfl, trivial⟩) rfl
      (res K) (fun _ _ => by kernel_rfl) H
  refine hc.mono ?_
  intro v hp H
  obtain ⟨n1, rfl, h1⟩ := asI_elim H
  exact ⟨_, rfl, h1⟩

end M_emitCopy

end Go.Proofs.YtibleenkgmkpmaaDoor

namespace Go.Proofs.YtibleenkgmkpmaaDoor
open Go Go.Vc Go.Proofs

namespace M_emitCopyNoRepeat

structure St where
  x_dst : Sl
  x_offset : Int
  x_length : Int
  t6 : Int
  x_i : Int

def p0 : Pt St where
  env s := [(6, (.int .i64 s.t6))]
  fin e s K := vI e 6 .i64 fun n1 => K { s with t6 := n1 }
  ok := by
    intro e s K h0
    obtain ⟨n1, g1, h2⟩ := gI h0
    exact ⟨_, ⟨g1, trivial⟩, h2⟩

def p1 : Pt St where
  env s := [(0, (.slice s.x_dst.p s.x_dst.n s.x_dst.c)), (1, (.int .i64 s.x_offset)), (2, (.int .i64 s.x_length))]
  fin e s K := vS e 0 fun p1 n1 c1 => vI e 1 .i64 fun n2 => vI e 2 .i64 fun n3 => K { s with x_dst := ⟨p1, n1, c1⟩, x_offset := n2, x_length := n3 }
  ok := by
    intro e s K h0
    obtain ⟨p1, n1, c1, g1, h2⟩ := gS h0
    obtain ⟨n2, g2, h4⟩ := gI h2
    obtain ⟨n3, g3, h6⟩ := gI h4
    exact ⟨_, ⟨g1, g2, g3, trivial⟩, h6⟩

def p2 : Pt St where
  env s := [(0, (.slice s.x_dst.p s.x_dst.n s.x_dst.c)), (1, (.int .i64 s.x_offset)), (2, (.int .i64 s.x_length)), (7, (.int .i64 s.x_i))]
  fin e s K := vS e 0 fun p1 n1 c1 => vI e 1 .i64 fun n2 => vI e 2 .i64 fun n3 => vI e 7 .i64 fun n4 => K { s with x_dst := ⟨p1, n1, c1⟩, x_offset := n2, x_length := n3, x_i := n4 }
  ok := by
    intro e s K h0
    obtain ⟨p1, n1, c1, g1, h2⟩ := gS h0
    obtain ⟨n2, g2, h4⟩ := gI h2
    obtain ⟨n3, g3, h6⟩ := gI h4
    obtain ⟨n4, g4, h8⟩ := gI h6
    exact ⟨_, ⟨g1, g2, g3, g4, trivial⟩, h8⟩

def p3 : Pt St where
  env s := [(0, (.slice s.x_dst.p s.x_dst.n s.x_dst.c)), (1, (.int .i64 s.x_offset)), (7, (.int .i64 s.x_i))]
  fin e s K := vS e 0 fun p1 n1 c1 => vI e 1 .i64 fun n2 => vI e 7 .i64 fun n3 => K { s with x_dst := ⟨p1, n1, c1⟩, x_offset := n2, x_i := n3 }
  ok := by
    intro e s K h0
    obtain ⟨p1, n1, c1, g1, h2⟩ := gS h0
    obtain ⟨n2, g2, h4⟩ := gI h2
    obtain ⟨n3, g3, h6⟩ := gI h4
    exact ⟨_, ⟨g1, g2, g3, trivial⟩, h6⟩

def p4 : Pt St where
  env s := [(7, (.int .i64 s.x_i))]
  fin e s K := vI e 7 .i64 fun n1 => K { s with x_i := n1 }
  ok := by
    intro e s K h0
    obtain ⟨n1, g1, h2⟩ := gI h0
    exact ⟨_, ⟨g1, trivial⟩, h2⟩

def p5 : Pt St where
  env s := [(0, (.slice s.x_dst.p s.x_dst.n s.x_dst.c)), (2, (.int .i64 s.x_length))]
  fin e s K := vS e 0 fun p1 n1 c1 => vI e 2 .i64 fun n2 => K { s with x_dst := ⟨p1, n1, c1⟩, x_length := n2 }
  ok := by
    intro e s K h0
    obtain ⟨p1, n1, c1, g1, h2⟩ := gS h0
    obtain ⟨n2, g2, h4⟩ := gI h2
    exact ⟨_, ⟨g1, g2, trivial⟩, h4⟩

def p6 : Pt St where
  env s := []
  fin e s K := K s
  ok := by
    intro e s K h0
    exact ⟨_, trivial, h0⟩

def r0 (s : St) (h : Heap) (Q : St → Heap → Prop) : Prop :=
  Q s h

def r1 (s : St) (h : Heap) (Q : Bool → St → Heap → Prop) : Prop :=
  Q (decide (s.x_offset ≥ (65536 : Int))) s h

def r2 (s : St) (h : Heap) (Q : St → Heap → Prop) : Prop :=
  Q { s with x_i := (0 : Int) } h

def r3 (s : St) (h : Heap) (Q : Bool → St → Heap → Prop) : Prop :=
  Q (decide (s.x_length > (64 : Int))) s h

def r4 (s : St) (h : Heap) (Q : St → Heap → Prop) : Prop :=
  0 ≤ (4 : Int) ∧ (4 : Int) < ((s.x_dst.n : Nat) : Int) ∧
  ptrE s.x_dst.p fun a1 =>
  st1 (Addr.add (Addr.add a1 (Int.toNat (4 : Int) * 1)) 0) (.int .u8 (IntKind.wrap .u8 (Int.fdiv s.x_offset (2 ^ (24 : Nat))))) h fun h2 =>
  Q s h2

def r5 (s : St) (h : Heap) (Q : St → Heap → Prop) : Prop :=
  0 ≤ (3 : Int) ∧ (3 : Int) < ((s.x_dst.n : Nat) : Int) ∧
  ptrE s.x_dst.p fun a1 =>
  st1 (Addr.add (Addr.add a1 (Int.toNat (3 : Int) * 1)) 0) (.int .u8 (IntKind.wrap .u8 (Int.fdiv s.x_offset (2 ^ (16 : Nat))))) h fun h2 =>
  Q s h2

def r6 (s : St) (h : Heap) (Q : St → Heap → Prop) : Prop :=
  0 ≤ (2 : Int) ∧ (2 : Int) < ((s.x_dst.n : Nat) : Int) ∧
  ptrE s.x_dst.p fun a1 =>
  st1 (Addr.add (Addr.add a1 (Int.toNat (2 : Int) * 1)) 0) (.int .u8 (IntKind.wrap .u8 (Int.fdiv s.x_offset (2 ^ (8 : Nat))))) h fun h2 =>
  Q s h2

def r7 (s : St) (h : Heap) (Q : St → Heap → Prop) : Prop :=
  0 ≤ (1 : Int) ∧ (1 : Int) < ((s.x_dst.n : Nat) : Int) ∧
  ptrE s.x_dst.p fun a1 =>
  st1 (Addr.add (Addr.add a1 (Int.toNat (1 : Int) * 1)) 0) (.int .u8 (IntKind.wrap .u8 s.x_offset)) h fun h2 =>
  Q s h2

def r8 (s : St) (h : Heap) (Q : St → Heap → Prop) : Prop :=
  0 ≤ (0 : Int) ∧ (0 : Int) < ((s.x_dst.n : Nat) : Int) ∧
  ptrE s.x_dst.p fun a1 =>
  st1 (Addr.add (Addr.add a1 (Int.toNat (0 : Int) * 1)) 0) (.int .u8 (255 : Int)) h fun h2 =>
  Q s h2

def r9 (s : St) (h : Heap) (Q : St → Heap → Prop) : Prop :=
  Q { s with x_length := (IntKind.wrap .i64 (s.x_length - (64 : Int))) } h

def r10 (s : St) (h : Heap) (Q : Bool → St → Heap → Prop) : Prop :=
  Q (decide (s.x_length ≥ (4 : Int))) s h

def r11 (s : St) (h : Heap) (Q : St → Heap → Prop) : Prop :=
  0 ≤ (5 : Int) ∧ (5 : Int) ≤ ((s.x_dst.n : Nat) : Int) ∧
  c_emitCopyNoRepeat ⟨(subP s.x_dst.p (Int.toNat (5 : Int)) s.x_dst.c 1), (s.x_dst.n - (Int.toNat (5 : Int))), (s.x_dst.c - (Int.toNat (5 : Int)))⟩ s.x_offset s.x_length h fun r2 h1 =>
  Q { s with t6 := (IntKind.wrap .i64 ((5 : Int) + r2)) } h1

def r12 (s : St) (h : Heap) (Q : St → Heap → Prop) : Prop :=
  Q { s with x_i := (5 : Int) } h

def r13 (s : St) (h : Heap) (Q : Bool → St → Heap → Prop) : Prop :=
  Q (s.x_length == (0 : Int)) s h

def r14 (s : St) (h : Heap) (Q : St → Heap → Prop) : Prop :=
  Q { s with t6 := s.x_i } h

def r15 (s : St) (h : Heap) (Q : St → Heap → Prop) : Prop :=
  0 ≤ (IntKind.wrap .i64 (s.x_i + (0 : Int))) ∧ (IntKind.wrap .i64 (s.x_i + (0 : Int))) < ((s.x_dst.n : Nat) : Int) ∧
  ptrE s.x_dst.p fun a1 =>
  st1 (Addr.add (Addr.add a1 (Int.toNat (IntKind.wrap .i64 (s.x_i + (0 : Int))) * 1)) 0) (.int .u8 (bOr .u8 (IntKind.wrap .u8 ((IntKind.wrap .u8 (IntKind.wrap .i64 (s.x_length - (1 : Int)))) * 2 ^ (2 : Nat))) (3 : Int))) h fun h2 =>
  Q s h2

def r16 (s : St) (h : Heap) (Q : St → Heap → Prop) : Prop :=
  0 ≤ (IntKind.wrap .i64 (s.x_i + (1 : Int))) ∧ (IntKind.wrap .i64 (s.x_i + (1 : Int))) < ((s.x_dst.n : Nat) : Int) ∧
  ptrE s.x_dst.p fun a1 =>
  st1 (Addr.add (Addr.add a1 (Int.toNat (IntKind.wrap .i64 (s.x_i + (1 : Int))) * 1)) 0) (.int .u8 (IntKind.wrap .u8 s.x_offset)) h fun h2 =>
  Q s h2

def r17 (s : St) (h : Heap) (Q : St → Heap → Prop) : Prop :=
  0 ≤ (IntKind.wrap .i64 (s.x_i + (2 : Int))) ∧ (IntKind.wrap .i64 (s.x_i + (2 : Int))) < ((s.x_dst.n : Nat) : Int) ∧
  ptrE s.x_dst.p fun a1 =>
  st1 (Addr.add (Addr.add a1 (Int.toNat (IntKind.wrap .i64 (s.x_i + (2 : Int))) * 1)) 0) (.int .u8 (IntKind.wrap .u8 (Int.fdiv s.x_offset (2 ^ (8 : Nat))))) h fun h2 =>
  Q s h2

def r18 (s : St) (h : Heap) (Q : St → Heap → Prop) : Prop :=
  0 ≤ (IntKind.wrap .i64 (s.x_i + (3 : Int))) ∧ (IntKind.wrap .i64 (s.x_i + (3 : Int))) < ((s.x_dst.n : Nat) : Int) ∧
  ptrE s.x_dst.p fun a1 =>
  st1 (Addr.add (Addr.add a1 (Int.toNat (IntKind.wrap .i64 (s.x_i + (3 : Int))) * 1)) 0) (.int .u8 (IntKind.wrap .u8 (Int.fdiv s.x_offset (2 ^ (16 : Nat))))) h fun h2 =>
  Q s h2

def r19 (s : St) (h : Heap) (Q : St → Heap → Prop) : Prop :=
  0 ≤ (IntKind.wrap .i64 (s.x_i + (4 : Int))) ∧ (IntKind.wrap .i64 (s.x_i + (4 : Int))) < ((s.x_dst.n : Nat) : Int) ∧
  ptrE s.x_dst.p fun a1 =>
  st1 (Addr.add (Addr.add a1 (Int.toNat (IntKind.wrap .i64 (s.x_i + (4 : Int))) * 1)) 0) (.int .u8 (IntKind.wrap .u8 (Int.fdiv s.x_offset (2 ^ (24 : Nat))))) h fun h2 =>
  Q s h2

def r20 (s : St) (h : Heap) (Q : St → Heap → Prop) : Prop :=
  Q { s with t6 := (IntKind.wrap .i64 (s.x_i + (5 : Int))) } h

def r21 (s : St) (h : Heap) (Q : Bool → St → Heap → Prop) : Prop :=
  Q (decide (s.x_length > (64 : Int))) s h

def r22 (s : St) (h : Heap) (Q : St → Heap → Prop) : Prop :=
  0 ≤ (2 : Int) ∧ (2 : Int) < ((s.x_dst.n : Nat) : Int) ∧
  ptrE s.x_dst.p fun a1 =>
  st1 (Addr.add (Addr.add a1 (Int.toNat (2 : Int) * 1)) 0) (.int .u8 (IntKind.wrap .u8 (Int.fdiv s.x_offset (2 ^ (8 : Nat))))) h fun h2 =>
  Q s h2

def r23 (s : St) (h : Heap) (Q : St → Heap → Prop) : Prop :=
  0 ≤ (1 : Int) ∧ (1 : Int) < ((s.x_dst.n : Nat) : Int) ∧
  ptrE s.x_dst.p fun a1 =>
  st1 (Addr.add (Addr.add a1 (Int.toNat (1 : Int) * 1)) 0) (.int .u8 (IntKind.wrap .u8 s.x_offset)) h fun h2 =>
  Q s h2

def r24 (s : St) (h : Heap) (Q : St → Heap → Prop) : Prop :=
  0 ≤ (0 : Int) ∧ (0 : Int) < ((s.x_dst.n : Nat) : Int) ∧
  ptrE s.x_dst.p fun a1 =>
  st1 (Addr.add (Addr.add a1 (Int.toNat (0 : Int) * 1)) 0) (.int .u8 (238 : Int)) h fun h2 =>
  Q s h2

def r25 (s : St) (h : Heap) (Q : St → Heap → Prop) : Prop :=
  Q { s with x_length := (IntKind.wrap .i64 (s.x_length - (60 : Int))) } h

def r26 (s : St) (h : Heap) (Q : St → Heap → Prop) : Prop :=
  0 ≤ (3 : Int) ∧ (3 : Int) ≤ ((s.x_dst.n : Nat) : Int) ∧
  c_emitCopyNoRepeat ⟨(subP s.x_dst.p (Int.toNat (3 : Int)) s.x_dst.c 1), (s.x_dst.n - (Int.toNat (3 : Int))), (s.x_dst.c - (Int.toNat (3 : Int)))⟩ s.x_offset s.x_length h fun r2 h1 =>
  Q { s with t6 := (IntKind.wrap .i64 ((3 : Int) + r2)) } h1

def r27 (s : St) (h : Heap) (Q : Bool → St → Heap → Prop) : Prop :=
  (if (decide (s.x_length ≥ (12 : Int))) = false then
  (Q (decide (s.x_offset ≥ (2048 : Int))) s h)
  else
  (Q true s h))

def r28 (s : St) (h : Heap) (Q : St → Heap → Prop) : Prop :=
  0 ≤ (2 : Int) ∧ (2 : Int) < ((s.x_dst.n : Nat) : Int) ∧
  ptrE s.x_dst.p fun a1 =>
  st1 (Addr.add (Addr.add a1 (Int.toNat (2 : Int) * 1)) 0) (.int .u8 (IntKind.wrap .u8 (Int.fdiv s.x_offset (2 ^ (8 : Nat))))) h fun h2 =>
  Q s h2

def r29 (s : St) (h : Heap) (Q : St → Heap → Prop) : Prop :=
  0 ≤ (1 : Int) ∧ (1 : Int) < ((s.x_dst.n : Nat) : Int) ∧
  ptrE s.x_dst.p fun a1 =>
  st1 (Addr.add (Addr.add a1 (Int.toNat (1 : Int) * 1)) 0) (.int .u8 (IntKind.wrap .u8 s.x_offset)) h fun h2 =>
  Q s h2

def r30 (s : St) (h : Heap) (Q : St → Heap → Prop) : Prop :=
  0 ≤ (0 : Int) ∧ (0 : Int) < ((s.x_dst.n : Nat) : Int) ∧
  ptrE s.x_dst.p fun a1 =>
  st1 (Addr.add (Addr.add a1 (Int.toNat (0 : Int) * 1)) 0) (.int .u8 (bOr .u8 (IntKind.wrap .u8 ((IntKind.wrap .u8 (IntKind.wrap .i64 (s.x_length - (1 : Int)))) * 2 ^ (2 : Nat))) (2 : Int))) h fun h2 =>
  Q s h2

def r31 (s : St) (h : Heap) (Q : St → Heap → Prop) : Prop :=
  Q { s with t6 := (3 : Int) } h

def r32 (s : St) (h : Heap) (Q : St → Heap → Prop) : Prop :=
  0 ≤ (1 : Int) ∧ (1 : Int) < ((s.x_dst.n : Nat) : Int) ∧
  ptrE s.x_dst.p fun a1 =>
  st1 (Addr.add (Addr.add a1 (Int.toNat (1 : Int) * 1)) 0) (.int .u8 (IntKind.wrap .u8 s.x_offset)) h fun h2 =>
  Q s h2

def r33 (s : St) (h : Heap) (Q : St → Heap → Prop) : Prop :=
  0 ≤ (0 : Int) ∧ (0 : Int) < ((s.x_dst.n : Nat) : Int) ∧
  ptrE s.x_dst.p fun a1 =>
  st1 (Addr.add (Addr.add a1 (Int.toNat (0 : Int) * 1)) 0) (.int .u8 (bOr .u8 (bOr .u8 (IntKind.wrap .u8 ((IntKind.wrap .u8 (Int.fdiv s.x_offset (2 ^ (8 : Nat)))) * 2 ^ (5 : Nat))) (IntKind.wrap .u8 ((IntKind.wrap .u8 (IntKind.wrap .i64 (s.x_length - (4 : Int)))) * 2 ^ (2 : Nat)))) (1 : Int))) h fun h2 =>
  Q s h2

def r34 (s : St) (h : Heap) (Q : St → Heap → Prop) : Prop :=
  Q { s with t6 := (2 : Int) } h

def k26 : Stm St := (.seq (.reg r33) (.seq (.reg r34) .ret))
def k25 : Stm St := (.seq (.reg r32) k26)
def k24 : Stm St := (.seq (.reg r30) (.seq (.reg r31) .ret))
def k23 : Stm St := (.seq (.reg r29) k24)
def k22 : Stm St := (.seq (.reg r28) k23)
def k21 : Stm St := (.seq (.test r27 k22 .skip) k25)
def k20 : Stm St := (.seq (.reg r25) (.seq (.reg r26) .ret))
def k19 : Stm St := (.seq (.reg r24) k20)
def k18 : Stm St := (.seq (.reg r23) k19)
def k17 : Stm St := (.seq (.reg r22) k18)
def k16 : Stm St := (.seq (.test r21 k17 .skip) k21)
def k15 : Stm St := (.seq (.reg r19) (.seq (.reg r20) .ret))
def k14 : Stm St := (.seq (.reg r18) k15)
def k13 : Stm St := (.seq (.reg r17) k14)
def k12 : Stm St := (.seq (.reg r16) k13)
def k11 : Stm St := (.seq (.reg r15) k12)
def k10 : Stm St := (.seq (.test r13 (.seq (.reg r14) .ret) .skip) k11)
def k9 : Stm St := (.seq (.test r10 (.seq (.reg r11) .ret) .skip) (.reg r12))
def k8 : Stm St := (.seq (.reg r9) k9)
def k7 : Stm St := (.seq (.reg r8) k8)
def k6 : Stm St := (.seq (.reg r7) k7)
def k5 : Stm St := (.seq (.reg r6) k6)
def k4 : Stm St := (.seq (.reg r5) k5)
def k3 : Stm St := (.seq (.reg r4) k4)
def k2 : Stm St := (.seq (.test r3 k3 .skip) k10)
def k1 : Stm St := (.seq (.reg r2) k2)
def k0 : Stm St := (.seq (.test r1 k1 .skip) k16)

def stm : Stm St := (.seq (.reg r0) k0)

def ex : Ex → Pt St := fun _ => p0

set_option maxRecDepth 100000 in
theorem sim : Sim Pg 143 p1 (Tryd.f68.body.getD .skip) stm p0 ex :=
  (Sim.seq (Sim.reg (A := p1) (B := p1) (fun _ _ _ => by kernel_rfl))
  (Sim.seq (Sim.test (A := p1) (B := p1) (fun _ _ _ => by kernel_rfl) (Sim.seq (Sim.reg (A := p1) (B := p2) (fun _ _ _ => by kernel_rfl))
  (Sim.seq (Sim.test (A := p2) (B := p2) (fun _ _ _ => by kernel_rfl) (Sim.seq (Sim.reg (A := p2) (B := p1) (fun _ _ _ => by kernel_rfl))
  (Sim.seq (Sim.reg (A := p1) (B := p1) (fun _ _ _ => by kernel_rfl))
  (Sim.seq (Sim.reg (A := p1) (B := p1) (fun _ _ _ => by kernel_rfl))
  (Sim.seq (Sim.reg (A := p1) (B := p1) (fun _ _ _ => by kernel_rfl))
  (Sim.seq (Sim.reg (A := p1) (B := p1) (fun _ _ _ => by kernel_rfl))
  (Sim.seq (Sim.reg (A := p1) (B := p1) (fun _ _ _ => by kernel_rfl))
  (Sim.seq (Sim.test (A := p1) (B := p1) (fun _ _ _ => by kernel_rfl) (Sim.seq (Sim.reg (A := p1) (B := p0) (fun _ _ _ => by kernel_rfl))
  (Sim.ret (A := p0) (E := ex) (fun _ => ⟨rfl, trivial⟩)))
  (Sim.skip (A := p1)))
  (Sim.reg (A := p1) (B := p2) (fun _ _ _ => by kernel_rfl)))))))))
  (Sim.skip (A := p2)))
  (Sim.seq (Sim.test (A := p2) (B := p2) (fun _ _ _ => by kernel_rfl) (Sim.seq (Sim.reg (A := p2) (B := p0) (fun _ _ _ => by kernel_rfl))
  (Sim.ret (A := p0) (E := ex) (fun _ => ⟨rfl, trivial⟩)))
  (Sim.skip (A := p2)))
  (Sim.seq (Sim.reg (A := p2) (B := p3) (fun _ _ _ => by kernel_rfl))
  (Sim.seq (Sim.reg (A := p3) (B := p3) (fun _ _ _ => by kernel_rfl))
  (Sim.seq (Sim.reg (A := p3) (B := p3) (fun _ _ _ => by kernel_rfl))
  (Sim.seq (Sim.reg (A := p3) (B := p3) (fun _ _ _ => by kernel_rfl))
  (Sim.seq (Sim.reg (A := p3) (B := p4) (fun _ _ _ => by kernel_rfl))
  (Sim.seq (Sim.reg (A := p4) (B := p0) (fun _ _ _ => by kernel_rfl))
  (Sim.ret (A := p0) (E := ex) (fun _ => ⟨rfl, trivial⟩)))))))))))
  (Sim.skip (A := p1)))
  (Sim.seq (Sim.test (A := p1) (B := p1) (fun _ _ _ => by kernel_rfl) (Sim.seq (Sim.reg (A := p1) (B := p1) (fun _ _ _ => by kernel_rfl))
  (Sim.seq (Sim.reg (A := p1) (B := p1) (fun _ _ _ => by kernel_rfl))
  (Sim.seq (Sim.reg (A := p1) (B := p1) (fun _ _ _ => by kernel_rfl))
  (Sim.seq (Sim.reg (A := p1) (B := p1) (fun _ _ _ => by kernel_rfl))
  (Sim.seq (Sim.reg (A := p1) (B := p0) (fun _ _ _ => by kernel_rfl))
  (Sim.ret (A := p0) (E := ex) (fun _ => ⟨rfl, trivial⟩)))))))
  (Sim.skip (A := p1)))
  (Sim.seq (Sim.test (A := p1) (B := p1) (fun _ _ _ => by kernel_rfl) (Sim.seq (Sim.reg (A := p1) (B := p1) (fun _ _ _ => by kernel_rfl))
  (Sim.seq (Sim.reg (A := p1) (B := p5) (fun _ _ _ => by kernel_rfl))
  (Sim.seq (Sim.reg (A := p5) (B := p6) (fun _ _ _ => by kernel_rfl))
  (Sim.seq (Sim.reg (A := p6) (B := p0) (fun _ _ _ => by kernel_rfl))
  (Sim.ret (A := p0) (E := ex) (fun _ => ⟨rfl, trivial⟩))))))
  (Sim.skip (A := p1)))
  (Sim.seq (Sim.reg (A := p1) (B := p1) (fun _ _ _ => by kernel_rfl))
  (Sim.seq (Sim.reg (A := p1) (B := p6) (fun _ _ _ => by kernel_rfl))
  (Sim.seq (Sim.reg (A := p6) (B := p0) (fun _ _ _ => by kernel_rfl))
  (Sim.ret (A := p0) (E := ex) (fun _ => ⟨rfl, trivial⟩)))))))))

def init (x_dst : Sl) (x_offset : Int) (x_length : Int) : St := { x_dst := x_dst, x_offset := x_offset, x_length := x_length, t6 := 0, x_i := 0 }

/-- What is left of the results. -/
def res (K : Int → Heap → Prop) (s : St) (h1 : Heap) : Prop := K s.t6 h1

/-- The call of 'pub-pemmican/pub/compress/s2.emitCopyNoRepeat'. -/
theorem calls (x_dst : Sl) (x_offset : Int) (x_length : Int) (h : Heap) (K : Int → Heap → Prop)
    (H : stm (init x_dst x_offset x_length) h (endK (res K))) : c_emitCopyNoRepeat x_dst x_offset x_length h K := by
  have hc : CallsH Pg 68 #[(.slice x_dst.p x_dst.n x_dst.c), (.int .i64 x_offset), (.int .i64 x_length)] h fun v h1 => asI .i64 v fun n1 => K n1 h1 :=
    callsH_of_sim (R := p0) (fn := Tryd.f68) (c := Tryd.f68.body.getD .skip) Tryd.func68 rfl Tryd.ntmps68 Tryd.call68 sim (init x_dst x_offset x_length) (⟨rfl, rfl, rfl, trivial⟩) (Nat.le_of_ble_eq_true rfl) (fun _ => ⟨rfl, trivial⟩) rfl
      (res K) (fun _ _ => by kernel_rfl) H
  refine hc.mono ?_
  intro v hp H
  obtain ⟨n1, rfl, h1⟩ := asI_elim H
  exact ⟨_, rfl, h1⟩

end M_emitCopyNoRepeat

end Go.Proofs.YtibleenkgmkpmaaDoor

namespace Go.Proofs.YtibleenkgmkpmaaDoor
open Go Go.Vc Go.Proofs

namespace M_emitLiteral

structure St where
  x_dst : Sl
  x_lit : Sl
  t4 : Int
  x_i : Int
  x_n : Int

def p0 : Pt St where
  env s := [(4, (.int .i64 s.t4))]
  fin e s K := vI e 4 .i64 fun n1 => K { s with t4 := n1 }
  ok := by
    intro e s K h0
    obtain ⟨n1, g1, h2⟩ := gI h0
    exact ⟨_, ⟨g1, trivial⟩, h2⟩

def p1 : Pt St where
  env s := [(0, (.slice s.x_dst.p s.x_dst.n s.x_dst.c)), (1, (.slice s.x_lit.p s.x_lit.n s.x_lit.c))]
  fin e s K := vS e 0 fun p1 n1 c1 => vS e 1 fun p2 n2 c2 => K { s with x_dst := ⟨p1, n1, c1⟩, x_lit := ⟨p2, n2, c2⟩ }
  ok := by
    intro e s K h0
    obtain ⟨p1, n1, c1, g1, h2⟩ := gS h0
    obtain ⟨p2, n2, c2, g2, h4⟩ := gS h2
    exact ⟨_, ⟨g1, g2, trivial⟩, h4⟩

def p2 : Pt St where
  env s := [(0, (.slice s.x_dst.p s.x_dst.n s.x_dst.c)), (1, (.slice s.x_lit.p s.x_lit.n s.x_lit.c)), (6, (.int .u64 s.x_n))]
  fin e s K := vS e 0 fun p1 n1 c1 => vS e 1 fun p2 n2 c2 => vI e 6 .u64 fun n3 => K { s with x_dst := ⟨p1, n1, c1⟩, x_lit := ⟨p2, n2, c2⟩, x_n := n3 }
  ok := by
    intro e s K h0
    obtain ⟨p1, n1, c1, g1, h2⟩ := gS h0
    obtain ⟨p2, n2, c2, g2, h4⟩ := gS h2
    obtain ⟨n3, g3, h6⟩ := gI h4
    exact ⟨_, ⟨g1, g2, g3, trivial⟩, h6⟩

def p3 : Pt St where
  env s := [(0, (.slice s.x_dst.p s.x_dst.n s.x_dst.c)), (1, (.slice s.x_lit.p s.x_lit.n s.x_lit.c)), (5, (.int .i64 s.x_i))]
  fin e s K := vS e 0 fun p1 n1 c1 => vS e 1 fun p2 n2 c2 => vI e 5 .i64 fun n3 => K { s with x_dst := ⟨p1, n1, c1⟩, x_lit := ⟨p2, n2, c2⟩, x_i := n3 }
  ok := by
    intro e s K h0
    obtain ⟨p1, n1, c1, g1, h2⟩ := gS h0
    obtain ⟨p2, n2, c2, g2, h4⟩ := gS h2
    obtain ⟨n3, g3, h6⟩ := gI h4
    exact ⟨_, ⟨g1, g2, g3, trivial⟩, h6⟩

def r0 (s : St) (h : Heap) (Q : St → Heap → Prop) : Prop :=
  Q s h

def r1 (s : St) (h : Heap) (Q : Bool → St → Heap → Prop) : Prop :=
  Q (((s.x_lit.n : Nat) : Int) == (0 : Int)) s h

def r2 (s : St) (h : Heap) (Q : St → Heap → Prop) : Prop :=
  Q { s with t4 := (0 : Int) } h

def r3 (s : St) (h : Heap) (Q : St → Heap → Prop) : Prop :=
  Q { s with x_n := (IntKind.wrap .u64 (IntKind.wrap .i64 (((s.x_lit.n : Nat) : Int) - (1 : Int)))) } h

def r4 (s : St) (h : Heap) (Q : St → Heap → Prop) : Prop :=
  0 ≤ (4 : Int) ∧ (4 : Int) < ((s.x_dst.n : Nat) : Int) ∧
  ptrE s.x_dst.p fun a1 =>
  st1 (Addr.add (Addr.add a1 (Int.toNat (4 : Int) * 1)) 0) (.int .u8 (IntKind.wrap .u8 (Int.fdiv s.x_n (2 ^ (24 : Nat))))) h fun h2 =>
  Q s h2

def r5 (s : St) (h : Heap) (Q : St → Heap → Prop) : Prop :=
  0 ≤ (3 : Int) ∧ (3 : Int) < ((s.x_dst.n : Nat) : Int) ∧
  ptrE s.x_dst.p fun a1 =>
  st1 (Addr.add (Addr.add a1 (Int.toNat (3 : Int) * 1)) 0) (.int .u8 (IntKind.wrap .u8 (Int.fdiv s.x_n (2 ^ (16 : Nat))))) h fun h2 =>
  Q s h2

def r6 (s : St) (h : Heap) (Q : St → Heap → Prop) : Prop :=
  0 ≤ (2 : Int) ∧ (2 : Int) < ((s.x_dst.n : Nat) : Int) ∧
  ptrE s.x_dst.p fun a1 =>
  st1 (Addr.add (Addr.add a1 (Int.toNat (2 : Int) * 1)) 0) (.int .u8 (IntKind.wrap .u8 (Int.fdiv s.x_n (2 ^ (8 : Nat))))) h fun h2 =>
  Q s h2

def r7 (s : St) (h : Heap) (Q : St → Heap → Prop) : Prop :=
  0 ≤ (1 : Int) ∧ (1 : Int) < ((s.x_dst.n : Nat) : Int) ∧
  ptrE s.x_dst.p fun a1 =>
  st1 (Addr.add (Addr.add a1 (Int.toNat (1 : Int) * 1)) 0) (.int .u8 (IntKind.wrap .u8 s.x_n)) h fun h2 =>
  Q s h2

def r8 (s : St) (h : Heap) (Q : St → Heap → Prop) : Prop :=
  0 ≤ (0 : Int) ∧ (0 : Int) < ((s.x_dst.n : Nat) : Int) ∧
  ptrE s.x_dst.p fun a1 =>
  st1 (Addr.add (Addr.add a1 (Int.toNat (0 : Int) * 1)) 0) (.int .u8 (252 : Int)) h fun h2 =>
  Q s h2

def r9 (s : St) (h : Heap) (Q : St → Heap → Prop) : Prop :=
  Q { s with x_i := (5 : Int) } h

def r10 (s : St) (h : Heap) (Q : Bool → St → Heap → Prop) : Prop :=
  Q (decide (s.x_n < (60 : Int))) s h

def r11 (s : St) (h : Heap) (Q : St → Heap → Prop) : Prop :=
  0 ≤ (0 : Int) ∧ (0 : Int) < ((s.x_dst.n : Nat) : Int) ∧
  ptrE s.x_dst.p fun a1 =>
  st1 (Addr.add (Addr.add a1 (Int.toNat (0 : Int) * 1)) 0) (.int .u8 (bOr .u8 (IntKind.wrap .u8 ((IntKind.wrap .u8 s.x_n) * 2 ^ (2 : Nat))) (0 : Int))) h fun h2 =>
  Q s h2

def r12 (s : St) (h : Heap) (Q : St → Heap → Prop) : Prop :=
  Q { s with x_i := (1 : Int) } h

def r13 (s : St) (h : Heap) (Q : Bool → St → Heap → Prop) : Prop :=
  Q (decide (s.x_n < (256 : Int))) s h

def r14 (s : St) (h : Heap) (Q : St → Heap → Prop) : Prop :=
  0 ≤ (1 : Int) ∧ (1 : Int) < ((s.x_dst.n : Nat) : Int) ∧
  ptrE s.x_dst.p fun a1 =>
  st1 (Addr.add (Addr.add a1 (Int.toNat (1 : Int) * 1)) 0) (.int .u8 (IntKind.wrap .u8 s.x_n)) h fun h2 =>
  Q s h2

def r15 (s : St) (h : Heap) (Q : St → Heap → Prop) : Prop :=
  0 ≤ (0 : Int) ∧ (0 : Int) < ((s.x_dst.n : Nat) : Int) ∧
  ptrE s.x_dst.p fun a1 =>
  st1 (Addr.add (Addr.add a1 (Int.toNat (0 : Int) * 1)) 0) (.int .u8 (240 : Int)) h fun h2 =>
  Q s h2

def r16 (s : St) (h : Heap) (Q : St → Heap → Prop) : Prop :=
  Q { s with x_i := (2 : Int) } h

def r17 (s : St) (h : Heap) (Q : Bool → St → Heap → Prop) : Prop :=
  Q (decide (s.x_n < (65536 : Int))) s h

def r18 (s : St) (h : Heap) (Q : St → Heap → Prop) : Prop :=
  0 ≤ (2 : Int) ∧ (2 : Int) < ((s.x_dst.n : Nat) : Int) ∧
  ptrE s.x_dst.p fun a1 =>
  st1 (Addr.add (Addr.add a1 (Int.toNat (2 : Int) * 1)) 0) (.int .u8 (IntKind.wrap .u8 (Int.fdiv s.x_n (2 ^ (8 : Nat))))) h fun h2 =>
  Q s h2

def r19 (s : St) (h : Heap) (Q : St → Heap → Prop) : Prop :=
  0 ≤ (1 : Int) ∧ (1 : Int) < ((s.x_dst.n : Nat) : Int) ∧
  ptrE s.x_dst.p fun a1 =>
  st1 (Addr.add (Addr.add a1 (Int.toNat (1 : Int) * 1)) 0) (.int .u8 (IntKind.wrap .u8 s.x_n)) h fun h2 =>
  Q s h2

def r20 (s : St) (h : Heap) (Q : St → Heap → Prop) : Prop :=
  0 ≤ (0 : Int) ∧ (0 : Int) < ((s.x_dst.n : Nat) : Int) ∧
  ptrE s.x_dst.p fun a1 =>
  st1 (Addr.add (Addr.add a1 (Int.toNat (0 : Int) * 1)) 0) (.int .u8 (244 : Int)) h fun h2 =>
  Q s h2

def r21 (s : St) (h : Heap) (Q : St → Heap → Prop) : Prop :=
  Q { s with x_i := (3 : Int) } h

def r22 (s : St) (h : Heap) (Q : Bool → St → Heap → Prop) : Prop :=
  Q (decide (s.x_n < (16777216 : Int))) s h

def r23 (s : St) (h : Heap) (Q : St → Heap → Prop) : Prop :=
  0 ≤ (3 : Int) ∧ (3 : Int) < ((s.x_dst.n : Nat) : Int) ∧
  ptrE s.x_dst.p fun a1 =>
  st1 (Addr.add (Addr.add a1 (Int.toNat (3 : Int) * 1)) 0) (.int .u8 (IntKind.wrap .u8 (Int.fdiv s.x_n (2 ^ (16 : Nat))))) h fun h2 =>
  Q s h2

def r24 (s : St) (h : Heap) (Q : St → Heap → Prop) : Prop :=
  0 ≤ (2 : Int) ∧ (2 : Int) < ((s.x_dst.n : Nat) : Int) ∧
  ptrE s.x_dst.p fun a1 =>
  st1 (Addr.add (Addr.add a1 (Int.toNat (2 : Int) * 1)) 0) (.int .u8 (IntKind.wrap .u8 (Int.fdiv s.x_n (2 ^ (8 : Nat))))) h fun h2 =>
  Q s h2

def r25 (s : St) (h : Heap) (Q : St → Heap → Prop) : Prop :=
  0 ≤ (1 : Int) ∧ (1 : Int) < ((s.x_dst.n : Nat) : Int) ∧
  ptrE s.x_dst.p fun a1 =>
  st1 (Addr.add (Addr.add a1 (Int.toNat (1 : Int) * 1)) 0) (.int .u8 (IntKind.wrap .u8 s.x_n)) h fun h2 =>
  Q s h2

def r26 (s : St) (h : Heap) (Q : St → Heap → Prop) : Prop :=
  0 ≤ (0 : Int) ∧ (0 : Int) < ((s.x_dst.n : Nat) : Int) ∧
  ptrE s.x_dst.p fun a1 =>
  st1 (Addr.add (Addr.add a1 (Int.toNat (0 : Int) * 1)) 0) (.int .u8 (248 : Int)) h fun h2 =>
  Q s h2

def r27 (s : St) (h : Heap) (Q : St → Heap → Prop) : Prop :=
  Q { s with x_i := (4 : Int) } h

def r28 (s : St) (h : Heap) (Q : St → Heap → Prop) : Prop :=
  0 ≤ s.x_i ∧ s.x_i ≤ ((s.x_dst.n : Nat) : Int) ∧
  copyT Pg 5 (subP s.x_dst.p (Int.toNat s.x_i) s.x_dst.c 1) (s.x_dst.n - (Int.toNat s.x_i)) (.slice s.x_lit.p s.x_lit.n s.x_lit.c) s.x_lit.n h fun n1 h2 =>
  Q { s with t4 := (IntKind.wrap .i64 (s.x_i + n1)) } h2

def k15 : Stm St := (.seq (.reg r7) (.seq (.reg r8) (.reg r9)))
def k14 : Stm St := (.seq (.reg r6) k15)
def k13 : Stm St := (.seq (.reg r5) k14)
def k12 : Stm St := (.seq (.reg r4) k13)
def k11 : Stm St := (.seq (.reg r25) (.seq (.reg r26) (.reg r27)))
def k10 : Stm St := (.seq (.reg r24) k11)
def k9 : Stm St := (.seq (.reg r23) k10)
def k8 : Stm St := (.test r22 k9 k12)
def k7 : Stm St := (.seq (.reg r19) (.seq (.reg r20) (.reg r21)))
def k6 : Stm St := (.seq (.reg r18) k7)
def k5 : Stm St := (.test r17 k6 k8)
def k4 : Stm St := (.seq (.reg r14) (.seq (.reg r15) (.reg r16)))
def k3 : Stm St := (.test r13 k4 k5)
def k2 : Stm St := (.seq (.block 0 (.test r10 (.seq (.reg r11) (.reg r12)) k3)) (.seq (.reg r28) .ret))
def k1 : Stm St := (.seq (.reg r3) k2)
def k0 : Stm St := (.seq (.test r1 (.seq (.reg r2) .ret) .skip) k1)

def stm : Stm St := (.seq (.reg r0) k0)

def ex : Ex → Pt St := fun _ => p0

set_option maxRecDepth 100000 in
theorem sim : Sim Pg 93 p1 (Tryd.f66.body.getD .skip) stm p0 ex :=
  (Sim.seq (Sim.reg (A := p1) (B := p1) (fun _ _ _ => by kernel_rfl))
  (Sim.seq (Sim.test (A := p1) (B := p1) (fun _ _ _ => by kernel_rfl) (Sim.seq (Sim.reg (A := p1) (B := p0) (fun _ _ _ => by kernel_rfl))
  (Sim.ret (A := p0) (E := ex) (fun _ => ⟨rfl, trivial⟩)))
  (Sim.skip (A := p1)))
  (Sim.seq (Sim.reg (A := p1) (B := p2) (fun _ _ _ => by kernel_rfl))
  (Sim.seq (Sim.block (B := p3) (Sim.test (A := p2) (B := p2) (fun _ _ _ => by kernel_rfl) (Sim.seq (Sim.reg (A := p2) (B := p1) (fun _ _ _ => by kernel_rfl))
  (Sim.reg (A := p1) (B := p3) (fun _ _ _ => by kernel_rfl)))
  (Sim.test (A := p2) (B := p2) (fun _ _ _ => by kernel_rfl) (Sim.seq (Sim.reg (A := p2) (B := p1) (fun _ _ _ => by kernel_rfl))
  (Sim.seq (Sim.reg (A := p1) (B := p1) (fun _ _ _ => by kernel_rfl))
  (Sim.reg (A := p1) (B := p3) (fun _ _ _ => by kernel_rfl))))
  (Sim.test (A := p2) (B := p2) (fun _ _ _ => by kernel_rfl) (Sim.seq (Sim.reg (A := p2) (B := p2) (fun _ _ _ => by kernel_rfl))
  (Sim.seq (Sim.reg (A := p2) (B := p1) (fun _ _ _ => by kernel_rfl))
  (Sim.seq (Sim.reg (A := p1) (B := p1) (fun _ _ _ => by kernel_rfl))
  (Sim.reg (A := p1) (B := p3) (fun _ _ _ => by kernel_rfl)))))
  (Sim.test (A := p2) (B := p2) (fun _ _ _ => by kernel_rfl) (Sim.seq (Sim.reg (A := p2) (B := p2) (fun _ _ _ => by kernel_rfl))
  (Sim.seq (Sim.reg (A := p2) (B := p2) (fun _ _ _ => by kernel_rfl))
  (Sim.seq (Sim.reg (A := p2) (B := p1) (fun _ _ _ => by kernel_rfl))
  (Sim.seq (Sim.reg (A := p1) (B := p1) (fun _ _ _ => by kernel_rfl))
  (Sim.reg (A := p1) (B := p3) (fun _ _ _ => by kernel_rfl))))))
  (Sim.seq (Sim.reg (A := p2) (B := p2) (fun _ _ _ => by kernel_rfl))
  (Sim.seq (Sim.reg (A := p2) (B := p2) (fun _ _ _ => by kernel_rfl))
  (Sim.seq (Sim.reg (A := p2) (B := p2) (fun _ _ _ => by kernel_rfl))
  (Sim.seq (Sim.reg (A := p2) (B := p1) (fun _ _ _ => by kernel_rfl))
  (Sim.seq (Sim.reg (A := p1) (B := p1) (fun _ _ _ => by kernel_rfl))
  (Sim.reg (A := p1) (B := p3) (fun _ _ _ => by kernel_rfl))))))))))))
  (Sim.seq (Sim.reg (A := p3) (B := p0) (fun _ _ _ => by kernel_rfl))
  (Sim.ret (A := p0) (E := ex) (fun _ => ⟨rfl, trivial⟩)))))))

def init (x_dst : Sl) (x_lit : Sl) : St := { x_dst := x_dst, x_lit := x_lit, t4 := 0, x_i := 0, x_n := 0 }

/-- What is left of the results. -/
def res (K : Int → Heap → Prop) (s : St) (h1 : Heap) : Prop := K s.t4 h1

/-- The call of 'pub-pemmican/pub/compress/s2.emitLiteral'. -/
theorem calls (x_dst : Sl) (x_lit : Sl) (h : Heap) (K : Int → Heap → Prop)
    (H : stm (init x_dst x_lit) h (endK (res K))) : c_emitLiteral x_dst x_lit h K := by
  have hc : CallsH Pg 66 #[(.slice x_dst.p x_dst.n x_dst.c), (.slice x_lit.p x_lit.n x_lit.c)] h fun v h1 => asI .i64 v fun n1 => K n1 h1 :=
    callsH_of_sim (R := p0) (fn := Tryd.f66) (c := Tryd.f66.body.getD .skip) Tryd.func66 rfl Tryd.ntmps66 Tryd.call66 sim (init x_dst x_lit) (⟨rfl, rfl, trivial⟩) (Nat.le_of_ble_eq_true rfl) (fun _ => ⟨rfl, trivial⟩) rfl
      (res K) (fun _ _ => by kernel_rfl) H
  refine hc.mono ?_
  intro v hp H
  obtain ⟨n1, rfl, h1⟩ := asI_elim H
  exact ⟨_, rfl, h1⟩

end M_emitLiteral

end Go.Proofs.YtibleenkgmkpmaaDoor

namespace Go.Proofs.YtibleenkgmkpmaaDoor
open Go Go.Vc Go.Proofs

namespace M_laws_uvarint

structure St where
  x_n : Int
  t2 : Sl
  x_out : Sl

def p0 : Pt St where
  env s := [(2, (.slice s.t2.p s.t2.n s.t2.c))]
  fin e s K := vS e 2 fun p1 n1 c1 => K { s with t2 := ⟨p1, n1, c1⟩ }
  ok := by
    intro e s K h0
    obtain ⟨p1, n1, c1, g1, h2⟩ := gS h0
    exact ⟨_, ⟨g1, trivial⟩, h2⟩

def p1 : Pt St where
  env s := [(0, (.int .i64 s.x_n))]
  fin e s K := vI e 0 .i64 fun n1 => K { s with x_n := n1 }
  ok := by
    intro e s K h0
    obtain ⟨n1, g1, h2⟩ := gI h0
    exact ⟨_, ⟨g1, trivial⟩, h2⟩

def p2 : Pt St where
  env s := [(0, (.int .i64 s.x_n)), (3, (.slice s.x_out.p s.x_out.n s.x_out.c))]
  fin e s K := vI e 0 .i64 fun n1 => vS e 3 fun p1 n2 c1 => K { s with x_n := n1, x_out := ⟨p1, n2, c1⟩ }
  ok := by
    intro e s K h0
    obtain ⟨n1, g1, h2⟩ := gI h0
    obtain ⟨p1, n2, c1, g2, h4⟩ := gS h2
    exact ⟨_, ⟨g1, g2, trivial⟩, h4⟩

def r0 (s : St) (h : Heap) (Q : St → Heap → Prop) : Prop :=
  Q s h

def r1 (s : St) (h : Heap) (Q : St → Heap → Prop) : Prop :=
  Q { s with x_out := ⟨none, 0, 0⟩ } h

def r2 (s : St) (h : Heap) (Q : Bool → St → Heap → Prop) : Prop :=
  Q (decide (s.x_n ≥ (128 : Int))) s h

def r3 (s : St) (h : Heap) (Q : St → Heap → Prop) : Prop :=
  withH (hnew h [(.int .u8 (bOr .u8 (IntKind.wrap .u8 s.x_n) (128 : Int)))] 5) fun h1 =>
  appendT Pg 5 s.x_out.p s.x_out.n s.x_out.c (.slice (some ⟨Array.size h, 0, none⟩) 1 1) 1 h1 fun p2 n3 c4 h5 =>
  Q { s with x_out := ⟨p2, n3, c4⟩ } h5

def r4 (s : St) (h : Heap) (Q : St → Heap → Prop) : Prop :=
  Q { s with x_n := (Int.fdiv s.x_n (2 ^ (7 : Nat))) } h

def r5 (s : St) (h : Heap) (Q : St → Heap → Prop) : Prop :=
  withH (hnew h [(.int .u8 (IntKind.wrap .u8 s.x_n))] 5) fun h1 =>
  appendT Pg 5 s.x_out.p s.x_out.n s.x_out.c (.slice (some ⟨Array.size h, 0, none⟩) 1 1) 1 h1 fun p2 n3 c4 h5 =>
  Q { s with t2 := ⟨p2, n3, c4⟩ } h5

def k3 : Stm St := (.block 1 (.seq (.reg r3) (.reg r4)))
def k2 : Stm St := (.seq (.test r2 .skip (.exit 0)) k3)
def k1 : Stm St := (.seq (.block 0 (.loop k2)) (.seq (.reg r5) .ret))
def k0 : Stm St := (.seq (.reg r1) k1)

def stm : Stm St := (.seq (.reg r0) k0)

def ex : Ex → Pt St := fun _ => p0

set_option maxRecDepth 100000 in
theorem sim : Sim Pg 19 p1 (Tryd.f30.body.getD .skip) stm p0 ex :=
  (Sim.seq (Sim.reg (A := p1) (B := p1) (fun _ _ _ => by kernel_rfl))
  (Sim.seq (Sim.reg (A := p1) (B := p2) (fun _ _ _ => by kernel_rfl))
  (Sim.seq (Sim.block (B := p2) (Sim.loop (A := p2) (Sim.seq (Sim.test (A := p2) (B := p2) (fun _ _ _ => by kernel_rfl) (Sim.skip (A := p2))
  (Sim.exit (A := p2) (fun _ => ⟨rfl, rfl, trivial⟩)))
  (Sim.block (B := p2) (Sim.seq (Sim.reg (A := p2) (B := p2) (fun _ _ _ => by kernel_rfl))
  (Sim.reg (A := p2) (B := p2) (fun _ _ _ => by kernel_rfl)))))))
  (Sim.seq (Sim.reg (A := p2) (B := p0) (fun _ _ _ => by kernel_rfl))
  (Sim.ret (A := p0) (E := ex) (fun _ => ⟨rfl, trivial⟩))))))

def init (x_n : Int) : St := { x_n := x_n, t2 := Sl.nil, x_out := Sl.nil }

/-- What is left of the results. -/
def res (K : Sl → Heap → Prop) (s : St) (h1 : Heap) : Prop := K s.t2 h1

/-- The call of 'pub-pemmican/laws.uvarint'. -/
theorem calls (x_n : Int) (h : Heap) (K : Sl → Heap → Prop)
    (H : stm (init x_n) h (endK (res K))) : c_laws_uvarint x_n h K := by
  have hc : CallsH Pg 30 #[(.int .i64 x_n)] h fun v h1 => asS v fun p1 n1 c1 => K ⟨p1, n1, c1⟩ h1 :=
    callsH_of_sim (R := p0) (fn := Tryd.f30) (c := Tryd.f30.body.getD .skip) Tryd.func30 rfl Tryd.ntmps30 Tryd.call30 sim (init x_n) (⟨rfl, trivial⟩) (Nat.le_of_ble_eq_true rfl) (fun _ => ⟨rfl, trivial⟩) rfl
      (res K) (fun _ _ => by kernel_rfl) H
  refine hc.mono ?_
  intro v hp H
  obtain ⟨p1, n1, c1, rfl, h1⟩ := asS_elim H
  exact ⟨_, _, _, rfl, h1⟩

end M_laws_uvarint

end Go.Proofs.YtibleenkgmkpmaaDoor

namespace Go.Proofs.YtibleenkgmkpmaaDoor
open Go Go.Vc Go.Proofs

namespace M_spec_SnappyDecode

structure St where
  x_src : Sl
  x_out : Sl
  x_ok : Int

def p0 : Pt St where
  env s := [(2, (.slice s.x_out.p s.x_out.n s.x_out.c)), (3, (.int .i64 s.x_ok))]
  fin e s K := vS e 2 fun p1 n1 c1 => vI e 3 .i64 fun n2 => K { s with x_out := ⟨p1, n1, c1⟩, x_ok := n2 }
  ok := by
    intro e s K h0
    obtain ⟨p1, n1, c1, g1, h2⟩ := gS h0
    obtain ⟨n2, g2, h4⟩ := gI h2
    exact ⟨_, ⟨g1, g2, trivial⟩, h4⟩

def p1 : Pt St where
  env s := [(0, (.slice s.x_src.p s.x_src.n s.x_src.c))]
  fin e s K := vS e 0 fun p1 n1 c1 => K { s with x_src := ⟨p1, n1, c1⟩ }
  ok := by
    intro e s K h0
    obtain ⟨p1, n1, c1, g1, h2⟩ := gS h0
    exact ⟨_, ⟨g1, trivial⟩, h2⟩

def r0 (s : St) (h : Heap) (Q : St → Heap → Prop) : Prop :=
  Q s h

def r1 (s : St) (h : Heap) (Q : St → Heap → Prop) : Prop :=
  withH (hnew h [(.slice none 0 0), (.slice none 0 0), (.int .i64 (0 : Int)), (.bool false)] 65) fun h1 =>
  c_spec_decoded s.x_src (some ⟨Array.size h, 0, none⟩) false h1 fun w3 r4 h2 =>
  Q { s with x_out := w3, x_ok := r4 } h2

def stm : Stm St := (.seq (.reg r0) (.seq (.reg r1) .ret))

def ex : Ex → Pt St := fun _ => p0

set_option maxRecDepth 100000 in
theorem sim : Sim Pg 10 p1 (Tryd.f26.body.getD .skip) stm p0 ex :=
  (Sim.seq (Sim.reg (A := p1) (B := p1) (fun _ _ _ => by kernel_rfl))
  (Sim.seq (Sim.reg (A := p1) (B := p0) (fun _ _ _ => by kernel_rfl))
  (Sim.ret (A := p0) (E := ex) (fun _ => ⟨rfl, rfl, trivial⟩))))

def init (x_src : Sl) : St := { x_src := x_src, x_out := Sl.nil, x_ok := 0 }

/-- What is left of the results. -/
def res (K : Sl → Int → Heap → Prop) (s : St) (h1 : Heap) : Prop := K s.x_out s.x_ok h1

/-- The call of 'pub-pemmican/spec.SnappyDecode'. -/
theorem calls (x_src : Sl) (h : Heap) (K : Sl → Int → Heap → Prop)
    (H : stm (init x_src) h (endK (res K))) : c_spec_SnappyDecode x_src h K := by
  have hc : CallsH Pg 26 #[(.slice x_src.p x_src.n x_src.c)] h fun v h1 => asT v fun l1 => asC l1 fun v1 l2 => asS v1 fun p1 n1 c1 => asC l2 fun v2 l3 => asI .i64 v2 fun n2 => asN l3 (K ⟨p1, n1, c1⟩ n2 h1) :=
    callsH_of_sim (R := p0) (fn := Tryd.f26) (c := Tryd.f26.body.getD .skip) Tryd.func26 rfl Tryd.ntmps26 Tryd.call26 sim (init x_src) (⟨rfl, trivial⟩) (Nat.le_of_ble_eq_true rfl) (fun _ => ⟨rfl, rfl, trivial⟩) rfl
      (res K) (fun _ _ => by kernel_rfl) H
  refine hc.mono ?_
  intro v hp H
  obtain ⟨l1, rfl, h1⟩ := asT_elim H
  obtain ⟨v1, l2, rfl, h2⟩ := asC_elim h1
  obtain ⟨p1, n1, c1, rfl, h3⟩ := asS_elim h2
  obtain ⟨v2, l3, rfl, h4⟩ := asC_elim h3
  obtain ⟨n2, rfl, h5⟩ := asI_elim h4
  obtain ⟨rfl, h6⟩ := asN_elim h5
  exact ⟨_, _, _, _, rfl, h6⟩

end M_spec_SnappyDecode

end Go.Proofs.YtibleenkgmkpmaaDoor

namespace Go.Proofs.YtibleenkgmkpmaaDoor
open Go Go.Vc Go.Proofs

namespace M_Load16

structure St where
  x_b : Sl
  x_i : Int
  t4 : Int

def p0 : Pt St where
  env s := [(4, (.int .u16 s.t4))]
  fin e s K := vI e 4 .u16 fun n1 => K { s with t4 := n1 }
  ok := by
    intro e s K h0
    obtain ⟨n1, g1, h2⟩ := gI h0
    exact ⟨_, ⟨g1, trivial⟩, h2⟩

def p1 : Pt St where
  env s := [(0, (.slice s.x_b.p s.x_b.n s.x_b.c)), (1, (.int .i64 s.x_i))]
  fin e s K := vS e 0 fun p1 n1 c1 => vI e 1 .i64 fun n2 => K { s with x_b := ⟨p1, n1, c1⟩, x_i := n2 }
  ok := by
    intro e s K h0
    obtain ⟨p1, n1, c1, g1, h2⟩ := gS h0
    obtain ⟨n2, g2, h4⟩ := gI h2
    exact ⟨_, ⟨g1, g2, trivial⟩, h4⟩

def r0 (s : St) (h : Heap) (Q : St → Heap → Prop) : Prop :=
  Q s h

def r1 (s : St) (h : Heap) (Q : St → Heap → Prop) : Prop :=
  0 ≤ s.x_i ∧ s.x_i ≤ ((s.x_b.n : Nat) : Int) ∧
  c_littleEndian_Uint16 ⟨(subP s.x_b.p (Int.toNat s.x_i) s.x_b.c 1), (s.x_b.n - (Int.toNat s.x_i)), (s.x_b.c - (Int.toNat s.x_i))⟩ h fun r2 h1 =>
  Q { s with t4 := r2 } h1

def stm : Stm St := (.seq (.reg r0) (.seq (.reg r1) .ret))

def ex : Ex → Pt St := fun _ => p0

set_option maxRecDepth 100000 in
theorem sim : Sim Pg 10 p1 (Tryd.f82.body.getD .skip) stm p0 ex :=
  (Sim.seq (Sim.reg (A := p1) (B := p1) (fun _ _ _ => by kernel_rfl))
  (Sim.seq (Sim.reg (A := p1) (B := p0) (fun _ _ _ => by kernel_rfl))
  (Sim.ret (A := p0) (E := ex) (fun _ => ⟨rfl, trivial⟩))))

def init (x_b : Sl) (x_i : Int) : St := { x_b := x_b, x_i := x_i, t4 := 0 }

/-- What is left of the results. -/
def res (K : Int → Heap → Prop) (s : St) (h1 : Heap) : Prop := K s.t4 h1

/-- The call of 'pub-pemmican/pub/compress/inner/le.Load16[int]'. -/
theorem calls (x_b : Sl) (x_i : Int) (h : Heap) (K : Int → Heap → Prop)
    (H : stm (init x_b x_i) h (endK (res K))) : c_Load16 x_b x_i h K := by
  have hc : CallsH Pg 82 #[(.slice x_b.p x_b.n x_b.c), (.int .i64 x_i)] h fun v h1 => asI .u16 v fun n1 => K n1 h1 :=
    callsH_of_sim (R := p0) (fn := Tryd.f82) (c := Tryd.f82.body.getD .skip) Tryd.func82 rfl Tryd.ntmps82 Tryd.call82 sim (init x_b x_i) (⟨rfl, rfl, trivial⟩) (Nat.le_of_ble_eq_true rfl) (fun _ => ⟨rfl, trivial⟩) rfl
      (res K) (fun _ _ => by kernel_rfl) H
  refine hc.mono ?_
  intro v hp H
  obtain ⟨n1, rfl, h1⟩ := asI_elim H
  exact ⟨_, rfl, h1⟩

end M_Load16

end Go.Proofs.YtibleenkgmkpmaaDoor

namespace Go.Proofs.YtibleenkgmkpmaaDoor
open Go Go.Vc Go.Proofs

namespace M_Load32

structure St where
  x_b : Sl
  x_i : Int
  t4 : Int

def p0 : Pt St where
  env s := [(4, (.int .u32 s.t4))]
  fin e s K := vI e 4 .u32 fun n1 => K { s with t4 := n1 }
  ok := by
    intro e s K h0
    obtain ⟨n1, g1, h2⟩ := gI h0
    exact ⟨_, ⟨g1, trivial⟩, h2⟩

def p1 : Pt St where
  env s := [(0, (.slice s.x_b.p s.x_b.n s.x_b.c)), (1, (.int .i64 s.x_i))]
  fin e s K := vS e 0 fun p1 n1 c1 => vI e 1 .i64 fun n2 => K { s with x_b := ⟨p1, n1, c1⟩, x_i := n2 }
  ok := by
    intro e s K h0
    obtain ⟨p1, n1, c1, g1, h2⟩ := gS h0
    obtain ⟨n2, g2, h4⟩ := gI h2
    exact ⟨_, ⟨g1, g2, trivial⟩, h4⟩

def r0 (s : St) (h : Heap) (Q : St → Heap → Prop) : Prop :=
  Q s h

def r1 (s : St) (h : Heap) (Q : St → Heap → Prop) : Prop :=
  0 ≤ s.x_i ∧ s.x_i ≤ ((s.x_b.n : Nat) : Int) ∧
  c_littleEndian_Uint32 ⟨(subP s.x_b.p (Int.toNat s.x_i) s.x_b.c 1), (s.x_b.n - (Int.toNat s.x_i)), (s.x_b.c - (Int.toNat s.x_i))⟩ h fun r2 h1 =>
  Q { s with t4 := r2 } h1

def stm : Stm St := (.seq (.reg r0) (.seq (.reg r1) .ret))

def ex : Ex → Pt St := fun _ => p0

set_option maxRecDepth 100000 in
theorem sim : Sim Pg 10 p1 (Tryd.f83.body.getD .skip) stm p0 ex :=
  (Sim.seq (Sim.reg (A := p1) (B := p1) (fun _ _ _ => by kernel_rfl))
  (Sim.seq (Sim.reg (A := p1) (B := p0) (fun _ _ _ => by kernel_rfl))
  (Sim.ret (A := p0) (E := ex) (fun _ => ⟨rfl, trivial⟩))))

def init (x_b : Sl) (x_i : Int) : St := { x_b := x_b, x_i := x_i, t4 := 0 }

/-- What is left of the results. -/
def res (K : Int → Heap → Prop) (s : St) (h1 : Heap) : Prop := K s.t4 h1

/-- The call of 'pub-pemmican/pub/compress/inner/le.Load32[int]'. -/
theorem calls (x_b : Sl) (x_i : Int) (h : Heap) (K : Int → Heap → Prop)
    (H : stm (init x_b x_i) h (endK (res K))) : c_Load32 x_b x_i h K := by
  have hc : CallsH Pg 83 #[(.slice x_b.p x_b.n x_b.c), (.int .i64 x_i)] h fun v h1 => asI .u32 v fun n1 => K n1 h1 :=
    callsH_of_sim (R := p0) (fn := Tryd.f83) (c := Tryd.f83.body.getD .skip) Tryd.func83 rfl Tryd.ntmps83 Tryd.call83 sim (init x_b x_i) (⟨rfl, rfl, trivial⟩) (Nat.le_of_ble_eq_true rfl) (fun _ => ⟨rfl, trivial⟩) rfl
      (res K) (fun _ _ => by kernel_rfl) H
  refine hc.mono ?_
  intro v hp H
  obtain ⟨n1, rfl, h1⟩ := asI_elim H
  exact ⟨_, rfl, h1⟩

end M_Load32

end Go.Proofs.YtibleenkgmkpmaaDoor

namespace Go.Proofs.YtibleenkgmkpmaaDoor
open Go Go.Vc Go.Proofs

namespace M_littleEndian_Uint16

structure St where
  x_b : Sl
  t4 : Int

def p0 : Pt St where
  env s := [(4, (.int .u16 s.t4))]
  fin e s K := vI e 4 .u16 fun n1 => K { s with t4 := n1 }
  ok := by
    intro e s K h0
    obtain ⟨n1, g1, h2⟩ := gI h0
    exact ⟨_, ⟨g1, trivial⟩, h2⟩

def p1 : Pt St where
  env s := [(0, (.agg #[])), (1, (.slice s.x_b.p s.x_b.n s.x_b.c))]
  fin e s K := getV e 0 fun v1 => asA v1 fun l1 => asN l1 (vS e 1 fun p1 n1 c1 => K { s with x_b := ⟨p1, n1, c1⟩ })
  ok := by
    intro e s K h0
    obtain ⟨w1, g1, h1⟩ := getV_elim h0
    obtain ⟨l1, rfl, h2⟩ := asA_elim h1
    obtain ⟨rfl, h3⟩ := asN_elim h2
    obtain ⟨p1, n1, c1, g2, h5⟩ := gS h3
    exact ⟨_, ⟨g1, g2, trivial⟩, h5⟩

def p2 : Pt St where
  env s := [(1, (.slice s.x_b.p s.x_b.n s.x_b.c))]
  fin e s K := vS e 1 fun p1 n1 c1 => K { s with x_b := ⟨p1, n1, c1⟩ }
  ok := by
    intro e s K h0
    obtain ⟨p1, n1, c1, g1, h2⟩ := gS h0
    exact ⟨_, ⟨g1, trivial⟩, h2⟩

def r0 (s : St) (h : Heap) (Q : St → Heap → Prop) : Prop :=
  withH (hnew h [] 126) fun h1 =>
  Q s h1

def r1 (s : St) (h : Heap) (Q : St → Heap → Prop) : Prop :=
  0 ≤ (1 : Int) ∧ (1 : Int) < ((s.x_b.n : Nat) : Int) ∧
  ptrE s.x_b.p fun a1 =>
  ∃ v2 : Int, hcell h (Addr.add a1 (Int.toNat (1 : Int) * 1)) = some (.int .u8 v2) ∧
  Q s h

def r2 (s : St) (h : Heap) (Q : St → Heap → Prop) : Prop :=
  0 ≤ (0 : Int) ∧ (0 : Int) < ((s.x_b.n : Nat) : Int) ∧
  ptrE s.x_b.p fun a1 =>
  ∃ v2 : Int, hcell h (Addr.add a1 (Int.toNat (0 : Int) * 1)) = some (.int .u8 v2) ∧
  0 ≤ (1 : Int) ∧ (1 : Int) < ((s.x_b.n : Nat) : Int) ∧
  ptrE s.x_b.p fun a3 =>
  ∃ v4 : Int, hcell h (Addr.add a3 (Int.toNat (1 : Int) * 1)) = some (.int .u8 v4) ∧
  Q { s with t4 := (bOr .u16 (IntKind.wrap .u16 v2) (IntKind.wrap .u16 ((IntKind.wrap .u16 v4) * 2 ^ (8 : Nat)))) } h

def k0 : Stm St := (.seq (.reg r1) (.seq (.reg r2) .ret))

def stm : Stm St := (.seq (.reg r0) k0)

def ex : Ex → Pt St := fun _ => p0

set_option maxRecDepth 100000 in
theorem sim : Sim Pg 18 p1 (Tryd.f90.body.getD .skip) stm p0 ex :=
  (Sim.seq (Sim.reg (A := p1) (B := p2) (fun _ _ _ => by kernel_rfl))
  (Sim.seq (Sim.reg (A := p2) (B := p2) (fun _ _ _ => by kernel_rfl))
  (Sim.seq (Sim.reg (A := p2) (B := p0) (fun _ _ _ => by kernel_rfl))
  (Sim.ret (A := p0) (E := ex) (fun _ => ⟨rfl, trivial⟩)))))

def init (x_b : Sl) : St := { x_b := x_b, t4 := 0 }

/-- What is left of the results. -/
def res (K : Int → Heap → Prop) (s : St) (h1 : Heap) : Prop := K s.t4 h1

/-- The call of '(encoding/binary.littleEndian).Uint16'. -/
theorem calls (x_b : Sl) (h : Heap) (K : Int → Heap → Prop)
    (H : stm (init x_b) h (endK (res K))) : c_littleEndian_Uint16 x_b h K := by
  have hc : CallsH Pg 90 #[(.agg #[]), (.slice x_b.p x_b.n x_b.c)] h fun v h1 => asI .u16 v fun n1 => K n1 h1 :=
    callsH_of_sim (R := p0) (fn := Tryd.f90) (c := Tryd.f90.body.getD .skip) Tryd.func90 rfl Tryd.ntmps90 Tryd.call90 sim (init x_b) (⟨rfl, rfl, trivial⟩) (Nat.le_of_ble_eq_true rfl) (fun _ => ⟨rfl, trivial⟩) rfl
      (res K) (fun _ _ => by kernel_rfl) H
  refine hc.mono ?_
  intro v hp H
  obtain ⟨n1, rfl, h1⟩ := asI_elim H
  exact ⟨_, rfl, h1⟩

end M_littleEndian_Uint16

end Go.Proofs.YtibleenkgmkpmaaDoor

namespace Go.Proofs.YtibleenkgmkpmaaDoor
open Go Go.Vc Go.Proofs

namespace M_littleEndian_Uint32

structure St where
  x_b : Sl
  t4 : Int

def p0 : Pt St where
  env s := [(4, (.int .u32 s.t4))]
  fin e s K := vI e 4 .u32 fun n1 => K { s with t4 := n1 }
  ok := by
    intro e s K h0
    obtain ⟨n1, g1, h2⟩ := gI h0
    exact ⟨_, ⟨g1, trivial⟩, h2⟩

def p1 : Pt St where
  env s := [(0, (.agg #[])), (1, (.slice s.x_b.p s.x_b.n s.x_b.c))]
  fin e s K := getV e 0 fun v1 => asA v1 fun l1 => asN l1 (vS e 1 fun p1 n1 c1 => K { s with x_b := ⟨p1, n1, c1⟩ })
  ok := by
    intro e s K h0
    obtain ⟨w1, g1, h1⟩ := getV_elim h0
    obtain ⟨l1, rfl, h2⟩ := asA_elim h1
    obtain ⟨rfl, h3⟩ := asN_elim h2
    obtain ⟨p1, n1, c1, g2, h5⟩ := gS h3
    exact ⟨_, ⟨g1, g2, trivial⟩, h5⟩

def p2 : Pt St where
  env s := [(1, (.slice s.x_b.p s.x_b.n s.x_b.c))]
  fin e s K := vS e 1 fun p1 n1 c1 => K { s with x_b := ⟨p1, n1, c1⟩ }
  ok := by
    intro e s K h0
    obtain ⟨p1, n1, c1, g1, h2⟩ := gS h0
    exact ⟨_, ⟨g1, trivial⟩, h2⟩

def r0 (s : St) (h : Heap) (Q : St → Heap → Prop) : Prop :=
  withH (hnew h [] 126) fun h1 =>
  Q s h1

def r1 (s : St) (h : Heap) (Q : St → Heap → Prop) : Prop :=
  0 ≤ (3 : Int) ∧ (3 : Int) < ((s.x_b.n : Nat) : Int) ∧
  ptrE s.x_b.p fun a1 =>
  ∃ v2 : Int, hcell h (Addr.add a1 (Int.toNat (3 : Int) * 1)) = some (.int .u8 v2) ∧
  Q s h

def r2 (s : St) (h : Heap) (Q : St → Heap → Prop) : Prop :=
  0 ≤ (0 : Int) ∧ (0 : Int) < ((s.x_b.n : Nat) : Int) ∧
  ptrE s.x_b.p fun a1 =>
  ∃ v2 : Int, hcell h (Addr.add a1 (Int.toNat (0 : Int) * 1)) = some (.int .u8 v2) ∧
  0 ≤ (1 : Int) ∧ (1 : Int) < ((s.x_b.n : Nat) : Int) ∧
  ptrE s.x_b.p fun a3 =>
  ∃ v4 : Int, hcell h (Addr.add a3 (Int.toNat (1 : Int) * 1)) = some (.int .u8 v4) ∧
  0 ≤ (2 : Int) ∧ (2 : Int) < ((s.x_b.n : Nat) : Int) ∧
  ptrE s.x_b.p fun a5 =>
  ∃ v6 : Int, hcell h (Addr.add a5 (Int.toNat (2 : Int) * 1)) = some (.int .u8 v6) ∧
  0 ≤ (3 : Int) ∧ (3 : Int) < ((s.x_b.n : Nat) : Int) ∧
  ptrE s.x_b.p fun a7 =>
  ∃ v8 : Int, hcell h (Addr.add a7 (Int.toNat (3 : Int) * 1)) = some (.int .u8 v8) ∧
  Q { s with t4 := (bOr .u32 (bOr .u32 (bOr .u32 (IntKind.wrap .u32 v2) (IntKind.wrap .u32 ((IntKind.wrap .u32 v4) * 2 ^ (8 : Nat)))) (IntKind.wrap .u32 ((IntKind.wrap .u32 v6) * 2 ^ (16 : Nat)))) (IntKind.wrap .u32 ((IntKind.wrap .u32 v8) * 2 ^ (24 : Nat)))) } h

def k0 : Stm St := (.seq (.reg r1) (.seq (.reg r2) .ret))

def stm : Stm St := (.seq (.reg r0) k0)

def ex : Ex → Pt St := fun _ => p0

set_option maxRecDepth 100000 in
theorem sim : Sim Pg 30 p1 (Tryd.f98.body.getD .skip) stm p0 ex :=
  (Sim.seq (Sim.reg (A := p1) (B := p2) (fun _ _ _ => by kernel_rfl))
  (Sim.seq (Sim.reg (A := p2) (B := p2) (fun _ _ _ => by kernel_rfl))
  (Sim.seq (Sim.reg (A := p2) (B := p0) (fun _ _ _ => by kernel_rfl))
  (Sim.ret (A := p0) (E := ex) (fun _ => ⟨rfl, trivial⟩)))))

def init (x_b : Sl) : St := { x_b := x_b, t4 := 0 }

/-- What is left of the results. -/
def res (K : Int → Heap → Prop) (s : St) (h1 : Heap) : Prop := K s.t4 h1

/-- The call of '(encoding/binary.littleEndian).Uint32'. -/
theorem calls (x_b : Sl) (h : Heap) (K : Int → Heap → Prop)
    (H : stm (init x_b) h (endK (res K))) : c_littleEndian_Uint32 x_b h K := by
  have hc : CallsH Pg 98 #[(.agg #[]), (.slice x_b.p x_b.n x_b.c)] h fun v h1 => asI .u32 v fun n1 => K n1 h1 :=
    callsH_of_sim (R := p0) (fn := Tryd.f98) (c := Tryd.f98.body.getD .skip) Tryd.func98 rfl Tryd.ntmps98 Tryd.call98 sim (init x_b) (⟨rfl, rfl, trivial⟩) (Nat.le_of_ble_eq_true rfl) (fun _ => ⟨rfl, trivial⟩) rfl
      (res K) (fun _ _ => by kernel_rfl) H
  refine hc.mono ?_
  intro v hp H
  obtain ⟨n1, rfl, h1⟩ := asI_elim H
  exact ⟨_, rfl, h1⟩

end M_littleEndian_Uint32

end Go.Proofs.YtibleenkgmkpmaaDoor

