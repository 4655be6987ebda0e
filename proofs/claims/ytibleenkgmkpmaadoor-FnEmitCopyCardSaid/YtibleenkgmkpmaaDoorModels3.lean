/- Models of functions of the program: what each one computes, over heaps, tied to the program by one check a region. Written by a program. -/
import Derived.Test.YtibleenkgmkpmaaDoorSigs
namespace Go.Proofs.YtibleenkgmkpmaaDoor
open Go Go.Vc Go.Proofs

namespace M_emitRepeat

structure St where
  x_dst : Sl
  x_offset : Int
  x_length : Int
  t6 : Int
  x_left : Int

def p0 : Pt St where
  env s := [(6, (.int .i64 s.t6))]
  fin e s K := getV e 6 fun v1 => asI .i64 v1 fun n1 => K { s with t6 := n1 }
  ok := by
    intro e s K h0
    obtain ⟨w1, g1, h1⟩ := getV_elim h0
    obtain ⟨n1, rfl, h2⟩ := asI_elim h1
    exact ⟨_, ⟨g1, trivial⟩, h2⟩

def p1 : Pt St where
  env s := [(0, (.slice s.x_dst.p s.x_dst.n s.x_dst.c)), (1, (.int .i64 s.x_offset)), (2, (.int .i64 s.x_length))]
  fin e s K := getV e 0 fun v1 => asS v1 fun p1 n1 c1 => getV e 1 fun v2 => asI .i64 v2 fun n2 => getV e 2 fun v3 => asI .i64 v3 fun n3 => K { s with x_dst := ⟨p1, n1, c1⟩, x_offset := n2, x_length := n3 }
  ok := by
    intro e s K h0
    obtain ⟨w1, g1, h1⟩ := getV_elim h0
    obtain ⟨p1, n1, c1, rfl, h2⟩ := asS_elim h1
    obtain ⟨w2, g2, h3⟩ := getV_elim h2
    obtain ⟨n2, rfl, h4⟩ := asI_elim h3
    obtain ⟨w3, g3, h5⟩ := getV_elim h4
    obtain ⟨n3, rfl, h6⟩ := asI_elim h5
    exact ⟨_, ⟨g1, g2, g3, trivial⟩, h6⟩

def p2 : Pt St where
  env s := [(0, (.slice s.x_dst.p s.x_dst.n s.x_dst.c))]
  fin e s K := getV e 0 fun v1 => asS v1 fun p1 n1 c1 => K { s with x_dst := ⟨p1, n1, c1⟩ }
  ok := by
    intro e s K h0
    obtain ⟨w1, g1, h1⟩ := getV_elim h0
    obtain ⟨p1, n1, c1, rfl, h2⟩ := asS_elim h1
    exact ⟨_, ⟨g1, trivial⟩, h2⟩

def p3 : Pt St where
  env s := []
  fin e s K := K s
  ok := by
    intro e s K h0
    exact ⟨_, trivial, h0⟩

def p4 : Pt St where
  env s := [(0, (.slice s.x_dst.p s.x_dst.n s.x_dst.c)), (2, (.int .i64 s.x_length))]
  fin e s K := getV e 0 fun v1 => asS v1 fun p1 n1 c1 => getV e 2 fun v2 => asI .i64 v2 fun n2 => K { s with x_dst := ⟨p1, n1, c1⟩, x_length := n2 }
  ok := by
    intro e s K h0
    obtain ⟨w1, g1, h1⟩ := getV_elim h0
    obtain ⟨p1, n1, c1, rfl, h2⟩ := asS_elim h1
    obtain ⟨w2, g2, h3⟩ := getV_elim h2
    obtain ⟨n2, rfl, h4⟩ := asI_elim h3
    exact ⟨_, ⟨g1, g2, trivial⟩, h4⟩

def p5 : Pt St where
  env s := [(0, (.slice s.x_dst.p s.x_dst.n s.x_dst.c)), (1, (.int .i64 s.x_offset)), (2, (.int .i64 s.x_length)), (7, (.int .i64 s.x_left))]
  fin e s K := getV e 0 fun v1 => asS v1 fun p1 n1 c1 => getV e 1 fun v2 => asI .i64 v2 fun n2 => getV e 2 fun v3 => asI .i64 v3 fun n3 => getV e 7 fun v4 => asI .i64 v4 fun n4 => K { s with x_dst := ⟨p1, n1, c1⟩, x_offset := n2, x_length := n3, x_left := n4 }
  ok := by
    intro e s K h0
    obtain ⟨w1, g1, h1⟩ := getV_elim h0
    obtain ⟨p1, n1, c1, rfl, h2⟩ := asS_elim h1
    obtain ⟨w2, g2, h3⟩ := getV_elim h2
    obtain ⟨n2, rfl, h4⟩ := asI_elim h3
    obtain ⟨w3, g3, h5⟩ := getV_elim h4
    obtain ⟨n3, rfl, h6⟩ := asI_elim h5
    obtain ⟨w4, g4, h7⟩ := getV_elim h6
    obtain ⟨n4, rfl, h8⟩ := asI_elim h7
    exact ⟨_, ⟨g1, g2, g3, g4, trivial⟩, h8⟩

def p6 : Pt St where
  env s := [(0, (.slice s.x_dst.p s.x_dst.n s.x_dst.c)), (1, (.int .i64 s.x_offset)), (7, (.int .i64 s.x_left))]
  fin e s K := getV e 0 fun v1 => asS v1 fun p1 n1 c1 => getV e 1 fun v2 => asI .i64 v2 fun n2 => getV e 7 fun v3 => asI .i64 v3 fun n3 => K { s with x_dst := ⟨p1, n1, c1⟩, x_offset := n2, x_left := n3 }
  ok := by
    intro e s K h0
    obtain ⟨w1, g1, h1⟩ := getV_elim h0
    obtain ⟨p1, n1, c1, rfl, h2⟩ := asS_elim h1
    obtain ⟨w2, g2, h3⟩ := getV_elim h2
    obtain ⟨n2, rfl, h4⟩ := asI_elim h3
    obtain ⟨w3, g3, h5⟩ := getV_elim h4
    obtain ⟨n3, rfl, h6⟩ := asI_elim h5
    exact ⟨_, ⟨g1, g2, g3, trivial⟩, h6⟩

def r0 (s : St) (h : Heap) (Q : St → Heap → Prop) : Prop :=
  Q s h

def r1 (s : St) (h : Heap) (Q : St → Heap → Prop) : Prop :=
  Q { s with x_length := (IntKind.wrap .i64 (s.x_length - (4 : Int))) } h

def r2 (s : St) (h : Heap) (Q : Bool → St → Heap → Prop) : Prop :=
  Q (decide (s.x_length ≤ (4 : Int))) s h

def r3 (s : St) (h : Heap) (Q : St → Heap → Prop) : Prop :=
  0 ≤ (0 : Int) ∧ (0 : Int) < ((s.x_dst.n : Nat) : Int) ∧
  ptrE s.x_dst.p fun a1 =>
  st1 (Addr.add (Addr.add a1 (Int.toNat (0 : Int) * 1)) 0) (.int .u8 (bOr .u8 (IntKind.wrap .u8 ((IntKind.wrap .u8 s.x_length) * 2 ^ (2 : Nat))) (1 : Int))) h fun h2 =>
  Q s h2

def r4 (s : St) (h : Heap) (Q : St → Heap → Prop) : Prop :=
  0 ≤ (1 : Int) ∧ (1 : Int) < ((s.x_dst.n : Nat) : Int) ∧
  ptrE s.x_dst.p fun a1 =>
  st1 (Addr.add (Addr.add a1 (Int.toNat (1 : Int) * 1)) 0) (.int .u8 (0 : Int)) h fun h2 =>
  Q s h2

def r5 (s : St) (h : Heap) (Q : St → Heap → Prop) : Prop :=
  Q { s with t6 := (2 : Int) } h

def r6 (s : St) (h : Heap) (Q : Bool → St → Heap → Prop) : Prop :=
  (if (decide (s.x_length < (8 : Int))) = true then
  (Q (decide (s.x_offset < (2048 : Int))) s h)
  else
  (Q false s h))

def r7 (s : St) (h : Heap) (Q : St → Heap → Prop) : Prop :=
  0 ≤ (1 : Int) ∧ (1 : Int) < ((s.x_dst.n : Nat) : Int) ∧
  ptrE s.x_dst.p fun a1 =>
  st1 (Addr.add (Addr.add a1 (Int.toNat (1 : Int) * 1)) 0) (.int .u8 (IntKind.wrap .u8 s.x_offset)) h fun h2 =>
  Q s h2

def r8 (s : St) (h : Heap) (Q : St → Heap → Prop) : Prop :=
  0 ≤ (0 : Int) ∧ (0 : Int) < ((s.x_dst.n : Nat) : Int) ∧
  ptrE s.x_dst.p fun a1 =>
  st1 (Addr.add (Addr.add a1 (Int.toNat (0 : Int) * 1)) 0) (.int .u8 (bOr .u8 (bOr .u8 (IntKind.wrap .u8 ((IntKind.wrap .u8 (Int.fdiv s.x_offset (2 ^ (8 : Nat)))) * 2 ^ (5 : Nat))) (IntKind.wrap .u8 ((IntKind.wrap .u8 s.x_length) * 2 ^ (2 : Nat)))) (1 : Int))) h fun h2 =>
  Q s h2

def r9 (s : St) (h : Heap) (Q : St → Heap → Prop) : Prop :=
  Q { s with t6 := (2 : Int) } h

def r10 (s : St) (h : Heap) (Q : Bool → St → Heap → Prop) : Prop :=
  Q (decide (s.x_length < (260 : Int))) s h

def r11 (s : St) (h : Heap) (Q : St → Heap → Prop) : Prop :=
  Q { s with x_length := (IntKind.wrap .i64 (s.x_length - (4 : Int))) } h

def r12 (s : St) (h : Heap) (Q : St → Heap → Prop) : Prop :=
  0 ≤ (2 : Int) ∧ (2 : Int) < ((s.x_dst.n : Nat) : Int) ∧
  ptrE s.x_dst.p fun a1 =>
  st1 (Addr.add (Addr.add a1 (Int.toNat (2 : Int) * 1)) 0) (.int .u8 (IntKind.wrap .u8 s.x_length)) h fun h2 =>
  Q s h2

def r13 (s : St) (h : Heap) (Q : St → Heap → Prop) : Prop :=
  0 ≤ (1 : Int) ∧ (1 : Int) < ((s.x_dst.n : Nat) : Int) ∧
  ptrE s.x_dst.p fun a1 =>
  st1 (Addr.add (Addr.add a1 (Int.toNat (1 : Int) * 1)) 0) (.int .u8 (0 : Int)) h fun h2 =>
  Q s h2

def r14 (s : St) (h : Heap) (Q : St → Heap → Prop) : Prop :=
  0 ≤ (0 : Int) ∧ (0 : Int) < ((s.x_dst.n : Nat) : Int) ∧
  ptrE s.x_dst.p fun a1 =>
  st1 (Addr.add (Addr.add a1 (Int.toNat (0 : Int) * 1)) 0) (.int .u8 (21 : Int)) h fun h2 =>
  Q s h2

def r15 (s : St) (h : Heap) (Q : St → Heap → Prop) : Prop :=
  Q { s with t6 := (3 : Int) } h

def r16 (s : St) (h : Heap) (Q : Bool → St → Heap → Prop) : Prop :=
  Q (decide (s.x_length < (65792 : Int))) s h

def r17 (s : St) (h : Heap) (Q : St → Heap → Prop) : Prop :=
  Q { s with x_length := (IntKind.wrap .i64 (s.x_length - (256 : Int))) } h

def r18 (s : St) (h : Heap) (Q : St → Heap → Prop) : Prop :=
  0 ≤ (3 : Int) ∧ (3 : Int) < ((s.x_dst.n : Nat) : Int) ∧
  ptrE s.x_dst.p fun a1 =>
  st1 (Addr.add (Addr.add a1 (Int.toNat (3 : Int) * 1)) 0) (.int .u8 (IntKind.wrap .u8 (Int.fdiv s.x_length (2 ^ (8 : Nat))))) h fun h2 =>
  Q s h2

def r19 (s : St) (h : Heap) (Q : St → Heap → Prop) : Prop :=
  0 ≤ (2 : Int) ∧ (2 : Int) < ((s.x_dst.n : Nat) : Int) ∧
  ptrE s.x_dst.p fun a1 =>
  st1 (Addr.add (Addr.add a1 (Int.toNat (2 : Int) * 1)) 0) (.int .u8 (IntKind.wrap .u8 (Int.fdiv s.x_length (2 ^ (0 : Nat))))) h fun h2 =>
  Q s h2

def r20 (s : St) (h : Heap) (Q : St → Heap → Prop) : Prop :=
  0 ≤ (1 : Int) ∧ (1 : Int) < ((s.x_dst.n : Nat) : Int) ∧
  ptrE s.x_dst.p fun a1 =>
  st1 (Addr.add (Addr.add a1 (Int.toNat (1 : Int) * 1)) 0) (.int .u8 (0 : Int)) h fun h2 =>
  Q s h2

def r21 (s : St) (h : Heap) (Q : St → Heap → Prop) : Prop :=
  0 ≤ (0 : Int) ∧ (0 : Int) < ((s.x_dst.n : Nat) : Int) ∧
  ptrE s.x_dst.p fun a1 =>
  st1 (Addr.add (Addr.add a1 (Int.toNat (0 : Int) * 1)) 0) (.int .u8 (25 : Int)) h fun h2 =>
  Q s h2

def r22 (s : St) (h : Heap) (Q : St → Heap → Prop) : Prop :=
  Q { s with t6 := (4 : Int) } h

def r23 (s : St) (h : Heap) (Q : St → Heap → Prop) : Prop :=
  Q { s with x_length := (IntKind.wrap .i64 (s.x_length - (65536 : Int))) } h

def r24 (s : St) (h : Heap) (Q : St → Heap → Prop) : Prop :=
  Q { s with x_left := (0 : Int) } h

def r25 (s : St) (h : Heap) (Q : Bool → St → Heap → Prop) : Prop :=
  Q (decide (s.x_length > (16777215 : Int))) s h

def r26 (s : St) (h : Heap) (Q : St → Heap → Prop) : Prop :=
  Q { s with x_left := (IntKind.wrap .i64 ((IntKind.wrap .i64 (s.x_length - (16777215 : Int))) + (4 : Int))) } h

def r27 (s : St) (h : Heap) (Q : St → Heap → Prop) : Prop :=
  Q { s with x_length := (16777211 : Int) } h

def r28 (s : St) (h : Heap) (Q : St → Heap → Prop) : Prop :=
  0 ≤ (4 : Int) ∧ (4 : Int) < ((s.x_dst.n : Nat) : Int) ∧
  ptrE s.x_dst.p fun a1 =>
  st1 (Addr.add (Addr.add a1 (Int.toNat (4 : Int) * 1)) 0) (.int .u8 (IntKind.wrap .u8 (Int.fdiv s.x_length (2 ^ (16 : Nat))))) h fun h2 =>
  Q s h2

def r29 (s : St) (h : Heap) (Q : St → Heap → Prop) : Prop :=
  0 ≤ (3 : Int) ∧ (3 : Int) < ((s.x_dst.n : Nat) : Int) ∧
  ptrE s.x_dst.p fun a1 =>
  st1 (Addr.add (Addr.add a1 (Int.toNat (3 : Int) * 1)) 0) (.int .u8 (IntKind.wrap .u8 (Int.fdiv s.x_length (2 ^ (8 : Nat))))) h fun h2 =>
  Q s h2

def r30 (s : St) (h : Heap) (Q : St → Heap → Prop) : Prop :=
  0 ≤ (2 : Int) ∧ (2 : Int) < ((s.x_dst.n : Nat) : Int) ∧
  ptrE s.x_dst.p fun a1 =>
  st1 (Addr.add (Addr.add a1 (Int.toNat (2 : Int) * 1)) 0) (.int .u8 (IntKind.wrap .u8 (Int.fdiv s.x_length (2 ^ (0 : Nat))))) h fun h2 =>
  Q s h2

def r31 (s : St) (h : Heap) (Q : St → Heap → Prop) : Prop :=
  0 ≤ (1 : Int) ∧ (1 : Int) < ((s.x_dst.n : Nat) : Int) ∧
  ptrE s.x_dst.p fun a1 =>
  st1 (Addr.add (Addr.add a1 (Int.toNat (1 : Int) * 1)) 0) (.int .u8 (0 : Int)) h fun h2 =>
  Q s h2

def r32 (s : St) (h : Heap) (Q : St → Heap → Prop) : Prop :=
  0 ≤ (0 : Int) ∧ (0 : Int) < ((s.x_dst.n : Nat) : Int) ∧
  ptrE s.x_dst.p fun a1 =>
  st1 (Addr.add (Addr.add a1 (Int.toNat (0 : Int) * 1)) 0) (.int .u8 (29 : Int)) h fun h2 =>
  Q s h2

def r33 (s : St) (h : Heap) (Q : Bool → St → Heap → Prop) : Prop :=
  Q (decide (s.x_left > (0 : Int))) s h

def r34 (s : St) (h : Heap) (Q : St → Heap → Prop) : Prop :=
  0 ≤ (5 : Int) ∧ (5 : Int) ≤ ((s.x_dst.n : Nat) : Int) ∧
  c_emitRepeat ⟨(subP s.x_dst.p (Int.toNat (5 : Int)) s.x_dst.c 1), (s.x_dst.n - (Int.toNat (5 : Int))), (s.x_dst.c - (Int.toNat (5 : Int)))⟩ s.x_offset s.x_left h fun r2 h1 =>
  Q { s with t6 := (IntKind.wrap .i64 ((5 : Int) + r2)) } h1

def r35 (s : St) (h : Heap) (Q : St → Heap → Prop) : Prop :=
  Q { s with t6 := (5 : Int) } h

def k26 : Stm St := (.seq (.test r33 (.seq (.reg r34) .ret) .skip) (.seq (.reg r35) .ret))
def k25 : Stm St := (.seq (.reg r32) k26)
def k24 : Stm St := (.seq (.reg r31) k25)
def k23 : Stm St := (.seq (.reg r30) k24)
def k22 : Stm St := (.seq (.reg r29) k23)
def k21 : Stm St := (.seq (.reg r28) k22)
def k20 : Stm St := (.seq (.test r25 (.seq (.reg r26) (.reg r27)) .skip) k21)
def k19 : Stm St := (.seq (.reg r24) k20)
def k18 : Stm St := (.seq (.reg r23) k19)
def k17 : Stm St := (.seq (.reg r21) (.seq (.reg r22) .ret))
def k16 : Stm St := (.seq (.reg r20) k17)
def k15 : Stm St := (.seq (.reg r19) k16)
def k14 : Stm St := (.seq (.reg r18) k15)
def k13 : Stm St := (.seq (.reg r17) k14)
def k12 : Stm St := (.seq (.test r16 k13 .skip) k18)
def k11 : Stm St := (.seq (.reg r14) (.seq (.reg r15) .ret))
def k10 : Stm St := (.seq (.reg r13) k11)
def k9 : Stm St := (.seq (.reg r12) k10)
def k8 : Stm St := (.seq (.reg r11) k9)
def k7 : Stm St := (.seq (.test r10 k8 .skip) k12)
def k6 : Stm St := (.seq (.reg r8) (.seq (.reg r9) .ret))
def k5 : Stm St := (.seq (.reg r7) k6)
def k4 : Stm St := (.seq (.test r6 k5 .skip) k7)
def k3 : Stm St := (.seq (.reg r4) (.seq (.reg r5) .ret))
def k2 : Stm St := (.seq (.reg r3) k3)
def k1 : Stm St := (.seq (.test r2 k2 .skip) k4)
def k0 : Stm St := (.seq (.reg r1) k1)

def stm : Stm St := (.seq (.reg r0) k0)

def ex : Ex → Pt St := fun _ => p0

set_option maxRecDepth 100000 in
theorem sim : Sim Pg 105 p1 (Tryd.f84.body.getD .skip) stm p0 ex :=
  (Sim.seq (Sim.reg (A := p1) (B := p1) (fun _ _ _ => by kernel_rfl))
  (Sim.seq (Sim.reg (A := p1) (B := p1) (fun _ _ _ => by kernel_rfl))
  (Sim.seq (Sim.test (A := p1) (B := p1) (fun _ _ _ => by kernel_rfl) (Sim.seq (Sim.reg (A := p1) (B := p2) (fun _ _ _ => by kernel_rfl))
  (Sim.seq (Sim.reg (A := p2) (B := p3) (fun _ _ _ => by kernel_rfl))
  (Sim.seq (Sim.reg (A := p3) (B := p0) (fun _ _ _ => by kernel_rfl))
  (Sim.ret (A := p0) (E := ex) (fun _ => ⟨rfl, trivial⟩)))))
  (Sim.skip (A := p1)))
  (Sim.seq (Sim.test (A := p1) (B := p1) (fun _ _ _ => by kernel_rfl) (Sim.seq (Sim.reg (A := p1) (B := p1) (fun _ _ _ => by kernel_rfl))
  (Sim.seq (Sim.reg (A := p1) (B := p3) (fun _ _ _ => by kernel_rfl))
  (Sim.seq (Sim.reg (A := p3) (B := p0) (fun _ _ _ => by kernel_rfl))
  (Sim.ret (A := p0) (E := ex) (fun _ => ⟨rfl, trivial⟩)))))
  (Sim.skip (A := p1)))
  (Sim.seq (Sim.test (A := p1) (B := p1) (fun _ _ _ => by kernel_rfl) (Sim.seq (Sim.reg (A := p1) (B := p4) (fun _ _ _ => by kernel_rfl))
  (Sim.seq (Sim.reg (A := p4) (B := p2) (fun _ _ _ => by kernel_rfl))
  (Sim.seq (Sim.reg (A := p2) (B := p2) (fun _ _ _ => by kernel_rfl))
  (Sim.seq (Sim.reg (A := p2) (B := p3) (fun _ _ _ => by kernel_rfl))
  (Sim.seq (Sim.reg (A := p3) (B := p0) (fun _ _ _ => by kernel_rfl))
  (Sim.ret (A := p0) (E := ex) (fun _ => ⟨rfl, trivial⟩)))))))
  (Sim.skip (A := p1)))
  (Sim.seq (Sim.test (A := p1) (B := p1) (fun _ _ _ => by kernel_rfl) (Sim.seq (Sim.reg (A := p1) (B := p4) (fun _ _ _ => by kernel_rfl))
  (Sim.seq (Sim.reg (A := p4) (B := p4) (fun _ _ _ => by kernel_rfl))
  (Sim.seq (Sim.reg (A := p4) (B := p2) (fun _ _ _ => by kernel_rfl))
  (Sim.seq (Sim.reg (A := p2) (B := p2) (fun _ _ _ => by kernel_rfl))
  (Sim.seq (Sim.reg (A := p2) (B := p3) (fun _ _ _ => by kernel_rfl))
  (Sim.seq (Sim.reg (A := p3) (B := p0) (fun _ _ _ => by kernel_rfl))
  (Sim.ret (A := p0) (E := ex) (fun _ => ⟨rfl, trivial⟩))))))))
  (Sim.skip (A := p1)))
  (Sim.seq (Sim.reg (A := p1) (B := p1) (fun _ _ _ => by kernel_rfl))
  (Sim.seq (Sim.reg (A := p1) (B := p5) (fun _ _ _ => by kernel_rfl))
  (Sim.seq (Sim.test (A := p5) (B := p5) (fun _ _ _ => by kernel_rfl) (Sim.seq (Sim.reg (A := p5) (B := p6) (fun _ _ _ => by kernel_rfl))
  (Sim.reg (A := p6) (B := p5) (fun _ _ _ => by kernel_rfl)))
  (Sim.skip (A := p5)))
  (Sim.seq (Sim.reg (A := p5) (B := p5) (fun _ _ _ => by kernel_rfl))
  (Sim.seq (Sim.reg (A := p5) (B := p5) (fun _ _ _ => by kernel_rfl))
  (Sim.seq (Sim.reg (A := p5) (B := p6) (fun _ _ _ => by kernel_rfl))
  (Sim.seq (Sim.reg (A := p6) (B := p6) (fun _ _ _ => by kernel_rfl))
  (Sim.seq (Sim.reg (A := p6) (B := p6) (fun _ _ _ => by kernel_rfl))
  (Sim.seq (Sim.test (A := p6) (B := p6) (fun _ _ _ => by kernel_rfl) (Sim.seq (Sim.reg (A := p6) (B := p0) (fun _ _ _ => by kernel_rfl))
  (Sim.ret (A := p0) (E := ex) (fun _ => ⟨rfl, trivial⟩)))
  (Sim.weak (B := p6) (C := p3) (Sim.skip (A := p6)) (fun _ => trivial)))
  (Sim.seq (Sim.reg (A := p3) (B := p0) (fun _ _ _ => by kernel_rfl))
  (Sim.ret (A := p0) (E := ex) (fun _ => ⟨rfl, trivial⟩))))))))))))))))))

def init (x_dst : Sl) (x_offset : Int) (x_length : Int) : St := { x_dst := x_dst, x_offset := x_offset, x_length := x_length, t6 := 0, x_left := 0 }

/-- What is left of the results. -/
def res (K : Int → Heap → Prop) (s : St) (h1 : Heap) : Prop := K s.t6 h1

/-- The call of 'pub-pemmican/pub/compress/s2.emitRepeat'. -/
theorem calls (x_dst : Sl) (x_offset : Int) (x_length : Int) (h : Heap) (K : Int → Heap → Prop)
    (H : stm (init x_dst x_offset x_length) h (endK (res K))) : c_emitRepeat x_dst x_offset x_length h K := by
  have hc : CallsH Pg 84 #[(.slice x_dst.p x_dst.n x_dst.c), (.int .i64 x_offset), (.int .i64 x_length)] h fun v h1 => asI .i64 v fun n1 => K n1 h1 :=
    callsH_of_sim (R := p0) (fn := Tryd.f84) (c := Tryd.f84.body.getD .skip) Tryd.func84 rfl Tryd.ntmps84 Tryd.call84 sim (init x_dst x_offset x_length) (⟨rfl, rfl, rfl, trivial⟩) (Nat.le_of_ble_eq_true rfl) (fun _ => ⟨rfl, trivial⟩) rfl
      (res K) (fun _ _ => by kernel_rfl) H
  refine hc.mono ?_
  intro v hp H
  obtain ⟨n1, rfl, h1⟩ := asI_elim H
  exact ⟨_, rfl, h1⟩

end M_emitRepeat

end Go.Proofs.YtibleenkgmkpmaaDoor

namespace Go.Proofs.YtibleenkgmkpmaaDoor
open Go Go.Vc Go.Proofs

namespace M_emitCopy

structure St where
  x_dst : Sl
  x_offset : Int
  x_length : Int
  t6 : Int
  x_i : Int
  x_off : Int

def p0 : Pt St where
  env s := [(6, (.int .i64 s.t6))]
  fin e s K := getV e 6 fun v1 => asI .i64 v1 fun n1 => K { s with t6 := n1 }
  ok := by
    intro e s K h0
    obtain ⟨w1, g1, h1⟩ := getV_elim h0
    obtain ⟨n1, rfl, h2⟩ := asI_elim h1
    exact ⟨_, ⟨g1, trivial⟩, h2⟩

def p1 : Pt St where
  env s := [(0, (.slice s.x_dst.p s.x_dst.n s.x_dst.c)), (1, (.int .i64 s.x_offset)), (2, (.int .i64 s.x_length))]
  fin e s K := getV e 0 fun v1 => asS v1 fun p1 n1 c1 => getV e 1 fun v2 => asI .i64 v2 fun n2 => getV e 2 fun v3 => asI .i64 v3 fun n3 => K { s with x_dst := ⟨p1, n1, c1⟩, x_offset := n2, x_length := n3 }
  ok := by
    intro e s K h0
    obtain ⟨w1, g1, h1⟩ := getV_elim h0
    obtain ⟨p1, n1, c1, rfl, h2⟩ := asS_elim h1
    obtain ⟨w2, g2, h3⟩ := getV_elim h2
    obtain ⟨n2, rfl, h4⟩ := asI_elim h3
    obtain ⟨w3, g3, h5⟩ := getV_elim h4
    obtain ⟨n3, rfl, h6⟩ := asI_elim h5
    exact ⟨_, ⟨g1, g2, g3, trivial⟩, h6⟩

def p2 : Pt St where
  env s := [(0, (.slice s.x_dst.p s.x_dst.n s.x_dst.c)), (1, (.int .i64 s.x_offset)), (2, (.int .i64 s.x_length)), (7, (.int .i64 s.x_i))]
  fin e s K := getV e 0 fun v1 => asS v1 fun p1 n1 c1 => getV e 1 fun v2 => asI .i64 v2 fun n2 => getV e 2 fun v3 => asI .i64 v3 fun n3 => getV e 7 fun v4 => asI .i64 v4 fun n4 => K { s with x_dst := ⟨p1, n1, c1⟩, x_offset := n2, x_length := n3, x_i := n4 }
  ok := by
    intro e s K h0
    obtain ⟨w1, g1, h1⟩ := getV_elim h0
    obtain ⟨p1, n1, c1, rfl, h2⟩ := asS_elim h1
    obtain ⟨w2, g2, h3⟩ := getV_elim h2
    obtain ⟨n2, rfl, h4⟩ := asI_elim h3
    obtain ⟨w3, g3, h5⟩ := getV_elim h4
    obtain ⟨n3, rfl, h6⟩ := asI_elim h5
    obtain ⟨w4, g4, h7⟩ := getV_elim h6
    obtain ⟨n4, rfl, h8⟩ := asI_elim h7
    exact ⟨_, ⟨g1, g2, g3, g4, trivial⟩, h8⟩

def p3 : Pt St where
  env s := [(0, (.slice s.x_dst.p s.x_dst.n s.x_dst.c)), (1, (.int .i64 s.x_offset)), (7, (.int .i64 s.x_i))]
  fin e s K := getV e 0 fun v1 => asS v1 fun p1 n1 c1 => getV e 1 fun v2 => asI .i64 v2 fun n2 => getV e 7 fun v3 => asI .i64 v3 fun n3 => K { s with x_dst := ⟨p1, n1, c1⟩, x_offset := n2, x_i := n3 }
  ok := by
    intro e s K h0
    obtain ⟨w1, g1, h1⟩ := getV_elim h0
    obtain ⟨p1, n1, c1, rfl, h2⟩ := asS_elim h1
    obtain ⟨w2, g2, h3⟩ := getV_elim h2
    obtain ⟨n2, rfl, h4⟩ := asI_elim h3
    obtain ⟨w3, g3, h5⟩ := getV_elim h4
    obtain ⟨n3, rfl, h6⟩ := asI_elim h5
    exact ⟨_, ⟨g1, g2, g3, trivial⟩, h6⟩

def p4 : Pt St where
  env s := [(7, (.int .i64 s.x_i))]
  fin e s K := getV e 7 fun v1 => asI .i64 v1 fun n1 => K { s with x_i := n1 }
  ok := by
    intro e s K h0
    obtain ⟨w1, g1, h1⟩ := getV_elim h0
    obtain ⟨n1, rfl, h2⟩ := asI_elim h1
    exact ⟨_, ⟨g1, trivial⟩, h2⟩

def p5 : Pt St where
  env s := [(0, (.slice s.x_dst.p s.x_dst.n s.x_dst.c)), (1, (.int .i64 s.x_offset)), (2, (.int .i64 s.x_length)), (8, (.int .i64 s.x_off))]
  fin e s K := getV e 0 fun v1 => asS v1 fun p1 n1 c1 => getV e 1 fun v2 => asI .i64 v2 fun n2 => getV e 2 fun v3 => asI .i64 v3 fun n3 => getV e 8 fun v4 => asI .i64 v4 fun n4 => K { s with x_dst := ⟨p1, n1, c1⟩, x_offset := n2, x_length := n3, x_off := n4 }
  ok := by
    intro e s K h0
    obtain ⟨w1, g1, h1⟩ := getV_elim h0
    obtain ⟨p1, n1, c1, rfl, h2⟩ := asS_elim h1
    obtain ⟨w2, g2, h3⟩ := getV_elim h2
    obtain ⟨n2, rfl, h4⟩ := asI_elim h3
    obtain ⟨w3, g3, h5⟩ := getV_elim h4
    obtain ⟨n3, rfl, h6⟩ := asI_elim h5
    obtain ⟨w4, g4, h7⟩ := getV_elim h6
    obtain ⟨n4, rfl, h8⟩ := asI_elim h7
    exact ⟨_, ⟨g1, g2, g3, g4, trivial⟩, h8⟩

def p6 : Pt St where
  env s := [(0, (.slice s.x_dst.p s.x_dst.n s.x_dst.c)), (2, (.int .i64 s.x_length))]
  fin e s K := getV e 0 fun v1 => asS v1 fun p1 n1 c1 => getV e 2 fun v2 => asI .i64 v2 fun n2 => K { s with x_dst := ⟨p1, n1, c1⟩, x_length := n2 }
  ok := by
    intro e s K h0
    obtain ⟨w1, g1, h1⟩ := getV_elim h0
    obtain ⟨p1, n1, c1, rfl, h2⟩ := asS_elim h1
    obtain ⟨w2, g2, h3⟩ := getV_elim h2
    obtain ⟨n2, rfl, h4⟩ := asI_elim h3
    exact ⟨_, ⟨g1, g2, trivial⟩, h4⟩

def p7 : Pt St where
  env s := []
  fin e s K := K s
  ok := by
    intro e s K h0
    exact ⟨_, trivial, h0⟩

def r0 (s : St) (h : Heap) (Q : St → Heap → Prop) : Prop :=
  Q s h

def r1 (s : St) (h : Heap) (Q : Bool → St → Heap → Prop) : Prop :=
  Q (decide (s.x_offset ≥ (65536 : Int))) s h

def r2 (s : St) (h : Heap) (Q : St → Heap → Prop) : Prop :=
  Q { s with x_i := (0 : Int) } h

def r3 (s : St) (h : Heap) (Q : Bool → St → Heap → Prop) : Prop :=
  Q (decide (s.x_length > (64 : Int))) s h

def r4 (s : St) (h : Heap) (Q : St → Heap → Prop) : Prop :=
  0 ≤ (4 : Int) ∧ (4 : Int) < ((s.x_dst.n : Nat) : Int) ∧
  ptrE s.x_dst.p fun a1 =>
  st1 (Addr.add (Addr.add a1 (Int.toNat (4 : Int) * 1)) 0) (.int .u8 (IntKind.wrap .u8 (Int.fdiv s.x_offset (2 ^ (24 : Nat))))) h fun h2 =>
  Q s h2

def r5 (s : St) (h : Heap) (Q : St → Heap → Prop) : Prop :=
  0 ≤ (3 : Int) ∧ (3 : Int) < ((s.x_dst.n : Nat) : Int) ∧
  ptrE s.x_dst.p fun a1 =>
  st1 (Addr.add (Addr.add a1 (Int.toNat (3 : Int) * 1)) 0) (.int .u8 (IntKind.wrap .u8 (Int.fdiv s.x_offset (2 ^ (16 : Nat))))) h fun h2 =>
  Q s h2

def r6 (s : St) (h : Heap) (Q : St → Heap → Prop) : Prop :=
  0 ≤ (2 : Int) ∧ (2 : Int) < ((s.x_dst.n : Nat) : Int) ∧
  ptrE s.x_dst.p fun a1 =>
  st1 (Addr.add (Addr.add a1 (Int.toNat (2 : Int) * 1)) 0) (.int .u8 (IntKind.wrap .u8 (Int.fdiv s.x_offset (2 ^ (8 : Nat))))) h fun h2 =>
  Q s h2

def r7 (s : St) (h : Heap) (Q : St → Heap → Prop) : Prop :=
  0 ≤ (1 : Int) ∧ (1 : Int) < ((s.x_dst.n : Nat) : Int) ∧
  ptrE s.x_dst.p fun a1 =>
  st1 (Addr.add (Addr.add a1 (Int.toNat (1 : Int) * 1)) 0) (.int .u8 (IntKind.wrap .u8 s.x_offset)) h fun h2 =>
  Q s h2

def r8 (s : St) (h : Heap) (Q : St → Heap → Prop) : Prop :=
  0 ≤ (0 : Int) ∧ (0 : Int) < ((s.x_dst.n : Nat) : Int) ∧
  ptrE s.x_dst.p fun a1 =>
  st1 (Addr.add (Addr.add a1 (Int.toNat (0 : Int) * 1)) 0) (.int .u8 (255 : Int)) h fun h2 =>
  Q s h2

def r9 (s : St) (h : Heap) (Q : St → Heap → Prop) : Prop :=
  Q { s with x_length := (IntKind.wrap .i64 (s.x_length - (64 : Int))) } h

def r10 (s : St) (h : Heap) (Q : Bool → St → Heap → Prop) : Prop :=
  Q (decide (s.x_length ≥ (4 : Int))) s h

def r11 (s : St) (h : Heap) (Q : St → Heap → Prop) : Prop :=
  0 ≤ (5 : Int) ∧ (5 : Int) ≤ ((s.x_dst.n : Nat) : Int) ∧
  c_emitRepeat ⟨(subP s.x_dst.p (Int.toNat (5 : Int)) s.x_dst.c 1), (s.x_dst.n - (Int.toNat (5 : Int))), (s.x_dst.c - (Int.toNat (5 : Int)))⟩ s.x_offset s.x_length h fun r2 h1 =>
  Q { s with t6 := (IntKind.wrap .i64 ((5 : Int) + r2)) } h1

def r12 (s : St) (h : Heap) (Q : St → Heap → Prop) : Prop :=
  Q { s with x_i := (5 : Int) } h

def r13 (s : St) (h : Heap) (Q : Bool → St → Heap → Prop) : Prop :=
  Q (s.x_length == (0 : Int)) s h

def r14 (s : St) (h : Heap) (Q : St → Heap → Prop) : Prop :=
  Q { s with t6 := s.x_i } h

def r15 (s : St) (h : Heap) (Q : St → Heap → Prop) : Prop :=
  0 ≤ (IntKind.wrap .i64 (s.x_i + (0 : Int))) ∧ (IntKind.wrap .i64 (s.x_i + (0 : Int))) < ((s.x_dst.n : Nat) : Int) ∧
  ptrE s.x_dst.p fun a1 =>
  st1 (Addr.add (Addr.add a1 (Int.toNat (IntKind.wrap .i64 (s.x_i + (0 : Int))) * 1)) 0) (.int .u8 (bOr .u8 (IntKind.wrap .u8 ((IntKind.wrap .u8 (IntKind.wrap .i64 (s.x_length - (1 : Int)))) * 2 ^ (2 : Nat))) (3 : Int))) h fun h2 =>
  Q s h2

def r16 (s : St) (h : Heap) (Q : St → Heap → Prop) : Prop :=
  0 ≤ (IntKind.wrap .i64 (s.x_i + (1 : Int))) ∧ (IntKind.wrap .i64 (s.x_i + (1 : Int))) < ((s.x_dst.n : Nat) : Int) ∧
  ptrE s.x_dst.p fun a1 =>
  st1 (Addr.add (Addr.add a1 (Int.toNat (IntKind.wrap .i64 (s.x_i + (1 : Int))) * 1)) 0) (.int .u8 (IntKind.wrap .u8 s.x_offset)) h fun h2 =>
  Q s h2

def r17 (s : St) (h : Heap) (Q : St → Heap → Prop) : Prop :=
  0 ≤ (IntKind.wrap .i64 (s.x_i + (2 : Int))) ∧ (IntKind.wrap .i64 (s.x_i + (2 : Int))) < ((s.x_dst.n : Nat) : Int) ∧
  ptrE s.x_dst.p fun a1 =>
  st1 (Addr.add (Addr.add a1 (Int.toNat (IntKind.wrap .i64 (s.x_i + (2 : Int))) * 1)) 0) (.int .u8 (IntKind.wrap .u8 (Int.fdiv s.x_offset (2 ^ (8 : Nat))))) h fun h2 =>
  Q s h2

def r18 (s : St) (h : Heap) (Q : St → Heap → Prop) : Prop :=
  0 ≤ (IntKind.wrap .i64 (s.x_i + (3 : Int))) ∧ (IntKind.wrap .i64 (s.x_i + (3 : Int))) < ((s.x_dst.n : Nat) : Int) ∧
  ptrE s.x_dst.p fun a1 =>
  st1 (Addr.add (Addr.add a1 (Int.toNat (IntKind.wrap .i64 (s.x_i + (3 : Int))) * 1)) 0) (.int .u8 (IntKind.wrap .u8 (Int.fdiv s.x_offset (2 ^ (16 : Nat))))) h fun h2 =>
  Q s h2

def r19 (s : St) (h : Heap) (Q : St → Heap → Prop) : Prop :=
  0 ≤ (IntKind.wrap .i64 (s.x_i + (4 : Int))) ∧ (IntKind.wrap .i64 (s.x_i + (4 : Int))) < ((s.x_dst.n : Nat) : Int) ∧
  ptrE s.x_dst.p fun a1 =>
  st1 (Addr.add (Addr.add a1 (Int.toNat (IntKind.wrap .i64 (s.x_i + (4 : Int))) * 1)) 0) (.int .u8 (IntKind.wrap .u8 (Int.fdiv s.x_offset (2 ^ (24 : Nat))))) h fun h2 =>
  Q s h2

def r20 (s : St) (h : Heap) (Q : St → Heap → Prop) : Prop :=
  Q { s with t6 := (IntKind.wrap .i64 (s.x_i + (5 : Int))) } h

def r21 (s : St) (h : Heap) (Q : Bool → St → Heap → Prop) : Prop :=
  Q (decide (s.x_length > (64 : Int))) s h

def r22 (s : St) (h : Heap) (Q : St → Heap → Prop) : Prop :=
  Q { s with x_off := (3 : Int) } h

def r23 (s : St) (h : Heap) (Q : Bool → St → Heap → Prop) : Prop :=
  Q (decide (s.x_offset < (2048 : Int))) s h

def r24 (s : St) (h : Heap) (Q : St → Heap → Prop) : Prop :=
  0 ≤ (1 : Int) ∧ (1 : Int) < ((s.x_dst.n : Nat) : Int) ∧
  ptrE s.x_dst.p fun a1 =>
  st1 (Addr.add (Addr.add a1 (Int.toNat (1 : Int) * 1)) 0) (.int .u8 (IntKind.wrap .u8 s.x_offset)) h fun h2 =>
  Q s h2

def r25 (s : St) (h : Heap) (Q : St → Heap → Prop) : Prop :=
  0 ≤ (0 : Int) ∧ (0 : Int) < ((s.x_dst.n : Nat) : Int) ∧
  ptrE s.x_dst.p fun a1 =>
  st1 (Addr.add (Addr.add a1 (Int.toNat (0 : Int) * 1)) 0) (.int .u8 (bOr .u8 (bOr .u8 (IntKind.wrap .u8 ((IntKind.wrap .u8 (Int.fdiv s.x_offset (2 ^ (8 : Nat)))) * 2 ^ (5 : Nat))) (16 : Int)) (1 : Int))) h fun h2 =>
  Q s h2

def r26 (s : St) (h : Heap) (Q : St → Heap → Prop) : Prop :=
  Q { s with x_length := (IntKind.wrap .i64 (s.x_length - (8 : Int))) } h

def r27 (s : St) (h : Heap) (Q : St → Heap → Prop) : Prop :=
  Q { s with x_off := (2 : Int) } h

def r28 (s : St) (h : Heap) (Q : St → Heap → Prop) : Prop :=
  0 ≤ (2 : Int) ∧ (2 : Int) < ((s.x_dst.n : Nat) : Int) ∧
  ptrE s.x_dst.p fun a1 =>
  st1 (Addr.add (Addr.add a1 (Int.toNat (2 : Int) * 1)) 0) (.int .u8 (IntKind.wrap .u8 (Int.fdiv s.x_offset (2 ^ (8 : Nat))))) h fun h2 =>
  Q s h2

def r29 (s : St) (h : Heap) (Q : St → Heap → Prop) : Prop :=
  0 ≤ (1 : Int) ∧ (1 : Int) < ((s.x_dst.n : Nat) : Int) ∧
  ptrE s.x_dst.p fun a1 =>
  st1 (Addr.add (Addr.add a1 (Int.toNat (1 : Int) * 1)) 0) (.int .u8 (IntKind.wrap .u8 s.x_offset)) h fun h2 =>
  Q s h2

def r30 (s : St) (h : Heap) (Q : St → Heap → Prop) : Prop :=
  0 ≤ (0 : Int) ∧ (0 : Int) < ((s.x_dst.n : Nat) : Int) ∧
  ptrE s.x_dst.p fun a1 =>
  st1 (Addr.add (Addr.add a1 (Int.toNat (0 : Int) * 1)) 0) (.int .u8 (238 : Int)) h fun h2 =>
  Q s h2

def r31 (s : St) (h : Heap) (Q : St → Heap → Prop) : Prop :=
  Q { s with x_length := (IntKind.wrap .i64 (s.x_length - (60 : Int))) } h

def r32 (s : St) (h : Heap) (Q : St → Heap → Prop) : Prop :=
  0 ≤ s.x_off ∧ s.x_off ≤ ((s.x_dst.n : Nat) : Int) ∧
  c_emitRepeat ⟨(subP s.x_dst.p (Int.toNat s.x_off) s.x_dst.c 1), (s.x_dst.n - (Int.toNat s.x_off)), (s.x_dst.c - (Int.toNat s.x_off))⟩ s.x_offset s.x_length h fun r2 h1 =>
  Q { s with t6 := (IntKind.wrap .i64 (s.x_off + r2)) } h1

def r33 (s : St) (h : Heap) (Q : Bool → St → Heap → Prop) : Prop :=
  (if (decide (s.x_length ≥ (12 : Int))) = false then
  (Q (decide (s.x_offset ≥ (2048 : Int))) s h)
  else
  (Q true s h))

def r34 (s : St) (h : Heap) (Q : St → Heap → Prop) : Prop :=
  0 ≤ (2 : Int) ∧ (2 : Int) < ((s.x_dst.n : Nat) : Int) ∧
  ptrE s.x_dst.p fun a1 =>
  st1 (Addr.add (Addr.add a1 (Int.toNat (2 : Int) * 1)) 0) (.int .u8 (IntKind.wrap .u8 (Int.fdiv s.x_offset (2 ^ (8 : Nat))))) h fun h2 =>
  Q s h2

def r35 (s : St) (h : Heap) (Q : St → Heap → Prop) : Prop :=
  0 ≤ (1 : Int) ∧ (1 : Int) < ((s.x_dst.n : Nat) : Int) ∧
  ptrE s.x_dst.p fun a1 =>
  st1 (Addr.add (Addr.add a1 (Int.toNat (1 : Int) * 1)) 0) (.int .u8 (IntKind.wrap .u8 s.x_offset)) h fun h2 =>
  Q s h2

def r36 (s : St) (h : Heap) (Q : St → Heap → Prop) : Prop :=
  0 ≤ (0 : Int) ∧ (0 : Int) < ((s.x_dst.n : Nat) : Int) ∧
  ptrE s.x_dst.p fun a1 =>
  st1 (Addr.add (Addr.add a1 (Int.toNat (0 : Int) * 1)) 0) (.int .u8 (bOr .u8 (IntKind.wrap .u8 ((IntKind.wrap .u8 (IntKind.wrap .i64 (s.x_length - (1 : Int)))) * 2 ^ (2 : Nat))) (2 : Int))) h fun h2 =>
  Q s h2

def r37 (s : St) (h : Heap) (Q : St → Heap → Prop) : Prop :=
  Q { s with t6 := (3 : Int) } h

def r38 (s : St) (h : Heap) (Q : St → Heap → Prop) : Prop :=
  0 ≤ (1 : Int) ∧ (1 : Int) < ((s.x_dst.n : Nat) : Int) ∧
  ptrE s.x_dst.p fun a1 =>
  st1 (Addr.add (Addr.add a1 (Int.toNat (1 : Int) * 1)) 0) (.int .u8 (IntKind.wrap .u8 s.x_offset)) h fun h2 =>
  Q s h2

def r39 (s : St) (h : Heap) (Q : St → Heap → Prop) : Prop :=
  0 ≤ (0 : Int) ∧ (0 : Int) < ((s.x_dst.n : Nat) : Int) ∧
  ptrE s.x_dst.p fun a1 =>
  st1 (Addr.add (Addr.add a1 (Int.toNat (0 : Int) * 1)) 0) (.int .u8 (bOr .u8 (bOr .u8 (IntKind.wrap .u8 ((IntKind.wrap .u8 (Int.fdiv s.x_offset (2 ^ (8 : Nat)))) * 2 ^ (5 : Nat))) (IntKind.wrap .u8 ((IntKind.wrap .u8 (IntKind.wrap .i64 (s.x_length - (4 : Int)))) * 2 ^ (2 : Nat)))) (1 : Int))) h fun h2 =>
  Q s h2

def r40 (s : St) (h : Heap) (Q : St → Heap → Prop) : Prop :=
  Q { s with t6 := (2 : Int) } h

def k28 : Stm St := (.seq (.reg r39) (.seq (.reg r40) .ret))
def k27 : Stm St := (.seq (.reg r38) k28)
def k26 : Stm St := (.seq (.reg r36) (.seq (.reg r37) .ret))
def k25 : Stm St := (.seq (.reg r35) k26)
def k24 : Stm St := (.seq (.reg r34) k25)
def k23 : Stm St := (.seq (.test r33 k24 .skip) k27)
def k22 : Stm St := (.seq (.reg r29) (.seq (.reg r30) (.reg r31)))
def k21 : Stm St := (.seq (.reg r28) k22)
def k20 : Stm St := (.seq (.reg r25) (.seq (.reg r26) (.reg r27)))
def k19 : Stm St := (.seq (.reg r24) k20)
def k18 : Stm St := (.seq (.test r23 k19 k21) (.seq (.reg r32) .ret))
def k17 : Stm St := (.seq (.reg r22) k18)
def k16 : Stm St := (.seq (.test r21 k17 .skip) k23)
def k15 : Stm St := (.seq (.reg r19) (.seq (.reg r20) .ret))
def k14 : Stm St := (.seq (.reg r18) k15)
def k13 : Stm St := (.seq (.reg r17) k14)
def k12 : Stm St := (.seq (.reg r16) k13)
def k11 : Stm St := (.seq (.reg r15) k12)
def k10 : Stm St := (.seq (.test r13 (.seq (.reg r14) .ret) .skip) k11)
def k9 : Stm St := (.seq (.test r10 (.seq (.reg r11) .ret) .skip) (.reg r12))
def k8 : Stm St := (.seq (.reg r9) k9)
def k7 : Stm St := (.seq (.reg r8) k8)
def k6 : Stm St := (.seq (.reg r7) k7)
def k5 : Stm St := (.seq (.reg r6) k6)
def k4 : Stm St := (.seq (.reg r5) k5)
def k3 : Stm St := (.seq (.reg r4) k4)
def k2 : Stm St := (.seq (.test r3 k3 .skip) k10)
def k1 : Stm St := (.seq (.reg r2) k2)
def k0 : Stm St := (.seq (.test r1 k1 .skip) k16)

def stm : Stm St := (.seq (.reg r0) k0)

def ex : Ex → Pt St := fun _ => p0

set_option maxRecDepth 100000 in
theorem sim : Sim Pg 162 p1 (Tryd.f67.body.getD .skip) stm p0 ex :=
  (Sim.seq (Sim.reg (A := p1) (B := p1) (fun _ _ _ => by kernel_rfl))
  (Sim.seq (Sim.test (A := p1) (B := p1) (fun _ _ _ => by kernel_rfl) (Sim.seq (Sim.reg (A := p1) (B := p2) (fun _ _ _ => by kernel_rfl))
  (Sim.seq (Sim.test (A := p2) (B := p2) (fun _ _ _ => by kernel_rfl) (Sim.seq (Sim.reg (A := p2) (B := p1) (fun _ _ _ => by kernel_rfl))
  (Sim.seq (Sim.reg (A := p1) (B := p1) (fun _ _ _ => by kernel_rfl))
  (Sim.seq (Sim.reg (A := p1) (B := p1) (fun _ _ _ => by kernel_rfl))
  (Sim.seq (Sim.reg (A := p1) (B := p1) (fun _ _ _ => by kernel_rfl))
  (Sim.seq (Sim.reg (A := p1) (B := p1) (fun _ _ _ => by kernel_rfl))
  (Sim.seq (Sim.reg (A := p1) (B := p1) (fun _ _ _ => by kernel_rfl))
  (Sim.seq (Sim.test (A := p1) (B := p1) (fun _ _ _ => by kernel_rfl) (Sim.seq (Sim.reg (A := p1) (B := p0) (fun _ _ _ => by kernel_rfl))
  (Sim.ret (A := p0) (E := ex) (fun _ => ⟨rfl, trivial⟩)))
  (Sim.skip (A := p1)))
  (Sim.reg (A := p1) (B := p2) (fun _ _ _ => by kernel_rfl)))))))))
  (Sim.skip (A := p2)))
  (Sim.seq (Sim.test (A := p2) (B := p2) (fun _ _ _ => by kernel_rfl) (Sim.seq (Sim.reg (A := p2) (B := p0) (fun _ _ _ => by kernel_rfl))
  (Sim.ret (A := p0) (E := ex) (fun _ => ⟨rfl, trivial⟩)))
  (Sim.skip (A := p2)))
  (Sim.seq (Sim.reg (A := p2) (B := p3) (fun _ _ _ => by kernel_rfl))
  (Sim.seq (Sim.reg (A := p3) (B := p3) (fun _ _ _ => by kernel_rfl))
  (Sim.seq (Sim.reg (A := p3) (B := p3) (fun _ _ _ => by kernel_rfl))
  (Sim.seq (Sim.reg (A := p3) (B := p3) (fun _ _ _ => by kernel_rfl))
  (Sim.seq (Sim.reg (A := p3) (B := p4) (fun _ _ _ => by kernel_rfl))
  (Sim.seq (Sim.reg (A := p4) (B := p0) (fun _ _ _ => by kernel_rfl))
  (Sim.ret (A := p0) (E := ex) (fun _ => ⟨rfl, trivial⟩)))))))))))
  (Sim.skip (A := p1)))
  (Sim.seq (Sim.test (A := p1) (B := p1) (fun _ _ _ => by kernel_rfl) (Sim.seq (Sim.reg (A := p1) (B := p5) (fun _ _ _ => by kernel_rfl))
  (Sim.seq (Sim.test (A := p5) (B := p5) (fun _ _ _ => by kernel_rfl) (Sim.seq (Sim.reg (A := p5) (B := p1) (fun _ _ _ => by kernel_rfl))
  (Sim.seq (Sim.reg (A := p1) (B := p1) (fun _ _ _ => by kernel_rfl))
  (Sim.seq (Sim.reg (A := p1) (B := p1) (fun _ _ _ => by kernel_rfl))
  (Sim.reg (A := p1) (B := p5) (fun _ _ _ => by kernel_rfl)))))
  (Sim.seq (Sim.reg (A := p5) (B := p5) (fun _ _ _ => by kernel_rfl))
  (Sim.seq (Sim.reg (A := p5) (B := p5) (fun _ _ _ => by kernel_rfl))
  (Sim.seq (Sim.reg (A := p5) (B := p5) (fun _ _ _ => by kernel_rfl))
  (Sim.reg (A := p5) (B := p5) (fun _ _ _ => by kernel_rfl))))))
  (Sim.seq (Sim.reg (A := p5) (B := p0) (fun _ _ _ => by kernel_rfl))
  (Sim.ret (A := p0) (E := ex) (fun _ => ⟨rfl, trivial⟩)))))
  (Sim.skip (A := p1)))
  (Sim.seq (Sim.test (A := p1) (B := p1) (fun _ _ _ => by kernel_rfl) (Sim.seq (Sim.reg (A := p1) (B := p1) (fun _ _ _ => by kernel_rfl))
  (Sim.seq (Sim.reg (A := p1) (B := p6) (fun _ _ _ => by kernel_rfl))
  (Sim.seq (Sim.reg (A := p6) (B := p7) (fun _ _ _ => by kernel_rfl))
  (Sim.seq (Sim.reg (A := p7) (B := p0) (fun _ _ _ => by kernel_rfl))
  (Sim.ret (A := p0) (E := ex) (fun _ => ⟨rfl, trivial⟩))))))
  (Sim.skip (A := p1)))
  (Sim.seq (Sim.reg (A := p1) (B := p1) (fun _ _ _ => by kernel_rfl))
  (Sim.seq (Sim.reg (A := p1) (B := p7) (fun _ _ _ => by kernel_rfl))
  (Sim.seq (Sim.reg (A := p7) (B := p0) (fun _ _ _ => by kernel_rfl))
  (Sim.ret (A := p0) (E := ex) (fun _ => ⟨rfl, trivial⟩)))))))))

def init (x_dst : Sl) (x_offset : Int) (x_length : Int) : St := { x_dst := x_dst, x_offset := x_offset, x_length := x_length, t6 := 0, x_i := 0, x_off := 0 }

/-- What is left of the results. -/
def res (K : Int → Heap → Prop) (s : St) (h1 : Heap) : Prop := K s.t6 h1

/-- The call of 'pub-pemmican/pub/compress/s2.emitCopy'. -/
theorem calls (x_dst : Sl) (x_offset : Int) (x_length : Int) (h : Heap) (K : Int → Heap → Prop)
    (H : stm (init x_dst x_offset x_length) h (endK (res K))) : c_emitCopy x_dst x_offset x_length h K := by
  have hc : CallsH Pg 67 #[(.slice x_dst.p x_dst.n x_dst.c), (.int .i64 x_offset), (.int .i64 x_length)] h fun v h1 => asI .i64 v fun n1 => K n1 h1 :=
    callsH_of_sim (R := p0) (fn := Tryd.f67) (c := Tryd.f67.body.getD .skip) Tryd.func67 rfl Tryd.ntmps67 Tryd.call67 sim (init x_dst x_offset x_length) (⟨rfl, rfl, rfl, trivial⟩) (Nat.le_of_ble_eq_true rfl) (fun _ => ⟨rfl, trivial⟩) rfl
      (res K) (fun _ _ => by kernel_rfl) H
  refine hc.mono ?_
  intro v hp H
  obtain ⟨n1, rfl, h1⟩ := asI_elim H
  exact ⟨_, rfl, h1⟩

end M_emitCopy

end Go.Proofs.YtibleenkgmkpmaaDoor

namespace Go.Proofs.YtibleenkgmkpmaaDoor
open Go Go.Vc Go.Proofs

namespace M_emitCopyNoRepeat

structure St where
  x_dst : Sl
  x_offset : Int
  x_length : Int
  t6 : Int
  x_i : Int

def p0 : Pt St where
  env s := [(6, (.int .i64 s.t6))]
  fin e s K := getV e 6 fun v1 => asI .i64 v1 fun n1 => K { s with t6 := n1 }
  ok := by
    intro e s K h0
    obtain ⟨w1, g1, h1⟩ := getV_elim h0
    obtain ⟨n1, rfl, h2⟩ := asI_elim h1
    exact ⟨_, ⟨g1, trivial⟩, h2⟩

def p1 : Pt St where
  env s := [(0, (.slice s.x_dst.p s.x_dst.n s.x_dst.c)), (1, (.int .i64 s.x_offset)), (2, (.int .i64 s.x_length))]
  fin e s K := getV e 0 fun v1 => asS v1 fun p1 n1 c1 => getV e 1 fun v2 => asI .i64 v2 fun n2 => getV e 2 fun v3 => asI .i64 v3 fun n3 => K { s with x_dst := ⟨p1, n1, c1⟩, x_offset := n2, x_length := n3 }
  ok := by
    intro e s K h0
    obtain ⟨w1, g1, h1⟩ := getV_elim h0
    obtain ⟨p1, n1, c1, rfl, h2⟩ := asS_elim h1
    obtain ⟨w2, g2, h3⟩ := getV_elim h2
    obtain ⟨n2, rfl, h4⟩ := asI_elim h3
    obtain ⟨w3, g3, h5⟩ := getV_elim h4
    obtain ⟨n3, rfl, h6⟩ := asI_elim h5
    exact ⟨_, ⟨g1, g2, g3, trivial⟩, h6⟩

def p2 : Pt St where
  env s := [(0, (.slice s.x_dst.p s.x_dst.n s.x_dst.c)), (1, (.int .i64 s.x_offset)), (2, (.int .i64 s.x_length)), (7, (.int .i64 s.x_i))]
  fin e s K := getV e 0 fun v1 => asS v1 fun p1 n1 c1 => getV e 1 fun v2 => asI .i64 v2 fun n2 => getV e 2 fun v3 => asI .i64 v3 fun n3 => getV e 7 fun v4 => asI .i64 v4 fun n4 => K { s with x_dst := ⟨p1, n1, c1⟩, x_offset := n2, x_length := n3, x_i := n4 }
  ok := by
    intro e s K h0
    obtain ⟨w1, g1, h1⟩ := getV_elim h0
    obtain ⟨p1, n1, c1, rfl, h2⟩ := asS_elim h1
    obtain ⟨w2, g2, h3⟩ := getV_elim h2
    obtain ⟨n2, rfl, h4⟩ := asI_elim h3
    obtain ⟨w3, g3, h5⟩ := getV_elim h4
    obtain ⟨n3, rfl, h6⟩ := asI_elim h5
    obtain ⟨w4, g4, h7⟩ := getV_elim h6
    obtain ⟨n4, rfl, h8⟩ := asI_elim h7
    exact ⟨_, ⟨g1, g2, g3, g4, trivial⟩, h8⟩

def p3 : Pt St where
  env s := [(0, (.slice s.x_dst.p s.x_dst.n s.x_dst.c)), (1, (.int .i64 s.x_offset)), (7, (.int .i64 s.x_i))]
  fin e s K := getV e 0 fun v1 => asS v1 fun p1 n1 c1 => getV e 1 fun v2 => asI .i64 v2 fun n2 => getV e 7 fun v3 => asI .i64 v3 fun n3 => K { s with x_dst := ⟨p1, n1, c1⟩, x_offset := n2, x_i := n3 }
  ok := by
    intro e s K h0
    obtain ⟨w1, g1, h1⟩ := getV_elim h0
    obtain ⟨p1, n1, c1, rfl, h2⟩ := asS_elim h1
    obtain ⟨w2, g2, h3⟩ := getV_elim h2
    obtain ⟨n2, rfl, h4⟩ := asI_elim h3
    obtain ⟨w3, g3, h5⟩ := getV_elim h4
    obtain ⟨n3, rfl, h6⟩ := asI_elim h5
    exact ⟨_, ⟨g1, g2, g3, trivial⟩, h6⟩

def p4 : Pt St where
  env s := [(7, (.int .i64 s.x_i))]
  fin e s K := getV e 7 fun v1 => asI .i64 v1 fun n1 => K { s with x_i := n1 }
  ok := by
    intro e s K h0
    obtain ⟨w1, g1, h1⟩ := getV_elim h0
    obtain ⟨n1, rfl, h2⟩ := asI_elim h1
    exact ⟨_, ⟨g1, trivial⟩, h2⟩

def p5 : Pt St where
  env s := [(0, (.slice s.x_dst.p s.x_dst.n s.x_dst.c)), (2, (.int .i64 s.x_length))]
  fin e s K := getV e 0 fun v1 => asS v1 fun p1 n1 c1 => getV e 2 fun v2 => asI .i64 v2 fun n2 => K { s with x_dst := ⟨p1, n1, c1⟩, x_length := n2 }
  ok := by
    intro e s K h0
    obtain ⟨w1, g1, h1⟩ := getV_elim h0
    obtain ⟨p1, n1, c1, rfl, h2⟩ := asS_elim h1
    obtain ⟨w2, g2, h3⟩ := getV_elim h2
    obtain ⟨n2, rfl, h4⟩ := asI_elim h3
    exact ⟨_, ⟨g1, g2, trivial⟩, h4⟩

def p6 : Pt St where
  env s := []
  fin e s K := K s
  ok := by
    intro e s K h0
    exact ⟨_, trivial, h0⟩

def r0 (s : St) (h : Heap) (Q : St → Heap → Prop) : Prop :=
  Q s h

def r1 (s : St) (h : Heap) (Q : Bool → St → Heap → Prop) : Prop :=
  Q (decide (s.x_offset ≥ (65536 : Int))) s h

def r2 (s : St) (h : Heap) (Q : St → Heap → Prop) : Prop :=
  Q { s with x_i := (0 : Int) } h

def r3 (s : St) (h : Heap) (Q : Bool → St → Heap → Prop) : Prop :=
  Q (decide (s.x_length > (64 : Int))) s h

def r4 (s : St) (h : Heap) (Q : St → Heap → Prop) : Prop :=
  0 ≤ (4 : Int) ∧ (4 : Int) < ((s.x_dst.n : Nat) : Int) ∧
  ptrE s.x_dst.p fun a1 =>
  st1 (Addr.add (Addr.add a1 (Int.toNat (4 : Int) * 1)) 0) (.int .u8 (IntKind.wrap .u8 (Int.fdiv s.x_offset (2 ^ (24 : Nat))))) h fun h2 =>
  Q s h2

def r5 (s : St) (h : Heap) (Q : St → Heap → Prop) : Prop :=
  0 ≤ (3 : Int) ∧ (3 : Int) < ((s.x_dst.n : Nat) : Int) ∧
  ptrE s.x_dst.p fun a1 =>
  st1 (Addr.add (Addr.add a1 (Int.toNat (3 : Int) * 1)) 0) (.int .u8 (IntKind.wrap .u8 (Int.fdiv s.x_offset (2 ^ (16 : Nat))))) h fun h2 =>
  Q s h2

def r6 (s : St) (h : Heap) (Q : St → Heap → Prop) : Prop :=
  0 ≤ (2 : Int) ∧ (2 : Int) < ((s.x_dst.n : Nat) : Int) ∧
  ptrE s.x_dst.p fun a1 =>
  st1 (Addr.add (Addr.add a1 (Int.toNat (2 : Int) * 1)) 0) (.int .u8 (IntKind.wrap .u8 (Int.fdiv s.x_offset (2 ^ (8 : Nat))))) h fun h2 =>
  Q s h2

def r7 (s : St) (h : Heap) (Q : St → Heap → Prop) : Prop :=
  0 ≤ (1 : Int) ∧ (1 : Int) < ((s.x_dst.n : Nat) : Int) ∧
  ptrE s.x_dst.p fun a1 =>
  st1 (Addr.add (Addr.add a1 (Int.toNat (1 : Int) * 1)) 0) (.int .u8 (IntKind.wrap .u8 s.x_offset)) h fun h2 =>
  Q s h2

def r8 (s : St) (h : Heap) (Q : St → Heap → Prop) : Prop :=
  0 ≤ (0 : Int) ∧ (0 : Int) < ((s.x_dst.n : Nat) : Int) ∧
  ptrE s.x_dst.p fun a1 =>
  st1 (Addr.add (Addr.add a1 (Int.toNat (0 : Int) * 1)) 0) (.int .u8 (255 : Int)) h fun h2 =>
  Q s h2

def r9 (s : St) (h : Heap) (Q : St → Heap → Prop) : Prop :=
  Q { s with x_length := (IntKind.wrap .i64 (s.x_length - (64 : Int))) } h

def r10 (s : St) (h : Heap) (Q : Bool → St → Heap → Prop) : Prop :=
  Q (decide (s.x_length ≥ (4 : Int))) s h

def r11 (s : St) (h : Heap) (Q : St → Heap → Prop) : Prop :=
  0 ≤ (5 : Int) ∧ (5 : Int) ≤ ((s.x_dst.n : Nat) : Int) ∧
  c_emitCopyNoRepeat ⟨(subP s.x_dst.p (Int.toNat (5 : Int)) s.x_dst.c 1), (s.x_dst.n - (Int.toNat (5 : Int))), (s.x_dst.c - (Int.toNat (5 : Int)))⟩ s.x_offset s.x_length h fun r2 h1 =>
  Q { s with t6 := (IntKind.wrap .i64 ((5 : Int) + r2)) } h1

def r12 (s : St) (h : Heap) (Q : St → Heap → Prop) : Prop :=
  Q { s with x_i := (5 : Int) } h

def r13 (s : St) (h : Heap) (Q : Bool → St → Heap → Prop) : Prop :=
  Q (s.x_length == (0 : Int)) s h

def r14 (s : St) (h : Heap) (Q : St → Heap → Prop) : Prop :=
  Q { s with t6 := s.x_i } h

def r15 (s : St) (h : Heap) (Q : St → Heap → Prop) : Prop :=
  0 ≤ (IntKind.wrap .i64 (s.x_i + (0 : Int))) ∧ (IntKind.wrap .i64 (s.x_i + (0 : Int))) < ((s.x_dst.n : Nat) : Int) ∧
  ptrE s.x_dst.p fun a1 =>
  st1 (Addr.add (Addr.add a1 (Int.toNat (IntKind.wrap .i64 (s.x_i + (0 : Int))) * 1)) 0) (.int .u8 (bOr .u8 (IntKind.wrap .u8 ((IntKind.wrap .u8 (IntKind.wrap .i64 (s.x_length - (1 : Int)))) * 2 ^ (2 : Nat))) (3 : Int))) h fun h2 =>
  Q s h2

def r16 (s : St) (h : Heap) (Q : St → Heap → Prop) : Prop :=
  0 ≤ (IntKind.wrap .i64 (s.x_i + (1 : Int))) ∧ (IntKind.wrap .i64 (s.x_i + (1 : Int))) < ((s.x_dst.n : Nat) : Int) ∧
  ptrE s.x_dst.p fun a1 =>
  st1 (Addr.add (Addr.add a1 (Int.toNat (IntKind.wrap .i64 (s.x_i + (1 : Int))) * 1)) 0) (.int .u8 (IntKind.wrap .u8 s.x_offset)) h fun h2 =>
  Q s h2

def r17 (s : St) (h : Heap) (Q : St → Heap → Prop) : Prop :=
  0 ≤ (IntKind.wrap .i64 (s.x_i + (2 : Int))) ∧ (IntKind.wrap .i64 (s.x_i + (2 : Int))) < ((s.x_dst.n : Nat) : Int) ∧
  ptrE s.x_dst.p fun a1 =>
  st1 (Addr.add (Addr.add a1 (Int.toNat (IntKind.wrap .i64 (s.x_i + (2 : Int))) * 1)) 0) (.int .u8 (IntKind.wrap .u8 (Int.fdiv s.x_offset (2 ^ (8 : Nat))))) h fun h2 =>
  Q s h2

def r18 (s : St) (h : Heap) (Q : St → Heap → Prop) : Prop :=
  0 ≤ (IntKind.wrap .i64 (s.x_i + (3 : Int))) ∧ (IntKind.wrap .i64 (s.x_i + (3 : Int))) < ((s.x_dst.n : Nat) : Int) ∧
  ptrE s.x_dst.p fun a1 =>
  st1 (Addr.add (Addr.add a1 (Int.toNat (IntKind.wrap .i64 (s.x_i + (3 : Int))) * 1)) 0) (.int .u8 (IntKind.wrap .u8 (Int.fdiv s.x_offset (2 ^ (16 : Nat))))) h fun h2 =>
  Q s h2

def r19 (s : St) (h : Heap) (Q : St → Heap → Prop) : Prop :=
  0 ≤ (IntKind.wrap .i64 (s.x_i + (4 : Int))) ∧ (IntKind.wrap .i64 (s.x_i + (4 : Int))) < ((s.x_dst.n : Nat) : Int) ∧
  ptrE s.x_dst.p fun a1 =>
  st1 (Addr.add (Addr.add a1 (Int.toNat (IntKind.wrap .i64 (s.x_i + (4 : Int))) * 1)) 0) (.int .u8 (IntKind.wrap .u8 (Int.fdiv s.x_offset (2 ^ (24 : Nat))))) h fun h2 =>
  Q s h2

def r20 (s : St) (h : Heap) (Q : St → Heap → Prop) : Prop :=
  Q { s with t6 := (IntKind.wrap .i64 (s.x_i + (5 : Int))) } h

def r21 (s : St) (h : Heap) (Q : Bool → St → Heap → Prop) : Prop :=
  Q (decide (s.x_length > (64 : Int))) s h

def r22 (s : St) (h : Heap) (Q : St → Heap → Prop) : Prop :=
  0 ≤ (2 : Int) ∧ (2 : Int) < ((s.x_dst.n : Nat) : Int) ∧
  ptrE s.x_dst.p fun a1 =>
  st1 (Addr.add (Addr.add a1 (Int.toNat (2 : Int) * 1)) 0) (.int .u8 (IntKind.wrap .u8 (Int.fdiv s.x_offset (2 ^ (8 : Nat))))) h fun h2 =>
  Q s h2

def r23 (s : St) (h : Heap) (Q : St → Heap → Prop) : Prop :=
  0 ≤ (1 : Int) ∧ (1 : Int) < ((s.x_dst.n : Nat) : Int) ∧
  ptrE s.x_dst.p fun a1 =>
  st1 (Addr.add (Addr.add a1 (Int.toNat (1 : Int) * 1)) 0) (.int .u8 (IntKind.wrap .u8 s.x_offset)) h fun h2 =>
  Q s h2

def r24 (s : St) (h : Heap) (Q : St → Heap → Prop) : Prop :=
  0 ≤ (0 : Int) ∧ (0 : Int) < ((s.x_dst.n : Nat) : Int) ∧
  ptrE s.x_dst.p fun a1 =>
  st1 (Addr.add (Addr.add a1 (Int.toNat (0 : Int) * 1)) 0) (.int .u8 (238 : Int)) h fun h2 =>
  Q s h2

def r25 (s : St) (h : Heap) (Q : St → Heap → Prop) : Prop :=
  Q { s with x_length := (IntKind.wrap .i64 (s.x_length - (60 : Int))) } h

def r26 (s : St) (h : Heap) (Q : St → Heap → Prop) : Prop :=
  0 ≤ (3 : Int) ∧ (3 : Int) ≤ ((s.x_dst.n : Nat) : Int) ∧
  c_emitCopyNoRepeat ⟨(subP s.x_dst.p (Int.toNat (3 : Int)) s.x_dst.c 1), (s.x_dst.n - (Int.toNat (3 : Int))), (s.x_dst.c - (Int.toNat (3 : Int)))⟩ s.x_offset s.x_length h fun r2 h1 =>
  Q { s with t6 := (IntKind.wrap .i64 ((3 : Int) + r2)) } h1

def r27 (s : St) (h : Heap) (Q : Bool → St → Heap → Prop) : Prop :=
  (if (decide (s.x_length ≥ (12 : Int))) = false then
  (Q (decide (s.x_offset ≥ (2048 : Int))) s h)
  else
  (Q true s h))

def r28 (s : St) (h : Heap) (Q : St → Heap → Prop) : Prop :=
  0 ≤ (2 : Int) ∧ (2 : Int) < ((s.x_dst.n : Nat) : Int) ∧
  ptrE s.x_dst.p fun a1 =>
  st1 (Addr.add (Addr.add a1 (Int.toNat (2 : Int) * 1)) 0) (.int .u8 (IntKind.wrap .u8 (Int.fdiv s.x_offset (2 ^ (8 : Nat))))) h fun h2 =>
  Q s h2

def r29 (s : St) (h : Heap) (Q : St → Heap → Prop) : Prop :=
  0 ≤ (1 : Int) ∧ (1 : Int) < ((s.x_dst.n : Nat) : Int) ∧
  ptrE s.x_dst.p fun a1 =>
  st1 (Addr.add (Addr.add a1 (Int.toNat (1 : Int) * 1)) 0) (.int .u8 (IntKind.wrap .u8 s.x_offset)) h fun h2 =>
  Q s h2

def r30 (s : St) (h : Heap) (Q : St → Heap → Prop) : Prop :=
  0 ≤ (0 : Int) ∧ (0 : Int) < ((s.x_dst.n : Nat) : Int) ∧
  ptrE s.x_dst.p fun a1 =>
  st1 (Addr.add (Addr.add a1 (Int.toNat (0 : Int) * 1)) 0) (.int .u8 (bOr .u8 (IntKind.wrap .u8 ((IntKind.wrap .u8 (IntKind.wrap .i64 (s.x_length - (1 : Int)))) * 2 ^ (2 : Nat))) (2 : Int))) h fun h2 =>
  Q s h2

def r31 (s : St) (h : Heap) (Q : St → Heap → Prop) : Prop :=
  Q { s with t6 := (3 : Int) } h

def r32 (s : St) (h : Heap) (Q : St → Heap → Prop) : Prop :=
  0 ≤ (1 : Int) ∧ (1 : Int) < ((s.x_dst.n : Nat) : Int) ∧
  ptrE s.x_dst.p fun a1 =>
  st1 (Addr.add (Addr.add a1 (Int.toNat (1 : Int) * 1)) 0) (.int .u8 (IntKind.wrap .u8 s.x_offset)) h fun h2 =>
  Q s h2

def r33 (s : St) (h : Heap) (Q : St → Heap → Prop) : Prop :=
  0 ≤ (0 : Int) ∧ (0 : Int) < ((s.x_dst.n : Nat) : Int) ∧
  ptrE s.x_dst.p fun a1 =>
  st1 (Addr.add (Addr.add a1 (Int.toNat (0 : Int) * 1)) 0) (.int .u8 (bOr .u8 (bOr .u8 (IntKind.wrap .u8 ((IntKind.wrap .u8 (Int.fdiv s.x_offset (2 ^ (8 : Nat)))) * 2 ^ (5 : Nat))) (IntKind.wrap .u8 ((IntKind.wrap .u8 (IntKind.wrap .i64 (s.x_length - (4 : Int)))) * 2 ^ (2 : Nat)))) (1 : Int))) h fun h2 =>
  Q s h2

def r34 (s : St) (h : Heap) (Q : St → Heap → Prop) : Prop :=
  Q { s with t6 := (2 : Int) } h

def k26 : Stm St := (.seq (.reg r33) (.seq (.reg r34) .ret))
def k25 : Stm St := (.seq (.reg r32) k26)
def k24 : Stm St := (.seq (.reg r30) (.seq (.reg r31) .ret))
def k23 : Stm St := (.seq (.reg r29) k24)
def k22 : Stm St := (.seq (.reg r28) k23)
def k21 : Stm St := (.seq (.test r27 k22 .skip) k25)
def k20 : Stm St := (.seq (.reg r25) (.seq (.reg r26) .ret))
def k19 : Stm St := (.seq (.reg r24) k20)
def k18 : Stm St := (.seq (.reg r23) k19)
def k17 : Stm St := (.seq (.reg r22) k18)
def k16 : Stm St := (.seq (.test r21 k17 .skip) k21)
def k15 : Stm St := (.seq (.reg r19) (.seq (.reg r20) .ret))
def k14 : Stm St := (.seq (.reg r18) k15)
def k13 : Stm St := (.seq (.reg r17) k14)
def k12 : Stm St := (.seq (.reg r16) k13)
def k11 : Stm St := (.seq (.reg r15) k12)
def k10 : Stm St := (.seq (.test r13 (.seq (.reg r14) .ret) .skip) k11)
def k9 : Stm St := (.seq (.test r10 (.seq (.reg r11) .ret) .skip) (.reg r12))
def k8 : Stm St := (.seq (.reg r9) k9)
def k7 : Stm St := (.seq (.reg r8) k8)
def k6 : Stm St := (.seq (.reg r7) k7)
def k5 : Stm St := (.seq (.reg r6) k6)
def k4 : Stm St := (.seq (.reg r5) k5)
def k3 : Stm St := (.seq (.reg r4) k4)
def k2 : Stm St := (.seq (.test r3 k3 .skip) k10)
def k1 : Stm St := (.seq (.reg r2) k2)
def k0 : Stm St := (.seq (.test r1 k1 .skip) k16)

def stm : Stm St := (.seq (.reg r0) k0)

def ex : Ex → Pt St := fun _ => p0

set_option maxRecDepth 100000 in
theorem sim : Sim Pg 143 p1 (Tryd.f68.body.getD .skip) stm p0 ex :=
  (Sim.seq (Sim.reg (A := p1) (B := p1) (fun _ _ _ => by kernel_rfl))
  (Sim.seq (Sim.test (A := p1) (B := p1) (fun _ _ _ => by kernel_rfl) (Sim.seq (Sim.reg (A := p1) (B := p2) (fun _ _ _ => by kernel_rfl))
  (Sim.seq (Sim.test (A := p2) (B := p2) (fun _ _ _ => by kernel_rfl) (Sim.seq (Sim.reg (A := p2) (B := p1) (fun _ _ _ => by kernel_rfl))
  (Sim.seq (Sim.reg (A := p1) (B := p1) (fun _ _ _ => by kernel_rfl))
  (Sim.seq (Sim.reg (A := p1) (B := p1) (fun _ _ _ => by kernel_rfl))
  (Sim.seq (Sim.reg (A := p1) (B := p1) (fun _ _ _ => by kernel_rfl))
  (Sim.seq (Sim.reg (A := p1) (B := p1) (fun _ _ _ => by kernel_rfl))
  (Sim.seq (Sim.reg (A := p1) (B := p1) (fun _ _ _ => by kernel_rfl))
  (Sim.seq (Sim.test (A := p1) (B := p1) (fun _ _ _ => by kernel_rfl) (Sim.seq (Sim.reg (A := p1) (B := p0) (fun _ _ _ => by kernel_rfl))
  (Sim.ret (A := p0) (E := ex) (fun _ => ⟨rfl, trivial⟩)))
  (Sim.skip (A := p1)))
  (Sim.reg (A := p1) (B := p2) (fun _ _ _ => by kernel_rfl)))))))))
  (Sim.skip (A := p2)))
  (Sim.seq (Sim.test (A := p2) (B := p2) (fun _ _ _ => by kernel_rfl) (Sim.seq (Sim.reg (A := p2) (B := p0) (fun _ _ _ => by kernel_rfl))
  (Sim.ret (A := p0) (E := ex) (fun _ => ⟨rfl, trivial⟩)))
  (Sim.skip (A := p2)))
  (Sim.seq (Sim.reg (A := p2) (B := p3) (fun _ _ _ => by kernel_rfl))
  (Sim.seq (Sim.reg (A := p3) (B := p3) (fun _ _ _ => by kernel_rfl))
  (Sim.seq (Sim.reg (A := p3) (B := p3) (fun _ _ _ => by kernel_rfl))
  (Sim.seq (Sim.reg (A := p3) (B := p3) (fun _ _ _ => by kernel_rfl))
  (Sim.seq (Sim.reg (A := p3) (B := p4) (fun _ _ _ => by kernel_rfl))
  (Sim.seq (Sim.reg (A := p4) (B := p0) (fun _ _ _ => by kernel_rfl))
  (Sim.ret (A := p0) (E := ex) (fun _ => ⟨rfl, trivial⟩)))))))))))
  (Sim.skip (A := p1)))
  (Sim.seq (Sim.test (A := p1) (B := p1) (fun _ _ _ => by kernel_rfl) (Sim.seq (Sim.reg (A := p1) (B := p1) (fun _ _ _ => by kernel_rfl))
  (Sim.seq (Sim.reg (A := p1) (B := p1) (fun _ _ _ => by kernel_rfl))
  (Sim.seq (Sim.reg (A := p1) (B := p1) (fun _ _ _ => by kernel_rfl))
  (Sim.seq (Sim.reg (A := p1) (B := p1) (fun _ _ _ => by kernel_rfl))
  (Sim.seq (Sim.reg (A := p1) (B := p0) (fun _ _ _ => by kernel_rfl))
  (Sim.ret (A := p0) (E := ex) (fun _ => ⟨rfl, trivial⟩)))))))
  (Sim.skip (A := p1)))
  (Sim.seq (Sim.test (A := p1) (B := p1) (fun _ _ _ => by kernel_rfl) (Sim.seq (Sim.reg (A := p1) (B := p1) (fun _ _ _ => by kernel_rfl))
  (Sim.seq (Sim.reg (A := p1) (B := p5) (fun _ _ _ => by kernel_rfl))
  (Sim.seq (Sim.reg (A := p5) (B := p6) (fun _ _ _ => by kernel_rfl))
  (Sim.seq (Sim.reg (A := p6) (B := p0) (fun _ _ _ => by kernel_rfl))
  (Sim.ret (A := p0) (E := ex) (fun _ => ⟨rfl, trivial⟩))))))
  (Sim.skip (A := p1)))
  (Sim.seq (Sim.reg (A := p1) (B := p1) (fun _ _ _ => by kernel_rfl))
  (Sim.seq (Sim.reg (A := p1) (B := p6) (fun _ _ _ => by kernel_rfl))
  (Sim.seq (Sim.reg (A := p6) (B := p0) (fun _ _ _ => by kernel_rfl))
  (Sim.ret (A := p0) (E := ex) (fun _ => ⟨rfl, trivial⟩)))))))))

def init (x_dst : Sl) (x_offset : Int) (x_length : Int) : St := { x_dst := x_dst, x_offset := x_offset, x_length := x_length, t6 := 0, x_i := 0 }

/-- What is left of the results. -/
def res (K : Int → Heap → Prop) (s : St) (h1 : Heap) : Prop := K s.t6 h1

/-- The call of 'pub-pemmican/pub/compress/s2.emitCopyNoRepeat'. -/
theorem calls (x_dst : Sl) (x_offset : Int) (x_length : Int) (h : Heap) (K : Int → Heap → Prop)
    (H : stm (init x_dst x_offset x_length) h (endK (res K))) : c_emitCopyNoRepeat x_dst x_offset x_length h K := by
  have hc : CallsH Pg 68 #[(.slice x_dst.p x_dst.n x_dst.c), (.int .i64 x_offset), (.int .i64 x_length)] h fun v h1 => asI .i64 v fun n1 => K n1 h1 :=
    callsH_of_sim (R := p0) (fn := Tryd.f68) (c := Tryd.f68.body.getD .skip) Tryd.func68 rfl Tryd.ntmps68 Tryd.call68 sim (init x_dst x_offset x_length) (⟨rfl, rfl, rfl, trivial⟩) (Nat.le_of_ble_eq_true rfl) (fun _ => ⟨rfl, trivial⟩) rfl
      (res K) (fun _ _ => by kernel_rfl) H
  refine hc.mono ?_
  intro v hp H
  obtain ⟨n1, rfl, h1⟩ := asI_elim H
  exact ⟨_, rfl, h1⟩

end M_emitCopyNoRepeat

end Go.Proofs.YtibleenkgmkpmaaDoor

namespace Go.Proofs.YtibleenkgmkpmaaDoor
open Go Go.Vc Go.Proofs

namespace M_emitLiteral

structure St where
  x_dst : Sl
  x_lit : Sl
  t4 : Int
  x_i : Int
  x_n : Int

def p0 : Pt St where
  env s := [(4, (.int .i64 s.t4))]
  fin e s K := getV e 4 fun v1 => asI .i64 v1 fun n1 => K { s with t4 := n1 }
  ok := by
    intro e s K h0
    obtain ⟨w1, g1, h1⟩ := getV_elim h0
    obtain ⟨n1, rfl, h2⟩ := asI_elim h1
    exact ⟨_, ⟨g1, trivial⟩, h2⟩

def p1 : Pt St where
  env s := [(0, (.slice s.x_dst.p s.x_dst.n s.x_dst.c)), (1, (.slice s.x_lit.p s.x_lit.n s.x_lit.c))]
  fin e s K := getV e 0 fun v1 => asS v1 fun p1 n1 c1 => getV e 1 fun v2 => asS v2 fun p2 n2 c2 => K { s with x_dst := ⟨p1, n1, c1⟩, x_lit := ⟨p2, n2, c2⟩ }
  ok := by
    intro e s K h0
    obtain ⟨w1, g1, h1⟩ := getV_elim h0
    obtain ⟨p1, n1, c1, rfl, h2⟩ := asS_elim h1
    obtain ⟨w2, g2, h3⟩ := getV_elim h2
    obtain ⟨p2, n2, c2, rfl, h4⟩ := asS_elim h3
    exact ⟨_, ⟨g1, g2, trivial⟩, h4⟩

def p2 : Pt St where
  env s := [(0, (.slice s.x_dst.p s.x_dst.n s.x_dst.c)), (1, (.slice s.x_lit.p s.x_lit.n s.x_lit.c)), (6, (.int .u64 s.x_n))]
  fin e s K := getV e 0 fun v1 => asS v1 fun p1 n1 c1 => getV e 1 fun v2 => asS v2 fun p2 n2 c2 => getV e 6 fun v3 => asI .u64 v3 fun n3 => K { s with x_dst := ⟨p1, n1, c1⟩, x_lit := ⟨p2, n2, c2⟩, x_n := n3 }
  ok := by
    intro e s K h0
    obtain ⟨w1, g1, h1⟩ := getV_elim h0
    obtain ⟨p1, n1, c1, rfl, h2⟩ := asS_elim h1
    obtain ⟨w2, g2, h3⟩ := getV_elim h2
    obtain ⟨p2, n2, c2, rfl, h4⟩ := asS_elim h3
    obtain ⟨w3, g3, h5⟩ := getV_elim h4
    obtain ⟨n3, rfl, h6⟩ := asI_elim h5
    exact ⟨_, ⟨g1, g2, g3, trivial⟩, h6⟩

def p3 : Pt St where
  env s := [(0, (.slice s.x_dst.p s.x_dst.n s.x_dst.c)), (1, (.slice s.x_lit.p s.x_lit.n s.x_lit.c)), (5, (.int .i64 s.x_i))]
  fin e s K := getV e 0 fun v1 => asS v1 fun p1 n1 c1 => getV e 1 fun v2 => asS v2 fun p2 n2 c2 => getV e 5 fun v3 => asI .i64 v3 fun n3 => K { s with x_dst := ⟨p1, n1, c1⟩, x_lit := ⟨p2, n2, c2⟩, x_i := n3 }
  ok := by
    intro e s K h0
    obtain ⟨w1, g1, h1⟩ := getV_elim h0
    obtain ⟨p1, n1, c1, rfl, h2⟩ := asS_elim h1
    obtain ⟨w2, g2, h3⟩ := getV_elim h2
    obtain ⟨p2, n2, c2, rfl, h4⟩ := asS_elim h3
    obtain ⟨w3, g3, h5⟩ := getV_elim h4
    obtain ⟨n3, rfl, h6⟩ := asI_elim h5
    exact ⟨_, ⟨g1, g2, g3, trivial⟩, h6⟩

def r0 (s : St) (h : Heap) (Q : St → Heap → Prop) : Prop :=
  Q s h

def r1 (s : St) (h : Heap) (Q : Bool → St → Heap → Prop) : Prop :=
  Q (((s.x_lit.n : Nat) : Int) == (0 : Int)) s h

def r2 (s : St) (h : Heap) (Q : St → Heap → Prop) : Prop :=
  Q { s with t4 := (0 : Int) } h

def r3 (s : St) (h : Heap) (Q : St → Heap → Prop) : Prop :=
  Q { s with x_n := (IntKind.wrap .u64 (IntKind.wrap .i64 (((s.x_lit.n : Nat) : Int) - (1 : Int)))) } h

def r4 (s : St) (h : Heap) (Q : St → Heap → Prop) : Prop :=
  0 ≤ (4 : Int) ∧ (4 : Int) < ((s.x_dst.n : Nat) : Int) ∧
  ptrE s.x_dst.p fun a1 =>
  st1 (Addr.add (Addr.add a1 (Int.toNat (4 : Int) * 1)) 0) (.int .u8 (IntKind.wrap .u8 (Int.fdiv s.x_n (2 ^ (24 : Nat))))) h fun h2 =>
  Q s h2

def r5 (s : St) (h : Heap) (Q : St → Heap → Prop) : Prop :=
  0 ≤ (3 : Int) ∧ (3 : Int) < ((s.x_dst.n : Nat) : Int) ∧
  ptrE s.x_dst.p fun a1 =>
  st1 (Addr.add (Addr.add a1 (Int.toNat (3 : Int) * 1)) 0) (.int .u8 (IntKind.wrap .u8 (Int.fdiv s.x_n (2 ^ (16 : Nat))))) h fun h2 =>
  Q s h2

def r6 (s : St) (h : Heap) (Q : St → Heap → Prop) : Prop :=
  0 ≤ (2 : Int) ∧ (2 : Int) < ((s.x_dst.n : Nat) : Int) ∧
  ptrE s.x_dst.p fun a1 =>
  st1 (Addr.add (Addr.add a1 (Int.toNat (2 : Int) * 1)) 0) (.int .u8 (IntKind.wrap .u8 (Int.fdiv s.x_n (2 ^ (8 : Nat))))) h fun h2 =>
  Q s h2

def r7 (s : St) (h : Heap) (Q : St → Heap → Prop) : Prop :=
  0 ≤ (1 : Int) ∧ (1 : Int) < ((s.x_dst.n : Nat) : Int) ∧
  ptrE s.x_dst.p fun a1 =>
  st1 (Addr.add (Addr.add a1 (Int.toNat (1 : Int) * 1)) 0) (.int .u8 (IntKind.wrap .u8 s.x_n)) h fun h2 =>
  Q s h2

def r8 (s : St) (h : Heap) (Q : St → Heap → Prop) : Prop :=
  0 ≤ (0 : Int) ∧ (0 : Int) < ((s.x_dst.n : Nat) : Int) ∧
  ptrE s.x_dst.p fun a1 =>
  st1 (Addr.add (Addr.add a1 (Int.toNat (0 : Int) * 1)) 0) (.int .u8 (252 : Int)) h fun h2 =>
  Q s h2

def r9 (s : St) (h : Heap) (Q : St → Heap → Prop) : Prop :=
  Q { s with x_i := (5 : Int) } h

def r10 (s : St) (h : Heap) (Q : Bool → St → Heap → Prop) : Prop :=
  Q (decide (s.x_n < (60 : Int))) s h

def r11 (s : St) (h : Heap) (Q : St → Heap → Prop) : Prop :=
  0 ≤ (0 : Int) ∧ (0 : Int) < ((s.x_dst.n : Nat) : Int) ∧
  ptrE s.x_dst.p fun a1 =>
  st1 (Addr.add (Addr.add a1 (Int.toNat (0 : Int) * 1)) 0) (.int .u8 (bOr .u8 (IntKind.wrap .u8 ((IntKind.wrap .u8 s.x_n) * 2 ^ (2 : Nat))) (0 : Int))) h fun h2 =>
  Q s h2

def r12 (s : St) (h : Heap) (Q : St → Heap → Prop) : Prop :=
  Q { s with x_i := (1 : Int) } h

def r13 (s : St) (h : Heap) (Q : Bool → St → Heap → Prop) : Prop :=
  Q (decide (s.x_n < (256 : Int))) s h

def r14 (s : St) (h : Heap) (Q : St → Heap → Prop) : Prop :=
  0 ≤ (1 : Int) ∧ (1 : Int) < ((s.x_dst.n : Nat) : Int) ∧
  ptrE s.x_dst.p fun a1 =>
  st1 (Addr.add (Addr.add a1 (Int.toNat (1 : Int) * 1)) 0) (.int .u8 (IntKind.wrap .u8 s.x_n)) h fun h2 =>
  Q s h2

def r15 (s : St) (h : Heap) (Q : St → Heap → Prop) : Prop :=
  0 ≤ (0 : Int) ∧ (0 : Int) < ((s.x_dst.n : Nat) : Int) ∧
  ptrE s.x_dst.p fun a1 =>
  st1 (Addr.add (Addr.add a1 (Int.toNat (0 : Int) * 1)) 0) (.int .u8 (240 : Int)) h fun h2 =>
  Q s h2

def r16 (s : St) (h : Heap) (Q : St → Heap → Prop) : Prop :=
  Q { s with x_i := (2 : Int) } h

def r17 (s : St) (h : Heap) (Q : Bool → St → Heap → Prop) : Prop :=
  Q (decide (s.x_n < (65536 : Int))) s h

def r18 (s : St) (h : Heap) (Q : St → Heap → Prop) : Prop :=
  0 ≤ (2 : Int) ∧ (2 : Int) < ((s.x_dst.n : Nat) : Int) ∧
  ptrE s.x_dst.p fun a1 =>
  st1 (Addr.add (Addr.add a1 (Int.toNat (2 : Int) * 1)) 0) (.int .u8 (IntKind.wrap .u8 (Int.fdiv s.x_n (2 ^ (8 : Nat))))) h fun h2 =>
  Q s h2

def r19 (s : St) (h : Heap) (Q : St → Heap → Prop) : Prop :=
  0 ≤ (1 : Int) ∧ (1 : Int) < ((s.x_dst.n : Nat) : Int) ∧
  ptrE s.x_dst.p fun a1 =>
  st1 (Addr.add (Addr.add a1 (Int.toNat (1 : Int) * 1)) 0) (.int .u8 (IntKind.wrap .u8 s.x_n)) h fun h2 =>
  Q s h2

def r20 (s : St) (h : Heap) (Q : St → Heap → Prop) : Prop :=
  0 ≤ (0 : Int) ∧ (0 : Int) < ((s.x_dst.n : Nat) : Int) ∧
  ptrE s.x_dst.p fun a1 =>
  st1 (Addr.add (Addr.add a1 (Int.toNat (0 : Int) * 1)) 0) (.int .u8 (244 : Int)) h fun h2 =>
  Q s h2

def r21 (s : St) (h : Heap) (Q : St → Heap → Prop) : Prop :=
  Q { s with x_i := (3 : Int) } h

def r22 (s : St) (h : Heap) (Q : Bool → St → Heap → Prop) : Prop :=
  Q (decide (s.x_n < (16777216 : Int))) s h

def r23 (s : St) (h : Heap) (Q : St → Heap → Prop) : Prop :=
  0 ≤ (3 : Int) ∧ (3 : Int) < ((s.x_dst.n : Nat) : Int) ∧
  ptrE s.x_dst.p fun a1 =>
  st1 (Addr.add (Addr.add a1 (Int.toNat (3 : Int) * 1)) 0) (.int .u8 (IntKind.wrap .u8 (Int.fdiv s.x_n (2 ^ (16 : Nat))))) h fun h2 =>
  Q s h2

def r24 (s : St) (h : Heap) (Q : St → Heap → Prop) : Prop :=
  0 ≤ (2 : Int) ∧ (2 : Int) < ((s.x_dst.n : Nat) : Int) ∧
  ptrE s.x_dst.p fun a1 =>
  st1 (Addr.add (Addr.add a1 (Int.toNat (2 : Int) * 1)) 0) (.int .u8 (IntKind.wrap .u8 (Int.fdiv s.x_n (2 ^ (8 : Nat))))) h fun h2 =>
  Q s h2

def r25 (s : St) (h : Heap) (Q : St → Heap → Prop) : Prop :=
  0 ≤ (1 : Int) ∧ (1 : Int) < ((s.x_dst.n : Nat) : Int) ∧
  ptrE s.x_dst.p fun a1 =>
  st1 (Addr.add (Addr.add a1 (Int.toNat (1 : Int) * 1)) 0) (.int .u8 (IntKind.wrap .u8 s.x_n)) h fun h2 =>
  Q s h2

def r26 (s : St) (h : Heap) (Q : St → Heap → Prop) : Prop :=
  0 ≤ (0 : Int) ∧ (0 : Int) < ((s.x_dst.n : Nat) : Int) ∧
  ptrE s.x_dst.p fun a1 =>
  st1 (Addr.add (Addr.add a1 (Int.toNat (0 : Int) * 1)) 0) (.int .u8 (248 : Int)) h fun h2 =>
  Q s h2

def r27 (s : St) (h : Heap) (Q : St → Heap → Prop) : Prop :=
  Q { s with x_i := (4 : Int) } h

def r28 (s : St) (h : Heap) (Q : St → Heap → Prop) : Prop :=
  0 ≤ s.x_i ∧ s.x_i ≤ ((s.x_dst.n : Nat) : Int) ∧
  copyT Pg 5 (subP s.x_dst.p (Int.toNat s.x_i) s.x_dst.c 1) (s.x_dst.n - (Int.toNat s.x_i)) (.slice s.x_lit.p s.x_lit.n s.x_lit.c) s.x_lit.n h fun n1 h2 =>
  Q { s with t4 := (IntKind.wrap .i64 (s.x_i + n1)) } h2

def k15 : Stm St := (.seq (.reg r7) (.seq (.reg r8) (.reg r9)))
def k14 : Stm St := (.seq (.reg r6) k15)
def k13 : Stm St := (.seq (.reg r5) k14)
def k12 : Stm St := (.seq (.reg r4) k13)
def k11 : Stm St := (.seq (.reg r25) (.seq (.reg r26) (.reg r27)))
def k10 : Stm St := (.seq (.reg r24) k11)
def k9 : Stm St := (.seq (.reg r23) k10)
def k8 : Stm St := (.test r22 k9 k12)
def k7 : Stm St := (.seq (.reg r19) (.seq (.reg r20) (.reg r21)))
def k6 : Stm St := (.seq (.reg r18) k7)
def k5 : Stm St := (.test r17 k6 k8)
def k4 : Stm St := (.seq (.reg r14) (.seq (.reg r15) (.reg r16)))
def k3 : Stm St := (.test r13 k4 k5)
def k2 : Stm St := (.seq (.block 0 (.test r10 (.seq (.reg r11) (.reg r12)) k3)) (.seq (.reg r28) .ret))
def k1 : Stm St := (.seq (.reg r3) k2)
def k0 : Stm St := (.seq (.test r1 (.seq (.reg r2) .ret) .skip) k1)

def stm : Stm St := (.seq (.reg r0) k0)

def ex : Ex → Pt St := fun _ => p0

set_option maxRecDepth 100000 in
theorem sim : Sim Pg 93 p1 (Tryd.f66.body.getD .skip) stm p0 ex :=
  (Sim.seq (Sim.reg (A := p1) (B := p1) (fun _ _ _ => by kernel_rfl))
  (Sim.seq (Sim.test (A := p1) (B := p1) (fun _ _ _ => by kernel_rfl) (Sim.seq (Sim.reg (A := p1) (B := p0) (fun _ _ _ => by kernel_rfl))
  (Sim.ret (A := p0) (E := ex) (fun _ => ⟨rfl, trivial⟩)))
  (Sim.skip (A := p1)))
  (Sim.seq (Sim.reg (A := p1) (B := p2) (fun _ _ _ => by kernel_rfl))
  (Sim.seq (Sim.block (B := p3) (Sim.test (A := p2) (B := p2) (fun _ _ _ => by kernel_rfl) (Sim.seq (Sim.reg (A := p2) (B := p1) (fun _ _ _ => by kernel_rfl))
  (Sim.reg (A := p1) (B := p3) (fun _ _ _ => by kernel_rfl)))
  (Sim.test (A := p2) (B := p2) (fun _ _ _ => by kernel_rfl) (Sim.seq (Sim.reg (A := p2) (B := p1) (fun _ _ _ => by kernel_rfl))
  (Sim.seq (Sim.reg (A := p1) (B := p1) (fun _ _ _ => by kernel_rfl))
  (Sim.reg (A := p1) (B := p3) (fun _ _ _ => by kernel_rfl))))
  (Sim.test (A := p2) (B := p2) (fun _ _ _ => by kernel_rfl) (Sim.seq (Sim.reg (A := p2) (B := p2) (fun _ _ _ => by kernel_rfl))
  (Sim.seq (Sim.reg (A := p2) (B := p1) (fun _ _ _ => by kernel_rfl))
  (Sim.seq (Sim.reg (A := p1) (B := p1) (fun _ _ _ => by kernel_rfl))
  (Sim.reg (A := p1) (B := p3) (fun _ _ _ => by kernel_rfl)))))
  (Sim.test (A := p2) (B := p2) (fun _ _ _ => by kernel_rfl) (Sim.seq (Sim.reg (A := p2) (B := p2) (fun _ _ _ => by kernel_rfl))
  (Sim.seq (Sim.reg (A := p2) (B := p2) (fun _ _ _ => by kernel_rfl))
  (Sim.seq (Sim.reg (A := p2) (B := p1) (fun _ _ _ => by kernel_rfl))
  (Sim.seq (Sim.reg (A := p1) (B := p1) (fun _ _ _ => by kernel_rfl))
  (Sim.reg (A := p1) (B := p3) (fun _ _ _ => by kernel_rfl))))))
  (Sim.seq (Sim.reg (A := p2) (B := p2) (fun _ _ _ => by kernel_rfl))
  (Sim.seq (Sim.reg (A := p2) (B := p2) (fun _ _ _ => by kernel_rfl))
  (Sim.seq (Sim.reg (A := p2) (B := p2) (fun _ _ _ => by kernel_rfl))
  (Sim.seq (Sim.reg (A := p2) (B := p1) (fun _ _ _ => by kernel_rfl))
  (Sim.seq (Sim.reg (A := p1) (B := p1) (fun _ _ _ => by kernel_rfl))
  (Sim.reg (A := p1) (B := p3) (fun _ _ _ => by kernel_rfl))))))))))))
  (Sim.seq (Sim.reg (A := p3) (B := p0) (fun _ _ _ => by kernel_rfl))
  (Sim.ret (A := p0) (E := ex) (fun _ => ⟨rfl, trivial⟩)))))))

def init (x_dst : Sl) (x_lit : Sl) : St := { x_dst := x_dst, x_lit := x_lit, t4 := 0, x_i := 0, x_n := 0 }

/-- What is left of the results. -/
def res (K : Int → Heap → Prop) (s : St) (h1 : Heap) : Prop := K s.t4 h1

/-- The call of 'pub-pemmican/pub/compress/s2.emitLiteral'. -/
theorem calls (x_dst : Sl) (x_lit : Sl) (h : Heap) (K : Int → Heap → Prop)
    (H : stm (init x_dst x_lit) h (endK (res K))) : c_emitLiteral x_dst x_lit h K := by
  have hc : CallsH Pg 66 #[(.slice x_dst.p x_dst.n x_dst.c), (.slice x_lit.p x_lit.n x_lit.c)] h fun v h1 => asI .i64 v fun n1 => K n1 h1 :=
    callsH_of_sim (R := p0) (fn := Tryd.f66) (c := Tryd.f66.body.getD .skip) Tryd.func66 rfl Tryd.ntmps66 Tryd.call66 sim (init x_dst x_lit) (⟨rfl, rfl, trivial⟩) (Nat.le_of_ble_eq_true rfl) (fun _ => ⟨rfl, trivial⟩) rfl
      (res K) (fun _ _ => by kernel_rfl) H
  refine hc.mono ?_
  intro v hp H
  obtain ⟨n1, rfl, h1⟩ := asI_elim H
  exact ⟨_, rfl, h1⟩

end M_emitLiteral

end Go.Proofs.YtibleenkgmkpmaaDoor

namespace Go.Proofs.YtibleenkgmkpmaaDoor
open Go Go.Vc Go.Proofs

namespace M_impl_S2EmitLiteral

structure St where
  x_lit : Sl
  t2 : Sl
  x_dst : Sl

def p0 : Pt St where
  env s := [(2, (.slice s.t2.p s.t2.n s.t2.c))]
  fin e s K := getV e 2 fun v1 => asS v1 fun p1 n1 c1 => K { s with t2 := ⟨p1, n1, c1⟩ }
  ok := by
    intro e s K h0
    obtain ⟨w1, g1, h1⟩ := getV_elim h0
    obtain ⟨p1, n1, c1, rfl, h2⟩ := asS_elim h1
    exact ⟨_, ⟨g1, trivial⟩, h2⟩

def p1 : Pt St where
  env s := [(0, (.slice s.x_lit.p s.x_lit.n s.x_lit.c))]
  fin e s K := getV e 0 fun v1 => asS v1 fun p1 n1 c1 => K { s with x_lit := ⟨p1, n1, c1⟩ }
  ok := by
    intro e s K h0
    obtain ⟨w1, g1, h1⟩ := getV_elim h0
    obtain ⟨p1, n1, c1, rfl, h2⟩ := asS_elim h1
    exact ⟨_, ⟨g1, trivial⟩, h2⟩

def p2 : Pt St where
  env s := [(0, (.slice s.x_lit.p s.x_lit.n s.x_lit.c)), (3, (.slice s.x_dst.p s.x_dst.n s.x_dst.c))]
  fin e s K := getV e 0 fun v1 => asS v1 fun p1 n1 c1 => getV e 3 fun v2 => asS v2 fun p2 n2 c2 => K { s with x_lit := ⟨p1, n1, c1⟩, x_dst := ⟨p2, n2, c2⟩ }
  ok := by
    intro e s K h0
    obtain ⟨w1, g1, h1⟩ := getV_elim h0
    obtain ⟨p1, n1, c1, rfl, h2⟩ := asS_elim h1
    obtain ⟨w2, g2, h3⟩ := getV_elim h2
    obtain ⟨p2, n2, c2, rfl, h4⟩ := asS_elim h3
    exact ⟨_, ⟨g1, g2, trivial⟩, h4⟩

def r0 (s : St) (h : Heap) (Q : St → Heap → Prop) : Prop :=
  Q s h

def r1 (s : St) (h : Heap) (Q : St → Heap → Prop) : Prop :=
  mkT Pg 5 (IntKind.wrap .i64 (((s.x_lit.n : Nat) : Int) + (32 : Int))) (IntKind.wrap .i64 (((s.x_lit.n : Nat) : Int) + (32 : Int))) h fun a1 n2 c3 h4 =>
  Q { s with x_dst := ⟨(some a1), n2, c3⟩ } h4

def r2 (s : St) (h : Heap) (Q : St → Heap → Prop) : Prop :=
  c_ZzEmitLiteral s.x_dst s.x_lit h fun r2 h1 =>
  0 ≤ r2 ∧ r2 ≤ ((s.x_dst.c : Nat) : Int) ∧
  Q { s with t2 := ⟨(subP s.x_dst.p 0 s.x_dst.c 1), ((Int.toNat r2) - 0), (s.x_dst.c - 0)⟩ } h1

def k0 : Stm St := (.seq (.reg r1) (.seq (.reg r2) .ret))

def stm : Stm St := (.seq (.reg r0) k0)

def ex : Ex → Pt St := fun _ => p0

set_option maxRecDepth 100000 in
theorem sim : Sim Pg 13 p1 (Tryd.f24.body.getD .skip) stm p0 ex :=
  (Sim.seq (Sim.reg (A := p1) (B := p1) (fun _ _ _ => by kernel_rfl))
  (Sim.seq (Sim.reg (A := p1) (B := p2) (fun _ _ _ => by kernel_rfl))
  (Sim.seq (Sim.reg (A := p2) (B := p0) (fun _ _ _ => by kernel_rfl))
  (Sim.ret (A := p0) (E := ex) (fun _ => ⟨rfl, trivial⟩)))))

def init (x_lit : Sl) : St := { x_lit := x_lit, t2 := Sl.nil, x_dst := Sl.nil }

/-- What is left of the results. -/
def res (K : Sl → Heap → Prop) (s : St) (h1 : Heap) : Prop := K s.t2 h1

/-- The call of 'pub-pemmican/impl.S2EmitLiteral'. -/
theorem calls (x_lit : Sl) (h : Heap) (K : Sl → Heap → Prop)
    (H : stm (init x_lit) h (endK (res K))) : c_impl_S2EmitLiteral x_lit h K := by
  have hc : CallsH Pg 24 #[(.slice x_lit.p x_lit.n x_lit.c)] h fun v h1 => asS v fun p1 n1 c1 => K ⟨p1, n1, c1⟩ h1 :=
    callsH_of_sim (R := p0) (fn := Tryd.f24) (c := Tryd.f24.body.getD .skip) Tryd.func24 rfl Tryd.ntmps24 Tryd.call24 sim (init x_lit) (⟨rfl, trivial⟩) (Nat.le_of_ble_eq_true rfl) (fun _ => ⟨rfl, trivial⟩) rfl
      (res K) (fun _ _ => by kernel_rfl) H
  refine hc.mono ?_
  intro v hp H
  obtain ⟨p1, n1, c1, rfl, h1⟩ := asS_elim H
  exact ⟨_, _, _, rfl, h1⟩

end M_impl_S2EmitLiteral

end Go.Proofs.YtibleenkgmkpmaaDoor

namespace Go.Proofs.YtibleenkgmkpmaaDoor
open Go Go.Vc Go.Proofs

namespace M_impl_S2EmitCopy

structure St where
  x_offset : Int
  x_length : Int
  x_repeat : Bool
  t6 : Sl
  x_dst : Sl

def p0 : Pt St where
  env s := [(6, (.slice s.t6.p s.t6.n s.t6.c))]
  fin e s K := getV e 6 fun v1 => asS v1 fun p1 n1 c1 => K { s with t6 := ⟨p1, n1, c1⟩ }
  ok := by
    intro e s K h0
    obtain ⟨w1, g1, h1⟩ := getV_elim h0
    obtain ⟨p1, n1, c1, rfl, h2⟩ := asS_elim h1
    exact ⟨_, ⟨g1, trivial⟩, h2⟩

def p1 : Pt St where
  env s := [(0, (.int .i64 s.x_offset)), (1, (.int .i64 s.x_length)), (2, (.bool s.x_repeat))]
  fin e s K := getV e 0 fun v1 => asI .i64 v1 fun n1 => getV e 1 fun v2 => asI .i64 v2 fun n2 => getV e 2 fun v3 => asB v3 fun b1 => K { s with x_offset := n1, x_length := n2, x_repeat := b1 }
  ok := by
    intro e s K h0
    obtain ⟨w1, g1, h1⟩ := getV_elim h0
    obtain ⟨n1, rfl, h2⟩ := asI_elim h1
    obtain ⟨w2, g2, h3⟩ := getV_elim h2
    obtain ⟨n2, rfl, h4⟩ := asI_elim h3
    obtain ⟨w3, g3, h5⟩ := getV_elim h4
    obtain ⟨b1, rfl, h6⟩ := asB_elim h5
    exact ⟨_, ⟨g1, g2, g3, trivial⟩, h6⟩

def p2 : Pt St where
  env s := [(0, (.int .i64 s.x_offset)), (1, (.int .i64 s.x_length)), (2, (.bool s.x_repeat)), (7, (.slice s.x_dst.p s.x_dst.n s.x_dst.c))]
  fin e s K := getV e 0 fun v1 => asI .i64 v1 fun n1 => getV e 1 fun v2 => asI .i64 v2 fun n2 => getV e 2 fun v3 => asB v3 fun b1 => getV e 7 fun v4 => asS v4 fun p1 n3 c1 => K { s with x_offset := n1, x_length := n2, x_repeat := b1, x_dst := ⟨p1, n3, c1⟩ }
  ok := by
    intro e s K h0
    obtain ⟨w1, g1, h1⟩ := getV_elim h0
    obtain ⟨n1, rfl, h2⟩ := asI_elim h1
    obtain ⟨w2, g2, h3⟩ := getV_elim h2
    obtain ⟨n2, rfl, h4⟩ := asI_elim h3
    obtain ⟨w3, g3, h5⟩ := getV_elim h4
    obtain ⟨b1, rfl, h6⟩ := asB_elim h5
    obtain ⟨w4, g4, h7⟩ := getV_elim h6
    obtain ⟨p1, n3, c1, rfl, h8⟩ := asS_elim h7
    exact ⟨_, ⟨g1, g2, g3, g4, trivial⟩, h8⟩

def p3 : Pt St where
  env s := [(0, (.int .i64 s.x_offset)), (1, (.int .i64 s.x_length)), (7, (.slice s.x_dst.p s.x_dst.n s.x_dst.c))]
  fin e s K := getV e 0 fun v1 => asI .i64 v1 fun n1 => getV e 1 fun v2 => asI .i64 v2 fun n2 => getV e 7 fun v3 => asS v3 fun p1 n3 c1 => K { s with x_offset := n1, x_length := n2, x_dst := ⟨p1, n3, c1⟩ }
  ok := by
    intro e s K h0
    obtain ⟨w1, g1, h1⟩ := getV_elim h0
    obtain ⟨n1, rfl, h2⟩ := asI_elim h1
    obtain ⟨w2, g2, h3⟩ := getV_elim h2
    obtain ⟨n2, rfl, h4⟩ := asI_elim h3
    obtain ⟨w3, g3, h5⟩ := getV_elim h4
    obtain ⟨p1, n3, c1, rfl, h6⟩ := asS_elim h5
    exact ⟨_, ⟨g1, g2, g3, trivial⟩, h6⟩

def r0 (s : St) (h : Heap) (Q : St → Heap → Prop) : Prop :=
  Q s h

def r1 (s : St) (h : Heap) (Q : St → Heap → Prop) : Prop :=
  mkT Pg 5 (IntKind.wrap .i64 ((IntKind.wrap .i64 (Int.tdiv s.x_length (4 : Int))) + (32 : Int))) (IntKind.wrap .i64 ((IntKind.wrap .i64 (Int.tdiv s.x_length (4 : Int))) + (32 : Int))) h fun a1 n2 c3 h4 =>
  Q { s with x_dst := ⟨(some a1), n2, c3⟩ } h4

def r2 (s : St) (h : Heap) (Q : Bool → St → Heap → Prop) : Prop :=
  Q s.x_repeat s h

def r3 (s : St) (h : Heap) (Q : St → Heap → Prop) : Prop :=
  c_ZzEmitCopy s.x_dst s.x_offset s.x_length h fun r2 h1 =>
  0 ≤ r2 ∧ r2 ≤ ((s.x_dst.c : Nat) : Int) ∧
  Q { s with t6 := ⟨(subP s.x_dst.p 0 s.x_dst.c 1), ((Int.toNat r2) - 0), (s.x_dst.c - 0)⟩ } h1

def r4 (s : St) (h : Heap) (Q : St → Heap → Prop) : Prop :=
  c_ZzEmitCopyNoRepeat s.x_dst s.x_offset s.x_length h fun r2 h1 =>
  0 ≤ r2 ∧ r2 ≤ ((s.x_dst.c : Nat) : Int) ∧
  Q { s with t6 := ⟨(subP s.x_dst.p 0 s.x_dst.c 1), ((Int.toNat r2) - 0), (s.x_dst.c - 0)⟩ } h1

def k1 : Stm St := (.seq (.test r2 (.seq (.reg r3) .ret) .skip) (.seq (.reg r4) .ret))
def k0 : Stm St := (.seq (.reg r1) k1)

def stm : Stm St := (.seq (.reg r0) k0)

def ex : Ex → Pt St := fun _ => p0

set_option maxRecDepth 100000 in
theorem sim : Sim Pg 25 p1 (Tryd.f25.body.getD .skip) stm p0 ex :=
  (Sim.seq (Sim.reg (A := p1) (B := p1) (fun _ _ _ => by kernel_rfl))
  (Sim.seq (Sim.reg (A := p1) (B := p2) (fun _ _ _ => by kernel_rfl))
  (Sim.seq (Sim.test (A := p2) (B := p3) (fun _ _ _ => by kernel_rfl) (Sim.seq (Sim.reg (A := p3) (B := p0) (fun _ _ _ => by kernel_rfl))
  (Sim.ret (A := p0) (E := ex) (fun _ => ⟨rfl, trivial⟩)))
  (Sim.skip (A := p3)))
  (Sim.seq (Sim.reg (A := p3) (B := p0) (fun _ _ _ => by kernel_rfl))
  (Sim.ret (A := p0) (E := ex) (fun _ => ⟨rfl, trivial⟩))))))

def init (x_offset : Int) (x_length : Int) (x_repeat : Bool) : St := { x_offset := x_offset, x_length := x_length, x_repeat := x_repeat, t6 := Sl.nil, x_dst := Sl.nil }

/-- What is left of the results. -/
def res (K : Sl → Heap → Prop) (s : St) (h1 : Heap) : Prop := K s.t6 h1

/-- The call of 'pub-pemmican/impl.S2EmitCopy'. -/
theorem calls (x_offset : Int) (x_length : Int) (x_repeat : Bool) (h : Heap) (K : Sl → Heap → Prop)
    (H : stm (init x_offset x_length x_repeat) h (endK (res K))) : c_impl_S2EmitCopy x_offset x_length x_repeat h K := by
  have hc : CallsH Pg 25 #[(.int .i64 x_offset), (.int .i64 x_length), (.bool x_repeat)] h fun v h1 => asS v fun p1 n1 c1 => K ⟨p1, n1, c1⟩ h1 :=
    callsH_of_sim (R := p0) (fn := Tryd.f25) (c := Tryd.f25.body.getD .skip) Tryd.func25 rfl Tryd.ntmps25 Tryd.call25 sim (init x_offset x_length x_repeat) (⟨rfl, rfl, rfl, trivial⟩) (Nat.le_of_ble_eq_true rfl) (fun _ => ⟨rfl, trivial⟩) rfl
      (res K) (fun _ _ => by kernel_rfl) H
  refine hc.mono ?_
  intro v hp H
  obtain ⟨p1, n1, c1, rfl, h1⟩ := asS_elim H
  exact ⟨_, _, _, rfl, h1⟩

end M_impl_S2EmitCopy

end Go.Proofs.YtibleenkgmkpmaaDoor

namespace Go.Proofs.YtibleenkgmkpmaaDoor
open Go Go.Vc Go.Proofs

namespace M_ZzEmitLiteral

structure St where
  x_dst : Sl
  x_lit : Sl
  t4 : Int

def p0 : Pt St where
  env s := [(4, (.int .i64 s.t4))]
  fin e s K := getV e 4 fun v1 => asI .i64 v1 fun n1 => K { s with t4 := n1 }
  ok := by
    intro e s K h0
    obtain ⟨w1, g1, h1⟩ := getV_elim h0
    obtain ⟨n1, rfl, h2⟩ := asI_elim h1
    exact ⟨_, ⟨g1, trivial⟩, h2⟩

def p1 : Pt St where
  env s := [(0, (.slice s.x_dst.p s.x_dst.n s.x_dst.c)), (1, (.slice s.x_lit.p s.x_lit.n s.x_lit.c))]
  fin e s K := getV e 0 fun v1 => asS v1 fun p1 n1 c1 => getV e 1 fun v2 => asS v2 fun p2 n2 c2 => K { s with x_dst := ⟨p1, n1, c1⟩, x_lit := ⟨p2, n2, c2⟩ }
  ok := by
    intro e s K h0
    obtain ⟨w1, g1, h1⟩ := getV_elim h0
    obtain ⟨p1, n1, c1, rfl, h2⟩ := asS_elim h1
    obtain ⟨w2, g2, h3⟩ := getV_elim h2
    obtain ⟨p2, n2, c2, rfl, h4⟩ := asS_elim h3
    exact ⟨_, ⟨g1, g2, trivial⟩, h4⟩

def r0 (s : St) (h : Heap) (Q : St → Heap → Prop) : Prop :=
  Q s h

def r1 (s : St) (h : Heap) (Q : St → Heap → Prop) : Prop :=
  c_emitLiteral s.x_dst s.x_lit h fun r2 h1 =>
  Q { s with t4 := r2 } h1

def stm : Stm St := (.seq (.reg r0) (.seq (.reg r1) .ret))

def ex : Ex → Pt St := fun _ => p0

set_option maxRecDepth 100000 in
theorem sim : Sim Pg 8 p1 (Tryd.f46.body.getD .skip) stm p0 ex :=
  (Sim.seq (Sim.reg (A := p1) (B := p1) (fun _ _ _ => by kernel_rfl))
  (Sim.seq (Sim.reg (A := p1) (B := p0) (fun _ _ _ => by kernel_rfl))
  (Sim.ret (A := p0) (E := ex) (fun _ => ⟨rfl, trivial⟩))))

def init (x_dst : Sl) (x_lit : Sl) : St := { x_dst := x_dst, x_lit := x_lit, t4 := 0 }

/-- What is left of the results. -/
def res (K : Int → Heap → Prop) (s : St) (h1 : Heap) : Prop := K s.t4 h1

/-- The call of 'pub-pemmican/pub/compress/s2.ZzEmitLiteral'. -/
theorem calls (x_dst : Sl) (x_lit : Sl) (h : Heap) (K : Int → Heap → Prop)
    (H : stm (init x_dst x_lit) h (endK (res K))) : c_ZzEmitLiteral x_dst x_lit h K := by
  have hc : CallsH Pg 46 #[(.slice x_dst.p x_dst.n x_dst.c), (.slice x_lit.p x_lit.n x_lit.c)] h fun v h1 => asI .i64 v fun n1 => K n1 h1 :=
    callsH_of_sim (R := p0) (fn := Tryd.f46) (c := Tryd.f46.body.getD .skip) Tryd.func46 rfl Tryd.ntmps46 Tryd.call46 sim (init x_dst x_lit) (⟨rfl, rfl, trivial⟩) (Nat.le_of_ble_eq_true rfl) (fun _ => ⟨rfl, trivial⟩) rfl
      (res K) (fun _ _ => by kernel_rfl) H
  refine hc.mono ?_
  intro v hp H
  obtain ⟨n1, rfl, h1⟩ := asI_elim H
  exact ⟨_, rfl, h1⟩

end M_ZzEmitLiteral

end Go.Proofs.YtibleenkgmkpmaaDoor

namespace Go.Proofs.YtibleenkgmkpmaaDoor
open Go Go.Vc Go.Proofs

namespace M_ZzEmitCopy

structure St where
  x_dst : Sl
  x_offset : Int
  x_length : Int
  t6 : Int

def p0 : Pt St where
  env s := [(6, (.int .i64 s.t6))]
  fin e s K := getV e 6 fun v1 => asI .i64 v1 fun n1 => K { s with t6 := n1 }
  ok := by
    intro e s K h0
    obtain ⟨w1, g1, h1⟩ := getV_elim h0
    obtain ⟨n1, rfl, h2⟩ := asI_elim h1
    exact ⟨_, ⟨g1, trivial⟩, h2⟩

def p1 : Pt St where
  env s := [(0, (.slice s.x_dst.p s.x_dst.n s.x_dst.c)), (1, (.int .i64 s.x_offset)), (2, (.int .i64 s.x_length))]
  fin e s K := getV e 0 fun v1 => asS v1 fun p1 n1 c1 => getV e 1 fun v2 => asI .i64 v2 fun n2 => getV e 2 fun v3 => asI .i64 v3 fun n3 => K { s with x_dst := ⟨p1, n1, c1⟩, x_offset := n2, x_length := n3 }
  ok := by
    intro e s K h0
    obtain ⟨w1, g1, h1⟩ := getV_elim h0
    obtain ⟨p1, n1, c1, rfl, h2⟩ := asS_elim h1
    obtain ⟨w2, g2, h3⟩ := getV_elim h2
    obtain ⟨n2, rfl, h4⟩ := asI_elim h3
    obtain ⟨w3, g3, h5⟩ := getV_elim h4
    obtain ⟨n3, rfl, h6⟩ := asI_elim h5
    exact ⟨_, ⟨g1, g2, g3, trivial⟩, h6⟩

def r0 (s : St) (h : Heap) (Q : St → Heap → Prop) : Prop :=
  Q s h

def r1 (s : St) (h : Heap) (Q : St → Heap → Prop) : Prop :=
  c_emitCopy s.x_dst s.x_offset s.x_length h fun r2 h1 =>
  Q { s with t6 := r2 } h1

def stm : Stm St := (.seq (.reg r0) (.seq (.reg r1) .ret))

def ex : Ex → Pt St := fun _ => p0

set_option maxRecDepth 100000 in
theorem sim : Sim Pg 11 p1 (Tryd.f47.body.getD .skip) stm p0 ex :=
  (Sim.seq (Sim.reg (A := p1) (B := p1) (fun _ _ _ => by kernel_rfl))
  (Sim.seq (Sim.reg (A := p1) (B := p0) (fun _ _ _ => by kernel_rfl))
  (Sim.ret (A := p0) (E := ex) (fun _ => ⟨rfl, trivial⟩))))

def init (x_dst : Sl) (x_offset : Int) (x_length : Int) : St := { x_dst := x_dst, x_offset := x_offset, x_length := x_length, t6 := 0 }

/-- What is left of the results. -/
def res (K : Int → Heap → Prop) (s : St) (h1 : Heap) : Prop := K s.t6 h1

/-- The call of 'pub-pemmican/pub/compress/s2.ZzEmitCopy'. -/
theorem calls (x_dst : Sl) (x_offset : Int) (x_length : Int) (h : Heap) (K : Int → Heap → Prop)
    (H : stm (init x_dst x_offset x_length) h (endK (res K))) : c_ZzEmitCopy x_dst x_offset x_length h K := by
  have hc : CallsH Pg 47 #[(.slice x_dst.p x_dst.n x_dst.c), (.int .i64 x_offset), (.int .i64 x_length)] h fun v h1 => asI .i64 v fun n1 => K n1 h1 :=
    callsH_of_sim (R := p0) (fn := Tryd.f47) (c := Tryd.f47.body.getD .skip) Tryd.func47 rfl Tryd.ntmps47 Tryd.call47 sim (init x_dst x_offset x_length) (⟨rfl, rfl, rfl, trivial⟩) (Nat.le_of_ble_eq_true rfl) (fun _ => ⟨rfl, trivial⟩) rfl
      (res K) (fun _ _ => by kernel_rfl) H
  refine hc.mono ?_
  intro v hp H
  obtain ⟨n1, rfl, h1⟩ := asI_elim H
  exact ⟨_, rfl, h1⟩

end M_ZzEmitCopy

end Go.Proofs.YtibleenkgmkpmaaDoor

namespace Go.Proofs.YtibleenkgmkpmaaDoor
open Go Go.Vc Go.Proofs

namespace M_ZzEmitCopyNoRepeat

structure St where
  x_dst : Sl
  x_offset : Int
  x_length : Int
  t6 : Int

def p0 : Pt St where
  env s := [(6, (.int .i64 s.t6))]
  fin e s K := getV e 6 fun v1 => asI .i64 v1 fun n1 => K { s with t6 := n1 }
  ok := by
    intro e s K h0
    obtain ⟨w1, g1, h1⟩ := getV_elim h0
    obtain ⟨n1, rfl, h2⟩ := asI_elim h1
    exact ⟨_, ⟨g1, trivial⟩, h2⟩

def p1 : Pt St where
  env s := [(0, (.slice s.x_dst.p s.x_dst.n s.x_dst.c)), (1, (.int .i64 s.x_offset)), (2, (.int .i64 s.x_length))]
  fin e s K := getV e 0 fun v1 => asS v1 fun p1 n1 c1 => getV e 1 fun v2 => asI .i64 v2 fun n2 => getV e 2 fun v3 => asI .i64 v3 fun n3 => K { s with x_dst := ⟨p1, n1, c1⟩, x_offset := n2, x_length := n3 }
  ok := by
    intro e s K h0
    obtain ⟨w1, g1, h1⟩ := getV_elim h0
    obtain ⟨p1, n1, c1, rfl, h2⟩ := asS_elim h1
    obtain ⟨w2, g2, h3⟩ := getV_elim h2
    obtain ⟨n2, rfl, h4⟩ := asI_elim h3
    obtain ⟨w3, g3, h5⟩ := getV_elim h4
    obtain ⟨n3, rfl, h6⟩ := asI_elim h5
    exact ⟨_, ⟨g1, g2, g3, trivial⟩, h6⟩

def r0 (s : St) (h : Heap) (Q : St → Heap → Prop) : Prop :=
  Q s h

def r1 (s : St) (h : Heap) (Q : St → Heap → Prop) : Prop :=
  c_emitCopyNoRepeat s.x_dst s.x_offset s.x_length h fun r2 h1 =>
  Q { s with t6 := r2 } h1

def stm : Stm St := (.seq (.reg r0) (.seq (.reg r1) .ret))

def ex : Ex → Pt St := fun _ => p0

set_option maxRecDepth 100000 in
theorem sim : Sim Pg 11 p1 (Tryd.f48.body.getD .skip) stm p0 ex :=
  (Sim.seq (Sim.reg (A := p1) (B := p1) (fun _ _ _ => by kernel_rfl))
  (Sim.seq (Sim.reg (A := p1) (B := p0) (fun _ _ _ => by kernel_rfl))
  (Sim.ret (A := p0) (E := ex) (fun _ => ⟨rfl, trivial⟩))))

def init (x_dst : Sl) (x_offset : Int) (x_length : Int) : St := { x_dst := x_dst, x_offset := x_offset, x_length := x_length, t6 := 0 }

/-- What is left of the results. -/
def res (K : Int → Heap → Prop) (s : St) (h1 : Heap) : Prop := K s.t6 h1

/-- The call of 'pub-pemmican/pub/compress/s2.ZzEmitCopyNoRepeat'. -/
theorem calls (x_dst : Sl) (x_offset : Int) (x_length : Int) (h : Heap) (K : Int → Heap → Prop)
    (H : stm (init x_dst x_offset x_length) h (endK (res K))) : c_ZzEmitCopyNoRepeat x_dst x_offset x_length h K := by
  have hc : CallsH Pg 48 #[(.slice x_dst.p x_dst.n x_dst.c), (.int .i64 x_offset), (.int .i64 x_length)] h fun v h1 => asI .i64 v fun n1 => K n1 h1 :=
    callsH_of_sim (R := p0) (fn := Tryd.f48) (c := Tryd.f48.body.getD .skip) Tryd.func48 rfl Tryd.ntmps48 Tryd.call48 sim (init x_dst x_offset x_length) (⟨rfl, rfl, rfl, trivial⟩) (Nat.le_of_ble_eq_true rfl) (fun _ => ⟨rfl, trivial⟩) rfl
      (res K) (fun _ _ => by kernel_rfl) H
  refine hc.mono ?_
  intro v hp H
  obtain ⟨n1, rfl, h1⟩ := asI_elim H
  exact ⟨_, rfl, h1⟩

end M_ZzEmitCopyNoRepeat

end Go.Proofs.YtibleenkgmkpmaaDoor

namespace Go.Proofs.YtibleenkgmkpmaaDoor
open Go Go.Vc Go.Proofs

namespace M_laws_join

structure St where
  x_a : Sl
  x_b : Sl
  t4 : Sl
  x_out : Sl

def p0 : Pt St where
  env s := [(4, (.slice s.t4.p s.t4.n s.t4.c))]
  fin e s K := getV e 4 fun v1 => asS v1 fun p1 n1 c1 => K { s with t4 := ⟨p1, n1, c1⟩ }
  ok := by
    intro e s K h0
    obtain ⟨w1, g1, h1⟩ := getV_elim h0
    obtain ⟨p1, n1, c1, rfl, h2⟩ := asS_elim h1
    exact ⟨_, ⟨g1, trivial⟩, h2⟩

def p1 : Pt St where
  env s := [(0, (.slice s.x_a.p s.x_a.n s.x_a.c)), (1, (.slice s.x_b.p s.x_b.n s.x_b.c))]
  fin e s K := getV e 0 fun v1 => asS v1 fun p1 n1 c1 => getV e 1 fun v2 => asS v2 fun p2 n2 c2 => K { s with x_a := ⟨p1, n1, c1⟩, x_b := ⟨p2, n2, c2⟩ }
  ok := by
    intro e s K h0
    obtain ⟨w1, g1, h1⟩ := getV_elim h0
    obtain ⟨p1, n1, c1, rfl, h2⟩ := asS_elim h1
    obtain ⟨w2, g2, h3⟩ := getV_elim h2
    obtain ⟨p2, n2, c2, rfl, h4⟩ := asS_elim h3
    exact ⟨_, ⟨g1, g2, trivial⟩, h4⟩

def p2 : Pt St where
  env s := [(0, (.slice s.x_a.p s.x_a.n s.x_a.c)), (1, (.slice s.x_b.p s.x_b.n s.x_b.c)), (5, (.slice s.x_out.p s.x_out.n s.x_out.c))]
  fin e s K := getV e 0 fun v1 => asS v1 fun p1 n1 c1 => getV e 1 fun v2 => asS v2 fun p2 n2 c2 => getV e 5 fun v3 => asS v3 fun p3 n3 c3 => K { s with x_a := ⟨p1, n1, c1⟩, x_b := ⟨p2, n2, c2⟩, x_out := ⟨p3, n3, c3⟩ }
  ok := by
    intro e s K h0
    obtain ⟨w1, g1, h1⟩ := getV_elim h0
    obtain ⟨p1, n1, c1, rfl, h2⟩ := asS_elim h1
    obtain ⟨w2, g2, h3⟩ := getV_elim h2
    obtain ⟨p2, n2, c2, rfl, h4⟩ := asS_elim h3
    obtain ⟨w3, g3, h5⟩ := getV_elim h4
    obtain ⟨p3, n3, c3, rfl, h6⟩ := asS_elim h5
    exact ⟨_, ⟨g1, g2, g3, trivial⟩, h6⟩

def p3 : Pt St where
  env s := [(1, (.slice s.x_b.p s.x_b.n s.x_b.c)), (5, (.slice s.x_out.p s.x_out.n s.x_out.c))]
  fin e s K := getV e 1 fun v1 => asS v1 fun p1 n1 c1 => getV e 5 fun v2 => asS v2 fun p2 n2 c2 => K { s with x_b := ⟨p1, n1, c1⟩, x_out := ⟨p2, n2, c2⟩ }
  ok := by
    intro e s K h0
    obtain ⟨w1, g1, h1⟩ := getV_elim h0
    obtain ⟨p1, n1, c1, rfl, h2⟩ := asS_elim h1
    obtain ⟨w2, g2, h3⟩ := getV_elim h2
    obtain ⟨p2, n2, c2, rfl, h4⟩ := asS_elim h3
    exact ⟨_, ⟨g1, g2, trivial⟩, h4⟩

def r0 (s : St) (h : Heap) (Q : St → Heap → Prop) : Prop :=
  Q s h

def r1 (s : St) (h : Heap) (Q : St → Heap → Prop) : Prop :=
  mkT Pg 5 (0 : Int) (IntKind.wrap .i64 (((s.x_a.n : Nat) : Int) + ((s.x_b.n : Nat) : Int))) h fun a1 n2 c3 h4 =>
  Q { s with x_out := ⟨(some a1), n2, c3⟩ } h4

def r2 (s : St) (h : Heap) (Q : St → Heap → Prop) : Prop :=
  appendT Pg 5 s.x_out.p s.x_out.n s.x_out.c (.slice s.x_a.p s.x_a.n s.x_a.c) s.x_a.n h fun p1 n2 c3 h4 =>
  Q { s with x_out := ⟨p1, n2, c3⟩ } h4

def r3 (s : St) (h : Heap) (Q : St → Heap → Prop) : Prop :=
  appendT Pg 5 s.x_out.p s.x_out.n s.x_out.c (.slice s.x_b.p s.x_b.n s.x_b.c) s.x_b.n h fun p1 n2 c3 h4 =>
  Q { s with t4 := ⟨p1, n2, c3⟩ } h4

def k1 : Stm St := (.seq (.reg r2) (.seq (.reg r3) .ret))
def k0 : Stm St := (.seq (.reg r1) k1)

def stm : Stm St := (.seq (.reg r0) k0)

def ex : Ex → Pt St := fun _ => p0

set_option maxRecDepth 100000 in
theorem sim : Sim Pg 18 p1 (Tryd.f29.body.getD .skip) stm p0 ex :=
  (Sim.seq (Sim.reg (A := p1) (B := p1) (fun _ _ _ => by kernel_rfl))
  (Sim.seq (Sim.reg (A := p1) (B := p2) (fun _ _ _ => by kernel_rfl))
  (Sim.seq (Sim.reg (A := p2) (B := p3) (fun _ _ _ => by kernel_rfl))
  (Sim.seq (Sim.reg (A := p3) (B := p0) (fun _ _ _ => by kernel_rfl))
  (Sim.ret (A := p0) (E := ex) (fun _ => ⟨rfl, trivial⟩))))))

def init (x_a : Sl) (x_b : Sl) : St := { x_a := x_a, x_b := x_b, t4 := Sl.nil, x_out := Sl.nil }

/-- What is left of the results. -/
def res (K : Sl → Heap → Prop) (s : St) (h1 : Heap) : Prop := K s.t4 h1

/-- The call of 'pub-pemmican/laws.join'. -/
theorem calls (x_a : Sl) (x_b : Sl) (h : Heap) (K : Sl → Heap → Prop)
    (H : stm (init x_a x_b) h (endK (res K))) : c_laws_join x_a x_b h K := by
  have hc : CallsH Pg 29 #[(.slice x_a.p x_a.n x_a.c), (.slice x_b.p x_b.n x_b.c)] h fun v h1 => asS v fun p1 n1 c1 => K ⟨p1, n1, c1⟩ h1 :=
    callsH_of_sim (R := p0) (fn := Tryd.f29) (c := Tryd.f29.body.getD .skip) Tryd.func29 rfl Tryd.ntmps29 Tryd.call29 sim (init x_a x_b) (⟨rfl, rfl, trivial⟩) (Nat.le_of_ble_eq_true rfl) (fun _ => ⟨rfl, trivial⟩) rfl
      (res K) (fun _ _ => by kernel_rfl) H
  refine hc.mono ?_
  intro v hp H
  obtain ⟨p1, n1, c1, rfl, h1⟩ := asS_elim H
  exact ⟨_, _, _, rfl, h1⟩

end M_laws_join

end Go.Proofs.YtibleenkgmkpmaaDoor

namespace Go.Proofs.YtibleenkgmkpmaaDoor
open Go Go.Vc Go.Proofs

namespace M_laws_copied

structure St where
  x_text : Sl
  x_offset : Int
  x_length : Int
  t6 : Sl
  x_out : Sl
  t10 : Int
  t11 : Int
  t12 : Bool

def p0 : Pt St where
  env s := [(6, (.slice s.t6.p s.t6.n s.t6.c))]
  fin e s K := getV e 6 fun v1 => asS v1 fun p1 n1 c1 => K { s with t6 := ⟨p1, n1, c1⟩ }
  ok := by
    intro e s K h0
    obtain ⟨w1, g1, h1⟩ := getV_elim h0
    obtain ⟨p1, n1, c1, rfl, h2⟩ := asS_elim h1
    exact ⟨_, ⟨g1, trivial⟩, h2⟩

def p1 : Pt St where
  env s := [(0, (.slice s.x_text.p s.x_text.n s.x_text.c)), (1, (.int .i64 s.x_offset)), (2, (.int .i64 s.x_length))]
  fin e s K := getV e 0 fun v1 => asS v1 fun p1 n1 c1 => getV e 1 fun v2 => asI .i64 v2 fun n2 => getV e 2 fun v3 => asI .i64 v3 fun n3 => K { s with x_text := ⟨p1, n1, c1⟩, x_offset := n2, x_length := n3 }
  ok := by
    intro e s K h0
    obtain ⟨w1, g1, h1⟩ := getV_elim h0
    obtain ⟨p1, n1, c1, rfl, h2⟩ := asS_elim h1
    obtain ⟨w2, g2, h3⟩ := getV_elim h2
    obtain ⟨n2, rfl, h4⟩ := asI_elim h3
    obtain ⟨w3, g3, h5⟩ := getV_elim h4
    obtain ⟨n3, rfl, h6⟩ := asI_elim h5
    exact ⟨_, ⟨g1, g2, g3, trivial⟩, h6⟩

def p2 : Pt St where
  env s := [(1, (.int .i64 s.x_offset)), (2, (.int .i64 s.x_length)), (7, (.slice s.x_out.p s.x_out.n s.x_out.c))]
  fin e s K := getV e 1 fun v1 => asI .i64 v1 fun n1 => getV e 2 fun v2 => asI .i64 v2 fun n2 => getV e 7 fun v3 => asS v3 fun p1 n3 c1 => K { s with x_offset := n1, x_length := n2, x_out := ⟨p1, n3, c1⟩ }
  ok := by
    intro e s K h0
    obtain ⟨w1, g1, h1⟩ := getV_elim h0
    obtain ⟨n1, rfl, h2⟩ := asI_elim h1
    obtain ⟨w2, g2, h3⟩ := getV_elim h2
    obtain ⟨n2, rfl, h4⟩ := asI_elim h3
    obtain ⟨w3, g3, h5⟩ := getV_elim h4
    obtain ⟨p1, n3, c1, rfl, h6⟩ := asS_elim h5
    exact ⟨_, ⟨g1, g2, g3, trivial⟩, h6⟩

def p3 : Pt St where
  env s := [(1, (.int .i64 s.x_offset)), (7, (.slice s.x_out.p s.x_out.n s.x_out.c)), (10, (.int .i64 s.t10)), (11, (.int .i64 s.t11))]
  fin e s K := getV e 1 fun v1 => asI .i64 v1 fun n1 => getV e 7 fun v2 => asS v2 fun p1 n2 c1 => getV e 10 fun v3 => asI .i64 v3 fun n3 => getV e 11 fun v4 => asI .i64 v4 fun n4 => K { s with x_offset := n1, x_out := ⟨p1, n2, c1⟩, t10 := n3, t11 := n4 }
  ok := by
    intro e s K h0
    obtain ⟨w1, g1, h1⟩ := getV_elim h0
    obtain ⟨n1, rfl, h2⟩ := asI_elim h1
    obtain ⟨w2, g2, h3⟩ := getV_elim h2
    obtain ⟨p1, n2, c1, rfl, h4⟩ := asS_elim h3
    obtain ⟨w3, g3, h5⟩ := getV_elim h4
    obtain ⟨n3, rfl, h6⟩ := asI_elim h5
    obtain ⟨w4, g4, h7⟩ := getV_elim h6
    obtain ⟨n4, rfl, h8⟩ := asI_elim h7
    exact ⟨_, ⟨g1, g2, g3, g4, trivial⟩, h8⟩

def p4 : Pt St where
  env s := [(7, (.slice s.x_out.p s.x_out.n s.x_out.c))]
  fin e s K := getV e 7 fun v1 => asS v1 fun p1 n1 c1 => K { s with x_out := ⟨p1, n1, c1⟩ }
  ok := by
    intro e s K h0
    obtain ⟨w1, g1, h1⟩ := getV_elim h0
    obtain ⟨p1, n1, c1, rfl, h2⟩ := asS_elim h1
    exact ⟨_, ⟨g1, trivial⟩, h2⟩

def p5 : Pt St where
  env s := [(1, (.int .i64 s.x_offset)), (7, (.slice s.x_out.p s.x_out.n s.x_out.c)), (10, (.int .i64 s.t10)), (11, (.int .i64 s.t11)), (12, (.bool s.t12))]
  fin e s K := getV e 1 fun v1 => asI .i64 v1 fun n1 => getV e 7 fun v2 => asS v2 fun p1 n2 c1 => getV e 10 fun v3 => asI .i64 v3 fun n3 => getV e 11 fun v4 => asI .i64 v4 fun n4 => getV e 12 fun v5 => asB v5 fun b1 => K { s with x_offset := n1, x_out := ⟨p1, n2, c1⟩, t10 := n3, t11 := n4, t12 := b1 }
  ok := by
    intro e s K h0
    obtain ⟨w1, g1, h1⟩ := getV_elim h0
    obtain ⟨n1, rfl, h2⟩ := asI_elim h1
    obtain ⟨w2, g2, h3⟩ := getV_elim h2
    obtain ⟨p1, n2, c1, rfl, h4⟩ := asS_elim h3
    obtain ⟨w3, g3, h5⟩ := getV_elim h4
    obtain ⟨n3, rfl, h6⟩ := asI_elim h5
    obtain ⟨w4, g4, h7⟩ := getV_elim h6
    obtain ⟨n4, rfl, h8⟩ := asI_elim h7
    obtain ⟨w5, g5, h9⟩ := getV_elim h8
    obtain ⟨b1, rfl, h10⟩ := asB_elim h9
    exact ⟨_, ⟨g1, g2, g3, g4, g5, trivial⟩, h10⟩

def r0 (s : St) (h : Heap) (Q : St → Heap → Prop) : Prop :=
  Q s h

def r1 (s : St) (h : Heap) (Q : St → Heap → Prop) : Prop :=
  c_laws_join s.x_text ⟨none, 0, 0⟩ h fun w2 h1 =>
  Q { s with x_out := w2 } h1

def r2 (s : St) (h : Heap) (Q : St → Heap → Prop) : Prop :=
  Q { s with t10 := s.x_length, t11 := (0 : Int) } h

def r3 (s : St) (h : Heap) (Q : St → Heap → Prop) : Prop :=
  Q { s with t12 := (decide (s.t11 < s.t10)) } h

def r4 (s : St) (h : Heap) (Q : St → Heap → Prop) : Prop :=
  0 ≤ (IntKind.wrap .i64 (((s.x_out.n : Nat) : Int) - s.x_offset)) ∧ (IntKind.wrap .i64 (((s.x_out.n : Nat) : Int) - s.x_offset)) < ((s.x_out.n : Nat) : Int) ∧
  ptrE s.x_out.p fun a1 =>
  ∃ v2 : Int, hcell h (Addr.add a1 (Int.toNat (IntKind.wrap .i64 (((s.x_out.n : Nat) : Int) - s.x_offset)) * 1)) = some (.int .u8 v2) ∧
  withH (hnew h [(.int .u8 v2)] 5) fun h3 =>
  appendT Pg 5 s.x_out.p s.x_out.n s.x_out.c (.slice (some ⟨Array.size h, 0, none⟩) 1 1) 1 h3 fun p4 n5 c6 h7 =>
  Q { s with x_out := ⟨p4, n5, c6⟩ } h7

def r5 (s : St) (h : Heap) (Q : St → Heap → Prop) : Prop :=
  Q { s with t11 := (IntKind.wrap .i64 (s.t11 + (1 : Int))) } h

def r6 (s : St) (h : Heap) (Q : St → Heap → Prop) : Prop :=
  Q { s with t6 := s.x_out } h

def k5 : Stm St := (.seq (.block 1 (.reg r4)) (.reg r5))
def k4 : Stm St := (.seq (.cond (fun s => s.t12) .skip (.exit 0)) k5)
def k3 : Stm St := (.seq (.reg r3) k4)
def k2 : Stm St := (.block 0 (.loop k3))
def k1 : Stm St := (.seq (.seq (.reg r2) k2) (.seq (.reg r6) .ret))
def k0 : Stm St := (.seq (.reg r1) k1)

def stm : Stm St := (.seq (.reg r0) k0)

def ex : Ex → Pt St := fun _ => p0

set_option maxRecDepth 100000 in
theorem sim : Sim Pg 25 p1 (Tryd.f22.body.getD .skip) stm p0 ex :=
  (Sim.seq (Sim.reg (A := p1) (B := p1) (fun _ _ _ => by kernel_rfl))
  (Sim.seq (Sim.reg (A := p1) (B := p2) (fun _ _ _ => by kernel_rfl))
  (Sim.seq (Sim.seq (Sim.reg (A := p2) (B := p3) (fun _ _ _ => by kernel_rfl))
  (Sim.block (B := p4) (Sim.loop (A := p3) (Sim.seq (Sim.reg (A := p3) (B := p5) (fun _ _ _ => by kernel_rfl))
  (Sim.seq (Sim.cond (A := p5) (fun s => s.t12) (fun _ => rfl) (Sim.weak (B := p5) (C := p3) (Sim.skip (A := p5)) (fun _ => ⟨rfl, rfl, rfl, rfl, trivial⟩))
  (Sim.exit (A := p5) (fun _ => ⟨rfl, trivial⟩)))
  (Sim.seq (Sim.block (B := p3) (Sim.reg (A := p3) (B := p3) (fun _ _ _ => by kernel_rfl)))
  (Sim.reg (A := p3) (B := p3) (fun _ _ _ => by kernel_rfl))))))))
  (Sim.seq (Sim.reg (A := p4) (B := p0) (fun _ _ _ => by kernel_rfl))
  (Sim.ret (A := p0) (E := ex) (fun _ => ⟨rfl, trivial⟩))))))

def init (x_text : Sl) (x_offset : Int) (x_length : Int) : St := { x_text := x_text, x_offset := x_offset, x_length := x_length, t6 := Sl.nil, x_out := Sl.nil, t10 := 0, t11 := 0, t12 := false }

/-- What is left of the results. -/
def res (K : Sl → Heap → Prop) (s : St) (h1 : Heap) : Prop := K s.t6 h1

/-- The call of 'pub-pemmican/laws.copied'. -/
theorem calls (x_text : Sl) (x_offset : Int) (x_length : Int) (h : Heap) (K : Sl → Heap → Prop)
    (H : stm (init x_text x_offset x_length) h (endK (res K))) : c_laws_copied x_text x_offset x_length h K := by
  have hc : CallsH Pg 22 #[(.slice x_text.p x_text.n x_text.c), (.int .i64 x_offset), (.int .i64 x_length)] h fun v h1 => asS v fun p1 n1 c1 => K ⟨p1, n1, c1⟩ h1 :=
    callsH_of_sim (R := p0) (fn := Tryd.f22) (c := Tryd.f22.body.getD .skip) Tryd.func22 rfl Tryd.ntmps22 Tryd.call22 sim (init x_text x_offset x_length) (⟨rfl, rfl, rfl, trivial⟩) (Nat.le_of_ble_eq_true rfl) (fun _ => ⟨rfl, trivial⟩) rfl
      (res K) (fun _ _ => by kernel_rfl) H
  refine hc.mono ?_
  intro v hp H
  obtain ⟨p1, n1, c1, rfl, h1⟩ := asS_elim H
  exact ⟨_, _, _, rfl, h1⟩

end M_laws_copied

end Go.Proofs.YtibleenkgmkpmaaDoor

namespace Go.Proofs.YtibleenkgmkpmaaDoor
open Go Go.Vc Go.Proofs

namespace M_laws_uvarint

structure St where
  x_n : Int
  t2 : Sl
  x_out : Sl

def p0 : Pt St where
  env s := [(2, (.slice s.t2.p s.t2.n s.t2.c))]
  fin e s K := getV e 2 fun v1 => asS v1 fun p1 n1 c1 => K { s with t2 := ⟨p1, n1, c1⟩ }
  ok := by
    intro e s K h0
    obtain ⟨w1, g1, h1⟩ := getV_elim h0
    obtain ⟨p1, n1, c1, rfl, h2⟩ := asS_elim h1
    exact ⟨_, ⟨g1, trivial⟩, h2⟩

def p1 : Pt St where
  env s := [(0, (.int .i64 s.x_n))]
  fin e s K := getV e 0 fun v1 => asI .i64 v1 fun n1 => K { s with x_n := n1 }
  ok := by
    intro e s K h0
    obtain ⟨w1, g1, h1⟩ := getV_elim h0
    obtain ⟨n1, rfl, h2⟩ := asI_elim h1
    exact ⟨_, ⟨g1, trivial⟩, h2⟩

def p2 : Pt St where
  env s := [(0, (.int .i64 s.x_n)), (3, (.slice s.x_out.p s.x_out.n s.x_out.c))]
  fin e s K := getV e 0 fun v1 => asI .i64 v1 fun n1 => getV e 3 fun v2 => asS v2 fun p1 n2 c1 => K { s with x_n := n1, x_out := ⟨p1, n2, c1⟩ }
  ok := by
    intro e s K h0
    obtain ⟨w1, g1, h1⟩ := getV_elim h0
    obtain ⟨n1, rfl, h2⟩ := asI_elim h1
    obtain ⟨w2, g2, h3⟩ := getV_elim h2
    obtain ⟨p1, n2, c1, rfl, h4⟩ := asS_elim h3
    exact ⟨_, ⟨g1, g2, trivial⟩, h4⟩

def r0 (s : St) (h : Heap) (Q : St → Heap → Prop) : Prop :=
  Q s h

def r1 (s : St) (h : Heap) (Q : St → Heap → Prop) : Prop :=
  Q { s with x_out := ⟨none, 0, 0⟩ } h

def r2 (s : St) (h : Heap) (Q : Bool → St → Heap → Prop) : Prop :=
  Q (decide (s.x_n ≥ (128 : Int))) s h

def r3 (s : St) (h : Heap) (Q : St → Heap → Prop) : Prop :=
  withH (hnew h [(.int .u8 (bOr .u8 (IntKind.wrap .u8 s.x_n) (128 : Int)))] 5) fun h1 =>
  appendT Pg 5 s.x_out.p s.x_out.n s.x_out.c (.slice (some ⟨Array.size h, 0, none⟩) 1 1) 1 h1 fun p2 n3 c4 h5 =>
  Q { s with x_out := ⟨p2, n3, c4⟩ } h5

def r4 (s : St) (h : Heap) (Q : St → Heap → Prop) : Prop :=
  Q { s with x_n := (Int.fdiv s.x_n (2 ^ (7 : Nat))) } h

def r5 (s : St) (h : Heap) (Q : St → Heap → Prop) : Prop :=
  withH (hnew h [(.int .u8 (IntKind.wrap .u8 s.x_n))] 5) fun h1 =>
  appendT Pg 5 s.x_out.p s.x_out.n s.x_out.c (.slice (some ⟨Array.size h, 0, none⟩) 1 1) 1 h1 fun p2 n3 c4 h5 =>
  Q { s with t2 := ⟨p2, n3, c4⟩ } h5

def k3 : Stm St := (.block 1 (.seq (.reg r3) (.reg r4)))
def k2 : Stm St := (.seq (.test r2 .skip (.exit 0)) k3)
def k1 : Stm St := (.seq (.block 0 (.loop k2)) (.seq (.reg r5) .ret))
def k0 : Stm St := (.seq (.reg r1) k1)

def stm : Stm St := (.seq (.reg r0) k0)

def ex : Ex → Pt St := fun _ => p0

set_option maxRecDepth 100000 in
theorem sim : Sim Pg 19 p1 (Tryd.f30.body.getD .skip) stm p0 ex :=
  (Sim.seq (Sim.reg (A := p1) (B := p1) (fun _ _ _ => by kernel_rfl))
  (Sim.seq (Sim.reg (A := p1) (B := p2) (fun _ _ _ => by kernel_rfl))
  (Sim.seq (Sim.block (B := p2) (Sim.loop (A := p2) (Sim.seq (Sim.test (A := p2) (B := p2) (fun _ _ _ => by kernel_rfl) (Sim.skip (A := p2))
  (Sim.exit (A := p2) (fun _ => ⟨rfl, rfl, trivial⟩)))
  (Sim.block (B := p2) (Sim.seq (Sim.reg (A := p2) (B := p2) (fun _ _ _ => by kernel_rfl))
  (Sim.reg (A := p2) (B := p2) (fun _ _ _ => by kernel_rfl)))))))
  (Sim.seq (Sim.reg (A := p2) (B := p0) (fun _ _ _ => by kernel_rfl))
  (Sim.ret (A := p0) (E := ex) (fun _ => ⟨rfl, trivial⟩))))))

def init (x_n : Int) : St := { x_n := x_n, t2 := Sl.nil, x_out := Sl.nil }

/-- What is left of the results. -/
def res (K : Sl → Heap → Prop) (s : St) (h1 : Heap) : Prop := K s.t2 h1

/-- The call of 'pub-pemmican/laws.uvarint'. -/
theorem calls (x_n : Int) (h : Heap) (K : Sl → Heap → Prop)
    (H : stm (init x_n) h (endK (res K))) : c_laws_uvarint x_n h K := by
  have hc : CallsH Pg 30 #[(.int .i64 x_n)] h fun v h1 => asS v fun p1 n1 c1 => K ⟨p1, n1, c1⟩ h1 :=
    callsH_of_sim (R := p0) (fn := Tryd.f30) (c := Tryd.f30.body.getD .skip) Tryd.func30 rfl Tryd.ntmps30 Tryd.call30 sim (init x_n) (⟨rfl, trivial⟩) (Nat.le_of_ble_eq_true rfl) (fun _ => ⟨rfl, trivial⟩) rfl
      (res K) (fun _ _ => by kernel_rfl) H
  refine hc.mono ?_
  intro v hp H
  obtain ⟨p1, n1, c1, rfl, h1⟩ := asS_elim H
  exact ⟨_, _, _, rfl, h1⟩

end M_laws_uvarint

end Go.Proofs.YtibleenkgmkpmaaDoor

namespace Go.Proofs.YtibleenkgmkpmaaDoor
open Go Go.Vc Go.Proofs

namespace M_laws_block

structure St where
  x_n : Int
  x_parts : Sl
  t4 : Sl
  x_out : Sl
  x_p : Sl
  t10 : Sl
  t11 : Int
  t12 : Int
  t13 : Bool

def p0 : Pt St where
  env s := [(4, (.slice s.t4.p s.t4.n s.t4.c))]
  fin e s K := getV e 4 fun v1 => asS v1 fun p1 n1 c1 => K { s with t4 := ⟨p1, n1, c1⟩ }
  ok := by
    intro e s K h0
    obtain ⟨w1, g1, h1⟩ := getV_elim h0
    obtain ⟨p1, n1, c1, rfl, h2⟩ := asS_elim h1
    exact ⟨_, ⟨g1, trivial⟩, h2⟩

def p1 : Pt St where
  env s := [(0, (.int .i64 s.x_n)), (1, (.slice s.x_parts.p s.x_parts.n s.x_parts.c))]
  fin e s K := getV e 0 fun v1 => asI .i64 v1 fun n1 => getV e 1 fun v2 => asS v2 fun p1 n2 c1 => K { s with x_n := n1, x_parts := ⟨p1, n2, c1⟩ }
  ok := by
    intro e s K h0
    obtain ⟨w1, g1, h1⟩ := getV_elim h0
    obtain ⟨n1, rfl, h2⟩ := asI_elim h1
    obtain ⟨w2, g2, h3⟩ := getV_elim h2
    obtain ⟨p1, n2, c1, rfl, h4⟩ := asS_elim h3
    exact ⟨_, ⟨g1, g2, trivial⟩, h4⟩

def p2 : Pt St where
  env s := [(1, (.slice s.x_parts.p s.x_parts.n s.x_parts.c)), (5, (.slice s.x_out.p s.x_out.n s.x_out.c))]
  fin e s K := getV e 1 fun v1 => asS v1 fun p1 n1 c1 => getV e 5 fun v2 => asS v2 fun p2 n2 c2 => K { s with x_parts := ⟨p1, n1, c1⟩, x_out := ⟨p2, n2, c2⟩ }
  ok := by
    intro e s K h0
    obtain ⟨w1, g1, h1⟩ := getV_elim h0
    obtain ⟨p1, n1, c1, rfl, h2⟩ := asS_elim h1
    obtain ⟨w2, g2, h3⟩ := getV_elim h2
    obtain ⟨p2, n2, c2, rfl, h4⟩ := asS_elim h3
    exact ⟨_, ⟨g1, g2, trivial⟩, h4⟩

def p3 : Pt St where
  env s := [(5, (.slice s.x_out.p s.x_out.n s.x_out.c)), (10, (.slice s.t10.p s.t10.n s.t10.c)), (11, (.int .i64 s.t11)), (12, (.int .i64 s.t12))]
  fin e s K := getV e 5 fun v1 => asS v1 fun p1 n1 c1 => getV e 10 fun v2 => asS v2 fun p2 n2 c2 => getV e 11 fun v3 => asI .i64 v3 fun n3 => getV e 12 fun v4 => asI .i64 v4 fun n4 => K { s with x_out := ⟨p1, n1, c1⟩, t10 := ⟨p2, n2, c2⟩, t11 := n3, t12 := n4 }
  ok := by
    intro e s K h0
    obtain ⟨w1, g1, h1⟩ := getV_elim h0
    obtain ⟨p1, n1, c1, rfl, h2⟩ := asS_elim h1
    obtain ⟨w2, g2, h3⟩ := getV_elim h2
    obtain ⟨p2, n2, c2, rfl, h4⟩ := asS_elim h3
    obtain ⟨w3, g3, h5⟩ := getV_elim h4
    obtain ⟨n3, rfl, h6⟩ := asI_elim h5
    obtain ⟨w4, g4, h7⟩ := getV_elim h6
    obtain ⟨n4, rfl, h8⟩ := asI_elim h7
    exact ⟨_, ⟨g1, g2, g3, g4, trivial⟩, h8⟩

def p4 : Pt St where
  env s := [(5, (.slice s.x_out.p s.x_out.n s.x_out.c))]
  fin e s K := getV e 5 fun v1 => asS v1 fun p1 n1 c1 => K { s with x_out := ⟨p1, n1, c1⟩ }
  ok := by
    intro e s K h0
    obtain ⟨w1, g1, h1⟩ := getV_elim h0
    obtain ⟨p1, n1, c1, rfl, h2⟩ := asS_elim h1
    exact ⟨_, ⟨g1, trivial⟩, h2⟩

def p5 : Pt St where
  env s := [(5, (.slice s.x_out.p s.x_out.n s.x_out.c)), (10, (.slice s.t10.p s.t10.n s.t10.c)), (11, (.int .i64 s.t11)), (12, (.int .i64 s.t12)), (13, (.bool s.t13))]
  fin e s K := getV e 5 fun v1 => asS v1 fun p1 n1 c1 => getV e 10 fun v2 => asS v2 fun p2 n2 c2 => getV e 11 fun v3 => asI .i64 v3 fun n3 => getV e 12 fun v4 => asI .i64 v4 fun n4 => getV e 13 fun v5 => asB v5 fun b1 => K { s with x_out := ⟨p1, n1, c1⟩, t10 := ⟨p2, n2, c2⟩, t11 := n3, t12 := n4, t13 := b1 }
  ok := by
    intro e s K h0
    obtain ⟨w1, g1, h1⟩ := getV_elim h0
    obtain ⟨p1, n1, c1, rfl, h2⟩ := asS_elim h1
    obtain ⟨w2, g2, h3⟩ := getV_elim h2
    obtain ⟨p2, n2, c2, rfl, h4⟩ := asS_elim h3
    obtain ⟨w3, g3, h5⟩ := getV_elim h4
    obtain ⟨n3, rfl, h6⟩ := asI_elim h5
    obtain ⟨w4, g4, h7⟩ := getV_elim h6
    obtain ⟨n4, rfl, h8⟩ := asI_elim h7
    obtain ⟨w5, g5, h9⟩ := getV_elim h8
    obtain ⟨b1, rfl, h10⟩ := asB_elim h9
    exact ⟨_, ⟨g1, g2, g3, g4, g5, trivial⟩, h10⟩

def p6 : Pt St where
  env s := [(5, (.slice s.x_out.p s.x_out.n s.x_out.c)), (7, (.slice s.x_p.p s.x_p.n s.x_p.c)), (10, (.slice s.t10.p s.t10.n s.t10.c)), (11, (.int .i64 s.t11)), (12, (.int .i64 s.t12))]
  fin e s K := getV e 5 fun v1 => asS v1 fun p1 n1 c1 => getV e 7 fun v2 => asS v2 fun p2 n2 c2 => getV e 10 fun v3 => asS v3 fun p3 n3 c3 => getV e 11 fun v4 => asI .i64 v4 fun n4 => getV e 12 fun v5 => asI .i64 v5 fun n5 => K { s with x_out := ⟨p1, n1, c1⟩, x_p := ⟨p2, n2, c2⟩, t10 := ⟨p3, n3, c3⟩, t11 := n4, t12 := n5 }
  ok := by
    intro e s K h0
    obtain ⟨w1, g1, h1⟩ := getV_elim h0
    obtain ⟨p1, n1, c1, rfl, h2⟩ := asS_elim h1
    obtain ⟨w2, g2, h3⟩ := getV_elim h2
    obtain ⟨p2, n2, c2, rfl, h4⟩ := asS_elim h3
    obtain ⟨w3, g3, h5⟩ := getV_elim h4
    obtain ⟨p3, n3, c3, rfl, h6⟩ := asS_elim h5
    obtain ⟨w4, g4, h7⟩ := getV_elim h6
    obtain ⟨n4, rfl, h8⟩ := asI_elim h7
    obtain ⟨w5, g5, h9⟩ := getV_elim h8
    obtain ⟨n5, rfl, h10⟩ := asI_elim h9
    exact ⟨_, ⟨g1, g2, g3, g4, g5, trivial⟩, h10⟩

def r0 (s : St) (h : Heap) (Q : St → Heap → Prop) : Prop :=
  Q s h

def r1 (s : St) (h : Heap) (Q : St → Heap → Prop) : Prop :=
  c_laws_uvarint s.x_n h fun w2 h1 =>
  Q { s with x_out := w2 } h1

def r2 (s : St) (h : Heap) (Q : St → Heap → Prop) : Prop :=
  Q { s with t10 := s.x_parts, t11 := ((s.x_parts.n : Nat) : Int), t12 := (0 : Int) } h

def r3 (s : St) (h : Heap) (Q : St → Heap → Prop) : Prop :=
  Q { s with t13 := (decide (s.t12 < s.t11)) } h

def r4 (s : St) (h : Heap) (Q : St → Heap → Prop) : Prop :=
  0 ≤ s.t12 ∧ s.t12 < ((s.t10.n : Nat) : Int) ∧
  ptrE s.t10.p fun a1 =>
  ∃ (p2 : Option Addr) (n3 c4 : Nat), hcell h (Addr.add a1 (Int.toNat s.t12 * 1)) = some (.slice p2 n3 c4) ∧
  Q { s with x_p := ⟨p2, n3, c4⟩ } h

def r5 (s : St) (h : Heap) (Q : St → Heap → Prop) : Prop :=
  appendT Pg 5 s.x_out.p s.x_out.n s.x_out.c (.slice s.x_p.p s.x_p.n s.x_p.c) s.x_p.n h fun p1 n2 c3 h4 =>
  Q { s with x_out := ⟨p1, n2, c3⟩ } h4

def r6 (s : St) (h : Heap) (Q : St → Heap → Prop) : Prop :=
  Q { s with t12 := (IntKind.wrap .i64 (s.t12 + (1 : Int))) } h

def r7 (s : St) (h : Heap) (Q : St → Heap → Prop) : Prop :=
  Q { s with t4 := s.x_out } h

def k5 : Stm St := (.seq (.block 1 (.seq (.reg r4) (.reg r5))) (.reg r6))
def k4 : Stm St := (.seq (.cond (fun s => s.t13) .skip (.exit 0)) k5)
def k3 : Stm St := (.seq (.reg r3) k4)
def k2 : Stm St := (.block 0 (.loop k3))
def k1 : Stm St := (.seq (.seq (.reg r2) k2) (.seq (.reg r7) .ret))
def k0 : Stm St := (.seq (.reg r1) k1)

def stm : Stm St := (.seq (.reg r0) k0)

def ex : Ex → Pt St := fun _ => p0

set_option maxRecDepth 100000 in
theorem sim : Sim Pg 21 p1 (Tryd.f23.body.getD .skip) stm p0 ex :=
  (Sim.seq (Sim.reg (A := p1) (B := p1) (fun _ _ _ => by kernel_rfl))
  (Sim.seq (Sim.reg (A := p1) (B := p2) (fun _ _ _ => by kernel_rfl))
  (Sim.seq (Sim.seq (Sim.reg (A := p2) (B := p3) (fun _ _ _ => by kernel_rfl))
  (Sim.block (B := p4) (Sim.loop (A := p3) (Sim.seq (Sim.reg (A := p3) (B := p5) (fun _ _ _ => by kernel_rfl))
  (Sim.seq (Sim.cond (A := p5) (fun s => s.t13) (fun _ => rfl) (Sim.weak (B := p5) (C := p3) (Sim.skip (A := p5)) (fun _ => ⟨rfl, rfl, rfl, rfl, trivial⟩))
  (Sim.exit (A := p5) (fun _ => ⟨rfl, trivial⟩)))
  (Sim.seq (Sim.block (B := p3) (Sim.seq (Sim.reg (A := p3) (B := p6) (fun _ _ _ => by kernel_rfl))
  (Sim.reg (A := p6) (B := p3) (fun _ _ _ => by kernel_rfl))))
  (Sim.reg (A := p3) (B := p3) (fun _ _ _ => by kernel_rfl))))))))
  (Sim.seq (Sim.reg (A := p4) (B := p0) (fun _ _ _ => by kernel_rfl))
  (Sim.ret (A := p0) (E := ex) (fun _ => ⟨rfl, trivial⟩))))))

def init (x_n : Int) (x_parts : Sl) : St := { x_n := x_n, x_parts := x_parts, t4 := Sl.nil, x_out := Sl.nil, x_p := Sl.nil, t10 := Sl.nil, t11 := 0, t12 := 0, t13 := false }

/-- What is left of the results. -/
def res (K : Sl → Heap → Prop) (s : St) (h1 : Heap) : Prop := K s.t4 h1

/-- The call of 'pub-pemmican/laws.block'. -/
theorem calls (x_n : Int) (x_parts : Sl) (h : Heap) (K : Sl → Heap → Prop)
    (H : stm (init x_n x_parts) h (endK (res K))) : c_laws_block x_n x_parts h K := by
  have hc : CallsH Pg 23 #[(.int .i64 x_n), (.slice x_parts.p x_parts.n x_parts.c)] h fun v h1 => asS v fun p1 n1 c1 => K ⟨p1, n1, c1⟩ h1 :=
    callsH_of_sim (R := p0) (fn := Tryd.f23) (c := Tryd.f23.body.getD .skip) Tryd.func23 rfl Tryd.ntmps23 Tryd.call23 sim (init x_n x_parts) (⟨rfl, rfl, trivial⟩) (Nat.le_of_ble_eq_true rfl) (fun _ => ⟨rfl, trivial⟩) rfl
      (res K) (fun _ _ => by kernel_rfl) H
  refine hc.mono ?_
  intro v hp H
  obtain ⟨p1, n1, c1, rfl, h1⟩ := asS_elim H
  exact ⟨_, _, _, rfl, h1⟩

end M_laws_block

end Go.Proofs.YtibleenkgmkpmaaDoor

namespace Go.Proofs.YtibleenkgmkpmaaDoor
open Go Go.Vc Go.Proofs

namespace M_spec_SnappyDecode

structure St where
  x_src : Sl
  x_out : Sl
  x_ok : Int

def p0 : Pt St where
  env s := [(2, (.slice s.x_out.p s.x_out.n s.x_out.c)), (3, (.int .i64 s.x_ok))]
  fin e s K := getV e 2 fun v1 => asS v1 fun p1 n1 c1 => getV e 3 fun v2 => asI .i64 v2 fun n2 => K { s with x_out := ⟨p1, n1, c1⟩, x_ok := n2 }
  ok := by
    intro e s K h0
    obtain ⟨w1, g1, h1⟩ := getV_elim h0
    obtain ⟨p1, n1, c1, rfl, h2⟩ := asS_elim h1
    obtain ⟨w2, g2, h3⟩ := getV_elim h2
    obtain ⟨n2, rfl, h4⟩ := asI_elim h3
    exact ⟨_, ⟨g1, g2, trivial⟩, h4⟩

def p1 : Pt St where
  env s := [(0, (.slice s.x_src.p s.x_src.n s.x_src.c))]
  fin e s K := getV e 0 fun v1 => asS v1 fun p1 n1 c1 => K { s with x_src := ⟨p1, n1, c1⟩ }
  ok := by
    intro e s K h0
    obtain ⟨w1, g1, h1⟩ := getV_elim h0
    obtain ⟨p1, n1, c1, rfl, h2⟩ := asS_elim h1
    exact ⟨_, ⟨g1, trivial⟩, h2⟩

def r0 (s : St) (h : Heap) (Q : St → Heap → Prop) : Prop :=
  Q s h

def r1 (s : St) (h : Heap) (Q : St → Heap → Prop) : Prop :=
  withH (hnew h [(.slice none 0 0), (.slice none 0 0), (.int .i64 (0 : Int)), (.bool false)] 65) fun h1 =>
  c_spec_decoded s.x_src (some ⟨Array.size h, 0, none⟩) false h1 fun w3 r4 h2 =>
  Q { s with x_out := w3, x_ok := r4 } h2

def stm : Stm St := (.seq (.reg r0) (.seq (.reg r1) .ret))

def ex : Ex → Pt St := fun _ => p0

set_option maxRecDepth 100000 in
theorem sim : Sim Pg 10 p1 (Tryd.f26.body.getD .skip) stm p0 ex :=
  (Sim.seq (Sim.reg (A := p1) (B := p1) (fun _ _ _ => by kernel_rfl))
  (Sim.seq (Sim.reg (A := p1) (B := p0) (fun _ _ _ => by kernel_rfl))
  (Sim.ret (A := p0) (E := ex) (fun _ => ⟨rfl, rfl, trivial⟩))))

def init (x_src : Sl) : St := { x_src := x_src, x_out := Sl.nil, x_ok := 0 }

/-- What is left of the results. -/
def res (K : Sl → Int → Heap → Prop) (s : St) (h1 : Heap) : Prop := K s.x_out s.x_ok h1

/-- The call of 'pub-pemmican/spec.SnappyDecode'. -/
theorem calls (x_src : Sl) (h : Heap) (K : Sl → Int → Heap → Prop)
    (H : stm (init x_src) h (endK (res K))) : c_spec_SnappyDecode x_src h K := by
  have hc : CallsH Pg 26 #[(.slice x_src.p x_src.n x_src.c)] h fun v h1 => asT v fun l1 => asC l1 fun v1 l2 => asS v1 fun p1 n1 c1 => asC l2 fun v2 l3 => asI .i64 v2 fun n2 => asN l3 (K ⟨p1, n1, c1⟩ n2 h1) :=
    callsH_of_sim (R := p0) (fn := Tryd.f26) (c := Tryd.f26.body.getD .skip) Tryd.func26 rfl Tryd.ntmps26 Tryd.call26 sim (init x_src) (⟨rfl, trivial⟩) (Nat.le_of_ble_eq_true rfl) (fun _ => ⟨rfl, rfl, trivial⟩) rfl
      (res K) (fun _ _ => by kernel_rfl) H
  refine hc.mono ?_
  intro v hp H
  obtain ⟨l1, rfl, h1⟩ := asT_elim H
  obtain ⟨v1, l2, rfl, h2⟩ := asC_elim h1
  obtain ⟨p1, n1, c1, rfl, h3⟩ := asS_elim h2
  obtain ⟨v2, l3, rfl, h4⟩ := asC_elim h3
  obtain ⟨n2, rfl, h5⟩ := asI_elim h4
  obtain ⟨rfl, h6⟩ := asN_elim h5
  exact ⟨_, _, _, _, rfl, h6⟩

end M_spec_SnappyDecode

end Go.Proofs.YtibleenkgmkpmaaDoor

namespace Go.Proofs.YtibleenkgmkpmaaDoor
open Go Go.Vc Go.Proofs

namespace M_laws_FnEmitCopy

structure St where
  x_text : Sl
  x_offset : Int
  x_length : Int
  x_again : Bool
  t8 : Bool
  x_want : Sl
  x_b : Sl
  x_out : Sl
  x_told : Int
  x_back : Sl
  x_ok : Bool

def p0 : Pt St where
  env s := [(8, (.bool s.t8))]
  fin e s K := getV e 8 fun v1 => asB v1 fun b1 => K { s with t8 := b1 }
  ok := by
    intro e s K h0
    obtain ⟨w1, g1, h1⟩ := getV_elim h0
    obtain ⟨b1, rfl, h2⟩ := asB_elim h1
    exact ⟨_, ⟨g1, trivial⟩, h2⟩

def p1 : Pt St where
  env s := [(0, (.slice s.x_text.p s.x_text.n s.x_text.c)), (1, (.int .i64 s.x_offset)), (2, (.int .i64 s.x_length)), (3, (.bool s.x_again))]
  fin e s K := getV e 0 fun v1 => asS v1 fun p1 n1 c1 => getV e 1 fun v2 => asI .i64 v2 fun n2 => getV e 2 fun v3 => asI .i64 v3 fun n3 => getV e 3 fun v4 => asB v4 fun b1 => K { s with x_text := ⟨p1, n1, c1⟩, x_offset := n2, x_length := n3, x_again := b1 }
  ok := by
    intro e s K h0
    obtain ⟨w1, g1, h1⟩ := getV_elim h0
    obtain ⟨p1, n1, c1, rfl, h2⟩ := asS_elim h1
    obtain ⟨w2, g2, h3⟩ := getV_elim h2
    obtain ⟨n2, rfl, h4⟩ := asI_elim h3
    obtain ⟨w3, g3, h5⟩ := getV_elim h4
    obtain ⟨n3, rfl, h6⟩ := asI_elim h5
    obtain ⟨w4, g4, h7⟩ := getV_elim h6
    obtain ⟨b1, rfl, h8⟩ := asB_elim h7
    exact ⟨_, ⟨g1, g2, g3, g4, trivial⟩, h8⟩

def p2 : Pt St where
  env s := [(0, (.slice s.x_text.p s.x_text.n s.x_text.c)), (1, (.int .i64 s.x_offset)), (2, (.int .i64 s.x_length)), (3, (.bool s.x_again)), (9, (.slice s.x_want.p s.x_want.n s.x_want.c))]
  fin e s K := getV e 0 fun v1 => asS v1 fun p1 n1 c1 => getV e 1 fun v2 => asI .i64 v2 fun n2 => getV e 2 fun v3 => asI .i64 v3 fun n3 => getV e 3 fun v4 => asB v4 fun b1 => getV e 9 fun v5 => asS v5 fun p2 n4 c2 => K { s with x_text := ⟨p1, n1, c1⟩, x_offset := n2, x_length := n3, x_again := b1, x_want := ⟨p2, n4, c2⟩ }
  ok := by
    intro e s K h0
    obtain ⟨w1, g1, h1⟩ := getV_elim h0
    obtain ⟨p1, n1, c1, rfl, h2⟩ := asS_elim h1
    obtain ⟨w2, g2, h3⟩ := getV_elim h2
    obtain ⟨n2, rfl, h4⟩ := asI_elim h3
    obtain ⟨w3, g3, h5⟩ := getV_elim h4
    obtain ⟨n3, rfl, h6⟩ := asI_elim h5
    obtain ⟨w4, g4, h7⟩ := getV_elim h6
    obtain ⟨b1, rfl, h8⟩ := asB_elim h7
    obtain ⟨w5, g5, h9⟩ := getV_elim h8
    obtain ⟨p2, n4, c2, rfl, h10⟩ := asS_elim h9
    exact ⟨_, ⟨g1, g2, g3, g4, g5, trivial⟩, h10⟩

def p3 : Pt St where
  env s := [(3, (.bool s.x_again)), (9, (.slice s.x_want.p s.x_want.n s.x_want.c)), (10, (.slice s.x_b.p s.x_b.n s.x_b.c))]
  fin e s K := getV e 3 fun v1 => asB v1 fun b1 => getV e 9 fun v2 => asS v2 fun p1 n1 c1 => getV e 10 fun v3 => asS v3 fun p2 n2 c2 => K { s with x_again := b1, x_want := ⟨p1, n1, c1⟩, x_b := ⟨p2, n2, c2⟩ }
  ok := by
    intro e s K h0
    obtain ⟨w1, g1, h1⟩ := getV_elim h0
    obtain ⟨b1, rfl, h2⟩ := asB_elim h1
    obtain ⟨w2, g2, h3⟩ := getV_elim h2
    obtain ⟨p1, n1, c1, rfl, h4⟩ := asS_elim h3
    obtain ⟨w3, g3, h5⟩ := getV_elim h4
    obtain ⟨p2, n2, c2, rfl, h6⟩ := asS_elim h5
    exact ⟨_, ⟨g1, g2, g3, trivial⟩, h6⟩

def p4 : Pt St where
  env s := [(3, (.bool s.x_again)), (9, (.slice s.x_want.p s.x_want.n s.x_want.c)), (10, (.slice s.x_b.p s.x_b.n s.x_b.c)), (11, (.slice s.x_out.p s.x_out.n s.x_out.c)), (12, (.int .i64 s.x_told))]
  fin e s K := getV e 3 fun v1 => asB v1 fun b1 => getV e 9 fun v2 => asS v2 fun p1 n1 c1 => getV e 10 fun v3 => asS v3 fun p2 n2 c2 => getV e 11 fun v4 => asS v4 fun p3 n3 c3 => getV e 12 fun v5 => asI .i64 v5 fun n4 => K { s with x_again := b1, x_want := ⟨p1, n1, c1⟩, x_b := ⟨p2, n2, c2⟩, x_out := ⟨p3, n3, c3⟩, x_told := n4 }
  ok := by
    intro e s K h0
    obtain ⟨w1, g1, h1⟩ := getV_elim h0
    obtain ⟨b1, rfl, h2⟩ := asB_elim h1
    obtain ⟨w2, g2, h3⟩ := getV_elim h2
    obtain ⟨p1, n1, c1, rfl, h4⟩ := asS_elim h3
    obtain ⟨w3, g3, h5⟩ := getV_elim h4
    obtain ⟨p2, n2, c2, rfl, h6⟩ := asS_elim h5
    obtain ⟨w4, g4, h7⟩ := getV_elim h6
    obtain ⟨p3, n3, c3, rfl, h8⟩ := asS_elim h7
    obtain ⟨w5, g5, h9⟩ := getV_elim h8
    obtain ⟨n4, rfl, h10⟩ := asI_elim h9
    exact ⟨_, ⟨g1, g2, g3, g4, g5, trivial⟩, h10⟩

def p5 : Pt St where
  env s := [(9, (.slice s.x_want.p s.x_want.n s.x_want.c)), (10, (.slice s.x_b.p s.x_b.n s.x_b.c)), (11, (.slice s.x_out.p s.x_out.n s.x_out.c)), (12, (.int .i64 s.x_told))]
  fin e s K := getV e 9 fun v1 => asS v1 fun p1 n1 c1 => getV e 10 fun v2 => asS v2 fun p2 n2 c2 => getV e 11 fun v3 => asS v3 fun p3 n3 c3 => getV e 12 fun v4 => asI .i64 v4 fun n4 => K { s with x_want := ⟨p1, n1, c1⟩, x_b := ⟨p2, n2, c2⟩, x_out := ⟨p3, n3, c3⟩, x_told := n4 }
  ok := by
    intro e s K h0
    obtain ⟨w1, g1, h1⟩ := getV_elim h0
    obtain ⟨p1, n1, c1, rfl, h2⟩ := asS_elim h1
    obtain ⟨w2, g2, h3⟩ := getV_elim h2
    obtain ⟨p2, n2, c2, rfl, h4⟩ := asS_elim h3
    obtain ⟨w3, g3, h5⟩ := getV_elim h4
    obtain ⟨p3, n3, c3, rfl, h6⟩ := asS_elim h5
    obtain ⟨w4, g4, h7⟩ := getV_elim h6
    obtain ⟨n4, rfl, h8⟩ := asI_elim h7
    exact ⟨_, ⟨g1, g2, g3, g4, trivial⟩, h8⟩

def p6 : Pt St where
  env s := [(9, (.slice s.x_want.p s.x_want.n s.x_want.c)), (11, (.slice s.x_out.p s.x_out.n s.x_out.c)), (12, (.int .i64 s.x_told)), (13, (.slice s.x_back.p s.x_back.n s.x_back.c)), (14, (.bool s.x_ok))]
  fin e s K := getV e 9 fun v1 => asS v1 fun p1 n1 c1 => getV e 11 fun v2 => asS v2 fun p2 n2 c2 => getV e 12 fun v3 => asI .i64 v3 fun n3 => getV e 13 fun v4 => asS v4 fun p3 n4 c3 => getV e 14 fun v5 => asB v5 fun b1 => K { s with x_want := ⟨p1, n1, c1⟩, x_out := ⟨p2, n2, c2⟩, x_told := n3, x_back := ⟨p3, n4, c3⟩, x_ok := b1 }
  ok := by
    intro e s K h0
    obtain ⟨w1, g1, h1⟩ := getV_elim h0
    obtain ⟨p1, n1, c1, rfl, h2⟩ := asS_elim h1
    obtain ⟨w2, g2, h3⟩ := getV_elim h2
    obtain ⟨p2, n2, c2, rfl, h4⟩ := asS_elim h3
    obtain ⟨w3, g3, h5⟩ := getV_elim h4
    obtain ⟨n3, rfl, h6⟩ := asI_elim h5
    obtain ⟨w4, g4, h7⟩ := getV_elim h6
    obtain ⟨p3, n4, c3, rfl, h8⟩ := asS_elim h7
    obtain ⟨w5, g5, h9⟩ := getV_elim h8
    obtain ⟨b1, rfl, h10⟩ := asB_elim h9
    exact ⟨_, ⟨g1, g2, g3, g4, g5, trivial⟩, h10⟩

def r0 (s : St) (h : Heap) (Q : St → Heap → Prop) : Prop :=
  Q s h

def r1 (s : St) (h : Heap) (Q : Bool → St → Heap → Prop) : Prop :=
  Q (decide (((s.x_text.n : Nat) : Int) > (2147483647 : Int))) s h

def r2 (s : St) (h : Heap) (Q : St → Heap → Prop) : Prop :=
  Q { s with t8 := true } h

def r3 (s : St) (h : Heap) (Q : Bool → St → Heap → Prop) : Prop :=
  (if (decide (((s.x_text.n : Nat) : Int) < (1 : Int))) = false then
  ((if (decide (((s.x_text.n : Nat) : Int) > (65536 : Int))) = false then
  ((if (decide (s.x_offset < (1 : Int))) = false then
  ((if (decide (s.x_offset > ((s.x_text.n : Nat) : Int))) = false then
  ((if (decide (s.x_length < (4 : Int))) = false then
  (Q (decide (s.x_length > (131072 : Int))) s h)
  else
  (Q true s h)))
  else
  (Q true s h)))
  else
  (Q true s h)))
  else
  (Q true s h)))
  else
  (Q true s h))

def r4 (s : St) (h : Heap) (Q : St → Heap → Prop) : Prop :=
  Q { s with t8 := true } h

def r5 (s : St) (h : Heap) (Q : St → Heap → Prop) : Prop :=
  c_laws_copied s.x_text s.x_offset s.x_length h fun w2 h1 =>
  Q { s with x_want := w2 } h1

def r6 (s : St) (h : Heap) (Q : St → Heap → Prop) : Prop :=
  c_impl_S2EmitLiteral s.x_text h fun w2 h1 =>
  c_impl_S2EmitCopy s.x_offset s.x_length s.x_again h1 fun w4 h3 =>
  withH (hnew h3 [(.slice w2.p w2.n w2.c), (.slice w4.p w4.n w4.c)] 22) fun h5 =>
  c_laws_block ((s.x_want.n : Nat) : Int) ⟨(some ⟨Array.size h3, 0, none⟩), 2, 2⟩ h5 fun w7 h6 =>
  Q { s with x_b := w7 } h6

def r7 (s : St) (h : Heap) (Q : St → Heap → Prop) : Prop :=
  c_spec_S2Decode s.x_b h fun w2 r3 h1 =>
  Q { s with x_out := w2, x_told := r3 } h1

def r8 (s : St) (h : Heap) (Q : Bool → St → Heap → Prop) : Prop :=
  Q (!s.x_again) s h

def r9 (s : St) (h : Heap) (Q : St → Heap → Prop) : Prop :=
  c_spec_SnappyDecode s.x_b h fun w2 r3 h1 =>
  Q { s with x_out := w2, x_told := r3 } h1

def r10 (s : St) (h : Heap) (Q : St → Heap → Prop) : Prop :=
  c_impl_S2Decode s.x_b h fun w2 b3 h1 =>
  Q { s with x_back := w2, x_ok := b3 } h1

def r11 (s : St) (h : Heap) (Q : St → Heap → Prop) : Prop :=
  (if (s.x_told == (1 : Int)) = true then
  (c_laws_eq s.x_out s.x_want h fun b2 h1 =>
  (if b2 = true then
  ((if s.x_ok = true then
  (c_laws_eq s.x_back s.x_want h1 fun b4 h3 =>
  Q { s with t8 := b4 } h3)
  else
  (Q { s with t8 := false } h1)))
  else
  (Q { s with t8 := false } h1)))
  else
  (Q { s with t8 := false } h))

def k6 : Stm St := (.seq (.reg r10) (.seq (.reg r11) .ret))
def k5 : Stm St := (.seq (.test r8 (.reg r9) .skip) k6)
def k4 : Stm St := (.seq (.reg r7) k5)
def k3 : Stm St := (.seq (.reg r6) k4)
def k2 : Stm St := (.seq (.reg r5) k3)
def k1 : Stm St := (.seq (.test r3 (.seq (.reg r4) .ret) .skip) k2)
def k0 : Stm St := (.seq (.test r1 (.seq (.reg r2) .ret) .skip) k1)

def stm : Stm St := (.seq (.reg r0) k0)

def ex : Ex → Pt St := fun _ => p0

set_option maxRecDepth 100000 in
theorem sim : Sim Pg 90 p1 (Tryd.f7.body.getD .skip) stm p0 ex :=
  (Sim.seq (Sim.reg (A := p1) (B := p1) (fun _ _ _ => by kernel_rfl))
  (Sim.seq (Sim.test (A := p1) (B := p1) (fun _ _ _ => by kernel_rfl) (Sim.seq (Sim.reg (A := p1) (B := p0) (fun _ _ _ => by kernel_rfl))
  (Sim.ret (A := p0) (E := ex) (fun _ => ⟨rfl, trivial⟩)))
  (Sim.skip (A := p1)))
  (Sim.seq (Sim.test (A := p1) (B := p1) (fun _ _ _ => by kernel_rfl) (Sim.seq (Sim.reg (A := p1) (B := p0) (fun _ _ _ => by kernel_rfl))
  (Sim.ret (A := p0) (E := ex) (fun _ => ⟨rfl, trivial⟩)))
  (Sim.skip (A := p1)))
  (Sim.seq (Sim.reg (A := p1) (B := p2) (fun _ _ _ => by kernel_rfl))
  (Sim.seq (Sim.reg (A := p2) (B := p3) (fun _ _ _ => by kernel_rfl))
  (Sim.seq (Sim.reg (A := p3) (B := p4) (fun _ _ _ => by kernel_rfl))
  (Sim.seq (Sim.test (A := p4) (B := p5) (fun _ _ _ => by kernel_rfl) (Sim.reg (A := p5) (B := p5) (fun _ _ _ => by kernel_rfl))
  (Sim.skip (A := p5)))
  (Sim.seq (Sim.reg (A := p5) (B := p6) (fun _ _ _ => by kernel_rfl))
  (Sim.seq (Sim.reg (A := p6) (B := p0) (fun _ _ _ => by kernel_rfl))
  (Sim.ret (A := p0) (E := ex) (fun _ => ⟨rfl, trivial⟩)))))))))))

def init (x_text : Sl) (x_offset : Int) (x_length : Int) (x_again : Bool) : St := { x_text := x_text, x_offset := x_offset, x_length := x_length, x_again := x_again, t8 := false, x_want := Sl.nil, x_b := Sl.nil, x_out := Sl.nil, x_told := 0, x_back := Sl.nil, x_ok := false }

/-- What is left of the results. -/
def res (K : Bool → Heap → Prop) (s : St) (h1 : Heap) : Prop := K s.t8 h1

/-- The call of 'pub-pemmican/laws.FnEmitCopy'. -/
theorem calls (x_text : Sl) (x_offset : Int) (x_length : Int) (x_again : Bool) (h : Heap) (K : Bool → Heap → Prop)
    (H : stm (init x_text x_offset x_length x_again) h (endK (res K))) : c_laws_FnEmitCopy x_text x_offset x_length x_again h K := by
  have hc : CallsH Pg 7 #[(.slice x_text.p x_text.n x_text.c), (.int .i64 x_offset), (.int .i64 x_length), (.bool x_again)] h fun v h1 => asB v fun b1 => K b1 h1 :=
    callsH_of_sim (R := p0) (fn := Tryd.f7) (c := Tryd.f7.body.getD .skip) Tryd.func7 rfl Tryd.ntmps7 Tryd.call7 sim (init x_text x_offset x_length x_again) (⟨rfl, rfl, rfl, rfl, trivial⟩) (Nat.le_of_ble_eq_true rfl) (fun _ => ⟨rfl, trivial⟩) rfl
      (res K) (fun _ _ => by kernel_rfl) H
  refine hc.mono ?_
  intro v hp H
  obtain ⟨b1, rfl, h1⟩ := asB_elim H
  exact ⟨_, rfl, h1⟩

end M_laws_FnEmitCopy

end Go.Proofs.YtibleenkgmkpmaaDoor

namespace Go.Proofs.YtibleenkgmkpmaaDoor
open Go Go.Vc Go.Proofs

namespace M_PutUvarint

structure St where
  x_buf : Sl
  x_x : Int
  t4 : Int
  x_i : Int

def p0 : Pt St where
  env s := [(4, (.int .i64 s.t4))]
  fin e s K := getV e 4 fun v1 => asI .i64 v1 fun n1 => K { s with t4 := n1 }
  ok := by
    intro e s K h0
    obtain ⟨w1, g1, h1⟩ := getV_elim h0
    obtain ⟨n1, rfl, h2⟩ := asI_elim h1
    exact ⟨_, ⟨g1, trivial⟩, h2⟩

def p1 : Pt St where
  env s := [(0, (.slice s.x_buf.p s.x_buf.n s.x_buf.c)), (1, (.int .u64 s.x_x))]
  fin e s K := getV e 0 fun v1 => asS v1 fun p1 n1 c1 => getV e 1 fun v2 => asI .u64 v2 fun n2 => K { s with x_buf := ⟨p1, n1, c1⟩, x_x := n2 }
  ok := by
    intro e s K h0
    obtain ⟨w1, g1, h1⟩ := getV_elim h0
    obtain ⟨p1, n1, c1, rfl, h2⟩ := asS_elim h1
    obtain ⟨w2, g2, h3⟩ := getV_elim h2
    obtain ⟨n2, rfl, h4⟩ := asI_elim h3
    exact ⟨_, ⟨g1, g2, trivial⟩, h4⟩

def p2 : Pt St where
  env s := [(0, (.slice s.x_buf.p s.x_buf.n s.x_buf.c)), (1, (.int .u64 s.x_x)), (5, (.int .i64 s.x_i))]
  fin e s K := getV e 0 fun v1 => asS v1 fun p1 n1 c1 => getV e 1 fun v2 => asI .u64 v2 fun n2 => getV e 5 fun v3 => asI .i64 v3 fun n3 => K { s with x_buf := ⟨p1, n1, c1⟩, x_x := n2, x_i := n3 }
  ok := by
    intro e s K h0
    obtain ⟨w1, g1, h1⟩ := getV_elim h0
    obtain ⟨p1, n1, c1, rfl, h2⟩ := asS_elim h1
    obtain ⟨w2, g2, h3⟩ := getV_elim h2
    obtain ⟨n2, rfl, h4⟩ := asI_elim h3
    obtain ⟨w3, g3, h5⟩ := getV_elim h4
    obtain ⟨n3, rfl, h6⟩ := asI_elim h5
    exact ⟨_, ⟨g1, g2, g3, trivial⟩, h6⟩

def p3 : Pt St where
  env s := [(5, (.int .i64 s.x_i))]
  fin e s K := getV e 5 fun v1 => asI .i64 v1 fun n1 => K { s with x_i := n1 }
  ok := by
    intro e s K h0
    obtain ⟨w1, g1, h1⟩ := getV_elim h0
    obtain ⟨n1, rfl, h2⟩ := asI_elim h1
    exact ⟨_, ⟨g1, trivial⟩, h2⟩

def r0 (s : St) (h : Heap) (Q : St → Heap → Prop) : Prop :=
  Q s h

def r1 (s : St) (h : Heap) (Q : St → Heap → Prop) : Prop :=
  Q { s with x_i := (0 : Int) } h

def r2 (s : St) (h : Heap) (Q : Bool → St → Heap → Prop) : Prop :=
  Q (decide (s.x_x ≥ (128 : Int))) s h

def r3 (s : St) (h : Heap) (Q : St → Heap → Prop) : Prop :=
  0 ≤ s.x_i ∧ s.x_i < ((s.x_buf.n : Nat) : Int) ∧
  ptrE s.x_buf.p fun a1 =>
  st1 (Addr.add (Addr.add a1 (Int.toNat s.x_i * 1)) 0) (.int .u8 (bOr .u8 (IntKind.wrap .u8 s.x_x) (128 : Int))) h fun h2 =>
  Q s h2

def r4 (s : St) (h : Heap) (Q : St → Heap → Prop) : Prop :=
  Q { s with x_x := (Int.fdiv s.x_x (2 ^ (7 : Nat))) } h

def r5 (s : St) (h : Heap) (Q : St → Heap → Prop) : Prop :=
  Q { s with x_i := (IntKind.wrap .i64 (s.x_i + (1 : Int))) } h

def r6 (s : St) (h : Heap) (Q : St → Heap → Prop) : Prop :=
  0 ≤ s.x_i ∧ s.x_i < ((s.x_buf.n : Nat) : Int) ∧
  ptrE s.x_buf.p fun a1 =>
  st1 (Addr.add (Addr.add a1 (Int.toNat s.x_i * 1)) 0) (.int .u8 (IntKind.wrap .u8 s.x_x)) h fun h2 =>
  Q s h2

def r7 (s : St) (h : Heap) (Q : St → Heap → Prop) : Prop :=
  Q { s with t4 := (IntKind.wrap .i64 (s.x_i + (1 : Int))) } h

def k4 : Stm St := (.seq (.reg r6) (.seq (.reg r7) .ret))
def k3 : Stm St := (.block 1 (.seq (.reg r3) (.seq (.reg r4) (.reg r5))))
def k2 : Stm St := (.seq (.test r2 .skip (.exit 0)) k3)
def k1 : Stm St := (.seq (.block 0 (.loop k2)) k4)
def k0 : Stm St := (.seq (.reg r1) k1)

def stm : Stm St := (.seq (.reg r0) k0)

def ex : Ex → Pt St := fun _ => p0

set_option maxRecDepth 100000 in
theorem sim : Sim Pg 25 p1 (Tryd.f65.body.getD .skip) stm p0 ex :=
  (Sim.seq (Sim.reg (A := p1) (B := p1) (fun _ _ _ => by kernel_rfl))
  (Sim.seq (Sim.reg (A := p1) (B := p2) (fun _ _ _ => by kernel_rfl))
  (Sim.seq (Sim.block (B := p2) (Sim.loop (A := p2) (Sim.seq (Sim.test (A := p2) (B := p2) (fun _ _ _ => by kernel_rfl) (Sim.skip (A := p2))
  (Sim.exit (A := p2) (fun _ => ⟨rfl, rfl, rfl, trivial⟩)))
  (Sim.block (B := p2) (Sim.seq (Sim.reg (A := p2) (B := p2) (fun _ _ _ => by kernel_rfl))
  (Sim.seq (Sim.reg (A := p2) (B := p2) (fun _ _ _ => by kernel_rfl))
  (Sim.reg (A := p2) (B := p2) (fun _ _ _ => by kernel_rfl))))))))
  (Sim.seq (Sim.reg (A := p2) (B := p3) (fun _ _ _ => by kernel_rfl))
  (Sim.seq (Sim.reg (A := p3) (B := p0) (fun _ _ _ => by kernel_rfl))
  (Sim.ret (A := p0) (E := ex) (fun _ => ⟨rfl, trivial⟩)))))))

def init (x_buf : Sl) (x_x : Int) : St := { x_buf := x_buf, x_x := x_x, t4 := 0, x_i := 0 }

/-- What is left of the results. -/
def res (K : Int → Heap → Prop) (s : St) (h1 : Heap) : Prop := K s.t4 h1

/-- The call of 'encoding/binary.PutUvarint'. -/
theorem calls (x_buf : Sl) (x_x : Int) (h : Heap) (K : Int → Heap → Prop)
    (H : stm (init x_buf x_x) h (endK (res K))) : c_PutUvarint x_buf x_x h K := by
  have hc : CallsH Pg 65 #[(.slice x_buf.p x_buf.n x_buf.c), (.int .u64 x_x)] h fun v h1 => asI .i64 v fun n1 => K n1 h1 :=
    callsH_of_sim (R := p0) (fn := Tryd.f65) (c := Tryd.f65.body.getD .skip) Tryd.func65 rfl Tryd.ntmps65 Tryd.call65 sim (init x_buf x_x) (⟨rfl, rfl, trivial⟩) (Nat.le_of_ble_eq_true rfl) (fun _ => ⟨rfl, trivial⟩) rfl
      (res K) (fun _ _ => by kernel_rfl) H
  refine hc.mono ?_
  intro v hp H
  obtain ⟨n1, rfl, h1⟩ := asI_elim H
  exact ⟨_, rfl, h1⟩

end M_PutUvarint

end Go.Proofs.YtibleenkgmkpmaaDoor

namespace Go.Proofs.YtibleenkgmkpmaaDoor
open Go Go.Vc Go.Proofs

namespace M_ConcatBlocks

structure St where
  x_dst : Sl
  x_blocks : Sl
  t4 : Sl
  t5 : Value
  x_totalSize : Int
  x_compSize : Int
  x_b : Sl
  x_l : Int
  x_hdr : Int
  x_err : Value
  x_tmp : Option Addr
  x_hdrSize : Int
  x_wantSize : Int
  x_bq17 : Sl
  x_hdrq19 : Int
  x_errq20 : Value
  t21 : Sl
  t22 : Int
  t23 : Int
  t24 : Bool
  t80 : Sl
  t81 : Int
  t82 : Int
  t83 : Bool

def p0 : Pt St where
  env s := [(4, (.slice s.t4.p s.t4.n s.t4.c)), (5, s.t5)]
  fin e s K := getV e 4 fun v1 => asS v1 fun p1 n1 c1 => getV e 5 fun v2 => K { s with t4 := ⟨p1, n1, c1⟩, t5 := v2 }
  ok := by
    intro e s K h0
    obtain ⟨w1, g1, h1⟩ := getV_elim h0
    obtain ⟨p1, n1, c1, rfl, h2⟩ := asS_elim h1
    obtain ⟨w2, g2, h3⟩ := getV_elim h2
    exact ⟨_, ⟨g1, g2, trivial⟩, h3⟩

def p1 : Pt St where
  env s := [(0, (.slice s.x_dst.p s.x_dst.n s.x_dst.c)), (1, (.slice s.x_blocks.p s.x_blocks.n s.x_blocks.c))]
  fin e s K := getV e 0 fun v1 => asS v1 fun p1 n1 c1 => getV e 1 fun v2 => asS v2 fun p2 n2 c2 => K { s with x_dst := ⟨p1, n1, c1⟩, x_blocks := ⟨p2, n2, c2⟩ }
  ok := by
    intro e s K h0
    obtain ⟨w1, g1, h1⟩ := getV_elim h0
    obtain ⟨p1, n1, c1, rfl, h2⟩ := asS_elim h1
    obtain ⟨w2, g2, h3⟩ := getV_elim h2
    obtain ⟨p2, n2, c2, rfl, h4⟩ := asS_elim h3
    exact ⟨_, ⟨g1, g2, trivial⟩, h4⟩

def p2 : Pt St where
  env s := [(0, (.slice s.x_dst.p s.x_dst.n s.x_dst.c)), (1, (.slice s.x_blocks.p s.x_blocks.n s.x_blocks.c)), (6, (.int .u64 s.x_totalSize))]
  fin e s K := getV e 0 fun v1 => asS v1 fun p1 n1 c1 => getV e 1 fun v2 => asS v2 fun p2 n2 c2 => getV e 6 fun v3 => asI .u64 v3 fun n3 => K { s with x_dst := ⟨p1, n1, c1⟩, x_blocks := ⟨p2, n2, c2⟩, x_totalSize := n3 }
  ok := by
    intro e s K h0
    obtain ⟨w1, g1, h1⟩ := getV_elim h0
    obtain ⟨p1, n1, c1, rfl, h2⟩ := asS_elim h1
    obtain ⟨w2, g2, h3⟩ := getV_elim h2
    obtain ⟨p2, n2, c2, rfl, h4⟩ := asS_elim h3
    obtain ⟨w3, g3, h5⟩ := getV_elim h4
    obtain ⟨n3, rfl, h6⟩ := asI_elim h5
    exact ⟨_, ⟨g1, g2, g3, trivial⟩, h6⟩

def p3 : Pt St where
  env s := [(0, (.slice s.x_dst.p s.x_dst.n s.x_dst.c)), (1, (.slice s.x_blocks.p s.x_blocks.n s.x_blocks.c)), (6, (.int .u64 s.x_totalSize)), (7, (.int .i64 s.x_compSize))]
  fin e s K := getV e 0 fun v1 => asS v1 fun p1 n1 c1 => getV e 1 fun v2 => asS v2 fun p2 n2 c2 => getV e 6 fun v3 => asI .u64 v3 fun n3 => getV e 7 fun v4 => asI .i64 v4 fun n4 => K { s with x_dst := ⟨p1, n1, c1⟩, x_blocks := ⟨p2, n2, c2⟩, x_totalSize := n3, x_compSize := n4 }
  ok := by
    intro e s K h0
    obtain ⟨w1, g1, h1⟩ := getV_elim h0
    obtain ⟨p1, n1, c1, rfl, h2⟩ := asS_elim h1
    obtain ⟨w2, g2, h3⟩ := getV_elim h2
    obtain ⟨p2, n2, c2, rfl, h4⟩ := asS_elim h3
    obtain ⟨w3, g3, h5⟩ := getV_elim h4
    obtain ⟨n3, rfl, h6⟩ := asI_elim h5
    obtain ⟨w4, g4, h7⟩ := getV_elim h6
    obtain ⟨n4, rfl, h8⟩ := asI_elim h7
    exact ⟨_, ⟨g1, g2, g3, g4, trivial⟩, h8⟩

def p4 : Pt St where
  env s := [(0, (.slice s.x_dst.p s.x_dst.n s.x_dst.c)), (1, (.slice s.x_blocks.p s.x_blocks.n s.x_blocks.c)), (6, (.int .u64 s.x_totalSize)), (7, (.int .i64 s.x_compSize)), (21, (.slice s.t21.p s.t21.n s.t21.c)), (22, (.int .i64 s.t22)), (23, (.int .i64 s.t23))]
  fin e s K := getV e 0 fun v1 => asS v1 fun p1 n1 c1 => getV e 1 fun v2 => asS v2 fun p2 n2 c2 => getV e 6 fun v3 => asI .u64 v3 fun n3 => getV e 7 fun v4 => asI .i64 v4 fun n4 => getV e 21 fun v5 => asS v5 fun p3 n5 c3 => getV e 22 fun v6 => asI .i64 v6 fun n6 => getV e 23 fun v7 => asI .i64 v7 fun n7 => K { s with x_dst := ⟨p1, n1, c1⟩, x_blocks := ⟨p2, n2, c2⟩, x_totalSize := n3, x_compSize := n4, t21 := ⟨p3, n5, c3⟩, t22 := n6, t23 := n7 }
  ok := by
    intro e s K h0
    obtain ⟨w1, g1, h1⟩ := getV_elim h0
    obtain ⟨p1, n1, c1, rfl, h2⟩ := asS_elim h1
    obtain ⟨w2, g2, h3⟩ := getV_elim h2
    obtain ⟨p2, n2, c2, rfl, h4⟩ := asS_elim h3
    obtain ⟨w3, g3, h5⟩ := getV_elim h4
    obtain ⟨n3, rfl, h6⟩ := asI_elim h5
    obtain ⟨w4, g4, h7⟩ := getV_elim h6
    obtain ⟨n4, rfl, h8⟩ := asI_elim h7
    obtain ⟨w5, g5, h9⟩ := getV_elim h8
    obtain ⟨p3, n5, c3, rfl, h10⟩ := asS_elim h9
    obtain ⟨w6, g6, h11⟩ := getV_elim h10
    obtain ⟨n6, rfl, h12⟩ := asI_elim h11
    obtain ⟨w7, g7, h13⟩ := getV_elim h12
    obtain ⟨n7, rfl, h14⟩ := asI_elim h13
    exact ⟨_, ⟨g1, g2, g3, g4, g5, g6, g7, trivial⟩, h14⟩

def p5 : Pt St where
  env s := [(0, (.slice s.x_dst.p s.x_dst.n s.x_dst.c)), (1, (.slice s.x_blocks.p s.x_blocks.n s.x_blocks.c)), (6, (.int .u64 s.x_totalSize)), (7, (.int .i64 s.x_compSize)), (21, (.slice s.t21.p s.t21.n s.t21.c)), (22, (.int .i64 s.t22)), (23, (.int .i64 s.t23)), (24, (.bool s.t24))]
  fin e s K := getV e 0 fun v1 => asS v1 fun p1 n1 c1 => getV e 1 fun v2 => asS v2 fun p2 n2 c2 => getV e 6 fun v3 => asI .u64 v3 fun n3 => getV e 7 fun v4 => asI .i64 v4 fun n4 => getV e 21 fun v5 => asS v5 fun p3 n5 c3 => getV e 22 fun v6 => asI .i64 v6 fun n6 => getV e 23 fun v7 => asI .i64 v7 fun n7 => getV e 24 fun v8 => asB v8 fun b1 => K { s with x_dst := ⟨p1, n1, c1⟩, x_blocks := ⟨p2, n2, c2⟩, x_totalSize := n3, x_compSize := n4, t21 := ⟨p3, n5, c3⟩, t22 := n6, t23 := n7, t24 := b1 }
  ok := by
    intro e s K h0
    obtain ⟨w1, g1, h1⟩ := getV_elim h0
    obtain ⟨p1, n1, c1, rfl, h2⟩ := asS_elim h1
    obtain ⟨w2, g2, h3⟩ := getV_elim h2
    obtain ⟨p2, n2, c2, rfl, h4⟩ := asS_elim h3
    obtain ⟨w3, g3, h5⟩ := getV_elim h4
    obtain ⟨n3, rfl, h6⟩ := asI_elim h5
    obtain ⟨w4, g4, h7⟩ := getV_elim h6
    obtain ⟨n4, rfl, h8⟩ := asI_elim h7
    obtain ⟨w5, g5, h9⟩ := getV_elim h8
    obtain ⟨p3, n5, c3, rfl, h10⟩ := asS_elim h9
    obtain ⟨w6, g6, h11⟩ := getV_elim h10
    obtain ⟨n6, rfl, h12⟩ := asI_elim h11
    obtain ⟨w7, g7, h13⟩ := getV_elim h12
    obtain ⟨n7, rfl, h14⟩ := asI_elim h13
    obtain ⟨w8, g8, h15⟩ := getV_elim h14
    obtain ⟨b1, rfl, h16⟩ := asB_elim h15
    exact ⟨_, ⟨g1, g2, g3, g4, g5, g6, g7, g8, trivial⟩, h16⟩

def p6 : Pt St where
  env s := [(0, (.slice s.x_dst.p s.x_dst.n s.x_dst.c)), (1, (.slice s.x_blocks.p s.x_blocks.n s.x_blocks.c)), (6, (.int .u64 s.x_totalSize)), (7, (.int .i64 s.x_compSize)), (9, (.slice s.x_b.p s.x_b.n s.x_b.c)), (21, (.slice s.t21.p s.t21.n s.t21.c)), (22, (.int .i64 s.t22)), (23, (.int .i64 s.t23))]
  fin e s K := getV e 0 fun v1 => asS v1 fun p1 n1 c1 => getV e 1 fun v2 => asS v2 fun p2 n2 c2 => getV e 6 fun v3 => asI .u64 v3 fun n3 => getV e 7 fun v4 => asI .i64 v4 fun n4 => getV e 9 fun v5 => asS v5 fun p3 n5 c3 => getV e 21 fun v6 => asS v6 fun p4 n6 c4 => getV e 22 fun v7 => asI .i64 v7 fun n7 => getV e 23 fun v8 => asI .i64 v8 fun n8 => K { s with x_dst := ⟨p1, n1, c1⟩, x_blocks := ⟨p2, n2, c2⟩, x_totalSize := n3, x_compSize := n4, x_b := ⟨p3, n5, c3⟩, t21 := ⟨p4, n6, c4⟩, t22 := n7, t23 := n8 }
  ok := by
    intro e s K h0
    obtain ⟨w1, g1, h1⟩ := getV_elim h0
    obtain ⟨p1, n1, c1, rfl, h2⟩ := asS_elim h1
    obtain ⟨w2, g2, h3⟩ := getV_elim h2
    obtain ⟨p2, n2, c2, rfl, h4⟩ := asS_elim h3
    obtain ⟨w3, g3, h5⟩ := getV_elim h4
    obtain ⟨n3, rfl, h6⟩ := asI_elim h5
    obtain ⟨w4, g4, h7⟩ := getV_elim h6
    obtain ⟨n4, rfl, h8⟩ := asI_elim h7
    obtain ⟨w5, g5, h9⟩ := getV_elim h8
    obtain ⟨p3, n5, c3, rfl, h10⟩ := asS_elim h9
    obtain ⟨w6, g6, h11⟩ := getV_elim h10
    obtain ⟨p4, n6, c4, rfl, h12⟩ := asS_elim h11
    obtain ⟨w7, g7, h13⟩ := getV_elim h12
    obtain ⟨n7, rfl, h14⟩ := asI_elim h13
    obtain ⟨w8, g8, h15⟩ := getV_elim h14
    obtain ⟨n8, rfl, h16⟩ := asI_elim h15
    exact ⟨_, ⟨g1, g2, g3, g4, g5, g6, g7, g8, trivial⟩, h16⟩

def p7 : Pt St where
  env s := [(0, (.slice s.x_dst.p s.x_dst.n s.x_dst.c)), (1, (.slice s.x_blocks.p s.x_blocks.n s.x_blocks.c)), (6, (.int .u64 s.x_totalSize)), (7, (.int .i64 s.x_compSize)), (9, (.slice s.x_b.p s.x_b.n s.x_b.c)), (10, (.int .i64 s.x_l)), (11, (.int .i64 s.x_hdr)), (12, s.x_err), (21, (.slice s.t21.p s.t21.n s.t21.c)), (22, (.int .i64 s.t22)), (23, (.int .i64 s.t23))]
  fin e s K := getV e 0 fun v1 => asS v1 fun p1 n1 c1 => getV e 1 fun v2 => asS v2 fun p2 n2 c2 => getV e 6 fun v3 => asI .u64 v3 fun n3 => getV e 7 fun v4 => asI .i64 v4 fun n4 => getV e 9 fun v5 => asS v5 fun p3 n5 c3 => getV e 10 fun v6 => asI .i64 v6 fun n6 => getV e 11 fun v7 => asI .i64 v7 fun n7 => getV e 12 fun v8 => getV e 21 fun v9 => asS v9 fun p4 n8 c4 => getV e 22 fun v10 => asI .i64 v10 fun n9 => getV e 23 fun v11 => asI .i64 v11 fun n10 => K { s with x_dst := ⟨p1, n1, c1⟩, x_blocks := ⟨p2, n2, c2⟩, x_totalSize := n3, x_compSize := n4, x_b := ⟨p3, n5, c3⟩, x_l := n6, x_hdr := n7, x_err := v8, t21 := ⟨p4, n8, c4⟩, t22 := n9, t23 := n10 }
  ok := by
    intro e s K h0
    obtain ⟨w1, g1, h1⟩ := getV_elim h0
    obtain ⟨p1, n1, c1, rfl, h2⟩ := asS_elim h1
    obtain ⟨w2, g2, h3⟩ := getV_elim h2
    obtain ⟨p2, n2, c2, rfl, h4⟩ := asS_elim h3
    obtain ⟨w3, g3, h5⟩ := getV_elim h4
    obtain ⟨n3, rfl, h6⟩ := asI_elim h5
    obtain ⟨w4, g4, h7⟩ := getV_elim h6
    obtain ⟨n4, rfl, h8⟩ := asI_elim h7
    obtain ⟨w5, g5, h9⟩ := getV_elim h8
    obtain ⟨p3, n5, c3, rfl, h10⟩ := asS_elim h9
    obtain ⟨w6, g6, h11⟩ := getV_elim h10
    obtain ⟨n6, rfl, h12⟩ := asI_elim h11
    obtain ⟨w7, g7, h13⟩ := getV_elim h12
    obtain ⟨n7, rfl, h14⟩ := asI_elim h13
    obtain ⟨w8, g8, h15⟩ := getV_elim h14
    obtain ⟨w9, g9, h16⟩ := getV_elim h15
    obtain ⟨p4, n8, c4, rfl, h17⟩ := asS_elim h16
    obtain ⟨w10, g10, h18⟩ := getV_elim h17
    obtain ⟨n9, rfl, h19⟩ := asI_elim h18
    obtain ⟨w11, g11, h20⟩ := getV_elim h19
    obtain ⟨n10, rfl, h21⟩ := asI_elim h20
    exact ⟨_, ⟨g1, g2, g3, g4, g5, g6, g7, g8, g9, g10, g11, trivial⟩, h21⟩

def p8 : Pt St where
  env s := [(0, (.slice s.x_dst.p s.x_dst.n s.x_dst.c)), (1, (.slice s.x_blocks.p s.x_blocks.n s.x_blocks.c)), (6, (.int .u64 s.x_totalSize)), (7, (.int .i64 s.x_compSize)), (9, (.slice s.x_b.p s.x_b.n s.x_b.c)), (10, (.int .i64 s.x_l)), (11, (.int .i64 s.x_hdr)), (21, (.slice s.t21.p s.t21.n s.t21.c)), (22, (.int .i64 s.t22)), (23, (.int .i64 s.t23))]
  fin e s K := getV e 0 fun v1 => asS v1 fun p1 n1 c1 => getV e 1 fun v2 => asS v2 fun p2 n2 c2 => getV e 6 fun v3 => asI .u64 v3 fun n3 => getV e 7 fun v4 => asI .i64 v4 fun n4 => getV e 9 fun v5 => asS v5 fun p3 n5 c3 => getV e 10 fun v6 => asI .i64 v6 fun n6 => getV e 11 fun v7 => asI .i64 v7 fun n7 => getV e 21 fun v8 => asS v8 fun p4 n8 c4 => getV e 22 fun v9 => asI .i64 v9 fun n9 => getV e 23 fun v10 => asI .i64 v10 fun n10 => K { s with x_dst := ⟨p1, n1, c1⟩, x_blocks := ⟨p2, n2, c2⟩, x_totalSize := n3, x_compSize := n4, x_b := ⟨p3, n5, c3⟩, x_l := n6, x_hdr := n7, t21 := ⟨p4, n8, c4⟩, t22 := n9, t23 := n10 }
  ok := by
    intro e s K h0
    obtain ⟨w1, g1, h1⟩ := getV_elim h0
    obtain ⟨p1, n1, c1, rfl, h2⟩ := asS_elim h1
    obtain ⟨w2, g2, h3⟩ := getV_elim h2
    obtain ⟨p2, n2, c2, rfl, h4⟩ := asS_elim h3
    obtain ⟨w3, g3, h5⟩ := getV_elim h4
    obtain ⟨n3, rfl, h6⟩ := asI_elim h5
    obtain ⟨w4, g4, h7⟩ := getV_elim h6
    obtain ⟨n4, rfl, h8⟩ := asI_elim h7
    obtain ⟨w5, g5, h9⟩ := getV_elim h8
    obtain ⟨p3, n5, c3, rfl, h10⟩ := asS_elim h9
    obtain ⟨w6, g6, h11⟩ := getV_elim h10
    obtain ⟨n6, rfl, h12⟩ := asI_elim h11
    obtain ⟨w7, g7, h13⟩ := getV_elim h12
    obtain ⟨n7, rfl, h14⟩ := asI_elim h13
    obtain ⟨w8, g8, h15⟩ := getV_elim h14
    obtain ⟨p4, n8, c4, rfl, h16⟩ := asS_elim h15
    obtain ⟨w9, g9, h17⟩ := getV_elim h16
    obtain ⟨n9, rfl, h18⟩ := asI_elim h17
    obtain ⟨w10, g10, h19⟩ := getV_elim h18
    obtain ⟨n10, rfl, h20⟩ := asI_elim h19
    exact ⟨_, ⟨g1, g2, g3, g4, g5, g6, g7, g8, g9, g10, trivial⟩, h20⟩

def p9 : Pt St where
  env s := [(0, (.slice s.x_dst.p s.x_dst.n s.x_dst.c)), (1, (.slice s.x_blocks.p s.x_blocks.n s.x_blocks.c)), (6, (.int .u64 s.x_totalSize)), (7, (.int .i64 s.x_compSize)), (9, (.slice s.x_b.p s.x_b.n s.x_b.c)), (11, (.int .i64 s.x_hdr)), (21, (.slice s.t21.p s.t21.n s.t21.c)), (22, (.int .i64 s.t22)), (23, (.int .i64 s.t23))]
  fin e s K := getV e 0 fun v1 => asS v1 fun p1 n1 c1 => getV e 1 fun v2 => asS v2 fun p2 n2 c2 => getV e 6 fun v3 => asI .u64 v3 fun n3 => getV e 7 fun v4 => asI .i64 v4 fun n4 => getV e 9 fun v5 => asS v5 fun p3 n5 c3 => getV e 11 fun v6 => asI .i64 v6 fun n6 => getV e 21 fun v7 => asS v7 fun p4 n7 c4 => getV e 22 fun v8 => asI .i64 v8 fun n8 => getV e 23 fun v9 => asI .i64 v9 fun n9 => K { s with x_dst := ⟨p1, n1, c1⟩, x_blocks := ⟨p2, n2, c2⟩, x_totalSize := n3, x_compSize := n4, x_b := ⟨p3, n5, c3⟩, x_hdr := n6, t21 := ⟨p4, n7, c4⟩, t22 := n8, t23 := n9 }
  ok := by
    intro e s K h0
    obtain ⟨w1, g1, h1⟩ := getV_elim h0
    obtain ⟨p1, n1, c1, rfl, h2⟩ := asS_elim h1
    obtain ⟨w2, g2, h3⟩ := getV_elim h2
    obtain ⟨p2, n2, c2, rfl, h4⟩ := asS_elim h3
    obtain ⟨w3, g3, h5⟩ := getV_elim h4
    obtain ⟨n3, rfl, h6⟩ := asI_elim h5
    obtain ⟨w4, g4, h7⟩ := getV_elim h6
    obtain ⟨n4, rfl, h8⟩ := asI_elim h7
    obtain ⟨w5, g5, h9⟩ := getV_elim h8
    obtain ⟨p3, n5, c3, rfl, h10⟩ := asS_elim h9
    obtain ⟨w6, g6, h11⟩ := getV_elim h10
    obtain ⟨n6, rfl, h12⟩ := asI_elim h11
    obtain ⟨w7, g7, h13⟩ := getV_elim h12
    obtain ⟨p4, n7, c4, rfl, h14⟩ := asS_elim h13
    obtain ⟨w8, g8, h15⟩ := getV_elim h14
    obtain ⟨n8, rfl, h16⟩ := asI_elim h15
    obtain ⟨w9, g9, h17⟩ := getV_elim h16
    obtain ⟨n9, rfl, h18⟩ := asI_elim h17
    exact ⟨_, ⟨g1, g2, g3, g4, g5, g6, g7, g8, g9, trivial⟩, h18⟩

def p10 : Pt St where
  env s := [(0, (.slice s.x_dst.p s.x_dst.n s.x_dst.c))]
  fin e s K := getV e 0 fun v1 => asS v1 fun p1 n1 c1 => K { s with x_dst := ⟨p1, n1, c1⟩ }
  ok := by
    intro e s K h0
    obtain ⟨w1, g1, h1⟩ := getV_elim h0
    obtain ⟨p1, n1, c1, rfl, h2⟩ := asS_elim h1
    exact ⟨_, ⟨g1, trivial⟩, h2⟩

def p11 : Pt St where
  env s := [(0, (.slice s.x_dst.p s.x_dst.n s.x_dst.c)), (1, (.slice s.x_blocks.p s.x_blocks.n s.x_blocks.c)), (6, (.int .u64 s.x_totalSize)), (7, (.int .i64 s.x_compSize)), (13, (.pointer s.x_tmp))]
  fin e s K := getV e 0 fun v1 => asS v1 fun p1 n1 c1 => getV e 1 fun v2 => asS v2 fun p2 n2 c2 => getV e 6 fun v3 => asI .u64 v3 fun n3 => getV e 7 fun v4 => asI .i64 v4 fun n4 => getV e 13 fun v5 => asP v5 fun p3 => K { s with x_dst := ⟨p1, n1, c1⟩, x_blocks := ⟨p2, n2, c2⟩, x_totalSize := n3, x_compSize := n4, x_tmp := p3 }
  ok := by
    intro e s K h0
    obtain ⟨w1, g1, h1⟩ := getV_elim h0
    obtain ⟨p1, n1, c1, rfl, h2⟩ := asS_elim h1
    obtain ⟨w2, g2, h3⟩ := getV_elim h2
    obtain ⟨p2, n2, c2, rfl, h4⟩ := asS_elim h3
    obtain ⟨w3, g3, h5⟩ := getV_elim h4
    obtain ⟨n3, rfl, h6⟩ := asI_elim h5
    obtain ⟨w4, g4, h7⟩ := getV_elim h6
    obtain ⟨n4, rfl, h8⟩ := asI_elim h7
    obtain ⟨w5, g5, h9⟩ := getV_elim h8
    obtain ⟨p3, rfl, h10⟩ := asP_elim h9
    exact ⟨_, ⟨g1, g2, g3, g4, g5, trivial⟩, h10⟩

def p12 : Pt St where
  env s := [(0, (.slice s.x_dst.p s.x_dst.n s.x_dst.c)), (1, (.slice s.x_blocks.p s.x_blocks.n s.x_blocks.c)), (7, (.int .i64 s.x_compSize)), (13, (.pointer s.x_tmp)), (14, (.int .i64 s.x_hdrSize))]
  fin e s K := getV e 0 fun v1 => asS v1 fun p1 n1 c1 => getV e 1 fun v2 => asS v2 fun p2 n2 c2 => getV e 7 fun v3 => asI .i64 v3 fun n3 => getV e 13 fun v4 => asP v4 fun p3 => getV e 14 fun v5 => asI .i64 v5 fun n4 => K { s with x_dst := ⟨p1, n1, c1⟩, x_blocks := ⟨p2, n2, c2⟩, x_compSize := n3, x_tmp := p3, x_hdrSize := n4 }
  ok := by
    intro e s K h0
    obtain ⟨w1, g1, h1⟩ := getV_elim h0
    obtain ⟨p1, n1, c1, rfl, h2⟩ := asS_elim h1
    obtain ⟨w2, g2, h3⟩ := getV_elim h2
    obtain ⟨p2, n2, c2, rfl, h4⟩ := asS_elim h3
    obtain ⟨w3, g3, h5⟩ := getV_elim h4
    obtain ⟨n3, rfl, h6⟩ := asI_elim h5
    obtain ⟨w4, g4, h7⟩ := getV_elim h6
    obtain ⟨p3, rfl, h8⟩ := asP_elim h7
    obtain ⟨w5, g5, h9⟩ := getV_elim h8
    obtain ⟨n4, rfl, h10⟩ := asI_elim h9
    exact ⟨_, ⟨g1, g2, g3, g4, g5, trivial⟩, h10⟩

def p13 : Pt St where
  env s := [(0, (.slice s.x_dst.p s.x_dst.n s.x_dst.c)), (1, (.slice s.x_blocks.p s.x_blocks.n s.x_blocks.c)), (13, (.pointer s.x_tmp)), (14, (.int .i64 s.x_hdrSize)), (15, (.int .i64 s.x_wantSize))]
  fin e s K := getV e 0 fun v1 => asS v1 fun p1 n1 c1 => getV e 1 fun v2 => asS v2 fun p2 n2 c2 => getV e 13 fun v3 => asP v3 fun p3 => getV e 14 fun v4 => asI .i64 v4 fun n3 => getV e 15 fun v5 => asI .i64 v5 fun n4 => K { s with x_dst := ⟨p1, n1, c1⟩, x_blocks := ⟨p2, n2, c2⟩, x_tmp := p3, x_hdrSize := n3, x_wantSize := n4 }
  ok := by
    intro e s K h0
    obtain ⟨w1, g1, h1⟩ := getV_elim h0
    obtain ⟨p1, n1, c1, rfl, h2⟩ := asS_elim h1
    obtain ⟨w2, g2, h3⟩ := getV_elim h2
    obtain ⟨p2, n2, c2, rfl, h4⟩ := asS_elim h3
    obtain ⟨w3, g3, h5⟩ := getV_elim h4
    obtain ⟨p3, rfl, h6⟩ := asP_elim h5
    obtain ⟨w4, g4, h7⟩ := getV_elim h6
    obtain ⟨n3, rfl, h8⟩ := asI_elim h7
    obtain ⟨w5, g5, h9⟩ := getV_elim h8
    obtain ⟨n4, rfl, h10⟩ := asI_elim h9
    exact ⟨_, ⟨g1, g2, g3, g4, g5, trivial⟩, h10⟩

def p14 : Pt St where
  env s := [(0, (.slice s.x_dst.p s.x_dst.n s.x_dst.c)), (1, (.slice s.x_blocks.p s.x_blocks.n s.x_blocks.c)), (13, (.pointer s.x_tmp)), (14, (.int .i64 s.x_hdrSize))]
  fin e s K := getV e 0 fun v1 => asS v1 fun p1 n1 c1 => getV e 1 fun v2 => asS v2 fun p2 n2 c2 => getV e 13 fun v3 => asP v3 fun p3 => getV e 14 fun v4 => asI .i64 v4 fun n3 => K { s with x_dst := ⟨p1, n1, c1⟩, x_blocks := ⟨p2, n2, c2⟩, x_tmp := p3, x_hdrSize := n3 }
  ok := by
    intro e s K h0
    obtain ⟨w1, g1, h1⟩ := getV_elim h0
    obtain ⟨p1, n1, c1, rfl, h2⟩ := asS_elim h1
    obtain ⟨w2, g2, h3⟩ := getV_elim h2
    obtain ⟨p2, n2, c2, rfl, h4⟩ := asS_elim h3
    obtain ⟨w3, g3, h5⟩ := getV_elim h4
    obtain ⟨p3, rfl, h6⟩ := asP_elim h5
    obtain ⟨w4, g4, h7⟩ := getV_elim h6
    obtain ⟨n3, rfl, h8⟩ := asI_elim h7
    exact ⟨_, ⟨g1, g2, g3, g4, trivial⟩, h8⟩

def p15 : Pt St where
  env s := [(0, (.slice s.x_dst.p s.x_dst.n s.x_dst.c)), (80, (.slice s.t80.p s.t80.n s.t80.c)), (81, (.int .i64 s.t81)), (82, (.int .i64 s.t82))]
  fin e s K := getV e 0 fun v1 => asS v1 fun p1 n1 c1 => getV e 80 fun v2 => asS v2 fun p2 n2 c2 => getV e 81 fun v3 => asI .i64 v3 fun n3 => getV e 82 fun v4 => asI .i64 v4 fun n4 => K { s with x_dst := ⟨p1, n1, c1⟩, t80 := ⟨p2, n2, c2⟩, t81 := n3, t82 := n4 }
  ok := by
    intro e s K h0
    obtain ⟨w1, g1, h1⟩ := getV_elim h0
    obtain ⟨p1, n1, c1, rfl, h2⟩ := asS_elim h1
    obtain ⟨w2, g2, h3⟩ := getV_elim h2
    obtain ⟨p2, n2, c2, rfl, h4⟩ := asS_elim h3
    obtain ⟨w3, g3, h5⟩ := getV_elim h4
    obtain ⟨n3, rfl, h6⟩ := asI_elim h5
    obtain ⟨w4, g4, h7⟩ := getV_elim h6
    obtain ⟨n4, rfl, h8⟩ := asI_elim h7
    exact ⟨_, ⟨g1, g2, g3, g4, trivial⟩, h8⟩

def p16 : Pt St where
  env s := [(0, (.slice s.x_dst.p s.x_dst.n s.x_dst.c)), (80, (.slice s.t80.p s.t80.n s.t80.c)), (81, (.int .i64 s.t81)), (82, (.int .i64 s.t82)), (83, (.bool s.t83))]
  fin e s K := getV e 0 fun v1 => asS v1 fun p1 n1 c1 => getV e 80 fun v2 => asS v2 fun p2 n2 c2 => getV e 81 fun v3 => asI .i64 v3 fun n3 => getV e 82 fun v4 => asI .i64 v4 fun n4 => getV e 83 fun v5 => asB v5 fun b1 => K { s with x_dst := ⟨p1, n1, c1⟩, t80 := ⟨p2, n2, c2⟩, t81 := n3, t82 := n4, t83 := b1 }
  ok := by
    intro e s K h0
    obtain ⟨w1, g1, h1⟩ := getV_elim h0
    obtain ⟨p1, n1, c1, rfl, h2⟩ := asS_elim h1
    obtain ⟨w2, g2, h3⟩ := getV_elim h2
    obtain ⟨p2, n2, c2, rfl, h4⟩ := asS_elim h3
    obtain ⟨w3, g3, h5⟩ := getV_elim h4
    obtain ⟨n3, rfl, h6⟩ := asI_elim h5
    obtain ⟨w4, g4, h7⟩ := getV_elim h6
    obtain ⟨n4, rfl, h8⟩ := asI_elim h7
    obtain ⟨w5, g5, h9⟩ := getV_elim h8
    obtain ⟨b1, rfl, h10⟩ := asB_elim h9
    exact ⟨_, ⟨g1, g2, g3, g4, g5, trivial⟩, h10⟩

def p17 : Pt St where
  env s := [(0, (.slice s.x_dst.p s.x_dst.n s.x_dst.c)), (17, (.slice s.x_bq17.p s.x_bq17.n s.x_bq17.c)), (80, (.slice s.t80.p s.t80.n s.t80.c)), (81, (.int .i64 s.t81)), (82, (.int .i64 s.t82))]
  fin e s K := getV e 0 fun v1 => asS v1 fun p1 n1 c1 => getV e 17 fun v2 => asS v2 fun p2 n2 c2 => getV e 80 fun v3 => asS v3 fun p3 n3 c3 => getV e 81 fun v4 => asI .i64 v4 fun n4 => getV e 82 fun v5 => asI .i64 v5 fun n5 => K { s with x_dst := ⟨p1, n1, c1⟩, x_bq17 := ⟨p2, n2, c2⟩, t80 := ⟨p3, n3, c3⟩, t81 := n4, t82 := n5 }
  ok := by
    intro e s K h0
    obtain ⟨w1, g1, h1⟩ := getV_elim h0
    obtain ⟨p1, n1, c1, rfl, h2⟩ := asS_elim h1
    obtain ⟨w2, g2, h3⟩ := getV_elim h2
    obtain ⟨p2, n2, c2, rfl, h4⟩ := asS_elim h3
    obtain ⟨w3, g3, h5⟩ := getV_elim h4
    obtain ⟨p3, n3, c3, rfl, h6⟩ := asS_elim h5
    obtain ⟨w4, g4, h7⟩ := getV_elim h6
    obtain ⟨n4, rfl, h8⟩ := asI_elim h7
    obtain ⟨w5, g5, h9⟩ := getV_elim h8
    obtain ⟨n5, rfl, h10⟩ := asI_elim h9
    exact ⟨_, ⟨g1, g2, g3, g4, g5, trivial⟩, h10⟩

def p18 : Pt St where
  env s := [(0, (.slice s.x_dst.p s.x_dst.n s.x_dst.c)), (17, (.slice s.x_bq17.p s.x_bq17.n s.x_bq17.c)), (19, (.int .i64 s.x_hdrq19)), (20, s.x_errq20), (80, (.slice s.t80.p s.t80.n s.t80.c)), (81, (.int .i64 s.t81)), (82, (.int .i64 s.t82))]
  fin e s K := getV e 0 fun v1 => asS v1 fun p1 n1 c1 => getV e 17 fun v2 => asS v2 fun p2 n2 c2 => getV e 19 fun v3 => asI .i64 v3 fun n3 => getV e 20 fun v4 => getV e 80 fun v5 => asS v5 fun p3 n4 c3 => getV e 81 fun v6 => asI .i64 v6 fun n5 => getV e 82 fun v7 => asI .i64 v7 fun n6 => K { s with x_dst := ⟨p1, n1, c1⟩, x_bq17 := ⟨p2, n2, c2⟩, x_hdrq19 := n3, x_errq20 := v4, t80 := ⟨p3, n4, c3⟩, t81 := n5, t82 := n6 }
  ok := by
    intro e s K h0
    obtain ⟨w1, g1, h1⟩ := getV_elim h0
    obtain ⟨p1, n1, c1, rfl, h2⟩ := asS_elim h1
    obtain ⟨w2, g2, h3⟩ := getV_elim h2
    obtain ⟨p2, n2, c2, rfl, h4⟩ := asS_elim h3
    obtain ⟨w3, g3, h5⟩ := getV_elim h4
    obtain ⟨n3, rfl, h6⟩ := asI_elim h5
    obtain ⟨w4, g4, h7⟩ := getV_elim h6
    obtain ⟨w5, g5, h8⟩ := getV_elim h7
    obtain ⟨p3, n4, c3, rfl, h9⟩ := asS_elim h8
    obtain ⟨w6, g6, h10⟩ := getV_elim h9
    obtain ⟨n5, rfl, h11⟩ := asI_elim h10
    obtain ⟨w7, g7, h12⟩ := getV_elim h11
    obtain ⟨n6, rfl, h13⟩ := asI_elim h12
    exact ⟨_, ⟨g1, g2, g3, g4, g5, g6, g7, trivial⟩, h13⟩

def p19 : Pt St where
  env s := [(0, (.slice s.x_dst.p s.x_dst.n s.x_dst.c)), (17, (.slice s.x_bq17.p s.x_bq17.n s.x_bq17.c)), (19, (.int .i64 s.x_hdrq19)), (80, (.slice s.t80.p s.t80.n s.t80.c)), (81, (.int .i64 s.t81)), (82, (.int .i64 s.t82))]
  fin e s K := getV e 0 fun v1 => asS v1 fun p1 n1 c1 => getV e 17 fun v2 => asS v2 fun p2 n2 c2 => getV e 19 fun v3 => asI .i64 v3 fun n3 => getV e 80 fun v4 => asS v4 fun p3 n4 c3 => getV e 81 fun v5 => asI .i64 v5 fun n5 => getV e 82 fun v6 => asI .i64 v6 fun n6 => K { s with x_dst := ⟨p1, n1, c1⟩, x_bq17 := ⟨p2, n2, c2⟩, x_hdrq19 := n3, t80 := ⟨p3, n4, c3⟩, t81 := n5, t82 := n6 }
  ok := by
    intro e s K h0
    obtain ⟨w1, g1, h1⟩ := getV_elim h0
    obtain ⟨p1, n1, c1, rfl, h2⟩ := asS_elim h1
    obtain ⟨w2, g2, h3⟩ := getV_elim h2
    obtain ⟨p2, n2, c2, rfl, h4⟩ := asS_elim h3
    obtain ⟨w3, g3, h5⟩ := getV_elim h4
    obtain ⟨n3, rfl, h6⟩ := asI_elim h5
    obtain ⟨w4, g4, h7⟩ := getV_elim h6
    obtain ⟨p3, n4, c3, rfl, h8⟩ := asS_elim h7
    obtain ⟨w5, g5, h9⟩ := getV_elim h8
    obtain ⟨n5, rfl, h10⟩ := asI_elim h9
    obtain ⟨w6, g6, h11⟩ := getV_elim h10
    obtain ⟨n6, rfl, h12⟩ := asI_elim h11
    exact ⟨_, ⟨g1, g2, g3, g4, g5, g6, trivial⟩, h12⟩

def r0 (s : St) (h : Heap) (Q : St → Heap → Prop) : Prop :=
  Q s h

def r1 (s : St) (h : Heap) (Q : St → Heap → Prop) : Prop :=
  Q { s with x_totalSize := (0 : Int) } h

def r2 (s : St) (h : Heap) (Q : St → Heap → Prop) : Prop :=
  Q { s with x_compSize := (0 : Int) } h

def r3 (s : St) (h : Heap) (Q : St → Heap → Prop) : Prop :=
  Q { s with t21 := s.x_blocks, t22 := ((s.x_blocks.n : Nat) : Int), t23 := (0 : Int) } h

def r4 (s : St) (h : Heap) (Q : St → Heap → Prop) : Prop :=
  Q { s with t24 := (decide (s.t23 < s.t22)) } h

def r5 (s : St) (h : Heap) (Q : St → Heap → Prop) : Prop :=
  0 ≤ s.t23 ∧ s.t23 < ((s.t21.n : Nat) : Int) ∧
  ptrE s.t21.p fun a1 =>
  ∃ (p2 : Option Addr) (n3 c4 : Nat), hcell h (Addr.add a1 (Int.toNat s.t23 * 1)) = some (.slice p2 n3 c4) ∧
  Q { s with x_b := ⟨p2, n3, c4⟩ } h

def r6 (s : St) (h : Heap) (Q : St → Heap → Prop) : Prop :=
  c_decodedLen s.x_b h fun r2 r3 u4 h1 =>
  Q { s with x_l := r2, x_hdr := r3, x_err := u4 } h1

def r7 (s : St) (h : Heap) (Q : Bool → St → Heap → Prop) : Prop :=
  nilE s.x_err fun b1 =>
  Q (!b1) s h

def r8 (s : St) (h : Heap) (Q : St → Heap → Prop) : Prop :=
  Q { s with t4 := ⟨none, 0, 0⟩, t5 := s.x_err } h

def r9 (s : St) (h : Heap) (Q : St → Heap → Prop) : Prop :=
  Q { s with x_totalSize := (IntKind.wrap .u64 (s.x_totalSize + (IntKind.wrap .u64 s.x_l))) } h

def r10 (s : St) (h : Heap) (Q : St → Heap → Prop) : Prop :=
  Q { s with x_compSize := (IntKind.wrap .i64 (s.x_compSize + (IntKind.wrap .i64 (((s.x_b.n : Nat) : Int) - s.x_hdr)))) } h

def r11 (s : St) (h : Heap) (Q : St → Heap → Prop) : Prop :=
  Q { s with t23 := (IntKind.wrap .i64 (s.t23 + (1 : Int))) } h

def r12 (s : St) (h : Heap) (Q : Bool → St → Heap → Prop) : Prop :=
  Q (s.x_totalSize == (0 : Int)) s h

def r13 (s : St) (h : Heap) (Q : St → Heap → Prop) : Prop :=
  withH (hnew h [(.int .u8 (0 : Int))] 5) fun h1 =>
  appendT Pg 5 s.x_dst.p s.x_dst.n s.x_dst.c (.slice (some ⟨Array.size h, 0, none⟩) 1 1) 1 h1 fun p2 n3 c4 h5 =>
  Q { s with x_dst := ⟨p2, n3, c4⟩ } h5

def r14 (s : St) (h : Heap) (Q : St → Heap → Prop) : Prop :=
  Q { s with t4 := s.x_dst, t5 := .nilIface } h

def r15 (s : St) (h : Heap) (Q : Bool → St → Heap → Prop) : Prop :=
  Q (decide (s.x_totalSize > (4294967295 : Int))) s h

def r16 (s : St) (h : Heap) (Q : St → Heap → Prop) : Prop :=
  ∃ u1 : Value, hcell h ⟨1, 0, none⟩ = some u1 ∧
  Q { s with t4 := ⟨none, 0, 0⟩, t5 := u1 } h

def r17 (s : St) (h : Heap) (Q : St → Heap → Prop) : Prop :=
  withH (hnew h (zcells Pg 96) 96) fun h1 =>
  Q { s with x_tmp := (some ⟨Array.size h, 0, none⟩) } h1

def r18 (s : St) (h : Heap) (Q : St → Heap → Prop) : Prop :=
  ptrE s.x_tmp fun a1 =>
  c_PutUvarint ⟨(subP (some a1) 0 5 1), (5 - 0), (5 - 0)⟩ s.x_totalSize h fun r3 h2 =>
  Q { s with x_hdrSize := r3 } h2

def r19 (s : St) (h : Heap) (Q : St → Heap → Prop) : Prop :=
  Q { s with x_wantSize := (IntKind.wrap .i64 (s.x_hdrSize + s.x_compSize)) } h

def r20 (s : St) (h : Heap) (Q : Bool → St → Heap → Prop) : Prop :=
  Q (decide ((IntKind.wrap .i64 (((s.x_dst.c : Nat) : Int) - ((s.x_dst.n : Nat) : Int))) < s.x_wantSize)) s h

def r21 (s : St) (h : Heap) (Q : St → Heap → Prop) : Prop :=
  mkT Pg 5 (0 : Int) (IntKind.wrap .i64 (s.x_wantSize + ((s.x_dst.n : Nat) : Int))) h fun a1 n2 c3 h4 =>
  appendT Pg 5 (some a1) n2 c3 (.slice s.x_dst.p s.x_dst.n s.x_dst.c) s.x_dst.n h4 fun p5 n6 c7 h8 =>
  Q { s with x_dst := ⟨p5, n6, c7⟩ } h8

def r22 (s : St) (h : Heap) (Q : St → Heap → Prop) : Prop :=
  ptrE s.x_tmp fun a1 =>
  0 ≤ s.x_hdrSize ∧ s.x_hdrSize ≤ ((5 : Nat) : Int) ∧
  appendT Pg 5 s.x_dst.p s.x_dst.n s.x_dst.c (.slice (subP (some a1) 0 5 1) ((Int.toNat s.x_hdrSize) - 0) (5 - 0)) ((Int.toNat s.x_hdrSize) - 0) h fun p2 n3 c4 h5 =>
  Q { s with x_dst := ⟨p2, n3, c4⟩ } h5

def r23 (s : St) (h : Heap) (Q : St → Heap → Prop) : Prop :=
  Q { s with t80 := s.x_blocks, t81 := ((s.x_blocks.n : Nat) : Int), t82 := (0 : Int) } h

def r24 (s : St) (h : Heap) (Q : St → Heap → Prop) : Prop :=
  Q { s with t83 := (decide (s.t82 < s.t81)) } h

def r25 (s : St) (h : Heap) (Q : St → Heap → Prop) : Prop :=
  0 ≤ s.t82 ∧ s.t82 < ((s.t80.n : Nat) : Int) ∧
  ptrE s.t80.p fun a1 =>
  ∃ (p2 : Option Addr) (n3 c4 : Nat), hcell h (Addr.add a1 (Int.toNat s.t82 * 1)) = some (.slice p2 n3 c4) ∧
  Q { s with x_bq17 := ⟨p2, n3, c4⟩ } h

def r26 (s : St) (h : Heap) (Q : St → Heap → Prop) : Prop :=
  c_decodedLen s.x_bq17 h fun r2 r3 u4 h1 =>
  Q { s with x_hdrq19 := r3, x_errq20 := u4 } h1

def r27 (s : St) (h : Heap) (Q : Bool → St → Heap → Prop) : Prop :=
  nilE s.x_errq20 fun b1 =>
  Q (!b1) s h

def r28 (s : St) (h : Heap) (Q : St → Heap → Prop) : Prop :=
  Q { s with t4 := ⟨none, 0, 0⟩, t5 := s.x_errq20 } h

def r29 (s : St) (h : Heap) (Q : St → Heap → Prop) : Prop :=
  0 ≤ s.x_hdrq19 ∧ s.x_hdrq19 ≤ ((s.x_bq17.n : Nat) : Int) ∧
  appendT Pg 5 s.x_dst.p s.x_dst.n s.x_dst.c (.slice (subP s.x_bq17.p (Int.toNat s.x_hdrq19) s.x_bq17.c 1) (s.x_bq17.n - (Int.toNat s.x_hdrq19)) (s.x_bq17.c - (Int.toNat s.x_hdrq19))) (s.x_bq17.n - (Int.toNat s.x_hdrq19)) h fun p1 n2 c3 h4 =>
  Q { s with x_dst := ⟨p1, n2, c3⟩ } h4

def r30 (s : St) (h : Heap) (Q : St → Heap → Prop) : Prop :=
  Q { s with t82 := (IntKind.wrap .i64 (s.t82 + (1 : Int))) } h

def r31 (s : St) (h : Heap) (Q : St → Heap → Prop) : Prop :=
  Q { s with t4 := s.x_dst, t5 := .nilIface } h

def k23 : Stm St := (.seq (.test r27 (.seq (.reg r28) .ret) .skip) (.reg r29))
def k22 : Stm St := (.seq (.reg r26) k23)
def k21 : Stm St := (.seq (.block 3 (.seq (.reg r25) k22)) (.reg r30))
def k20 : Stm St := (.seq (.cond (fun s => s.t83) .skip (.exit 2)) k21)
def k19 : Stm St := (.seq (.reg r24) k20)
def k18 : Stm St := (.block 2 (.loop k19))
def k17 : Stm St := (.seq (.seq (.reg r23) k18) (.seq (.reg r31) .ret))
def k16 : Stm St := (.seq (.reg r22) k17)
def k15 : Stm St := (.seq (.test r20 (.reg r21) .skip) k16)
def k14 : Stm St := (.seq (.reg r19) k15)
def k13 : Stm St := (.seq (.reg r18) k14)
def k12 : Stm St := (.seq (.reg r17) k13)
def k11 : Stm St := (.seq (.test r15 (.seq (.reg r16) .ret) .skip) k12)
def k10 : Stm St := (.seq (.reg r13) (.seq (.reg r14) .ret))
def k9 : Stm St := (.seq (.test r12 k10 .skip) k11)
def k8 : Stm St := (.seq (.test r7 (.seq (.reg r8) .ret) .skip) (.seq (.reg r9) (.reg r10)))
def k7 : Stm St := (.seq (.reg r6) k8)
def k6 : Stm St := (.seq (.block 1 (.seq (.reg r5) k7)) (.reg r11))
def k5 : Stm St := (.seq (.cond (fun s => s.t24) .skip (.exit 0)) k6)
def k4 : Stm St := (.seq (.reg r4) k5)
def k3 : Stm St := (.block 0 (.loop k4))
def k2 : Stm St := (.seq (.seq (.reg r3) k3) k9)
def k1 : Stm St := (.seq (.reg r2) k2)
def k0 : Stm St := (.seq (.reg r1) k1)

def stm : Stm St := (.seq (.reg r0) k0)

def ex : Ex → Pt St := fun _ => p0

set_option maxRecDepth 100000 in
theorem sim : Sim Pg 102 p1 (Tryd.f44.body.getD .skip) stm p0 ex :=
  (Sim.seq (Sim.reg (A := p1) (B := p1) (fun _ _ _ => by kernel_rfl))
  (Sim.seq (Sim.reg (A := p1) (B := p2) (fun _ _ _ => by kernel_rfl))
  (Sim.seq (Sim.reg (A := p2) (B := p3) (fun _ _ _ => by kernel_rfl))
  (Sim.seq (Sim.seq (Sim.reg (A := p3) (B := p4) (fun _ _ _ => by kernel_rfl))
  (Sim.block (B := p3) (Sim.loop (A := p4) (Sim.seq (Sim.reg (A := p4) (B := p5) (fun _ _ _ => by kernel_rfl))
  (Sim.seq (Sim.cond (A := p5) (fun s => s.t24) (fun _ => rfl) (Sim.weak (B := p5) (C := p4) (Sim.skip (A := p5)) (fun _ => ⟨rfl, rfl, rfl, rfl, rfl, rfl, rfl, trivial⟩))
  (Sim.exit (A := p5) (fun _ => ⟨rfl, rfl, rfl, rfl, trivial⟩)))
  (Sim.seq (Sim.block (B := p4) (Sim.seq (Sim.reg (A := p4) (B := p6) (fun _ _ _ => by kernel_rfl))
  (Sim.seq (Sim.reg (A := p6) (B := p7) (fun _ _ _ => by kernel_rfl))
  (Sim.seq (Sim.test (A := p7) (B := p7) (fun _ _ _ => by kernel_rfl) (Sim.seq (Sim.reg (A := p7) (B := p0) (fun _ _ _ => by kernel_rfl))
  (Sim.ret (A := p0) (E := (exAt (exAt ex 0 p3) 1 p4)) (fun _ => ⟨rfl, rfl, trivial⟩)))
  (Sim.weak (B := p7) (C := p8) (Sim.skip (A := p7)) (fun _ => ⟨rfl, rfl, rfl, rfl, rfl, rfl, rfl, rfl, rfl, rfl, trivial⟩)))
  (Sim.seq (Sim.reg (A := p8) (B := p9) (fun _ _ _ => by kernel_rfl))
  (Sim.reg (A := p9) (B := p4) (fun _ _ _ => by kernel_rfl)))))))
  (Sim.reg (A := p4) (B := p4) (fun _ _ _ => by kernel_rfl))))))))
  (Sim.seq (Sim.test (A := p3) (B := p3) (fun _ _ _ => by kernel_rfl) (Sim.seq (Sim.reg (A := p3) (B := p10) (fun _ _ _ => by kernel_rfl))
  (Sim.seq (Sim.reg (A := p10) (B := p0) (fun _ _ _ => by kernel_rfl))
  (Sim.ret (A := p0) (E := ex) (fun _ => ⟨rfl, rfl, trivial⟩))))
  (Sim.skip (A := p3)))
  (Sim.seq (Sim.test (A := p3) (B := p3) (fun _ _ _ => by kernel_rfl) (Sim.seq (Sim.reg (A := p3) (B := p0) (fun _ _ _ => by kernel_rfl))
  (Sim.ret (A := p0) (E := ex) (fun _ => ⟨rfl, rfl, trivial⟩)))
  (Sim.skip (A := p3)))
  (Sim.seq (Sim.reg (A := p3) (B := p11) (fun _ _ _ => by kernel_rfl))
  (Sim.seq (Sim.reg (A := p11) (B := p12) (fun _ _ _ => by kernel_rfl))
  (Sim.seq (Sim.reg (A := p12) (B := p13) (fun _ _ _ => by kernel_rfl))
  (Sim.seq (Sim.test (A := p13) (B := p13) (fun _ _ _ => by kernel_rfl) (Sim.reg (A := p13) (B := p14) (fun _ _ _ => by kernel_rfl))
  (Sim.weak (B := p13) (C := p14) (Sim.skip (A := p13)) (fun _ => ⟨rfl, rfl, rfl, rfl, trivial⟩)))
  (Sim.seq (Sim.reg (A := p14) (B := p1) (fun _ _ _ => by kernel_rfl))
  (Sim.seq (Sim.seq (Sim.reg (A := p1) (B := p15) (fun _ _ _ => by kernel_rfl))
  (Sim.block (B := p10) (Sim.loop (A := p15) (Sim.seq (Sim.reg (A := p15) (B := p16) (fun _ _ _ => by kernel_rfl))
  (Sim.seq (Sim.cond (A := p16) (fun s => s.t83) (fun _ => rfl) (Sim.weak (B := p16) (C := p15) (Sim.skip (A := p16)) (fun _ => ⟨rfl, rfl, rfl, rfl, trivial⟩))
  (Sim.exit (A := p16) (fun _ => ⟨rfl, trivial⟩)))
  (Sim.seq (Sim.block (B := p15) (Sim.seq (Sim.reg (A := p15) (B := p17) (fun _ _ _ => by kernel_rfl))
  (Sim.seq (Sim.reg (A := p17) (B := p18) (fun _ _ _ => by kernel_rfl))
  (Sim.seq (Sim.test (A := p18) (B := p18) (fun _ _ _ => by kernel_rfl) (Sim.seq (Sim.reg (A := p18) (B := p0) (fun _ _ _ => by kernel_rfl))
  (Sim.ret (A := p0) (E := (exAt (exAt ex 2 p10) 3 p15)) (fun _ => ⟨rfl, rfl, trivial⟩)))
  (Sim.weak (B := p18) (C := p19) (Sim.skip (A := p18)) (fun _ => ⟨rfl, rfl, rfl, rfl, rfl, rfl, trivial⟩)))
  (Sim.reg (A := p19) (B := p15) (fun _ _ _ => by kernel_rfl))))))
  (Sim.reg (A := p15) (B := p15) (fun _ _ _ => by kernel_rfl))))))))
  (Sim.seq (Sim.reg (A := p10) (B := p0) (fun _ _ _ => by kernel_rfl))
  (Sim.ret (A := p0) (E := ex) (fun _ => ⟨rfl, rfl, trivial⟩)))))))))))))))

def init (x_dst : Sl) (x_blocks : Sl) : St := { x_dst := x_dst, x_blocks := x_blocks, t4 := Sl.nil, t5 := undef, x_totalSize := 0, x_compSize := 0, x_b := Sl.nil, x_l := 0, x_hdr := 0, x_err := undef, x_tmp := none, x_hdrSize := 0, x_wantSize := 0, x_bq17 := Sl.nil, x_hdrq19 := 0, x_errq20 := undef, t21 := Sl.nil, t22 := 0, t23 := 0, t24 := false, t80 := Sl.nil, t81 := 0, t82 := 0, t83 := false }

/-- What is left of the results. -/
def res (K : Sl → Value → Heap → Prop) (s : St) (h1 : Heap) : Prop := K s.t4 s.t5 h1

/-- The call of 'pub-pemmican/pub/compress/s2.ConcatBlocks'. -/
theorem calls (x_dst : Sl) (x_blocks : Sl) (h : Heap) (K : Sl → Value → Heap → Prop)
    (H : stm (init x_dst x_blocks) h (endK (res K))) : c_ConcatBlocks x_dst x_blocks h K := by
  have hc : CallsH Pg 44 #[(.slice x_dst.p x_dst.n x_dst.c), (.slice x_blocks.p x_blocks.n x_blocks.c)] h fun v h1 => asT v fun l1 => asC l1 fun v1 l2 => asS v1 fun p1 n1 c1 => asC l2 fun v2 l3 => asN l3 (K ⟨p1, n1, c1⟩ v2 h1) :=
    callsH_of_sim (R := p0) (fn := Tryd.f44) (c := Tryd.f44.body.getD .skip) Tryd.func44 rfl Tryd.ntmps44 Tryd.call44 sim (init x_dst x_blocks) (⟨rfl, rfl, trivial⟩) (Nat.le_of_ble_eq_true rfl) (fun _ => ⟨rfl, rfl, trivial⟩) rfl
      (res K) (fun _ _ => by kernel_rfl) H
  refine hc.mono ?_
  intro v hp H
  obtain ⟨l1, rfl, h1⟩ := asT_elim H
  obtain ⟨v1, l2, rfl, h2⟩ := asC_elim h1
  obtain ⟨p1, n1, c1, rfl, h3⟩ := asS_elim h2
  obtain ⟨v2, l3, rfl, h4⟩ := asC_elim h3
  obtain ⟨rfl, h5⟩ := asN_elim h4
  exact ⟨_, _, _, _, rfl, h5⟩

end M_ConcatBlocks

end Go.Proofs.YtibleenkgmkpmaaDoor

namespace Go.Proofs.YtibleenkgmkpmaaDoor
open Go Go.Vc Go.Proofs

namespace M_impl_S2Concat

structure St where
  x_dst : Sl
  x_blocks : Sl
  t4 : Sl
  t5 : Bool

def p0 : Pt St where
  env s := [(4, (.slice s.t4.p s.t4.n s.t4.c)), (5, (.bool s.t5))]
  fin e s K := getV e 4 fun v1 => asS v1 fun p1 n1 c1 => getV e 5 fun v2 => asB v2 fun b1 => K { s with t4 := ⟨p1, n1, c1⟩, t5 := b1 }
  ok := by
    intro e s K h0
    obtain ⟨w1, g1, h1⟩ := getV_elim h0
    obtain ⟨p1, n1, c1, rfl, h2⟩ := asS_elim h1
    obtain ⟨w2, g2, h3⟩ := getV_elim h2
    obtain ⟨b1, rfl, h4⟩ := asB_elim h3
    exact ⟨_, ⟨g1, g2, trivial⟩, h4⟩

def p1 : Pt St where
  env s := [(0, (.slice s.x_dst.p s.x_dst.n s.x_dst.c)), (1, (.slice s.x_blocks.p s.x_blocks.n s.x_blocks.c))]
  fin e s K := getV e 0 fun v1 => asS v1 fun p1 n1 c1 => getV e 1 fun v2 => asS v2 fun p2 n2 c2 => K { s with x_dst := ⟨p1, n1, c1⟩, x_blocks := ⟨p2, n2, c2⟩ }
  ok := by
    intro e s K h0
    obtain ⟨w1, g1, h1⟩ := getV_elim h0
    obtain ⟨p1, n1, c1, rfl, h2⟩ := asS_elim h1
    obtain ⟨w2, g2, h3⟩ := getV_elim h2
    obtain ⟨p2, n2, c2, rfl, h4⟩ := asS_elim h3
    exact ⟨_, ⟨g1, g2, trivial⟩, h4⟩

def r0 (s : St) (h : Heap) (Q : St → Heap → Prop) : Prop :=
  Q s h

def r1 (s : St) (h : Heap) (Q : St → Heap → Prop) : Prop :=
  c_impl_copied s.x_dst h fun w2 h1 =>
  c_ConcatBlocks w2 s.x_blocks h1 fun w4 u5 h3 =>
  c_impl_told w4 u5 h3 fun w7 b8 h6 =>
  Q { s with t4 := w7, t5 := b8 } h6

def stm : Stm St := (.seq (.reg r0) (.seq (.reg r1) .ret))

def ex : Ex → Pt St := fun _ => p0

set_option maxRecDepth 100000 in
theorem sim : Sim Pg 15 p1 (Tryd.f21.body.getD .skip) stm p0 ex :=
  (Sim.seq (Sim.reg (A := p1) (B := p1) (fun _ _ _ => by kernel_rfl))
  (Sim.seq (Sim.reg (A := p1) (B := p0) (fun _ _ _ => by kernel_rfl))
  (Sim.ret (A := p0) (E := ex) (fun _ => ⟨rfl, rfl, trivial⟩))))

def init (x_dst : Sl) (x_blocks : Sl) : St := { x_dst := x_dst, x_blocks := x_blocks, t4 := Sl.nil, t5 := false }

/-- What is left of the results. -/
def res (K : Sl → Bool → Heap → Prop) (s : St) (h1 : Heap) : Prop := K s.t4 s.t5 h1

/-- The call of 'pub-pemmican/impl.S2Concat'. -/
theorem calls (x_dst : Sl) (x_blocks : Sl) (h : Heap) (K : Sl → Bool → Heap → Prop)
    (H : stm (init x_dst x_blocks) h (endK (res K))) : c_impl_S2Concat x_dst x_blocks h K := by
  have hc : CallsH Pg 21 #[(.slice x_dst.p x_dst.n x_dst.c), (.slice x_blocks.p x_blocks.n x_blocks.c)] h fun v h1 => asT v fun l1 => asC l1 fun v1 l2 => asS v1 fun p1 n1 c1 => asC l2 fun v2 l3 => asB v2 fun b1 => asN l3 (K ⟨p1, n1, c1⟩ b1 h1) :=
    callsH_of_sim (R := p0) (fn := Tryd.f21) (c := Tryd.f21.body.getD .skip) Tryd.func21 rfl Tryd.ntmps21 Tryd.call21 sim (init x_dst x_blocks) (⟨rfl, rfl, trivial⟩) (Nat.le_of_ble_eq_true rfl) (fun _ => ⟨rfl, rfl, trivial⟩) rfl
      (res K) (fun _ _ => by kernel_rfl) H
  refine hc.mono ?_
  intro v hp H
  obtain ⟨l1, rfl, h1⟩ := asT_elim H
  obtain ⟨v1, l2, rfl, h2⟩ := asC_elim h1
  obtain ⟨p1, n1, c1, rfl, h3⟩ := asS_elim h2
  obtain ⟨v2, l3, rfl, h4⟩ := asC_elim h3
  obtain ⟨b1, rfl, h5⟩ := asB_elim h4
  obtain ⟨rfl, h6⟩ := asN_elim h5
  exact ⟨_, _, _, _, rfl, h6⟩

end M_impl_S2Concat

end Go.Proofs.YtibleenkgmkpmaaDoor

namespace Go.Proofs.YtibleenkgmkpmaaDoor
open Go Go.Vc Go.Proofs

namespace M_laws_zzFits3

structure St where
  x_x : Sl
  t2 : Bool
  x_v : Sl
  t8 : Sl
  t9 : Int
  t10 : Int
  t11 : Bool

def p0 : Pt St where
  env s := [(2, (.bool s.t2))]
  fin e s K := getV e 2 fun v1 => asB v1 fun b1 => K { s with t2 := b1 }
  ok := by
    intro e s K h0
    obtain ⟨w1, g1, h1⟩ := getV_elim h0
    obtain ⟨b1, rfl, h2⟩ := asB_elim h1
    exact ⟨_, ⟨g1, trivial⟩, h2⟩

def p1 : Pt St where
  env s := [(0, (.slice s.x_x.p s.x_x.n s.x_x.c))]
  fin e s K := getV e 0 fun v1 => asS v1 fun p1 n1 c1 => K { s with x_x := ⟨p1, n1, c1⟩ }
  ok := by
    intro e s K h0
    obtain ⟨w1, g1, h1⟩ := getV_elim h0
    obtain ⟨p1, n1, c1, rfl, h2⟩ := asS_elim h1
    exact ⟨_, ⟨g1, trivial⟩, h2⟩

def p2 : Pt St where
  env s := [(8, (.slice s.t8.p s.t8.n s.t8.c)), (9, (.int .i64 s.t9)), (10, (.int .i64 s.t10))]
  fin e s K := getV e 8 fun v1 => asS v1 fun p1 n1 c1 => getV e 9 fun v2 => asI .i64 v2 fun n2 => getV e 10 fun v3 => asI .i64 v3 fun n3 => K { s with t8 := ⟨p1, n1, c1⟩, t9 := n2, t10 := n3 }
  ok := by
    intro e s K h0
    obtain ⟨w1, g1, h1⟩ := getV_elim h0
    obtain ⟨p1, n1, c1, rfl, h2⟩ := asS_elim h1
    obtain ⟨w2, g2, h3⟩ := getV_elim h2
    obtain ⟨n2, rfl, h4⟩ := asI_elim h3
    obtain ⟨w3, g3, h5⟩ := getV_elim h4
    obtain ⟨n3, rfl, h6⟩ := asI_elim h5
    exact ⟨_, ⟨g1, g2, g3, trivial⟩, h6⟩

def p3 : Pt St where
  env s := []
  fin e s K := K s
  ok := by
    intro e s K h0
    exact ⟨_, trivial, h0⟩

def p4 : Pt St where
  env s := [(8, (.slice s.t8.p s.t8.n s.t8.c)), (9, (.int .i64 s.t9)), (10, (.int .i64 s.t10)), (11, (.bool s.t11))]
  fin e s K := getV e 8 fun v1 => asS v1 fun p1 n1 c1 => getV e 9 fun v2 => asI .i64 v2 fun n2 => getV e 10 fun v3 => asI .i64 v3 fun n3 => getV e 11 fun v4 => asB v4 fun b1 => K { s with t8 := ⟨p1, n1, c1⟩, t9 := n2, t10 := n3, t11 := b1 }
  ok := by
    intro e s K h0
    obtain ⟨w1, g1, h1⟩ := getV_elim h0
    obtain ⟨p1, n1, c1, rfl, h2⟩ := asS_elim h1
    obtain ⟨w2, g2, h3⟩ := getV_elim h2
    obtain ⟨n2, rfl, h4⟩ := asI_elim h3
    obtain ⟨w3, g3, h5⟩ := getV_elim h4
    obtain ⟨n3, rfl, h6⟩ := asI_elim h5
    obtain ⟨w4, g4, h7⟩ := getV_elim h6
    obtain ⟨b1, rfl, h8⟩ := asB_elim h7
    exact ⟨_, ⟨g1, g2, g3, g4, trivial⟩, h8⟩

def p5 : Pt St where
  env s := [(4, (.slice s.x_v.p s.x_v.n s.x_v.c)), (8, (.slice s.t8.p s.t8.n s.t8.c)), (9, (.int .i64 s.t9)), (10, (.int .i64 s.t10))]
  fin e s K := getV e 4 fun v1 => asS v1 fun p1 n1 c1 => getV e 8 fun v2 => asS v2 fun p2 n2 c2 => getV e 9 fun v3 => asI .i64 v3 fun n3 => getV e 10 fun v4 => asI .i64 v4 fun n4 => K { s with x_v := ⟨p1, n1, c1⟩, t8 := ⟨p2, n2, c2⟩, t9 := n3, t10 := n4 }
  ok := by
    intro e s K h0
    obtain ⟨w1, g1, h1⟩ := getV_elim h0
    obtain ⟨p1, n1, c1, rfl, h2⟩ := asS_elim h1
    obtain ⟨w2, g2, h3⟩ := getV_elim h2
    obtain ⟨p2, n2, c2, rfl, h4⟩ := asS_elim h3
    obtain ⟨w3, g3, h5⟩ := getV_elim h4
    obtain ⟨n3, rfl, h6⟩ := asI_elim h5
    obtain ⟨w4, g4, h7⟩ := getV_elim h6
    obtain ⟨n4, rfl, h8⟩ := asI_elim h7
    exact ⟨_, ⟨g1, g2, g3, g4, trivial⟩, h8⟩

def r0 (s : St) (h : Heap) (Q : St → Heap → Prop) : Prop :=
  Q s h

def r1 (s : St) (h : Heap) (Q : Bool → St → Heap → Prop) : Prop :=
  Q (decide (((s.x_x.n : Nat) : Int) > (2147483647 : Int))) s h

def r2 (s : St) (h : Heap) (Q : St → Heap → Prop) : Prop :=
  Q { s with t2 := false } h

def r3 (s : St) (h : Heap) (Q : St → Heap → Prop) : Prop :=
  Q { s with t8 := s.x_x, t9 := ((s.x_x.n : Nat) : Int), t10 := (0 : Int) } h

def r4 (s : St) (h : Heap) (Q : St → Heap → Prop) : Prop :=
  Q { s with t11 := (decide (s.t10 < s.t9)) } h

def r5 (s : St) (h : Heap) (Q : St → Heap → Prop) : Prop :=
  0 ≤ s.t10 ∧ s.t10 < ((s.t8.n : Nat) : Int) ∧
  ptrE s.t8.p fun a1 =>
  ∃ (p2 : Option Addr) (n3 c4 : Nat), hcell h (Addr.add a1 (Int.toNat s.t10 * 1)) = some (.slice p2 n3 c4) ∧
  Q { s with x_v := ⟨p2, n3, c4⟩ } h

def r6 (s : St) (h : Heap) (Q : Bool → St → Heap → Prop) : Prop :=
  c_laws_zzFits1 s.x_v h fun b2 h1 =>
  Q (!b2) s h1

def r7 (s : St) (h : Heap) (Q : St → Heap → Prop) : Prop :=
  Q { s with t2 := false } h

def r8 (s : St) (h : Heap) (Q : St → Heap → Prop) : Prop :=
  Q { s with t10 := (IntKind.wrap .i64 (s.t10 + (1 : Int))) } h

def r9 (s : St) (h : Heap) (Q : St → Heap → Prop) : Prop :=
  Q { s with t2 := true } h

def k6 : Stm St := (.test r6 (.seq (.reg r7) .ret) .skip)
def k5 : Stm St := (.seq (.block 1 (.seq (.reg r5) k6)) (.reg r8))
def k4 : Stm St := (.seq (.cond (fun s => s.t11) .skip (.exit 0)) k5)
def k3 : Stm St := (.seq (.reg r4) k4)
def k2 : Stm St := (.block 0 (.loop k3))
def k1 : Stm St := (.seq (.seq (.reg r3) k2) (.seq (.reg r9) .ret))
def k0 : Stm St := (.seq (.test r1 (.seq (.reg r2) .ret) .skip) k1)

def stm : Stm St := (.seq (.reg r0) k0)

def ex : Ex → Pt St := fun _ => p0

set_option maxRecDepth 100000 in
theorem sim : Sim Pg 18 p1 (Tryd.f20.body.getD .skip) stm p0 ex :=
  (Sim.seq (Sim.reg (A := p1) (B := p1) (fun _ _ _ => by kernel_rfl))
  (Sim.seq (Sim.test (A := p1) (B := p1) (fun _ _ _ => by kernel_rfl) (Sim.seq (Sim.reg (A := p1) (B := p0) (fun _ _ _ => by kernel_rfl))
  (Sim.ret (A := p0) (E := ex) (fun _ => ⟨rfl, trivial⟩)))
  (Sim.skip (A := p1)))
  (Sim.seq (Sim.seq (Sim.reg (A := p1) (B := p2) (fun _ _ _ => by kernel_rfl))
  (Sim.block (B := p3) (Sim.loop (A := p2) (Sim.seq (Sim.reg (A := p2) (B := p4) (fun _ _ _ => by kernel_rfl))
  (Sim.seq (Sim.cond (A := p4) (fun s => s.t11) (fun _ => rfl) (Sim.weak (B := p4) (C := p2) (Sim.skip (A := p4)) (fun _ => ⟨rfl, rfl, rfl, trivial⟩))
  (Sim.exit (A := p4) (fun _ => trivial)))
  (Sim.seq (Sim.block (B := p2) (Sim.seq (Sim.reg (A := p2) (B := p5) (fun _ _ _ => by kernel_rfl))
  (Sim.test (A := p5) (B := p2) (fun _ _ _ => by kernel_rfl) (Sim.seq (Sim.reg (A := p2) (B := p0) (fun _ _ _ => by kernel_rfl))
  (Sim.ret (A := p0) (E := (exAt (exAt ex 0 p3) 1 p2)) (fun _ => ⟨rfl, trivial⟩)))
  (Sim.skip (A := p2)))))
  (Sim.reg (A := p2) (B := p2) (fun _ _ _ => by kernel_rfl))))))))
  (Sim.seq (Sim.reg (A := p3) (B := p0) (fun _ _ _ => by kernel_rfl))
  (Sim.ret (A := p0) (E := ex) (fun _ => ⟨rfl, trivial⟩))))))

def init (x_x : Sl) : St := { x_x := x_x, t2 := false, x_v := Sl.nil, t8 := Sl.nil, t9 := 0, t10 := 0, t11 := false }

/-- What is left of the results. -/
def res (K : Bool → Heap → Prop) (s : St) (h1 : Heap) : Prop := K s.t2 h1

/-- The call of 'pub-pemmican/laws.zzFits3'. -/
theorem calls (x_x : Sl) (h : Heap) (K : Bool → Heap → Prop)
    (H : stm (init x_x) h (endK (res K))) : c_laws_zzFits3 x_x h K := by
  have hc : CallsH Pg 20 #[(.slice x_x.p x_x.n x_x.c)] h fun v h1 => asB v fun b1 => K b1 h1 :=
    callsH_of_sim (R := p0) (fn := Tryd.f20) (c := Tryd.f20.body.getD .skip) Tryd.func20 rfl Tryd.ntmps20 Tryd.call20 sim (init x_x) (⟨rfl, trivial⟩) (Nat.le_of_ble_eq_true rfl) (fun _ => ⟨rfl, trivial⟩) rfl
      (res K) (fun _ _ => by kernel_rfl) H
  refine hc.mono ?_
  intro v hp H
  obtain ⟨b1, rfl, h1⟩ := asB_elim H
  exact ⟨_, rfl, h1⟩

end M_laws_zzFits3

end Go.Proofs.YtibleenkgmkpmaaDoor

