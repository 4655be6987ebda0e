/- Models of functions of the program: what each one computes, over heaps, tied to the program by one check a region. Written by a program. -/
import Derived.Test.YtibleenkgmkpmaaDoorSigs
namespace Go.Proofs.YtibleenkgmkpmaaDoor
open Go Go.Vc Go.Proofs

namespace M_emitLiteralGo

structure St where
  x_dst : Sl
  x_lit : Sl
  t4 : Int
  x_i : Int
  x_n : Int

def p0 : Pt St where
  env s := [(4, (.int .i64 s.t4))]
  fin e s K := vI e 4 .i64 fun n1 => K { s with t4 := n1 }
  ok := by
    intro e s K h0
    obtain ⟨n1, g1, h2⟩ := gI h0
    exact ⟨_, ⟨g1, trivial⟩, h2⟩

def p1 : Pt St where
  env s := [(0, (.slice s.x_dst.p s.x_dst.n s.x_dst.c)), (1, (.slice s.x_lit.p s.x_lit.n s.x_lit.c))]
  fin e s K := vS e 0 fun p1 n1 c1 => vS e 1 fun p2 n2 c2 => K { s with x_dst := ⟨p1, n1, c1⟩, x_lit := ⟨p2, n2, c2⟩ }
  ok := by
    intro e s K h0
    obtain ⟨p1, n1, c1, g1, h2⟩ := gS h0
    obtain ⟨p2, n2, c2, g2, h4⟩ := gS h2
    exact ⟨_, ⟨g1, g2, trivial⟩, h4⟩

def p2 : Pt St where
  env s := [(0, (.slice s.x_dst.p s.x_dst.n s.x_dst.c)), (1, (.slice s.x_lit.p s.x_lit.n s.x_lit.c)), (6, (.int .u64 s.x_n))]
  fin e s K := vS e 0 fun p1 n1 c1 => vS e 1 fun p2 n2 c2 => vI e 6 .u64 fun n3 => K { s with x_dst := ⟨p1, n1, c1⟩, x_lit := ⟨p2, n2, c2⟩, x_n := n3 }
  ok := by
    intro e s K h0
    obtain ⟨p1, n1, c1, g1, h2⟩ := gS h0
    obtain ⟨p2, n2, c2, g2, h4⟩ := gS h2
    obtain ⟨n3, g3, h6⟩ := gI h4
    exact ⟨_, ⟨g1, g2, g3, trivial⟩, h6⟩

def p3 : Pt St where
  env s := [(0, (.slice s.x_dst.p s.x_dst.n s.x_dst.c)), (1, (.slice s.x_lit.p s.x_lit.n s.x_lit.c)), (5, (.int .i64 s.x_i))]
  fin e s K := vS e 0 fun p1 n1 c1 => vS e 1 fun p2 n2 c2 => vI e 5 .i64 fun n3 => K { s with x_dst := ⟨p1, n1, c1⟩, x_lit := ⟨p2, n2, c2⟩, x_i := n3 }
  ok := by
    intro e s K h0
    obtain ⟨p1, n1, c1, g1, h2⟩ := gS h0
    obtain ⟨p2, n2, c2, g2, h4⟩ := gS h2
    obtain ⟨n3, g3, h6⟩ := gI h4
    exact ⟨_, ⟨g1, g2, g3, trivial⟩, h6⟩

def r0 (s : St) (h : Heap) (Q : St → Heap → Prop) : Prop :=
  Q s h

def r1 (s : St) (h : Heap) (Q : Bool → St → Heap → Prop) : Prop :=
  Q (((s.x_lit.n : Nat) : Int) == (0 : Int)) s h

def r2 (s : St) (h : Heap) (Q : St → Heap → Prop) : Prop :=
  Q { s with t4 := (0 : Int) } h

def r3 (s : St) (h : Heap) (Q : St → Heap → Prop) : Prop :=
  Q { s with x_n := (IntKind.wrap .u64 (IntKind.wrap .i64 (((s.x_lit.n : Nat) : Int) - (1 : Int)))) } h

def r4 (s : St) (h : Heap) (Q : St → Heap → Prop) : Prop :=
  0 ≤ (4 : Int) ∧ (4 : Int) < ((s.x_dst.n : Nat) : Int) ∧
  ptrE s.x_dst.p fun a1 =>
  st1 (Addr.add (Addr.add a1 (Int.toNat (4 : Int) * 1)) 0) (.int .u8 (IntKind.wrap .u8 (Int.fdiv s.x_n (2 ^ (24 : Nat))))) h fun h2 =>
  Q s h2

def r5 (s : St) (h : Heap) (Q : St → Heap → Prop) : Prop :=
  0 ≤ (3 : Int) ∧ (3 : Int) < ((s.x_dst.n : Nat) : Int) ∧
  ptrE s.x_dst.p fun a1 =>
  st1 (Addr.add (Addr.add a1 (Int.toNat (3 : Int) * 1)) 0) (.int .u8 (IntKind.wrap .u8 (Int.fdiv s.x_n (2 ^ (16 : Nat))))) h fun h2 =>
  Q s h2

def r6 (s : St) (h : Heap) (Q : St → Heap → Prop) : Prop :=
  0 ≤ (2 : Int) ∧ (2 : Int) < ((s.x_dst.n : Nat) : Int) ∧
  ptrE s.x_dst.p fun a1 =>
  st1 (Addr.add (Addr.add a1 (Int.toNat (2 : Int) * 1)) 0) (.int .u8 (IntKind.wrap .u8 (Int.fdiv s.x_n (2 ^ (8 : Nat))))) h fun h2 =>
  Q s h2

def r7 (s : St) (h : Heap) (Q : St → Heap → Prop) : Prop :=
  0 ≤ (1 : Int) ∧ (1 : Int) < ((s.x_dst.n : Nat) : Int) ∧
  ptrE s.x_dst.p fun a1 =>
  st1 (Addr.add (Addr.add a1 (Int.toNat (1 : Int) * 1)) 0) (.int .u8 (IntKind.wrap .u8 s.x_n)) h fun h2 =>
  Q s h2

def r8 (s : St) (h : Heap) (Q : St → Heap → Prop) : Prop :=
  0 ≤ (0 : Int) ∧ (0 : Int) < ((s.x_dst.n : Nat) : Int) ∧
  ptrE s.x_dst.p fun a1 =>
  st1 (Addr.add (Addr.add a1 (Int.toNat (0 : Int) * 1)) 0) (.int .u8 (252 : Int)) h fun h2 =>
  Q s h2

def r9 (s : St) (h : Heap) (Q : St → Heap → Prop) : Prop :=
  Q { s with x_i := (5 : Int) } h

def r10 (s : St) (h : Heap) (Q : Bool → St → Heap → Prop) : Prop :=
  Q (decide (s.x_n < (60 : Int))) s h

def r11 (s : St) (h : Heap) (Q : St → Heap → Prop) : Prop :=
  0 ≤ (0 : Int) ∧ (0 : Int) < ((s.x_dst.n : Nat) : Int) ∧
  ptrE s.x_dst.p fun a1 =>
  st1 (Addr.add (Addr.add a1 (Int.toNat (0 : Int) * 1)) 0) (.int .u8 (bOr .u8 (IntKind.wrap .u8 ((IntKind.wrap .u8 s.x_n) * 2 ^ (2 : Nat))) (0 : Int))) h fun h2 =>
  Q s h2

def r12 (s : St) (h : Heap) (Q : St → Heap → Prop) : Prop :=
  Q { s with x_i := (1 : Int) } h

def r13 (s : St) (h : Heap) (Q : Bool → St → Heap → Prop) : Prop :=
  Q (decide (s.x_n < (256 : Int))) s h

def r14 (s : St) (h : Heap) (Q : St → Heap → Prop) : Prop :=
  0 ≤ (1 : Int) ∧ (1 : Int) < ((s.x_dst.n : Nat) : Int) ∧
  ptrE s.x_dst.p fun a1 =>
  st1 (Addr.add (Addr.add a1 (Int.toNat (1 : Int) * 1)) 0) (.int .u8 (IntKind.wrap .u8 s.x_n)) h fun h2 =>
  Q s h2

def r15 (s : St) (h : Heap) (Q : St → Heap → Prop) : Prop :=
  0 ≤ (0 : Int) ∧ (0 : Int) < ((s.x_dst.n : Nat) : Int) ∧
  ptrE s.x_dst.p fun a1 =>
  st1 (Addr.add (Addr.add a1 (Int.toNat (0 : Int) * 1)) 0) (.int .u8 (240 : Int)) h fun h2 =>
  Q s h2

def r16 (s : St) (h : Heap) (Q : St → Heap → Prop) : Prop :=
  Q { s with x_i := (2 : Int) } h

def r17 (s : St) (h : Heap) (Q : Bool → St → Heap → Prop) : Prop :=
  Q (decide (s.x_n < (65536 : Int))) s h

def r18 (s : St) (h : Heap) (Q : St → Heap → Prop) : Prop :=
  0 ≤ (2 : Int) ∧ (2 : Int) < ((s.x_dst.n : Nat) : Int) ∧
  ptrE s.x_dst.p fun a1 =>
  st1 (Addr.add (Addr.add a1 (Int.toNat (2 : Int) * 1)) 0) (.int .u8 (IntKind.wrap .u8 (Int.fdiv s.x_n (2 ^ (8 : Nat))))) h fun h2 =>
  Q s h2

def r19 (s : St) (h : Heap) (Q : St → Heap → Prop) : Prop :=
  0 ≤ (1 : Int) ∧ (1 : Int) < ((s.x_dst.n : Nat) : Int) ∧
  ptrE s.x_dst.p fun a1 =>
  st1 (Addr.add (Addr.add a1 (Int.toNat (1 : Int) * 1)) 0) (.int .u8 (IntKind.wrap .u8 s.x_n)) h fun h2 =>
  Q s h2

def r20 (s : St) (h : Heap) (Q : St → Heap → Prop) : Prop :=
  0 ≤ (0 : Int) ∧ (0 : Int) < ((s.x_dst.n : Nat) : Int) ∧
  ptrE s.x_dst.p fun a1 =>
  st1 (Addr.add (Addr.add a1 (Int.toNat (0 : Int) * 1)) 0) (.int .u8 (244 : Int)) h fun h2 =>
  Q s h2

def r21 (s : St) (h : Heap) (Q : St → Heap → Prop) : Prop :=
  Q { s with x_i := (3 : Int) } h

def r22 (s : St) (h : Heap) (Q : Bool → St → Heap → Prop) : Prop :=
  Q (decide (s.x_n < (16777216 : Int))) s h

def r23 (s : St) (h : Heap) (Q : St → Heap → Prop) : Prop :=
  0 ≤ (3 : Int) ∧ (3 : Int) < ((s.x_dst.n : Nat) : Int) ∧
  ptrE s.x_dst.p fun a1 =>
  st1 (Addr.add (Addr.add a1 (Int.toNat (3 : Int) * 1)) 0) (.int .u8 (IntKind.wrap .u8 (Int.fdiv s.x_n (2 ^ (16 : Nat))))) h fun h2 =>
  Q s h2

def r24 (s : St) (h : Heap) (Q : St → Heap → Prop) : Prop :=
  0 ≤ (2 : Int) ∧ (2 : Int) < ((s.x_dst.n : Nat) : Int) ∧
  ptrE s.x_dst.p fun a1 =>
  st1 (Addr.add (Addr.add a1 (Int.toNat (2 : Int) * 1)) 0) (.int .u8 (IntKind.wrap .u8 (Int.fdiv s.x_n (2 ^ (8 : Nat))))) h fun h2 =>
  Q s h2

def r25 (s : St) (h : Heap) (Q : St → Heap → Prop) : Prop :=
  0 ≤ (1 : Int) ∧ (1 : Int) < ((s.x_dst.n : Nat) : Int) ∧
  ptrE s.x_dst.p fun a1 =>
  st1 (Addr.add (Addr.add a1 (Int.toNat (1 : Int) * 1)) 0) (.int .u8 (IntKind.wrap .u8 s.x_n)) h fun h2 =>
  Q s h2

def r26 (s : St) (h : Heap) (Q : St → Heap → Prop) : Prop :=
  0 ≤ (0 : Int) ∧ (0 : Int) < ((s.x_dst.n : Nat) : Int) ∧
  ptrE s.x_dst.p fun a1 =>
  st1 (Addr.add (Addr.add a1 (Int.toNat (0 : Int) * 1)) 0) (.int .u8 (248 : Int)) h fun h2 =>
  Q s h2

def r27 (s : St) (h : Heap) (Q : St → Heap → Prop) : Prop :=
  Q { s with x_i := (4 : Int) } h

def r28 (s : St) (h : Heap) (Q : St → Heap → Prop) : Prop :=
  0 ≤ s.x_i ∧ s.x_i ≤ ((s.x_dst.n : Nat) : Int) ∧
  copyT Pg 5 (subP s.x_dst.p (Int.toNat s.x_i) s.x_dst.c 1) (s.x_dst.n - (Int.toNat s.x_i)) (.slice s.x_lit.p s.x_lit.n s.x_lit.c) s.x_lit.n h fun n1 h2 =>
  Q { s with t4 := (IntKind.wrap .i64 (s.x_i + n1)) } h2

def k15 : Stm St := (.seq (.reg r7) (.seq (.reg r8) (.reg r9)))
def k14 : Stm St := (.seq (.reg r6) k15)
def k13 : Stm St := (.seq (.reg r5) k14)
def k12 : Stm St := (.seq (.reg r4) k13)
def k11 : Stm St := (.seq (.reg r25) (.seq (.reg r26) (.reg r27)))
def k10 : Stm St := (.seq (.reg r24) k11)
def k9 : Stm St := (.seq (.reg r23) k10)
def k8 : Stm St := (.test r22 k9 k12)
def k7 : Stm St := (.seq (.reg r19) (.seq (.reg r20) (.reg r21)))
def k6 : Stm St := (.seq (.reg r18) k7)
def k5 : Stm St := (.test r17 k6 k8)
def k4 : Stm St := (.seq (.reg r14) (.seq (.reg r15) (.reg r16)))
def k3 : Stm St := (.test r13 k4 k5)
def k2 : Stm St := (.seq (.block 0 (.test r10 (.seq (.reg r11) (.reg r12)) k3)) (.seq (.reg r28) .ret))
def k1 : Stm St := (.seq (.reg r3) k2)
def k0 : Stm St := (.seq (.test r1 (.seq (.reg r2) .ret) .skip) k1)

def stm : Stm St := (.seq (.reg r0) k0)

def ex : Ex → Pt St := fun _ => p0

set_option maxRecDepth 100000 in
theorem sim : Sim Pg 93 p1 (Tryd.f89.body.getD .skip) stm p0 ex :=
  (Sim.seq (Sim.reg (A := p1) (B := p1) (fun _ _ _ => by kernel_rfl))
  (Sim.seq (Sim.test (A := p1) (B := p1) (fun _ _ _ => by kernel_rfl) (Sim.seq (Sim.reg (A := p1) (B := p0) (fun _ _ _ => by kernel_rfl))
  (Sim.ret (A := p0) (E := ex) (fun _ => ⟨rfl, trivial⟩)))
  (Sim.skip (A := p1)))
  (Sim.seq (Sim.reg (A := p1) (B := p2) (fun _ _ _ => by kernel_rfl))
  (Sim.seq (Sim.block (B := p3) (Sim.test (A := p2) (B := p2) (fun _ _ _ => by kernel_rfl) (Sim.seq (Sim.reg (A := p2) (B := p1) (fun _ _ _ => by kernel_rfl))
  (Sim.reg (A := p1) (B := p3) (fun _ _ _ => by kernel_rfl)))
  (Sim.test (A := p2) (B := p2) (fun _ _ _ => by kernel_rfl) (Sim.seq (Sim.reg (A := p2) (B := p1) (fun _ _ _ => by kernel_rfl))
  (Sim.seq (Sim.reg (A := p1) (B := p1) (fun _ _ _ => by kernel_rfl))
  (Sim.reg (A := p1) (B := p3) (fun _ _ _ => by kernel_rfl))))
  (Sim.test (A := p2) (B := p2) (fun _ _ _ => by kernel_rfl) (Sim.seq (Sim.reg (A := p2) (B := p2) (fun _ _ _ => by kernel_rfl))
  (Sim.seq (Sim.reg (A := p2) (B := p1) (fun _ _ _ => by kernel_rfl))
  (Sim.seq (Sim.reg (A := p1) (B := p1) (fun _ _ _ => by kernel_rfl))
  (Sim.reg (A := p1) (B := p3) (fun _ _ _ => by kernel_rfl)))))
  (Sim.test (A := p2) (B := p2) (fun _ _ _ => by kernel_rfl) (Sim.seq (Sim.reg (A := p2) (B := p2) (fun _ _ _ => by kernel_rfl))
  (Sim.seq (Sim.reg (A := p2) (B := p2) (fun _ _ _ => by kernel_rfl))
  (Sim.seq (Sim.reg (A := p2) (B := p1) (fun _ _ _ => by kernel_rfl))
  (Sim.seq (Sim.reg (A := p1) (B := p1) (fun _ _ _ => by kernel_rfl))
  (Sim.reg (A := p1) (B := p3) (fun _ _ _ => by kernel_rfl))))))
  (Sim.seq (Sim.reg (A := p2) (B := p2) (fun _ _ _ => by kernel_rfl))
  (Sim.seq (Sim.reg (A := p2) (B := p2) (fun _ _ _ => by kernel_rfl))
  (Sim.seq (Sim.reg (A := p2) (B := p2) (fun _ _ _ => by kernel_rfl))
  (Sim.seq (Sim.reg (A := p2) (B := p1) (fun _ _ _ => by kernel_rfl))
  (Sim.seq (Sim.reg (A := p1) (B := p1) (fun _ _ _ => by kernel_rfl))
  (Sim.reg (A := p1) (B := p3) (fun _ _ _ => by kernel_rfl))))))))))))
  (Sim.seq (Sim.reg (A := p3) (B := p0) (fun _ _ _ => by kernel_rfl))
  (Sim.ret (A := p0) (E := ex) (fun _ => ⟨rfl, trivial⟩)))))))

def init (x_dst : Sl) (x_lit : Sl) : St := { x_dst := x_dst, x_lit := x_lit, t4 := 0, x_i := 0, x_n := 0 }

/-- What is left of the results. -/
def res (K : Int → Heap → Prop) (s : St) (h1 : Heap) : Prop := K s.t4 h1

/-- The call of 'pub-pemmican/pub/compress/s2.emitLiteralGo'. -/
theorem calls (x_dst : Sl) (x_lit : Sl) (h : Heap) (K : Int → Heap → Prop)
    (H : stm (init x_dst x_lit) h (endK (res K))) : c_emitLiteralGo x_dst x_lit h K := by
  have hc : CallsH Pg 89 #[(.slice x_dst.p x_dst.n x_dst.c), (.slice x_lit.p x_lit.n x_lit.c)] h fun v h1 => asI .i64 v fun n1 => K n1 h1 :=
    callsH_of_sim (R := p0) (fn := Tryd.f89) (c := Tryd.f89.body.getD .skip) Tryd.func89 rfl Tryd.ntmps89 Tryd.call89 sim (init x_dst x_lit) (⟨rfl, rfl, trivial⟩) (Nat.le_of_ble_eq_true rfl) (fun _ => ⟨rfl, trivial⟩) rfl
      (res K) (fun _ _ => by kernel_rfl) H
  refine hc.mono ?_
  intro v hp H
  obtain ⟨n1, rfl, h1⟩ := asI_elim H
  exact ⟨_, rfl, h1⟩

end M_emitLiteralGo

end Go.Proofs.YtibleenkgmkpmaaDoor

namespace Go.Proofs.YtibleenkgmkpmaaDoor
open Go Go.Vc Go.Proofs

namespace M_LcS

structure St where
  x_l : Option Addr
  x_dst : Sl
  x_src : Sl
  t6 : Sl
  t7 : Int
  t8 : Value
  x_s : Int
  x_d : Int
  x_res : Int
  x_sz : Int
  x_dLimit : Int
  x_uncompressed : Int
  x_token : Int
  x_ll : Int
  x_ml : Int
  x_val : Int
  x_offset : Int
  x_valq20 : Int
  x_length : Int
  t49 : Int

def p0 : Pt St where
  env s := [(6, (.slice s.t6.p s.t6.n s.t6.c)), (7, (.int .i64 s.t7)), (8, s.t8)]
  fin e s K := vS e 6 fun p1 n1 c1 => vI e 7 .i64 fun n2 => getV e 8 fun v3 => K { s with t6 := ⟨p1, n1, c1⟩, t7 := n2, t8 := v3 }
  ok := by
    intro e s K h0
    obtain ⟨p1, n1, c1, g1, h2⟩ := gS h0
    obtain ⟨n2, g2, h4⟩ := gI h2
    obtain ⟨w3, g3, h5⟩ := getV_elim h4
    exact ⟨_, ⟨g1, g2, g3, trivial⟩, h5⟩

def p1 : Pt St where
  env s := [(0, (.pointer s.x_l)), (1, (.slice s.x_dst.p s.x_dst.n s.x_dst.c)), (2, (.slice s.x_src.p s.x_src.n s.x_src.c))]
  fin e s K := vP e 0 fun p1 => vS e 1 fun p2 n1 c1 => vS e 2 fun p3 n2 c2 => K { s with x_l := p1, x_dst := ⟨p2, n1, c1⟩, x_src := ⟨p3, n2, c2⟩ }
  ok := by
    intro e s K h0
    obtain ⟨p1, g1, h2⟩ := gP h0
    obtain ⟨p2, n1, c1, g2, h4⟩ := gS h2
    obtain ⟨p3, n2, c2, g3, h6⟩ := gS h4
    exact ⟨_, ⟨g1, g2, g3, trivial⟩, h6⟩

def p2 : Pt St where
  env s := [(0, (.pointer s.x_l)), (1, (.slice s.x_dst.p s.x_dst.n s.x_dst.c)), (2, (.slice s.x_src.p s.x_src.n s.x_src.c)), (9, (.int .i64 s.x_s)), (10, (.int .i64 s.x_d))]
  fin e s K := vP e 0 fun p1 => vS e 1 fun p2 n1 c1 => vS e 2 fun p3 n2 c2 => vI e 9 .i64 fun n3 => vI e 10 .i64 fun n4 => K { s with x_l := p1, x_dst := ⟨p2, n1, c1⟩, x_src := ⟨p3, n2, c2⟩, x_s := n3, x_d := n4 }
  ok := by
    intro e s K h0
    obtain ⟨p1, g1, h2⟩ := gP h0
    obtain ⟨p2, n1, c1, g2, h4⟩ := gS h2
    obtain ⟨p3, n2, c2, g3, h6⟩ := gS h4
    obtain ⟨n3, g4, h8⟩ := gI h6
    obtain ⟨n4, g5, h10⟩ := gI h8
    exact ⟨_, ⟨g1, g2, g3, g4, g5, trivial⟩, h10⟩

def p3 : Pt St where
  env s := [(1, (.slice s.x_dst.p s.x_dst.n s.x_dst.c)), (2, (.slice s.x_src.p s.x_src.n s.x_src.c)), (9, (.int .i64 s.x_s)), (10, (.int .i64 s.x_d))]
  fin e s K := vS e 1 fun p1 n1 c1 => vS e 2 fun p2 n2 c2 => vI e 9 .i64 fun n3 => vI e 10 .i64 fun n4 => K { s with x_dst := ⟨p1, n1, c1⟩, x_src := ⟨p2, n2, c2⟩, x_s := n3, x_d := n4 }
  ok := by
    intro e s K h0
    obtain ⟨p1, n1, c1, g1, h2⟩ := gS h0
    obtain ⟨p2, n2, c2, g2, h4⟩ := gS h2
    obtain ⟨n3, g3, h6⟩ := gI h4
    obtain ⟨n4, g4, h8⟩ := gI h6
    exact ⟨_, ⟨g1, g2, g3, g4, trivial⟩, h8⟩

def p4 : Pt St where
  env s := [(1, (.slice s.x_dst.p s.x_dst.n s.x_dst.c)), (10, (.int .i64 s.x_d)), (11, (.int .i64 s.x_res)), (12, (.int .i64 s.x_sz))]
  fin e s K := vS e 1 fun p1 n1 c1 => vI e 10 .i64 fun n2 => vI e 11 .i64 fun n3 => vI e 12 .i64 fun n4 => K { s with x_dst := ⟨p1, n1, c1⟩, x_d := n2, x_res := n3, x_sz := n4 }
  ok := by
    intro e s K h0
    obtain ⟨p1, n1, c1, g1, h2⟩ := gS h0
    obtain ⟨n2, g2, h4⟩ := gI h2
    obtain ⟨n3, g3, h6⟩ := gI h4
    obtain ⟨n4, g4, h8⟩ := gI h6
    exact ⟨_, ⟨g1, g2, g3, g4, trivial⟩, h8⟩

def p5 : Pt St where
  env s := [(49, (.int .i64 s.t49))]
  fin e s K := vI e 49 .i64 fun n1 => K { s with t49 := n1 }
  ok := by
    intro e s K h0
    obtain ⟨n1, g1, h2⟩ := gI h0
    exact ⟨_, ⟨g1, trivial⟩, h2⟩

def p6 : Pt St where
  env s := []
  fin e s K := K s
  ok := by
    intro e s K h0
    exact ⟨_, trivial, h0⟩

def p7 : Pt St where
  env s := [(1, (.slice s.x_dst.p s.x_dst.n s.x_dst.c)), (2, (.slice s.x_src.p s.x_src.n s.x_src.c)), (9, (.int .i64 s.x_s)), (10, (.int .i64 s.x_d)), (13, (.int .i64 s.x_dLimit))]
  fin e s K := vS e 1 fun p1 n1 c1 => vS e 2 fun p2 n2 c2 => vI e 9 .i64 fun n3 => vI e 10 .i64 fun n4 => vI e 13 .i64 fun n5 => K { s with x_dst := ⟨p1, n1, c1⟩, x_src := ⟨p2, n2, c2⟩, x_s := n3, x_d := n4, x_dLimit := n5 }
  ok := by
    intro e s K h0
    obtain ⟨p1, n1, c1, g1, h2⟩ := gS h0
    obtain ⟨p2, n2, c2, g2, h4⟩ := gS h2
    obtain ⟨n3, g3, h6⟩ := gI h4
    obtain ⟨n4, g4, h8⟩ := gI h6
    obtain ⟨n5, g5, h10⟩ := gI h8
    exact ⟨_, ⟨g1, g2, g3, g4, g5, trivial⟩, h10⟩

def p8 : Pt St where
  env s := [(1, (.slice s.x_dst.p s.x_dst.n s.x_dst.c)), (2, (.slice s.x_src.p s.x_src.n s.x_src.c)), (9, (.int .i64 s.x_s)), (10, (.int .i64 s.x_d)), (13, (.int .i64 s.x_dLimit)), (14, (.int .i64 s.x_uncompressed))]
  fin e s K := vS e 1 fun p1 n1 c1 => vS e 2 fun p2 n2 c2 => vI e 9 .i64 fun n3 => vI e 10 .i64 fun n4 => vI e 13 .i64 fun n5 => vI e 14 .i64 fun n6 => K { s with x_dst := ⟨p1, n1, c1⟩, x_src := ⟨p2, n2, c2⟩, x_s := n3, x_d := n4, x_dLimit := n5, x_uncompressed := n6 }
  ok := by
    intro e s K h0
    obtain ⟨p1, n1, c1, g1, h2⟩ := gS h0
    obtain ⟨p2, n2, c2, g2, h4⟩ := gS h2
    obtain ⟨n3, g3, h6⟩ := gI h4
    obtain ⟨n4, g4, h8⟩ := gI h6
    obtain ⟨n5, g5, h10⟩ := gI h8
    obtain ⟨n6, g6, h12⟩ := gI h10
    exact ⟨_, ⟨g1, g2, g3, g4, g5, g6, trivial⟩, h12⟩

def p9 : Pt St where
  env s := [(1, (.slice s.x_dst.p s.x_dst.n s.x_dst.c)), (10, (.int .i64 s.x_d)), (14, (.int .i64 s.x_uncompressed))]
  fin e s K := vS e 1 fun p1 n1 c1 => vI e 10 .i64 fun n2 => vI e 14 .i64 fun n3 => K { s with x_dst := ⟨p1, n1, c1⟩, x_d := n2, x_uncompressed := n3 }
  ok := by
    intro e s K h0
    obtain ⟨p1, n1, c1, g1, h2⟩ := gS h0
    obtain ⟨n2, g2, h4⟩ := gI h2
    obtain ⟨n3, g3, h6⟩ := gI h4
    exact ⟨_, ⟨g1, g2, g3, trivial⟩, h6⟩

def p10 : Pt St where
  env s := [(1, (.slice s.x_dst.p s.x_dst.n s.x_dst.c)), (2, (.slice s.x_src.p s.x_src.n s.x_src.c)), (9, (.int .i64 s.x_s)), (10, (.int .i64 s.x_d)), (13, (.int .i64 s.x_dLimit)), (14, (.int .i64 s.x_uncompressed)), (15, (.int .u8 s.x_token))]
  fin e s K := vS e 1 fun p1 n1 c1 => vS e 2 fun p2 n2 c2 => vI e 9 .i64 fun n3 => vI e 10 .i64 fun n4 => vI e 13 .i64 fun n5 => vI e 14 .i64 fun n6 => vI e 15 .u8 fun n7 => K { s with x_dst := ⟨p1, n1, c1⟩, x_src := ⟨p2, n2, c2⟩, x_s := n3, x_d := n4, x_dLimit := n5, x_uncompressed := n6, x_token := n7 }
  ok := by
    intro e s K h0
    obtain ⟨p1, n1, c1, g1, h2⟩ := gS h0
    obtain ⟨p2, n2, c2, g2, h4⟩ := gS h2
    obtain ⟨n3, g3, h6⟩ := gI h4
    obtain ⟨n4, g4, h8⟩ := gI h6
    obtain ⟨n5, g5, h10⟩ := gI h8
    obtain ⟨n6, g6, h12⟩ := gI h10
    obtain ⟨n7, g7, h14⟩ := gI h12
    exact ⟨_, ⟨g1, g2, g3, g4, g5, g6, g7, trivial⟩, h14⟩

def p11 : Pt St where
  env s := [(1, (.slice s.x_dst.p s.x_dst.n s.x_dst.c)), (2, (.slice s.x_src.p s.x_src.n s.x_src.c)), (9, (.int .i64 s.x_s)), (10, (.int .i64 s.x_d)), (13, (.int .i64 s.x_dLimit)), (14, (.int .i64 s.x_uncompressed)), (15, (.int .u8 s.x_token)), (16, (.int .i64 s.x_ll))]
  fin e s K := vS e 1 fun p1 n1 c1 => vS e 2 fun p2 n2 c2 => vI e 9 .i64 fun n3 => vI e 10 .i64 fun n4 => vI e 13 .i64 fun n5 => vI e 14 .i64 fun n6 => vI e 15 .u8 fun n7 => vI e 16 .i64 fun n8 => K { s with x_dst := ⟨p1, n1, c1⟩, x_src := ⟨p2, n2, c2⟩, x_s := n3, x_d := n4, x_dLimit := n5, x_uncompressed := n6, x_token := n7, x_ll := n8 }
  ok := by
    intro e s K h0
    obtain ⟨p1, n1, c1, g1, h2⟩ := gS h0
    obtain ⟨p2, n2, c2, g2, h4⟩ := gS h2
    obtain ⟨n3, g3, h6⟩ := gI h4
    obtain ⟨n4, g4, h8⟩ := gI h6
    obtain ⟨n5, g5, h10⟩ := gI h8
    obtain ⟨n6, g6, h12⟩ := gI h10
    obtain ⟨n7, g7, h14⟩ := gI h12
    obtain ⟨n8, g8, h16⟩ := gI h14
    exact ⟨_, ⟨g1, g2, g3, g4, g5, g6, g7, g8, trivial⟩, h16⟩

def p12 : Pt St where
  env s := [(1, (.slice s.x_dst.p s.x_dst.n s.x_dst.c)), (2, (.slice s.x_src.p s.x_src.n s.x_src.c)), (9, (.int .i64 s.x_s)), (10, (.int .i64 s.x_d)), (13, (.int .i64 s.x_dLimit)), (14, (.int .i64 s.x_uncompressed)), (15, (.int .u8 s.x_token)), (16, (.int .i64 s.x_ll)), (17, (.int .i64 s.x_ml))]
  fin e s K := vS e 1 fun p1 n1 c1 => vS e 2 fun p2 n2 c2 => vI e 9 .i64 fun n3 => vI e 10 .i64 fun n4 => vI e 13 .i64 fun n5 => vI e 14 .i64 fun n6 => vI e 15 .u8 fun n7 => vI e 16 .i64 fun n8 => vI e 17 .i64 fun n9 => K { s with x_dst := ⟨p1, n1, c1⟩, x_src := ⟨p2, n2, c2⟩, x_s := n3, x_d := n4, x_dLimit := n5, x_uncompressed := n6, x_token := n7, x_ll := n8, x_ml := n9 }
  ok := by
    intro e s K h0
    obtain ⟨p1, n1, c1, g1, h2⟩ := gS h0
    obtain ⟨p2, n2, c2, g2, h4⟩ := gS h2
    obtain ⟨n3, g3, h6⟩ := gI h4
    obtain ⟨n4, g4, h8⟩ := gI h6
    obtain ⟨n5, g5, h10⟩ := gI h8
    obtain ⟨n6, g6, h12⟩ := gI h10
    obtain ⟨n7, g7, h14⟩ := gI h12
    obtain ⟨n8, g8, h16⟩ := gI h14
    obtain ⟨n9, g9, h18⟩ := gI h16
    exact ⟨_, ⟨g1, g2, g3, g4, g5, g6, g7, g8, g9, trivial⟩, h18⟩

def p13 : Pt St where
  env s := [(1, (.slice s.x_dst.p s.x_dst.n s.x_dst.c)), (2, (.slice s.x_src.p s.x_src.n s.x_src.c)), (9, (.int .i64 s.x_s)), (10, (.int .i64 s.x_d)), (13, (.int .i64 s.x_dLimit)), (14, (.int .i64 s.x_uncompressed)), (16, (.int .i64 s.x_ll)), (17, (.int .i64 s.x_ml))]
  fin e s K := vS e 1 fun p1 n1 c1 => vS e 2 fun p2 n2 c2 => vI e 9 .i64 fun n3 => vI e 10 .i64 fun n4 => vI e 13 .i64 fun n5 => vI e 14 .i64 fun n6 => vI e 16 .i64 fun n7 => vI e 17 .i64 fun n8 => K { s with x_dst := ⟨p1, n1, c1⟩, x_src := ⟨p2, n2, c2⟩, x_s := n3, x_d := n4, x_dLimit := n5, x_uncompressed := n6, x_ll := n7, x_ml := n8 }
  ok := by
    intro e s K h0
    obtain ⟨p1, n1, c1, g1, h2⟩ := gS h0
    obtain ⟨p2, n2, c2, g2, h4⟩ := gS h2
    obtain ⟨n3, g3, h6⟩ := gI h4
    obtain ⟨n4, g4, h8⟩ := gI h6
    obtain ⟨n5, g5, h10⟩ := gI h8
    obtain ⟨n6, g6, h12⟩ := gI h10
    obtain ⟨n7, g7, h14⟩ := gI h12
    obtain ⟨n8, g8, h16⟩ := gI h14
    exact ⟨_, ⟨g1, g2, g3, g4, g5, g6, g7, g8, trivial⟩, h16⟩

def p14 : Pt St where
  env s := [(1, (.slice s.x_dst.p s.x_dst.n s.x_dst.c)), (2, (.slice s.x_src.p s.x_src.n s.x_src.c)), (9, (.int .i64 s.x_s)), (10, (.int .i64 s.x_d)), (13, (.int .i64 s.x_dLimit)), (14, (.int .i64 s.x_uncompressed)), (16, (.int .i64 s.x_ll)), (17, (.int .i64 s.x_ml)), (18, (.int .u8 s.x_val))]
  fin e s K := vS e 1 fun p1 n1 c1 => vS e 2 fun p2 n2 c2 => vI e 9 .i64 fun n3 => vI e 10 .i64 fun n4 => vI e 13 .i64 fun n5 => vI e 14 .i64 fun n6 => vI e 16 .i64 fun n7 => vI e 17 .i64 fun n8 => vI e 18 .u8 fun n9 => K { s with x_dst := ⟨p1, n1, c1⟩, x_src := ⟨p2, n2, c2⟩, x_s := n3, x_d := n4, x_dLimit := n5, x_uncompressed := n6, x_ll := n7, x_ml := n8, x_val := n9 }
  ok := by
    intro e s K h0
    obtain ⟨p1, n1, c1, g1, h2⟩ := gS h0
    obtain ⟨p2, n2, c2, g2, h4⟩ := gS h2
    obtain ⟨n3, g3, h6⟩ := gI h4
    obtain ⟨n4, g4, h8⟩ := gI h6
    obtain ⟨n5, g5, h10⟩ := gI h8
    obtain ⟨n6, g6, h12⟩ := gI h10
    obtain ⟨n7, g7, h14⟩ := gI h12
    obtain ⟨n8, g8, h16⟩ := gI h14
    obtain ⟨n9, g9, h18⟩ := gI h16
    exact ⟨_, ⟨g1, g2, g3, g4, g5, g6, g7, g8, g9, trivial⟩, h18⟩

def p15 : Pt St where
  env s := [(1, (.slice s.x_dst.p s.x_dst.n s.x_dst.c)), (2, (.slice s.x_src.p s.x_src.n s.x_src.c)), (9, (.int .i64 s.x_s)), (10, (.int .i64 s.x_d)), (13, (.int .i64 s.x_dLimit)), (14, (.int .i64 s.x_uncompressed)), (17, (.int .i64 s.x_ml))]
  fin e s K := vS e 1 fun p1 n1 c1 => vS e 2 fun p2 n2 c2 => vI e 9 .i64 fun n3 => vI e 10 .i64 fun n4 => vI e 13 .i64 fun n5 => vI e 14 .i64 fun n6 => vI e 17 .i64 fun n7 => K { s with x_dst := ⟨p1, n1, c1⟩, x_src := ⟨p2, n2, c2⟩, x_s := n3, x_d := n4, x_dLimit := n5, x_uncompressed := n6, x_ml := n7 }
  ok := by
    intro e s K h0
    obtain ⟨p1, n1, c1, g1, h2⟩ := gS h0
    obtain ⟨p2, n2, c2, g2, h4⟩ := gS h2
    obtain ⟨n3, g3, h6⟩ := gI h4
    obtain ⟨n4, g4, h8⟩ := gI h6
    obtain ⟨n5, g5, h10⟩ := gI h8
    obtain ⟨n6, g6, h12⟩ := gI h10
    obtain ⟨n7, g7, h14⟩ := gI h12
    exact ⟨_, ⟨g1, g2, g3, g4, g5, g6, g7, trivial⟩, h14⟩

def p16 : Pt St where
  env s := [(1, (.slice s.x_dst.p s.x_dst.n s.x_dst.c)), (2, (.slice s.x_src.p s.x_src.n s.x_src.c)), (9, (.int .i64 s.x_s)), (10, (.int .i64 s.x_d)), (13, (.int .i64 s.x_dLimit)), (14, (.int .i64 s.x_uncompressed)), (17, (.int .i64 s.x_ml)), (19, (.int .u16 s.x_offset))]
  fin e s K := vS e 1 fun p1 n1 c1 => vS e 2 fun p2 n2 c2 => vI e 9 .i64 fun n3 => vI e 10 .i64 fun n4 => vI e 13 .i64 fun n5 => vI e 14 .i64 fun n6 => vI e 17 .i64 fun n7 => vI e 19 .u16 fun n8 => K { s with x_dst := ⟨p1, n1, c1⟩, x_src := ⟨p2, n2, c2⟩, x_s := n3, x_d := n4, x_dLimit := n5, x_uncompressed := n6, x_ml := n7, x_offset := n8 }
  ok := by
    intro e s K h0
    obtain ⟨p1, n1, c1, g1, h2⟩ := gS h0
    obtain ⟨p2, n2, c2, g2, h4⟩ := gS h2
    obtain ⟨n3, g3, h6⟩ := gI h4
    obtain ⟨n4, g4, h8⟩ := gI h6
    obtain ⟨n5, g5, h10⟩ := gI h8
    obtain ⟨n6, g6, h12⟩ := gI h10
    obtain ⟨n7, g7, h14⟩ := gI h12
    obtain ⟨n8, g8, h16⟩ := gI h14
    exact ⟨_, ⟨g1, g2, g3, g4, g5, g6, g7, g8, trivial⟩, h16⟩

def p17 : Pt St where
  env s := [(1, (.slice s.x_dst.p s.x_dst.n s.x_dst.c)), (2, (.slice s.x_src.p s.x_src.n s.x_src.c)), (9, (.int .i64 s.x_s)), (10, (.int .i64 s.x_d)), (13, (.int .i64 s.x_dLimit)), (14, (.int .i64 s.x_uncompressed)), (17, (.int .i64 s.x_ml)), (19, (.int .u16 s.x_offset)), (20, (.int .u8 s.x_valq20))]
  fin e s K := vS e 1 fun p1 n1 c1 => vS e 2 fun p2 n2 c2 => vI e 9 .i64 fun n3 => vI e 10 .i64 fun n4 => vI e 13 .i64 fun n5 => vI e 14 .i64 fun n6 => vI e 17 .i64 fun n7 => vI e 19 .u16 fun n8 => vI e 20 .u8 fun n9 => K { s with x_dst := ⟨p1, n1, c1⟩, x_src := ⟨p2, n2, c2⟩, x_s := n3, x_d := n4, x_dLimit := n5, x_uncompressed := n6, x_ml := n7, x_offset := n8, x_valq20 := n9 }
  ok := by
    intro e s K h0
    obtain ⟨p1, n1, c1, g1, h2⟩ := gS h0
    obtain ⟨p2, n2, c2, g2, h4⟩ := gS h2
    obtain ⟨n3, g3, h6⟩ := gI h4
    obtain ⟨n4, g4, h8⟩ := gI h6
    obtain ⟨n5, g5, h10⟩ := gI h8
    obtain ⟨n6, g6, h12⟩ := gI h10
    obtain ⟨n7, g7, h14⟩ := gI h12
    obtain ⟨n8, g8, h16⟩ := gI h14
    obtain ⟨n9, g9, h18⟩ := gI h16
    exact ⟨_, ⟨g1, g2, g3, g4, g5, g6, g7, g8, g9, trivial⟩, h18⟩

def p18 : Pt St where
  env s := [(1, (.slice s.x_dst.p s.x_dst.n s.x_dst.c)), (2, (.slice s.x_src.p s.x_src.n s.x_src.c)), (9, (.int .i64 s.x_s)), (10, (.int .i64 s.x_d)), (13, (.int .i64 s.x_dLimit)), (14, (.int .i64 s.x_uncompressed)), (17, (.int .i64 s.x_ml)), (19, (.int .u16 s.x_offset)), (21, (.int .i64 s.x_length))]
  fin e s K := vS e 1 fun p1 n1 c1 => vS e 2 fun p2 n2 c2 => vI e 9 .i64 fun n3 => vI e 10 .i64 fun n4 => vI e 13 .i64 fun n5 => vI e 14 .i64 fun n6 => vI e 17 .i64 fun n7 => vI e 19 .u16 fun n8 => vI e 21 .i64 fun n9 => K { s with x_dst := ⟨p1, n1, c1⟩, x_src := ⟨p2, n2, c2⟩, x_s := n3, x_d := n4, x_dLimit := n5, x_uncompressed := n6, x_ml := n7, x_offset := n8, x_length := n9 }
  ok := by
    intro e s K h0
    obtain ⟨p1, n1, c1, g1, h2⟩ := gS h0
    obtain ⟨p2, n2, c2, g2, h4⟩ := gS h2
    obtain ⟨n3, g3, h6⟩ := gI h4
    obtain ⟨n4, g4, h8⟩ := gI h6
    obtain ⟨n5, g5, h10⟩ := gI h8
    obtain ⟨n6, g6, h12⟩ := gI h10
    obtain ⟨n7, g7, h14⟩ := gI h12
    obtain ⟨n8, g8, h16⟩ := gI h14
    obtain ⟨n9, g9, h18⟩ := gI h16
    exact ⟨_, ⟨g1, g2, g3, g4, g5, g6, g7, g8, g9, trivial⟩, h18⟩

def p19 : Pt St where
  env s := [(1, (.slice s.x_dst.p s.x_dst.n s.x_dst.c)), (2, (.slice s.x_src.p s.x_src.n s.x_src.c)), (9, (.int .i64 s.x_s)), (10, (.int .i64 s.x_d)), (13, (.int .i64 s.x_dLimit)), (14, (.int .i64 s.x_uncompressed)), (17, (.int .i64 s.x_ml)), (21, (.int .i64 s.x_length))]
  fin e s K := vS e 1 fun p1 n1 c1 => vS e 2 fun p2 n2 c2 => vI e 9 .i64 fun n3 => vI e 10 .i64 fun n4 => vI e 13 .i64 fun n5 => vI e 14 .i64 fun n6 => vI e 17 .i64 fun n7 => vI e 21 .i64 fun n8 => K { s with x_dst := ⟨p1, n1, c1⟩, x_src := ⟨p2, n2, c2⟩, x_s := n3, x_d := n4, x_dLimit := n5, x_uncompressed := n6, x_ml := n7, x_length := n8 }
  ok := by
    intro e s K h0
    obtain ⟨p1, n1, c1, g1, h2⟩ := gS h0
    obtain ⟨p2, n2, c2, g2, h4⟩ := gS h2
    obtain ⟨n3, g3, h6⟩ := gI h4
    obtain ⟨n4, g4, h8⟩ := gI h6
    obtain ⟨n5, g5, h10⟩ := gI h8
    obtain ⟨n6, g6, h12⟩ := gI h10
    obtain ⟨n7, g7, h14⟩ := gI h12
    obtain ⟨n8, g8, h16⟩ := gI h14
    exact ⟨_, ⟨g1, g2, g3, g4, g5, g6, g7, g8, trivial⟩, h16⟩

def r0 (s : St) (h : Heap) (Q : St → Heap → Prop) : Prop :=
  Q s h

def r1 (s : St) (h : Heap) (Q : Bool → St → Heap → Prop) : Prop :=
  Q (((s.x_src.n : Nat) : Int) == (0 : Int)) s h

def r2 (s : St) (h : Heap) (Q : St → Heap → Prop) : Prop :=
  Q { s with t6 := s.x_dst, t7 := (0 : Int), t8 := .nilIface } h

def r3 (s : St) (h : Heap) (Q : St → Heap → Prop) : Prop :=
  Q { s with x_s := (0 : Int), x_d := ((s.x_dst.n : Nat) : Int) } h

def r4 (s : St) (h : Heap) (Q : St → Heap → Prop) : Prop :=
  0 ≤ ((s.x_dst.c : Nat) : Int) ∧ ((s.x_dst.c : Nat) : Int) ≤ ((s.x_dst.c : Nat) : Int) ∧
  Q { s with x_dst := ⟨(subP s.x_dst.p 0 s.x_dst.c 1), ((Int.toNat ((s.x_dst.c : Nat) : Int)) - 0), (s.x_dst.c - 0)⟩ } h

def r5 (s : St) (h : Heap) (Q : Bool → St → Heap → Prop) : Prop :=
  Q false s h

def r6 (s : St) (h : Heap) (Q : St → Heap → Prop) : Prop :=
  0 ≤ s.x_d ∧ s.x_d ≤ ((s.x_dst.n : Nat) : Int) ∧
  c_cvtLZ4BlockSnappyAsm ⟨(subP s.x_dst.p (Int.toNat s.x_d) s.x_dst.c 1), (s.x_dst.n - (Int.toNat s.x_d)), (s.x_dst.c - (Int.toNat s.x_d))⟩ s.x_src h fun r2 r3 h1 =>
  Q { s with x_res := r2, x_sz := r3 } h1

def r7 (s : St) (h : Heap) (Q : Bool → St → Heap → Prop) : Prop :=
  Q (decide (s.x_res < (0 : Int))) s h

def r8 (s : St) (h : Heap) (Q : St → Heap → Prop) : Prop :=
  Q { s with t49 := s.x_res } h

def r9 (s : St) (h : Heap) (Q : St → Heap → Prop) : Prop :=
  c_New (ByteArray.mk #[117, 110, 101, 120, 112, 101, 99, 116, 101, 100, 32, 114, 101, 115, 117, 108, 116, 58]) h fun u2 h1 =>
  Q { s with t6 := ⟨none, 0, 0⟩, t7 := (0 : Int), t8 := u2 } h1

def r10 (s : St) (h : Heap) (Q : Bool → St → Heap → Prop) : Prop :=
  Q (s.t49 == (-1 : Int)) s h

def r11 (s : St) (h : Heap) (Q : St → Heap → Prop) : Prop :=
  ∃ u1 : Value, hcell h ⟨0, 0, none⟩ = some u1 ∧
  Q { s with t6 := ⟨none, 0, 0⟩, t7 := (0 : Int), t8 := u1 } h

def r12 (s : St) (h : Heap) (Q : Bool → St → Heap → Prop) : Prop :=
  Q (s.t49 == (-2 : Int)) s h

def r13 (s : St) (h : Heap) (Q : St → Heap → Prop) : Prop :=
  ∃ u1 : Value, hcell h ⟨2, 0, none⟩ = some u1 ∧
  Q { s with t6 := ⟨none, 0, 0⟩, t7 := (0 : Int), t8 := u1 } h

def r14 (s : St) (h : Heap) (Q : Bool → St → Heap → Prop) : Prop :=
  Q (decide ((IntKind.wrap .i64 (s.x_d + s.x_sz)) > ((s.x_dst.n : Nat) : Int))) s h

def r15 (s : St) (h : Heap) (Q : St → Heap → Prop) : Prop :=
  ∃ u1 : Value, hcell h ⟨2, 0, none⟩ = some u1 ∧
  Q { s with t6 := ⟨none, 0, 0⟩, t7 := (0 : Int), t8 := u1 } h

def r16 (s : St) (h : Heap) (Q : St → Heap → Prop) : Prop :=
  0 ≤ (IntKind.wrap .i64 (s.x_d + s.x_sz)) ∧ (IntKind.wrap .i64 (s.x_d + s.x_sz)) ≤ ((s.x_dst.c : Nat) : Int) ∧
  Q { s with t6 := ⟨(subP s.x_dst.p 0 s.x_dst.c 1), ((Int.toNat (IntKind.wrap .i64 (s.x_d + s.x_sz))) - 0), (s.x_dst.c - 0)⟩, t7 := s.x_res, t8 := .nilIface } h

def r17 (s : St) (h : Heap) (Q : St → Heap → Prop) : Prop :=
  Q { s with x_dLimit := (IntKind.wrap .i64 (((s.x_dst.n : Nat) : Int) - (10 : Int))) } h

def r18 (s : St) (h : Heap) (Q : St → Heap → Prop) : Prop :=
  Q { s with x_uncompressed := (0 : Int) } h

def r19 (s : St) (h : Heap) (Q : Bool → St → Heap → Prop) : Prop :=
  Q (decide (s.x_s ≥ ((s.x_src.n : Nat) : Int))) s h

def r20 (s : St) (h : Heap) (Q : St → Heap → Prop) : Prop :=
  ∃ u1 : Value, hcell h ⟨0, 0, none⟩ = some u1 ∧
  Q { s with t6 := ⟨none, 0, 0⟩, t7 := (0 : Int), t8 := u1 } h

def r21 (s : St) (h : Heap) (Q : St → Heap → Prop) : Prop :=
  0 ≤ s.x_s ∧ s.x_s < ((s.x_src.n : Nat) : Int) ∧
  ptrE s.x_src.p fun a1 =>
  ∃ v2 : Int, hcell h (Addr.add a1 (Int.toNat s.x_s * 1)) = some (.int .u8 v2) ∧
  Q { s with x_token := v2 } h

def r22 (s : St) (h : Heap) (Q : St → Heap → Prop) : Prop :=
  Q { s with x_ll := (IntKind.wrap .i64 (Int.fdiv s.x_token (2 ^ (4 : Nat)))) } h

def r23 (s : St) (h : Heap) (Q : St → Heap → Prop) : Prop :=
  Q { s with x_ml := (IntKind.wrap .i64 (IntKind.wrap .u8 ((4 : Int) + (bAnd .u8 s.x_token (15 : Int))))) } h

def r24 (s : St) (h : Heap) (Q : Bool → St → Heap → Prop) : Prop :=
  Q (decide (s.x_token ≥ (240 : Int))) s h

def r25 (s : St) (h : Heap) (Q : St → Heap → Prop) : Prop :=
  Q { s with x_s := (IntKind.wrap .i64 (s.x_s + (1 : Int))) } h

def r26 (s : St) (h : Heap) (Q : Bool → St → Heap → Prop) : Prop :=
  Q (decide (s.x_s ≥ ((s.x_src.n : Nat) : Int))) s h

def r27 (s : St) (h : Heap) (Q : St → Heap → Prop) : Prop :=
  ∃ u1 : Value, hcell h ⟨0, 0, none⟩ = some u1 ∧
  Q { s with t6 := ⟨none, 0, 0⟩, t7 := (0 : Int), t8 := u1 } h

def r28 (s : St) (h : Heap) (Q : St → Heap → Prop) : Prop :=
  0 ≤ s.x_s ∧ s.x_s < ((s.x_src.n : Nat) : Int) ∧
  ptrE s.x_src.p fun a1 =>
  ∃ v2 : Int, hcell h (Addr.add a1 (Int.toNat s.x_s * 1)) = some (.int .u8 v2) ∧
  Q { s with x_val := v2 } h

def r29 (s : St) (h : Heap) (Q : St → Heap → Prop) : Prop :=
  Q { s with x_ll := (IntKind.wrap .i64 (s.x_ll + (IntKind.wrap .i64 s.x_val))) } h

def r30 (s : St) (h : Heap) (Q : Bool → St → Heap → Prop) : Prop :=
  Q (s.x_val != (255 : Int)) s h

def r31 (s : St) (h : Heap) (Q : Bool → St → Heap → Prop) : Prop :=
  Q (decide ((IntKind.wrap .i64 (s.x_s + s.x_ll)) ≥ ((s.x_src.n : Nat) : Int))) s h

def r32 (s : St) (h : Heap) (Q : St → Heap → Prop) : Prop :=
  ∃ u1 : Value, hcell h ⟨0, 0, none⟩ = some u1 ∧
  Q { s with t6 := ⟨none, 0, 0⟩, t7 := (0 : Int), t8 := u1 } h

def r33 (s : St) (h : Heap) (Q : St → Heap → Prop) : Prop :=
  Q { s with x_s := (IntKind.wrap .i64 (s.x_s + (1 : Int))) } h

def r34 (s : St) (h : Heap) (Q : Bool → St → Heap → Prop) : Prop :=
  Q (decide (s.x_ll > (0 : Int))) s h

def r35 (s : St) (h : Heap) (Q : Bool → St → Heap → Prop) : Prop :=
  Q (decide ((IntKind.wrap .i64 (s.x_d + s.x_ll)) > s.x_dLimit)) s h

def r36 (s : St) (h : Heap) (Q : St → Heap → Prop) : Prop :=
  ∃ u1 : Value, hcell h ⟨2, 0, none⟩ = some u1 ∧
  Q { s with t6 := ⟨none, 0, 0⟩, t7 := (0 : Int), t8 := u1 } h

def r37 (s : St) (h : Heap) (Q : St → Heap → Prop) : Prop :=
  0 ≤ s.x_d ∧ s.x_d ≤ ((s.x_dst.n : Nat) : Int) ∧
  0 ≤ (IntKind.wrap .i64 (s.x_s + s.x_ll)) ∧ (IntKind.wrap .i64 (s.x_s + s.x_ll)) ≤ ((s.x_src.c : Nat) : Int) ∧
  0 ≤ s.x_s ∧ s.x_s ≤ (((Int.toNat (IntKind.wrap .i64 (s.x_s + s.x_ll))) : Nat) : Int) ∧
  c_emitLiteralGo ⟨(subP s.x_dst.p (Int.toNat s.x_d) s.x_dst.c 1), (s.x_dst.n - (Int.toNat s.x_d)), (s.x_dst.c - (Int.toNat s.x_d))⟩ ⟨(subP s.x_src.p (Int.toNat s.x_s) s.x_src.c 1), ((Int.toNat (IntKind.wrap .i64 (s.x_s + s.x_ll))) - (Int.toNat s.x_s)), (s.x_src.c - (Int.toNat s.x_s))⟩ h fun r2 h1 =>
  Q { s with x_d := (IntKind.wrap .i64 (s.x_d + r2)) } h1

def r38 (s : St) (h : Heap) (Q : St → Heap → Prop) : Prop :=
  Q { s with x_s := (IntKind.wrap .i64 (s.x_s + s.x_ll)) } h

def r39 (s : St) (h : Heap) (Q : St → Heap → Prop) : Prop :=
  Q { s with x_uncompressed := (IntKind.wrap .i64 (s.x_uncompressed + s.x_ll)) } h

def r40 (s : St) (h : Heap) (Q : Bool → St → Heap → Prop) : Prop :=
  (if (s.x_s == ((s.x_src.n : Nat) : Int)) = true then
  (Q (s.x_ml == (4 : Int)) s h)
  else
  (Q false s h))

def r41 (s : St) (h : Heap) (Q : Bool → St → Heap → Prop) : Prop :=
  Q (decide (s.x_s ≥ (IntKind.wrap .i64 (((s.x_src.n : Nat) : Int) - (2 : Int))))) s h

def r42 (s : St) (h : Heap) (Q : St → Heap → Prop) : Prop :=
  ∃ u1 : Value, hcell h ⟨0, 0, none⟩ = some u1 ∧
  Q { s with t6 := ⟨none, 0, 0⟩, t7 := (0 : Int), t8 := u1 } h

def r43 (s : St) (h : Heap) (Q : St → Heap → Prop) : Prop :=
  0 ≤ s.x_s ∧ s.x_s ≤ ((s.x_src.n : Nat) : Int) ∧
  c_littleEndian_Uint16 ⟨(subP s.x_src.p (Int.toNat s.x_s) s.x_src.c 1), (s.x_src.n - (Int.toNat s.x_s)), (s.x_src.c - (Int.toNat s.x_s))⟩ h fun r2 h1 =>
  Q { s with x_offset := r2 } h1

def r44 (s : St) (h : Heap) (Q : St → Heap → Prop) : Prop :=
  Q { s with x_s := (IntKind.wrap .i64 (s.x_s + (2 : Int))) } h

def r45 (s : St) (h : Heap) (Q : Bool → St → Heap → Prop) : Prop :=
  Q (s.x_offset == (0 : Int)) s h

def r46 (s : St) (h : Heap) (Q : St → Heap → Prop) : Prop :=
  ∃ u1 : Value, hcell h ⟨0, 0, none⟩ = some u1 ∧
  Q { s with t6 := ⟨none, 0, 0⟩, t7 := (0 : Int), t8 := u1 } h

def r47 (s : St) (h : Heap) (Q : Bool → St → Heap → Prop) : Prop :=
  Q (decide ((IntKind.wrap .i64 s.x_offset) > s.x_uncompressed)) s h

def r48 (s : St) (h : Heap) (Q : St → Heap → Prop) : Prop :=
  ∃ u1 : Value, hcell h ⟨0, 0, none⟩ = some u1 ∧
  Q { s with t6 := ⟨none, 0, 0⟩, t7 := (0 : Int), t8 := u1 } h

def r49 (s : St) (h : Heap) (Q : Bool → St → Heap → Prop) : Prop :=
  Q (s.x_ml == (19 : Int)) s h

def r50 (s : St) (h : Heap) (Q : Bool → St → Heap → Prop) : Prop :=
  Q (decide (s.x_s ≥ ((s.x_src.n : Nat) : Int))) s h

def r51 (s : St) (h : Heap) (Q : St → Heap → Prop) : Prop :=
  ∃ u1 : Value, hcell h ⟨0, 0, none⟩ = some u1 ∧
  Q { s with t6 := ⟨none, 0, 0⟩, t7 := (0 : Int), t8 := u1 } h

def r52 (s : St) (h : Heap) (Q : St → Heap → Prop) : Prop :=
  0 ≤ s.x_s ∧ s.x_s < ((s.x_src.n : Nat) : Int) ∧
  ptrE s.x_src.p fun a1 =>
  ∃ v2 : Int, hcell h (Addr.add a1 (Int.toNat s.x_s * 1)) = some (.int .u8 v2) ∧
  Q { s with x_valq20 := v2 } h

def r53 (s : St) (h : Heap) (Q : St → Heap → Prop) : Prop :=
  Q { s with x_s := (IntKind.wrap .i64 (s.x_s + (1 : Int))) } h

def r54 (s : St) (h : Heap) (Q : St → Heap → Prop) : Prop :=
  Q { s with x_ml := (IntKind.wrap .i64 (s.x_ml + (IntKind.wrap .i64 s.x_valq20))) } h

def r55 (s : St) (h : Heap) (Q : Bool → St → Heap → Prop) : Prop :=
  Q (s.x_valq20 != (255 : Int)) s h

def r56 (s : St) (h : Heap) (Q : Bool → St → Heap → Prop) : Prop :=
  Q (decide (s.x_s ≥ ((s.x_src.n : Nat) : Int))) s h

def r57 (s : St) (h : Heap) (Q : St → Heap → Prop) : Prop :=
  ∃ u1 : Value, hcell h ⟨0, 0, none⟩ = some u1 ∧
  Q { s with t6 := ⟨none, 0, 0⟩, t7 := (0 : Int), t8 := u1 } h

def r58 (s : St) (h : Heap) (Q : St → Heap → Prop) : Prop :=
  Q { s with x_length := s.x_ml } h

def r59 (s : St) (h : Heap) (Q : Bool → St → Heap → Prop) : Prop :=
  Q (decide (s.x_length > (0 : Int))) s h

def r60 (s : St) (h : Heap) (Q : Bool → St → Heap → Prop) : Prop :=
  Q (decide (s.x_d ≥ s.x_dLimit)) s h

def r61 (s : St) (h : Heap) (Q : St → Heap → Prop) : Prop :=
  ∃ u1 : Value, hcell h ⟨2, 0, none⟩ = some u1 ∧
  Q { s with t6 := ⟨none, 0, 0⟩, t7 := (0 : Int), t8 := u1 } h

def r62 (s : St) (h : Heap) (Q : Bool → St → Heap → Prop) : Prop :=
  Q (decide (s.x_length > (64 : Int))) s h

def r63 (s : St) (h : Heap) (Q : St → Heap → Prop) : Prop :=
  0 ≤ (IntKind.wrap .i64 (s.x_d + (2 : Int))) ∧ (IntKind.wrap .i64 (s.x_d + (2 : Int))) < ((s.x_dst.n : Nat) : Int) ∧
  ptrE s.x_dst.p fun a1 =>
  st1 (Addr.add (Addr.add a1 (Int.toNat (IntKind.wrap .i64 (s.x_d + (2 : Int))) * 1)) 0) (.int .u8 (IntKind.wrap .u8 (Int.fdiv s.x_offset (2 ^ (8 : Nat))))) h fun h2 =>
  Q s h2

def r64 (s : St) (h : Heap) (Q : St → Heap → Prop) : Prop :=
  0 ≤ (IntKind.wrap .i64 (s.x_d + (1 : Int))) ∧ (IntKind.wrap .i64 (s.x_d + (1 : Int))) < ((s.x_dst.n : Nat) : Int) ∧
  ptrE s.x_dst.p fun a1 =>
  st1 (Addr.add (Addr.add a1 (Int.toNat (IntKind.wrap .i64 (s.x_d + (1 : Int))) * 1)) 0) (.int .u8 (IntKind.wrap .u8 s.x_offset)) h fun h2 =>
  Q s h2

def r65 (s : St) (h : Heap) (Q : St → Heap → Prop) : Prop :=
  0 ≤ (IntKind.wrap .i64 (s.x_d + (0 : Int))) ∧ (IntKind.wrap .i64 (s.x_d + (0 : Int))) < ((s.x_dst.n : Nat) : Int) ∧
  ptrE s.x_dst.p fun a1 =>
  st1 (Addr.add (Addr.add a1 (Int.toNat (IntKind.wrap .i64 (s.x_d + (0 : Int))) * 1)) 0) (.int .u8 (254 : Int)) h fun h2 =>
  Q s h2

def r66 (s : St) (h : Heap) (Q : St → Heap → Prop) : Prop :=
  Q { s with x_length := (IntKind.wrap .i64 (s.x_length - (64 : Int))) } h

def r67 (s : St) (h : Heap) (Q : St → Heap → Prop) : Prop :=
  Q { s with x_d := (IntKind.wrap .i64 (s.x_d + (3 : Int))) } h

def r68 (s : St) (h : Heap) (Q : Bool → St → Heap → Prop) : Prop :=
  (if (decide (s.x_length ≥ (12 : Int))) = false then
  ((if (decide (s.x_offset ≥ (2048 : Int))) = false then
  (Q (decide (s.x_length < (4 : Int))) s h)
  else
  (Q true s h)))
  else
  (Q true s h))

def r69 (s : St) (h : Heap) (Q : St → Heap → Prop) : Prop :=
  0 ≤ (IntKind.wrap .i64 (s.x_d + (2 : Int))) ∧ (IntKind.wrap .i64 (s.x_d + (2 : Int))) < ((s.x_dst.n : Nat) : Int) ∧
  ptrE s.x_dst.p fun a1 =>
  st1 (Addr.add (Addr.add a1 (Int.toNat (IntKind.wrap .i64 (s.x_d + (2 : Int))) * 1)) 0) (.int .u8 (IntKind.wrap .u8 (Int.fdiv s.x_offset (2 ^ (8 : Nat))))) h fun h2 =>
  Q s h2

def r70 (s : St) (h : Heap) (Q : St → Heap → Prop) : Prop :=
  0 ≤ (IntKind.wrap .i64 (s.x_d + (1 : Int))) ∧ (IntKind.wrap .i64 (s.x_d + (1 : Int))) < ((s.x_dst.n : Nat) : Int) ∧
  ptrE s.x_dst.p fun a1 =>
  st1 (Addr.add (Addr.add a1 (Int.toNat (IntKind.wrap .i64 (s.x_d + (1 : Int))) * 1)) 0) (.int .u8 (IntKind.wrap .u8 s.x_offset)) h fun h2 =>
  Q s h2

def r71 (s : St) (h : Heap) (Q : St → Heap → Prop) : Prop :=
  0 ≤ (IntKind.wrap .i64 (s.x_d + (0 : Int))) ∧ (IntKind.wrap .i64 (s.x_d + (0 : Int))) < ((s.x_dst.n : Nat) : Int) ∧
  ptrE s.x_dst.p fun a1 =>
  st1 (Addr.add (Addr.add a1 (Int.toNat (IntKind.wrap .i64 (s.x_d + (0 : Int))) * 1)) 0) (.int .u8 (bOr .u8 (IntKind.wrap .u8 ((IntKind.wrap .u8 (IntKind.wrap .i64 (s.x_length - (1 : Int)))) * 2 ^ (2 : Nat))) (2 : Int))) h fun h2 =>
  Q s h2

def r72 (s : St) (h : Heap) (Q : St → Heap → Prop) : Prop :=
  Q { s with x_d := (IntKind.wrap .i64 (s.x_d + (3 : Int))) } h

def r73 (s : St) (h : Heap) (Q : St → Heap → Prop) : Prop :=
  0 ≤ (IntKind.wrap .i64 (s.x_d + (1 : Int))) ∧ (IntKind.wrap .i64 (s.x_d + (1 : Int))) < ((s.x_dst.n : Nat) : Int) ∧
  ptrE s.x_dst.p fun a1 =>
  st1 (Addr.add (Addr.add a1 (Int.toNat (IntKind.wrap .i64 (s.x_d + (1 : Int))) * 1)) 0) (.int .u8 (IntKind.wrap .u8 s.x_offset)) h fun h2 =>
  Q s h2

def r74 (s : St) (h : Heap) (Q : St → Heap → Prop) : Prop :=
  0 ≤ (IntKind.wrap .i64 (s.x_d + (0 : Int))) ∧ (IntKind.wrap .i64 (s.x_d + (0 : Int))) < ((s.x_dst.n : Nat) : Int) ∧
  ptrE s.x_dst.p fun a1 =>
  st1 (Addr.add (Addr.add a1 (Int.toNat (IntKind.wrap .i64 (s.x_d + (0 : Int))) * 1)) 0) (.int .u8 (bOr .u8 (bOr .u8 (IntKind.wrap .u8 ((IntKind.wrap .u8 (Int.fdiv s.x_offset (2 ^ (8 : Nat)))) * 2 ^ (5 : Nat))) (IntKind.wrap .u8 ((IntKind.wrap .u8 (IntKind.wrap .i64 (s.x_length - (4 : Int)))) * 2 ^ (2 : Nat)))) (1 : Int))) h fun h2 =>
  Q s h2

def r75 (s : St) (h : Heap) (Q : St → Heap → Prop) : Prop :=
  Q { s with x_d := (IntKind.wrap .i64 (s.x_d + (2 : Int))) } h

def r76 (s : St) (h : Heap) (Q : St → Heap → Prop) : Prop :=
  Q { s with x_uncompressed := (IntKind.wrap .i64 (s.x_uncompressed + s.x_ml)) } h

def r77 (s : St) (h : Heap) (Q : Bool → St → Heap → Prop) : Prop :=
  Q (decide (s.x_d > s.x_dLimit)) s h

def r78 (s : St) (h : Heap) (Q : St → Heap → Prop) : Prop :=
  ∃ u1 : Value, hcell h ⟨2, 0, none⟩ = some u1 ∧
  Q { s with t6 := ⟨none, 0, 0⟩, t7 := (0 : Int), t8 := u1 } h

def r79 (s : St) (h : Heap) (Q : St → Heap → Prop) : Prop :=
  0 ≤ s.x_d ∧ s.x_d ≤ ((s.x_dst.c : Nat) : Int) ∧
  Q { s with t6 := ⟨(subP s.x_dst.p 0 s.x_dst.c 1), ((Int.toNat s.x_d) - 0), (s.x_dst.c - 0)⟩, t7 := s.x_uncompressed, t8 := .nilIface } h

def k59 : Stm St := (.test r77 (.seq (.reg r78) .ret) .skip)
def k58 : Stm St := (.seq (.reg r76) k59)
def k57 : Stm St := (.seq (.reg r74) (.seq (.reg r75) (.exit 7)))
def k56 : Stm St := (.seq (.reg r73) k57)
def k55 : Stm St := (.seq (.reg r71) (.seq (.reg r72) (.exit 7)))
def k54 : Stm St := (.seq (.reg r70) k55)
def k53 : Stm St := (.seq (.reg r69) k54)
def k52 : Stm St := (.seq (.test r68 k53 .skip) k56)
def k51 : Stm St := (.seq (.reg r66) (.seq (.reg r67) (.exit 8)))
def k50 : Stm St := (.seq (.reg r65) k51)
def k49 : Stm St := (.seq (.reg r64) k50)
def k48 : Stm St := (.seq (.reg r63) k49)
def k47 : Stm St := (.seq (.test r62 k48 .skip) k52)
def k46 : Stm St := (.block 8 (.seq (.test r60 (.seq (.reg r61) .ret) .skip) k47))
def k45 : Stm St := (.seq (.test r59 .skip (.exit 7)) k46)
def k44 : Stm St := (.seq (.block 7 (.loop k45)) k58)
def k43 : Stm St := (.seq (.reg r58) k44)
def k42 : Stm St := (.seq (.test r56 (.seq (.reg r57) .ret) .skip) (.exit 5))
def k41 : Stm St := (.test r55 k42 .skip)
def k40 : Stm St := (.seq (.reg r54) k41)
def k39 : Stm St := (.seq (.reg r53) k40)
def k38 : Stm St := (.seq (.reg r52) k39)
def k37 : Stm St := (.block 6 (.seq (.test r50 (.seq (.reg r51) .ret) .skip) k38))
def k36 : Stm St := (.block 5 (.loop k37))
def k35 : Stm St := (.seq (.test r49 k36 .skip) k43)
def k34 : Stm St := (.seq (.test r47 (.seq (.reg r48) .ret) .skip) k35)
def k33 : Stm St := (.seq (.test r45 (.seq (.reg r46) .ret) .skip) k34)
def k32 : Stm St := (.seq (.reg r44) k33)
def k31 : Stm St := (.seq (.reg r43) k32)
def k30 : Stm St := (.seq (.test r41 (.seq (.reg r42) .ret) .skip) k31)
def k29 : Stm St := (.seq (.test r40 (.exit 1) .skip) k30)
def k28 : Stm St := (.seq (.reg r37) (.seq (.reg r38) (.reg r39)))
def k27 : Stm St := (.seq (.test r35 (.seq (.reg r36) .ret) .skip) k28)
def k26 : Stm St := (.seq (.test r34 k27 .skip) k29)
def k25 : Stm St := (.seq (.reg r33) k26)
def k24 : Stm St := (.seq (.test r31 (.seq (.reg r32) .ret) .skip) k25)
def k23 : Stm St := (.test r30 (.exit 3) .skip)
def k22 : Stm St := (.seq (.reg r29) k23)
def k21 : Stm St := (.seq (.reg r28) k22)
def k20 : Stm St := (.seq (.test r26 (.seq (.reg r27) .ret) .skip) k21)
def k19 : Stm St := (.block 4 (.seq (.reg r25) k20))
def k18 : Stm St := (.block 3 (.loop k19))
def k17 : Stm St := (.seq (.test r24 k18 .skip) k24)
def k16 : Stm St := (.seq (.reg r23) k17)
def k15 : Stm St := (.seq (.reg r22) k16)
def k14 : Stm St := (.seq (.reg r21) k15)
def k13 : Stm St := (.block 2 (.seq (.test r19 (.seq (.reg r20) .ret) .skip) k14))
def k12 : Stm St := (.seq (.block 1 (.loop k13)) (.seq (.reg r79) .ret))
def k11 : Stm St := (.seq (.reg r18) k12)
def k10 : Stm St := (.seq (.reg r17) k11)
def k9 : Stm St := (.seq (.test r14 (.seq (.reg r15) .ret) .skip) (.seq (.reg r16) .ret))
def k8 : Stm St := (.test r12 (.seq (.reg r13) .ret) (.seq (.reg r9) .ret))
def k7 : Stm St := (.block 0 (.test r10 (.seq (.reg r11) .ret) k8))
def k6 : Stm St := (.seq (.reg r8) k7)
def k5 : Stm St := (.seq (.test r7 k6 .skip) k9)
def k4 : Stm St := (.seq (.reg r6) k5)
def k3 : Stm St := (.seq (.test r5 k4 .skip) k10)
def k2 : Stm St := (.seq (.reg r4) k3)
def k1 : Stm St := (.seq (.reg r3) k2)
def k0 : Stm St := (.seq (.test r1 (.seq (.reg r2) .ret) .skip) k1)

def stm : Stm St := (.seq (.reg r0) k0)

def ex : Ex → Pt St := fun _ => p0

set_option maxRecDepth 100000 in
theorem sim : Sim Pg 293 p1 (Tryd.f75.body.getD .skip) stm p0 ex :=
  (Sim.seq (Sim.reg (A := p1) (B := p1) (fun _ _ _ => by kernel_rfl))
  (Sim.seq (Sim.test (A := p1) (B := p1) (fun _ _ _ => by kernel_rfl) (Sim.seq (Sim.reg (A := p1) (B := p0) (fun _ _ _ => by kernel_rfl))
  (Sim.ret (A := p0) (E := ex) (fun _ => ⟨rfl, rfl, rfl, trivial⟩)))
  (Sim.skip (A := p1)))
  (Sim.seq (Sim.reg (A := p1) (B := p2) (fun _ _ _ => by kernel_rfl))
  (Sim.seq (Sim.reg (A := p2) (B := p2) (fun _ _ _ => by kernel_rfl))
  (Sim.seq (Sim.test (A := p2) (B := p3) (fun _ _ _ => by kernel_rfl) (Sim.seq (Sim.reg (A := p3) (B := p4) (fun _ _ _ => by kernel_rfl))
  (Sim.seq (Sim.test (A := p4) (B := p4) (fun _ _ _ => by kernel_rfl) (Sim.seq (Sim.reg (A := p4) (B := p5) (fun _ _ _ => by kernel_rfl))
  (Sim.block (Sim.test (A := p5) (B := p5) (fun _ _ _ => by kernel_rfl) (Sim.seq (Sim.reg (A := p5) (B := p0) (fun _ _ _ => by kernel_rfl))
  (Sim.ret (A := p0) (E := (exAt ex 0 _)) (fun _ => ⟨rfl, rfl, rfl, trivial⟩)))
  (Sim.test (A := p5) (B := p6) (fun _ _ _ => by kernel_rfl) (Sim.seq (Sim.reg (A := p6) (B := p0) (fun _ _ _ => by kernel_rfl))
  (Sim.ret (A := p0) (E := (exAt ex 0 _)) (fun _ => ⟨rfl, rfl, rfl, trivial⟩)))
  (Sim.seq (Sim.reg (A := p6) (B := p0) (fun _ _ _ => by kernel_rfl))
  (Sim.ret (A := p0) (E := (exAt ex 0 _)) (fun _ => ⟨rfl, rfl, rfl, trivial⟩)))))))
  (Sim.skip (A := p4)))
  (Sim.seq (Sim.test (A := p4) (B := p4) (fun _ _ _ => by kernel_rfl) (Sim.seq (Sim.reg (A := p4) (B := p0) (fun _ _ _ => by kernel_rfl))
  (Sim.ret (A := p0) (E := ex) (fun _ => ⟨rfl, rfl, rfl, trivial⟩)))
  (Sim.skip (A := p4)))
  (Sim.seq (Sim.reg (A := p4) (B := p0) (fun _ _ _ => by kernel_rfl))
  (Sim.ret (A := p0) (E := ex) (fun _ => ⟨rfl, rfl, rfl, trivial⟩))))))
  (Sim.skip (A := p3)))
  (Sim.seq (Sim.reg (A := p3) (B := p7) (fun _ _ _ => by kernel_rfl))
  (Sim.seq (Sim.reg (A := p7) (B := p8) (fun _ _ _ => by kernel_rfl))
  (Sim.seq (Sim.block (B := p9) (Sim.loop (A := p8) (Sim.block (B := p8) (Sim.seq (Sim.test (A := p8) (B := p8) (fun _ _ _ => by kernel_rfl) (Sim.seq (Sim.reg (A := p8) (B := p0) (fun _ _ _ => by kernel_rfl))
  (Sim.ret (A := p0) (E := (exAt (exAt ex 1 p9) 2 p8)) (fun _ => ⟨rfl, rfl, rfl, trivial⟩)))
  (Sim.skip (A := p8)))
  (Sim.seq (Sim.reg (A := p8) (B := p10) (fun _ _ _ => by kernel_rfl))
  (Sim.seq (Sim.reg (A := p10) (B := p11) (fun _ _ _ => by kernel_rfl))
  (Sim.seq (Sim.reg (A := p11) (B := p12) (fun _ _ _ => by kernel_rfl))
  (Sim.seq (Sim.test (A := p12) (B := p13) (fun _ _ _ => by kernel_rfl) (Sim.block (B := p13) (Sim.loop (A := p13) (Sim.block (B := p13) (Sim.seq (Sim.reg (A := p13) (B := p13) (fun _ _ _ => by kernel_rfl))
  (Sim.seq (Sim.test (A := p13) (B := p13) (fun _ _ _ => by kernel_rfl) (Sim.seq (Sim.reg (A := p13) (B := p0) (fun _ _ _ => by kernel_rfl))
  (Sim.ret (A := p0) (E := (exAt (exAt (exAt (exAt ex 1 p9) 2 p8) 3 p13) 4 p13)) (fun _ => ⟨rfl, rfl, rfl, trivial⟩)))
  (Sim.skip (A := p13)))
  (Sim.seq (Sim.reg (A := p13) (B := p14) (fun _ _ _ => by kernel_rfl))
  (Sim.seq (Sim.reg (A := p14) (B := p14) (fun _ _ _ => by kernel_rfl))
  (Sim.test (A := p14) (B := p13) (fun _ _ _ => by kernel_rfl) (Sim.exit (A := p13) (fun _ => ⟨rfl, rfl, rfl, rfl, rfl, rfl, rfl, rfl, trivial⟩))
  (Sim.skip (A := p13))))))))))
  (Sim.skip (A := p13)))
  (Sim.seq (Sim.test (A := p13) (B := p13) (fun _ _ _ => by kernel_rfl) (Sim.seq (Sim.reg (A := p13) (B := p0) (fun _ _ _ => by kernel_rfl))
  (Sim.ret (A := p0) (E := (exAt (exAt ex 1 p9) 2 p8)) (fun _ => ⟨rfl, rfl, rfl, trivial⟩)))
  (Sim.skip (A := p13)))
  (Sim.seq (Sim.reg (A := p13) (B := p13) (fun _ _ _ => by kernel_rfl))
  (Sim.seq (Sim.test (A := p13) (B := p13) (fun _ _ _ => by kernel_rfl) (Sim.seq (Sim.test (A := p13) (B := p13) (fun _ _ _ => by kernel_rfl) (Sim.seq (Sim.reg (A := p13) (B := p0) (fun _ _ _ => by kernel_rfl))
  (Sim.ret (A := p0) (E := (exAt (exAt ex 1 p9) 2 p8)) (fun _ => ⟨rfl, rfl, rfl, trivial⟩)))
  (Sim.skip (A := p13)))
  (Sim.seq (Sim.reg (A := p13) (B := p13) (fun _ _ _ => by kernel_rfl))
  (Sim.seq (Sim.reg (A := p13) (B := p13) (fun _ _ _ => by kernel_rfl))
  (Sim.reg (A := p13) (B := p15) (fun _ _ _ => by kernel_rfl)))))
  (Sim.weak (B := p13) (C := p15) (Sim.skip (A := p13)) (fun _ => ⟨rfl, rfl, rfl, rfl, rfl, rfl, rfl, trivial⟩)))
  (Sim.seq (Sim.test (A := p15) (B := p15) (fun _ _ _ => by kernel_rfl) (Sim.exit (A := p15) (fun _ => ⟨rfl, rfl, rfl, trivial⟩))
  (Sim.skip (A := p15)))
  (Sim.seq (Sim.test (A := p15) (B := p15) (fun _ _ _ => by kernel_rfl) (Sim.seq (Sim.reg (A := p15) (B := p0) (fun _ _ _ => by kernel_rfl))
  (Sim.ret (A := p0) (E := (exAt (exAt ex 1 p9) 2 p8)) (fun _ => ⟨rfl, rfl, rfl, trivial⟩)))
  (Sim.skip (A := p15)))
  (Sim.seq (Sim.reg (A := p15) (B := p16) (fun _ _ _ => by kernel_rfl))
  (Sim.seq (Sim.reg (A := p16) (B := p16) (fun _ _ _ => by kernel_rfl))
  (Sim.seq (Sim.test (A := p16) (B := p16) (fun _ _ _ => by kernel_rfl) (Sim.seq (Sim.reg (A := p16) (B := p0) (fun _ _ _ => by kernel_rfl))
  (Sim.ret (A := p0) (E := (exAt (exAt ex 1 p9) 2 p8)) (fun _ => ⟨rfl, rfl, rfl, trivial⟩)))
  (Sim.skip (A := p16)))
  (Sim.seq (Sim.test (A := p16) (B := p16) (fun _ _ _ => by kernel_rfl) (Sim.seq (Sim.reg (A := p16) (B := p0) (fun _ _ _ => by kernel_rfl))
  (Sim.ret (A := p0) (E := (exAt (exAt ex 1 p9) 2 p8)) (fun _ => ⟨rfl, rfl, rfl, trivial⟩)))
  (Sim.skip (A := p16)))
  (Sim.seq (Sim.test (A := p16) (B := p16) (fun _ _ _ => by kernel_rfl) (Sim.block (B := p16) (Sim.loop (A := p16) (Sim.block (B := p16) (Sim.seq (Sim.test (A := p16) (B := p16) (fun _ _ _ => by kernel_rfl) (Sim.seq (Sim.reg (A := p16) (B := p0) (fun _ _ _ => by kernel_rfl))
  (Sim.ret (A := p0) (E := (exAt (exAt (exAt (exAt ex 1 p9) 2 p8) 5 p16) 6 p16)) (fun _ => ⟨rfl, rfl, rfl, trivial⟩)))
  (Sim.skip (A := p16)))
  (Sim.seq (Sim.reg (A := p16) (B := p17) (fun _ _ _ => by kernel_rfl))
  (Sim.seq (Sim.reg (A := p17) (B := p17) (fun _ _ _ => by kernel_rfl))
  (Sim.seq (Sim.reg (A := p17) (B := p17) (fun _ _ _ => by kernel_rfl))
  (Sim.test (A := p17) (B := p16) (fun _ _ _ => by kernel_rfl) (Sim.seq (Sim.test (A := p16) (B := p16) (fun _ _ _ => by kernel_rfl) (Sim.seq (Sim.reg (A := p16) (B := p0) (fun _ _ _ => by kernel_rfl))
  (Sim.ret (A := p0) (E := (exAt (exAt (exAt (exAt ex 1 p9) 2 p8) 5 p16) 6 p16)) (fun _ => ⟨rfl, rfl, rfl, trivial⟩)))
  (Sim.skip (A := p16)))
  (Sim.exit (A := p16) (fun _ => ⟨rfl, rfl, rfl, rfl, rfl, rfl, rfl, rfl, trivial⟩)))
  (Sim.skip (A := p16))))))))))
  (Sim.skip (A := p16)))
  (Sim.seq (Sim.reg (A := p16) (B := p18) (fun _ _ _ => by kernel_rfl))
  (Sim.seq (Sim.block (B := p15) (Sim.loop (A := p18) (Sim.seq (Sim.test (A := p18) (B := p18) (fun _ _ _ => by kernel_rfl) (Sim.skip (A := p18))
  (Sim.exit (A := p18) (fun _ => ⟨rfl, rfl, rfl, rfl, rfl, rfl, rfl, trivial⟩)))
  (Sim.block (B := p18) (Sim.seq (Sim.test (A := p18) (B := p18) (fun _ _ _ => by kernel_rfl) (Sim.seq (Sim.reg (A := p18) (B := p0) (fun _ _ _ => by kernel_rfl))
  (Sim.ret (A := p0) (E := (exAt (exAt (exAt (exAt ex 1 p9) 2 p8) 7 p15) 8 p18)) (fun _ => ⟨rfl, rfl, rfl, trivial⟩)))
  (Sim.skip (A := p18)))
  (Sim.seq (Sim.test (A := p18) (B := p18) (fun _ _ _ => by kernel_rfl) (Sim.seq (Sim.reg (A := p18) (B := p18) (fun _ _ _ => by kernel_rfl))
  (Sim.seq (Sim.reg (A := p18) (B := p18) (fun _ _ _ => by kernel_rfl))
  (Sim.seq (Sim.reg (A := p18) (B := p18) (fun _ _ _ => by kernel_rfl))
  (Sim.seq (Sim.reg (A := p18) (B := p18) (fun _ _ _ => by kernel_rfl))
  (Sim.seq (Sim.reg (A := p18) (B := p18) (fun _ _ _ => by kernel_rfl))
  (Sim.exit (A := p18) (fun _ => ⟨rfl, rfl, rfl, rfl, rfl, rfl, rfl, rfl, rfl, trivial⟩)))))))
  (Sim.skip (A := p18)))
  (Sim.seq (Sim.test (A := p18) (B := p18) (fun _ _ _ => by kernel_rfl) (Sim.seq (Sim.reg (A := p18) (B := p18) (fun _ _ _ => by kernel_rfl))
  (Sim.seq (Sim.reg (A := p18) (B := p19) (fun _ _ _ => by kernel_rfl))
  (Sim.seq (Sim.reg (A := p19) (B := p15) (fun _ _ _ => by kernel_rfl))
  (Sim.seq (Sim.reg (A := p15) (B := p15) (fun _ _ _ => by kernel_rfl))
  (Sim.exit (A := p15) (fun _ => ⟨rfl, rfl, rfl, rfl, rfl, rfl, rfl, trivial⟩))))))
  (Sim.skip (A := p18)))
  (Sim.seq (Sim.reg (A := p18) (B := p18) (fun _ _ _ => by kernel_rfl))
  (Sim.seq (Sim.reg (A := p18) (B := p15) (fun _ _ _ => by kernel_rfl))
  (Sim.seq (Sim.reg (A := p15) (B := p15) (fun _ _ _ => by kernel_rfl))
  (Sim.exit (A := p15) (fun _ => ⟨rfl, rfl, rfl, rfl, rfl, rfl, rfl, trivial⟩))))))))))))
  (Sim.seq (Sim.reg (A := p15) (B := p8) (fun _ _ _ => by kernel_rfl))
  (Sim.test (A := p8) (B := p8) (fun _ _ _ => by kernel_rfl) (Sim.seq (Sim.reg (A := p8) (B := p0) (fun _ _ _ => by kernel_rfl))
  (Sim.ret (A := p0) (E := (exAt (exAt ex 1 p9) 2 p8)) (fun _ => ⟨rfl, rfl, rfl, trivial⟩)))
  (Sim.skip (A := p8))))))))))))))))))))))))
  (Sim.seq (Sim.reg (A := p9) (B := p0) (fun _ _ _ => by kernel_rfl))
  (Sim.ret (A := p0) (E := ex) (fun _ => ⟨rfl, rfl, rfl, trivial⟩)))))))))))

def init (x_l : Option Addr) (x_dst : Sl) (x_src : Sl) : St := { x_l := x_l, x_dst := x_dst, x_src := x_src, t6 := Sl.nil, t7 := 0, t8 := undef, x_s := 0, x_d := 0, x_res := 0, x_sz := 0, x_dLimit := 0, x_uncompressed := 0, x_token := 0, x_ll := 0, x_ml := 0, x_val := 0, x_offset := 0, x_valq20 := 0, x_length := 0, t49 := 0 }

/-- What is left of the results. -/
def res (K : Sl → Int → Value → Heap → Prop) (s : St) (h1 : Heap) : Prop := K s.t6 s.t7 s.t8 h1

/-- The call of '(*pub-pemmican/pub/compress/s2.LZ4Converter).ConvertBlockSnappy'. -/
theorem calls (x_l : Option Addr) (x_dst : Sl) (x_src : Sl) (h : Heap) (K : Sl → Int → Value → Heap → Prop)
    (H : stm (init x_l x_dst x_src) h (endK (res K))) : c_LcS x_l x_dst x_src h K := by
  have hc : CallsH Pg 75 #[(.pointer x_l), (.slice x_dst.p x_dst.n x_dst.c), (.slice x_src.p x_src.n x_src.c)] h fun v h1 => asT v fun l1 => asC l1 fun v1 l2 => asS v1 fun p1 n1 c1 => asC l2 fun v2 l3 => asI .i64 v2 fun n2 => asC l3 fun v3 l4 => asN l4 (K ⟨p1, n1, c1⟩ n2 v3 h1) :=
    callsH_of_sim (R := p0) (fn := Tryd.f75) (c := Tryd.f75.body.getD .skip) Tryd.func75 rfl Tryd.ntmps75 Tryd.call75 sim (init x_l x_dst x_src) (⟨rfl, rfl, rfl, trivial⟩) (Nat.le_of_ble_eq_true rfl) (fun _ => ⟨rfl, rfl, rfl, trivial⟩) rfl
      (res K) (fun _ _ => by kernel_rfl) H
  refine hc.mono ?_
  intro v hp H
  obtain ⟨l1, rfl, h1⟩ := asT_elim H
  obtain ⟨v1, l2, rfl, h2⟩ := asC_elim h1
  obtain ⟨p1, n1, c1, rfl, h3⟩ := asS_elim h2
  obtain ⟨v2, l3, rfl, h4⟩ := asC_elim h3
  obtain ⟨n2, rfl, h5⟩ := asI_elim h4
  obtain ⟨v3, l4, rfl, h6⟩ := asC_elim h5
  obtain ⟨rfl, h7⟩ := asN_elim h6
  exact ⟨_, _, _, _, _, rfl, h7⟩

end M_LcS

end Go.Proofs.YtibleenkgmkpmaaDoor

namespace Go.Proofs.YtibleenkgmkpmaaDoor
open Go Go.Vc Go.Proofs

namespace M_LsS

structure St where
  x_l : Option Addr
  x_dst : Sl
  x_src : Sl
  t6 : Sl
  t7 : Int
  t8 : Value
  x_s : Int
  x_d : Int
  x_res : Int
  x_sz : Int
  x_dLimit : Int
  x_uncompressed : Int
  x_token : Int
  x_ll : Int
  x_ml : Int
  x_val : Int
  x_offset : Int
  x_valq20 : Int
  x_length : Int
  t49 : Int

def p0 : Pt St where
  env s := [(6, (.slice s.t6.p s.t6.n s.t6.c)), (7, (.int .i64 s.t7)), (8, s.t8)]
  fin e s K := vS e 6 fun p1 n1 c1 => vI e 7 .i64 fun n2 => getV e 8 fun v3 => K { s with t6 := ⟨p1, n1, c1⟩, t7 := n2, t8 := v3 }
  ok := by
    intro e s K h0
    obtain ⟨p1, n1, c1, g1, h2⟩ := gS h0
    obtain ⟨n2, g2, h4⟩ := gI h2
    obtain ⟨w3, g3, h5⟩ := getV_elim h4
    exact ⟨_, ⟨g1, g2, g3, trivial⟩, h5⟩

def p1 : Pt St where
  env s := [(0, (.pointer s.x_l)), (1, (.slice s.x_dst.p s.x_dst.n s.x_dst.c)), (2, (.slice s.x_src.p s.x_src.n s.x_src.c))]
  fin e s K := vP e 0 fun p1 => vS e 1 fun p2 n1 c1 => vS e 2 fun p3 n2 c2 => K { s with x_l := p1, x_dst := ⟨p2, n1, c1⟩, x_src := ⟨p3, n2, c2⟩ }
  ok := by
    intro e s K h0
    obtain ⟨p1, g1, h2⟩ := gP h0
    obtain ⟨p2, n1, c1, g2, h4⟩ := gS h2
    obtain ⟨p3, n2, c2, g3, h6⟩ := gS h4
    exact ⟨_, ⟨g1, g2, g3, trivial⟩, h6⟩

def p2 : Pt St where
  env s := [(0, (.pointer s.x_l)), (1, (.slice s.x_dst.p s.x_dst.n s.x_dst.c)), (2, (.slice s.x_src.p s.x_src.n s.x_src.c)), (9, (.int .i64 s.x_s)), (10, (.int .i64 s.x_d))]
  fin e s K := vP e 0 fun p1 => vS e 1 fun p2 n1 c1 => vS e 2 fun p3 n2 c2 => vI e 9 .i64 fun n3 => vI e 10 .i64 fun n4 => K { s with x_l := p1, x_dst := ⟨p2, n1, c1⟩, x_src := ⟨p3, n2, c2⟩, x_s := n3, x_d := n4 }
  ok := by
    intro e s K h0
    obtain ⟨p1, g1, h2⟩ := gP h0
    obtain ⟨p2, n1, c1, g2, h4⟩ := gS h2
    obtain ⟨p3, n2, c2, g3, h6⟩ := gS h4
    obtain ⟨n3, g4, h8⟩ := gI h6
    obtain ⟨n4, g5, h10⟩ := gI h8
    exact ⟨_, ⟨g1, g2, g3, g4, g5, trivial⟩, h10⟩

def p3 : Pt St where
  env s := [(1, (.slice s.x_dst.p s.x_dst.n s.x_dst.c)), (2, (.slice s.x_src.p s.x_src.n s.x_src.c)), (9, (.int .i64 s.x_s)), (10, (.int .i64 s.x_d))]
  fin e s K := vS e 1 fun p1 n1 c1 => vS e 2 fun p2 n2 c2 => vI e 9 .i64 fun n3 => vI e 10 .i64 fun n4 => K { s with x_dst := ⟨p1, n1, c1⟩, x_src := ⟨p2, n2, c2⟩, x_s := n3, x_d := n4 }
  ok := by
    intro e s K h0
    obtain ⟨p1, n1, c1, g1, h2⟩ := gS h0
    obtain ⟨p2, n2, c2, g2, h4⟩ := gS h2
    obtain ⟨n3, g3, h6⟩ := gI h4
    obtain ⟨n4, g4, h8⟩ := gI h6
    exact ⟨_, ⟨g1, g2, g3, g4, trivial⟩, h8⟩

def p4 : Pt St where
  env s := [(1, (.slice s.x_dst.p s.x_dst.n s.x_dst.c)), (10, (.int .i64 s.x_d)), (11, (.int .i64 s.x_res)), (12, (.int .i64 s.x_sz))]
  fin e s K := vS e 1 fun p1 n1 c1 => vI e 10 .i64 fun n2 => vI e 11 .i64 fun n3 => vI e 12 .i64 fun n4 => K { s with x_dst := ⟨p1, n1, c1⟩, x_d := n2, x_res := n3, x_sz := n4 }
  ok := by
    intro e s K h0
    obtain ⟨p1, n1, c1, g1, h2⟩ := gS h0
    obtain ⟨n2, g2, h4⟩ := gI h2
    obtain ⟨n3, g3, h6⟩ := gI h4
    obtain ⟨n4, g4, h8⟩ := gI h6
    exact ⟨_, ⟨g1, g2, g3, g4, trivial⟩, h8⟩

def p5 : Pt St where
  env s := [(49, (.int .i64 s.t49))]
  fin e s K := vI e 49 .i64 fun n1 => K { s with t49 := n1 }
  ok := by
    intro e s K h0
    obtain ⟨n1, g1, h2⟩ := gI h0
    exact ⟨_, ⟨g1, trivial⟩, h2⟩

def p6 : Pt St where
  env s := []
  fin e s K := K s
  ok := by
    intro e s K h0
    exact ⟨_, trivial, h0⟩

def p7 : Pt St where
  env s := [(1, (.slice s.x_dst.p s.x_dst.n s.x_dst.c)), (2, (.slice s.x_src.p s.x_src.n s.x_src.c)), (9, (.int .i64 s.x_s)), (10, (.int .i64 s.x_d)), (13, (.int .i64 s.x_dLimit))]
  fin e s K := vS e 1 fun p1 n1 c1 => vS e 2 fun p2 n2 c2 => vI e 9 .i64 fun n3 => vI e 10 .i64 fun n4 => vI e 13 .i64 fun n5 => K { s with x_dst := ⟨p1, n1, c1⟩, x_src := ⟨p2, n2, c2⟩, x_s := n3, x_d := n4, x_dLimit := n5 }
  ok := by
    intro e s K h0
    obtain ⟨p1, n1, c1, g1, h2⟩ := gS h0
    obtain ⟨p2, n2, c2, g2, h4⟩ := gS h2
    obtain ⟨n3, g3, h6⟩ := gI h4
    obtain ⟨n4, g4, h8⟩ := gI h6
    obtain ⟨n5, g5, h10⟩ := gI h8
    exact ⟨_, ⟨g1, g2, g3, g4, g5, trivial⟩, h10⟩

def p8 : Pt St where
  env s := [(1, (.slice s.x_dst.p s.x_dst.n s.x_dst.c)), (2, (.slice s.x_src.p s.x_src.n s.x_src.c)), (9, (.int .i64 s.x_s)), (10, (.int .i64 s.x_d)), (13, (.int .i64 s.x_dLimit)), (14, (.int .i64 s.x_uncompressed))]
  fin e s K := vS e 1 fun p1 n1 c1 => vS e 2 fun p2 n2 c2 => vI e 9 .i64 fun n3 => vI e 10 .i64 fun n4 => vI e 13 .i64 fun n5 => vI e 14 .i64 fun n6 => K { s with x_dst := ⟨p1, n1, c1⟩, x_src := ⟨p2, n2, c2⟩, x_s := n3, x_d := n4, x_dLimit := n5, x_uncompressed := n6 }
  ok := by
    intro e s K h0
    obtain ⟨p1, n1, c1, g1, h2⟩ := gS h0
    obtain ⟨p2, n2, c2, g2, h4⟩ := gS h2
    obtain ⟨n3, g3, h6⟩ := gI h4
    obtain ⟨n4, g4, h8⟩ := gI h6
    obtain ⟨n5, g5, h10⟩ := gI h8
    obtain ⟨n6, g6, h12⟩ := gI h10
    exact ⟨_, ⟨g1, g2, g3, g4, g5, g6, trivial⟩, h12⟩

def p9 : Pt St where
  env s := [(1, (.slice s.x_dst.p s.x_dst.n s.x_dst.c)), (10, (.int .i64 s.x_d)), (14, (.int .i64 s.x_uncompressed))]
  fin e s K := vS e 1 fun p1 n1 c1 => vI e 10 .i64 fun n2 => vI e 14 .i64 fun n3 => K { s with x_dst := ⟨p1, n1, c1⟩, x_d := n2, x_uncompressed := n3 }
  ok := by
    intro e s K h0
    obtain ⟨p1, n1, c1, g1, h2⟩ := gS h0
    obtain ⟨n2, g2, h4⟩ := gI h2
    obtain ⟨n3, g3, h6⟩ := gI h4
    exact ⟨_, ⟨g1, g2, g3, trivial⟩, h6⟩

def p10 : Pt St where
  env s := [(1, (.slice s.x_dst.p s.x_dst.n s.x_dst.c)), (2, (.slice s.x_src.p s.x_src.n s.x_src.c)), (9, (.int .i64 s.x_s)), (10, (.int .i64 s.x_d)), (13, (.int .i64 s.x_dLimit)), (14, (.int .i64 s.x_uncompressed)), (15, (.int .u8 s.x_token))]
  fin e s K := vS e 1 fun p1 n1 c1 => vS e 2 fun p2 n2 c2 => vI e 9 .i64 fun n3 => vI e 10 .i64 fun n4 => vI e 13 .i64 fun n5 => vI e 14 .i64 fun n6 => vI e 15 .u8 fun n7 => K { s with x_dst := ⟨p1, n1, c1⟩, x_src := ⟨p2, n2, c2⟩, x_s := n3, x_d := n4, x_dLimit := n5, x_uncompressed := n6, x_token := n7 }
  ok := by
    intro e s K h0
    obtain ⟨p1, n1, c1, g1, h2⟩ := gS h0
    obtain ⟨p2, n2, c2, g2, h4⟩ := gS h2
    obtain ⟨n3, g3, h6⟩ := gI h4
    obtain ⟨n4, g4, h8⟩ := gI h6
    obtain ⟨n5, g5, h10⟩ := gI h8
    obtain ⟨n6, g6, h12⟩ := gI h10
    obtain ⟨n7, g7, h14⟩ := gI h12
    exact ⟨_, ⟨g1, g2, g3, g4, g5, g6, g7, trivial⟩, h14⟩

def p11 : Pt St where
  env s := [(1, (.slice s.x_dst.p s.x_dst.n s.x_dst.c)), (2, (.slice s.x_src.p s.x_src.n s.x_src.c)), (9, (.int .i64 s.x_s)), (10, (.int .i64 s.x_d)), (13, (.int .i64 s.x_dLimit)), (14, (.int .i64 s.x_uncompressed)), (15, (.int .u8 s.x_token)), (16, (.int .i64 s.x_ll))]
  fin e s K := vS e 1 fun p1 n1 c1 => vS e 2 fun p2 n2 c2 => vI e 9 .i64 fun n3 => vI e 10 .i64 fun n4 => vI e 13 .i64 fun n5 => vI e 14 .i64 fun n6 => vI e 15 .u8 fun n7 => vI e 16 .i64 fun n8 => K { s with x_dst := ⟨p1, n1, c1⟩, x_src := ⟨p2, n2, c2⟩, x_s := n3, x_d := n4, x_dLimit := n5, x_uncompressed := n6, x_token := n7, x_ll := n8 }
  ok := by
    intro e s K h0
    obtain ⟨p1, n1, c1, g1, h2⟩ := gS h0
    obtain ⟨p2, n2, c2, g2, h4⟩ := gS h2
    obtain ⟨n3, g3, h6⟩ := gI h4
    obtain ⟨n4, g4, h8⟩ := gI h6
    obtain ⟨n5, g5, h10⟩ := gI h8
    obtain ⟨n6, g6, h12⟩ := gI h10
    obtain ⟨n7, g7, h14⟩ := gI h12
    obtain ⟨n8, g8, h16⟩ := gI h14
    exact ⟨_, ⟨g1, g2, g3, g4, g5, g6, g7, g8, trivial⟩, h16⟩

def p12 : Pt St where
  env s := [(1, (.slice s.x_dst.p s.x_dst.n s.x_dst.c)), (2, (.slice s.x_src.p s.x_src.n s.x_src.c)), (9, (.int .i64 s.x_s)), (10, (.int .i64 s.x_d)), (13, (.int .i64 s.x_dLimit)), (14, (.int .i64 s.x_uncompressed)), (15, (.int .u8 s.x_token)), (16, (.int .i64 s.x_ll)), (17, (.int .i64 s.x_ml))]
  fin e s K := vS e 1 fun p1 n1 c1 => vS e 2 fun p2 n2 c2 => vI e 9 .i64 fun n3 => vI e 10 .i64 fun n4 => vI e 13 .i64 fun n5 => vI e 14 .i64 fun n6 => vI e 15 .u8 fun n7 => vI e 16 .i64 fun n8 => vI e 17 .i64 fun n9 => K { s with x_dst := ⟨p1, n1, c1⟩, x_src := ⟨p2, n2, c2⟩, x_s := n3, x_d := n4, x_dLimit := n5, x_uncompressed := n6, x_token := n7, x_ll := n8, x_ml := n9 }
  ok := by
    intro e s K h0
    obtain ⟨p1, n1, c1, g1, h2⟩ := gS h0
    obtain ⟨p2, n2, c2, g2, h4⟩ := gS h2
    obtain ⟨n3, g3, h6⟩ := gI h4
    obtain ⟨n4, g4, h8⟩ := gI h6
    obtain ⟨n5, g5, h10⟩ := gI h8
    obtain ⟨n6, g6, h12⟩ := gI h10
    obtain ⟨n7, g7, h14⟩ := gI h12
    obtain ⟨n8, g8, h16⟩ := gI h14
    obtain ⟨n9, g9, h18⟩ := gI h16
    exact ⟨_, ⟨g1, g2, g3, g4, g5, g6, g7, g8, g9, trivial⟩, h18⟩

def p13 : Pt St where
  env s := [(1, (.slice s.x_dst.p s.x_dst.n s.x_dst.c)), (2, (.slice s.x_src.p s.x_src.n s.x_src.c)), (9, (.int .i64 s.x_s)), (10, (.int .i64 s.x_d)), (13, (.int .i64 s.x_dLimit)), (14, (.int .i64 s.x_uncompressed)), (16, (.int .i64 s.x_ll)), (17, (.int .i64 s.x_ml))]
  fin e s K := vS e 1 fun p1 n1 c1 => vS e 2 fun p2 n2 c2 => vI e 9 .i64 fun n3 => vI e 10 .i64 fun n4 => vI e 13 .i64 fun n5 => vI e 14 .i64 fun n6 => vI e 16 .i64 fun n7 => vI e 17 .i64 fun n8 => K { s with x_dst := ⟨p1, n1, c1⟩, x_src := ⟨p2, n2, c2⟩, x_s := n3, x_d := n4, x_dLimit := n5, x_uncompressed := n6, x_ll := n7, x_ml := n8 }
  ok := by
    intro e s K h0
    obtain ⟨p1, n1, c1, g1, h2⟩ := gS h0
    obtain ⟨p2, n2, c2, g2, h4⟩ := gS h2
    obtain ⟨n3, g3, h6⟩ := gI h4
    obtain ⟨n4, g4, h8⟩ := gI h6
    obtain ⟨n5, g5, h10⟩ := gI h8
    obtain ⟨n6, g6, h12⟩ := gI h10
    obtain ⟨n7, g7, h14⟩ := gI h12
    obtain ⟨n8, g8, h16⟩ := gI h14
    exact ⟨_, ⟨g1, g2, g3, g4, g5, g6, g7, g8, trivial⟩, h16⟩

def p14 : Pt St where
  env s := [(1, (.slice s.x_dst.p s.x_dst.n s.x_dst.c)), (2, (.slice s.x_src.p s.x_src.n s.x_src.c)), (9, (.int .i64 s.x_s)), (10, (.int .i64 s.x_d)), (13, (.int .i64 s.x_dLimit)), (14, (.int .i64 s.x_uncompressed)), (16, (.int .i64 s.x_ll)), (17, (.int .i64 s.x_ml)), (18, (.int .u8 s.x_val))]
  fin e s K := vS e 1 fun p1 n1 c1 => vS e 2 fun p2 n2 c2 => vI e 9 .i64 fun n3 => vI e 10 .i64 fun n4 => vI e 13 .i64 fun n5 => vI e 14 .i64 fun n6 => vI e 16 .i64 fun n7 => vI e 17 .i64 fun n8 => vI e 18 .u8 fun n9 => K { s with x_dst := ⟨p1, n1, c1⟩, x_src := ⟨p2, n2, c2⟩, x_s := n3, x_d := n4, x_dLimit := n5, x_uncompressed := n6, x_ll := n7, x_ml := n8, x_val := n9 }
  ok := by
    intro e s K h0
    obtain ⟨p1, n1, c1, g1, h2⟩ := gS h0
    obtain ⟨p2, n2, c2, g2, h4⟩ := gS h2
    obtain ⟨n3, g3, h6⟩ := gI h4
    obtain ⟨n4, g4, h8⟩ := gI h6
    obtain ⟨n5, g5, h10⟩ := gI h8
    obtain ⟨n6, g6, h12⟩ := gI h10
    obtain ⟨n7, g7, h14⟩ := gI h12
    obtain ⟨n8, g8, h16⟩ := gI h14
    obtain ⟨n9, g9, h18⟩ := gI h16
    exact ⟨_, ⟨g1, g2, g3, g4, g5, g6, g7, g8, g9, trivial⟩, h18⟩

def p15 : Pt St where
  env s := [(1, (.slice s.x_dst.p s.x_dst.n s.x_dst.c)), (2, (.slice s.x_src.p s.x_src.n s.x_src.c)), (9, (.int .i64 s.x_s)), (10, (.int .i64 s.x_d)), (13, (.int .i64 s.x_dLimit)), (14, (.int .i64 s.x_uncompressed)), (17, (.int .i64 s.x_ml))]
  fin e s K := vS e 1 fun p1 n1 c1 => vS e 2 fun p2 n2 c2 => vI e 9 .i64 fun n3 => vI e 10 .i64 fun n4 => vI e 13 .i64 fun n5 => vI e 14 .i64 fun n6 => vI e 17 .i64 fun n7 => K { s with x_dst := ⟨p1, n1, c1⟩, x_src := ⟨p2, n2, c2⟩, x_s := n3, x_d := n4, x_dLimit := n5, x_uncompressed := n6, x_ml := n7 }
  ok := by
    intro e s K h0
    obtain ⟨p1, n1, c1, g1, h2⟩ := gS h0
    obtain ⟨p2, n2, c2, g2, h4⟩ := gS h2
    obtain ⟨n3, g3, h6⟩ := gI h4
    obtain ⟨n4, g4, h8⟩ := gI h6
    obtain ⟨n5, g5, h10⟩ := gI h8
    obtain ⟨n6, g6, h12⟩ := gI h10
    obtain ⟨n7, g7, h14⟩ := gI h12
    exact ⟨_, ⟨g1, g2, g3, g4, g5, g6, g7, trivial⟩, h14⟩

def p16 : Pt St where
  env s := [(1, (.slice s.x_dst.p s.x_dst.n s.x_dst.c)), (2, (.slice s.x_src.p s.x_src.n s.x_src.c)), (9, (.int .i64 s.x_s)), (10, (.int .i64 s.x_d)), (13, (.int .i64 s.x_dLimit)), (14, (.int .i64 s.x_uncompressed)), (17, (.int .i64 s.x_ml)), (19, (.int .u16 s.x_offset))]
  fin e s K := vS e 1 fun p1 n1 c1 => vS e 2 fun p2 n2 c2 => vI e 9 .i64 fun n3 => vI e 10 .i64 fun n4 => vI e 13 .i64 fun n5 => vI e 14 .i64 fun n6 => vI e 17 .i64 fun n7 => vI e 19 .u16 fun n8 => K { s with x_dst := ⟨p1, n1, c1⟩, x_src := ⟨p2, n2, c2⟩, x_s := n3, x_d := n4, x_dLimit := n5, x_uncompressed := n6, x_ml := n7, x_offset := n8 }
  ok := by
    intro e s K h0
    obtain ⟨p1, n1, c1, g1, h2⟩ := gS h0
    obtain ⟨p2, n2, c2, g2, h4⟩ := gS h2
    obtain ⟨n3, g3, h6⟩ := gI h4
    obtain ⟨n4, g4, h8⟩ := gI h6
    obtain ⟨n5, g5, h10⟩ := gI h8
    obtain ⟨n6, g6, h12⟩ := gI h10
    obtain ⟨n7, g7, h14⟩ := gI h12
    obtain ⟨n8, g8, h16⟩ := gI h14
    exact ⟨_, ⟨g1, g2, g3, g4, g5, g6, g7, g8, trivial⟩, h16⟩

def p17 : Pt St where
  env s := [(1, (.slice s.x_dst.p s.x_dst.n s.x_dst.c)), (2, (.slice s.x_src.p s.x_src.n s.x_src.c)), (9, (.int .i64 s.x_s)), (10, (.int .i64 s.x_d)), (13, (.int .i64 s.x_dLimit)), (14, (.int .i64 s.x_uncompressed)), (17, (.int .i64 s.x_ml)), (19, (.int .u16 s.x_offset)), (20, (.int .u8 s.x_valq20))]
  fin e s K := vS e 1 fun p1 n1 c1 => vS e 2 fun p2 n2 c2 => vI e 9 .i64 fun n3 => vI e 10 .i64 fun n4 => vI e 13 .i64 fun n5 => vI e 14 .i64 fun n6 => vI e 17 .i64 fun n7 => vI e 19 .u16 fun n8 => vI e 20 .u8 fun n9 => K { s with x_dst := ⟨p1, n1, c1⟩, x_src := ⟨p2, n2, c2⟩, x_s := n3, x_d := n4, x_dLimit := n5, x_uncompressed := n6, x_ml := n7, x_offset := n8, x_valq20 := n9 }
  ok := by
    intro e s K h0
    obtain ⟨p1, n1, c1, g1, h2⟩ := gS h0
    obtain ⟨p2, n2, c2, g2, h4⟩ := gS h2
    obtain ⟨n3, g3, h6⟩ := gI h4
    obtain ⟨n4, g4, h8⟩ := gI h6
    obtain ⟨n5, g5, h10⟩ := gI h8
    obtain ⟨n6, g6, h12⟩ := gI h10
    obtain ⟨n7, g7, h14⟩ := gI h12
    obtain ⟨n8, g8, h16⟩ := gI h14
    obtain ⟨n9, g9, h18⟩ := gI h16
    exact ⟨_, ⟨g1, g2, g3, g4, g5, g6, g7, g8, g9, trivial⟩, h18⟩

def p18 : Pt St where
  env s := [(1, (.slice s.x_dst.p s.x_dst.n s.x_dst.c)), (2, (.slice s.x_src.p s.x_src.n s.x_src.c)), (9, (.int .i64 s.x_s)), (10, (.int .i64 s.x_d)), (13, (.int .i64 s.x_dLimit)), (14, (.int .i64 s.x_uncompressed)), (17, (.int .i64 s.x_ml)), (19, (.int .u16 s.x_offset)), (21, (.int .i64 s.x_length))]
  fin e s K := vS e 1 fun p1 n1 c1 => vS e 2 fun p2 n2 c2 => vI e 9 .i64 fun n3 => vI e 10 .i64 fun n4 => vI e 13 .i64 fun n5 => vI e 14 .i64 fun n6 => vI e 17 .i64 fun n7 => vI e 19 .u16 fun n8 => vI e 21 .i64 fun n9 => K { s with x_dst := ⟨p1, n1, c1⟩, x_src := ⟨p2, n2, c2⟩, x_s := n3, x_d := n4, x_dLimit := n5, x_uncompressed := n6, x_ml := n7, x_offset := n8, x_length := n9 }
  ok := by
    intro e s K h0
    obtain ⟨p1, n1, c1, g1, h2⟩ := gS h0
    obtain ⟨p2, n2, c2, g2, h4⟩ := gS h2
    obtain ⟨n3, g3, h6⟩ := gI h4
    obtain ⟨n4, g4, h8⟩ := gI h6
    obtain ⟨n5, g5, h10⟩ := gI h8
    obtain ⟨n6, g6, h12⟩ := gI h10
    obtain ⟨n7, g7, h14⟩ := gI h12
    obtain ⟨n8, g8, h16⟩ := gI h14
    obtain ⟨n9, g9, h18⟩ := gI h16
    exact ⟨_, ⟨g1, g2, g3, g4, g5, g6, g7, g8, g9, trivial⟩, h18⟩

def p19 : Pt St where
  env s := [(1, (.slice s.x_dst.p s.x_dst.n s.x_dst.c)), (2, (.slice s.x_src.p s.x_src.n s.x_src.c)), (9, (.int .i64 s.x_s)), (10, (.int .i64 s.x_d)), (13, (.int .i64 s.x_dLimit)), (14, (.int .i64 s.x_uncompressed)), (17, (.int .i64 s.x_ml)), (21, (.int .i64 s.x_length))]
  fin e s K := vS e 1 fun p1 n1 c1 => vS e 2 fun p2 n2 c2 => vI e 9 .i64 fun n3 => vI e 10 .i64 fun n4 => vI e 13 .i64 fun n5 => vI e 14 .i64 fun n6 => vI e 17 .i64 fun n7 => vI e 21 .i64 fun n8 => K { s with x_dst := ⟨p1, n1, c1⟩, x_src := ⟨p2, n2, c2⟩, x_s := n3, x_d := n4, x_dLimit := n5, x_uncompressed := n6, x_ml := n7, x_length := n8 }
  ok := by
    intro e s K h0
    obtain ⟨p1, n1, c1, g1, h2⟩ := gS h0
    obtain ⟨p2, n2, c2, g2, h4⟩ := gS h2
    obtain ⟨n3, g3, h6⟩ := gI h4
    obtain ⟨n4, g4, h8⟩ := gI h6
    obtain ⟨n5, g5, h10⟩ := gI h8
    obtain ⟨n6, g6, h12⟩ := gI h10
    obtain ⟨n7, g7, h14⟩ := gI h12
    obtain ⟨n8, g8, h16⟩ := gI h14
    exact ⟨_, ⟨g1, g2, g3, g4, g5, g6, g7, g8, trivial⟩, h16⟩

def r0 (s : St) (h : Heap) (Q : St → Heap → Prop) : Prop :=
  Q s h

def r1 (s : St) (h : Heap) (Q : Bool → St → Heap → Prop) : Prop :=
  Q (((s.x_src.n : Nat) : Int) == (0 : Int)) s h

def r2 (s : St) (h : Heap) (Q : St → Heap → Prop) : Prop :=
  Q { s with t6 := s.x_dst, t7 := (0 : Int), t8 := .nilIface } h

def r3 (s : St) (h : Heap) (Q : St → Heap → Prop) : Prop :=
  Q { s with x_s := (0 : Int), x_d := ((s.x_dst.n : Nat) : Int) } h

def r4 (s : St) (h : Heap) (Q : St → Heap → Prop) : Prop :=
  0 ≤ ((s.x_dst.c : Nat) : Int) ∧ ((s.x_dst.c : Nat) : Int) ≤ ((s.x_dst.c : Nat) : Int) ∧
  Q { s with x_dst := ⟨(subP s.x_dst.p 0 s.x_dst.c 1), ((Int.toNat ((s.x_dst.c : Nat) : Int)) - 0), (s.x_dst.c - 0)⟩ } h

def r5 (s : St) (h : Heap) (Q : Bool → St → Heap → Prop) : Prop :=
  Q false s h

def r6 (s : St) (h : Heap) (Q : St → Heap → Prop) : Prop :=
  0 ≤ s.x_d ∧ s.x_d ≤ ((s.x_dst.n : Nat) : Int) ∧
  c_cvtLZ4sBlockSnappyAsm ⟨(subP s.x_dst.p (Int.toNat s.x_d) s.x_dst.c 1), (s.x_dst.n - (Int.toNat s.x_d)), (s.x_dst.c - (Int.toNat s.x_d))⟩ s.x_src h fun r2 r3 h1 =>
  Q { s with x_res := r2, x_sz := r3 } h1

def r7 (s : St) (h : Heap) (Q : Bool → St → Heap → Prop) : Prop :=
  Q (decide (s.x_res < (0 : Int))) s h

def r8 (s : St) (h : Heap) (Q : St → Heap → Prop) : Prop :=
  Q { s with t49 := s.x_res } h

def r9 (s : St) (h : Heap) (Q : St → Heap → Prop) : Prop :=
  c_New (ByteArray.mk #[117, 110, 101, 120, 112, 101, 99, 116, 101, 100, 32, 114, 101, 115, 117, 108, 116, 58]) h fun u2 h1 =>
  Q { s with t6 := ⟨none, 0, 0⟩, t7 := (0 : Int), t8 := u2 } h1

def r10 (s : St) (h : Heap) (Q : Bool → St → Heap → Prop) : Prop :=
  Q (s.t49 == (-1 : Int)) s h

def r11 (s : St) (h : Heap) (Q : St → Heap → Prop) : Prop :=
  ∃ u1 : Value, hcell h ⟨0, 0, none⟩ = some u1 ∧
  Q { s with t6 := ⟨none, 0, 0⟩, t7 := (0 : Int), t8 := u1 } h

def r12 (s : St) (h : Heap) (Q : Bool → St → Heap → Prop) : Prop :=
  Q (s.t49 == (-2 : Int)) s h

def r13 (s : St) (h : Heap) (Q : St → Heap → Prop) : Prop :=
  ∃ u1 : Value, hcell h ⟨2, 0, none⟩ = some u1 ∧
  Q { s with t6 := ⟨none, 0, 0⟩, t7 := (0 : Int), t8 := u1 } h

def r14 (s : St) (h : Heap) (Q : Bool → St → Heap → Prop) : Prop :=
  Q (decide ((IntKind.wrap .i64 (s.x_d + s.x_sz)) > ((s.x_dst.n : Nat) : Int))) s h

def r15 (s : St) (h : Heap) (Q : St → Heap → Prop) : Prop :=
  ∃ u1 : Value, hcell h ⟨2, 0, none⟩ = some u1 ∧
  Q { s with t6 := ⟨none, 0, 0⟩, t7 := (0 : Int), t8 := u1 } h

def r16 (s : St) (h : Heap) (Q : St → Heap → Prop) : Prop :=
  0 ≤ (IntKind.wrap .i64 (s.x_d + s.x_sz)) ∧ (IntKind.wrap .i64 (s.x_d + s.x_sz)) ≤ ((s.x_dst.c : Nat) : Int) ∧
  Q { s with t6 := ⟨(subP s.x_dst.p 0 s.x_dst.c 1), ((Int.toNat (IntKind.wrap .i64 (s.x_d + s.x_sz))) - 0), (s.x_dst.c - 0)⟩, t7 := s.x_res, t8 := .nilIface } h

def r17 (s : St) (h : Heap) (Q : St → Heap → Prop) : Prop :=
  Q { s with x_dLimit := (IntKind.wrap .i64 (((s.x_dst.n : Nat) : Int) - (10 : Int))) } h

def r18 (s : St) (h : Heap) (Q : St → Heap → Prop) : Prop :=
  Q { s with x_uncompressed := (0 : Int) } h

def r19 (s : St) (h : Heap) (Q : Bool → St → Heap → Prop) : Prop :=
  Q (decide (s.x_s ≥ ((s.x_src.n : Nat) : Int))) s h

def r20 (s : St) (h : Heap) (Q : St → Heap → Prop) : Prop :=
  ∃ u1 : Value, hcell h ⟨0, 0, none⟩ = some u1 ∧
  Q { s with t6 := ⟨none, 0, 0⟩, t7 := (0 : Int), t8 := u1 } h

def r21 (s : St) (h : Heap) (Q : St → Heap → Prop) : Prop :=
  0 ≤ s.x_s ∧ s.x_s < ((s.x_src.n : Nat) : Int) ∧
  ptrE s.x_src.p fun a1 =>
  ∃ v2 : Int, hcell h (Addr.add a1 (Int.toNat s.x_s * 1)) = some (.int .u8 v2) ∧
  Q { s with x_token := v2 } h

def r22 (s : St) (h : Heap) (Q : St → Heap → Prop) : Prop :=
  Q { s with x_ll := (IntKind.wrap .i64 (Int.fdiv s.x_token (2 ^ (4 : Nat)))) } h

def r23 (s : St) (h : Heap) (Q : St → Heap → Prop) : Prop :=
  Q { s with x_ml := (IntKind.wrap .i64 (IntKind.wrap .u8 ((3 : Int) + (bAnd .u8 s.x_token (15 : Int))))) } h

def r24 (s : St) (h : Heap) (Q : Bool → St → Heap → Prop) : Prop :=
  Q (decide (s.x_token ≥ (240 : Int))) s h

def r25 (s : St) (h : Heap) (Q : St → Heap → Prop) : Prop :=
  Q { s with x_s := (IntKind.wrap .i64 (s.x_s + (1 : Int))) } h

def r26 (s : St) (h : Heap) (Q : Bool → St → Heap → Prop) : Prop :=
  Q (decide (s.x_s ≥ ((s.x_src.n : Nat) : Int))) s h

def r27 (s : St) (h : Heap) (Q : St → Heap → Prop) : Prop :=
  ∃ u1 : Value, hcell h ⟨0, 0, none⟩ = some u1 ∧
  Q { s with t6 := ⟨none, 0, 0⟩, t7 := (0 : Int), t8 := u1 } h

def r28 (s : St) (h : Heap) (Q : St → Heap → Prop) : Prop :=
  0 ≤ s.x_s ∧ s.x_s < ((s.x_src.n : Nat) : Int) ∧
  ptrE s.x_src.p fun a1 =>
  ∃ v2 : Int, hcell h (Addr.add a1 (Int.toNat s.x_s * 1)) = some (.int .u8 v2) ∧
  Q { s with x_val := v2 } h

def r29 (s : St) (h : Heap) (Q : St → Heap → Prop) : Prop :=
  Q { s with x_ll := (IntKind.wrap .i64 (s.x_ll + (IntKind.wrap .i64 s.x_val))) } h

def r30 (s : St) (h : Heap) (Q : Bool → St → Heap → Prop) : Prop :=
  Q (s.x_val != (255 : Int)) s h

def r31 (s : St) (h : Heap) (Q : Bool → St → Heap → Prop) : Prop :=
  Q (decide ((IntKind.wrap .i64 (s.x_s + s.x_ll)) ≥ ((s.x_src.n : Nat) : Int))) s h

def r32 (s : St) (h : Heap) (Q : St → Heap → Prop) : Prop :=
  ∃ u1 : Value, hcell h ⟨0, 0, none⟩ = some u1 ∧
  Q { s with t6 := ⟨none, 0, 0⟩, t7 := (0 : Int), t8 := u1 } h

def r33 (s : St) (h : Heap) (Q : St → Heap → Prop) : Prop :=
  Q { s with x_s := (IntKind.wrap .i64 (s.x_s + (1 : Int))) } h

def r34 (s : St) (h : Heap) (Q : Bool → St → Heap → Prop) : Prop :=
  Q (decide (s.x_ll > (0 : Int))) s h

def r35 (s : St) (h : Heap) (Q : Bool → St → Heap → Prop) : Prop :=
  Q (decide ((IntKind.wrap .i64 (s.x_d + s.x_ll)) > s.x_dLimit)) s h

def r36 (s : St) (h : Heap) (Q : St → Heap → Prop) : Prop :=
  ∃ u1 : Value, hcell h ⟨2, 0, none⟩ = some u1 ∧
  Q { s with t6 := ⟨none, 0, 0⟩, t7 := (0 : Int), t8 := u1 } h

def r37 (s : St) (h : Heap) (Q : St → Heap → Prop) : Prop :=
  0 ≤ s.x_d ∧ s.x_d ≤ ((s.x_dst.n : Nat) : Int) ∧
  0 ≤ (IntKind.wrap .i64 (s.x_s + s.x_ll)) ∧ (IntKind.wrap .i64 (s.x_s + s.x_ll)) ≤ ((s.x_src.c : Nat) : Int) ∧
  0 ≤ s.x_s ∧ s.x_s ≤ (((Int.toNat (IntKind.wrap .i64 (s.x_s + s.x_ll))) : Nat) : Int) ∧
  c_emitLiteralGo ⟨(subP s.x_dst.p (Int.toNat s.x_d) s.x_dst.c 1), (s.x_dst.n - (Int.toNat s.x_d)), (s.x_dst.c - (Int.toNat s.x_d))⟩ ⟨(subP s.x_src.p (Int.toNat s.x_s) s.x_src.c 1), ((Int.toNat (IntKind.wrap .i64 (s.x_s + s.x_ll))) - (Int.toNat s.x_s)), (s.x_src.c - (Int.toNat s.x_s))⟩ h fun r2 h1 =>
  Q { s with x_d := (IntKind.wrap .i64 (s.x_d + r2)) } h1

def r38 (s : St) (h : Heap) (Q : St → Heap → Prop) : Prop :=
  Q { s with x_s := (IntKind.wrap .i64 (s.x_s + s.x_ll)) } h

def r39 (s : St) (h : Heap) (Q : St → Heap → Prop) : Prop :=
  Q { s with x_uncompressed := (IntKind.wrap .i64 (s.x_uncompressed + s.x_ll)) } h

def r40 (s : St) (h : Heap) (Q : Bool → St → Heap → Prop) : Prop :=
  Q (s.x_ml == (3 : Int)) s h

def r41 (s : St) (h : Heap) (Q : Bool → St → Heap → Prop) : Prop :=
  Q (s.x_s == ((s.x_src.n : Nat) : Int)) s h

def r42 (s : St) (h : Heap) (Q : Bool → St → Heap → Prop) : Prop :=
  Q (decide (s.x_s ≥ (IntKind.wrap .i64 (((s.x_src.n : Nat) : Int) - (2 : Int))))) s h

def r43 (s : St) (h : Heap) (Q : St → Heap → Prop) : Prop :=
  ∃ u1 : Value, hcell h ⟨0, 0, none⟩ = some u1 ∧
  Q { s with t6 := ⟨none, 0, 0⟩, t7 := (0 : Int), t8 := u1 } h

def r44 (s : St) (h : Heap) (Q : St → Heap → Prop) : Prop :=
  0 ≤ s.x_s ∧ s.x_s ≤ ((s.x_src.n : Nat) : Int) ∧
  c_littleEndian_Uint16 ⟨(subP s.x_src.p (Int.toNat s.x_s) s.x_src.c 1), (s.x_src.n - (Int.toNat s.x_s)), (s.x_src.c - (Int.toNat s.x_s))⟩ h fun r2 h1 =>
  Q { s with x_offset := r2 } h1

def r45 (s : St) (h : Heap) (Q : St → Heap → Prop) : Prop :=
  Q { s with x_s := (IntKind.wrap .i64 (s.x_s + (2 : Int))) } h

def r46 (s : St) (h : Heap) (Q : Bool → St → Heap → Prop) : Prop :=
  Q (s.x_offset == (0 : Int)) s h

def r47 (s : St) (h : Heap) (Q : St → Heap → Prop) : Prop :=
  ∃ u1 : Value, hcell h ⟨0, 0, none⟩ = some u1 ∧
  Q { s with t6 := ⟨none, 0, 0⟩, t7 := (0 : Int), t8 := u1 } h

def r48 (s : St) (h : Heap) (Q : Bool → St → Heap → Prop) : Prop :=
  Q (decide ((IntKind.wrap .i64 s.x_offset) > s.x_uncompressed)) s h

def r49 (s : St) (h : Heap) (Q : St → Heap → Prop) : Prop :=
  ∃ u1 : Value, hcell h ⟨0, 0, none⟩ = some u1 ∧
  Q { s with t6 := ⟨none, 0, 0⟩, t7 := (0 : Int), t8 := u1 } h

def r50 (s : St) (h : Heap) (Q : Bool → St → Heap → Prop) : Prop :=
  Q (s.x_ml == (18 : Int)) s h

def r51 (s : St) (h : Heap) (Q : Bool → St → Heap → Prop) : Prop :=
  Q (decide (s.x_s ≥ ((s.x_src.n : Nat) : Int))) s h

def r52 (s : St) (h : Heap) (Q : St → Heap → Prop) : Prop :=
  ∃ u1 : Value, hcell h ⟨0, 0, none⟩ = some u1 ∧
  Q { s with t6 := ⟨none, 0, 0⟩, t7 := (0 : Int), t8 := u1 } h

def r53 (s : St) (h : Heap) (Q : St → Heap → Prop) : Prop :=
  0 ≤ s.x_s ∧ s.x_s < ((s.x_src.n : Nat) : Int) ∧
  ptrE s.x_src.p fun a1 =>
  ∃ v2 : Int, hcell h (Addr.add a1 (Int.toNat s.x_s * 1)) = some (.int .u8 v2) ∧
  Q { s with x_valq20 := v2 } h

def r54 (s : St) (h : Heap) (Q : St → Heap → Prop) : Prop :=
  Q { s with x_s := (IntKind.wrap .i64 (s.x_s + (1 : Int))) } h

def r55 (s : St) (h : Heap) (Q : St → Heap → Prop) : Prop :=
  Q { s with x_ml := (IntKind.wrap .i64 (s.x_ml + (IntKind.wrap .i64 s.x_valq20))) } h

def r56 (s : St) (h : Heap) (Q : Bool → St → Heap → Prop) : Prop :=
  Q (s.x_valq20 != (255 : Int)) s h

def r57 (s : St) (h : Heap) (Q : Bool → St → Heap → Prop) : Prop :=
  Q (decide (s.x_s ≥ ((s.x_src.n : Nat) : Int))) s h

def r58 (s : St) (h : Heap) (Q : St → Heap → Prop) : Prop :=
  ∃ u1 : Value, hcell h ⟨0, 0, none⟩ = some u1 ∧
  Q { s with t6 := ⟨none, 0, 0⟩, t7 := (0 : Int), t8 := u1 } h

def r59 (s : St) (h : Heap) (Q : St → Heap → Prop) : Prop :=
  Q { s with x_length := s.x_ml } h

def r60 (s : St) (h : Heap) (Q : Bool → St → Heap → Prop) : Prop :=
  Q (decide (s.x_length > (0 : Int))) s h

def r61 (s : St) (h : Heap) (Q : Bool → St → Heap → Prop) : Prop :=
  Q (decide (s.x_d ≥ s.x_dLimit)) s h

def r62 (s : St) (h : Heap) (Q : St → Heap → Prop) : Prop :=
  ∃ u1 : Value, hcell h ⟨2, 0, none⟩ = some u1 ∧
  Q { s with t6 := ⟨none, 0, 0⟩, t7 := (0 : Int), t8 := u1 } h

def r63 (s : St) (h : Heap) (Q : Bool → St → Heap → Prop) : Prop :=
  Q (decide (s.x_length > (64 : Int))) s h

def r64 (s : St) (h : Heap) (Q : St → Heap → Prop) : Prop :=
  0 ≤ (IntKind.wrap .i64 (s.x_d + (2 : Int))) ∧ (IntKind.wrap .i64 (s.x_d + (2 : Int))) < ((s.x_dst.n : Nat) : Int) ∧
  ptrE s.x_dst.p fun a1 =>
  st1 (Addr.add (Addr.add a1 (Int.toNat (IntKind.wrap .i64 (s.x_d + (2 : Int))) * 1)) 0) (.int .u8 (IntKind.wrap .u8 (Int.fdiv s.x_offset (2 ^ (8 : Nat))))) h fun h2 =>
  Q s h2

def r65 (s : St) (h : Heap) (Q : St → Heap → Prop) : Prop :=
  0 ≤ (IntKind.wrap .i64 (s.x_d + (1 : Int))) ∧ (IntKind.wrap .i64 (s.x_d + (1 : Int))) < ((s.x_dst.n : Nat) : Int) ∧
  ptrE s.x_dst.p fun a1 =>
  st1 (Addr.add (Addr.add a1 (Int.toNat (IntKind.wrap .i64 (s.x_d + (1 : Int))) * 1)) 0) (.int .u8 (IntKind.wrap .u8 s.x_offset)) h fun h2 =>
  Q s h2

def r66 (s : St) (h : Heap) (Q : St → Heap → Prop) : Prop :=
  0 ≤ (IntKind.wrap .i64 (s.x_d + (0 : Int))) ∧ (IntKind.wrap .i64 (s.x_d + (0 : Int))) < ((s.x_dst.n : Nat) : Int) ∧
  ptrE s.x_dst.p fun a1 =>
  st1 (Addr.add (Addr.add a1 (Int.toNat (IntKind.wrap .i64 (s.x_d + (0 : Int))) * 1)) 0) (.int .u8 (254 : Int)) h fun h2 =>
  Q s h2

def r67 (s : St) (h : Heap) (Q : St → Heap → Prop) : Prop :=
  Q { s with x_length := (IntKind.wrap .i64 (s.x_length - (64 : Int))) } h

def r68 (s : St) (h : Heap) (Q : St → Heap → Prop) : Prop :=
  Q { s with x_d := (IntKind.wrap .i64 (s.x_d + (3 : Int))) } h

def r69 (s : St) (h : Heap) (Q : Bool → St → Heap → Prop) : Prop :=
  (if (decide (s.x_length ≥ (12 : Int))) = false then
  ((if (decide (s.x_offset ≥ (2048 : Int))) = false then
  (Q (decide (s.x_length < (4 : Int))) s h)
  else
  (Q true s h)))
  else
  (Q true s h))

def r70 (s : St) (h : Heap) (Q : St → Heap → Prop) : Prop :=
  0 ≤ (IntKind.wrap .i64 (s.x_d + (2 : Int))) ∧ (IntKind.wrap .i64 (s.x_d + (2 : Int))) < ((s.x_dst.n : Nat) : Int) ∧
  ptrE s.x_dst.p fun a1 =>
  st1 (Addr.add (Addr.add a1 (Int.toNat (IntKind.wrap .i64 (s.x_d + (2 : Int))) * 1)) 0) (.int .u8 (IntKind.wrap .u8 (Int.fdiv s.x_offset (2 ^ (8 : Nat))))) h fun h2 =>
  Q s h2

def r71 (s : St) (h : Heap) (Q : St → Heap → Prop) : Prop :=
  0 ≤ (IntKind.wrap .i64 (s.x_d + (1 : Int))) ∧ (IntKind.wrap .i64 (s.x_d + (1 : Int))) < ((s.x_dst.n : Nat) : Int) ∧
  ptrE s.x_dst.p fun a1 =>
  st1 (Addr.add (Addr.add a1 (Int.toNat (IntKind.wrap .i64 (s.x_d + (1 : Int))) * 1)) 0) (.int .u8 (IntKind.wrap .u8 s.x_offset)) h fun h2 =>
  Q s h2

def r72 (s : St) (h : Heap) (Q : St → Heap → Prop) : Prop :=
  0 ≤ (IntKind.wrap .i64 (s.x_d + (0 : Int))) ∧ (IntKind.wrap .i64 (s.x_d + (0 : Int))) < ((s.x_dst.n : Nat) : Int) ∧
  ptrE s.x_dst.p fun a1 =>
  st1 (Addr.add (Addr.add a1 (Int.toNat (IntKind.wrap .i64 (s.x_d + (0 : Int))) * 1)) 0) (.int .u8 (bOr .u8 (IntKind.wrap .u8 ((IntKind.wrap .u8 (IntKind.wrap .i64 (s.x_length - (1 : Int)))) * 2 ^ (2 : Nat))) (2 : Int))) h fun h2 =>
  Q s h2

def r73 (s : St) (h : Heap) (Q : St → Heap → Prop) : Prop :=
  Q { s with x_d := (IntKind.wrap .i64 (s.x_d + (3 : Int))) } h

def r74 (s : St) (h : Heap) (Q : St → Heap → Prop) : Prop :=
  0 ≤ (IntKind.wrap .i64 (s.x_d + (1 : Int))) ∧ (IntKind.wrap .i64 (s.x_d + (1 : Int))) < ((s.x_dst.n : Nat) : Int) ∧
  ptrE s.x_dst.p fun a1 =>
  st1 (Addr.add (Addr.add a1 (Int.toNat (IntKind.wrap .i64 (s.x_d + (1 : Int))) * 1)) 0) (.int .u8 (IntKind.wrap .u8 s.x_offset)) h fun h2 =>
  Q s h2

def r75 (s : St) (h : Heap) (Q : St → Heap → Prop) : Prop :=
  0 ≤ (IntKind.wrap .i64 (s.x_d + (0 : Int))) ∧ (IntKind.wrap .i64 (s.x_d + (0 : Int))) < ((s.x_dst.n : Nat) : Int) ∧
  ptrE s.x_dst.p fun a1 =>
  st1 (Addr.add (Addr.add a1 (Int.toNat (IntKind.wrap .i64 (s.x_d + (0 : Int))) * 1)) 0) (.int .u8 (bOr .u8 (bOr .u8 (IntKind.wrap .u8 ((IntKind.wrap .u8 (Int.fdiv s.x_offset (2 ^ (8 : Nat)))) * 2 ^ (5 : Nat))) (IntKind.wrap .u8 ((IntKind.wrap .u8 (IntKind.wrap .i64 (s.x_length - (4 : Int)))) * 2 ^ (2 : Nat)))) (1 : Int))) h fun h2 =>
  Q s h2

def r76 (s : St) (h : Heap) (Q : St → Heap → Prop) : Prop :=
  Q { s with x_d := (IntKind.wrap .i64 (s.x_d + (2 : Int))) } h

def r77 (s : St) (h : Heap) (Q : St → Heap → Prop) : Prop :=
  Q { s with x_uncompressed := (IntKind.wrap .i64 (s.x_uncompressed + s.x_ml)) } h

def r78 (s : St) (h : Heap) (Q : Bool → St → Heap → Prop) : Prop :=
  Q (decide (s.x_d > s.x_dLimit)) s h

def r79 (s : St) (h : Heap) (Q : St → Heap → Prop) : Prop :=
  ∃ u1 : Value, hcell h ⟨2, 0, none⟩ = some u1 ∧
  Q { s with t6 := ⟨none, 0, 0⟩, t7 := (0 : Int), t8 := u1 } h

def r80 (s : St) (h : Heap) (Q : St → Heap → Prop) : Prop :=
  0 ≤ s.x_d ∧ s.x_d ≤ ((s.x_dst.c : Nat) : Int) ∧
  Q { s with t6 := ⟨(subP s.x_dst.p 0 s.x_dst.c 1), ((Int.toNat s.x_d) - 0), (s.x_dst.c - 0)⟩, t7 := s.x_uncompressed, t8 := .nilIface } h

def k60 : Stm St := (.test r78 (.seq (.reg r79) .ret) .skip)
def k59 : Stm St := (.seq (.reg r77) k60)
def k58 : Stm St := (.seq (.reg r75) (.seq (.reg r76) (.exit 7)))
def k57 : Stm St := (.seq (.reg r74) k58)
def k56 : Stm St := (.seq (.reg r72) (.seq (.reg r73) (.exit 7)))
def k55 : Stm St := (.seq (.reg r71) k56)
def k54 : Stm St := (.seq (.reg r70) k55)
def k53 : Stm St := (.seq (.test r69 k54 .skip) k57)
def k52 : Stm St := (.seq (.reg r67) (.seq (.reg r68) (.exit 8)))
def k51 : Stm St := (.seq (.reg r66) k52)
def k50 : Stm St := (.seq (.reg r65) k51)
def k49 : Stm St := (.seq (.reg r64) k50)
def k48 : Stm St := (.seq (.test r63 k49 .skip) k53)
def k47 : Stm St := (.block 8 (.seq (.test r61 (.seq (.reg r62) .ret) .skip) k48))
def k46 : Stm St := (.seq (.test r60 .skip (.exit 7)) k47)
def k45 : Stm St := (.seq (.block 7 (.loop k46)) k59)
def k44 : Stm St := (.seq (.reg r59) k45)
def k43 : Stm St := (.seq (.test r57 (.seq (.reg r58) .ret) .skip) (.exit 5))
def k42 : Stm St := (.test r56 k43 .skip)
def k41 : Stm St := (.seq (.reg r55) k42)
def k40 : Stm St := (.seq (.reg r54) k41)
def k39 : Stm St := (.seq (.reg r53) k40)
def k38 : Stm St := (.block 6 (.seq (.test r51 (.seq (.reg r52) .ret) .skip) k39))
def k37 : Stm St := (.block 5 (.loop k38))
def k36 : Stm St := (.seq (.test r50 k37 .skip) k44)
def k35 : Stm St := (.seq (.test r48 (.seq (.reg r49) .ret) .skip) k36)
def k34 : Stm St := (.seq (.test r46 (.seq (.reg r47) .ret) .skip) k35)
def k33 : Stm St := (.seq (.reg r45) k34)
def k32 : Stm St := (.seq (.reg r44) k33)
def k31 : Stm St := (.seq (.test r42 (.seq (.reg r43) .ret) .skip) k32)
def k30 : Stm St := (.seq (.test r41 (.exit 1) .skip) (.exit 2))
def k29 : Stm St := (.seq (.test r40 k30 .skip) k31)
def k28 : Stm St := (.seq (.reg r37) (.seq (.reg r38) (.reg r39)))
def k27 : Stm St := (.seq (.test r35 (.seq (.reg r36) .ret) .skip) k28)
def k26 : Stm St := (.seq (.test r34 k27 .skip) k29)
def k25 : Stm St := (.seq (.reg r33) k26)
def k24 : Stm St := (.seq (.test r31 (.seq (.reg r32) .ret) .skip) k25)
def k23 : Stm St := (.test r30 (.exit 3) .skip)
def k22 : Stm St := (.seq (.reg r29) k23)
def k21 : Stm St := (.seq (.reg r28) k22)
def k20 : Stm St := (.seq (.test r26 (.seq (.reg r27) .ret) .skip) k21)
def k19 : Stm St := (.block 4 (.seq (.reg r25) k20))
def k18 : Stm St := (.block 3 (.loop k19))
def k17 : Stm St := (.seq (.test r24 k18 .skip) k24)
def k16 : Stm St := (.seq (.reg r23) k17)
def k15 : Stm St := (.seq (.reg r22) k16)
def k14 : Stm St := (.seq (.reg r21) k15)
def k13 : Stm St := (.block 2 (.seq (.test r19 (.seq (.reg r20) .ret) .skip) k14))
def k12 : Stm St := (.seq (.block 1 (.loop k13)) (.seq (.reg r80) .ret))
def k11 : Stm St := (.seq (.reg r18) k12)
def k10 : Stm St := (.seq (.reg r17) k11)
def k9 : Stm St := (.seq (.test r14 (.seq (.reg r15) .ret) .skip) (.seq (.reg r16) .ret))
def k8 : Stm St := (.test r12 (.seq (.reg r13) .ret) (.seq (.reg r9) .ret))
def k7 : Stm St := (.block 0 (.test r10 (.seq (.reg r11) .ret) k8))
def k6 : Stm St := (.seq (.reg r8) k7)
def k5 : Stm St := (.seq (.test r7 k6 .skip) k9)
def k4 : Stm St := (.seq (.reg r6) k5)
def k3 : Stm St := (.seq (.test r5 k4 .skip) k10)
def k2 : Stm St := (.seq (.reg r4) k3)
def k1 : Stm St := (.seq (.reg r3) k2)
def k0 : Stm St := (.seq (.test r1 (.seq (.reg r2) .ret) .skip) k1)

def stm : Stm St := (.seq (.reg r0) k0)

def ex : Ex → Pt St := fun _ => p0

set_option maxRecDepth 100000 in
theorem sim : Sim Pg 291 p1 (Tryd.f73.body.getD .skip) stm p0 ex :=
  (Sim.seq (Sim.reg (A := p1) (B := p1) (fun _ _ _ => by kernel_rfl))
  (Sim.seq (Sim.test (A := p1) (B := p1) (fun _ _ _ => by kernel_rfl) (Sim.seq (Sim.reg (A := p1) (B := p0) (fun _ _ _ => by kernel_rfl))
  (Sim.ret (A := p0) (E := ex) (fun _ => ⟨rfl, rfl, rfl, trivial⟩)))
  (Sim.skip (A := p1)))
  (Sim.seq (Sim.reg (A := p1) (B := p2) (fun _ _ _ => by kernel_rfl))
  (Sim.seq (Sim.reg (A := p2) (B := p2) (fun _ _ _ => by kernel_rfl))
  (Sim.seq (Sim.test (A := p2) (B := p3) (fun _ _ _ => by kernel_rfl) (Sim.seq (Sim.reg (A := p3) (B := p4) (fun _ _ _ => by kernel_rfl))
  (Sim.seq (Sim.test (A := p4) (B := p4) (fun _ _ _ => by kernel_rfl) (Sim.seq (Sim.reg (A := p4) (B := p5) (fun _ _ _ => by kernel_rfl))
  (Sim.block (Sim.test (A := p5) (B := p5) (fun _ _ _ => by kernel_rfl) (Sim.seq (Sim.reg (A := p5) (B := p0) (fun _ _ _ => by kernel_rfl))
  (Sim.ret (A := p0) (E := (exAt ex 0 _)) (fun _ => ⟨rfl, rfl, rfl, trivial⟩)))
  (Sim.test (A := p5) (B := p6) (fun _ _ _ => by kernel_rfl) (Sim.seq (Sim.reg (A := p6) (B := p0) (fun _ _ _ => by kernel_rfl))
  (Sim.ret (A := p0) (E := (exAt ex 0 _)) (fun _ => ⟨rfl, rfl, rfl, trivial⟩)))
  (Sim.seq (Sim.reg (A := p6) (B := p0) (fun _ _ _ => by kernel_rfl))
  (Sim.ret (A := p0) (E := (exAt ex 0 _)) (fun _ => ⟨rfl, rfl, rfl, trivial⟩)))))))
  (Sim.skip (A := p4)))
  (Sim.seq (Sim.test (A := p4) (B := p4) (fun _ _ _ => by kernel_rfl) (Sim.seq (Sim.reg (A := p4) (B := p0) (fun _ _ _ => by kernel_rfl))
  (Sim.ret (A := p0) (E := ex) (fun _ => ⟨rfl, rfl, rfl, trivial⟩)))
  (Sim.skip (A := p4)))
  (Sim.seq (Sim.reg (A := p4) (B := p0) (fun _ _ _ => by kernel_rfl))
  (Sim.ret (A := p0) (E := ex) (fun _ => ⟨rfl, rfl, rfl, trivial⟩))))))
  (Sim.skip (A := p3)))
  (Sim.seq (Sim.reg (A := p3) (B := p7) (fun _ _ _ => by kernel_rfl))
  (Sim.seq (Sim.reg (A := p7) (B := p8) (fun _ _ _ => by kernel_rfl))
  (Sim.seq (Sim.block (B := p9) (Sim.loop (A := p8) (Sim.block (B := p8) (Sim.seq (Sim.test (A := p8) (B := p8) (fun _ _ _ => by kernel_rfl) (Sim.seq (Sim.reg (A := p8) (B := p0) (fun _ _ _ => by kernel_rfl))
  (Sim.ret (A := p0) (E := (exAt (exAt ex 1 p9) 2 p8)) (fun _ => ⟨rfl, rfl, rfl, trivial⟩)))
  (Sim.skip (A := p8)))
  (Sim.seq (Sim.reg (A := p8) (B := p10) (fun _ _ _ => by kernel_rfl))
  (Sim.seq (Sim.reg (A := p10) (B := p11) (fun _ _ _ => by kernel_rfl))
  (Sim.seq (Sim.reg (A := p11) (B := p12) (fun _ _ _ => by kernel_rfl))
  (Sim.seq (Sim.test (A := p12) (B := p13) (fun _ _ _ => by kernel_rfl) (Sim.block (B := p13) (Sim.loop (A := p13) (Sim.block (B := p13) (Sim.seq (Sim.reg (A := p13) (B := p13) (fun _ _ _ => by kernel_rfl))
  (Sim.seq (Sim.test (A := p13) (B := p13) (fun _ _ _ => by kernel_rfl) (Sim.seq (Sim.reg (A := p13) (B := p0) (fun _ _ _ => by kernel_rfl))
  (Sim.ret (A := p0) (E := (exAt (exAt (exAt (exAt ex 1 p9) 2 p8) 3 p13) 4 p13)) (fun _ => ⟨rfl, rfl, rfl, trivial⟩)))
  (Sim.skip (A := p13)))
  (Sim.seq (Sim.reg (A := p13) (B := p14) (fun _ _ _ => by kernel_rfl))
  (Sim.seq (Sim.reg (A := p14) (B := p14) (fun _ _ _ => by kernel_rfl))
  (Sim.test (A := p14) (B := p13) (fun _ _ _ => by kernel_rfl) (Sim.exit (A := p13) (fun _ => ⟨rfl, rfl, rfl, rfl, rfl, rfl, rfl, rfl, trivial⟩))
  (Sim.skip (A := p13))))))))))
  (Sim.skip (A := p13)))
  (Sim.seq (Sim.test (A := p13) (B := p13) (fun _ _ _ => by kernel_rfl) (Sim.seq (Sim.reg (A := p13) (B := p0) (fun _ _ _ => by kernel_rfl))
  (Sim.ret (A := p0) (E := (exAt (exAt ex 1 p9) 2 p8)) (fun _ => ⟨rfl, rfl, rfl, trivial⟩)))
  (Sim.skip (A := p13)))
  (Sim.seq (Sim.reg (A := p13) (B := p13) (fun _ _ _ => by kernel_rfl))
  (Sim.seq (Sim.test (A := p13) (B := p13) (fun _ _ _ => by kernel_rfl) (Sim.seq (Sim.test (A := p13) (B := p13) (fun _ _ _ => by kernel_rfl) (Sim.seq (Sim.reg (A := p13) (B := p0) (fun _ _ _ => by kernel_rfl))
  (Sim.ret (A := p0) (E := (exAt (exAt ex 1 p9) 2 p8)) (fun _ => ⟨rfl, rfl, rfl, trivial⟩)))
  (Sim.skip (A := p13)))
  (Sim.seq (Sim.reg (A := p13) (B := p13) (fun _ _ _ => by kernel_rfl))
  (Sim.seq (Sim.reg (A := p13) (B := p13) (fun _ _ _ => by kernel_rfl))
  (Sim.reg (A := p13) (B := p15) (fun _ _ _ => by kernel_rfl)))))
  (Sim.weak (B := p13) (C := p15) (Sim.skip (A := p13)) (fun _ => ⟨rfl, rfl, rfl, rfl, rfl, rfl, rfl, trivial⟩)))
  (Sim.seq (Sim.test (A := p15) (B := p15) (fun _ _ _ => by kernel_rfl) (Sim.seq (Sim.test (A := p15) (B := p8) (fun _ _ _ => by kernel_rfl) (Sim.exit (A := p8) (fun _ => ⟨rfl, rfl, rfl, trivial⟩))
  (Sim.skip (A := p8)))
  (Sim.exit (A := p8) (fun _ => ⟨rfl, rfl, rfl, rfl, rfl, rfl, trivial⟩)))
  (Sim.skip (A := p15)))
  (Sim.seq (Sim.test (A := p15) (B := p15) (fun _ _ _ => by kernel_rfl) (Sim.seq (Sim.reg (A := p15) (B := p0) (fun _ _ _ => by kernel_rfl))
  (Sim.ret (A := p0) (E := (exAt (exAt ex 1 p9) 2 p8)) (fun _ => ⟨rfl, rfl, rfl, trivial⟩)))
  (Sim.skip (A := p15)))
  (Sim.seq (Sim.reg (A := p15) (B := p16) (fun _ _ _ => by kernel_rfl))
  (Sim.seq (Sim.reg (A := p16) (B := p16) (fun _ _ _ => by kernel_rfl))
  (Sim.seq (Sim.test (A := p16) (B := p16) (fun _ _ _ => by kernel_rfl) (Sim.seq (Sim.reg (A := p16) (B := p0) (fun _ _ _ => by kernel_rfl))
  (Sim.ret (A := p0) (E := (exAt (exAt ex 1 p9) 2 p8)) (fun _ => ⟨rfl, rfl, rfl, trivial⟩)))
  (Sim.skip (A := p16)))
  (Sim.seq (Sim.test (A := p16) (B := p16) (fun _ _ _ => by kernel_rfl) (Sim.seq (Sim.reg (A := p16) (B := p0) (fun _ _ _ => by kernel_rfl))
  (Sim.ret (A := p0) (E := (exAt (exAt ex 1 p9) 2 p8)) (fun _ => ⟨rfl, rfl, rfl, trivial⟩)))
  (Sim.skip (A := p16)))
  (Sim.seq (Sim.test (A := p16) (B := p16) (fun _ _ _ => by kernel_rfl) (Sim.block (B := p16) (Sim.loop (A := p16) (Sim.block (B := p16) (Sim.seq (Sim.test (A := p16) (B := p16) (fun _ _ _ => by kernel_rfl) (Sim.seq (Sim.reg (A := p16) (B := p0) (fun _ _ _ => by kernel_rfl))
  (Sim.ret (A := p0) (E := (exAt (exAt (exAt (exAt ex 1 p9) 2 p8) 5 p16) 6 p16)) (fun _ => ⟨rfl, rfl, rfl, trivial⟩)))
  (Sim.skip (A := p16)))
  (Sim.seq (Sim.reg (A := p16) (B := p17) (fun _ _ _ => by kernel_rfl))
  (Sim.seq (Sim.reg (A := p17) (B := p17) (fun _ _ _ => by kernel_rfl))
  (Sim.seq (Sim.reg (A := p17) (B := p17) (fun _ _ _ => by kernel_rfl))
  (Sim.test (A := p17) (B := p16) (fun _ _ _ => by kernel_rfl) (Sim.seq (Sim.test (A := p16) (B := p16) (fun _ _ _ => by kernel_rfl) (Sim.seq (Sim.reg (A := p16) (B := p0) (fun _ _ _ => by kernel_rfl))
  (Sim.ret (A := p0) (E := (exAt (exAt (exAt (exAt ex 1 p9) 2 p8) 5 p16) 6 p16)) (fun _ => ⟨rfl, rfl, rfl, trivial⟩)))
  (Sim.skip (A := p16)))
  (Sim.exit (A := p16) (fun _ => ⟨rfl, rfl, rfl, rfl, rfl, rfl, rfl, rfl, trivial⟩)))
  (Sim.skip (A := p16))))))))))
  (Sim.skip (A := p16)))
  (Sim.seq (Sim.reg (A := p16) (B := p18) (fun _ _ _ => by kernel_rfl))
  (Sim.seq (Sim.block (B := p15) (Sim.loop (A := p18) (Sim.seq (Sim.test (A := p18) (B := p18) (fun _ _ _ => by kernel_rfl) (Sim.skip (A := p18))
  (Sim.exit (A := p18) (fun _ => ⟨rfl, rfl, rfl, rfl, rfl, rfl, rfl, trivial⟩)))
  (Sim.block (B := p18) (Sim.seq (Sim.test (A := p18) (B := p18) (fun _ _ _ => by kernel_rfl) (Sim.seq (Sim.reg (A := p18) (B := p0) (fun _ _ _ => by kernel_rfl))
  (Sim.ret (A := p0) (E := (exAt (exAt (exAt (exAt ex 1 p9) 2 p8) 7 p15) 8 p18)) (fun _ => ⟨rfl, rfl, rfl, trivial⟩)))
  (Sim.skip (A := p18)))
  (Sim.seq (Sim.test (A := p18) (B := p18) (fun _ _ _ => by kernel_rfl) (Sim.seq (Sim.reg (A := p18) (B := p18) (fun _ _ _ => by kernel_rfl))
  (Sim.seq (Sim.reg (A := p18) (B := p18) (fun _ _ _ => by kernel_rfl))
  (Sim.seq (Sim.reg (A := p18) (B := p18) (fun _ _ _ => by kernel_rfl))
  (Sim.seq (Sim.reg (A := p18) (B := p18) (fun _ _ _ => by kernel_rfl))
  (Sim.seq (Sim.reg (A := p18) (B := p18) (fun _ _ _ => by kernel_rfl))
  (Sim.exit (A := p18) (fun _ => ⟨rfl, rfl, rfl, rfl, rfl, rfl, rfl, rfl, rfl, trivial⟩)))))))
  (Sim.skip (A := p18)))
  (Sim.seq (Sim.test (A := p18) (B := p18) (fun _ _ _ => by kernel_rfl) (Sim.seq (Sim.reg (A := p18) (B := p18) (fun _ _ _ => by kernel_rfl))
  (Sim.seq (Sim.reg (A := p18) (B := p19) (fun _ _ _ => by kernel_rfl))
  (Sim.seq (Sim.reg (A := p19) (B := p15) (fun _ _ _ => by kernel_rfl))
  (Sim.seq (Sim.reg (A := p15) (B := p15) (fun _ _ _ => by kernel_rfl))
  (Sim.exit (A := p15) (fun _ => ⟨rfl, rfl, rfl, rfl, rfl, rfl, rfl, trivial⟩))))))
  (Sim.skip (A := p18)))
  (Sim.seq (Sim.reg (A := p18) (B := p18) (fun _ _ _ => by kernel_rfl))
  (Sim.seq (Sim.reg (A := p18) (B := p15) (fun _ _ _ => by kernel_rfl))
  (Sim.seq (Sim.reg (A := p15) (B := p15) (fun _ _ _ => by kernel_rfl))
  (Sim.exit (A := p15) (fun _ => ⟨rfl, rfl, rfl, rfl, rfl, rfl, rfl, trivial⟩))))))))))))
  (Sim.seq (Sim.reg (A := p15) (B := p8) (fun _ _ _ => by kernel_rfl))
  (Sim.test (A := p8) (B := p8) (fun _ _ _ => by kernel_rfl) (Sim.seq (Sim.reg (A := p8) (B := p0) (fun _ _ _ => by kernel_rfl))
  (Sim.ret (A := p0) (E := (exAt (exAt ex 1 p9) 2 p8)) (fun _ => ⟨rfl, rfl, rfl, trivial⟩)))
  (Sim.skip (A := p8))))))))))))))))))))))))
  (Sim.seq (Sim.reg (A := p9) (B := p0) (fun _ _ _ => by kernel_rfl))
  (Sim.ret (A := p0) (E := ex) (fun _ => ⟨rfl, rfl, rfl, trivial⟩)))))))))))

def init (x_l : Option Addr) (x_dst : Sl) (x_src : Sl) : St := { x_l := x_l, x_dst := x_dst, x_src := x_src, t6 := Sl.nil, t7 := 0, t8 := undef, x_s := 0, x_d := 0, x_res := 0, x_sz := 0, x_dLimit := 0, x_uncompressed := 0, x_token := 0, x_ll := 0, x_ml := 0, x_val := 0, x_offset := 0, x_valq20 := 0, x_length := 0, t49 := 0 }

/-- What is left of the results. -/
def res (K : Sl → Int → Value → Heap → Prop) (s : St) (h1 : Heap) : Prop := K s.t6 s.t7 s.t8 h1

/-- The call of '(*pub-pemmican/pub/compress/s2.LZ4sConverter).ConvertBlockSnappy'. -/
theorem calls (x_l : Option Addr) (x_dst : Sl) (x_src : Sl) (h : Heap) (K : Sl → Int → Value → Heap → Prop)
    (H : stm (init x_l x_dst x_src) h (endK (res K))) : c_LsS x_l x_dst x_src h K := by
  have hc : CallsH Pg 73 #[(.pointer x_l), (.slice x_dst.p x_dst.n x_dst.c), (.slice x_src.p x_src.n x_src.c)] h fun v h1 => asT v fun l1 => asC l1 fun v1 l2 => asS v1 fun p1 n1 c1 => asC l2 fun v2 l3 => asI .i64 v2 fun n2 => asC l3 fun v3 l4 => asN l4 (K ⟨p1, n1, c1⟩ n2 v3 h1) :=
    callsH_of_sim (R := p0) (fn := Tryd.f73) (c := Tryd.f73.body.getD .skip) Tryd.func73 rfl Tryd.ntmps73 Tryd.call73 sim (init x_l x_dst x_src) (⟨rfl, rfl, rfl, trivial⟩) (Nat.le_of_ble_eq_true rfl) (fun _ => ⟨rfl, rfl, rfl, trivial⟩) rfl
      (res K) (fun _ _ => by kernel_rfl) H
  refine hc.mono ?_
  intro v hp H
  obtain ⟨l1, rfl, h1⟩ := asT_elim H
  obtain ⟨v1, l2, rfl, h2⟩ := asC_elim h1
  obtain ⟨p1, n1, c1, rfl, h3⟩ := asS_elim h2
  obtain ⟨v2, l3, rfl, h4⟩ := asC_elim h3
  obtain ⟨n2, rfl, h5⟩ := asI_elim h4
  obtain ⟨v3, l4, rfl, h6⟩ := asC_elim h5
  obtain ⟨rfl, h7⟩ := asN_elim h6
  exact ⟨_, _, _, _, _, rfl, h7⟩

end M_LsS

end Go.Proofs.YtibleenkgmkpmaaDoor

namespace Go.Proofs.YtibleenkgmkpmaaDoor
open Go Go.Vc Go.Proofs

namespace M_impl_Lz4Convert

structure St where
  x_src : Sl
  x_snappy : Bool
  t4 : Sl
  t5 : Int
  t6 : Bool
  x_c : Option Addr
  x_convert : Value
  x_out : Sl
  x_n : Int
  x_err : Value

def p0 : Pt St where
  env s := [(4, (.slice s.t4.p s.t4.n s.t4.c)), (5, (.int .i64 s.t5)), (6, (.bool s.t6))]
  fin e s K := vS e 4 fun p1 n1 c1 => vI e 5 .i64 fun n2 => vB e 6 fun b1 => K { s with t4 := ⟨p1, n1, c1⟩, t5 := n2, t6 := b1 }
  ok := by
    intro e s K h0
    obtain ⟨p1, n1, c1, g1, h2⟩ := gS h0
    obtain ⟨n2, g2, h4⟩ := gI h2
    obtain ⟨b1, g3, h6⟩ := gB h4
    exact ⟨_, ⟨g1, g2, g3, trivial⟩, h6⟩

def p1 : Pt St where
  env s := [(0, (.slice s.x_src.p s.x_src.n s.x_src.c)), (1, (.bool s.x_snappy))]
  fin e s K := vS e 0 fun p1 n1 c1 => vB e 1 fun b1 => K { s with x_src := ⟨p1, n1, c1⟩, x_snappy := b1 }
  ok := by
    intro e s K h0
    obtain ⟨p1, n1, c1, g1, h2⟩ := gS h0
    obtain ⟨b1, g2, h4⟩ := gB h2
    exact ⟨_, ⟨g1, g2, trivial⟩, h4⟩

def p2 : Pt St where
  env s := [(0, (.slice s.x_src.p s.x_src.n s.x_src.c)), (1, (.bool s.x_snappy)), (7, (.pointer s.x_c))]
  fin e s K := vS e 0 fun p1 n1 c1 => vB e 1 fun b1 => vP e 7 fun p2 => K { s with x_src := ⟨p1, n1, c1⟩, x_snappy := b1, x_c := p2 }
  ok := by
    intro e s K h0
    obtain ⟨p1, n1, c1, g1, h2⟩ := gS h0
    obtain ⟨b1, g2, h4⟩ := gB h2
    obtain ⟨p2, g3, h6⟩ := gP h4
    exact ⟨_, ⟨g1, g2, g3, trivial⟩, h6⟩

def p3 : Pt St where
  env s := [(0, (.slice s.x_src.p s.x_src.n s.x_src.c)), (1, (.bool s.x_snappy)), (7, (.pointer s.x_c)), (8, s.x_convert)]
  fin e s K := vS e 0 fun p1 n1 c1 => vB e 1 fun b1 => vP e 7 fun p2 => getV e 8 fun v4 => K { s with x_src := ⟨p1, n1, c1⟩, x_snappy := b1, x_c := p2, x_convert := v4 }
  ok := by
    intro e s K h0
    obtain ⟨p1, n1, c1, g1, h2⟩ := gS h0
    obtain ⟨b1, g2, h4⟩ := gB h2
    obtain ⟨p2, g3, h6⟩ := gP h4
    obtain ⟨w4, g4, h7⟩ := getV_elim h6
    exact ⟨_, ⟨g1, g2, g3, g4, trivial⟩, h7⟩

def p4 : Pt St where
  env s := [(0, (.slice s.x_src.p s.x_src.n s.x_src.c)), (7, (.pointer s.x_c)), (8, s.x_convert)]
  fin e s K := vS e 0 fun p1 n1 c1 => vP e 7 fun p2 => getV e 8 fun v3 => K { s with x_src := ⟨p1, n1, c1⟩, x_c := p2, x_convert := v3 }
  ok := by
    intro e s K h0
    obtain ⟨p1, n1, c1, g1, h2⟩ := gS h0
    obtain ⟨p2, g2, h4⟩ := gP h2
    obtain ⟨w3, g3, h5⟩ := getV_elim h4
    exact ⟨_, ⟨g1, g2, g3, trivial⟩, h5⟩

def p5 : Pt St where
  env s := [(0, (.slice s.x_src.p s.x_src.n s.x_src.c)), (8, s.x_convert)]
  fin e s K := vS e 0 fun p1 n1 c1 => getV e 8 fun v2 => K { s with x_src := ⟨p1, n1, c1⟩, x_convert := v2 }
  ok := by
    intro e s K h0
    obtain ⟨p1, n1, c1, g1, h2⟩ := gS h0
    obtain ⟨w2, g2, h3⟩ := getV_elim h2
    exact ⟨_, ⟨g1, g2, trivial⟩, h3⟩

def p6 : Pt St where
  env s := [(9, (.slice s.x_out.p s.x_out.n s.x_out.c)), (10, (.int .i64 s.x_n)), (11, s.x_err)]
  fin e s K := vS e 9 fun p1 n1 c1 => vI e 10 .i64 fun n2 => getV e 11 fun v3 => K { s with x_out := ⟨p1, n1, c1⟩, x_n := n2, x_err := v3 }
  ok := by
    intro e s K h0
    obtain ⟨p1, n1, c1, g1, h2⟩ := gS h0
    obtain ⟨n2, g2, h4⟩ := gI h2
    obtain ⟨w3, g3, h5⟩ := getV_elim h4
    exact ⟨_, ⟨g1, g2, g3, trivial⟩, h5⟩

def p7 : Pt St where
  env s := [(9, (.slice s.x_out.p s.x_out.n s.x_out.c)), (10, (.int .i64 s.x_n))]
  fin e s K := vS e 9 fun p1 n1 c1 => vI e 10 .i64 fun n2 => K { s with x_out := ⟨p1, n1, c1⟩, x_n := n2 }
  ok := by
    intro e s K h0
    obtain ⟨p1, n1, c1, g1, h2⟩ := gS h0
    obtain ⟨n2, g2, h4⟩ := gI h2
    exact ⟨_, ⟨g1, g2, trivial⟩, h4⟩

def r0 (s : St) (h : Heap) (Q : St → Heap → Prop) : Prop :=
  Q s h

def r1 (s : St) (h : Heap) (Q : St → Heap → Prop) : Prop :=
  withH (hnew h (zcells Pg 107) 107) fun h1 =>
  Q { s with x_c := (some ⟨Array.size h, 0, none⟩) } h1

def r2 (s : St) (h : Heap) (Q : St → Heap → Prop) : Prop :=
  Q { s with x_convert := (.func (.func 74) #[(.pointer s.x_c)] #[]) } h

def r3 (s : St) (h : Heap) (Q : Bool → St → Heap → Prop) : Prop :=
  Q s.x_snappy s h

def r4 (s : St) (h : Heap) (Q : St → Heap → Prop) : Prop :=
  Q { s with x_convert := (.func (.func 75) #[(.pointer s.x_c)] #[]) } h

def r5 (s : St) (h : Heap) (Q : St → Heap → Prop) : Prop :=
  mkT Pg 5 (0 : Int) (IntKind.wrap .i64 ((IntKind.wrap .i64 ((16 : Int) * ((s.x_src.n : Nat) : Int))) + (64 : Int))) h fun a1 n2 c3 h4 =>
  callVP Pg s.x_convert [(.slice (some a1) n2 c3), (.slice s.x_src.p s.x_src.n s.x_src.c)] h4 fun v5 h6 =>
  ∃ (p7 : Option Addr) (n8 c9 : Nat) (r10 : Int) (r11 : Value), v5 = (.tuple #[(.slice p7 n8 c9), (.int .i64 r10), r11]) ∧
  Q { s with x_out := ⟨p7, n8, c9⟩, x_n := r10, x_err := r11 } h6

def r6 (s : St) (h : Heap) (Q : Bool → St → Heap → Prop) : Prop :=
  nilE s.x_err fun b1 =>
  Q (!b1) s h

def r7 (s : St) (h : Heap) (Q : St → Heap → Prop) : Prop :=
  Q { s with t4 := ⟨none, 0, 0⟩, t5 := (0 : Int), t6 := false } h

def r8 (s : St) (h : Heap) (Q : St → Heap → Prop) : Prop :=
  c_impl_copied s.x_out h fun w2 h1 =>
  Q { s with t4 := w2, t5 := s.x_n, t6 := true } h1

def k4 : Stm St := (.seq (.test r6 (.seq (.reg r7) .ret) .skip) (.seq (.reg r8) .ret))
def k3 : Stm St := (.seq (.reg r5) k4)
def k2 : Stm St := (.seq (.test r3 (.reg r4) .skip) k3)
def k1 : Stm St := (.seq (.reg r2) k2)
def k0 : Stm St := (.seq (.reg r1) k1)

def stm : Stm St := (.seq (.reg r0) k0)

def ex : Ex → Pt St := fun _ => p0

set_option maxRecDepth 100000 in
theorem sim : Sim Pg 32 p1 (Tryd.f52.body.getD .skip) stm p0 ex :=
  (Sim.seq (Sim.reg (A := p1) (B := p1) (fun _ _ _ => by kernel_rfl))
  (Sim.seq (Sim.reg (A := p1) (B := p2) (fun _ _ _ => by kernel_rfl))
  (Sim.seq (Sim.reg (A := p2) (B := p3) (fun _ _ _ => by kernel_rfl))
  (Sim.seq (Sim.test (A := p3) (B := p4) (fun _ _ _ => by kernel_rfl) (Sim.reg (A := p4) (B := p5) (fun _ _ _ => by kernel_rfl))
  (Sim.weak (B := p4) (C := p5) (Sim.skip (A := p4)) (fun _ => ⟨rfl, rfl, trivial⟩)))
  (Sim.seq (Sim.reg (A := p5) (B := p6) (fun _ _ _ => by kernel_rfl))
  (Sim.seq (Sim.test (A := p6) (B := p7) (fun _ _ _ => by kernel_rfl) (Sim.seq (Sim.reg (A := p7) (B := p0) (fun _ _ _ => by kernel_rfl))
  (Sim.ret (A := p0) (E := ex) (fun _ => ⟨rfl, rfl, rfl, trivial⟩)))
  (Sim.skip (A := p7)))
  (Sim.seq (Sim.reg (A := p7) (B := p0) (fun _ _ _ => by kernel_rfl))
  (Sim.ret (A := p0) (E := ex) (fun _ => ⟨rfl, rfl, rfl, trivial⟩)))))))))

def init (x_src : Sl) (x_snappy : Bool) : St := { x_src := x_src, x_snappy := x_snappy, t4 := Sl.nil, t5 := 0, t6 := false, x_c := none, x_convert := undef, x_out := Sl.nil, x_n := 0, x_err := undef }

/-- What is left of the results. -/
def res (K : Sl → Int → Bool → Heap → Prop) (s : St) (h1 : Heap) : Prop := K s.t4 s.t5 s.t6 h1

/-- The call of 'pub-pemmican/impl.Lz4Convert'. -/
theorem calls (x_src : Sl) (x_snappy : Bool) (h : Heap) (K : Sl → Int → Bool → Heap → Prop)
    (H : stm (init x_src x_snappy) h (endK (res K))) : c_impl_Lz4Convert x_src x_snappy h K := by
  have hc : CallsH Pg 52 #[(.slice x_src.p x_src.n x_src.c), (.bool x_snappy)] h fun v h1 => asT v fun l1 => asC l1 fun v1 l2 => asS v1 fun p1 n1 c1 => asC l2 fun v2 l3 => asI .i64 v2 fun n2 => asC l3 fun v3 l4 => asB v3 fun b1 => asN l4 (K ⟨p1, n1, c1⟩ n2 b1 h1) :=
    callsH_of_sim (R := p0) (fn := Tryd.f52) (c := Tryd.f52.body.getD .skip) Tryd.func52 rfl Tryd.ntmps52 Tryd.call52 sim (init x_src x_snappy) (⟨rfl, rfl, trivial⟩) (Nat.le_of_ble_eq_true rfl) (fun _ => ⟨rfl, rfl, rfl, trivial⟩) rfl
      (res K) (fun _ _ => by kernel_rfl) H
  refine hc.mono ?_
  intro v hp H
  obtain ⟨l1, rfl, h1⟩ := asT_elim H
  obtain ⟨v1, l2, rfl, h2⟩ := asC_elim h1
  obtain ⟨p1, n1, c1, rfl, h3⟩ := asS_elim h2
  obtain ⟨v2, l3, rfl, h4⟩ := asC_elim h3
  obtain ⟨n2, rfl, h5⟩ := asI_elim h4
  obtain ⟨v3, l4, rfl, h6⟩ := asC_elim h5
  obtain ⟨b1, rfl, h7⟩ := asB_elim h6
  obtain ⟨rfl, h8⟩ := asN_elim h7
  exact ⟨_, _, _, _, _, rfl, h8⟩

end M_impl_Lz4Convert

end Go.Proofs.YtibleenkgmkpmaaDoor

namespace Go.Proofs.YtibleenkgmkpmaaDoor
open Go Go.Vc Go.Proofs

namespace M_impl_Lz4sConvert

structure St where
  x_src : Sl
  x_snappy : Bool
  t4 : Sl
  t5 : Int
  t6 : Bool
  x_c : Option Addr
  x_convert : Value
  x_out : Sl
  x_n : Int
  x_err : Value

def p0 : Pt St where
  env s := [(4, (.slice s.t4.p s.t4.n s.t4.c)), (5, (.int .i64 s.t5)), (6, (.bool s.t6))]
  fin e s K := vS e 4 fun p1 n1 c1 => vI e 5 .i64 fun n2 => vB e 6 fun b1 => K { s with t4 := ⟨p1, n1, c1⟩, t5 := n2, t6 := b1 }
  ok := by
    intro e s K h0
    obtain ⟨p1, n1, c1, g1, h2⟩ := gS h0
    obtain ⟨n2, g2, h4⟩ := gI h2
    obtain ⟨b1, g3, h6⟩ := gB h4
    exact ⟨_, ⟨g1, g2, g3, trivial⟩, h6⟩

def p1 : Pt St where
  env s := [(0, (.slice s.x_src.p s.x_src.n s.x_src.c)), (1, (.bool s.x_snappy))]
  fin e s K := vS e 0 fun p1 n1 c1 => vB e 1 fun b1 => K { s with x_src := ⟨p1, n1, c1⟩, x_snappy := b1 }
  ok := by
    intro e s K h0
    obtain ⟨p1, n1, c1, g1, h2⟩ := gS h0
    obtain ⟨b1, g2, h4⟩ := gB h2
    exact ⟨_, ⟨g1, g2, trivial⟩, h4⟩

def p2 : Pt St where
  env s := [(0, (.slice s.x_src.p s.x_src.n s.x_src.c)), (1, (.bool s.x_snappy)), (7, (.pointer s.x_c))]
  fin e s K := vS e 0 fun p1 n1 c1 => vB e 1 fun b1 => vP e 7 fun p2 => K { s with x_src := ⟨p1, n1, c1⟩, x_snappy := b1, x_c := p2 }
  ok := by
    intro e s K h0
    obtain ⟨p1, n1, c1, g1, h2⟩ := gS h0
    obtain ⟨b1, g2, h4⟩ := gB h2
    obtain ⟨p2, g3, h6⟩ := gP h4
    exact ⟨_, ⟨g1, g2, g3, trivial⟩, h6⟩

def p3 : Pt St where
  env s := [(0, (.slice s.x_src.p s.x_src.n s.x_src.c)), (1, (.bool s.x_snappy)), (7, (.pointer s.x_c)), (8, s.x_convert)]
  fin e s K := vS e 0 fun p1 n1 c1 => vB e 1 fun b1 => vP e 7 fun p2 => getV e 8 fun v4 => K { s with x_src := ⟨p1, n1, c1⟩, x_snappy := b1, x_c := p2, x_convert := v4 }
  ok := by
    intro e s K h0
    obtain ⟨p1, n1, c1, g1, h2⟩ := gS h0
    obtain ⟨b1, g2, h4⟩ := gB h2
    obtain ⟨p2, g3, h6⟩ := gP h4
    obtain ⟨w4, g4, h7⟩ := getV_elim h6
    exact ⟨_, ⟨g1, g2, g3, g4, trivial⟩, h7⟩

def p4 : Pt St where
  env s := [(0, (.slice s.x_src.p s.x_src.n s.x_src.c)), (7, (.pointer s.x_c)), (8, s.x_convert)]
  fin e s K := vS e 0 fun p1 n1 c1 => vP e 7 fun p2 => getV e 8 fun v3 => K { s with x_src := ⟨p1, n1, c1⟩, x_c := p2, x_convert := v3 }
  ok := by
    intro e s K h0
    obtain ⟨p1, n1, c1, g1, h2⟩ := gS h0
    obtain ⟨p2, g2, h4⟩ := gP h2
    obtain ⟨w3, g3, h5⟩ := getV_elim h4
    exact ⟨_, ⟨g1, g2, g3, trivial⟩, h5⟩

def p5 : Pt St where
  env s := [(0, (.slice s.x_src.p s.x_src.n s.x_src.c)), (8, s.x_convert)]
  fin e s K := vS e 0 fun p1 n1 c1 => getV e 8 fun v2 => K { s with x_src := ⟨p1, n1, c1⟩, x_convert := v2 }
  ok := by
    intro e s K h0
    obtain ⟨p1, n1, c1, g1, h2⟩ := gS h0
    obtain ⟨w2, g2, h3⟩ := getV_elim h2
    exact ⟨_, ⟨g1, g2, trivial⟩, h3⟩

def p6 : Pt St where
  env s := [(9, (.slice s.x_out.p s.x_out.n s.x_out.c)), (10, (.int .i64 s.x_n)), (11, s.x_err)]
  fin e s K := vS e 9 fun p1 n1 c1 => vI e 10 .i64 fun n2 => getV e 11 fun v3 => K { s with x_out := ⟨p1, n1, c1⟩, x_n := n2, x_err := v3 }
  ok := by
    intro e s K h0
    obtain ⟨p1, n1, c1, g1, h2⟩ := gS h0
    obtain ⟨n2, g2, h4⟩ := gI h2
    obtain ⟨w3, g3, h5⟩ := getV_elim h4
    exact ⟨_, ⟨g1, g2, g3, trivial⟩, h5⟩

def p7 : Pt St where
  env s := [(9, (.slice s.x_out.p s.x_out.n s.x_out.c)), (10, (.int .i64 s.x_n))]
  fin e s K := vS e 9 fun p1 n1 c1 => vI e 10 .i64 fun n2 => K { s with x_out := ⟨p1, n1, c1⟩, x_n := n2 }
  ok := by
    intro e s K h0
    obtain ⟨p1, n1, c1, g1, h2⟩ := gS h0
    obtain ⟨n2, g2, h4⟩ := gI h2
    exact ⟨_, ⟨g1, g2, trivial⟩, h4⟩

def r0 (s : St) (h : Heap) (Q : St → Heap → Prop) : Prop :=
  Q s h

def r1 (s : St) (h : Heap) (Q : St → Heap → Prop) : Prop :=
  withH (hnew h (zcells Pg 104) 104) fun h1 =>
  Q { s with x_c := (some ⟨Array.size h, 0, none⟩) } h1

def r2 (s : St) (h : Heap) (Q : St → Heap → Prop) : Prop :=
  Q { s with x_convert := (.func (.func 72) #[(.pointer s.x_c)] #[]) } h

def r3 (s : St) (h : Heap) (Q : Bool → St → Heap → Prop) : Prop :=
  Q s.x_snappy s h

def r4 (s : St) (h : Heap) (Q : St → Heap → Prop) : Prop :=
  Q { s with x_convert := (.func (.func 73) #[(.pointer s.x_c)] #[]) } h

def r5 (s : St) (h : Heap) (Q : St → Heap → Prop) : Prop :=
  mkT Pg 5 (0 : Int) (IntKind.wrap .i64 ((IntKind.wrap .i64 ((16 : Int) * ((s.x_src.n : Nat) : Int))) + (64 : Int))) h fun a1 n2 c3 h4 =>
  callVP Pg s.x_convert [(.slice (some a1) n2 c3), (.slice s.x_src.p s.x_src.n s.x_src.c)] h4 fun v5 h6 =>
  ∃ (p7 : Option Addr) (n8 c9 : Nat) (r10 : Int) (r11 : Value), v5 = (.tuple #[(.slice p7 n8 c9), (.int .i64 r10), r11]) ∧
  Q { s with x_out := ⟨p7, n8, c9⟩, x_n := r10, x_err := r11 } h6

def r6 (s : St) (h : Heap) (Q : Bool → St → Heap → Prop) : Prop :=
  nilE s.x_err fun b1 =>
  Q (!b1) s h

def r7 (s : St) (h : Heap) (Q : St → Heap → Prop) : Prop :=
  Q { s with t4 := ⟨none, 0, 0⟩, t5 := (0 : Int), t6 := false } h

def r8 (s : St) (h : Heap) (Q : St → Heap → Prop) : Prop :=
  c_impl_copied s.x_out h fun w2 h1 =>
  Q { s with t4 := w2, t5 := s.x_n, t6 := true } h1

def k4 : Stm St := (.seq (.test r6 (.seq (.reg r7) .ret) .skip) (.seq (.reg r8) .ret))
def k3 : Stm St := (.seq (.reg r5) k4)
def k2 : Stm St := (.seq (.test r3 (.reg r4) .skip) k3)
def k1 : Stm St := (.seq (.reg r2) k2)
def k0 : Stm St := (.seq (.reg r1) k1)

def stm : Stm St := (.seq (.reg r0) k0)

def ex : Ex → Pt St := fun _ => p0

set_option maxRecDepth 100000 in
theorem sim : Sim Pg 32 p1 (Tryd.f51.body.getD .skip) stm p0 ex :=
  (Sim.seq (Sim.reg (A := p1) (B := p1) (fun _ _ _ => by kernel_rfl))
  (Sim.seq (Sim.reg (A := p1) (B := p2) (fun _ _ _ => by kernel_rfl))
  (Sim.seq (Sim.reg (A := p2) (B := p3) (fun _ _ _ => by kernel_rfl))
  (Sim.seq (Sim.test (A := p3) (B := p4) (fun _ _ _ => by kernel_rfl) (Sim.reg (A := p4) (B := p5) (fun _ _ _ => by kernel_rfl))
  (Sim.weak (B := p4) (C := p5) (Sim.skip (A := p4)) (fun _ => ⟨rfl, rfl, trivial⟩)))
  (Sim.seq (Sim.reg (A := p5) (B := p6) (fun _ _ _ => by kernel_rfl))
  (Sim.seq (Sim.test (A := p6) (B := p7) (fun _ _ _ => by kernel_rfl) (Sim.seq (Sim.reg (A := p7) (B := p0) (fun _ _ _ => by kernel_rfl))
  (Sim.ret (A := p0) (E := ex) (fun _ => ⟨rfl, rfl, rfl, trivial⟩)))
  (Sim.skip (A := p7)))
  (Sim.seq (Sim.reg (A := p7) (B := p0) (fun _ _ _ => by kernel_rfl))
  (Sim.ret (A := p0) (E := ex) (fun _ => ⟨rfl, rfl, rfl, trivial⟩)))))))))

def init (x_src : Sl) (x_snappy : Bool) : St := { x_src := x_src, x_snappy := x_snappy, t4 := Sl.nil, t5 := 0, t6 := false, x_c := none, x_convert := undef, x_out := Sl.nil, x_n := 0, x_err := undef }

/-- What is left of the results. -/
def res (K : Sl → Int → Bool → Heap → Prop) (s : St) (h1 : Heap) : Prop := K s.t4 s.t5 s.t6 h1

/-- The call of 'pub-pemmican/impl.Lz4sConvert'. -/
theorem calls (x_src : Sl) (x_snappy : Bool) (h : Heap) (K : Sl → Int → Bool → Heap → Prop)
    (H : stm (init x_src x_snappy) h (endK (res K))) : c_impl_Lz4sConvert x_src x_snappy h K := by
  have hc : CallsH Pg 51 #[(.slice x_src.p x_src.n x_src.c), (.bool x_snappy)] h fun v h1 => asT v fun l1 => asC l1 fun v1 l2 => asS v1 fun p1 n1 c1 => asC l2 fun v2 l3 => asI .i64 v2 fun n2 => asC l3 fun v3 l4 => asB v3 fun b1 => asN l4 (K ⟨p1, n1, c1⟩ n2 b1 h1) :=
    callsH_of_sim (R := p0) (fn := Tryd.f51) (c := Tryd.f51.body.getD .skip) Tryd.func51 rfl Tryd.ntmps51 Tryd.call51 sim (init x_src x_snappy) (⟨rfl, rfl, trivial⟩) (Nat.le_of_ble_eq_true rfl) (fun _ => ⟨rfl, rfl, rfl, trivial⟩) rfl
      (res K) (fun _ _ => by kernel_rfl) H
  refine hc.mono ?_
  intro v hp H
  obtain ⟨l1, rfl, h1⟩ := asT_elim H
  obtain ⟨v1, l2, rfl, h2⟩ := asC_elim h1
  obtain ⟨p1, n1, c1, rfl, h3⟩ := asS_elim h2
  obtain ⟨v2, l3, rfl, h4⟩ := asC_elim h3
  obtain ⟨n2, rfl, h5⟩ := asI_elim h4
  obtain ⟨v3, l4, rfl, h6⟩ := asC_elim h5
  obtain ⟨b1, rfl, h7⟩ := asB_elim h6
  obtain ⟨rfl, h8⟩ := asN_elim h7
  exact ⟨_, _, _, _, _, rfl, h8⟩

end M_impl_Lz4sConvert

end Go.Proofs.YtibleenkgmkpmaaDoor

namespace Go.Proofs.YtibleenkgmkpmaaDoor
open Go Go.Vc Go.Proofs

namespace M_laws_convert

structure St where
  x_src : Sl
  x_modified : Bool
  x_snappy : Bool
  t6 : Sl
  t7 : Int
  t8 : Bool

def p0 : Pt St where
  env s := [(6, (.slice s.t6.p s.t6.n s.t6.c)), (7, (.int .i64 s.t7)), (8, (.bool s.t8))]
  fin e s K := vS e 6 fun p1 n1 c1 => vI e 7 .i64 fun n2 => vB e 8 fun b1 => K { s with t6 := ⟨p1, n1, c1⟩, t7 := n2, t8 := b1 }
  ok := by
    intro e s K h0
    obtain ⟨p1, n1, c1, g1, h2⟩ := gS h0
    obtain ⟨n2, g2, h4⟩ := gI h2
    obtain ⟨b1, g3, h6⟩ := gB h4
    exact ⟨_, ⟨g1, g2, g3, trivial⟩, h6⟩

def p1 : Pt St where
  env s := [(0, (.slice s.x_src.p s.x_src.n s.x_src.c)), (1, (.bool s.x_modified)), (2, (.bool s.x_snappy))]
  fin e s K := vS e 0 fun p1 n1 c1 => vB e 1 fun b1 => vB e 2 fun b2 => K { s with x_src := ⟨p1, n1, c1⟩, x_modified := b1, x_snappy := b2 }
  ok := by
    intro e s K h0
    obtain ⟨p1, n1, c1, g1, h2⟩ := gS h0
    obtain ⟨b1, g2, h4⟩ := gB h2
    obtain ⟨b2, g3, h6⟩ := gB h4
    exact ⟨_, ⟨g1, g2, g3, trivial⟩, h6⟩

def p2 : Pt St where
  env s := [(0, (.slice s.x_src.p s.x_src.n s.x_src.c)), (2, (.bool s.x_snappy))]
  fin e s K := vS e 0 fun p1 n1 c1 => vB e 2 fun b1 => K { s with x_src := ⟨p1, n1, c1⟩, x_snappy := b1 }
  ok := by
    intro e s K h0
    obtain ⟨p1, n1, c1, g1, h2⟩ := gS h0
    obtain ⟨b1, g2, h4⟩ := gB h2
    exact ⟨_, ⟨g1, g2, trivial⟩, h4⟩

def r0 (s : St) (h : Heap) (Q : St → Heap → Prop) : Prop :=
  Q s h

def r1 (s : St) (h : Heap) (Q : Bool → St → Heap → Prop) : Prop :=
  Q s.x_modified s h

def r2 (s : St) (h : Heap) (Q : St → Heap → Prop) : Prop :=
  c_impl_Lz4sConvert s.x_src s.x_snappy h fun w2 r3 b4 h1 =>
  Q { s with t6 := w2, t7 := r3, t8 := b4 } h1

def r3 (s : St) (h : Heap) (Q : St → Heap → Prop) : Prop :=
  c_impl_Lz4Convert s.x_src s.x_snappy h fun w2 r3 b4 h1 =>
  Q { s with t6 := w2, t7 := r3, t8 := b4 } h1

def k0 : Stm St := (.seq (.test r1 (.seq (.reg r2) .ret) .skip) (.seq (.reg r3) .ret))

def stm : Stm St := (.seq (.reg r0) k0)

def ex : Ex → Pt St := fun _ => p0

set_option maxRecDepth 100000 in
theorem sim : Sim Pg 22 p1 (Tryd.f28.body.getD .skip) stm p0 ex :=
  (Sim.seq (Sim.reg (A := p1) (B := p1) (fun _ _ _ => by kernel_rfl))
  (Sim.seq (Sim.test (A := p1) (B := p2) (fun _ _ _ => by kernel_rfl) (Sim.seq (Sim.reg (A := p2) (B := p0) (fun _ _ _ => by kernel_rfl))
  (Sim.ret (A := p0) (E := ex) (fun _ => ⟨rfl, rfl, rfl, trivial⟩)))
  (Sim.skip (A := p2)))
  (Sim.seq (Sim.reg (A := p2) (B := p0) (fun _ _ _ => by kernel_rfl))
  (Sim.ret (A := p0) (E := ex) (fun _ => ⟨rfl, rfl, rfl, trivial⟩)))))

def init (x_src : Sl) (x_modified : Bool) (x_snappy : Bool) : St := { x_src := x_src, x_modified := x_modified, x_snappy := x_snappy, t6 := Sl.nil, t7 := 0, t8 := false }

/-- What is left of the results. -/
def res (K : Sl → Int → Bool → Heap → Prop) (s : St) (h1 : Heap) : Prop := K s.t6 s.t7 s.t8 h1

/-- The call of 'pub-pemmican/laws.convert'. -/
theorem calls (x_src : Sl) (x_modified : Bool) (x_snappy : Bool) (h : Heap) (K : Sl → Int → Bool → Heap → Prop)
    (H : stm (init x_src x_modified x_snappy) h (endK (res K))) : c_laws_convert x_src x_modified x_snappy h K := by
  have hc : CallsH Pg 28 #[(.slice x_src.p x_src.n x_src.c), (.bool x_modified), (.bool x_snappy)] h fun v h1 => asT v fun l1 => asC l1 fun v1 l2 => asS v1 fun p1 n1 c1 => asC l2 fun v2 l3 => asI .i64 v2 fun n2 => asC l3 fun v3 l4 => asB v3 fun b1 => asN l4 (K ⟨p1, n1, c1⟩ n2 b1 h1) :=
    callsH_of_sim (R := p0) (fn := Tryd.f28) (c := Tryd.f28.body.getD .skip) Tryd.func28 rfl Tryd.ntmps28 Tryd.call28 sim (init x_src x_modified x_snappy) (⟨rfl, rfl, rfl, trivial⟩) (Nat.le_of_ble_eq_true rfl) (fun _ => ⟨rfl, rfl, rfl, trivial⟩) rfl
      (res K) (fun _ _ => by kernel_rfl) H
  refine hc.mono ?_
  intro v hp H
  obtain ⟨l1, rfl, h1⟩ := asT_elim H
  obtain ⟨v1, l2, rfl, h2⟩ := asC_elim h1
  obtain ⟨p1, n1, c1, rfl, h3⟩ := asS_elim h2
  obtain ⟨v2, l3, rfl, h4⟩ := asC_elim h3
  obtain ⟨n2, rfl, h5⟩ := asI_elim h4
  obtain ⟨v3, l4, rfl, h6⟩ := asC_elim h5
  obtain ⟨b1, rfl, h7⟩ := asB_elim h6
  obtain ⟨rfl, h8⟩ := asN_elim h7
  exact ⟨_, _, _, _, _, rfl, h8⟩

end M_laws_convert

end Go.Proofs.YtibleenkgmkpmaaDoor

namespace Go.Proofs.YtibleenkgmkpmaaDoor
open Go Go.Vc Go.Proofs

namespace M_laws_join

structure St where
  x_a : Sl
  x_b : Sl
  t4 : Sl
  x_out : Sl

def p0 : Pt St where
  env s := [(4, (.slice s.t4.p s.t4.n s.t4.c))]
  fin e s K := vS e 4 fun p1 n1 c1 => K { s with t4 := ⟨p1, n1, c1⟩ }
  ok := by
    intro e s K h0
    obtain ⟨p1, n1, c1, g1, h2⟩ := gS h0
    exact ⟨_, ⟨g1, trivial⟩, h2⟩

def p1 : Pt St where
  env s := [(0, (.slice s.x_a.p s.x_a.n s.x_a.c)), (1, (.slice s.x_b.p s.x_b.n s.x_b.c))]
  fin e s K := vS e 0 fun p1 n1 c1 => vS e 1 fun p2 n2 c2 => K { s with x_a := ⟨p1, n1, c1⟩, x_b := ⟨p2, n2, c2⟩ }
  ok := by
    intro e s K h0
    obtain ⟨p1, n1, c1, g1, h2⟩ := gS h0
    obtain ⟨p2, n2, c2, g2, h4⟩ := gS h2
    exact ⟨_, ⟨g1, g2, trivial⟩, h4⟩

def p2 : Pt St where
  env s := [(0, (.slice s.x_a.p s.x_a.n s.x_a.c)), (1, (.slice s.x_b.p s.x_b.n s.x_b.c)), (5, (.slice s.x_out.p s.x_out.n s.x_out.c))]
  fin e s K := vS e 0 fun p1 n1 c1 => vS e 1 fun p2 n2 c2 => vS e 5 fun p3 n3 c3 => K { s with x_a := ⟨p1, n1, c1⟩, x_b := ⟨p2, n2, c2⟩, x_out := ⟨p3, n3, c3⟩ }
  ok := by
    intro e s K h0
    obtain ⟨p1, n1, c1, g1, h2⟩ := gS h0
    obtain ⟨p2, n2, c2, g2, h4⟩ := gS h2
    obtain ⟨p3, n3, c3, g3, h6⟩ := gS h4
    exact ⟨_, ⟨g1, g2, g3, trivial⟩, h6⟩

def p3 : Pt St where
  env s := [(1, (.slice s.x_b.p s.x_b.n s.x_b.c)), (5, (.slice s.x_out.p s.x_out.n s.x_out.c))]
  fin e s K := vS e 1 fun p1 n1 c1 => vS e 5 fun p2 n2 c2 => K { s with x_b := ⟨p1, n1, c1⟩, x_out := ⟨p2, n2, c2⟩ }
  ok := by
    intro e s K h0
    obtain ⟨p1, n1, c1, g1, h2⟩ := gS h0
    obtain ⟨p2, n2, c2, g2, h4⟩ := gS h2
    exact ⟨_, ⟨g1, g2, trivial⟩, h4⟩

def r0 (s : St) (h : Heap) (Q : St → Heap → Prop) : Prop :=
  Q s h

def r1 (s : St) (h : Heap) (Q : St → Heap → Prop) : Prop :=
  mkT Pg 5 (0 : Int) (IntKind.wrap .i64 (((s.x_a.n : Nat) : Int) + ((s.x_b.n : Nat) : Int))) h fun a1 n2 c3 h4 =>
  Q { s with x_out := ⟨(some a1), n2, c3⟩ } h4

def r2 (s : St) (h : Heap) (Q : St → Heap → Prop) : Prop :=
  appendT Pg 5 s.x_out.p s.x_out.n s.x_out.c (.slice s.x_a.p s.x_a.n s.x_a.c) s.x_a.n h fun p1 n2 c3 h4 =>
  Q { s with x_out := ⟨p1, n2, c3⟩ } h4

def r3 (s : St) (h : Heap) (Q : St → Heap → Prop) : Prop :=
  appendT Pg 5 s.x_out.p s.x_out.n s.x_out.c (.slice s.x_b.p s.x_b.n s.x_b.c) s.x_b.n h fun p1 n2 c3 h4 =>
  Q { s with t4 := ⟨p1, n2, c3⟩ } h4

def k1 : Stm St := (.seq (.reg r2) (.seq (.reg r3) .ret))
def k0 : Stm St := (.seq (.reg r1) k1)

def stm : Stm St := (.seq (.reg r0) k0)

def ex : Ex → Pt St := fun _ => p0

set_option maxRecDepth 100000 in
theorem sim : Sim Pg 18 p1 (Tryd.f29.body.getD .skip) stm p0 ex :=
  (Sim.seq (Sim.reg (A := p1) (B := p1) (fun _ _ _ => by kernel_rfl))
  (Sim.seq (Sim.reg (A := p1) (B := p2) (fun _ _ _ => by kernel_rfl))
  (Sim.seq (Sim.reg (A := p2) (B := p3) (fun _ _ _ => by kernel_rfl))
  (Sim.seq (Sim.reg (A := p3) (B := p0) (fun _ _ _ => by kernel_rfl))
  (Sim.ret (A := p0) (E := ex) (fun _ => ⟨rfl, trivial⟩))))))

def init (x_a : Sl) (x_b : Sl) : St := { x_a := x_a, x_b := x_b, t4 := Sl.nil, x_out := Sl.nil }

/-- What is left of the results. -/
def res (K : Sl → Heap → Prop) (s : St) (h1 : Heap) : Prop := K s.t4 h1

/-- The call of 'pub-pemmican/laws.join'. -/
theorem calls (x_a : Sl) (x_b : Sl) (h : Heap) (K : Sl → Heap → Prop)
    (H : stm (init x_a x_b) h (endK (res K))) : c_laws_join x_a x_b h K := by
  have hc : CallsH Pg 29 #[(.slice x_a.p x_a.n x_a.c), (.slice x_b.p x_b.n x_b.c)] h fun v h1 => asS v fun p1 n1 c1 => K ⟨p1, n1, c1⟩ h1 :=
    callsH_of_sim (R := p0) (fn := Tryd.f29) (c := Tryd.f29.body.getD .skip) Tryd.func29 rfl Tryd.ntmps29 Tryd.call29 sim (init x_a x_b) (⟨rfl, rfl, trivial⟩) (Nat.le_of_ble_eq_true rfl) (fun _ => ⟨rfl, trivial⟩) rfl
      (res K) (fun _ _ => by kernel_rfl) H
  refine hc.mono ?_
  intro v hp H
  obtain ⟨p1, n1, c1, rfl, h1⟩ := asS_elim H
  exact ⟨_, _, _, rfl, h1⟩

end M_laws_join

end Go.Proofs.YtibleenkgmkpmaaDoor

namespace Go.Proofs.YtibleenkgmkpmaaDoor
open Go Go.Vc Go.Proofs

namespace M_emitRepeat16

structure St where
  x_dst : Sl
  x_offset : Int
  x_length : Int
  t6 : Int
  x_left : Int

def p0 : Pt St where
  env s := [(6, (.int .i64 s.t6))]
  fin e s K := vI e 6 .i64 fun n1 => K { s with t6 := n1 }
  ok := by
    intro e s K h0
    obtain ⟨n1, g1, h2⟩ := gI h0
    exact ⟨_, ⟨g1, trivial⟩, h2⟩

def p1 : Pt St where
  env s := [(0, (.slice s.x_dst.p s.x_dst.n s.x_dst.c)), (1, (.int .u16 s.x_offset)), (2, (.int .i64 s.x_length))]
  fin e s K := vS e 0 fun p1 n1 c1 => vI e 1 .u16 fun n2 => vI e 2 .i64 fun n3 => K { s with x_dst := ⟨p1, n1, c1⟩, x_offset := n2, x_length := n3 }
  ok := by
    intro e s K h0
    obtain ⟨p1, n1, c1, g1, h2⟩ := gS h0
    obtain ⟨n2, g2, h4⟩ := gI h2
    obtain ⟨n3, g3, h6⟩ := gI h4
    exact ⟨_, ⟨g1, g2, g3, trivial⟩, h6⟩

def p2 : Pt St where
  env s := [(0, (.slice s.x_dst.p s.x_dst.n s.x_dst.c))]
  fin e s K := vS e 0 fun p1 n1 c1 => K { s with x_dst := ⟨p1, n1, c1⟩ }
  ok := by
    intro e s K h0
    obtain ⟨p1, n1, c1, g1, h2⟩ := gS h0
    exact ⟨_, ⟨g1, trivial⟩, h2⟩

def p3 : Pt St where
  env s := []
  fin e s K := K s
  ok := by
    intro e s K h0
    exact ⟨_, trivial, h0⟩

def p4 : Pt St where
  env s := [(0, (.slice s.x_dst.p s.x_dst.n s.x_dst.c)), (2, (.int .i64 s.x_length))]
  fin e s K := vS e 0 fun p1 n1 c1 => vI e 2 .i64 fun n2 => K { s with x_dst := ⟨p1, n1, c1⟩, x_length := n2 }
  ok := by
    intro e s K h0
    obtain ⟨p1, n1, c1, g1, h2⟩ := gS h0
    obtain ⟨n2, g2, h4⟩ := gI h2
    exact ⟨_, ⟨g1, g2, trivial⟩, h4⟩

def p5 : Pt St where
  env s := [(0, (.slice s.x_dst.p s.x_dst.n s.x_dst.c)), (1, (.int .u16 s.x_offset)), (2, (.int .i64 s.x_length)), (7, (.int .i64 s.x_left))]
  fin e s K := vS e 0 fun p1 n1 c1 => vI e 1 .u16 fun n2 => vI e 2 .i64 fun n3 => vI e 7 .i64 fun n4 => K { s with x_dst := ⟨p1, n1, c1⟩, x_offset := n2, x_length := n3, x_left := n4 }
  ok := by
    intro e s K h0
    obtain ⟨p1, n1, c1, g1, h2⟩ := gS h0
    obtain ⟨n2, g2, h4⟩ := gI h2
    obtain ⟨n3, g3, h6⟩ := gI h4
    obtain ⟨n4, g4, h8⟩ := gI h6
    exact ⟨_, ⟨g1, g2, g3, g4, trivial⟩, h8⟩

def p6 : Pt St where
  env s := [(0, (.slice s.x_dst.p s.x_dst.n s.x_dst.c)), (1, (.int .u16 s.x_offset)), (7, (.int .i64 s.x_left))]
  fin e s K := vS e 0 fun p1 n1 c1 => vI e 1 .u16 fun n2 => vI e 7 .i64 fun n3 => K { s with x_dst := ⟨p1, n1, c1⟩, x_offset := n2, x_left := n3 }
  ok := by
    intro e s K h0
    obtain ⟨p1, n1, c1, g1, h2⟩ := gS h0
    obtain ⟨n2, g2, h4⟩ := gI h2
    obtain ⟨n3, g3, h6⟩ := gI h4
    exact ⟨_, ⟨g1, g2, g3, trivial⟩, h6⟩

def r0 (s : St) (h : Heap) (Q : St → Heap → Prop) : Prop :=
  Q s h

def r1 (s : St) (h : Heap) (Q : St → Heap → Prop) : Prop :=
  Q { s with x_length := (IntKind.wrap .i64 (s.x_length - (4 : Int))) } h

def r2 (s : St) (h : Heap) (Q : Bool → St → Heap → Prop) : Prop :=
  Q (decide (s.x_length ≤ (4 : Int))) s h

def r3 (s : St) (h : Heap) (Q : St → Heap → Prop) : Prop :=
  0 ≤ (0 : Int) ∧ (0 : Int) < ((s.x_dst.n : Nat) : Int) ∧
  ptrE s.x_dst.p fun a1 =>
  st1 (Addr.add (Addr.add a1 (Int.toNat (0 : Int) * 1)) 0) (.int .u8 (bOr .u8 (IntKind.wrap .u8 ((IntKind.wrap .u8 s.x_length) * 2 ^ (2 : Nat))) (1 : Int))) h fun h2 =>
  Q s h2

def r4 (s : St) (h : Heap) (Q : St → Heap → Prop) : Prop :=
  0 ≤ (1 : Int) ∧ (1 : Int) < ((s.x_dst.n : Nat) : Int) ∧
  ptrE s.x_dst.p fun a1 =>
  st1 (Addr.add (Addr.add a1 (Int.toNat (1 : Int) * 1)) 0) (.int .u8 (0 : Int)) h fun h2 =>
  Q s h2

def r5 (s : St) (h : Heap) (Q : St → Heap → Prop) : Prop :=
  Q { s with t6 := (2 : Int) } h

def r6 (s : St) (h : Heap) (Q : Bool → St → Heap → Prop) : Prop :=
  (if (decide (s.x_length < (8 : Int))) = true then
  (Q (decide (s.x_offset < (2048 : Int))) s h)
  else
  (Q false s h))

def r7 (s : St) (h : Heap) (Q : St → Heap → Prop) : Prop :=
  0 ≤ (1 : Int) ∧ (1 : Int) < ((s.x_dst.n : Nat) : Int) ∧
  ptrE s.x_dst.p fun a1 =>
  st1 (Addr.add (Addr.add a1 (Int.toNat (1 : Int) * 1)) 0) (.int .u8 (IntKind.wrap .u8 s.x_offset)) h fun h2 =>
  Q s h2

def r8 (s : St) (h : Heap) (Q : St → Heap → Prop) : Prop :=
  0 ≤ (0 : Int) ∧ (0 : Int) < ((s.x_dst.n : Nat) : Int) ∧
  ptrE s.x_dst.p fun a1 =>
  st1 (Addr.add (Addr.add a1 (Int.toNat (0 : Int) * 1)) 0) (.int .u8 (bOr .u8 (bOr .u8 (IntKind.wrap .u8 ((IntKind.wrap .u8 (Int.fdiv s.x_offset (2 ^ (8 : Nat)))) * 2 ^ (5 : Nat))) (IntKind.wrap .u8 ((IntKind.wrap .u8 s.x_length) * 2 ^ (2 : Nat)))) (1 : Int))) h fun h2 =>
  Q s h2

def r9 (s : St) (h : Heap) (Q : St → Heap → Prop) : Prop :=
  Q { s with t6 := (2 : Int) } h

def r10 (s : St) (h : Heap) (Q : Bool → St → Heap → Prop) : Prop :=
  Q (decide (s.x_length < (260 : Int))) s h

def r11 (s : St) (h : Heap) (Q : St → Heap → Prop) : Prop :=
  Q { s with x_length := (IntKind.wrap .i64 (s.x_length - (4 : Int))) } h

def r12 (s : St) (h : Heap) (Q : St → Heap → Prop) : Prop :=
  0 ≤ (2 : Int) ∧ (2 : Int) < ((s.x_dst.n : Nat) : Int) ∧
  ptrE s.x_dst.p fun a1 =>
  st1 (Addr.add (Addr.add a1 (Int.toNat (2 : Int) * 1)) 0) (.int .u8 (IntKind.wrap .u8 s.x_length)) h fun h2 =>
  Q s h2

def r13 (s : St) (h : Heap) (Q : St → Heap → Prop) : Prop :=
  0 ≤ (1 : Int) ∧ (1 : Int) < ((s.x_dst.n : Nat) : Int) ∧
  ptrE s.x_dst.p fun a1 =>
  st1 (Addr.add (Addr.add a1 (Int.toNat (1 : Int) * 1)) 0) (.int .u8 (0 : Int)) h fun h2 =>
  Q s h2

def r14 (s : St) (h : Heap) (Q : St → Heap → Prop) : Prop :=
  0 ≤ (0 : Int) ∧ (0 : Int) < ((s.x_dst.n : Nat) : Int) ∧
  ptrE s.x_dst.p fun a1 =>
  st1 (Addr.add (Addr.add a1 (Int.toNat (0 : Int) * 1)) 0) (.int .u8 (21 : Int)) h fun h2 =>
  Q s h2

def r15 (s : St) (h : Heap) (Q : St → Heap → Prop) : Prop :=
  Q { s with t6 := (3 : Int) } h

def r16 (s : St) (h : Heap) (Q : Bool → St → Heap → Prop) : Prop :=
  Q (decide (s.x_length < (65792 : Int))) s h

def r17 (s : St) (h : Heap) (Q : St → Heap → Prop) : Prop :=
  Q { s with x_length := (IntKind.wrap .i64 (s.x_length - (256 : Int))) } h

def r18 (s : St) (h : Heap) (Q : St → Heap → Prop) : Prop :=
  0 ≤ (3 : Int) ∧ (3 : Int) < ((s.x_dst.n : Nat) : Int) ∧
  ptrE s.x_dst.p fun a1 =>
  st1 (Addr.add (Addr.add a1 (Int.toNat (3 : Int) * 1)) 0) (.int .u8 (IntKind.wrap .u8 (Int.fdiv s.x_length (2 ^ (8 : Nat))))) h fun h2 =>
  Q s h2

def r19 (s : St) (h : Heap) (Q : St → Heap → Prop) : Prop :=
  0 ≤ (2 : Int) ∧ (2 : Int) < ((s.x_dst.n : Nat) : Int) ∧
  ptrE s.x_dst.p fun a1 =>
  st1 (Addr.add (Addr.add a1 (Int.toNat (2 : Int) * 1)) 0) (.int .u8 (IntKind.wrap .u8 (Int.fdiv s.x_length (2 ^ (0 : Nat))))) h fun h2 =>
  Q s h2

def r20 (s : St) (h : Heap) (Q : St → Heap → Prop) : Prop :=
  0 ≤ (1 : Int) ∧ (1 : Int) < ((s.x_dst.n : Nat) : Int) ∧
  ptrE s.x_dst.p fun a1 =>
  st1 (Addr.add (Addr.add a1 (Int.toNat (1 : Int) * 1)) 0) (.int .u8 (0 : Int)) h fun h2 =>
  Q s h2

def r21 (s : St) (h : Heap) (Q : St → Heap → Prop) : Prop :=
  0 ≤ (0 : Int) ∧ (0 : Int) < ((s.x_dst.n : Nat) : Int) ∧
  ptrE s.x_dst.p fun a1 =>
  st1 (Addr.add (Addr.add a1 (Int.toNat (0 : Int) * 1)) 0) (.int .u8 (25 : Int)) h fun h2 =>
  Q s h2

def r22 (s : St) (h : Heap) (Q : St → Heap → Prop) : Prop :=
  Q { s with t6 := (4 : Int) } h

def r23 (s : St) (h : Heap) (Q : St → Heap → Prop) : Prop :=
  Q { s with x_length := (IntKind.wrap .i64 (s.x_length - (65536 : Int))) } h

def r24 (s : St) (h : Heap) (Q : St → Heap → Prop) : Prop :=
  Q { s with x_left := (0 : Int) } h

def r25 (s : St) (h : Heap) (Q : Bool → St → Heap → Prop) : Prop :=
  Q (decide (s.x_length > (16777215 : Int))) s h

def r26 (s : St) (h : Heap) (Q : Bool → St → Heap → Prop) : Prop :=
  Q (decide (((s.x_dst.n : Nat) : Int) < (10 : Int))) s h

def r27 (s : St) (h : Heap) (Q : St → Heap → Prop) : Prop :=
  Q { s with t6 := (IntKind.wrap .i64 (((s.x_dst.n : Nat) : Int) + (1 : Int))) } h

def r28 (s : St) (h : Heap) (Q : St → Heap → Prop) : Prop :=
  Q { s with x_left := (IntKind.wrap .i64 ((IntKind.wrap .i64 (s.x_length - (16777215 : Int))) + (4 : Int))) } h

def r29 (s : St) (h : Heap) (Q : St → Heap → Prop) : Prop :=
  Q { s with x_length := (16777211 : Int) } h

def r30 (s : St) (h : Heap) (Q : St → Heap → Prop) : Prop :=
  0 ≤ (4 : Int) ∧ (4 : Int) < ((s.x_dst.n : Nat) : Int) ∧
  ptrE s.x_dst.p fun a1 =>
  st1 (Addr.add (Addr.add a1 (Int.toNat (4 : Int) * 1)) 0) (.int .u8 (IntKind.wrap .u8 (Int.fdiv s.x_length (2 ^ (16 : Nat))))) h fun h2 =>
  Q s h2

def r31 (s : St) (h : Heap) (Q : St → Heap → Prop) : Prop :=
  0 ≤ (3 : Int) ∧ (3 : Int) < ((s.x_dst.n : Nat) : Int) ∧
  ptrE s.x_dst.p fun a1 =>
  st1 (Addr.add (Addr.add a1 (Int.toNat (3 : Int) * 1)) 0) (.int .u8 (IntKind.wrap .u8 (Int.fdiv s.x_length (2 ^ (8 : Nat))))) h fun h2 =>
  Q s h2

def r32 (s : St) (h : Heap) (Q : St → Heap → Prop) : Prop :=
  0 ≤ (2 : Int) ∧ (2 : Int) < ((s.x_dst.n : Nat) : Int) ∧
  ptrE s.x_dst.p fun a1 =>
  st1 (Addr.add (Addr.add a1 (Int.toNat (2 : Int) * 1)) 0) (.int .u8 (IntKind.wrap .u8 (Int.fdiv s.x_length (2 ^ (0 : Nat))))) h fun h2 =>
  Q s h2

def r33 (s : St) (h : Heap) (Q : St → Heap → Prop) : Prop :=
  0 ≤ (1 : Int) ∧ (1 : Int) < ((s.x_dst.n : Nat) : Int) ∧
  ptrE s.x_dst.p fun a1 =>
  st1 (Addr.add (Addr.add a1 (Int.toNat (1 : Int) * 1)) 0) (.int .u8 (0 : Int)) h fun h2 =>
  Q s h2

def r34 (s : St) (h : Heap) (Q : St → Heap → Prop) : Prop :=
  0 ≤ (0 : Int) ∧ (0 : Int) < ((s.x_dst.n : Nat) : Int) ∧
  ptrE s.x_dst.p fun a1 =>
  st1 (Addr.add (Addr.add a1 (Int.toNat (0 : Int) * 1)) 0) (.int .u8 (29 : Int)) h fun h2 =>
  Q s h2

def r35 (s : St) (h : Heap) (Q : Bool → St → Heap → Prop) : Prop :=
  Q (decide (s.x_left > (0 : Int))) s h

def r36 (s : St) (h : Heap) (Q : St → Heap → Prop) : Prop :=
  0 ≤ (5 : Int) ∧ (5 : Int) ≤ ((s.x_dst.n : Nat) : Int) ∧
  c_emitRepeat16 ⟨(subP s.x_dst.p (Int.toNat (5 : Int)) s.x_dst.c 1), (s.x_dst.n - (Int.toNat (5 : Int))), (s.x_dst.c - (Int.toNat (5 : Int)))⟩ s.x_offset s.x_left h fun r2 h1 =>
  Q { s with t6 := (IntKind.wrap .i64 ((5 : Int) + r2)) } h1

def r37 (s : St) (h : Heap) (Q : St → Heap → Prop) : Prop :=
  Q { s with t6 := (5 : Int) } h

def k27 : Stm St := (.seq (.test r35 (.seq (.reg r36) .ret) .skip) (.seq (.reg r37) .ret))
def k26 : Stm St := (.seq (.reg r34) k27)
def k25 : Stm St := (.seq (.reg r33) k26)
def k24 : Stm St := (.seq (.reg r32) k25)
def k23 : Stm St := (.seq (.reg r31) k24)
def k22 : Stm St := (.seq (.reg r30) k23)
def k21 : Stm St := (.seq (.test r26 (.seq (.reg r27) .ret) .skip) (.seq (.reg r28) (.reg r29)))
def k20 : Stm St := (.seq (.test r25 k21 .skip) k22)
def k19 : Stm St := (.seq (.reg r24) k20)
def k18 : Stm St := (.seq (.reg r23) k19)
def k17 : Stm St := (.seq (.reg r21) (.seq (.reg r22) .ret))
def k16 : Stm St := (.seq (.reg r20) k17)
def k15 : Stm St := (.seq (.reg r19) k16)
def k14 : Stm St := (.seq (.reg r18) k15)
def k13 : Stm St := (.seq (.reg r17) k14)
def k12 : Stm St := (.seq (.test r16 k13 .skip) k18)
def k11 : Stm St := (.seq (.reg r14) (.seq (.reg r15) .ret))
def k10 : Stm St := (.seq (.reg r13) k11)
def k9 : Stm St := (.seq (.reg r12) k10)
def k8 : Stm St := (.seq (.reg r11) k9)
def k7 : Stm St := (.seq (.test r10 k8 .skip) k12)
def k6 : Stm St := (.seq (.reg r8) (.seq (.reg r9) .ret))
def k5 : Stm St := (.seq (.reg r7) k6)
def k4 : Stm St := (.seq (.test r6 k5 .skip) k7)
def k3 : Stm St := (.seq (.reg r4) (.seq (.reg r5) .ret))
def k2 : Stm St := (.seq (.reg r3) k3)
def k1 : Stm St := (.seq (.test r2 k2 .skip) k4)
def k0 : Stm St := (.seq (.reg r1) k1)

def stm : Stm St := (.seq (.reg r0) k0)

def ex : Ex → Pt St := fun _ => p0

set_option maxRecDepth 100000 in
theorem sim : Sim Pg 111 p1 (Tryd.f91.body.getD .skip) stm p0 ex :=
  (Sim.seq (Sim.reg (A := p1) (B := p1) (fun _ _ _ => by kernel_rfl))
  (Sim.seq (Sim.reg (A := p1) (B := p1) (fun _ _ _ => by kernel_rfl))
  (Sim.seq (Sim.test (A := p1) (B := p1) (fun _ _ _ => by kernel_rfl) (Sim.seq (Sim.reg (A := p1) (B := p2) (fun _ _ _ => by kernel_rfl))
  (Sim.seq (Sim.reg (A := p2) (B := p3) (fun _ _ _ => by kernel_rfl))
  (Sim.seq (Sim.reg (A := p3) (B := p0) (fun _ _ _ => by kernel_rfl))
  (Sim.ret (A := p0) (E := ex) (fun _ => ⟨rfl, trivial⟩)))))
  (Sim.skip (A := p1)))
  (Sim.seq (Sim.test (A := p1) (B := p1) (fun _ _ _ => by kernel_rfl) (Sim.seq (Sim.reg (A := p1) (B := p1) (fun _ _ _ => by kernel_rfl))
  (Sim.seq (Sim.reg (A := p1) (B := p3) (fun _ _ _ => by kernel_rfl))
  (Sim.seq (Sim.reg (A := p3) (B := p0) (fun _ _ _ => by kernel_rfl))
  (Sim.ret (A := p0) (E := ex) (fun _ => ⟨rfl, trivial⟩)))))
  (Sim.skip (A := p1)))
  (Sim.seq (Sim.test (A := p1) (B := p1) (fun _ _ _ => by kernel_rfl) (Sim.seq (Sim.reg (A := p1) (B := p4) (fun _ _ _ => by kernel_rfl))
  (Sim.seq (Sim.reg (A := p4) (B := p2) (fun _ _ _ => by kernel_rfl))
  (Sim.seq (Sim.reg (A := p2) (B := p2) (fun _ _ _ => by kernel_rfl))
  (Sim.seq (Sim.reg (A := p2) (B := p3) (fun _ _ _ => by kernel_rfl))
  (Sim.seq (Sim.reg (A := p3) (B := p0) (fun _ _ _ => by kernel_rfl))
  (Sim.ret (A := p0) (E := ex) (fun _ => ⟨rfl, trivial⟩)))))))
  (Sim.skip (A := p1)))
  (Sim.seq (Sim.test (A := p1) (B := p1) (fun _ _ _ => by kernel_rfl) (Sim.seq (Sim.reg (A := p1) (B := p4) (fun _ _ _ => by kernel_rfl))
  (Sim.seq (Sim.reg (A := p4) (B := p4) (fun _ _ _ => by kernel_rfl))
  (Sim.seq (Sim.reg (A := p4) (B := p2) (fun _ _ _ => by kernel_rfl))
  (Sim.seq (Sim.reg (A := p2) (B := p2) (fun _ _ _ => by kernel_rfl))
  (Sim.seq (Sim.reg (A := p2) (B := p3) (fun _ _ _ => by kernel_rfl))
  (Sim.seq (Sim.reg (A := p3) (B := p0) (fun _ _ _ => by kernel_rfl))
  (Sim.ret (A := p0) (E := ex) (fun _ => ⟨rfl, trivial⟩))))))))
  (Sim.skip (A := p1)))
  (Sim.seq (Sim.reg (A := p1) (B := p1) (fun _ _ _ => by kernel_rfl))
  (Sim.seq (Sim.reg (A := p1) (B := p5) (fun _ _ _ => by kernel_rfl))
  (Sim.seq (Sim.test (A := p5) (B := p5) (fun _ _ _ => by kernel_rfl) (Sim.seq (Sim.test (A := p5) (B := p1) (fun _ _ _ => by kernel_rfl) (Sim.seq (Sim.reg (A := p1) (B := p0) (fun _ _ _ => by kernel_rfl))
  (Sim.ret (A := p0) (E := ex) (fun _ => ⟨rfl, trivial⟩)))
  (Sim.skip (A := p1)))
  (Sim.seq (Sim.reg (A := p1) (B := p6) (fun _ _ _ => by kernel_rfl))
  (Sim.reg (A := p6) (B := p5) (fun _ _ _ => by kernel_rfl))))
  (Sim.skip (A := p5)))
  (Sim.seq (Sim.reg (A := p5) (B := p5) (fun _ _ _ => by kernel_rfl))
  (Sim.seq (Sim.reg (A := p5) (B := p5) (fun _ _ _ => by kernel_rfl))
  (Sim.seq (Sim.reg (A := p5) (B := p6) (fun _ _ _ => by kernel_rfl))
  (Sim.seq (Sim.reg (A := p6) (B := p6) (fun _ _ _ => by kernel_rfl))
  (Sim.seq (Sim.reg (A := p6) (B := p6) (fun _ _ _ => by kernel_rfl))
  (Sim.seq (Sim.test (A := p6) (B := p6) (fun _ _ _ => by kernel_rfl) (Sim.seq (Sim.reg (A := p6) (B := p0) (fun _ _ _ => by kernel_rfl))
  (Sim.ret (A := p0) (E := ex) (fun _ => ⟨rfl, trivial⟩)))
  (Sim.weak (B := p6) (C := p3) (Sim.skip (A := p6)) (fun _ => trivial)))
  (Sim.seq (Sim.reg (A := p3) (B := p0) (fun _ _ _ => by kernel_rfl))
  (Sim.ret (A := p0) (E := ex) (fun _ => ⟨rfl, trivial⟩))))))))))))))))))

def init (x_dst : Sl) (x_offset : Int) (x_length : Int) : St := { x_dst := x_dst, x_offset := x_offset, x_length := x_length, t6 := 0, x_left := 0 }

/-- What is left of the results. -/
def res (K : Int → Heap → Prop) (s : St) (h1 : Heap) : Prop := K s.t6 h1

/-- The call of 'pub-pemmican/pub/compress/s2.emitRepeat16'. -/
theorem calls (x_dst : Sl) (x_offset : Int) (x_length : Int) (h : Heap) (K : Int → Heap → Prop)
    (H : stm (init x_dst x_offset x_length) h (endK (res K))) : c_emitRepeat16 x_dst x_offset x_length h K := by
  have hc : CallsH Pg 91 #[(.slice x_dst.p x_dst.n x_dst.c), (.int .u16 x_offset), (.int .i64 x_length)] h fun v h1 => asI .i64 v fun n1 => K n1 h1 :=
    callsH_of_sim (R := p0) (fn := Tryd.f91) (c := Tryd.f91.body.getD .skip) Tryd.func91 rfl Tryd.ntmps91 Tryd.call91 sim (init x_dst x_offset x_length) (⟨rfl, rfl, rfl, trivial⟩) (Nat.le_of_ble_eq_true rfl) (fun _ => ⟨rfl, trivial⟩) rfl
      (res K) (fun _ _ => by kernel_rfl) H
  refine hc.mono ?_
  intro v hp H
  obtain ⟨n1, rfl, h1⟩ := asI_elim H
  exact ⟨_, rfl, h1⟩

end M_emitRepeat16

end Go.Proofs.YtibleenkgmkpmaaDoor

