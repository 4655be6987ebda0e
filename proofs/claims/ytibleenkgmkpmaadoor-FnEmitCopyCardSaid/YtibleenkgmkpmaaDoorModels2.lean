/- Models of functions of the program: what each one computes, over heaps, tied to the program by one check a region. Written by a program. -/
import Derived.Test.YtibleenkgmkpmaaDoorSigs
namespace Go.Proofs.YtibleenkgmkpmaaDoor
open Go Go.Vc Go.Proofs

namespace M_Uvarint

structure St where
  x_buf : Sl
  t2 : Int
  t3 : Int
  x_x : Int
  x_s : Int
  x_i : Int
  x_b : Int
  t8 : Sl
  t9 : Int
  t10 : Int
  t11 : Bool

def p0 : Pt St where
  env s := [(2, (.int .u64 s.t2)), (3, (.int .i64 s.t3))]
  fin e s K := getV e 2 fun v1 => asI .u64 v1 fun n1 => getV e 3 fun v2 => asI .i64 v2 fun n2 => K { s with t2 := n1, t3 := n2 }
  ok := by
    intro e s K h0
    obtain ⟨w1, g1, h1⟩ := getV_elim h0
    obtain ⟨n1, rfl, h2⟩ := asI_elim h1
    obtain ⟨w2, g2, h3⟩ := getV_elim h2
    obtain ⟨n2, rfl, h4⟩ := asI_elim h3
    exact ⟨_, ⟨g1, g2, trivial⟩, h4⟩

def p1 : Pt St where
  env s := [(0, (.slice s.x_buf.p s.x_buf.n s.x_buf.c))]
  fin e s K := getV e 0 fun v1 => asS v1 fun p1 n1 c1 => K { s with x_buf := ⟨p1, n1, c1⟩ }
  ok := by
    intro e s K h0
    obtain ⟨w1, g1, h1⟩ := getV_elim h0
    obtain ⟨p1, n1, c1, rfl, h2⟩ := asS_elim h1
    exact ⟨_, ⟨g1, trivial⟩, h2⟩

def p2 : Pt St where
  env s := [(0, (.slice s.x_buf.p s.x_buf.n s.x_buf.c)), (4, (.int .u64 s.x_x))]
  fin e s K := getV e 0 fun v1 => asS v1 fun p1 n1 c1 => getV e 4 fun v2 => asI .u64 v2 fun n2 => K { s with x_buf := ⟨p1, n1, c1⟩, x_x := n2 }
  ok := by
    intro e s K h0
    obtain ⟨w1, g1, h1⟩ := getV_elim h0
    obtain ⟨p1, n1, c1, rfl, h2⟩ := asS_elim h1
    obtain ⟨w2, g2, h3⟩ := getV_elim h2
    obtain ⟨n2, rfl, h4⟩ := asI_elim h3
    exact ⟨_, ⟨g1, g2, trivial⟩, h4⟩

def p3 : Pt St where
  env s := [(0, (.slice s.x_buf.p s.x_buf.n s.x_buf.c)), (4, (.int .u64 s.x_x)), (5, (.int .u64 s.x_s))]
  fin e s K := getV e 0 fun v1 => asS v1 fun p1 n1 c1 => getV e 4 fun v2 => asI .u64 v2 fun n2 => getV e 5 fun v3 => asI .u64 v3 fun n3 => K { s with x_buf := ⟨p1, n1, c1⟩, x_x := n2, x_s := n3 }
  ok := by
    intro e s K h0
    obtain ⟨w1, g1, h1⟩ := getV_elim h0
    obtain ⟨p1, n1, c1, rfl, h2⟩ := asS_elim h1
    obtain ⟨w2, g2, h3⟩ := getV_elim h2
    obtain ⟨n2, rfl, h4⟩ := asI_elim h3
    obtain ⟨w3, g3, h5⟩ := getV_elim h4
    obtain ⟨n3, rfl, h6⟩ := asI_elim h5
    exact ⟨_, ⟨g1, g2, g3, trivial⟩, h6⟩

def p4 : Pt St where
  env s := [(4, (.int .u64 s.x_x)), (5, (.int .u64 s.x_s)), (8, (.slice s.t8.p s.t8.n s.t8.c)), (9, (.int .i64 s.t9)), (10, (.int .i64 s.t10))]
  fin e s K := getV e 4 fun v1 => asI .u64 v1 fun n1 => getV e 5 fun v2 => asI .u64 v2 fun n2 => getV e 8 fun v3 => asS v3 fun p1 n3 c1 => getV e 9 fun v4 => asI .i64 v4 fun n4 => getV e 10 fun v5 => asI .i64 v5 fun n5 => K { s with x_x := n1, x_s := n2, t8 := ⟨p1, n3, c1⟩, t9 := n4, t10 := n5 }
  ok := by
    intro e s K h0
    obtain ⟨w1, g1, h1⟩ := getV_elim h0
    obtain ⟨n1, rfl, h2⟩ := asI_elim h1
    obtain ⟨w2, g2, h3⟩ := getV_elim h2
    obtain ⟨n2, rfl, h4⟩ := asI_elim h3
    obtain ⟨w3, g3, h5⟩ := getV_elim h4
    obtain ⟨p1, n3, c1, rfl, h6⟩ := asS_elim h5
    obtain ⟨w4, g4, h7⟩ := getV_elim h6
    obtain ⟨n4, rfl, h8⟩ := asI_elim h7
    obtain ⟨w5, g5, h9⟩ := getV_elim h8
    obtain ⟨n5, rfl, h10⟩ := asI_elim h9
    exact ⟨_, ⟨g1, g2, g3, g4, g5, trivial⟩, h10⟩

def p5 : Pt St where
  env s := []
  fin e s K := K s
  ok := by
    intro e s K h0
    exact ⟨_, trivial, h0⟩

def p6 : Pt St where
  env s := [(4, (.int .u64 s.x_x)), (5, (.int .u64 s.x_s)), (8, (.slice s.t8.p s.t8.n s.t8.c)), (9, (.int .i64 s.t9)), (10, (.int .i64 s.t10)), (11, (.bool s.t11))]
  fin e s K := getV e 4 fun v1 => asI .u64 v1 fun n1 => getV e 5 fun v2 => asI .u64 v2 fun n2 => getV e 8 fun v3 => asS v3 fun p1 n3 c1 => getV e 9 fun v4 => asI .i64 v4 fun n4 => getV e 10 fun v5 => asI .i64 v5 fun n5 => getV e 11 fun v6 => asB v6 fun b1 => K { s with x_x := n1, x_s := n2, t8 := ⟨p1, n3, c1⟩, t9 := n4, t10 := n5, t11 := b1 }
  ok := by
    intro e s K h0
    obtain ⟨w1, g1, h1⟩ := getV_elim h0
    obtain ⟨n1, rfl, h2⟩ := asI_elim h1
    obtain ⟨w2, g2, h3⟩ := getV_elim h2
    obtain ⟨n2, rfl, h4⟩ := asI_elim h3
    obtain ⟨w3, g3, h5⟩ := getV_elim h4
    obtain ⟨p1, n3, c1, rfl, h6⟩ := asS_elim h5
    obtain ⟨w4, g4, h7⟩ := getV_elim h6
    obtain ⟨n4, rfl, h8⟩ := asI_elim h7
    obtain ⟨w5, g5, h9⟩ := getV_elim h8
    obtain ⟨n5, rfl, h10⟩ := asI_elim h9
    obtain ⟨w6, g6, h11⟩ := getV_elim h10
    obtain ⟨b1, rfl, h12⟩ := asB_elim h11
    exact ⟨_, ⟨g1, g2, g3, g4, g5, g6, trivial⟩, h12⟩

def p7 : Pt St where
  env s := [(4, (.int .u64 s.x_x)), (5, (.int .u64 s.x_s)), (6, (.int .i64 s.x_i)), (7, (.int .u8 s.x_b)), (8, (.slice s.t8.p s.t8.n s.t8.c)), (9, (.int .i64 s.t9)), (10, (.int .i64 s.t10))]
  fin e s K := getV e 4 fun v1 => asI .u64 v1 fun n1 => getV e 5 fun v2 => asI .u64 v2 fun n2 => getV e 6 fun v3 => asI .i64 v3 fun n3 => getV e 7 fun v4 => asI .u8 v4 fun n4 => getV e 8 fun v5 => asS v5 fun p1 n5 c1 => getV e 9 fun v6 => asI .i64 v6 fun n6 => getV e 10 fun v7 => asI .i64 v7 fun n7 => K { s with x_x := n1, x_s := n2, x_i := n3, x_b := n4, t8 := ⟨p1, n5, c1⟩, t9 := n6, t10 := n7 }
  ok := by
    intro e s K h0
    obtain ⟨w1, g1, h1⟩ := getV_elim h0
    obtain ⟨n1, rfl, h2⟩ := asI_elim h1
    obtain ⟨w2, g2, h3⟩ := getV_elim h2
    obtain ⟨n2, rfl, h4⟩ := asI_elim h3
    obtain ⟨w3, g3, h5⟩ := getV_elim h4
    obtain ⟨n3, rfl, h6⟩ := asI_elim h5
    obtain ⟨w4, g4, h7⟩ := getV_elim h6
    obtain ⟨n4, rfl, h8⟩ := asI_elim h7
    obtain ⟨w5, g5, h9⟩ := getV_elim h8
    obtain ⟨p1, n5, c1, rfl, h10⟩ := asS_elim h9
    obtain ⟨w6, g6, h11⟩ := getV_elim h10
    obtain ⟨n6, rfl, h12⟩ := asI_elim h11
    obtain ⟨w7, g7, h13⟩ := getV_elim h12
    obtain ⟨n7, rfl, h14⟩ := asI_elim h13
    exact ⟨_, ⟨g1, g2, g3, g4, g5, g6, g7, trivial⟩, h14⟩

def p8 : Pt St where
  env s := [(4, (.int .u64 s.x_x)), (5, (.int .u64 s.x_s)), (7, (.int .u8 s.x_b)), (8, (.slice s.t8.p s.t8.n s.t8.c)), (9, (.int .i64 s.t9)), (10, (.int .i64 s.t10))]
  fin e s K := getV e 4 fun v1 => asI .u64 v1 fun n1 => getV e 5 fun v2 => asI .u64 v2 fun n2 => getV e 7 fun v3 => asI .u8 v3 fun n3 => getV e 8 fun v4 => asS v4 fun p1 n4 c1 => getV e 9 fun v5 => asI .i64 v5 fun n5 => getV e 10 fun v6 => asI .i64 v6 fun n6 => K { s with x_x := n1, x_s := n2, x_b := n3, t8 := ⟨p1, n4, c1⟩, t9 := n5, t10 := n6 }
  ok := by
    intro e s K h0
    obtain ⟨w1, g1, h1⟩ := getV_elim h0
    obtain ⟨n1, rfl, h2⟩ := asI_elim h1
    obtain ⟨w2, g2, h3⟩ := getV_elim h2
    obtain ⟨n2, rfl, h4⟩ := asI_elim h3
    obtain ⟨w3, g3, h5⟩ := getV_elim h4
    obtain ⟨n3, rfl, h6⟩ := asI_elim h5
    obtain ⟨w4, g4, h7⟩ := getV_elim h6
    obtain ⟨p1, n4, c1, rfl, h8⟩ := asS_elim h7
    obtain ⟨w5, g5, h9⟩ := getV_elim h8
    obtain ⟨n5, rfl, h10⟩ := asI_elim h9
    obtain ⟨w6, g6, h11⟩ := getV_elim h10
    obtain ⟨n6, rfl, h12⟩ := asI_elim h11
    exact ⟨_, ⟨g1, g2, g3, g4, g5, g6, trivial⟩, h12⟩

def p9 : Pt St where
  env s := [(4, (.int .u64 s.x_x)), (5, (.int .u64 s.x_s)), (6, (.int .i64 s.x_i)), (7, (.int .u8 s.x_b))]
  fin e s K := getV e 4 fun v1 => asI .u64 v1 fun n1 => getV e 5 fun v2 => asI .u64 v2 fun n2 => getV e 6 fun v3 => asI .i64 v3 fun n3 => getV e 7 fun v4 => asI .u8 v4 fun n4 => K { s with x_x := n1, x_s := n2, x_i := n3, x_b := n4 }
  ok := by
    intro e s K h0
    obtain ⟨w1, g1, h1⟩ := getV_elim h0
    obtain ⟨n1, rfl, h2⟩ := asI_elim h1
    obtain ⟨w2, g2, h3⟩ := getV_elim h2
    obtain ⟨n2, rfl, h4⟩ := asI_elim h3
    obtain ⟨w3, g3, h5⟩ := getV_elim h4
    obtain ⟨n3, rfl, h6⟩ := asI_elim h5
    obtain ⟨w4, g4, h7⟩ := getV_elim h6
    obtain ⟨n4, rfl, h8⟩ := asI_elim h7
    exact ⟨_, ⟨g1, g2, g3, g4, trivial⟩, h8⟩

def r0 (s : St) (h : Heap) (Q : St → Heap → Prop) : Prop :=
  Q s h

def r1 (s : St) (h : Heap) (Q : St → Heap → Prop) : Prop :=
  Q { s with x_x := (0 : Int) } h

def r2 (s : St) (h : Heap) (Q : St → Heap → Prop) : Prop :=
  Q { s with x_s := (0 : Int) } h

def r3 (s : St) (h : Heap) (Q : St → Heap → Prop) : Prop :=
  Q { s with t8 := s.x_buf, t9 := ((s.x_buf.n : Nat) : Int), t10 := (0 : Int) } h

def r4 (s : St) (h : Heap) (Q : St → Heap → Prop) : Prop :=
  Q { s with t11 := (decide (s.t10 < s.t9)) } h

def r5 (s : St) (h : Heap) (Q : St → Heap → Prop) : Prop :=
  0 ≤ s.t10 ∧ s.t10 < ((s.t8.n : Nat) : Int) ∧
  ptrE s.t8.p fun a1 =>
  ∃ v2 : Int, hcell h (Addr.add a1 (Int.toNat s.t10 * 1)) = some (.int .u8 v2) ∧
  Q { s with x_i := s.t10, x_b := v2 } h

def r6 (s : St) (h : Heap) (Q : Bool → St → Heap → Prop) : Prop :=
  Q (s.x_i == (10 : Int)) s h

def r7 (s : St) (h : Heap) (Q : St → Heap → Prop) : Prop :=
  Q { s with t2 := (0 : Int), t3 := (IntKind.wrap .i64 (0 - (IntKind.wrap .i64 (s.x_i + (1 : Int))))) } h

def r8 (s : St) (h : Heap) (Q : Bool → St → Heap → Prop) : Prop :=
  Q (decide (s.x_b < (128 : Int))) s h

def r9 (s : St) (h : Heap) (Q : Bool → St → Heap → Prop) : Prop :=
  (if (s.x_i == (9 : Int)) = true then
  (Q (decide (s.x_b > (1 : Int))) s h)
  else
  (Q false s h))

def r10 (s : St) (h : Heap) (Q : St → Heap → Prop) : Prop :=
  Q { s with t2 := (0 : Int), t3 := (IntKind.wrap .i64 (0 - (IntKind.wrap .i64 (s.x_i + (1 : Int))))) } h

def r11 (s : St) (h : Heap) (Q : St → Heap → Prop) : Prop :=
  (if s.x_s < 0 then False else
  Q { s with t2 := (bOr .u64 s.x_x (IntKind.wrap .u64 ((IntKind.wrap .u64 s.x_b) * 2 ^ (min (Int.toNat s.x_s) 64)))), t3 := (IntKind.wrap .i64 (s.x_i + (1 : Int))) } h)

def r12 (s : St) (h : Heap) (Q : St → Heap → Prop) : Prop :=
  (if s.x_s < 0 then False else
  Q { s with x_x := (bOr .u64 s.x_x (IntKind.wrap .u64 ((IntKind.wrap .u64 (bAnd .u8 s.x_b (127 : Int))) * 2 ^ (min (Int.toNat s.x_s) 64)))) } h)

def r13 (s : St) (h : Heap) (Q : St → Heap → Prop) : Prop :=
  Q { s with x_s := (IntKind.wrap .u64 (s.x_s + (7 : Int))) } h

def r14 (s : St) (h : Heap) (Q : St → Heap → Prop) : Prop :=
  Q { s with t10 := (IntKind.wrap .i64 (s.t10 + (1 : Int))) } h

def r15 (s : St) (h : Heap) (Q : St → Heap → Prop) : Prop :=
  Q { s with t2 := (0 : Int), t3 := (0 : Int) } h

def k9 : Stm St := (.seq (.test r9 (.seq (.reg r10) .ret) .skip) (.seq (.reg r11) .ret))
def k8 : Stm St := (.seq (.test r8 k9 .skip) (.seq (.reg r12) (.reg r13)))
def k7 : Stm St := (.seq (.test r6 (.seq (.reg r7) .ret) .skip) k8)
def k6 : Stm St := (.seq (.block 1 (.seq (.reg r5) k7)) (.reg r14))
def k5 : Stm St := (.seq (.cond (fun s => s.t11) .skip (.exit 0)) k6)
def k4 : Stm St := (.seq (.reg r4) k5)
def k3 : Stm St := (.block 0 (.loop k4))
def k2 : Stm St := (.seq (.seq (.reg r3) k3) (.seq (.reg r15) .ret))
def k1 : Stm St := (.seq (.reg r2) k2)
def k0 : Stm St := (.seq (.reg r1) k1)

def stm : Stm St := (.seq (.reg r0) k0)

def ex : Ex → Pt St := fun _ => p0

set_option maxRecDepth 100000 in
theorem sim : Sim Pg 49 p1 (Tryd.f81.body.getD .skip) stm p0 ex :=
  (Sim.seq (Sim.reg (A := p1) (B := p1) (fun _ _ _ => by kernel_rfl))
  (Sim.seq (Sim.reg (A := p1) (B := p2) (fun _ _ _ => by kernel_rfl))
  (Sim.seq (Sim.reg (A := p2) (B := p3) (fun _ _ _ => by kernel_rfl))
  (Sim.seq (Sim.seq (Sim.reg (A := p3) (B := p4) (fun _ _ _ => by kernel_rfl))
  (Sim.block (B := p5) (Sim.loop (A := p4) (Sim.seq (Sim.reg (A := p4) (B := p6) (fun _ _ _ => by kernel_rfl))
  (Sim.seq (Sim.cond (A := p6) (fun s => s.t11) (fun _ => rfl) (Sim.weak (B := p6) (C := p4) (Sim.skip (A := p6)) (fun _ => ⟨rfl, rfl, rfl, rfl, rfl, trivial⟩))
  (Sim.exit (A := p6) (fun _ => trivial)))
  (Sim.seq (Sim.block (B := p4) (Sim.seq (Sim.reg (A := p4) (B := p7) (fun _ _ _ => by kernel_rfl))
  (Sim.seq (Sim.test (A := p7) (B := p7) (fun _ _ _ => by kernel_rfl) (Sim.seq (Sim.reg (A := p7) (B := p0) (fun _ _ _ => by kernel_rfl))
  (Sim.ret (A := p0) (E := (exAt (exAt ex 0 p5) 1 p4)) (fun _ => ⟨rfl, rfl, trivial⟩)))
  (Sim.skip (A := p7)))
  (Sim.seq (Sim.test (A := p7) (B := p7) (fun _ _ _ => by kernel_rfl) (Sim.seq (Sim.test (A := p7) (B := p9) (fun _ _ _ => by kernel_rfl) (Sim.seq (Sim.reg (A := p9) (B := p0) (fun _ _ _ => by kernel_rfl))
  (Sim.ret (A := p0) (E := (exAt (exAt ex 0 p5) 1 p4)) (fun _ => ⟨rfl, rfl, trivial⟩)))
  (Sim.skip (A := p9)))
  (Sim.seq (Sim.reg (A := p9) (B := p0) (fun _ _ _ => by kernel_rfl))
  (Sim.ret (A := p0) (E := (exAt (exAt ex 0 p5) 1 p4)) (fun _ => ⟨rfl, rfl, trivial⟩))))
  (Sim.weak (B := p7) (C := p8) (Sim.skip (A := p7)) (fun _ => ⟨rfl, rfl, rfl, rfl, rfl, rfl, trivial⟩)))
  (Sim.seq (Sim.reg (A := p8) (B := p4) (fun _ _ _ => by kernel_rfl))
  (Sim.reg (A := p4) (B := p4) (fun _ _ _ => by kernel_rfl)))))))
  (Sim.reg (A := p4) (B := p4) (fun _ _ _ => by kernel_rfl))))))))
  (Sim.seq (Sim.reg (A := p5) (B := p0) (fun _ _ _ => by kernel_rfl))
  (Sim.ret (A := p0) (E := ex) (fun _ => ⟨rfl, rfl, trivial⟩)))))))

def init (x_buf : Sl) : St := { x_buf := x_buf, t2 := 0, t3 := 0, x_x := 0, x_s := 0, x_i := 0, x_b := 0, t8 := Sl.nil, t9 := 0, t10 := 0, t11 := false }

/-- What is left of the results. -/
def res (K : Int → Int → Heap → Prop) (s : St) (h1 : Heap) : Prop := K s.t2 s.t3 h1

/-- The call of 'encoding/binary.Uvarint'. -/
theorem calls (x_buf : Sl) (h : Heap) (K : Int → Int → Heap → Prop)
    (H : stm (init x_buf) h (endK (res K))) : c_Uvarint x_buf h K := by
  have hc : CallsH Pg 81 #[(.slice x_buf.p x_buf.n x_buf.c)] h fun v h1 => asT v fun l1 => asC l1 fun v1 l2 => asI .u64 v1 fun n1 => asC l2 fun v2 l3 => asI .i64 v2 fun n2 => asN l3 (K n1 n2 h1) :=
    callsH_of_sim (R := p0) (fn := Tryd.f81) (c := Tryd.f81.body.getD .skip) Tryd.func81 rfl Tryd.ntmps81 Tryd.call81 sim (init x_buf) (⟨rfl, trivial⟩) (Nat.le_of_ble_eq_true rfl) (fun _ => ⟨rfl, rfl, trivial⟩) rfl
      (res K) (fun _ _ => by kernel_rfl) H
  refine hc.mono ?_
  intro v hp H
  obtain ⟨l1, rfl, h1⟩ := asT_elim H
  obtain ⟨v1, l2, rfl, h2⟩ := asC_elim h1
  obtain ⟨n1, rfl, h3⟩ := asI_elim h2
  obtain ⟨v2, l3, rfl, h4⟩ := asC_elim h3
  obtain ⟨n2, rfl, h5⟩ := asI_elim h4
  obtain ⟨rfl, h6⟩ := asN_elim h5
  exact ⟨_, _, rfl, h6⟩

end M_Uvarint

end Go.Proofs.YtibleenkgmkpmaaDoor

namespace Go.Proofs.YtibleenkgmkpmaaDoor
open Go Go.Vc Go.Proofs

namespace M_decodedLen

structure St where
  x_src : Sl
  x_blockLen : Int
  x_headerLen : Int
  x_err : Value
  x_v : Int
  x_n : Int

def p0 : Pt St where
  env s := [(2, (.int .i64 s.x_blockLen)), (3, (.int .i64 s.x_headerLen)), (4, s.x_err)]
  fin e s K := getV e 2 fun v1 => asI .i64 v1 fun n1 => getV e 3 fun v2 => asI .i64 v2 fun n2 => getV e 4 fun v3 => K { s with x_blockLen := n1, x_headerLen := n2, x_err := v3 }
  ok := by
    intro e s K h0
    obtain ⟨w1, g1, h1⟩ := getV_elim h0
    obtain ⟨n1, rfl, h2⟩ := asI_elim h1
    obtain ⟨w2, g2, h3⟩ := getV_elim h2
    obtain ⟨n2, rfl, h4⟩ := asI_elim h3
    obtain ⟨w3, g3, h5⟩ := getV_elim h4
    exact ⟨_, ⟨g1, g2, g3, trivial⟩, h5⟩

def p1 : Pt St where
  env s := [(0, (.slice s.x_src.p s.x_src.n s.x_src.c))]
  fin e s K := getV e 0 fun v1 => asS v1 fun p1 n1 c1 => K { s with x_src := ⟨p1, n1, c1⟩ }
  ok := by
    intro e s K h0
    obtain ⟨w1, g1, h1⟩ := getV_elim h0
    obtain ⟨p1, n1, c1, rfl, h2⟩ := asS_elim h1
    exact ⟨_, ⟨g1, trivial⟩, h2⟩

def p2 : Pt St where
  env s := [(5, (.int .u64 s.x_v)), (6, (.int .i64 s.x_n))]
  fin e s K := getV e 5 fun v1 => asI .u64 v1 fun n1 => getV e 6 fun v2 => asI .i64 v2 fun n2 => K { s with x_v := n1, x_n := n2 }
  ok := by
    intro e s K h0
    obtain ⟨w1, g1, h1⟩ := getV_elim h0
    obtain ⟨n1, rfl, h2⟩ := asI_elim h1
    obtain ⟨w2, g2, h3⟩ := getV_elim h2
    obtain ⟨n2, rfl, h4⟩ := asI_elim h3
    exact ⟨_, ⟨g1, g2, trivial⟩, h4⟩

def r0 (s : St) (h : Heap) (Q : St → Heap → Prop) : Prop :=
  Q s h

def r1 (s : St) (h : Heap) (Q : St → Heap → Prop) : Prop :=
  c_Uvarint s.x_src h fun r2 r3 h1 =>
  Q { s with x_v := r2, x_n := r3 } h1

def r2 (s : St) (h : Heap) (Q : Bool → St → Heap → Prop) : Prop :=
  (if (decide (s.x_n ≤ (0 : Int))) = false then
  ((if (decide (s.x_n > (5 : Int))) = false then
  (Q (decide (s.x_v > (4294967295 : Int))) s h)
  else
  (Q true s h)))
  else
  (Q true s h))

def r3 (s : St) (h : Heap) (Q : St → Heap → Prop) : Prop :=
  ∃ u1 : Value, hcell h ⟨0, 0, none⟩ = some u1 ∧
  Q { s with x_blockLen := (0 : Int), x_headerLen := (0 : Int), x_err := u1 } h

def r4 (s : St) (h : Heap) (Q : Bool → St → Heap → Prop) : Prop :=
  Q false s h

def r5 (s : St) (h : Heap) (Q : St → Heap → Prop) : Prop :=
  ∃ u1 : Value, hcell h ⟨1, 0, none⟩ = some u1 ∧
  Q { s with x_blockLen := (0 : Int), x_headerLen := (0 : Int), x_err := u1 } h

def r6 (s : St) (h : Heap) (Q : St → Heap → Prop) : Prop :=
  Q { s with x_blockLen := (IntKind.wrap .i64 s.x_v), x_headerLen := s.x_n, x_err := .nilIface } h

def k2 : Stm St := (.seq (.test r4 (.seq (.reg r5) .ret) .skip) (.seq (.reg r6) .ret))
def k1 : Stm St := (.seq (.test r2 (.seq (.reg r3) .ret) .skip) k2)
def k0 : Stm St := (.seq (.reg r1) k1)

def stm : Stm St := (.seq (.reg r0) k0)

def ex : Ex → Pt St := fun _ => p0

set_option maxRecDepth 100000 in
theorem sim : Sim Pg 31 p1 (Tryd.f56.body.getD .skip) stm p0 ex :=
  (Sim.seq (Sim.reg (A := p1) (B := p1) (fun _ _ _ => by kernel_rfl))
  (Sim.seq (Sim.reg (A := p1) (B := p2) (fun _ _ _ => by kernel_rfl))
  (Sim.seq (Sim.test (A := p2) (B := p2) (fun _ _ _ => by kernel_rfl) (Sim.seq (Sim.reg (A := p2) (B := p0) (fun _ _ _ => by kernel_rfl))
  (Sim.ret (A := p0) (E := ex) (fun _ => ⟨rfl, rfl, rfl, trivial⟩)))
  (Sim.skip (A := p2)))
  (Sim.seq (Sim.test (A := p2) (B := p2) (fun _ _ _ => by kernel_rfl) (Sim.seq (Sim.reg (A := p2) (B := p0) (fun _ _ _ => by kernel_rfl))
  (Sim.ret (A := p0) (E := ex) (fun _ => ⟨rfl, rfl, rfl, trivial⟩)))
  (Sim.skip (A := p2)))
  (Sim.seq (Sim.reg (A := p2) (B := p0) (fun _ _ _ => by kernel_rfl))
  (Sim.ret (A := p0) (E := ex) (fun _ => ⟨rfl, rfl, rfl, trivial⟩)))))))

def init (x_src : Sl) : St := { x_src := x_src, x_blockLen := 0, x_headerLen := 0, x_err := undef, x_v := 0, x_n := 0 }

/-- What is left of the results. -/
def res (K : Int → Int → Value → Heap → Prop) (s : St) (h1 : Heap) : Prop := K s.x_blockLen s.x_headerLen s.x_err h1

/-- The call of 'pub-pemmican/pub/compress/s2.decodedLen'. -/
theorem calls (x_src : Sl) (h : Heap) (K : Int → Int → Value → Heap → Prop)
    (H : stm (init x_src) h (endK (res K))) : c_decodedLen x_src h K := by
  have hc : CallsH Pg 56 #[(.slice x_src.p x_src.n x_src.c)] h fun v h1 => asT v fun l1 => asC l1 fun v1 l2 => asI .i64 v1 fun n1 => asC l2 fun v2 l3 => asI .i64 v2 fun n2 => asC l3 fun v3 l4 => asN l4 (K n1 n2 v3 h1) :=
    callsH_of_sim (R := p0) (fn := Tryd.f56) (c := Tryd.f56.body.getD .skip) Tryd.func56 rfl Tryd.ntmps56 Tryd.call56 sim (init x_src) (⟨rfl, trivial⟩) (Nat.le_of_ble_eq_true rfl) (fun _ => ⟨rfl, rfl, rfl, trivial⟩) rfl
      (res K) (fun _ _ => by kernel_rfl) H
  refine hc.mono ?_
  intro v hp H
  obtain ⟨l1, rfl, h1⟩ := asT_elim H
  obtain ⟨v1, l2, rfl, h2⟩ := asC_elim h1
  obtain ⟨n1, rfl, h3⟩ := asI_elim h2
  obtain ⟨v2, l3, rfl, h4⟩ := asC_elim h3
  obtain ⟨n2, rfl, h5⟩ := asI_elim h4
  obtain ⟨v3, l4, rfl, h6⟩ := asC_elim h5
  obtain ⟨rfl, h7⟩ := asN_elim h6
  exact ⟨_, _, _, rfl, h7⟩

end M_decodedLen

end Go.Proofs.YtibleenkgmkpmaaDoor

namespace Go.Proofs.YtibleenkgmkpmaaDoor
open Go Go.Vc Go.Proofs

namespace M_spec_S2Len

structure St where
  x_src : Sl
  x_n : Int
  x_used : Int
  x_ok : Int
  x_i : Int
  x_b : Int

def p0 : Pt St where
  env s := [(2, (.int .i64 s.x_n)), (3, (.int .i64 s.x_used)), (4, (.int .i64 s.x_ok))]
  fin e s K := getV e 2 fun v1 => asI .i64 v1 fun n1 => getV e 3 fun v2 => asI .i64 v2 fun n2 => getV e 4 fun v3 => asI .i64 v3 fun n3 => K { s with x_n := n1, x_used := n2, x_ok := n3 }
  ok := by
    intro e s K h0
    obtain ⟨w1, g1, h1⟩ := getV_elim h0
    obtain ⟨n1, rfl, h2⟩ := asI_elim h1
    obtain ⟨w2, g2, h3⟩ := getV_elim h2
    obtain ⟨n2, rfl, h4⟩ := asI_elim h3
    obtain ⟨w3, g3, h5⟩ := getV_elim h4
    obtain ⟨n3, rfl, h6⟩ := asI_elim h5
    exact ⟨_, ⟨g1, g2, g3, trivial⟩, h6⟩

def p1 : Pt St where
  env s := [(0, (.slice s.x_src.p s.x_src.n s.x_src.c))]
  fin e s K := getV e 0 fun v1 => asS v1 fun p1 n1 c1 => K { s with x_src := ⟨p1, n1, c1⟩ }
  ok := by
    intro e s K h0
    obtain ⟨w1, g1, h1⟩ := getV_elim h0
    obtain ⟨p1, n1, c1, rfl, h2⟩ := asS_elim h1
    exact ⟨_, ⟨g1, trivial⟩, h2⟩

def p2 : Pt St where
  env s := [(0, (.slice s.x_src.p s.x_src.n s.x_src.c)), (2, (.int .i64 s.x_n))]
  fin e s K := getV e 0 fun v1 => asS v1 fun p1 n1 c1 => getV e 2 fun v2 => asI .i64 v2 fun n2 => K { s with x_src := ⟨p1, n1, c1⟩, x_n := n2 }
  ok := by
    intro e s K h0
    obtain ⟨w1, g1, h1⟩ := getV_elim h0
    obtain ⟨p1, n1, c1, rfl, h2⟩ := asS_elim h1
    obtain ⟨w2, g2, h3⟩ := getV_elim h2
    obtain ⟨n2, rfl, h4⟩ := asI_elim h3
    exact ⟨_, ⟨g1, g2, trivial⟩, h4⟩

def p3 : Pt St where
  env s := [(0, (.slice s.x_src.p s.x_src.n s.x_src.c)), (2, (.int .i64 s.x_n)), (5, (.int .i64 s.x_i))]
  fin e s K := getV e 0 fun v1 => asS v1 fun p1 n1 c1 => getV e 2 fun v2 => asI .i64 v2 fun n2 => getV e 5 fun v3 => asI .i64 v3 fun n3 => K { s with x_src := ⟨p1, n1, c1⟩, x_n := n2, x_i := n3 }
  ok := by
    intro e s K h0
    obtain ⟨w1, g1, h1⟩ := getV_elim h0
    obtain ⟨p1, n1, c1, rfl, h2⟩ := asS_elim h1
    obtain ⟨w2, g2, h3⟩ := getV_elim h2
    obtain ⟨n2, rfl, h4⟩ := asI_elim h3
    obtain ⟨w3, g3, h5⟩ := getV_elim h4
    obtain ⟨n3, rfl, h6⟩ := asI_elim h5
    exact ⟨_, ⟨g1, g2, g3, trivial⟩, h6⟩

def p4 : Pt St where
  env s := [(0, (.slice s.x_src.p s.x_src.n s.x_src.c)), (2, (.int .i64 s.x_n)), (5, (.int .i64 s.x_i)), (6, (.int .i64 s.x_b))]
  fin e s K := getV e 0 fun v1 => asS v1 fun p1 n1 c1 => getV e 2 fun v2 => asI .i64 v2 fun n2 => getV e 5 fun v3 => asI .i64 v3 fun n3 => getV e 6 fun v4 => asI .i64 v4 fun n4 => K { s with x_src := ⟨p1, n1, c1⟩, x_n := n2, x_i := n3, x_b := n4 }
  ok := by
    intro e s K h0
    obtain ⟨w1, g1, h1⟩ := getV_elim h0
    obtain ⟨p1, n1, c1, rfl, h2⟩ := asS_elim h1
    obtain ⟨w2, g2, h3⟩ := getV_elim h2
    obtain ⟨n2, rfl, h4⟩ := asI_elim h3
    obtain ⟨w3, g3, h5⟩ := getV_elim h4
    obtain ⟨n3, rfl, h6⟩ := asI_elim h5
    obtain ⟨w4, g4, h7⟩ := getV_elim h6
    obtain ⟨n4, rfl, h8⟩ := asI_elim h7
    exact ⟨_, ⟨g1, g2, g3, g4, trivial⟩, h8⟩

def p5 : Pt St where
  env s := [(2, (.int .i64 s.x_n)), (5, (.int .i64 s.x_i)), (6, (.int .i64 s.x_b))]
  fin e s K := getV e 2 fun v1 => asI .i64 v1 fun n1 => getV e 5 fun v2 => asI .i64 v2 fun n2 => getV e 6 fun v3 => asI .i64 v3 fun n3 => K { s with x_n := n1, x_i := n2, x_b := n3 }
  ok := by
    intro e s K h0
    obtain ⟨w1, g1, h1⟩ := getV_elim h0
    obtain ⟨n1, rfl, h2⟩ := asI_elim h1
    obtain ⟨w2, g2, h3⟩ := getV_elim h2
    obtain ⟨n2, rfl, h4⟩ := asI_elim h3
    obtain ⟨w3, g3, h5⟩ := getV_elim h4
    obtain ⟨n3, rfl, h6⟩ := asI_elim h5
    exact ⟨_, ⟨g1, g2, g3, trivial⟩, h6⟩

def p6 : Pt St where
  env s := [(2, (.int .i64 s.x_n)), (5, (.int .i64 s.x_i))]
  fin e s K := getV e 2 fun v1 => asI .i64 v1 fun n1 => getV e 5 fun v2 => asI .i64 v2 fun n2 => K { s with x_n := n1, x_i := n2 }
  ok := by
    intro e s K h0
    obtain ⟨w1, g1, h1⟩ := getV_elim h0
    obtain ⟨n1, rfl, h2⟩ := asI_elim h1
    obtain ⟨w2, g2, h3⟩ := getV_elim h2
    obtain ⟨n2, rfl, h4⟩ := asI_elim h3
    exact ⟨_, ⟨g1, g2, trivial⟩, h4⟩

def p7 : Pt St where
  env s := []
  fin e s K := K s
  ok := by
    intro e s K h0
    exact ⟨_, trivial, h0⟩

def r0 (s : St) (h : Heap) (Q : St → Heap → Prop) : Prop :=
  Q { s with x_n := (0 : Int) } h

def r1 (s : St) (h : Heap) (Q : St → Heap → Prop) : Prop :=
  Q { s with x_i := (0 : Int) } h

def r2 (s : St) (h : Heap) (Q : Bool → St → Heap → Prop) : Prop :=
  (if (decide (s.x_i < ((s.x_src.n : Nat) : Int))) = true then
  (Q (decide (s.x_i < (10 : Int))) s h)
  else
  (Q false s h))

def r3 (s : St) (h : Heap) (Q : St → Heap → Prop) : Prop :=
  Q { s with x_i := (IntKind.wrap .i64 (s.x_i + (1 : Int))) } h

def r4 (s : St) (h : Heap) (Q : St → Heap → Prop) : Prop :=
  0 ≤ s.x_i ∧ s.x_i < ((s.x_src.n : Nat) : Int) ∧
  ptrE s.x_src.p fun a1 =>
  ∃ v2 : Int, hcell h (Addr.add a1 (Int.toNat s.x_i * 1)) = some (.int .u8 v2) ∧
  Q { s with x_b := (IntKind.wrap .i64 v2) } h

def r5 (s : St) (h : Heap) (Q : Bool → St → Heap → Prop) : Prop :=
  (if (decide (s.x_i < (9 : Int))) = true then
  (Q (decide (s.x_n < (1099511627776 : Int))) s h)
  else
  (Q false s h))

def r6 (s : St) (h : Heap) (Q : St → Heap → Prop) : Prop :=
  (if (IntKind.wrap .i64 ((7 : Int) * s.x_i)) < 0 then False else
  Q { s with x_n := (IntKind.wrap .i64 (s.x_n + (IntKind.wrap .i64 ((bAnd .i64 s.x_b (127 : Int)) * 2 ^ (min (Int.toNat (IntKind.wrap .i64 ((7 : Int) * s.x_i))) 64))))) } h)

def r7 (s : St) (h : Heap) (Q : Bool → St → Heap → Prop) : Prop :=
  Q (decide (s.x_b ≥ (128 : Int))) s h

def r8 (s : St) (h : Heap) (Q : Bool → St → Heap → Prop) : Prop :=
  Q (decide (s.x_n ≥ (4294967296 : Int))) s h

def r9 (s : St) (h : Heap) (Q : St → Heap → Prop) : Prop :=
  Q { s with x_n := (0 : Int), x_used := (0 : Int), x_ok := (0 : Int) } h

def r10 (s : St) (h : Heap) (Q : Bool → St → Heap → Prop) : Prop :=
  (if (decide (s.x_i > (0 : Int))) = true then
  ((if (s.x_b == (0 : Int)) = false then
  (Q (decide (s.x_i > (4 : Int))) s h)
  else
  (Q true s h)))
  else
  (Q (decide (s.x_i > (4 : Int))) s h))

def r11 (s : St) (h : Heap) (Q : St → Heap → Prop) : Prop :=
  Q { s with x_used := (IntKind.wrap .i64 (s.x_i + (1 : Int))), x_ok := (2 : Int) } h

def r12 (s : St) (h : Heap) (Q : St → Heap → Prop) : Prop :=
  Q { s with x_used := (IntKind.wrap .i64 (s.x_i + (1 : Int))), x_ok := (1 : Int) } h

def r13 (s : St) (h : Heap) (Q : Bool → St → Heap → Prop) : Prop :=
  Q (decide (((s.x_src.n : Nat) : Int) > (5 : Int))) s h

def r14 (s : St) (h : Heap) (Q : St → Heap → Prop) : Prop :=
  Q { s with x_n := (0 : Int), x_used := (0 : Int), x_ok := (2 : Int) } h

def r15 (s : St) (h : Heap) (Q : St → Heap → Prop) : Prop :=
  Q { s with x_n := (0 : Int), x_used := (0 : Int), x_ok := (0 : Int) } h

def k8 : Stm St := (.seq (.test r13 (.seq (.reg r14) .ret) .skip) (.seq (.reg r15) .ret))
def k7 : Stm St := (.test r10 (.seq (.reg r11) .ret) .skip)
def k6 : Stm St := (.seq (.block 2 (.test r8 (.seq (.reg r9) .ret) k7)) (.seq (.reg r12) .ret))
def k5 : Stm St := (.seq (.test r7 (.exit 1) .skip) k6)
def k4 : Stm St := (.seq (.test r5 (.reg r6) .skip) k5)
def k3 : Stm St := (.seq (.block 1 (.seq (.reg r4) k4)) (.reg r3))
def k2 : Stm St := (.seq (.test r2 .skip (.exit 0)) k3)
def k1 : Stm St := (.block 0 (.loop k2))
def k0 : Stm St := (.seq (.seq (.reg r1) k1) k8)

def stm : Stm St := (.seq (.reg r0) k0)

def ex : Ex → Pt St := fun _ => p0

set_option maxRecDepth 100000 in
theorem sim : Sim Pg 60 p1 (Tryd.f12.body.getD .skip) stm p0 ex :=
  (Sim.seq (Sim.reg (A := p1) (B := p2) (fun _ _ _ => by kernel_rfl))
  (Sim.seq (Sim.seq (Sim.reg (A := p2) (B := p3) (fun _ _ _ => by kernel_rfl))
  (Sim.block (B := p1) (Sim.loop (A := p3) (Sim.seq (Sim.test (A := p3) (B := p3) (fun _ _ _ => by kernel_rfl) (Sim.skip (A := p3))
  (Sim.exit (A := p3) (fun _ => ⟨rfl, trivial⟩)))
  (Sim.seq (Sim.block (B := p3) (Sim.seq (Sim.reg (A := p3) (B := p4) (fun _ _ _ => by kernel_rfl))
  (Sim.seq (Sim.test (A := p4) (B := p4) (fun _ _ _ => by kernel_rfl) (Sim.reg (A := p4) (B := p4) (fun _ _ _ => by kernel_rfl))
  (Sim.skip (A := p4)))
  (Sim.seq (Sim.test (A := p4) (B := p4) (fun _ _ _ => by kernel_rfl) (Sim.exit (A := p4) (fun _ => ⟨rfl, rfl, rfl, trivial⟩))
  (Sim.weak (B := p4) (C := p5) (Sim.skip (A := p4)) (fun _ => ⟨rfl, rfl, rfl, trivial⟩)))
  (Sim.seq (Sim.block (B := p6) (Sim.test (A := p5) (B := p5) (fun _ _ _ => by kernel_rfl) (Sim.seq (Sim.reg (A := p5) (B := p0) (fun _ _ _ => by kernel_rfl))
  (Sim.ret (A := p0) (E := (exAt (exAt (exAt ex 0 p1) 1 p3) 2 p6)) (fun _ => ⟨rfl, rfl, rfl, trivial⟩)))
  (Sim.test (A := p5) (B := p6) (fun _ _ _ => by kernel_rfl) (Sim.seq (Sim.reg (A := p6) (B := p0) (fun _ _ _ => by kernel_rfl))
  (Sim.ret (A := p0) (E := (exAt (exAt (exAt ex 0 p1) 1 p3) 2 p6)) (fun _ => ⟨rfl, rfl, rfl, trivial⟩)))
  (Sim.skip (A := p6)))))
  (Sim.seq (Sim.reg (A := p6) (B := p0) (fun _ _ _ => by kernel_rfl))
  (Sim.ret (A := p0) (E := (exAt (exAt ex 0 p1) 1 p3)) (fun _ => ⟨rfl, rfl, rfl, trivial⟩))))))))
  (Sim.reg (A := p3) (B := p3) (fun _ _ _ => by kernel_rfl)))))))
  (Sim.seq (Sim.test (A := p1) (B := p7) (fun _ _ _ => by kernel_rfl) (Sim.seq (Sim.reg (A := p7) (B := p0) (fun _ _ _ => by kernel_rfl))
  (Sim.ret (A := p0) (E := ex) (fun _ => ⟨rfl, rfl, rfl, trivial⟩)))
  (Sim.skip (A := p7)))
  (Sim.seq (Sim.reg (A := p7) (B := p0) (fun _ _ _ => by kernel_rfl))
  (Sim.ret (A := p0) (E := ex) (fun _ => ⟨rfl, rfl, rfl, trivial⟩))))))

def init (x_src : Sl) : St := { x_src := x_src, x_n := 0, x_used := 0, x_ok := 0, x_i := 0, x_b := 0 }

/-- What is left of the results. -/
def res (K : Int → Int → Int → Heap → Prop) (s : St) (h1 : Heap) : Prop := K s.x_n s.x_used s.x_ok h1

/-- The call of 'pub-pemmican/spec.S2Len'. -/
theorem calls (x_src : Sl) (h : Heap) (K : Int → Int → Int → Heap → Prop)
    (H : stm (init x_src) h (endK (res K))) : c_spec_S2Len x_src h K := by
  have hc : CallsH Pg 12 #[(.slice x_src.p x_src.n x_src.c)] h fun v h1 => asT v fun l1 => asC l1 fun v1 l2 => asI .i64 v1 fun n1 => asC l2 fun v2 l3 => asI .i64 v2 fun n2 => asC l3 fun v3 l4 => asI .i64 v3 fun n3 => asN l4 (K n1 n2 n3 h1) :=
    callsH_of_sim (R := p0) (fn := Tryd.f12) (c := Tryd.f12.body.getD .skip) Tryd.func12 rfl Tryd.ntmps12 Tryd.call12 sim (init x_src) (⟨rfl, trivial⟩) (Nat.le_of_ble_eq_true rfl) (fun _ => ⟨rfl, rfl, rfl, trivial⟩) rfl
      (res K) (fun _ _ => by kernel_rfl) H
  refine hc.mono ?_
  intro v hp H
  obtain ⟨l1, rfl, h1⟩ := asT_elim H
  obtain ⟨v1, l2, rfl, h2⟩ := asC_elim h1
  obtain ⟨n1, rfl, h3⟩ := asI_elim h2
  obtain ⟨v2, l3, rfl, h4⟩ := asC_elim h3
  obtain ⟨n2, rfl, h5⟩ := asI_elim h4
  obtain ⟨v3, l4, rfl, h6⟩ := asC_elim h5
  obtain ⟨n3, rfl, h7⟩ := asI_elim h6
  obtain ⟨rfl, h8⟩ := asN_elim h7
  exact ⟨_, _, _, rfl, h8⟩

end M_spec_S2Len

end Go.Proofs.YtibleenkgmkpmaaDoor

namespace Go.Proofs.YtibleenkgmkpmaaDoor
open Go Go.Vc Go.Proofs

namespace M_spec_decoded

structure St where
  x_src : Sl
  x_s : Option Addr
  x_s2 : Bool
  t6 : Sl
  t7 : Int
  x_n : Int
  x_used : Int
  x_ok : Int
  x_is : Int

def p0 : Pt St where
  env s := [(6, (.slice s.t6.p s.t6.n s.t6.c)), (7, (.int .i64 s.t7))]
  fin e s K := getV e 6 fun v1 => asS v1 fun p1 n1 c1 => getV e 7 fun v2 => asI .i64 v2 fun n2 => K { s with t6 := ⟨p1, n1, c1⟩, t7 := n2 }
  ok := by
    intro e s K h0
    obtain ⟨w1, g1, h1⟩ := getV_elim h0
    obtain ⟨p1, n1, c1, rfl, h2⟩ := asS_elim h1
    obtain ⟨w2, g2, h3⟩ := getV_elim h2
    obtain ⟨n2, rfl, h4⟩ := asI_elim h3
    exact ⟨_, ⟨g1, g2, trivial⟩, h4⟩

def p1 : Pt St where
  env s := [(0, (.slice s.x_src.p s.x_src.n s.x_src.c)), (1, (.pointer s.x_s)), (2, (.bool s.x_s2))]
  fin e s K := getV e 0 fun v1 => asS v1 fun p1 n1 c1 => getV e 1 fun v2 => asP v2 fun p2 => getV e 2 fun v3 => asB v3 fun b1 => K { s with x_src := ⟨p1, n1, c1⟩, x_s := p2, x_s2 := b1 }
  ok := by
    intro e s K h0
    obtain ⟨w1, g1, h1⟩ := getV_elim h0
    obtain ⟨p1, n1, c1, rfl, h2⟩ := asS_elim h1
    obtain ⟨w2, g2, h3⟩ := getV_elim h2
    obtain ⟨p2, rfl, h4⟩ := asP_elim h3
    obtain ⟨w3, g3, h5⟩ := getV_elim h4
    obtain ⟨b1, rfl, h6⟩ := asB_elim h5
    exact ⟨_, ⟨g1, g2, g3, trivial⟩, h6⟩

def p2 : Pt St where
  env s := [(0, (.slice s.x_src.p s.x_src.n s.x_src.c)), (1, (.pointer s.x_s)), (2, (.bool s.x_s2)), (8, (.int .i64 s.x_n)), (9, (.int .i64 s.x_used)), (10, (.int .i64 s.x_ok))]
  fin e s K := getV e 0 fun v1 => asS v1 fun p1 n1 c1 => getV e 1 fun v2 => asP v2 fun p2 => getV e 2 fun v3 => asB v3 fun b1 => getV e 8 fun v4 => asI .i64 v4 fun n2 => getV e 9 fun v5 => asI .i64 v5 fun n3 => getV e 10 fun v6 => asI .i64 v6 fun n4 => K { s with x_src := ⟨p1, n1, c1⟩, x_s := p2, x_s2 := b1, x_n := n2, x_used := n3, x_ok := n4 }
  ok := by
    intro e s K h0
    obtain ⟨w1, g1, h1⟩ := getV_elim h0
    obtain ⟨p1, n1, c1, rfl, h2⟩ := asS_elim h1
    obtain ⟨w2, g2, h3⟩ := getV_elim h2
    obtain ⟨p2, rfl, h4⟩ := asP_elim h3
    obtain ⟨w3, g3, h5⟩ := getV_elim h4
    obtain ⟨b1, rfl, h6⟩ := asB_elim h5
    obtain ⟨w4, g4, h7⟩ := getV_elim h6
    obtain ⟨n2, rfl, h8⟩ := asI_elim h7
    obtain ⟨w5, g5, h9⟩ := getV_elim h8
    obtain ⟨n3, rfl, h10⟩ := asI_elim h9
    obtain ⟨w6, g6, h11⟩ := getV_elim h10
    obtain ⟨n4, rfl, h12⟩ := asI_elim h11
    exact ⟨_, ⟨g1, g2, g3, g4, g5, g6, trivial⟩, h12⟩

def p3 : Pt St where
  env s := [(1, (.pointer s.x_s)), (10, (.int .i64 s.x_ok)), (11, (.int .i64 s.x_is))]
  fin e s K := getV e 1 fun v1 => asP v1 fun p1 => getV e 10 fun v2 => asI .i64 v2 fun n1 => getV e 11 fun v3 => asI .i64 v3 fun n2 => K { s with x_s := p1, x_ok := n1, x_is := n2 }
  ok := by
    intro e s K h0
    obtain ⟨w1, g1, h1⟩ := getV_elim h0
    obtain ⟨p1, rfl, h2⟩ := asP_elim h1
    obtain ⟨w2, g2, h3⟩ := getV_elim h2
    obtain ⟨n1, rfl, h4⟩ := asI_elim h3
    obtain ⟨w3, g3, h5⟩ := getV_elim h4
    obtain ⟨n2, rfl, h6⟩ := asI_elim h5
    exact ⟨_, ⟨g1, g2, g3, trivial⟩, h6⟩

def p4 : Pt St where
  env s := [(1, (.pointer s.x_s))]
  fin e s K := getV e 1 fun v1 => asP v1 fun p1 => K { s with x_s := p1 }
  ok := by
    intro e s K h0
    obtain ⟨w1, g1, h1⟩ := getV_elim h0
    obtain ⟨p1, rfl, h2⟩ := asP_elim h1
    exact ⟨_, ⟨g1, trivial⟩, h2⟩

def r0 (s : St) (h : Heap) (Q : St → Heap → Prop) : Prop :=
  Q s h

def r1 (s : St) (h : Heap) (Q : St → Heap → Prop) : Prop :=
  c_spec_S2Len s.x_src h fun r2 r3 r4 h1 =>
  Q { s with x_n := r2, x_used := r3, x_ok := r4 } h1

def r2 (s : St) (h : Heap) (Q : Bool → St → Heap → Prop) : Prop :=
  Q (s.x_ok == (0 : Int)) s h

def r3 (s : St) (h : Heap) (Q : St → Heap → Prop) : Prop :=
  Q { s with t6 := ⟨none, 0, 0⟩, t7 := (0 : Int) } h

def r4 (s : St) (h : Heap) (Q : Bool → St → Heap → Prop) : Prop :=
  Q (decide (s.x_n > (4194304 : Int))) s h

def r5 (s : St) (h : Heap) (Q : St → Heap → Prop) : Prop :=
  Q { s with t6 := ⟨none, 0, 0⟩, t7 := (2 : Int) } h

def r6 (s : St) (h : Heap) (Q : St → Heap → Prop) : Prop :=
  c_state_elements s.x_s s.x_src s.x_used s.x_n s.x_s2 h fun r2 h1 =>
  Q { s with x_is := r2 } h1

def r7 (s : St) (h : Heap) (Q : Bool → St → Heap → Prop) : Prop :=
  Q (s.x_is == (0 : Int)) s h

def r8 (s : St) (h : Heap) (Q : St → Heap → Prop) : Prop :=
  Q { s with t6 := ⟨none, 0, 0⟩, t7 := (0 : Int) } h

def r9 (s : St) (h : Heap) (Q : Bool → St → Heap → Prop) : Prop :=
  (if (s.x_is == (2 : Int)) = false then
  (Q (s.x_ok == (2 : Int)) s h)
  else
  (Q true s h))

def r10 (s : St) (h : Heap) (Q : St → Heap → Prop) : Prop :=
  Q { s with t6 := ⟨none, 0, 0⟩, t7 := (2 : Int) } h

def r11 (s : St) (h : Heap) (Q : St → Heap → Prop) : Prop :=
  ptrE s.x_s fun a1 =>
  ∃ (p2 : Option Addr) (n3 c4 : Nat), hcell h (Addr.add a1 0) = some (.slice p2 n3 c4) ∧
  Q { s with t6 := ⟨p2, n3, c4⟩, t7 := (1 : Int) } h

def k5 : Stm St := (.seq (.test r9 (.seq (.reg r10) .ret) .skip) (.seq (.reg r11) .ret))
def k4 : Stm St := (.seq (.test r7 (.seq (.reg r8) .ret) .skip) k5)
def k3 : Stm St := (.seq (.reg r6) k4)
def k2 : Stm St := (.seq (.test r4 (.seq (.reg r5) .ret) .skip) k3)
def k1 : Stm St := (.seq (.test r2 (.seq (.reg r3) .ret) .skip) k2)
def k0 : Stm St := (.seq (.reg r1) k1)

def stm : Stm St := (.seq (.reg r0) k0)

def ex : Ex → Pt St := fun _ => p0

set_option maxRecDepth 100000 in
theorem sim : Sim Pg 40 p1 (Tryd.f35.body.getD .skip) stm p0 ex :=
  (Sim.seq (Sim.reg (A := p1) (B := p1) (fun _ _ _ => by kernel_rfl))
  (Sim.seq (Sim.reg (A := p1) (B := p2) (fun _ _ _ => by kernel_rfl))
  (Sim.seq (Sim.test (A := p2) (B := p2) (fun _ _ _ => by kernel_rfl) (Sim.seq (Sim.reg (A := p2) (B := p0) (fun _ _ _ => by kernel_rfl))
  (Sim.ret (A := p0) (E := ex) (fun _ => ⟨rfl, rfl, trivial⟩)))
  (Sim.skip (A := p2)))
  (Sim.seq (Sim.test (A := p2) (B := p2) (fun _ _ _ => by kernel_rfl) (Sim.seq (Sim.reg (A := p2) (B := p0) (fun _ _ _ => by kernel_rfl))
  (Sim.ret (A := p0) (E := ex) (fun _ => ⟨rfl, rfl, trivial⟩)))
  (Sim.skip (A := p2)))
  (Sim.seq (Sim.reg (A := p2) (B := p3) (fun _ _ _ => by kernel_rfl))
  (Sim.seq (Sim.test (A := p3) (B := p3) (fun _ _ _ => by kernel_rfl) (Sim.seq (Sim.reg (A := p3) (B := p0) (fun _ _ _ => by kernel_rfl))
  (Sim.ret (A := p0) (E := ex) (fun _ => ⟨rfl, rfl, trivial⟩)))
  (Sim.skip (A := p3)))
  (Sim.seq (Sim.test (A := p3) (B := p4) (fun _ _ _ => by kernel_rfl) (Sim.seq (Sim.reg (A := p4) (B := p0) (fun _ _ _ => by kernel_rfl))
  (Sim.ret (A := p0) (E := ex) (fun _ => ⟨rfl, rfl, trivial⟩)))
  (Sim.skip (A := p4)))
  (Sim.seq (Sim.reg (A := p4) (B := p0) (fun _ _ _ => by kernel_rfl))
  (Sim.ret (A := p0) (E := ex) (fun _ => ⟨rfl, rfl, trivial⟩))))))))))

def init (x_src : Sl) (x_s : Option Addr) (x_s2 : Bool) : St := { x_src := x_src, x_s := x_s, x_s2 := x_s2, t6 := Sl.nil, t7 := 0, x_n := 0, x_used := 0, x_ok := 0, x_is := 0 }

/-- What is left of the results. -/
def res (K : Sl → Int → Heap → Prop) (s : St) (h1 : Heap) : Prop := K s.t6 s.t7 h1

/-- The call of 'pub-pemmican/spec.decoded'. -/
theorem calls (x_src : Sl) (x_s : Option Addr) (x_s2 : Bool) (h : Heap) (K : Sl → Int → Heap → Prop)
    (H : stm (init x_src x_s x_s2) h (endK (res K))) : c_spec_decoded x_src x_s x_s2 h K := by
  have hc : CallsH Pg 35 #[(.slice x_src.p x_src.n x_src.c), (.pointer x_s), (.bool x_s2)] h fun v h1 => asT v fun l1 => asC l1 fun v1 l2 => asS v1 fun p1 n1 c1 => asC l2 fun v2 l3 => asI .i64 v2 fun n2 => asN l3 (K ⟨p1, n1, c1⟩ n2 h1) :=
    callsH_of_sim (R := p0) (fn := Tryd.f35) (c := Tryd.f35.body.getD .skip) Tryd.func35 rfl Tryd.ntmps35 Tryd.call35 sim (init x_src x_s x_s2) (⟨rfl, rfl, rfl, trivial⟩) (Nat.le_of_ble_eq_true rfl) (fun _ => ⟨rfl, rfl, trivial⟩) rfl
      (res K) (fun _ _ => by kernel_rfl) H
  refine hc.mono ?_
  intro v hp H
  obtain ⟨l1, rfl, h1⟩ := asT_elim H
  obtain ⟨v1, l2, rfl, h2⟩ := asC_elim h1
  obtain ⟨p1, n1, c1, rfl, h3⟩ := asS_elim h2
  obtain ⟨v2, l3, rfl, h4⟩ := asC_elim h3
  obtain ⟨n2, rfl, h5⟩ := asI_elim h4
  obtain ⟨rfl, h6⟩ := asN_elim h5
  exact ⟨_, _, _, _, rfl, h6⟩

end M_spec_decoded

end Go.Proofs.YtibleenkgmkpmaaDoor

namespace Go.Proofs.YtibleenkgmkpmaaDoor
open Go Go.Vc Go.Proofs

namespace M_spec_S2Decode

structure St where
  x_src : Sl
  x_out : Sl
  x_ok : Int

def p0 : Pt St where
  env s := [(2, (.slice s.x_out.p s.x_out.n s.x_out.c)), (3, (.int .i64 s.x_ok))]
  fin e s K := getV e 2 fun v1 => asS v1 fun p1 n1 c1 => getV e 3 fun v2 => asI .i64 v2 fun n2 => K { s with x_out := ⟨p1, n1, c1⟩, x_ok := n2 }
  ok := by
    intro e s K h0
    obtain ⟨w1, g1, h1⟩ := getV_elim h0
    obtain ⟨p1, n1, c1, rfl, h2⟩ := asS_elim h1
    obtain ⟨w2, g2, h3⟩ := getV_elim h2
    obtain ⟨n2, rfl, h4⟩ := asI_elim h3
    exact ⟨_, ⟨g1, g2, trivial⟩, h4⟩

def p1 : Pt St where
  env s := [(0, (.slice s.x_src.p s.x_src.n s.x_src.c))]
  fin e s K := getV e 0 fun v1 => asS v1 fun p1 n1 c1 => K { s with x_src := ⟨p1, n1, c1⟩ }
  ok := by
    intro e s K h0
    obtain ⟨w1, g1, h1⟩ := getV_elim h0
    obtain ⟨p1, n1, c1, rfl, h2⟩ := asS_elim h1
    exact ⟨_, ⟨g1, trivial⟩, h2⟩

def r0 (s : St) (h : Heap) (Q : St → Heap → Prop) : Prop :=
  Q s h

def r1 (s : St) (h : Heap) (Q : St → Heap → Prop) : Prop :=
  withH (hnew h [(.slice none 0 0), (.slice none 0 0), (.int .i64 (0 : Int)), (.bool false)] 65) fun h1 =>
  c_spec_decoded s.x_src (some ⟨Array.size h, 0, none⟩) true h1 fun w3 r4 h2 =>
  Q { s with x_out := w3, x_ok := r4 } h2

def stm : Stm St := (.seq (.reg r0) (.seq (.reg r1) .ret))

def ex : Ex → Pt St := fun _ => p0

set_option maxRecDepth 100000 in
theorem sim : Sim Pg 10 p1 (Tryd.f13.body.getD .skip) stm p0 ex :=
  (Sim.seq (Sim.reg (A := p1) (B := p1) (fun _ _ _ => by kernel_rfl))
  (Sim.seq (Sim.reg (A := p1) (B := p0) (fun _ _ _ => by kernel_rfl))
  (Sim.ret (A := p0) (E := ex) (fun _ => ⟨rfl, rfl, trivial⟩))))

def init (x_src : Sl) : St := { x_src := x_src, x_out := Sl.nil, x_ok := 0 }

/-- What is left of the results. -/
def res (K : Sl → Int → Heap → Prop) (s : St) (h1 : Heap) : Prop := K s.x_out s.x_ok h1

/-- The call of 'pub-pemmican/spec.S2Decode'. -/
theorem calls (x_src : Sl) (h : Heap) (K : Sl → Int → Heap → Prop)
    (H : stm (init x_src) h (endK (res K))) : c_spec_S2Decode x_src h K := by
  have hc : CallsH Pg 13 #[(.slice x_src.p x_src.n x_src.c)] h fun v h1 => asT v fun l1 => asC l1 fun v1 l2 => asS v1 fun p1 n1 c1 => asC l2 fun v2 l3 => asI .i64 v2 fun n2 => asN l3 (K ⟨p1, n1, c1⟩ n2 h1) :=
    callsH_of_sim (R := p0) (fn := Tryd.f13) (c := Tryd.f13.body.getD .skip) Tryd.func13 rfl Tryd.ntmps13 Tryd.call13 sim (init x_src) (⟨rfl, trivial⟩) (Nat.le_of_ble_eq_true rfl) (fun _ => ⟨rfl, rfl, trivial⟩) rfl
      (res K) (fun _ _ => by kernel_rfl) H
  refine hc.mono ?_
  intro v hp H
  obtain ⟨l1, rfl, h1⟩ := asT_elim H
  obtain ⟨v1, l2, rfl, h2⟩ := asC_elim h1
  obtain ⟨p1, n1, c1, rfl, h3⟩ := asS_elim h2
  obtain ⟨v2, l3, rfl, h4⟩ := asC_elim h3
  obtain ⟨n2, rfl, h5⟩ := asI_elim h4
  obtain ⟨rfl, h6⟩ := asN_elim h5
  exact ⟨_, _, _, _, rfl, h6⟩

end M_spec_S2Decode

end Go.Proofs.YtibleenkgmkpmaaDoor

namespace Go.Proofs.YtibleenkgmkpmaaDoor
open Go Go.Vc Go.Proofs

namespace M_Decode

structure St where
  x_dst : Sl
  x_src : Sl
  t4 : Sl
  t5 : Value
  x_dLen : Int
  x_s : Int
  x_err : Value

def p0 : Pt St where
  env s := [(4, (.slice s.t4.p s.t4.n s.t4.c)), (5, s.t5)]
  fin e s K := getV e 4 fun v1 => asS v1 fun p1 n1 c1 => getV e 5 fun v2 => K { s with t4 := ⟨p1, n1, c1⟩, t5 := v2 }
  ok := by
    intro e s K h0
    obtain ⟨w1, g1, h1⟩ := getV_elim h0
    obtain ⟨p1, n1, c1, rfl, h2⟩ := asS_elim h1
    obtain ⟨w2, g2, h3⟩ := getV_elim h2
    exact ⟨_, ⟨g1, g2, trivial⟩, h3⟩

def p1 : Pt St where
  env s := [(0, (.slice s.x_dst.p s.x_dst.n s.x_dst.c)), (1, (.slice s.x_src.p s.x_src.n s.x_src.c))]
  fin e s K := getV e 0 fun v1 => asS v1 fun p1 n1 c1 => getV e 1 fun v2 => asS v2 fun p2 n2 c2 => K { s with x_dst := ⟨p1, n1, c1⟩, x_src := ⟨p2, n2, c2⟩ }
  ok := by
    intro e s K h0
    obtain ⟨w1, g1, h1⟩ := getV_elim h0
    obtain ⟨p1, n1, c1, rfl, h2⟩ := asS_elim h1
    obtain ⟨w2, g2, h3⟩ := getV_elim h2
    obtain ⟨p2, n2, c2, rfl, h4⟩ := asS_elim h3
    exact ⟨_, ⟨g1, g2, trivial⟩, h4⟩

def p2 : Pt St where
  env s := [(0, (.slice s.x_dst.p s.x_dst.n s.x_dst.c)), (1, (.slice s.x_src.p s.x_src.n s.x_src.c)), (6, (.int .i64 s.x_dLen)), (7, (.int .i64 s.x_s)), (8, s.x_err)]
  fin e s K := getV e 0 fun v1 => asS v1 fun p1 n1 c1 => getV e 1 fun v2 => asS v2 fun p2 n2 c2 => getV e 6 fun v3 => asI .i64 v3 fun n3 => getV e 7 fun v4 => asI .i64 v4 fun n4 => getV e 8 fun v5 => K { s with x_dst := ⟨p1, n1, c1⟩, x_src := ⟨p2, n2, c2⟩, x_dLen := n3, x_s := n4, x_err := v5 }
  ok := by
    intro e s K h0
    obtain ⟨w1, g1, h1⟩ := getV_elim h0
    obtain ⟨p1, n1, c1, rfl, h2⟩ := asS_elim h1
    obtain ⟨w2, g2, h3⟩ := getV_elim h2
    obtain ⟨p2, n2, c2, rfl, h4⟩ := asS_elim h3
    obtain ⟨w3, g3, h5⟩ := getV_elim h4
    obtain ⟨n3, rfl, h6⟩ := asI_elim h5
    obtain ⟨w4, g4, h7⟩ := getV_elim h6
    obtain ⟨n4, rfl, h8⟩ := asI_elim h7
    obtain ⟨w5, g5, h9⟩ := getV_elim h8
    exact ⟨_, ⟨g1, g2, g3, g4, g5, trivial⟩, h9⟩

def p3 : Pt St where
  env s := [(0, (.slice s.x_dst.p s.x_dst.n s.x_dst.c)), (1, (.slice s.x_src.p s.x_src.n s.x_src.c)), (6, (.int .i64 s.x_dLen)), (7, (.int .i64 s.x_s))]
  fin e s K := getV e 0 fun v1 => asS v1 fun p1 n1 c1 => getV e 1 fun v2 => asS v2 fun p2 n2 c2 => getV e 6 fun v3 => asI .i64 v3 fun n3 => getV e 7 fun v4 => asI .i64 v4 fun n4 => K { s with x_dst := ⟨p1, n1, c1⟩, x_src := ⟨p2, n2, c2⟩, x_dLen := n3, x_s := n4 }
  ok := by
    intro e s K h0
    obtain ⟨w1, g1, h1⟩ := getV_elim h0
    obtain ⟨p1, n1, c1, rfl, h2⟩ := asS_elim h1
    obtain ⟨w2, g2, h3⟩ := getV_elim h2
    obtain ⟨p2, n2, c2, rfl, h4⟩ := asS_elim h3
    obtain ⟨w3, g3, h5⟩ := getV_elim h4
    obtain ⟨n3, rfl, h6⟩ := asI_elim h5
    obtain ⟨w4, g4, h7⟩ := getV_elim h6
    obtain ⟨n4, rfl, h8⟩ := asI_elim h7
    exact ⟨_, ⟨g1, g2, g3, g4, trivial⟩, h8⟩

def p4 : Pt St where
  env s := [(0, (.slice s.x_dst.p s.x_dst.n s.x_dst.c)), (1, (.slice s.x_src.p s.x_src.n s.x_src.c)), (7, (.int .i64 s.x_s))]
  fin e s K := getV e 0 fun v1 => asS v1 fun p1 n1 c1 => getV e 1 fun v2 => asS v2 fun p2 n2 c2 => getV e 7 fun v3 => asI .i64 v3 fun n3 => K { s with x_dst := ⟨p1, n1, c1⟩, x_src := ⟨p2, n2, c2⟩, x_s := n3 }
  ok := by
    intro e s K h0
    obtain ⟨w1, g1, h1⟩ := getV_elim h0
    obtain ⟨p1, n1, c1, rfl, h2⟩ := asS_elim h1
    obtain ⟨w2, g2, h3⟩ := getV_elim h2
    obtain ⟨p2, n2, c2, rfl, h4⟩ := asS_elim h3
    obtain ⟨w3, g3, h5⟩ := getV_elim h4
    obtain ⟨n3, rfl, h6⟩ := asI_elim h5
    exact ⟨_, ⟨g1, g2, g3, trivial⟩, h6⟩

def p5 : Pt St where
  env s := [(0, (.slice s.x_dst.p s.x_dst.n s.x_dst.c))]
  fin e s K := getV e 0 fun v1 => asS v1 fun p1 n1 c1 => K { s with x_dst := ⟨p1, n1, c1⟩ }
  ok := by
    intro e s K h0
    obtain ⟨w1, g1, h1⟩ := getV_elim h0
    obtain ⟨p1, n1, c1, rfl, h2⟩ := asS_elim h1
    exact ⟨_, ⟨g1, trivial⟩, h2⟩

def r0 (s : St) (h : Heap) (Q : St → Heap → Prop) : Prop :=
  Q s h

def r1 (s : St) (h : Heap) (Q : St → Heap → Prop) : Prop :=
  c_decodedLen s.x_src h fun r2 r3 u4 h1 =>
  Q { s with x_dLen := r2, x_s := r3, x_err := u4 } h1

def r2 (s : St) (h : Heap) (Q : Bool → St → Heap → Prop) : Prop :=
  nilE s.x_err fun b1 =>
  Q (!b1) s h

def r3 (s : St) (h : Heap) (Q : St → Heap → Prop) : Prop :=
  Q { s with t4 := ⟨none, 0, 0⟩, t5 := s.x_err } h

def r4 (s : St) (h : Heap) (Q : Bool → St → Heap → Prop) : Prop :=
  Q (decide (s.x_dLen ≤ ((s.x_dst.c : Nat) : Int))) s h

def r5 (s : St) (h : Heap) (Q : St → Heap → Prop) : Prop :=
  0 ≤ s.x_dLen ∧ s.x_dLen ≤ ((s.x_dst.c : Nat) : Int) ∧
  Q { s with x_dst := ⟨(subP s.x_dst.p 0 s.x_dst.c 1), ((Int.toNat s.x_dLen) - 0), (s.x_dst.c - 0)⟩ } h

def r6 (s : St) (h : Heap) (Q : St → Heap → Prop) : Prop :=
  mkT Pg 5 s.x_dLen s.x_dLen h fun a1 n2 c3 h4 =>
  Q { s with x_dst := ⟨(some a1), n2, c3⟩ } h4

def r7 (s : St) (h : Heap) (Q : St → Heap → Prop) : Prop :=
  c_WriteSlice s.x_dst h fun h1 =>
  Q s h1

def r8 (s : St) (h : Heap) (Q : St → Heap → Prop) : Prop :=
  0 ≤ s.x_s ∧ s.x_s ≤ ((s.x_src.n : Nat) : Int) ∧
  c_ReadSlice ⟨(subP s.x_src.p (Int.toNat s.x_s) s.x_src.c 1), (s.x_src.n - (Int.toNat s.x_s)), (s.x_src.c - (Int.toNat s.x_s))⟩ h fun h1 =>
  Q s h1

def r9 (s : St) (h : Heap) (Q : Bool → St → Heap → Prop) : Prop :=
  0 ≤ s.x_s ∧ s.x_s ≤ ((s.x_src.n : Nat) : Int) ∧
  c_s2Decode s.x_dst ⟨(subP s.x_src.p (Int.toNat s.x_s) s.x_src.c 1), (s.x_src.n - (Int.toNat s.x_s)), (s.x_src.c - (Int.toNat s.x_s))⟩ h fun r2 h1 =>
  Q (r2 != (0 : Int)) s h1

def r10 (s : St) (h : Heap) (Q : St → Heap → Prop) : Prop :=
  ∃ u1 : Value, hcell h ⟨0, 0, none⟩ = some u1 ∧
  Q { s with t4 := ⟨none, 0, 0⟩, t5 := u1 } h

def r11 (s : St) (h : Heap) (Q : St → Heap → Prop) : Prop :=
  Q { s with t4 := s.x_dst, t5 := .nilIface } h

def k5 : Stm St := (.seq (.test r9 (.seq (.reg r10) .ret) .skip) (.seq (.reg r11) .ret))
def k4 : Stm St := (.seq (.reg r8) k5)
def k3 : Stm St := (.seq (.reg r7) k4)
def k2 : Stm St := (.seq (.test r4 (.reg r5) (.reg r6)) k3)
def k1 : Stm St := (.seq (.test r2 (.seq (.reg r3) .ret) .skip) k2)
def k0 : Stm St := (.seq (.reg r1) k1)

def stm : Stm St := (.seq (.reg r0) k0)

def ex : Ex → Pt St := fun _ => p0

set_option maxRecDepth 100000 in
theorem sim : Sim Pg 41 p1 (Tryd.f37.body.getD .skip) stm p0 ex :=
  (Sim.seq (Sim.reg (A := p1) (B := p1) (fun _ _ _ => by kernel_rfl))
  (Sim.seq (Sim.reg (A := p1) (B := p2) (fun _ _ _ => by kernel_rfl))
  (Sim.seq (Sim.test (A := p2) (B := p2) (fun _ _ _ => by kernel_rfl) (Sim.seq (Sim.reg (A := p2) (B := p0) (fun _ _ _ => by kernel_rfl))
  (Sim.ret (A := p0) (E := ex) (fun _ => ⟨rfl, rfl, trivial⟩)))
  (Sim.weak (B := p2) (C := p3) (Sim.skip (A := p2)) (fun _ => ⟨rfl, rfl, rfl, rfl, trivial⟩)))
  (Sim.seq (Sim.test (A := p3) (B := p3) (fun _ _ _ => by kernel_rfl) (Sim.reg (A := p3) (B := p4) (fun _ _ _ => by kernel_rfl))
  (Sim.reg (A := p3) (B := p4) (fun _ _ _ => by kernel_rfl)))
  (Sim.seq (Sim.reg (A := p4) (B := p4) (fun _ _ _ => by kernel_rfl))
  (Sim.seq (Sim.reg (A := p4) (B := p4) (fun _ _ _ => by kernel_rfl))
  (Sim.seq (Sim.test (A := p4) (B := p5) (fun _ _ _ => by kernel_rfl) (Sim.seq (Sim.reg (A := p5) (B := p0) (fun _ _ _ => by kernel_rfl))
  (Sim.ret (A := p0) (E := ex) (fun _ => ⟨rfl, rfl, trivial⟩)))
  (Sim.skip (A := p5)))
  (Sim.seq (Sim.reg (A := p5) (B := p0) (fun _ _ _ => by kernel_rfl))
  (Sim.ret (A := p0) (E := ex) (fun _ => ⟨rfl, rfl, trivial⟩))))))))))

def init (x_dst : Sl) (x_src : Sl) : St := { x_dst := x_dst, x_src := x_src, t4 := Sl.nil, t5 := undef, x_dLen := 0, x_s := 0, x_err := undef }

/-- What is left of the results. -/
def res (K : Sl → Value → Heap → Prop) (s : St) (h1 : Heap) : Prop := K s.t4 s.t5 h1

/-- The call of 'pub-pemmican/pub/compress/s2.Decode'. -/
theorem calls (x_dst : Sl) (x_src : Sl) (h : Heap) (K : Sl → Value → Heap → Prop)
    (H : stm (init x_dst x_src) h (endK (res K))) : c_Decode x_dst x_src h K := by
  have hc : CallsH Pg 37 #[(.slice x_dst.p x_dst.n x_dst.c), (.slice x_src.p x_src.n x_src.c)] h fun v h1 => asT v fun l1 => asC l1 fun v1 l2 => asS v1 fun p1 n1 c1 => asC l2 fun v2 l3 => asN l3 (K ⟨p1, n1, c1⟩ v2 h1) :=
    callsH_of_sim (R := p0) (fn := Tryd.f37) (c := Tryd.f37.body.getD .skip) Tryd.func37 rfl Tryd.ntmps37 Tryd.call37 sim (init x_dst x_src) (⟨rfl, rfl, trivial⟩) (Nat.le_of_ble_eq_true rfl) (fun _ => ⟨rfl, rfl, trivial⟩) rfl
      (res K) (fun _ _ => by kernel_rfl) H
  refine hc.mono ?_
  intro v hp H
  obtain ⟨l1, rfl, h1⟩ := asT_elim H
  obtain ⟨v1, l2, rfl, h2⟩ := asC_elim h1
  obtain ⟨p1, n1, c1, rfl, h3⟩ := asS_elim h2
  obtain ⟨v2, l3, rfl, h4⟩ := asC_elim h3
  obtain ⟨rfl, h5⟩ := asN_elim h4
  exact ⟨_, _, _, _, rfl, h5⟩

end M_Decode

end Go.Proofs.YtibleenkgmkpmaaDoor

namespace Go.Proofs.YtibleenkgmkpmaaDoor
open Go Go.Vc Go.Proofs

namespace M_WriteSlice

structure St where
  x_s : Sl

def p0 : Pt St where
  env s := []
  fin e s K := K s
  ok := by
    intro e s K h0
    exact ⟨_, trivial, h0⟩

def stm : Stm St := .skip

def ex : Ex → Pt St := fun _ => p0

set_option maxRecDepth 100000 in
theorem sim : Sim Pg 2 p0 (Tryd.f57.body.getD .skip) stm p0 ex :=
  (Sim.skip (A := p0))

def init (x_s : Sl) : St := { x_s := x_s }

/-- What is left of the results. -/
def res (K : Heap → Prop) (s : St) (h1 : Heap) : Prop := K h1

/-- The call of 'pub-pemmican/pub/compress/inner/race.WriteSlice[byte]'. -/
theorem calls (x_s : Sl) (h : Heap) (K : Heap → Prop)
    (H : stm (init x_s) h (endK (res K))) : c_WriteSlice x_s h K := by
  have hc : CallsH Pg 57 #[(.slice x_s.p x_s.n x_s.c)] h fun v h1 => asT v fun l1 => asN l1 (K h1) :=
    callsH_of_sim (R := p0) (fn := Tryd.f57) (c := Tryd.f57.body.getD .skip) Tryd.func57 rfl Tryd.ntmps57 Tryd.call57 sim (init x_s) (trivial) (Nat.le_of_ble_eq_true rfl) (fun _ => trivial) rfl
      (res K) (fun _ _ => by kernel_rfl) H
  refine hc.mono ?_
  intro v hp H
  obtain ⟨l1, rfl, h1⟩ := asT_elim H
  obtain ⟨rfl, h2⟩ := asN_elim h1
  exact ⟨rfl, h2⟩

end M_WriteSlice

end Go.Proofs.YtibleenkgmkpmaaDoor

namespace Go.Proofs.YtibleenkgmkpmaaDoor
open Go Go.Vc Go.Proofs

namespace M_ReadSlice

structure St where
  x_s : Sl

def p0 : Pt St where
  env s := []
  fin e s K := K s
  ok := by
    intro e s K h0
    exact ⟨_, trivial, h0⟩

def stm : Stm St := .skip

def ex : Ex → Pt St := fun _ => p0

set_option maxRecDepth 100000 in
theorem sim : Sim Pg 2 p0 (Tryd.f58.body.getD .skip) stm p0 ex :=
  (Sim.skip (A := p0))

def init (x_s : Sl) : St := { x_s := x_s }

/-- What is left of the results. -/
def res (K : Heap → Prop) (s : St) (h1 : Heap) : Prop := K h1

/-- The call of 'pub-pemmican/pub/compress/inner/race.ReadSlice[byte]'. -/
theorem calls (x_s : Sl) (h : Heap) (K : Heap → Prop)
    (H : stm (init x_s) h (endK (res K))) : c_ReadSlice x_s h K := by
  have hc : CallsH Pg 58 #[(.slice x_s.p x_s.n x_s.c)] h fun v h1 => asT v fun l1 => asN l1 (K h1) :=
    callsH_of_sim (R := p0) (fn := Tryd.f58) (c := Tryd.f58.body.getD .skip) Tryd.func58 rfl Tryd.ntmps58 Tryd.call58 sim (init x_s) (trivial) (Nat.le_of_ble_eq_true rfl) (fun _ => trivial) rfl
      (res K) (fun _ _ => by kernel_rfl) H
  refine hc.mono ?_
  intro v hp H
  obtain ⟨l1, rfl, h1⟩ := asT_elim H
  obtain ⟨rfl, h2⟩ := asN_elim h1
  exact ⟨rfl, h2⟩

end M_ReadSlice

end Go.Proofs.YtibleenkgmkpmaaDoor

namespace Go.Proofs.YtibleenkgmkpmaaDoor
open Go Go.Vc Go.Proofs

namespace M_impl_S2Decode

structure St where
  x_src : Sl
  t2 : Sl
  t3 : Bool

def p0 : Pt St where
  env s := [(2, (.slice s.t2.p s.t2.n s.t2.c)), (3, (.bool s.t3))]
  fin e s K := getV e 2 fun v1 => asS v1 fun p1 n1 c1 => getV e 3 fun v2 => asB v2 fun b1 => K { s with t2 := ⟨p1, n1, c1⟩, t3 := b1 }
  ok := by
    intro e s K h0
    obtain ⟨w1, g1, h1⟩ := getV_elim h0
    obtain ⟨p1, n1, c1, rfl, h2⟩ := asS_elim h1
    obtain ⟨w2, g2, h3⟩ := getV_elim h2
    obtain ⟨b1, rfl, h4⟩ := asB_elim h3
    exact ⟨_, ⟨g1, g2, trivial⟩, h4⟩

def p1 : Pt St where
  env s := [(0, (.slice s.x_src.p s.x_src.n s.x_src.c))]
  fin e s K := getV e 0 fun v1 => asS v1 fun p1 n1 c1 => K { s with x_src := ⟨p1, n1, c1⟩ }
  ok := by
    intro e s K h0
    obtain ⟨w1, g1, h1⟩ := getV_elim h0
    obtain ⟨p1, n1, c1, rfl, h2⟩ := asS_elim h1
    exact ⟨_, ⟨g1, trivial⟩, h2⟩

def r0 (s : St) (h : Heap) (Q : St → Heap → Prop) : Prop :=
  Q s h

def r1 (s : St) (h : Heap) (Q : St → Heap → Prop) : Prop :=
  c_Decode ⟨none, 0, 0⟩ s.x_src h fun w2 u3 h1 =>
  c_impl_told w2 u3 h1 fun w5 b6 h4 =>
  Q { s with t2 := w5, t3 := b6 } h4

def stm : Stm St := (.seq (.reg r0) (.seq (.reg r1) .ret))

def ex : Ex → Pt St := fun _ => p0

set_option maxRecDepth 100000 in
theorem sim : Sim Pg 11 p1 (Tryd.f14.body.getD .skip) stm p0 ex :=
  (Sim.seq (Sim.reg (A := p1) (B := p1) (fun _ _ _ => by kernel_rfl))
  (Sim.seq (Sim.reg (A := p1) (B := p0) (fun _ _ _ => by kernel_rfl))
  (Sim.ret (A := p0) (E := ex) (fun _ => ⟨rfl, rfl, trivial⟩))))

def init (x_src : Sl) : St := { x_src := x_src, t2 := Sl.nil, t3 := false }

/-- What is left of the results. -/
def res (K : Sl → Bool → Heap → Prop) (s : St) (h1 : Heap) : Prop := K s.t2 s.t3 h1

/-- The call of 'pub-pemmican/impl.S2Decode'. -/
theorem calls (x_src : Sl) (h : Heap) (K : Sl → Bool → Heap → Prop)
    (H : stm (init x_src) h (endK (res K))) : c_impl_S2Decode x_src h K := by
  have hc : CallsH Pg 14 #[(.slice x_src.p x_src.n x_src.c)] h fun v h1 => asT v fun l1 => asC l1 fun v1 l2 => asS v1 fun p1 n1 c1 => asC l2 fun v2 l3 => asB v2 fun b1 => asN l3 (K ⟨p1, n1, c1⟩ b1 h1) :=
    callsH_of_sim (R := p0) (fn := Tryd.f14) (c := Tryd.f14.body.getD .skip) Tryd.func14 rfl Tryd.ntmps14 Tryd.call14 sim (init x_src) (⟨rfl, trivial⟩) (Nat.le_of_ble_eq_true rfl) (fun _ => ⟨rfl, rfl, trivial⟩) rfl
      (res K) (fun _ _ => by kernel_rfl) H
  refine hc.mono ?_
  intro v hp H
  obtain ⟨l1, rfl, h1⟩ := asT_elim H
  obtain ⟨v1, l2, rfl, h2⟩ := asC_elim h1
  obtain ⟨p1, n1, c1, rfl, h3⟩ := asS_elim h2
  obtain ⟨v2, l3, rfl, h4⟩ := asC_elim h3
  obtain ⟨b1, rfl, h5⟩ := asB_elim h4
  obtain ⟨rfl, h6⟩ := asN_elim h5
  exact ⟨_, _, _, _, rfl, h6⟩

end M_impl_S2Decode

end Go.Proofs.YtibleenkgmkpmaaDoor

namespace Go.Proofs.YtibleenkgmkpmaaDoor
open Go Go.Vc Go.Proofs

namespace M_impl_told

structure St where
  x_b : Sl
  x_err : Value
  t4 : Sl
  t5 : Bool

def p0 : Pt St where
  env s := [(4, (.slice s.t4.p s.t4.n s.t4.c)), (5, (.bool s.t5))]
  fin e s K := getV e 4 fun v1 => asS v1 fun p1 n1 c1 => getV e 5 fun v2 => asB v2 fun b1 => K { s with t4 := ⟨p1, n1, c1⟩, t5 := b1 }
  ok := by
    intro e s K h0
    obtain ⟨w1, g1, h1⟩ := getV_elim h0
    obtain ⟨p1, n1, c1, rfl, h2⟩ := asS_elim h1
    obtain ⟨w2, g2, h3⟩ := getV_elim h2
    obtain ⟨b1, rfl, h4⟩ := asB_elim h3
    exact ⟨_, ⟨g1, g2, trivial⟩, h4⟩

def p1 : Pt St where
  env s := [(0, (.slice s.x_b.p s.x_b.n s.x_b.c)), (1, s.x_err)]
  fin e s K := getV e 0 fun v1 => asS v1 fun p1 n1 c1 => getV e 1 fun v2 => K { s with x_b := ⟨p1, n1, c1⟩, x_err := v2 }
  ok := by
    intro e s K h0
    obtain ⟨w1, g1, h1⟩ := getV_elim h0
    obtain ⟨p1, n1, c1, rfl, h2⟩ := asS_elim h1
    obtain ⟨w2, g2, h3⟩ := getV_elim h2
    exact ⟨_, ⟨g1, g2, trivial⟩, h3⟩

def p2 : Pt St where
  env s := [(0, (.slice s.x_b.p s.x_b.n s.x_b.c))]
  fin e s K := getV e 0 fun v1 => asS v1 fun p1 n1 c1 => K { s with x_b := ⟨p1, n1, c1⟩ }
  ok := by
    intro e s K h0
    obtain ⟨w1, g1, h1⟩ := getV_elim h0
    obtain ⟨p1, n1, c1, rfl, h2⟩ := asS_elim h1
    exact ⟨_, ⟨g1, trivial⟩, h2⟩

def r0 (s : St) (h : Heap) (Q : St → Heap → Prop) : Prop :=
  Q s h

def r1 (s : St) (h : Heap) (Q : Bool → St → Heap → Prop) : Prop :=
  nilE s.x_err fun b1 =>
  Q (!b1) s h

def r2 (s : St) (h : Heap) (Q : St → Heap → Prop) : Prop :=
  Q { s with t4 := ⟨none, 0, 0⟩, t5 := false } h

def r3 (s : St) (h : Heap) (Q : St → Heap → Prop) : Prop :=
  c_impl_copied s.x_b h fun w2 h1 =>
  Q { s with t4 := w2, t5 := true } h1

def k0 : Stm St := (.seq (.test r1 (.seq (.reg r2) .ret) .skip) (.seq (.reg r3) .ret))

def stm : Stm St := (.seq (.reg r0) k0)

def ex : Ex → Pt St := fun _ => p0

set_option maxRecDepth 100000 in
theorem sim : Sim Pg 10 p1 (Tryd.f36.body.getD .skip) stm p0 ex :=
  (Sim.seq (Sim.reg (A := p1) (B := p1) (fun _ _ _ => by kernel_rfl))
  (Sim.seq (Sim.test (A := p1) (B := p2) (fun _ _ _ => by kernel_rfl) (Sim.seq (Sim.reg (A := p2) (B := p0) (fun _ _ _ => by kernel_rfl))
  (Sim.ret (A := p0) (E := ex) (fun _ => ⟨rfl, rfl, trivial⟩)))
  (Sim.skip (A := p2)))
  (Sim.seq (Sim.reg (A := p2) (B := p0) (fun _ _ _ => by kernel_rfl))
  (Sim.ret (A := p0) (E := ex) (fun _ => ⟨rfl, rfl, trivial⟩)))))

def init (x_b : Sl) (x_err : Value) : St := { x_b := x_b, x_err := x_err, t4 := Sl.nil, t5 := false }

/-- What is left of the results. -/
def res (K : Sl → Bool → Heap → Prop) (s : St) (h1 : Heap) : Prop := K s.t4 s.t5 h1

/-- The call of 'pub-pemmican/impl.told'. -/
theorem calls (x_b : Sl) (x_err : Value) (h : Heap) (K : Sl → Bool → Heap → Prop)
    (H : stm (init x_b x_err) h (endK (res K))) : c_impl_told x_b x_err h K := by
  have hc : CallsH Pg 36 #[(.slice x_b.p x_b.n x_b.c), x_err] h fun v h1 => asT v fun l1 => asC l1 fun v1 l2 => asS v1 fun p1 n1 c1 => asC l2 fun v2 l3 => asB v2 fun b1 => asN l3 (K ⟨p1, n1, c1⟩ b1 h1) :=
    callsH_of_sim (R := p0) (fn := Tryd.f36) (c := Tryd.f36.body.getD .skip) Tryd.func36 rfl Tryd.ntmps36 Tryd.call36 sim (init x_b x_err) (⟨rfl, rfl, trivial⟩) (Nat.le_of_ble_eq_true rfl) (fun _ => ⟨rfl, rfl, trivial⟩) rfl
      (res K) (fun _ _ => by kernel_rfl) H
  refine hc.mono ?_
  intro v hp H
  obtain ⟨l1, rfl, h1⟩ := asT_elim H
  obtain ⟨v1, l2, rfl, h2⟩ := asC_elim h1
  obtain ⟨p1, n1, c1, rfl, h3⟩ := asS_elim h2
  obtain ⟨v2, l3, rfl, h4⟩ := asC_elim h3
  obtain ⟨b1, rfl, h5⟩ := asB_elim h4
  obtain ⟨rfl, h6⟩ := asN_elim h5
  exact ⟨_, _, _, _, rfl, h6⟩

end M_impl_told

end Go.Proofs.YtibleenkgmkpmaaDoor

namespace Go.Proofs.YtibleenkgmkpmaaDoor
open Go Go.Vc Go.Proofs

namespace M_impl_copied

structure St where
  x_b : Sl
  t2 : Sl

def p0 : Pt St where
  env s := [(2, (.slice s.t2.p s.t2.n s.t2.c))]
  fin e s K := getV e 2 fun v1 => asS v1 fun p1 n1 c1 => K { s with t2 := ⟨p1, n1, c1⟩ }
  ok := by
    intro e s K h0
    obtain ⟨w1, g1, h1⟩ := getV_elim h0
    obtain ⟨p1, n1, c1, rfl, h2⟩ := asS_elim h1
    exact ⟨_, ⟨g1, trivial⟩, h2⟩

def p1 : Pt St where
  env s := [(0, (.slice s.x_b.p s.x_b.n s.x_b.c))]
  fin e s K := getV e 0 fun v1 => asS v1 fun p1 n1 c1 => K { s with x_b := ⟨p1, n1, c1⟩ }
  ok := by
    intro e s K h0
    obtain ⟨w1, g1, h1⟩ := getV_elim h0
    obtain ⟨p1, n1, c1, rfl, h2⟩ := asS_elim h1
    exact ⟨_, ⟨g1, trivial⟩, h2⟩

def r0 (s : St) (h : Heap) (Q : St → Heap → Prop) : Prop :=
  Q s h

def r1 (s : St) (h : Heap) (Q : St → Heap → Prop) : Prop :=
  withH (hnew h [] 5) fun h1 =>
  appendT Pg 5 (some ⟨Array.size h, 0, none⟩) 0 0 (.slice s.x_b.p s.x_b.n s.x_b.c) s.x_b.n h1 fun p2 n3 c4 h5 =>
  Q { s with t2 := ⟨p2, n3, c4⟩ } h5

def stm : Stm St := (.seq (.reg r0) (.seq (.reg r1) .ret))

def ex : Ex → Pt St := fun _ => p0

set_option maxRecDepth 100000 in
theorem sim : Sim Pg 6 p1 (Tryd.f45.body.getD .skip) stm p0 ex :=
  (Sim.seq (Sim.reg (A := p1) (B := p1) (fun _ _ _ => by kernel_rfl))
  (Sim.seq (Sim.reg (A := p1) (B := p0) (fun _ _ _ => by kernel_rfl))
  (Sim.ret (A := p0) (E := ex) (fun _ => ⟨rfl, trivial⟩))))

def init (x_b : Sl) : St := { x_b := x_b, t2 := Sl.nil }

/-- What is left of the results. -/
def res (K : Sl → Heap → Prop) (s : St) (h1 : Heap) : Prop := K s.t2 h1

/-- The call of 'pub-pemmican/impl.copied'. -/
theorem calls (x_b : Sl) (h : Heap) (K : Sl → Heap → Prop)
    (H : stm (init x_b) h (endK (res K))) : c_impl_copied x_b h K := by
  have hc : CallsH Pg 45 #[(.slice x_b.p x_b.n x_b.c)] h fun v h1 => asS v fun p1 n1 c1 => K ⟨p1, n1, c1⟩ h1 :=
    callsH_of_sim (R := p0) (fn := Tryd.f45) (c := Tryd.f45.body.getD .skip) Tryd.func45 rfl Tryd.ntmps45 Tryd.call45 sim (init x_b) (⟨rfl, trivial⟩) (Nat.le_of_ble_eq_true rfl) (fun _ => ⟨rfl, trivial⟩) rfl
      (res K) (fun _ _ => by kernel_rfl) H
  refine hc.mono ?_
  intro v hp H
  obtain ⟨p1, n1, c1, rfl, h1⟩ := asS_elim H
  exact ⟨_, _, _, rfl, h1⟩

end M_impl_copied

end Go.Proofs.YtibleenkgmkpmaaDoor

namespace Go.Proofs.YtibleenkgmkpmaaDoor
open Go Go.Vc Go.Proofs

namespace M_laws_eq

structure St where
  x_a : Sl
  x_b : Sl
  t4 : Bool
  x_i : Int
  t12 : Int
  t13 : Int
  t14 : Bool

def p0 : Pt St where
  env s := [(4, (.bool s.t4))]
  fin e s K := getV e 4 fun v1 => asB v1 fun b1 => K { s with t4 := b1 }
  ok := by
    intro e s K h0
    obtain ⟨w1, g1, h1⟩ := getV_elim h0
    obtain ⟨b1, rfl, h2⟩ := asB_elim h1
    exact ⟨_, ⟨g1, trivial⟩, h2⟩

def p1 : Pt St where
  env s := [(0, (.slice s.x_a.p s.x_a.n s.x_a.c)), (1, (.slice s.x_b.p s.x_b.n s.x_b.c))]
  fin e s K := getV e 0 fun v1 => asS v1 fun p1 n1 c1 => getV e 1 fun v2 => asS v2 fun p2 n2 c2 => K { s with x_a := ⟨p1, n1, c1⟩, x_b := ⟨p2, n2, c2⟩ }
  ok := by
    intro e s K h0
    obtain ⟨w1, g1, h1⟩ := getV_elim h0
    obtain ⟨p1, n1, c1, rfl, h2⟩ := asS_elim h1
    obtain ⟨w2, g2, h3⟩ := getV_elim h2
    obtain ⟨p2, n2, c2, rfl, h4⟩ := asS_elim h3
    exact ⟨_, ⟨g1, g2, trivial⟩, h4⟩

def p2 : Pt St where
  env s := [(0, (.slice s.x_a.p s.x_a.n s.x_a.c)), (1, (.slice s.x_b.p s.x_b.n s.x_b.c)), (12, (.int .i64 s.t12)), (13, (.int .i64 s.t13))]
  fin e s K := getV e 0 fun v1 => asS v1 fun p1 n1 c1 => getV e 1 fun v2 => asS v2 fun p2 n2 c2 => getV e 12 fun v3 => asI .i64 v3 fun n3 => getV e 13 fun v4 => asI .i64 v4 fun n4 => K { s with x_a := ⟨p1, n1, c1⟩, x_b := ⟨p2, n2, c2⟩, t12 := n3, t13 := n4 }
  ok := by
    intro e s K h0
    obtain ⟨w1, g1, h1⟩ := getV_elim h0
    obtain ⟨p1, n1, c1, rfl, h2⟩ := asS_elim h1
    obtain ⟨w2, g2, h3⟩ := getV_elim h2
    obtain ⟨p2, n2, c2, rfl, h4⟩ := asS_elim h3
    obtain ⟨w3, g3, h5⟩ := getV_elim h4
    obtain ⟨n3, rfl, h6⟩ := asI_elim h5
    obtain ⟨w4, g4, h7⟩ := getV_elim h6
    obtain ⟨n4, rfl, h8⟩ := asI_elim h7
    exact ⟨_, ⟨g1, g2, g3, g4, trivial⟩, h8⟩

def p3 : Pt St where
  env s := []
  fin e s K := K s
  ok := by
    intro e s K h0
    exact ⟨_, trivial, h0⟩

def p4 : Pt St where
  env s := [(0, (.slice s.x_a.p s.x_a.n s.x_a.c)), (1, (.slice s.x_b.p s.x_b.n s.x_b.c)), (12, (.int .i64 s.t12)), (13, (.int .i64 s.t13)), (14, (.bool s.t14))]
  fin e s K := getV e 0 fun v1 => asS v1 fun p1 n1 c1 => getV e 1 fun v2 => asS v2 fun p2 n2 c2 => getV e 12 fun v3 => asI .i64 v3 fun n3 => getV e 13 fun v4 => asI .i64 v4 fun n4 => getV e 14 fun v5 => asB v5 fun b1 => K { s with x_a := ⟨p1, n1, c1⟩, x_b := ⟨p2, n2, c2⟩, t12 := n3, t13 := n4, t14 := b1 }
  ok := by
    intro e s K h0
    obtain ⟨w1, g1, h1⟩ := getV_elim h0
    obtain ⟨p1, n1, c1, rfl, h2⟩ := asS_elim h1
    obtain ⟨w2, g2, h3⟩ := getV_elim h2
    obtain ⟨p2, n2, c2, rfl, h4⟩ := asS_elim h3
    obtain ⟨w3, g3, h5⟩ := getV_elim h4
    obtain ⟨n3, rfl, h6⟩ := asI_elim h5
    obtain ⟨w4, g4, h7⟩ := getV_elim h6
    obtain ⟨n4, rfl, h8⟩ := asI_elim h7
    obtain ⟨w5, g5, h9⟩ := getV_elim h8
    obtain ⟨b1, rfl, h10⟩ := asB_elim h9
    exact ⟨_, ⟨g1, g2, g3, g4, g5, trivial⟩, h10⟩

def p5 : Pt St where
  env s := [(0, (.slice s.x_a.p s.x_a.n s.x_a.c)), (1, (.slice s.x_b.p s.x_b.n s.x_b.c)), (5, (.int .i64 s.x_i)), (12, (.int .i64 s.t12)), (13, (.int .i64 s.t13))]
  fin e s K := getV e 0 fun v1 => asS v1 fun p1 n1 c1 => getV e 1 fun v2 => asS v2 fun p2 n2 c2 => getV e 5 fun v3 => asI .i64 v3 fun n3 => getV e 12 fun v4 => asI .i64 v4 fun n4 => getV e 13 fun v5 => asI .i64 v5 fun n5 => K { s with x_a := ⟨p1, n1, c1⟩, x_b := ⟨p2, n2, c2⟩, x_i := n3, t12 := n4, t13 := n5 }
  ok := by
    intro e s K h0
    obtain ⟨w1, g1, h1⟩ := getV_elim h0
    obtain ⟨p1, n1, c1, rfl, h2⟩ := asS_elim h1
    obtain ⟨w2, g2, h3⟩ := getV_elim h2
    obtain ⟨p2, n2, c2, rfl, h4⟩ := asS_elim h3
    obtain ⟨w3, g3, h5⟩ := getV_elim h4
    obtain ⟨n3, rfl, h6⟩ := asI_elim h5
    obtain ⟨w4, g4, h7⟩ := getV_elim h6
    obtain ⟨n4, rfl, h8⟩ := asI_elim h7
    obtain ⟨w5, g5, h9⟩ := getV_elim h8
    obtain ⟨n5, rfl, h10⟩ := asI_elim h9
    exact ⟨_, ⟨g1, g2, g3, g4, g5, trivial⟩, h10⟩

def r0 (s : St) (h : Heap) (Q : St → Heap → Prop) : Prop :=
  Q s h

def r1 (s : St) (h : Heap) (Q : Bool → St → Heap → Prop) : Prop :=
  Q (((s.x_a.n : Nat) : Int) != ((s.x_b.n : Nat) : Int)) s h

def r2 (s : St) (h : Heap) (Q : St → Heap → Prop) : Prop :=
  Q { s with t4 := false } h

def r3 (s : St) (h : Heap) (Q : St → Heap → Prop) : Prop :=
  Q { s with t12 := ((s.x_a.n : Nat) : Int), t13 := (0 : Int) } h

def r4 (s : St) (h : Heap) (Q : St → Heap → Prop) : Prop :=
  Q { s with t14 := (decide (s.t13 < s.t12)) } h

def r5 (s : St) (h : Heap) (Q : St → Heap → Prop) : Prop :=
  Q { s with x_i := s.t13 } h

def r6 (s : St) (h : Heap) (Q : Bool → St → Heap → Prop) : Prop :=
  0 ≤ s.x_i ∧ s.x_i < ((s.x_a.n : Nat) : Int) ∧
  ptrE s.x_a.p fun a1 =>
  ∃ v2 : Int, hcell h (Addr.add a1 (Int.toNat s.x_i * 1)) = some (.int .u8 v2) ∧
  0 ≤ s.x_i ∧ s.x_i < ((s.x_b.n : Nat) : Int) ∧
  ptrE s.x_b.p fun a3 =>
  ∃ v4 : Int, hcell h (Addr.add a3 (Int.toNat s.x_i * 1)) = some (.int .u8 v4) ∧
  Q (v2 != v4) s h

def r7 (s : St) (h : Heap) (Q : St → Heap → Prop) : Prop :=
  Q { s with t4 := false } h

def r8 (s : St) (h : Heap) (Q : St → Heap → Prop) : Prop :=
  Q { s with t13 := (IntKind.wrap .i64 (s.t13 + (1 : Int))) } h

def r9 (s : St) (h : Heap) (Q : St → Heap → Prop) : Prop :=
  Q { s with t4 := true } h

def k6 : Stm St := (.test r6 (.seq (.reg r7) .ret) .skip)
def k5 : Stm St := (.seq (.block 1 (.seq (.reg r5) k6)) (.reg r8))
def k4 : Stm St := (.seq (.cond (fun s => s.t14) .skip (.exit 0)) k5)
def k3 : Stm St := (.seq (.reg r4) k4)
def k2 : Stm St := (.block 0 (.loop k3))
def k1 : Stm St := (.seq (.seq (.reg r3) k2) (.seq (.reg r9) .ret))
def k0 : Stm St := (.seq (.test r1 (.seq (.reg r2) .ret) .skip) k1)

def stm : Stm St := (.seq (.reg r0) k0)

def ex : Ex → Pt St := fun _ => p0

set_option maxRecDepth 100000 in
theorem sim : Sim Pg 26 p1 (Tryd.f15.body.getD .skip) stm p0 ex :=
  (Sim.seq (Sim.reg (A := p1) (B := p1) (fun _ _ _ => by kernel_rfl))
  (Sim.seq (Sim.test (A := p1) (B := p1) (fun _ _ _ => by kernel_rfl) (Sim.seq (Sim.reg (A := p1) (B := p0) (fun _ _ _ => by kernel_rfl))
  (Sim.ret (A := p0) (E := ex) (fun _ => ⟨rfl, trivial⟩)))
  (Sim.skip (A := p1)))
  (Sim.seq (Sim.seq (Sim.reg (A := p1) (B := p2) (fun _ _ _ => by kernel_rfl))
  (Sim.block (B := p3) (Sim.loop (A := p2) (Sim.seq (Sim.reg (A := p2) (B := p4) (fun _ _ _ => by kernel_rfl))
  (Sim.seq (Sim.cond (A := p4) (fun s => s.t14) (fun _ => rfl) (Sim.weak (B := p4) (C := p2) (Sim.skip (A := p4)) (fun _ => ⟨rfl, rfl, rfl, rfl, trivial⟩))
  (Sim.exit (A := p4) (fun _ => trivial)))
  (Sim.seq (Sim.block (B := p2) (Sim.seq (Sim.reg (A := p2) (B := p5) (fun _ _ _ => by kernel_rfl))
  (Sim.test (A := p5) (B := p2) (fun _ _ _ => by kernel_rfl) (Sim.seq (Sim.reg (A := p2) (B := p0) (fun _ _ _ => by kernel_rfl))
  (Sim.ret (A := p0) (E := (exAt (exAt ex 0 p3) 1 p2)) (fun _ => ⟨rfl, trivial⟩)))
  (Sim.skip (A := p2)))))
  (Sim.reg (A := p2) (B := p2) (fun _ _ _ => by kernel_rfl))))))))
  (Sim.seq (Sim.reg (A := p3) (B := p0) (fun _ _ _ => by kernel_rfl))
  (Sim.ret (A := p0) (E := ex) (fun _ => ⟨rfl, trivial⟩))))))

def init (x_a : Sl) (x_b : Sl) : St := { x_a := x_a, x_b := x_b, t4 := false, x_i := 0, t12 := 0, t13 := 0, t14 := false }

/-- What is left of the results. -/
def res (K : Bool → Heap → Prop) (s : St) (h1 : Heap) : Prop := K s.t4 h1

/-- The call of 'pub-pemmican/laws.eq'. -/
theorem calls (x_a : Sl) (x_b : Sl) (h : Heap) (K : Bool → Heap → Prop)
    (H : stm (init x_a x_b) h (endK (res K))) : c_laws_eq x_a x_b h K := by
  have hc : CallsH Pg 15 #[(.slice x_a.p x_a.n x_a.c), (.slice x_b.p x_b.n x_b.c)] h fun v h1 => asB v fun b1 => K b1 h1 :=
    callsH_of_sim (R := p0) (fn := Tryd.f15) (c := Tryd.f15.body.getD .skip) Tryd.func15 rfl Tryd.ntmps15 Tryd.call15 sim (init x_a x_b) (⟨rfl, rfl, trivial⟩) (Nat.le_of_ble_eq_true rfl) (fun _ => ⟨rfl, trivial⟩) rfl
      (res K) (fun _ _ => by kernel_rfl) H
  refine hc.mono ?_
  intro v hp H
  obtain ⟨b1, rfl, h1⟩ := asB_elim H
  exact ⟨_, rfl, h1⟩

end M_laws_eq

end Go.Proofs.YtibleenkgmkpmaaDoor

namespace Go.Proofs.YtibleenkgmkpmaaDoor
open Go Go.Vc Go.Proofs

namespace M_spec_bytesOf

structure St where
  x_n : Int
  x_bytes : Int
  t4 : Sl
  x_out : Sl
  x_i : Int

def p0 : Pt St where
  env s := [(4, (.slice s.t4.p s.t4.n s.t4.c))]
  fin e s K := getV e 4 fun v1 => asS v1 fun p1 n1 c1 => K { s with t4 := ⟨p1, n1, c1⟩ }
  ok := by
    intro e s K h0
    obtain ⟨w1, g1, h1⟩ := getV_elim h0
    obtain ⟨p1, n1, c1, rfl, h2⟩ := asS_elim h1
    exact ⟨_, ⟨g1, trivial⟩, h2⟩

def p1 : Pt St where
  env s := [(0, (.int .i64 s.x_n)), (1, (.int .i64 s.x_bytes))]
  fin e s K := getV e 0 fun v1 => asI .i64 v1 fun n1 => getV e 1 fun v2 => asI .i64 v2 fun n2 => K { s with x_n := n1, x_bytes := n2 }
  ok := by
    intro e s K h0
    obtain ⟨w1, g1, h1⟩ := getV_elim h0
    obtain ⟨n1, rfl, h2⟩ := asI_elim h1
    obtain ⟨w2, g2, h3⟩ := getV_elim h2
    obtain ⟨n2, rfl, h4⟩ := asI_elim h3
    exact ⟨_, ⟨g1, g2, trivial⟩, h4⟩

def p2 : Pt St where
  env s := [(0, (.int .i64 s.x_n)), (1, (.int .i64 s.x_bytes)), (5, (.slice s.x_out.p s.x_out.n s.x_out.c))]
  fin e s K := getV e 0 fun v1 => asI .i64 v1 fun n1 => getV e 1 fun v2 => asI .i64 v2 fun n2 => getV e 5 fun v3 => asS v3 fun p1 n3 c1 => K { s with x_n := n1, x_bytes := n2, x_out := ⟨p1, n3, c1⟩ }
  ok := by
    intro e s K h0
    obtain ⟨w1, g1, h1⟩ := getV_elim h0
    obtain ⟨n1, rfl, h2⟩ := asI_elim h1
    obtain ⟨w2, g2, h3⟩ := getV_elim h2
    obtain ⟨n2, rfl, h4⟩ := asI_elim h3
    obtain ⟨w3, g3, h5⟩ := getV_elim h4
    obtain ⟨p1, n3, c1, rfl, h6⟩ := asS_elim h5
    exact ⟨_, ⟨g1, g2, g3, trivial⟩, h6⟩

def p3 : Pt St where
  env s := [(0, (.int .i64 s.x_n)), (1, (.int .i64 s.x_bytes)), (5, (.slice s.x_out.p s.x_out.n s.x_out.c)), (6, (.int .i64 s.x_i))]
  fin e s K := getV e 0 fun v1 => asI .i64 v1 fun n1 => getV e 1 fun v2 => asI .i64 v2 fun n2 => getV e 5 fun v3 => asS v3 fun p1 n3 c1 => getV e 6 fun v4 => asI .i64 v4 fun n4 => K { s with x_n := n1, x_bytes := n2, x_out := ⟨p1, n3, c1⟩, x_i := n4 }
  ok := by
    intro e s K h0
    obtain ⟨w1, g1, h1⟩ := getV_elim h0
    obtain ⟨n1, rfl, h2⟩ := asI_elim h1
    obtain ⟨w2, g2, h3⟩ := getV_elim h2
    obtain ⟨n2, rfl, h4⟩ := asI_elim h3
    obtain ⟨w3, g3, h5⟩ := getV_elim h4
    obtain ⟨p1, n3, c1, rfl, h6⟩ := asS_elim h5
    obtain ⟨w4, g4, h7⟩ := getV_elim h6
    obtain ⟨n4, rfl, h8⟩ := asI_elim h7
    exact ⟨_, ⟨g1, g2, g3, g4, trivial⟩, h8⟩

def p4 : Pt St where
  env s := [(5, (.slice s.x_out.p s.x_out.n s.x_out.c))]
  fin e s K := getV e 5 fun v1 => asS v1 fun p1 n1 c1 => K { s with x_out := ⟨p1, n1, c1⟩ }
  ok := by
    intro e s K h0
    obtain ⟨w1, g1, h1⟩ := getV_elim h0
    obtain ⟨p1, n1, c1, rfl, h2⟩ := asS_elim h1
    exact ⟨_, ⟨g1, trivial⟩, h2⟩

def r0 (s : St) (h : Heap) (Q : St → Heap → Prop) : Prop :=
  Q s h

def r1 (s : St) (h : Heap) (Q : St → Heap → Prop) : Prop :=
  Q { s with x_out := ⟨none, 0, 0⟩ } h

def r2 (s : St) (h : Heap) (Q : St → Heap → Prop) : Prop :=
  Q { s with x_i := (0 : Int) } h

def r3 (s : St) (h : Heap) (Q : Bool → St → Heap → Prop) : Prop :=
  Q (decide (s.x_i < s.x_bytes)) s h

def r4 (s : St) (h : Heap) (Q : St → Heap → Prop) : Prop :=
  Q { s with x_i := (IntKind.wrap .i64 (s.x_i + (1 : Int))) } h

def r5 (s : St) (h : Heap) (Q : St → Heap → Prop) : Prop :=
  withH (hnew h [(.int .u8 (IntKind.wrap .u8 s.x_n))] 5) fun h1 =>
  appendT Pg 5 s.x_out.p s.x_out.n s.x_out.c (.slice (some ⟨Array.size h, 0, none⟩) 1 1) 1 h1 fun p2 n3 c4 h5 =>
  Q { s with x_out := ⟨p2, n3, c4⟩ } h5

def r6 (s : St) (h : Heap) (Q : St → Heap → Prop) : Prop :=
  Q { s with x_n := (Int.fdiv s.x_n (2 ^ (8 : Nat))) } h

def r7 (s : St) (h : Heap) (Q : St → Heap → Prop) : Prop :=
  Q { s with t4 := s.x_out } h

def k4 : Stm St := (.seq (.block 1 (.seq (.reg r5) (.reg r6))) (.reg r4))
def k3 : Stm St := (.seq (.test r3 .skip (.exit 0)) k4)
def k2 : Stm St := (.block 0 (.loop k3))
def k1 : Stm St := (.seq (.seq (.reg r2) k2) (.seq (.reg r7) .ret))
def k0 : Stm St := (.seq (.reg r1) k1)

def stm : Stm St := (.seq (.reg r0) k0)

def ex : Ex → Pt St := fun _ => p0

set_option maxRecDepth 100000 in
theorem sim : Sim Pg 20 p1 (Tryd.f61.body.getD .skip) stm p0 ex :=
  (Sim.seq (Sim.reg (A := p1) (B := p1) (fun _ _ _ => by kernel_rfl))
  (Sim.seq (Sim.reg (A := p1) (B := p2) (fun _ _ _ => by kernel_rfl))
  (Sim.seq (Sim.seq (Sim.reg (A := p2) (B := p3) (fun _ _ _ => by kernel_rfl))
  (Sim.block (B := p4) (Sim.loop (A := p3) (Sim.seq (Sim.test (A := p3) (B := p3) (fun _ _ _ => by kernel_rfl) (Sim.skip (A := p3))
  (Sim.exit (A := p3) (fun _ => ⟨rfl, trivial⟩)))
  (Sim.seq (Sim.block (B := p3) (Sim.seq (Sim.reg (A := p3) (B := p3) (fun _ _ _ => by kernel_rfl))
  (Sim.reg (A := p3) (B := p3) (fun _ _ _ => by kernel_rfl))))
  (Sim.reg (A := p3) (B := p3) (fun _ _ _ => by kernel_rfl)))))))
  (Sim.seq (Sim.reg (A := p4) (B := p0) (fun _ _ _ => by kernel_rfl))
  (Sim.ret (A := p0) (E := ex) (fun _ => ⟨rfl, trivial⟩))))))

def init (x_n : Int) (x_bytes : Int) : St := { x_n := x_n, x_bytes := x_bytes, t4 := Sl.nil, x_out := Sl.nil, x_i := 0 }

/-- What is left of the results. -/
def res (K : Sl → Heap → Prop) (s : St) (h1 : Heap) : Prop := K s.t4 h1

/-- The call of 'pub-pemmican/spec.bytesOf'. -/
theorem calls (x_n : Int) (x_bytes : Int) (h : Heap) (K : Sl → Heap → Prop)
    (H : stm (init x_n x_bytes) h (endK (res K))) : c_spec_bytesOf x_n x_bytes h K := by
  have hc : CallsH Pg 61 #[(.int .i64 x_n), (.int .i64 x_bytes)] h fun v h1 => asS v fun p1 n1 c1 => K ⟨p1, n1, c1⟩ h1 :=
    callsH_of_sim (R := p0) (fn := Tryd.f61) (c := Tryd.f61.body.getD .skip) Tryd.func61 rfl Tryd.ntmps61 Tryd.call61 sim (init x_n x_bytes) (⟨rfl, rfl, trivial⟩) (Nat.le_of_ble_eq_true rfl) (fun _ => ⟨rfl, trivial⟩) rfl
      (res K) (fun _ _ => by kernel_rfl) H
  refine hc.mono ?_
  intro v hp H
  obtain ⟨p1, n1, c1, rfl, h1⟩ := asS_elim H
  exact ⟨_, _, _, rfl, h1⟩

end M_spec_bytesOf

end Go.Proofs.YtibleenkgmkpmaaDoor

namespace Go.Proofs.YtibleenkgmkpmaaDoor
open Go Go.Vc Go.Proofs

namespace M_spec_varint

structure St where
  x_n : Int
  t2 : Sl
  x_out : Sl

def p0 : Pt St where
  env s := [(2, (.slice s.t2.p s.t2.n s.t2.c))]
  fin e s K := getV e 2 fun v1 => asS v1 fun p1 n1 c1 => K { s with t2 := ⟨p1, n1, c1⟩ }
  ok := by
    intro e s K h0
    obtain ⟨w1, g1, h1⟩ := getV_elim h0
    obtain ⟨p1, n1, c1, rfl, h2⟩ := asS_elim h1
    exact ⟨_, ⟨g1, trivial⟩, h2⟩

def p1 : Pt St where
  env s := [(0, (.int .i64 s.x_n))]
  fin e s K := getV e 0 fun v1 => asI .i64 v1 fun n1 => K { s with x_n := n1 }
  ok := by
    intro e s K h0
    obtain ⟨w1, g1, h1⟩ := getV_elim h0
    obtain ⟨n1, rfl, h2⟩ := asI_elim h1
    exact ⟨_, ⟨g1, trivial⟩, h2⟩

def p2 : Pt St where
  env s := [(0, (.int .i64 s.x_n)), (3, (.slice s.x_out.p s.x_out.n s.x_out.c))]
  fin e s K := getV e 0 fun v1 => asI .i64 v1 fun n1 => getV e 3 fun v2 => asS v2 fun p1 n2 c1 => K { s with x_n := n1, x_out := ⟨p1, n2, c1⟩ }
  ok := by
    intro e s K h0
    obtain ⟨w1, g1, h1⟩ := getV_elim h0
    obtain ⟨n1, rfl, h2⟩ := asI_elim h1
    obtain ⟨w2, g2, h3⟩ := getV_elim h2
    obtain ⟨p1, n2, c1, rfl, h4⟩ := asS_elim h3
    exact ⟨_, ⟨g1, g2, trivial⟩, h4⟩

def r0 (s : St) (h : Heap) (Q : St → Heap → Prop) : Prop :=
  Q s h

def r1 (s : St) (h : Heap) (Q : St → Heap → Prop) : Prop :=
  Q { s with x_out := ⟨none, 0, 0⟩ } h

def r2 (s : St) (h : Heap) (Q : Bool → St → Heap → Prop) : Prop :=
  Q (decide (s.x_n ≥ (128 : Int))) s h

def r3 (s : St) (h : Heap) (Q : St → Heap → Prop) : Prop :=
  withH (hnew h [(.int .u8 (bOr .u8 (IntKind.wrap .u8 s.x_n) (128 : Int)))] 5) fun h1 =>
  appendT Pg 5 s.x_out.p s.x_out.n s.x_out.c (.slice (some ⟨Array.size h, 0, none⟩) 1 1) 1 h1 fun p2 n3 c4 h5 =>
  Q { s with x_out := ⟨p2, n3, c4⟩ } h5

def r4 (s : St) (h : Heap) (Q : St → Heap → Prop) : Prop :=
  Q { s with x_n := (Int.fdiv s.x_n (2 ^ (7 : Nat))) } h

def r5 (s : St) (h : Heap) (Q : St → Heap → Prop) : Prop :=
  withH (hnew h [(.int .u8 (IntKind.wrap .u8 s.x_n))] 5) fun h1 =>
  appendT Pg 5 s.x_out.p s.x_out.n s.x_out.c (.slice (some ⟨Array.size h, 0, none⟩) 1 1) 1 h1 fun p2 n3 c4 h5 =>
  Q { s with t2 := ⟨p2, n3, c4⟩ } h5

def k3 : Stm St := (.block 1 (.seq (.reg r3) (.reg r4)))
def k2 : Stm St := (.seq (.test r2 .skip (.exit 0)) k3)
def k1 : Stm St := (.seq (.block 0 (.loop k2)) (.seq (.reg r5) .ret))
def k0 : Stm St := (.seq (.reg r1) k1)

def stm : Stm St := (.seq (.reg r0) k0)

def ex : Ex → Pt St := fun _ => p0

set_option maxRecDepth 100000 in
theorem sim : Sim Pg 19 p1 (Tryd.f42.body.getD .skip) stm p0 ex :=
  (Sim.seq (Sim.reg (A := p1) (B := p1) (fun _ _ _ => by kernel_rfl))
  (Sim.seq (Sim.reg (A := p1) (B := p2) (fun _ _ _ => by kernel_rfl))
  (Sim.seq (Sim.block (B := p2) (Sim.loop (A := p2) (Sim.seq (Sim.test (A := p2) (B := p2) (fun _ _ _ => by kernel_rfl) (Sim.skip (A := p2))
  (Sim.exit (A := p2) (fun _ => ⟨rfl, rfl, trivial⟩)))
  (Sim.block (B := p2) (Sim.seq (Sim.reg (A := p2) (B := p2) (fun _ _ _ => by kernel_rfl))
  (Sim.reg (A := p2) (B := p2) (fun _ _ _ => by kernel_rfl)))))))
  (Sim.seq (Sim.reg (A := p2) (B := p0) (fun _ _ _ => by kernel_rfl))
  (Sim.ret (A := p0) (E := ex) (fun _ => ⟨rfl, trivial⟩))))))

def init (x_n : Int) : St := { x_n := x_n, t2 := Sl.nil, x_out := Sl.nil }

/-- What is left of the results. -/
def res (K : Sl → Heap → Prop) (s : St) (h1 : Heap) : Prop := K s.t2 h1

/-- The call of 'pub-pemmican/spec.varint'. -/
theorem calls (x_n : Int) (h : Heap) (K : Sl → Heap → Prop)
    (H : stm (init x_n) h (endK (res K))) : c_spec_varint x_n h K := by
  have hc : CallsH Pg 42 #[(.int .i64 x_n)] h fun v h1 => asS v fun p1 n1 c1 => K ⟨p1, n1, c1⟩ h1 :=
    callsH_of_sim (R := p0) (fn := Tryd.f42) (c := Tryd.f42.body.getD .skip) Tryd.func42 rfl Tryd.ntmps42 Tryd.call42 sim (init x_n) (⟨rfl, trivial⟩) (Nat.le_of_ble_eq_true rfl) (fun _ => ⟨rfl, trivial⟩) rfl
      (res K) (fun _ _ => by kernel_rfl) H
  refine hc.mono ?_
  intro v hp H
  obtain ⟨p1, n1, c1, rfl, h1⟩ := asS_elim H
  exact ⟨_, _, _, rfl, h1⟩

end M_spec_varint

end Go.Proofs.YtibleenkgmkpmaaDoor

namespace Go.Proofs.YtibleenkgmkpmaaDoor
open Go Go.Vc Go.Proofs

namespace M_spec_within

structure St where
  x_n : Int
  x_least : Int
  x_most : Int
  t6 : Int

def p0 : Pt St where
  env s := [(6, (.int .i64 s.t6))]
  fin e s K := getV e 6 fun v1 => asI .i64 v1 fun n1 => K { s with t6 := n1 }
  ok := by
    intro e s K h0
    obtain ⟨w1, g1, h1⟩ := getV_elim h0
    obtain ⟨n1, rfl, h2⟩ := asI_elim h1
    exact ⟨_, ⟨g1, trivial⟩, h2⟩

def p1 : Pt St where
  env s := [(0, (.int .u32 s.x_n)), (1, (.int .i64 s.x_least)), (2, (.int .i64 s.x_most))]
  fin e s K := getV e 0 fun v1 => asI .u32 v1 fun n1 => getV e 1 fun v2 => asI .i64 v2 fun n2 => getV e 2 fun v3 => asI .i64 v3 fun n3 => K { s with x_n := n1, x_least := n2, x_most := n3 }
  ok := by
    intro e s K h0
    obtain ⟨w1, g1, h1⟩ := getV_elim h0
    obtain ⟨n1, rfl, h2⟩ := asI_elim h1
    obtain ⟨w2, g2, h3⟩ := getV_elim h2
    obtain ⟨n2, rfl, h4⟩ := asI_elim h3
    obtain ⟨w3, g3, h5⟩ := getV_elim h4
    obtain ⟨n3, rfl, h6⟩ := asI_elim h5
    exact ⟨_, ⟨g1, g2, g3, trivial⟩, h6⟩

def r0 (s : St) (h : Heap) (Q : St → Heap → Prop) : Prop :=
  Q s h

def r1 (s : St) (h : Heap) (Q : St → Heap → Prop) : Prop :=
  (if (IntKind.wrap .u64 (IntKind.wrap .i64 ((IntKind.wrap .i64 (s.x_most - s.x_least)) + (1 : Int)))) = 0 then False else
  Q { s with t6 := (IntKind.wrap .i64 (s.x_least + (IntKind.wrap .i64 (Int.tmod (IntKind.wrap .u64 s.x_n) (IntKind.wrap .u64 (IntKind.wrap .i64 ((IntKind.wrap .i64 (s.x_most - s.x_least)) + (1 : Int)))))))) } h)

def stm : Stm St := (.seq (.reg r0) (.seq (.reg r1) .ret))

def ex : Ex → Pt St := fun _ => p0

set_option maxRecDepth 100000 in
theorem sim : Sim Pg 18 p1 (Tryd.f60.body.getD .skip) stm p0 ex :=
  (Sim.seq (Sim.reg (A := p1) (B := p1) (fun _ _ _ => by kernel_rfl))
  (Sim.seq (Sim.reg (A := p1) (B := p0) (fun _ _ _ => by kernel_rfl))
  (Sim.ret (A := p0) (E := ex) (fun _ => ⟨rfl, trivial⟩))))

def init (x_n : Int) (x_least : Int) (x_most : Int) : St := { x_n := x_n, x_least := x_least, x_most := x_most, t6 := 0 }

/-- What is left of the results. -/
def res (K : Int → Heap → Prop) (s : St) (h1 : Heap) : Prop := K s.t6 h1

/-- The call of 'pub-pemmican/spec.within'. -/
theorem calls (x_n : Int) (x_least : Int) (x_most : Int) (h : Heap) (K : Int → Heap → Prop)
    (H : stm (init x_n x_least x_most) h (endK (res K))) : c_spec_within x_n x_least x_most h K := by
  have hc : CallsH Pg 60 #[(.int .u32 x_n), (.int .i64 x_least), (.int .i64 x_most)] h fun v h1 => asI .i64 v fun n1 => K n1 h1 :=
    callsH_of_sim (R := p0) (fn := Tryd.f60) (c := Tryd.f60.body.getD .skip) Tryd.func60 rfl Tryd.ntmps60 Tryd.call60 sim (init x_n x_least x_most) (⟨rfl, rfl, rfl, trivial⟩) (Nat.le_of_ble_eq_true rfl) (fun _ => ⟨rfl, trivial⟩) rfl
      (res K) (fun _ _ => by kernel_rfl) H
  refine hc.mono ?_
  intro v hp H
  obtain ⟨n1, rfl, h1⟩ := asI_elim H
  exact ⟨_, rfl, h1⟩

end M_spec_within

end Go.Proofs.YtibleenkgmkpmaaDoor

namespace Go.Proofs.YtibleenkgmkpmaaDoor
open Go Go.Vc Go.Proofs

namespace M_writer_back

structure St where
  x_w : Option Addr
  t2 : Int

def p0 : Pt St where
  env s := [(2, (.int .i64 s.t2))]
  fin e s K := getV e 2 fun v1 => asI .i64 v1 fun n1 => K { s with t2 := n1 }
  ok := by
    intro e s K h0
    obtain ⟨w1, g1, h1⟩ := getV_elim h0
    obtain ⟨n1, rfl, h2⟩ := asI_elim h1
    exact ⟨_, ⟨g1, trivial⟩, h2⟩

def p1 : Pt St where
  env s := [(0, (.pointer s.x_w))]
  fin e s K := getV e 0 fun v1 => asP v1 fun p1 => K { s with x_w := p1 }
  ok := by
    intro e s K h0
    obtain ⟨w1, g1, h1⟩ := getV_elim h0
    obtain ⟨p1, rfl, h2⟩ := asP_elim h1
    exact ⟨_, ⟨g1, trivial⟩, h2⟩

def r0 (s : St) (h : Heap) (Q : St → Heap → Prop) : Prop :=
  Q s h

def r1 (s : St) (h : Heap) (Q : Bool → St → Heap → Prop) : Prop :=
  ptrE s.x_w fun a1 =>
  ∃ (p2 : Option Addr) (n3 c4 : Nat), hcell h (Addr.add (Addr.add a1 1) 0) = some (.slice p2 n3 c4) ∧
  Q (decide (((n3 : Nat) : Int) > (65535 : Int))) s h

def r2 (s : St) (h : Heap) (Q : St → Heap → Prop) : Prop :=
  ptrE s.x_w fun a1 =>
  ∃ (p2 : Option Addr) (n3 c4 : Nat), hcell h (Addr.add (Addr.add a1 1) 0) = some (.slice p2 n3 c4) ∧
  Q { s with t2 := ((n3 : Nat) : Int) } h

def r3 (s : St) (h : Heap) (Q : St → Heap → Prop) : Prop :=
  ptrE s.x_w fun a1 =>
  ∃ (p2 : Option Addr) (n3 c4 : Nat), hcell h (Addr.add (Addr.add a1 1) 0) = some (.slice p2 n3 c4) ∧
  ptrE s.x_w fun a5 =>
  ∃ (p6 : Option Addr) (n7 c8 : Nat), hcell h (Addr.add (Addr.add a5 1) 1) = some (.slice p6 n7 c8) ∧
  Q { s with t2 := (IntKind.wrap .i64 (((n3 : Nat) : Int) + ((n7 : Nat) : Int))) } h

def k0 : Stm St := (.seq (.test r1 (.seq (.reg r2) .ret) .skip) (.seq (.reg r3) .ret))

def stm : Stm St := (.seq (.reg r0) k0)

def ex : Ex → Pt St := fun _ => p0

set_option maxRecDepth 100000 in
theorem sim : Sim Pg 29 p1 (Tryd.f62.body.getD .skip) stm p0 ex :=
  (Sim.seq (Sim.reg (A := p1) (B := p1) (fun _ _ _ => by kernel_rfl))
  (Sim.seq (Sim.test (A := p1) (B := p1) (fun _ _ _ => by kernel_rfl) (Sim.seq (Sim.reg (A := p1) (B := p0) (fun _ _ _ => by kernel_rfl))
  (Sim.ret (A := p0) (E := ex) (fun _ => ⟨rfl, trivial⟩)))
  (Sim.skip (A := p1)))
  (Sim.seq (Sim.reg (A := p1) (B := p0) (fun _ _ _ => by kernel_rfl))
  (Sim.ret (A := p0) (E := ex) (fun _ => ⟨rfl, trivial⟩)))))

def init (x_w : Option Addr) : St := { x_w := x_w, t2 := 0 }

/-- What is left of the results. -/
def res (K : Int → Heap → Prop) (s : St) (h1 : Heap) : Prop := K s.t2 h1

/-- The call of '(*pub-pemmican/spec.writer).back'. -/
theorem calls (x_w : Option Addr) (h : Heap) (K : Int → Heap → Prop)
    (H : stm (init x_w) h (endK (res K))) : c_writer_back x_w h K := by
  have hc : CallsH Pg 62 #[(.pointer x_w)] h fun v h1 => asI .i64 v fun n1 => K n1 h1 :=
    callsH_of_sim (R := p0) (fn := Tryd.f62) (c := Tryd.f62.body.getD .skip) Tryd.func62 rfl Tryd.ntmps62 Tryd.call62 sim (init x_w) (⟨rfl, trivial⟩) (Nat.le_of_ble_eq_true rfl) (fun _ => ⟨rfl, trivial⟩) rfl
      (res K) (fun _ _ => by kernel_rfl) H
  refine hc.mono ?_
  intro v hp H
  obtain ⟨n1, rfl, h1⟩ := asI_elim H
  exact ⟨_, rfl, h1⟩

end M_writer_back

end Go.Proofs.YtibleenkgmkpmaaDoor

namespace Go.Proofs.YtibleenkgmkpmaaDoor
open Go Go.Vc Go.Proofs

namespace M_writer_longest

structure St where
  x_w : Option Addr
  x_offset : Int
  x_most : Int
  t6 : Int

def p0 : Pt St where
  env s := [(6, (.int .i64 s.t6))]
  fin e s K := getV e 6 fun v1 => asI .i64 v1 fun n1 => K { s with t6 := n1 }
  ok := by
    intro e s K h0
    obtain ⟨w1, g1, h1⟩ := getV_elim h0
    obtain ⟨n1, rfl, h2⟩ := asI_elim h1
    exact ⟨_, ⟨g1, trivial⟩, h2⟩

def p1 : Pt St where
  env s := [(0, (.pointer s.x_w)), (1, (.int .i64 s.x_offset)), (2, (.int .i64 s.x_most))]
  fin e s K := getV e 0 fun v1 => asP v1 fun p1 => getV e 1 fun v2 => asI .i64 v2 fun n1 => getV e 2 fun v3 => asI .i64 v3 fun n2 => K { s with x_w := p1, x_offset := n1, x_most := n2 }
  ok := by
    intro e s K h0
    obtain ⟨w1, g1, h1⟩ := getV_elim h0
    obtain ⟨p1, rfl, h2⟩ := asP_elim h1
    obtain ⟨w2, g2, h3⟩ := getV_elim h2
    obtain ⟨n1, rfl, h4⟩ := asI_elim h3
    obtain ⟨w3, g3, h5⟩ := getV_elim h4
    obtain ⟨n2, rfl, h6⟩ := asI_elim h5
    exact ⟨_, ⟨g1, g2, g3, trivial⟩, h6⟩

def p2 : Pt St where
  env s := [(2, (.int .i64 s.x_most))]
  fin e s K := getV e 2 fun v1 => asI .i64 v1 fun n1 => K { s with x_most := n1 }
  ok := by
    intro e s K h0
    obtain ⟨w1, g1, h1⟩ := getV_elim h0
    obtain ⟨n1, rfl, h2⟩ := asI_elim h1
    exact ⟨_, ⟨g1, trivial⟩, h2⟩

def r0 (s : St) (h : Heap) (Q : St → Heap → Prop) : Prop :=
  Q s h

def r1 (s : St) (h : Heap) (Q : Bool → St → Heap → Prop) : Prop :=
  ptrE s.x_w fun a1 =>
  ∃ (p2 : Option Addr) (n3 c4 : Nat), hcell h (Addr.add (Addr.add a1 1) 0) = some (.slice p2 n3 c4) ∧
  Q (decide (s.x_offset > ((n3 : Nat) : Int))) s h

def r2 (s : St) (h : Heap) (Q : St → Heap → Prop) : Prop :=
  ptrE s.x_w fun a1 =>
  ∃ (p2 : Option Addr) (n3 c4 : Nat), hcell h (Addr.add (Addr.add a1 1) 0) = some (.slice p2 n3 c4) ∧
  Q { s with t6 := (if (IntKind.wrap .i64 (s.x_offset - ((n3 : Nat) : Int))) < s.x_most then (IntKind.wrap .i64 (s.x_offset - ((n3 : Nat) : Int))) else s.x_most) } h

def r3 (s : St) (h : Heap) (Q : St → Heap → Prop) : Prop :=
  Q { s with t6 := s.x_most } h

def k0 : Stm St := (.seq (.test r1 (.seq (.reg r2) .ret) .skip) (.seq (.reg r3) .ret))

def stm : Stm St := (.seq (.reg r0) k0)

def ex : Ex → Pt St := fun _ => p0

set_option maxRecDepth 100000 in
theorem sim : Sim Pg 26 p1 (Tryd.f63.body.getD .skip) stm p0 ex :=
  (Sim.seq (Sim.reg (A := p1) (B := p1) (fun _ _ _ => by kernel_rfl))
  (Sim.seq (Sim.test (A := p1) (B := p1) (fun _ _ _ => by kernel_rfl) (Sim.seq (Sim.reg (A := p1) (B := p0) (fun _ _ _ => by kernel_rfl))
  (Sim.ret (A := p0) (E := ex) (fun _ => ⟨rfl, trivial⟩)))
  (Sim.weak (B := p1) (C := p2) (Sim.skip (A := p1)) (fun _ => ⟨rfl, trivial⟩)))
  (Sim.seq (Sim.reg (A := p2) (B := p0) (fun _ _ _ => by kernel_rfl))
  (Sim.ret (A := p0) (E := ex) (fun _ => ⟨rfl, trivial⟩)))))

def init (x_w : Option Addr) (x_offset : Int) (x_most : Int) : St := { x_w := x_w, x_offset := x_offset, x_most := x_most, t6 := 0 }

/-- What is left of the results. -/
def res (K : Int → Heap → Prop) (s : St) (h1 : Heap) : Prop := K s.t6 h1

/-- The call of '(*pub-pemmican/spec.writer).longest'. -/
theorem calls (x_w : Option Addr) (x_offset : Int) (x_most : Int) (h : Heap) (K : Int → Heap → Prop)
    (H : stm (init x_w x_offset x_most) h (endK (res K))) : c_writer_longest x_w x_offset x_most h K := by
  have hc : CallsH Pg 63 #[(.pointer x_w), (.int .i64 x_offset), (.int .i64 x_most)] h fun v h1 => asI .i64 v fun n1 => K n1 h1 :=
    callsH_of_sim (R := p0) (fn := Tryd.f63) (c := Tryd.f63.body.getD .skip) Tryd.func63 rfl Tryd.ntmps63 Tryd.call63 sim (init x_w x_offset x_most) (⟨rfl, rfl, rfl, trivial⟩) (Nat.le_of_ble_eq_true rfl) (fun _ => ⟨rfl, trivial⟩) rfl
      (res K) (fun _ _ => by kernel_rfl) H
  refine hc.mono ?_
  intro v hp H
  obtain ⟨n1, rfl, h1⟩ := asI_elim H
  exact ⟨_, rfl, h1⟩

end M_writer_longest

end Go.Proofs.YtibleenkgmkpmaaDoor

namespace Go.Proofs.YtibleenkgmkpmaaDoor
open Go Go.Vc Go.Proofs

namespace M_writer_literal

structure St where
  x_w : Option Addr
  x_data : Sl
  x_form : Int
  x_n : Int
  x_least : Int
  x_bytes : Int

def p0 : Pt St where
  env s := []
  fin e s K := K s
  ok := by
    intro e s K h0
    exact ⟨_, trivial, h0⟩

def p1 : Pt St where
  env s := [(0, (.pointer s.x_w)), (1, (.slice s.x_data.p s.x_data.n s.x_data.c)), (2, (.int .u32 s.x_form))]
  fin e s K := getV e 0 fun v1 => asP v1 fun p1 => getV e 1 fun v2 => asS v2 fun p2 n1 c1 => getV e 2 fun v3 => asI .u32 v3 fun n2 => K { s with x_w := p1, x_data := ⟨p2, n1, c1⟩, x_form := n2 }
  ok := by
    intro e s K h0
    obtain ⟨w1, g1, h1⟩ := getV_elim h0
    obtain ⟨p1, rfl, h2⟩ := asP_elim h1
    obtain ⟨w2, g2, h3⟩ := getV_elim h2
    obtain ⟨p2, n1, c1, rfl, h4⟩ := asS_elim h3
    obtain ⟨w3, g3, h5⟩ := getV_elim h4
    obtain ⟨n2, rfl, h6⟩ := asI_elim h5
    exact ⟨_, ⟨g1, g2, g3, trivial⟩, h6⟩

def p2 : Pt St where
  env s := [(0, (.pointer s.x_w)), (1, (.slice s.x_data.p s.x_data.n s.x_data.c)), (2, (.int .u32 s.x_form)), (6, (.int .i64 s.x_n))]
  fin e s K := getV e 0 fun v1 => asP v1 fun p1 => getV e 1 fun v2 => asS v2 fun p2 n1 c1 => getV e 2 fun v3 => asI .u32 v3 fun n2 => getV e 6 fun v4 => asI .i64 v4 fun n3 => K { s with x_w := p1, x_data := ⟨p2, n1, c1⟩, x_form := n2, x_n := n3 }
  ok := by
    intro e s K h0
    obtain ⟨w1, g1, h1⟩ := getV_elim h0
    obtain ⟨p1, rfl, h2⟩ := asP_elim h1
    obtain ⟨w2, g2, h3⟩ := getV_elim h2
    obtain ⟨p2, n1, c1, rfl, h4⟩ := asS_elim h3
    obtain ⟨w3, g3, h5⟩ := getV_elim h4
    obtain ⟨n2, rfl, h6⟩ := asI_elim h5
    obtain ⟨w4, g4, h7⟩ := getV_elim h6
    obtain ⟨n3, rfl, h8⟩ := asI_elim h7
    exact ⟨_, ⟨g1, g2, g3, g4, trivial⟩, h8⟩

def p3 : Pt St where
  env s := [(0, (.pointer s.x_w)), (1, (.slice s.x_data.p s.x_data.n s.x_data.c)), (2, (.int .u32 s.x_form)), (6, (.int .i64 s.x_n)), (7, (.int .i64 s.x_least))]
  fin e s K := getV e 0 fun v1 => asP v1 fun p1 => getV e 1 fun v2 => asS v2 fun p2 n1 c1 => getV e 2 fun v3 => asI .u32 v3 fun n2 => getV e 6 fun v4 => asI .i64 v4 fun n3 => getV e 7 fun v5 => asI .i64 v5 fun n4 => K { s with x_w := p1, x_data := ⟨p2, n1, c1⟩, x_form := n2, x_n := n3, x_least := n4 }
  ok := by
    intro e s K h0
    obtain ⟨w1, g1, h1⟩ := getV_elim h0
    obtain ⟨p1, rfl, h2⟩ := asP_elim h1
    obtain ⟨w2, g2, h3⟩ := getV_elim h2
    obtain ⟨p2, n1, c1, rfl, h4⟩ := asS_elim h3
    obtain ⟨w3, g3, h5⟩ := getV_elim h4
    obtain ⟨n2, rfl, h6⟩ := asI_elim h5
    obtain ⟨w4, g4, h7⟩ := getV_elim h6
    obtain ⟨n3, rfl, h8⟩ := asI_elim h7
    obtain ⟨w5, g5, h9⟩ := getV_elim h8
    obtain ⟨n4, rfl, h10⟩ := asI_elim h9
    exact ⟨_, ⟨g1, g2, g3, g4, g5, trivial⟩, h10⟩

def p4 : Pt St where
  env s := [(0, (.pointer s.x_w)), (1, (.slice s.x_data.p s.x_data.n s.x_data.c)), (6, (.int .i64 s.x_n)), (8, (.int .i64 s.x_bytes))]
  fin e s K := getV e 0 fun v1 => asP v1 fun p1 => getV e 1 fun v2 => asS v2 fun p2 n1 c1 => getV e 6 fun v3 => asI .i64 v3 fun n2 => getV e 8 fun v4 => asI .i64 v4 fun n3 => K { s with x_w := p1, x_data := ⟨p2, n1, c1⟩, x_n := n2, x_bytes := n3 }
  ok := by
    intro e s K h0
    obtain ⟨w1, g1, h1⟩ := getV_elim h0
    obtain ⟨p1, rfl, h2⟩ := asP_elim h1
    obtain ⟨w2, g2, h3⟩ := getV_elim h2
    obtain ⟨p2, n1, c1, rfl, h4⟩ := asS_elim h3
    obtain ⟨w3, g3, h5⟩ := getV_elim h4
    obtain ⟨n2, rfl, h6⟩ := asI_elim h5
    obtain ⟨w4, g4, h7⟩ := getV_elim h6
    obtain ⟨n3, rfl, h8⟩ := asI_elim h7
    exact ⟨_, ⟨g1, g2, g3, g4, trivial⟩, h8⟩

def p5 : Pt St where
  env s := [(0, (.pointer s.x_w)), (1, (.slice s.x_data.p s.x_data.n s.x_data.c))]
  fin e s K := getV e 0 fun v1 => asP v1 fun p1 => getV e 1 fun v2 => asS v2 fun p2 n1 c1 => K { s with x_w := p1, x_data := ⟨p2, n1, c1⟩ }
  ok := by
    intro e s K h0
    obtain ⟨w1, g1, h1⟩ := getV_elim h0
    obtain ⟨p1, rfl, h2⟩ := asP_elim h1
    obtain ⟨w2, g2, h3⟩ := getV_elim h2
    obtain ⟨p2, n1, c1, rfl, h4⟩ := asS_elim h3
    exact ⟨_, ⟨g1, g2, trivial⟩, h4⟩

def r0 (s : St) (h : Heap) (Q : St → Heap → Prop) : Prop :=
  Q { s with x_n := (IntKind.wrap .i64 (((s.x_data.n : Nat) : Int) - (1 : Int))) } h

def r1 (s : St) (h : Heap) (Q : Bool → St → Heap → Prop) : Prop :=
  Q (decide (s.x_n < (0 : Int))) s h

def r2 (s : St) (h : Heap) (Q : St → Heap → Prop) : Prop :=
  Q { s with x_least := (0 : Int) } h

def r3 (s : St) (h : Heap) (Q : Bool → St → Heap → Prop) : Prop :=
  Q (decide (s.x_n ≥ (60 : Int))) s h

def r4 (s : St) (h : Heap) (Q : St → Heap → Prop) : Prop :=
  Q { s with x_least := (1 : Int) } h

def r5 (s : St) (h : Heap) (Q : Bool → St → Heap → Prop) : Prop :=
  Q (decide (s.x_n ≥ (256 : Int))) s h

def r6 (s : St) (h : Heap) (Q : St → Heap → Prop) : Prop :=
  Q { s with x_least := (2 : Int) } h

def r7 (s : St) (h : Heap) (Q : Bool → St → Heap → Prop) : Prop :=
  Q (decide (s.x_n ≥ (65536 : Int))) s h

def r8 (s : St) (h : Heap) (Q : St → Heap → Prop) : Prop :=
  Q { s with x_least := (3 : Int) } h

def r9 (s : St) (h : Heap) (Q : St → Heap → Prop) : Prop :=
  c_spec_within s.x_form s.x_least (4 : Int) h fun r2 h1 =>
  Q { s with x_bytes := r2 } h1

def r10 (s : St) (h : Heap) (Q : Bool → St → Heap → Prop) : Prop :=
  Q (s.x_bytes == (0 : Int)) s h

def r11 (s : St) (h : Heap) (Q : St → Heap → Prop) : Prop :=
  ptrE s.x_w fun a1 =>
  ∃ (p2 : Option Addr) (n3 c4 : Nat), hcell h (Addr.add a1 0) = some (.slice p2 n3 c4) ∧
  withH (hnew h [(.int .u8 (IntKind.wrap .u8 (IntKind.wrap .i64 (s.x_n * 2 ^ (2 : Nat)))))] 5) fun h5 =>
  appendT Pg 5 p2 n3 c4 (.slice (some ⟨Array.size h, 0, none⟩) 1 1) 1 h5 fun p6 n7 c8 h9 =>
  ptrE s.x_w fun a10 =>
  st1 (Addr.add (Addr.add a10 0) 0) (.slice p6 n7 c8) h9 fun h11 =>
  Q s h11

def r12 (s : St) (h : Heap) (Q : St → Heap → Prop) : Prop :=
  ptrE s.x_w fun a1 =>
  ∃ (p2 : Option Addr) (n3 c4 : Nat), hcell h (Addr.add a1 0) = some (.slice p2 n3 c4) ∧
  withH (hnew h [(.int .u8 (IntKind.wrap .u8 (IntKind.wrap .i64 ((IntKind.wrap .i64 ((59 : Int) + s.x_bytes)) * 2 ^ (2 : Nat)))))] 5) fun h5 =>
  appendT Pg 5 p2 n3 c4 (.slice (some ⟨Array.size h, 0, none⟩) 1 1) 1 h5 fun p6 n7 c8 h9 =>
  ptrE s.x_w fun a10 =>
  st1 (Addr.add (Addr.add a10 0) 0) (.slice p6 n7 c8) h9 fun h11 =>
  Q s h11

def r13 (s : St) (h : Heap) (Q : St → Heap → Prop) : Prop :=
  ptrE s.x_w fun a1 =>
  (∃ (p2 : Option Addr) (n3 c4 : Nat), hcell h (Addr.add a1 0) = some (.slice p2 n3 c4) ∧
  c_spec_bytesOf s.x_n s.x_bytes h fun w6 h5 =>
  appendT Pg 5 p2 n3 c4 (.slice w6.p w6.n w6.c) w6.n h5 fun p7 n8 c9 h10 =>
  ptrE s.x_w fun a11 =>
  st1 (Addr.add (Addr.add a11 0) 0) (.slice p7 n8 c9) h10 fun h12 =>
  Q s h12) ∧
  (c_spec_bytesOf s.x_n s.x_bytes h fun w14 h13 =>
  ∃ (p15 : Option Addr) (n16 c17 : Nat), hcell h13 (Addr.add a1 0) = some (.slice p15 n16 c17) ∧
  appendT Pg 5 p15 n16 c17 (.slice w14.p w14.n w14.c) w14.n h13 fun p18 n19 c20 h21 =>
  ptrE s.x_w fun a22 =>
  st1 (Addr.add (Addr.add a22 0) 0) (.slice p18 n19 c20) h21 fun h23 =>
  Q s h23)

def r14 (s : St) (h : Heap) (Q : St → Heap → Prop) : Prop :=
  ptrE s.x_w fun a1 =>
  ∃ (p2 : Option Addr) (n3 c4 : Nat), hcell h (Addr.add a1 0) = some (.slice p2 n3 c4) ∧
  appendT Pg 5 p2 n3 c4 (.slice s.x_data.p s.x_data.n s.x_data.c) s.x_data.n h fun p5 n6 c7 h8 =>
  ptrE s.x_w fun a9 =>
  st1 (Addr.add (Addr.add a9 0) 0) (.slice p5 n6 c7) h8 fun h10 =>
  Q s h10

def r15 (s : St) (h : Heap) (Q : St → Heap → Prop) : Prop :=
  ptrE s.x_w fun a1 =>
  ∃ (p2 : Option Addr) (n3 c4 : Nat), hcell h (Addr.add (Addr.add a1 1) 0) = some (.slice p2 n3 c4) ∧
  appendT Pg 5 p2 n3 c4 (.slice s.x_data.p s.x_data.n s.x_data.c) s.x_data.n h fun p5 n6 c7 h8 =>
  ptrE s.x_w fun a9 =>
  st1 (Addr.add (Addr.add (Addr.add a9 1) 0) 0) (.slice p5 n6 c7) h8 fun h10 =>
  Q s h10

def k6 : Stm St := (.seq (.test r10 (.reg r11) (.seq (.reg r12) (.reg r13))) (.seq (.reg r14) (.reg r15)))
def k5 : Stm St := (.seq (.reg r9) k6)
def k4 : Stm St := (.seq (.test r7 (.reg r8) .skip) k5)
def k3 : Stm St := (.seq (.test r5 (.reg r6) .skip) k4)
def k2 : Stm St := (.seq (.test r3 (.reg r4) .skip) k3)
def k1 : Stm St := (.seq (.reg r2) k2)
def k0 : Stm St := (.seq (.test r1 .ret .skip) k1)

def stm : Stm St := (.seq (.reg r0) k0)

def ex : Ex → Pt St := fun _ => p0

set_option maxRecDepth 100000 in
theorem sim : Sim Pg 81 p1 (Tryd.f39.body.getD .skip) stm p0 ex :=
  (Sim.seq (Sim.reg (A := p1) (B := p2) (fun _ _ _ => by kernel_rfl))
  (Sim.seq (Sim.test (A := p2) (B := p2) (fun _ _ _ => by kernel_rfl) (Sim.ret (A := p2) (E := ex) (fun _ => trivial))
  (Sim.skip (A := p2)))
  (Sim.seq (Sim.reg (A := p2) (B := p3) (fun _ _ _ => by kernel_rfl))
  (Sim.seq (Sim.test (A := p3) (B := p3) (fun _ _ _ => by kernel_rfl) (Sim.reg (A := p3) (B := p3) (fun _ _ _ => by kernel_rfl))
  (Sim.skip (A := p3)))
  (Sim.seq (Sim.test (A := p3) (B := p3) (fun _ _ _ => by kernel_rfl) (Sim.reg (A := p3) (B := p3) (fun _ _ _ => by kernel_rfl))
  (Sim.skip (A := p3)))
  (Sim.seq (Sim.test (A := p3) (B := p3) (fun _ _ _ => by kernel_rfl) (Sim.reg (A := p3) (B := p3) (fun _ _ _ => by kernel_rfl))
  (Sim.skip (A := p3)))
  (Sim.seq (Sim.reg (A := p3) (B := p4) (fun _ _ _ => by kernel_rfl))
  (Sim.seq (Sim.test (A := p4) (B := p4) (fun _ _ _ => by kernel_rfl) (Sim.reg (A := p4) (B := p5) (fun _ _ _ => by kernel_rfl))
  (Sim.seq (Sim.reg (A := p4) (B := p4) (fun _ _ _ => by kernel_rfl))
  (Sim.reg (A := p4) (B := p5) (fun _ _ _ => by kernel_rfl))))
  (Sim.seq (Sim.reg (A := p5) (B := p5) (fun _ _ _ => by kernel_rfl))
  (Sim.reg (A := p5) (B := p0) (fun _ _ _ => by kernel_rfl)))))))))))

def init (x_w : Option Addr) (x_data : Sl) (x_form : Int) : St := { x_w := x_w, x_data := x_data, x_form := x_form, x_n := 0, x_least := 0, x_bytes := 0 }

/-- What is left of the results. -/
def res (K : Heap → Prop) (s : St) (h1 : Heap) : Prop := K h1

/-- The call of '(*pub-pemmican/spec.writer).literal'. -/
theorem calls (x_w : Option Addr) (x_data : Sl) (x_form : Int) (h : Heap) (K : Heap → Prop)
    (H : stm (init x_w x_data x_form) h (endK (res K))) : c_writer_literal x_w x_data x_form h K := by
  have hc : CallsH Pg 39 #[(.pointer x_w), (.slice x_data.p x_data.n x_data.c), (.int .u32 x_form)] h fun v h1 => asT v fun l1 => asN l1 (K h1) :=
    callsH_of_sim (R := p0) (fn := Tryd.f39) (c := Tryd.f39.body.getD .skip) Tryd.func39 rfl Tryd.ntmps39 Tryd.call39 sim (init x_w x_data x_form) (⟨rfl, rfl, rfl, trivial⟩) (Nat.le_of_ble_eq_true rfl) (fun _ => trivial) rfl
      (res K) (fun _ _ => by kernel_rfl) H
  refine hc.mono ?_
  intro v hp H
  obtain ⟨l1, rfl, h1⟩ := asT_elim H
  obtain ⟨rfl, h2⟩ := asN_elim h1
  exact ⟨rfl, h2⟩

end M_writer_literal

end Go.Proofs.YtibleenkgmkpmaaDoor

namespace Go.Proofs.YtibleenkgmkpmaaDoor
open Go Go.Vc Go.Proofs

namespace M_writer_copy

structure St where
  x_w : Option Addr
  x_bytes : Int
  x_p_0 : Int
  x_p_1 : Sl
  x_p_2 : Int
  x_p_3 : Int
  x_pq5 : Option Addr
  x_least : Int
  x_most : Int
  x_far : Int
  x_offset : Int
  x_length : Int

def p0 : Pt St where
  env s := []
  fin e s K := K s
  ok := by
    intro e s K h0
    exact ⟨_, trivial, h0⟩

def p1 : Pt St where
  env s := [(0, (.pointer s.x_w)), (1, (.int .i64 s.x_bytes)), (2, (.agg #[(.int .u8 s.x_p_0), (.slice s.x_p_1.p s.x_p_1.n s.x_p_1.c), (.int .u32 s.x_p_2), (.int .u32 s.x_p_3)]))]
  fin e s K := getV e 0 fun v1 => asP v1 fun p1 => getV e 1 fun v2 => asI .i64 v2 fun n1 => getV e 2 fun v3 => asA v3 fun l1 => asC l1 fun v4 l2 => asI .u8 v4 fun n2 => asC l2 fun v5 l3 => asS v5 fun p2 n3 c1 => asC l3 fun v6 l4 => asI .u32 v6 fun n4 => asC l4 fun v7 l5 => asI .u32 v7 fun n5 => asN l5 (K { s with x_w := p1, x_bytes := n1, x_p_0 := n2, x_p_1 := ⟨p2, n3, c1⟩, x_p_2 := n4, x_p_3 := n5 })
  ok := by
    intro e s K h0
    obtain ⟨w1, g1, h1⟩ := getV_elim h0
    obtain ⟨p1, rfl, h2⟩ := asP_elim h1
    obtain ⟨w2, g2, h3⟩ := getV_elim h2
    obtain ⟨n1, rfl, h4⟩ := asI_elim h3
    obtain ⟨w3, g3, h5⟩ := getV_elim h4
    obtain ⟨l1, rfl, h6⟩ := asA_elim h5
    obtain ⟨v1, l2, rfl, h7⟩ := asC_elim h6
    obtain ⟨n2, rfl, h8⟩ := asI_elim h7
    obtain ⟨v2, l3, rfl, h9⟩ := asC_elim h8
    obtain ⟨p2, n3, c1, rfl, h10⟩ := asS_elim h9
    obtain ⟨v3, l4, rfl, h11⟩ := asC_elim h10
    obtain ⟨n4, rfl, h12⟩ := asI_elim h11
    obtain ⟨v4, l5, rfl, h13⟩ := asC_elim h12
    obtain ⟨n5, rfl, h14⟩ := asI_elim h13
    obtain ⟨rfl, h15⟩ := asN_elim h14
    exact ⟨_, ⟨g1, g2, g3, trivial⟩, h15⟩

def p2 : Pt St where
  env s := [(0, (.pointer s.x_w)), (1, (.int .i64 s.x_bytes)), (5, (.pointer s.x_pq5))]
  fin e s K := getV e 0 fun v1 => asP v1 fun p1 => getV e 1 fun v2 => asI .i64 v2 fun n1 => getV e 5 fun v3 => asP v3 fun p2 => K { s with x_w := p1, x_bytes := n1, x_pq5 := p2 }
  ok := by
    intro e s K h0
    obtain ⟨w1, g1, h1⟩ := getV_elim h0
    obtain ⟨p1, rfl, h2⟩ := asP_elim h1
    obtain ⟨w2, g2, h3⟩ := getV_elim h2
    obtain ⟨n1, rfl, h4⟩ := asI_elim h3
    obtain ⟨w3, g3, h5⟩ := getV_elim h4
    obtain ⟨p2, rfl, h6⟩ := asP_elim h5
    exact ⟨_, ⟨g1, g2, g3, trivial⟩, h6⟩

def p3 : Pt St where
  env s := [(0, (.pointer s.x_w)), (1, (.int .i64 s.x_bytes)), (5, (.pointer s.x_pq5)), (6, (.int .i64 s.x_least)), (7, (.int .i64 s.x_most)), (8, (.int .i64 s.x_far))]
  fin e s K := getV e 0 fun v1 => asP v1 fun p1 => getV e 1 fun v2 => asI .i64 v2 fun n1 => getV e 5 fun v3 => asP v3 fun p2 => getV e 6 fun v4 => asI .i64 v4 fun n2 => getV e 7 fun v5 => asI .i64 v5 fun n3 => getV e 8 fun v6 => asI .i64 v6 fun n4 => K { s with x_w := p1, x_bytes := n1, x_pq5 := p2, x_least := n2, x_most := n3, x_far := n4 }
  ok := by
    intro e s K h0
    obtain ⟨w1, g1, h1⟩ := getV_elim h0
    obtain ⟨p1, rfl, h2⟩ := asP_elim h1
    obtain ⟨w2, g2, h3⟩ := getV_elim h2
    obtain ⟨n1, rfl, h4⟩ := asI_elim h3
    obtain ⟨w3, g3, h5⟩ := getV_elim h4
    obtain ⟨p2, rfl, h6⟩ := asP_elim h5
    obtain ⟨w4, g4, h7⟩ := getV_elim h6
    obtain ⟨n2, rfl, h8⟩ := asI_elim h7
    obtain ⟨w5, g5, h9⟩ := getV_elim h8
    obtain ⟨n3, rfl, h10⟩ := asI_elim h9
    obtain ⟨w6, g6, h11⟩ := getV_elim h10
    obtain ⟨n4, rfl, h12⟩ := asI_elim h11
    exact ⟨_, ⟨g1, g2, g3, g4, g5, g6, trivial⟩, h12⟩

def p4 : Pt St where
  env s := [(0, (.pointer s.x_w)), (1, (.int .i64 s.x_bytes)), (5, (.pointer s.x_pq5)), (6, (.int .i64 s.x_least)), (7, (.int .i64 s.x_most)), (9, (.int .i64 s.x_offset))]
  fin e s K := getV e 0 fun v1 => asP v1 fun p1 => getV e 1 fun v2 => asI .i64 v2 fun n1 => getV e 5 fun v3 => asP v3 fun p2 => getV e 6 fun v4 => asI .i64 v4 fun n2 => getV e 7 fun v5 => asI .i64 v5 fun n3 => getV e 9 fun v6 => asI .i64 v6 fun n4 => K { s with x_w := p1, x_bytes := n1, x_pq5 := p2, x_least := n2, x_most := n3, x_offset := n4 }
  ok := by
    intro e s K h0
    obtain ⟨w1, g1, h1⟩ := getV_elim h0
    obtain ⟨p1, rfl, h2⟩ := asP_elim h1
    obtain ⟨w2, g2, h3⟩ := getV_elim h2
    obtain ⟨n1, rfl, h4⟩ := asI_elim h3
    obtain ⟨w3, g3, h5⟩ := getV_elim h4
    obtain ⟨p2, rfl, h6⟩ := asP_elim h5
    obtain ⟨w4, g4, h7⟩ := getV_elim h6
    obtain ⟨n2, rfl, h8⟩ := asI_elim h7
    obtain ⟨w5, g5, h9⟩ := getV_elim h8
    obtain ⟨n3, rfl, h10⟩ := asI_elim h9
    obtain ⟨w6, g6, h11⟩ := getV_elim h10
    obtain ⟨n4, rfl, h12⟩ := asI_elim h11
    exact ⟨_, ⟨g1, g2, g3, g4, g5, g6, trivial⟩, h12⟩

def p5 : Pt St where
  env s := [(0, (.pointer s.x_w)), (1, (.int .i64 s.x_bytes)), (9, (.int .i64 s.x_offset)), (10, (.int .i64 s.x_length))]
  fin e s K := getV e 0 fun v1 => asP v1 fun p1 => getV e 1 fun v2 => asI .i64 v2 fun n1 => getV e 9 fun v3 => asI .i64 v3 fun n2 => getV e 10 fun v4 => asI .i64 v4 fun n3 => K { s with x_w := p1, x_bytes := n1, x_offset := n2, x_length := n3 }
  ok := by
    intro e s K h0
    obtain ⟨w1, g1, h1⟩ := getV_elim h0
    obtain ⟨p1, rfl, h2⟩ := asP_elim h1
    obtain ⟨w2, g2, h3⟩ := getV_elim h2
    obtain ⟨n1, rfl, h4⟩ := asI_elim h3
    obtain ⟨w3, g3, h5⟩ := getV_elim h4
    obtain ⟨n2, rfl, h6⟩ := asI_elim h5
    obtain ⟨w4, g4, h7⟩ := getV_elim h6
    obtain ⟨n3, rfl, h8⟩ := asI_elim h7
    exact ⟨_, ⟨g1, g2, g3, g4, trivial⟩, h8⟩

def p6 : Pt St where
  env s := [(0, (.pointer s.x_w)), (9, (.int .i64 s.x_offset)), (10, (.int .i64 s.x_length))]
  fin e s K := getV e 0 fun v1 => asP v1 fun p1 => getV e 9 fun v2 => asI .i64 v2 fun n1 => getV e 10 fun v3 => asI .i64 v3 fun n2 => K { s with x_w := p1, x_offset := n1, x_length := n2 }
  ok := by
    intro e s K h0
    obtain ⟨w1, g1, h1⟩ := getV_elim h0
    obtain ⟨p1, rfl, h2⟩ := asP_elim h1
    obtain ⟨w2, g2, h3⟩ := getV_elim h2
    obtain ⟨n1, rfl, h4⟩ := asI_elim h3
    obtain ⟨w3, g3, h5⟩ := getV_elim h4
    obtain ⟨n2, rfl, h6⟩ := asI_elim h5
    exact ⟨_, ⟨g1, g2, g3, trivial⟩, h6⟩

def r0 (s : St) (h : Heap) (Q : St → Heap → Prop) : Prop :=
  withH (hnew h [(.int .u8 s.x_p_0), (.slice s.x_p_1.p s.x_p_1.n s.x_p_1.c), (.int .u32 s.x_p_2), (.int .u32 s.x_p_3)] 73) fun h1 =>
  Q { s with x_pq5 := (some ⟨Array.size h, 0, none⟩) } h1

def r1 (s : St) (h : Heap) (Q : St → Heap → Prop) : Prop :=
  (if (IntKind.wrap .i64 ((8 : Int) * s.x_bytes)) < 0 then False else
  Q { s with x_least := (1 : Int), x_most := (64 : Int), x_far := (IntKind.wrap .i64 ((IntKind.wrap .i64 ((1 : Int) * 2 ^ (min (Int.toNat (IntKind.wrap .i64 ((8 : Int) * s.x_bytes))) 64))) - (1 : Int))) } h)

def r2 (s : St) (h : Heap) (Q : Bool → St → Heap → Prop) : Prop :=
  Q (s.x_bytes == (1 : Int)) s h

def r3 (s : St) (h : Heap) (Q : St → Heap → Prop) : Prop :=
  Q { s with x_least := (4 : Int), x_most := (11 : Int), x_far := (2047 : Int) } h

def r4 (s : St) (h : Heap) (Q : St → Heap → Prop) : Prop :=
  c_writer_back s.x_w h fun r2 h1 =>
  Q { s with x_far := (if r2 < s.x_far then r2 else s.x_far) } h1

def r5 (s : St) (h : Heap) (Q : Bool → St → Heap → Prop) : Prop :=
  Q (decide (s.x_far < (1 : Int))) s h

def r6 (s : St) (h : Heap) (Q : St → Heap → Prop) : Prop :=
  ptrE s.x_pq5 fun a1 =>
  ∃ v2 : Int, hcell h (Addr.add a1 2) = some (.int .u32 v2) ∧
  c_spec_within v2 (1 : Int) s.x_far h fun r4 h3 =>
  Q { s with x_offset := r4 } h3

def r7 (s : St) (h : Heap) (Q : St → Heap → Prop) : Prop :=
  c_writer_longest s.x_w s.x_offset s.x_most h fun r2 h1 =>
  Q { s with x_most := r2 } h1

def r8 (s : St) (h : Heap) (Q : Bool → St → Heap → Prop) : Prop :=
  Q (decide (s.x_most < s.x_least)) s h

def r9 (s : St) (h : Heap) (Q : St → Heap → Prop) : Prop :=
  ptrE s.x_pq5 fun a1 =>
  ∃ v2 : Int, hcell h (Addr.add a1 3) = some (.int .u32 v2) ∧
  c_spec_within v2 s.x_least s.x_most h fun r4 h3 =>
  Q { s with x_length := r4 } h3

def r10 (s : St) (h : Heap) (Q : Bool → St → Heap → Prop) : Prop :=
  Q (s.x_bytes == (1 : Int)) s h

def r11 (s : St) (h : Heap) (Q : St → Heap → Prop) : Prop :=
  ptrE s.x_w fun a1 =>
  ∃ (p2 : Option Addr) (n3 c4 : Nat), hcell h (Addr.add a1 0) = some (.slice p2 n3 c4) ∧
  withH (hnew h [(.int .u8 (IntKind.wrap .u8 (bOr .i64 (bOr .i64 (IntKind.wrap .i64 ((Int.fdiv s.x_offset (2 ^ (8 : Nat))) * 2 ^ (5 : Nat))) (IntKind.wrap .i64 ((IntKind.wrap .i64 (s.x_length - (4 : Int))) * 2 ^ (2 : Nat)))) (1 : Int)))), (.int .u8 (IntKind.wrap .u8 s.x_offset))] 5) fun h5 =>
  appendT Pg 5 p2 n3 c4 (.slice (some ⟨Array.size h, 0, none⟩) 2 2) 2 h5 fun p6 n7 c8 h9 =>
  ptrE s.x_w fun a10 =>
  st1 (Addr.add (Addr.add a10 0) 0) (.slice p6 n7 c8) h9 fun h11 =>
  Q s h11

def r12 (s : St) (h : Heap) (Q : St → Heap → Prop) : Prop :=
  ptrE s.x_w fun a1 =>
  ∃ (p2 : Option Addr) (n3 c4 : Nat), hcell h (Addr.add a1 0) = some (.slice p2 n3 c4) ∧
  withH (hnew h [(.int .u8 (IntKind.wrap .u8 (bOr .i64 (IntKind.wrap .i64 ((IntKind.wrap .i64 (s.x_length - (1 : Int))) * 2 ^ (2 : Nat))) (IntKind.wrap .i64 ((IntKind.wrap .i64 (Int.tdiv s.x_bytes (2 : Int))) + (1 : Int))))))] 5) fun h5 =>
  appendT Pg 5 p2 n3 c4 (.slice (some ⟨Array.size h, 0, none⟩) 1 1) 1 h5 fun p6 n7 c8 h9 =>
  ptrE s.x_w fun a10 =>
  st1 (Addr.add (Addr.add a10 0) 0) (.slice p6 n7 c8) h9 fun h11 =>
  Q s h11

def r13 (s : St) (h : Heap) (Q : St → Heap → Prop) : Prop :=
  ptrE s.x_w fun a1 =>
  (∃ (p2 : Option Addr) (n3 c4 : Nat), hcell h (Addr.add a1 0) = some (.slice p2 n3 c4) ∧
  c_spec_bytesOf s.x_offset s.x_bytes h fun w6 h5 =>
  appendT Pg 5 p2 n3 c4 (.slice w6.p w6.n w6.c) w6.n h5 fun p7 n8 c9 h10 =>
  ptrE s.x_w fun a11 =>
  st1 (Addr.add (Addr.add a11 0) 0) (.slice p7 n8 c9) h10 fun h12 =>
  Q s h12) ∧
  (c_spec_bytesOf s.x_offset s.x_bytes h fun w14 h13 =>
  ∃ (p15 : Option Addr) (n16 c17 : Nat), hcell h13 (Addr.add a1 0) = some (.slice p15 n16 c17) ∧
  appendT Pg 5 p15 n16 c17 (.slice w14.p w14.n w14.c) w14.n h13 fun p18 n19 c20 h21 =>
  ptrE s.x_w fun a22 =>
  st1 (Addr.add (Addr.add a22 0) 0) (.slice p18 n19 c20) h21 fun h23 =>
  Q s h23)

def r14 (s : St) (h : Heap) (Q : St → Heap → Prop) : Prop :=
  ptrE s.x_w fun a1 =>
  st1 (Addr.add (Addr.add (Addr.add a1 1) 2) 0) (.int .i64 s.x_offset) h fun h2 =>
  Q s h2

def r15 (s : St) (h : Heap) (Q : St → Heap → Prop) : Prop :=
  ptrE s.x_w fun a1 =>
  c_state_copied (some (Addr.add a1 1)) s.x_offset s.x_length h fun b3 h2 =>
  Q s h2

def k8 : Stm St := (.seq (.test r10 (.reg r11) (.seq (.reg r12) (.reg r13))) (.seq (.reg r14) (.reg r15)))
def k7 : Stm St := (.seq (.reg r9) k8)
def k6 : Stm St := (.seq (.test r8 .ret .skip) k7)
def k5 : Stm St := (.seq (.reg r7) k6)
def k4 : Stm St := (.seq (.reg r6) k5)
def k3 : Stm St := (.seq (.test r5 .ret .skip) k4)
def k2 : Stm St := (.seq (.reg r4) k3)
def k1 : Stm St := (.seq (.test r2 (.reg r3) .skip) k2)
def k0 : Stm St := (.seq (.reg r1) k1)

def stm : Stm St := (.seq (.reg r0) k0)

def ex : Ex → Pt St := fun _ => p0

set_option maxRecDepth 100000 in
theorem sim : Sim Pg 100 p1 (Tryd.f40.body.getD .skip) stm p0 ex :=
  (Sim.seq (Sim.reg (A := p1) (B := p2) (fun _ _ _ => by kernel_rfl))
  (Sim.seq (Sim.reg (A := p2) (B := p3) (fun _ _ _ => by kernel_rfl))
  (Sim.seq (Sim.test (A := p3) (B := p3) (fun _ _ _ => by kernel_rfl) (Sim.reg (A := p3) (B := p3) (fun _ _ _ => by kernel_rfl))
  (Sim.skip (A := p3)))
  (Sim.seq (Sim.reg (A := p3) (B := p3) (fun _ _ _ => by kernel_rfl))
  (Sim.seq (Sim.test (A := p3) (B := p3) (fun _ _ _ => by kernel_rfl) (Sim.ret (A := p3) (E := ex) (fun _ => trivial))
  (Sim.skip (A := p3)))
  (Sim.seq (Sim.reg (A := p3) (B := p4) (fun _ _ _ => by kernel_rfl))
  (Sim.seq (Sim.reg (A := p4) (B := p4) (fun _ _ _ => by kernel_rfl))
  (Sim.seq (Sim.test (A := p4) (B := p4) (fun _ _ _ => by kernel_rfl) (Sim.ret (A := p4) (E := ex) (fun _ => trivial))
  (Sim.skip (A := p4)))
  (Sim.seq (Sim.reg (A := p4) (B := p5) (fun _ _ _ => by kernel_rfl))
  (Sim.seq (Sim.test (A := p5) (B := p5) (fun _ _ _ => by kernel_rfl) (Sim.reg (A := p5) (B := p6) (fun _ _ _ => by kernel_rfl))
  (Sim.seq (Sim.reg (A := p5) (B := p5) (fun _ _ _ => by kernel_rfl))
  (Sim.reg (A := p5) (B := p6) (fun _ _ _ => by kernel_rfl))))
  (Sim.seq (Sim.reg (A := p6) (B := p6) (fun _ _ _ => by kernel_rfl))
  (Sim.reg (A := p6) (B := p0) (fun _ _ _ => by kernel_rfl)))))))))))))

def init (x_w : Option Addr) (x_bytes : Int) (x_p_0 : Int) (x_p_1 : Sl) (x_p_2 : Int) (x_p_3 : Int) : St := { x_w := x_w, x_bytes := x_bytes, x_p_0 := x_p_0, x_p_1 := x_p_1, x_p_2 := x_p_2, x_p_3 := x_p_3, x_pq5 := none, x_least := 0, x_most := 0, x_far := 0, x_offset := 0, x_length := 0 }

/-- What is left of the results. -/
def res (K : Heap → Prop) (s : St) (h1 : Heap) : Prop := K h1

/-- The call of '(*pub-pemmican/spec.writer).copy'. -/
theorem calls (x_w : Option Addr) (x_bytes : Int) (x_p_0 : Int) (x_p_1 : Sl) (x_p_2 : Int) (x_p_3 : Int) (h : Heap) (K : Heap → Prop)
    (H : stm (init x_w x_bytes x_p_0 x_p_1 x_p_2 x_p_3) h (endK (res K))) : c_writer_copy x_w x_bytes x_p_0 x_p_1 x_p_2 x_p_3 h K := by
  have hc : CallsH Pg 40 #[(.pointer x_w), (.int .i64 x_bytes), (.agg #[(.int .u8 x_p_0), (.slice x_p_1.p x_p_1.n x_p_1.c), (.int .u32 x_p_2), (.int .u32 x_p_3)])] h fun v h1 => asT v fun l1 => asN l1 (K h1) :=
    callsH_of_sim (R := p0) (fn := Tryd.f40) (c := Tryd.f40.body.getD .skip) Tryd.func40 rfl Tryd.ntmps40 Tryd.call40 sim (init x_w x_bytes x_p_0 x_p_1 x_p_2 x_p_3) (⟨rfl, rfl, rfl, trivial⟩) (Nat.le_of_ble_eq_true rfl) (fun _ => trivial) rfl
      (res K) (fun _ _ => by kernel_rfl) H
  refine hc.mono ?_
  intro v hp H
  obtain ⟨l1, rfl, h1⟩ := asT_elim H
  obtain ⟨rfl, h2⟩ := asN_elim h1
  exact ⟨rfl, h2⟩

end M_writer_copy

end Go.Proofs.YtibleenkgmkpmaaDoor

namespace Go.Proofs.YtibleenkgmkpmaaDoor
open Go Go.Vc Go.Proofs

namespace M_writer_repeat

structure St where
  x_w : Option Addr
  x_p_0 : Int
  x_p_1 : Sl
  x_p_2 : Int
  x_p_3 : Int
  x_pq3 : Option Addr
  x_bytes : Int
  x_least : Int
  x_most : Int
  x_length : Int
  x_tag : Int

def p0 : Pt St where
  env s := []
  fin e s K := K s
  ok := by
    intro e s K h0
    exact ⟨_, trivial, h0⟩

def p1 : Pt St where
  env s := [(0, (.pointer s.x_w)), (1, (.agg #[(.int .u8 s.x_p_0), (.slice s.x_p_1.p s.x_p_1.n s.x_p_1.c), (.int .u32 s.x_p_2), (.int .u32 s.x_p_3)]))]
  fin e s K := getV e 0 fun v1 => asP v1 fun p1 => getV e 1 fun v2 => asA v2 fun l1 => asC l1 fun v3 l2 => asI .u8 v3 fun n1 => asC l2 fun v4 l3 => asS v4 fun p2 n2 c1 => asC l3 fun v5 l4 => asI .u32 v5 fun n3 => asC l4 fun v6 l5 => asI .u32 v6 fun n4 => asN l5 (K { s with x_w := p1, x_p_0 := n1, x_p_1 := ⟨p2, n2, c1⟩, x_p_2 := n3, x_p_3 := n4 })
  ok := by
    intro e s K h0
    obtain ⟨w1, g1, h1⟩ := getV_elim h0
    obtain ⟨p1, rfl, h2⟩ := asP_elim h1
    obtain ⟨w2, g2, h3⟩ := getV_elim h2
    obtain ⟨l1, rfl, h4⟩ := asA_elim h3
    obtain ⟨v1, l2, rfl, h5⟩ := asC_elim h4
    obtain ⟨n1, rfl, h6⟩ := asI_elim h5
    obtain ⟨v2, l3, rfl, h7⟩ := asC_elim h6
    obtain ⟨p2, n2, c1, rfl, h8⟩ := asS_elim h7
    obtain ⟨v3, l4, rfl, h9⟩ := asC_elim h8
    obtain ⟨n3, rfl, h10⟩ := asI_elim h9
    obtain ⟨v4, l5, rfl, h11⟩ := asC_elim h10
    obtain ⟨n4, rfl, h12⟩ := asI_elim h11
    obtain ⟨rfl, h13⟩ := asN_elim h12
    exact ⟨_, ⟨g1, g2, trivial⟩, h13⟩

def p2 : Pt St where
  env s := [(0, (.pointer s.x_w)), (3, (.pointer s.x_pq3))]
  fin e s K := getV e 0 fun v1 => asP v1 fun p1 => getV e 3 fun v2 => asP v2 fun p2 => K { s with x_w := p1, x_pq3 := p2 }
  ok := by
    intro e s K h0
    obtain ⟨w1, g1, h1⟩ := getV_elim h0
    obtain ⟨p1, rfl, h2⟩ := asP_elim h1
    obtain ⟨w2, g2, h3⟩ := getV_elim h2
    obtain ⟨p2, rfl, h4⟩ := asP_elim h3
    exact ⟨_, ⟨g1, g2, trivial⟩, h4⟩

def p3 : Pt St where
  env s := [(0, (.pointer s.x_w)), (3, (.pointer s.x_pq3)), (4, (.int .i64 s.x_bytes))]
  fin e s K := getV e 0 fun v1 => asP v1 fun p1 => getV e 3 fun v2 => asP v2 fun p2 => getV e 4 fun v3 => asI .i64 v3 fun n1 => K { s with x_w := p1, x_pq3 := p2, x_bytes := n1 }
  ok := by
    intro e s K h0
    obtain ⟨w1, g1, h1⟩ := getV_elim h0
    obtain ⟨p1, rfl, h2⟩ := asP_elim h1
    obtain ⟨w2, g2, h3⟩ := getV_elim h2
    obtain ⟨p2, rfl, h4⟩ := asP_elim h3
    obtain ⟨w3, g3, h5⟩ := getV_elim h4
    obtain ⟨n1, rfl, h6⟩ := asI_elim h5
    exact ⟨_, ⟨g1, g2, g3, trivial⟩, h6⟩

def p4 : Pt St where
  env s := [(0, (.pointer s.x_w)), (3, (.pointer s.x_pq3)), (4, (.int .i64 s.x_bytes)), (5, (.int .i64 s.x_least))]
  fin e s K := getV e 0 fun v1 => asP v1 fun p1 => getV e 3 fun v2 => asP v2 fun p2 => getV e 4 fun v3 => asI .i64 v3 fun n1 => getV e 5 fun v4 => asI .i64 v4 fun n2 => K { s with x_w := p1, x_pq3 := p2, x_bytes := n1, x_least := n2 }
  ok := by
    intro e s K h0
    obtain ⟨w1, g1, h1⟩ := getV_elim h0
    obtain ⟨p1, rfl, h2⟩ := asP_elim h1
    obtain ⟨w2, g2, h3⟩ := getV_elim h2
    obtain ⟨p2, rfl, h4⟩ := asP_elim h3
    obtain ⟨w3, g3, h5⟩ := getV_elim h4
    obtain ⟨n1, rfl, h6⟩ := asI_elim h5
    obtain ⟨w4, g4, h7⟩ := getV_elim h6
    obtain ⟨n2, rfl, h8⟩ := asI_elim h7
    exact ⟨_, ⟨g1, g2, g3, g4, trivial⟩, h8⟩

def p5 : Pt St where
  env s := [(0, (.pointer s.x_w)), (3, (.pointer s.x_pq3)), (4, (.int .i64 s.x_bytes)), (5, (.int .i64 s.x_least)), (6, (.int .i64 s.x_most))]
  fin e s K := getV e 0 fun v1 => asP v1 fun p1 => getV e 3 fun v2 => asP v2 fun p2 => getV e 4 fun v3 => asI .i64 v3 fun n1 => getV e 5 fun v4 => asI .i64 v4 fun n2 => getV e 6 fun v5 => asI .i64 v5 fun n3 => K { s with x_w := p1, x_pq3 := p2, x_bytes := n1, x_least := n2, x_most := n3 }
  ok := by
    intro e s K h0
    obtain ⟨w1, g1, h1⟩ := getV_elim h0
    obtain ⟨p1, rfl, h2⟩ := asP_elim h1
    obtain ⟨w2, g2, h3⟩ := getV_elim h2
    obtain ⟨p2, rfl, h4⟩ := asP_elim h3
    obtain ⟨w3, g3, h5⟩ := getV_elim h4
    obtain ⟨n1, rfl, h6⟩ := asI_elim h5
    obtain ⟨w4, g4, h7⟩ := getV_elim h6
    obtain ⟨n2, rfl, h8⟩ := asI_elim h7
    obtain ⟨w5, g5, h9⟩ := getV_elim h8
    obtain ⟨n3, rfl, h10⟩ := asI_elim h9
    exact ⟨_, ⟨g1, g2, g3, g4, g5, trivial⟩, h10⟩

def p6 : Pt St where
  env s := [(0, (.pointer s.x_w)), (4, (.int .i64 s.x_bytes)), (5, (.int .i64 s.x_least)), (7, (.int .i64 s.x_length))]
  fin e s K := getV e 0 fun v1 => asP v1 fun p1 => getV e 4 fun v2 => asI .i64 v2 fun n1 => getV e 5 fun v3 => asI .i64 v3 fun n2 => getV e 7 fun v4 => asI .i64 v4 fun n3 => K { s with x_w := p1, x_bytes := n1, x_least := n2, x_length := n3 }
  ok := by
    intro e s K h0
    obtain ⟨w1, g1, h1⟩ := getV_elim h0
    obtain ⟨p1, rfl, h2⟩ := asP_elim h1
    obtain ⟨w2, g2, h3⟩ := getV_elim h2
    obtain ⟨n1, rfl, h4⟩ := asI_elim h3
    obtain ⟨w3, g3, h5⟩ := getV_elim h4
    obtain ⟨n2, rfl, h6⟩ := asI_elim h5
    obtain ⟨w4, g4, h7⟩ := getV_elim h6
    obtain ⟨n3, rfl, h8⟩ := asI_elim h7
    exact ⟨_, ⟨g1, g2, g3, g4, trivial⟩, h8⟩

def p7 : Pt St where
  env s := [(0, (.pointer s.x_w)), (4, (.int .i64 s.x_bytes)), (5, (.int .i64 s.x_least)), (7, (.int .i64 s.x_length)), (8, (.int .i64 s.x_tag))]
  fin e s K := getV e 0 fun v1 => asP v1 fun p1 => getV e 4 fun v2 => asI .i64 v2 fun n1 => getV e 5 fun v3 => asI .i64 v3 fun n2 => getV e 7 fun v4 => asI .i64 v4 fun n3 => getV e 8 fun v5 => asI .i64 v5 fun n4 => K { s with x_w := p1, x_bytes := n1, x_least := n2, x_length := n3, x_tag := n4 }
  ok := by
    intro e s K h0
    obtain ⟨w1, g1, h1⟩ := getV_elim h0
    obtain ⟨p1, rfl, h2⟩ := asP_elim h1
    obtain ⟨w2, g2, h3⟩ := getV_elim h2
    obtain ⟨n1, rfl, h4⟩ := asI_elim h3
    obtain ⟨w3, g3, h5⟩ := getV_elim h4
    obtain ⟨n2, rfl, h6⟩ := asI_elim h5
    obtain ⟨w4, g4, h7⟩ := getV_elim h6
    obtain ⟨n3, rfl, h8⟩ := asI_elim h7
    obtain ⟨w5, g5, h9⟩ := getV_elim h8
    obtain ⟨n4, rfl, h10⟩ := asI_elim h9
    exact ⟨_, ⟨g1, g2, g3, g4, g5, trivial⟩, h10⟩

def p8 : Pt St where
  env s := [(0, (.pointer s.x_w)), (7, (.int .i64 s.x_length))]
  fin e s K := getV e 0 fun v1 => asP v1 fun p1 => getV e 7 fun v2 => asI .i64 v2 fun n1 => K { s with x_w := p1, x_length := n1 }
  ok := by
    intro e s K h0
    obtain ⟨w1, g1, h1⟩ := getV_elim h0
    obtain ⟨p1, rfl, h2⟩ := asP_elim h1
    obtain ⟨w2, g2, h3⟩ := getV_elim h2
    obtain ⟨n1, rfl, h4⟩ := asI_elim h3
    exact ⟨_, ⟨g1, g2, trivial⟩, h4⟩

def r0 (s : St) (h : Heap) (Q : St → Heap → Prop) : Prop :=
  withH (hnew h [(.int .u8 s.x_p_0), (.slice s.x_p_1.p s.x_p_1.n s.x_p_1.c), (.int .u32 s.x_p_2), (.int .u32 s.x_p_3)] 73) fun h1 =>
  Q { s with x_pq3 := (some ⟨Array.size h, 0, none⟩) } h1

def r1 (s : St) (h : Heap) (Q : Bool → St → Heap → Prop) : Prop :=
  ptrE s.x_w fun a1 =>
  ∃ v2 : Int, hcell h (Addr.add (Addr.add a1 1) 2) = some (.int .i64 v2) ∧
  (if (v2 == (0 : Int)) = false then
  (ptrE s.x_w fun a3 =>
  (∃ v4 : Int, hcell h (Addr.add (Addr.add a3 1) 2) = some (.int .i64 v4) ∧
  c_writer_back s.x_w h fun r6 h5 =>
  Q (decide (v4 > r6)) s h5) ∧
  (c_writer_back s.x_w h fun r8 h7 =>
  ∃ v9 : Int, hcell h7 (Addr.add (Addr.add a3 1) 2) = some (.int .i64 v9) ∧
  Q (decide (v9 > r8)) s h7))
  else
  ((Q true s h) ∧
  (Q true s h)))

def r2 (s : St) (h : Heap) (Q : St → Heap → Prop) : Prop :=
  ptrE s.x_pq3 fun a1 =>
  ∃ v2 : Int, hcell h (Addr.add a1 2) = some (.int .u32 v2) ∧
  c_spec_within v2 (0 : Int) (3 : Int) h fun r4 h3 =>
  Q { s with x_bytes := r4 } h3

def r3 (s : St) (h : Heap) (Q : St → Heap → Prop) : Prop :=
  withH (hnew h [(.int .i64 (4 : Int)), (.int .i64 (8 : Int)), (.int .i64 (260 : Int)), (.int .i64 (65540 : Int))] 3) fun h1 =>
  0 ≤ s.x_bytes ∧ s.x_bytes < ((4 : Nat) : Int) ∧
  ∃ v2 : Int, hcell h1 (Addr.add ⟨Array.size h, 0, none⟩ (Int.toNat s.x_bytes * 1)) = some (.int .i64 v2) ∧
  Q { s with x_least := v2 } h1

def r4 (s : St) (h : Heap) (Q : St → Heap → Prop) : Prop :=
  ptrE s.x_w fun a1 =>
  ∃ v2 : Int, hcell h (Addr.add (Addr.add a1 1) 2) = some (.int .i64 v2) ∧
  withH (hnew h [(.int .i64 (8 : Int)), (.int .i64 (263 : Int)), (.int .i64 (65795 : Int)), (.int .i64 (66000 : Int))] 3) fun h3 =>
  0 ≤ s.x_bytes ∧ s.x_bytes < ((4 : Nat) : Int) ∧
  ∃ v4 : Int, hcell h3 (Addr.add ⟨Array.size h, 0, none⟩ (Int.toNat s.x_bytes * 1)) = some (.int .i64 v4) ∧
  c_writer_longest s.x_w v2 v4 h3 fun r6 h5 =>
  Q { s with x_most := r6 } h5

def r5 (s : St) (h : Heap) (Q : Bool → St → Heap → Prop) : Prop :=
  Q (decide (s.x_most < s.x_least)) s h

def r6 (s : St) (h : Heap) (Q : St → Heap → Prop) : Prop :=
  ptrE s.x_pq3 fun a1 =>
  ∃ v2 : Int, hcell h (Addr.add a1 3) = some (.int .u32 v2) ∧
  c_spec_within v2 s.x_least s.x_most h fun r4 h3 =>
  Q { s with x_length := r4 } h3

def r7 (s : St) (h : Heap) (Q : St → Heap → Prop) : Prop :=
  Q { s with x_tag := (IntKind.wrap .i64 (s.x_bytes + (4 : Int))) } h

def r8 (s : St) (h : Heap) (Q : Bool → St → Heap → Prop) : Prop :=
  Q (s.x_bytes == (0 : Int)) s h

def r9 (s : St) (h : Heap) (Q : St → Heap → Prop) : Prop :=
  Q { s with x_tag := (IntKind.wrap .i64 (s.x_length - (4 : Int))) } h

def r10 (s : St) (h : Heap) (Q : St → Heap → Prop) : Prop :=
  ptrE s.x_w fun a1 =>
  ∃ (p2 : Option Addr) (n3 c4 : Nat), hcell h (Addr.add a1 0) = some (.slice p2 n3 c4) ∧
  withH (hnew h [(.int .u8 (IntKind.wrap .u8 (bOr .i64 (IntKind.wrap .i64 (s.x_tag * 2 ^ (2 : Nat))) (1 : Int)))), (.int .u8 (0 : Int))] 5) fun h5 =>
  appendT Pg 5 p2 n3 c4 (.slice (some ⟨Array.size h, 0, none⟩) 2 2) 2 h5 fun p6 n7 c8 h9 =>
  ptrE s.x_w fun a10 =>
  st1 (Addr.add (Addr.add a10 0) 0) (.slice p6 n7 c8) h9 fun h11 =>
  Q s h11

def r11 (s : St) (h : Heap) (Q : St → Heap → Prop) : Prop :=
  ptrE s.x_w fun a1 =>
  (∃ (p2 : Option Addr) (n3 c4 : Nat), hcell h (Addr.add a1 0) = some (.slice p2 n3 c4) ∧
  c_spec_bytesOf (IntKind.wrap .i64 (s.x_length - s.x_least)) s.x_bytes h fun w6 h5 =>
  appendT Pg 5 p2 n3 c4 (.slice w6.p w6.n w6.c) w6.n h5 fun p7 n8 c9 h10 =>
  ptrE s.x_w fun a11 =>
  st1 (Addr.add (Addr.add a11 0) 0) (.slice p7 n8 c9) h10 fun h12 =>
  Q s h12) ∧
  (c_spec_bytesOf (IntKind.wrap .i64 (s.x_length - s.x_least)) s.x_bytes h fun w14 h13 =>
  ∃ (p15 : Option Addr) (n16 c17 : Nat), hcell h13 (Addr.add a1 0) = some (.slice p15 n16 c17) ∧
  appendT Pg 5 p15 n16 c17 (.slice w14.p w14.n w14.c) w14.n h13 fun p18 n19 c20 h21 =>
  ptrE s.x_w fun a22 =>
  st1 (Addr.add (Addr.add a22 0) 0) (.slice p18 n19 c20) h21 fun h23 =>
  Q s h23)

def r12 (s : St) (h : Heap) (Q : St → Heap → Prop) : Prop :=
  ptrE s.x_w fun a1 =>
  ptrE s.x_w fun a2 =>
  ∃ v3 : Int, hcell h (Addr.add (Addr.add a2 1) 2) = some (.int .i64 v3) ∧
  c_state_copied (some (Addr.add a1 1)) v3 s.x_length h fun b5 h4 =>
  Q s h4

def k8 : Stm St := (.seq (.reg r10) (.seq (.reg r11) (.reg r12)))
def k7 : Stm St := (.seq (.test r8 (.reg r9) .skip) k8)
def k6 : Stm St := (.seq (.reg r7) k7)
def k5 : Stm St := (.seq (.reg r6) k6)
def k4 : Stm St := (.seq (.test r5 .ret .skip) k5)
def k3 : Stm St := (.seq (.reg r4) k4)
def k2 : Stm St := (.seq (.reg r3) k3)
def k1 : Stm St := (.seq (.reg r2) k2)
def k0 : Stm St := (.seq (.test r1 .ret .skip) k1)

def stm : Stm St := (.seq (.reg r0) k0)

def ex : Ex → Pt St := fun _ => p0

set_option maxRecDepth 100000 in
theorem sim : Sim Pg 93 p1 (Tryd.f41.body.getD .skip) stm p0 ex :=
  (Sim.seq (Sim.reg (A := p1) (B := p2) (fun _ _ _ => by kernel_rfl))
  (Sim.seq (Sim.test (A := p2) (B := p2) (fun _ _ _ => by kernel_rfl) (Sim.ret (A := p2) (E := ex) (fun _ => trivial))
  (Sim.skip (A := p2)))
  (Sim.seq (Sim.reg (A := p2) (B := p3) (fun _ _ _ => by kernel_rfl))
  (Sim.seq (Sim.reg (A := p3) (B := p4) (fun _ _ _ => by kernel_rfl))
  (Sim.seq (Sim.reg (A := p4) (B := p5) (fun _ _ _ => by kernel_rfl))
  (Sim.seq (Sim.test (A := p5) (B := p5) (fun _ _ _ => by kernel_rfl) (Sim.ret (A := p5) (E := ex) (fun _ => trivial))
  (Sim.skip (A := p5)))
  (Sim.seq (Sim.reg (A := p5) (B := p6) (fun _ _ _ => by kernel_rfl))
  (Sim.seq (Sim.reg (A := p6) (B := p7) (fun _ _ _ => by kernel_rfl))
  (Sim.seq (Sim.test (A := p7) (B := p7) (fun _ _ _ => by kernel_rfl) (Sim.reg (A := p7) (B := p7) (fun _ _ _ => by kernel_rfl))
  (Sim.skip (A := p7)))
  (Sim.seq (Sim.reg (A := p7) (B := p6) (fun _ _ _ => by kernel_rfl))
  (Sim.seq (Sim.reg (A := p6) (B := p8) (fun _ _ _ => by kernel_rfl))
  (Sim.reg (A := p8) (B := p0) (fun _ _ _ => by kernel_rfl)))))))))))))

def init (x_w : Option Addr) (x_p_0 : Int) (x_p_1 : Sl) (x_p_2 : Int) (x_p_3 : Int) : St := { x_w := x_w, x_p_0 := x_p_0, x_p_1 := x_p_1, x_p_2 := x_p_2, x_p_3 := x_p_3, x_pq3 := none, x_bytes := 0, x_least := 0, x_most := 0, x_length := 0, x_tag := 0 }

/-- What is left of the results. -/
def res (K : Heap → Prop) (s : St) (h1 : Heap) : Prop := K h1

/-- The call of '(*pub-pemmican/spec.writer).repeat'. -/
theorem calls (x_w : Option Addr) (x_p_0 : Int) (x_p_1 : Sl) (x_p_2 : Int) (x_p_3 : Int) (h : Heap) (K : Heap → Prop)
    (H : stm (init x_w x_p_0 x_p_1 x_p_2 x_p_3) h (endK (res K))) : c_writer_repeat x_w x_p_0 x_p_1 x_p_2 x_p_3 h K := by
  have hc : CallsH Pg 41 #[(.pointer x_w), (.agg #[(.int .u8 x_p_0), (.slice x_p_1.p x_p_1.n x_p_1.c), (.int .u32 x_p_2), (.int .u32 x_p_3)])] h fun v h1 => asT v fun l1 => asN l1 (K h1) :=
    callsH_of_sim (R := p0) (fn := Tryd.f41) (c := Tryd.f41.body.getD .skip) Tryd.func41 rfl Tryd.ntmps41 Tryd.call41 sim (init x_w x_p_0 x_p_1 x_p_2 x_p_3) (⟨rfl, rfl, trivial⟩) (Nat.le_of_ble_eq_true rfl) (fun _ => trivial) rfl
      (res K) (fun _ _ => by kernel_rfl) H
  refine hc.mono ?_
  intro v hp H
  obtain ⟨l1, rfl, h1⟩ := asT_elim H
  obtain ⟨rfl, h2⟩ := asN_elim h1
  exact ⟨rfl, h2⟩

end M_writer_repeat

end Go.Proofs.YtibleenkgmkpmaaDoor

namespace Go.Proofs.YtibleenkgmkpmaaDoor
open Go Go.Vc Go.Proofs

namespace M_laws_zzFits1

structure St where
  x_x : Sl
  t2 : Bool
  x_v : Option Addr
  t8 : Sl
  t9 : Int
  t10 : Int
  t11 : Bool

def p0 : Pt St where
  env s := [(2, (.bool s.t2))]
  fin e s K := getV e 2 fun v1 => asB v1 fun b1 => K { s with t2 := b1 }
  ok := by
    intro e s K h0
    obtain ⟨w1, g1, h1⟩ := getV_elim h0
    obtain ⟨b1, rfl, h2⟩ := asB_elim h1
    exact ⟨_, ⟨g1, trivial⟩, h2⟩

def p1 : Pt St where
  env s := [(0, (.slice s.x_x.p s.x_x.n s.x_x.c))]
  fin e s K := getV e 0 fun v1 => asS v1 fun p1 n1 c1 => K { s with x_x := ⟨p1, n1, c1⟩ }
  ok := by
    intro e s K h0
    obtain ⟨w1, g1, h1⟩ := getV_elim h0
    obtain ⟨p1, n1, c1, rfl, h2⟩ := asS_elim h1
    exact ⟨_, ⟨g1, trivial⟩, h2⟩

def p2 : Pt St where
  env s := [(8, (.slice s.t8.p s.t8.n s.t8.c)), (9, (.int .i64 s.t9)), (10, (.int .i64 s.t10))]
  fin e s K := getV e 8 fun v1 => asS v1 fun p1 n1 c1 => getV e 9 fun v2 => asI .i64 v2 fun n2 => getV e 10 fun v3 => asI .i64 v3 fun n3 => K { s with t8 := ⟨p1, n1, c1⟩, t9 := n2, t10 := n3 }
  ok := by
    intro e s K h0
    obtain ⟨w1, g1, h1⟩ := getV_elim h0
    obtain ⟨p1, n1, c1, rfl, h2⟩ := asS_elim h1
    obtain ⟨w2, g2, h3⟩ := getV_elim h2
    obtain ⟨n2, rfl, h4⟩ := asI_elim h3
    obtain ⟨w3, g3, h5⟩ := getV_elim h4
    obtain ⟨n3, rfl, h6⟩ := asI_elim h5
    exact ⟨_, ⟨g1, g2, g3, trivial⟩, h6⟩

def p3 : Pt St where
  env s := []
  fin e s K := K s
  ok := by
    intro e s K h0
    exact ⟨_, trivial, h0⟩

def p4 : Pt St where
  env s := [(8, (.slice s.t8.p s.t8.n s.t8.c)), (9, (.int .i64 s.t9)), (10, (.int .i64 s.t10)), (11, (.bool s.t11))]
  fin e s K := getV e 8 fun v1 => asS v1 fun p1 n1 c1 => getV e 9 fun v2 => asI .i64 v2 fun n2 => getV e 10 fun v3 => asI .i64 v3 fun n3 => getV e 11 fun v4 => asB v4 fun b1 => K { s with t8 := ⟨p1, n1, c1⟩, t9 := n2, t10 := n3, t11 := b1 }
  ok := by
    intro e s K h0
    obtain ⟨w1, g1, h1⟩ := getV_elim h0
    obtain ⟨p1, n1, c1, rfl, h2⟩ := asS_elim h1
    obtain ⟨w2, g2, h3⟩ := getV_elim h2
    obtain ⟨n2, rfl, h4⟩ := asI_elim h3
    obtain ⟨w3, g3, h5⟩ := getV_elim h4
    obtain ⟨n3, rfl, h6⟩ := asI_elim h5
    obtain ⟨w4, g4, h7⟩ := getV_elim h6
    obtain ⟨b1, rfl, h8⟩ := asB_elim h7
    exact ⟨_, ⟨g1, g2, g3, g4, trivial⟩, h8⟩

def p5 : Pt St where
  env s := [(4, (.pointer s.x_v)), (8, (.slice s.t8.p s.t8.n s.t8.c)), (9, (.int .i64 s.t9)), (10, (.int .i64 s.t10))]
  fin e s K := getV e 4 fun v1 => asP v1 fun p1 => getV e 8 fun v2 => asS v2 fun p2 n1 c1 => getV e 9 fun v3 => asI .i64 v3 fun n2 => getV e 10 fun v4 => asI .i64 v4 fun n3 => K { s with x_v := p1, t8 := ⟨p2, n1, c1⟩, t9 := n2, t10 := n3 }
  ok := by
    intro e s K h0
    obtain ⟨w1, g1, h1⟩ := getV_elim h0
    obtain ⟨p1, rfl, h2⟩ := asP_elim h1
    obtain ⟨w2, g2, h3⟩ := getV_elim h2
    obtain ⟨p2, n1, c1, rfl, h4⟩ := asS_elim h3
    obtain ⟨w3, g3, h5⟩ := getV_elim h4
    obtain ⟨n2, rfl, h6⟩ := asI_elim h5
    obtain ⟨w4, g4, h7⟩ := getV_elim h6
    obtain ⟨n3, rfl, h8⟩ := asI_elim h7
    exact ⟨_, ⟨g1, g2, g3, g4, trivial⟩, h8⟩

def r0 (s : St) (h : Heap) (Q : St → Heap → Prop) : Prop :=
  Q s h

def r1 (s : St) (h : Heap) (Q : Bool → St → Heap → Prop) : Prop :=
  Q (decide (((s.x_x.n : Nat) : Int) > (2147483647 : Int))) s h

def r2 (s : St) (h : Heap) (Q : St → Heap → Prop) : Prop :=
  Q { s with t2 := false } h

def r3 (s : St) (h : Heap) (Q : St → Heap → Prop) : Prop :=
  Q { s with t8 := s.x_x, t9 := ((s.x_x.n : Nat) : Int), t10 := (0 : Int) } h

def r4 (s : St) (h : Heap) (Q : St → Heap → Prop) : Prop :=
  Q { s with t11 := (decide (s.t10 < s.t9)) } h

def r5 (s : St) (h : Heap) (Q : St → Heap → Prop) : Prop :=
  0 ≤ s.t10 ∧ s.t10 < ((s.t8.n : Nat) : Int) ∧
  ptrE s.t8.p fun a1 =>
  ∃ v2 : Int, hcell h (Addr.add (Addr.add a1 (Int.toNat s.t10 * 4)) 0) = some (.int .u8 v2) ∧
  ∃ (p3 : Option Addr) (n4 c5 : Nat), hcell h (Addr.add (Addr.add a1 (Int.toNat s.t10 * 4)) 1) = some (.slice p3 n4 c5) ∧
  ∃ v6 : Int, hcell h (Addr.add (Addr.add a1 (Int.toNat s.t10 * 4)) 2) = some (.int .u32 v6) ∧
  ∃ v7 : Int, hcell h (Addr.add (Addr.add a1 (Int.toNat s.t10 * 4)) 3) = some (.int .u32 v7) ∧
  withH (hnew h (zcells Pg 73) 73) fun h8 =>
  st1 (Addr.add ⟨Array.size h, 0, none⟩ 0) (.int .u8 v2) h8 fun h9 =>
  st1 (Addr.add ⟨Array.size h, 0, none⟩ 1) (.slice p3 n4 c5) h9 fun h10 =>
  st1 (Addr.add ⟨Array.size h, 0, none⟩ 2) (.int .u32 v6) h10 fun h11 =>
  st1 (Addr.add ⟨Array.size h, 0, none⟩ 3) (.int .u32 v7) h11 fun h12 =>
  Q { s with x_v := (some ⟨Array.size h, 0, none⟩) } h12

def r6 (s : St) (h : Heap) (Q : Bool → St → Heap → Prop) : Prop :=
  ptrE s.x_v fun a1 =>
  ∃ v2 : Int, hcell h (Addr.add a1 0) = some (.int .u8 v2) ∧
  ∃ (p3 : Option Addr) (n4 c5 : Nat), hcell h (Addr.add a1 1) = some (.slice p3 n4 c5) ∧
  ∃ v6 : Int, hcell h (Addr.add a1 2) = some (.int .u32 v6) ∧
  ∃ v7 : Int, hcell h (Addr.add a1 3) = some (.int .u32 v7) ∧
  c_laws_zzFits2 v2 ⟨p3, n4, c5⟩ v6 v7 h fun b9 h8 =>
  Q (!b9) s h8

def r7 (s : St) (h : Heap) (Q : St → Heap → Prop) : Prop :=
  Q { s with t2 := false } h

def r8 (s : St) (h : Heap) (Q : St → Heap → Prop) : Prop :=
  Q { s with t10 := (IntKind.wrap .i64 (s.t10 + (1 : Int))) } h

def r9 (s : St) (h : Heap) (Q : St → Heap → Prop) : Prop :=
  Q { s with t2 := true } h

def k6 : Stm St := (.test r6 (.seq (.reg r7) .ret) .skip)
def k5 : Stm St := (.seq (.block 1 (.seq (.reg r5) k6)) (.reg r8))
def k4 : Stm St := (.seq (.cond (fun s => s.t11) .skip (.exit 0)) k5)
def k3 : Stm St := (.seq (.reg r4) k4)
def k2 : Stm St := (.block 0 (.loop k3))
def k1 : Stm St := (.seq (.seq (.reg r3) k2) (.seq (.reg r9) .ret))
def k0 : Stm St := (.seq (.test r1 (.seq (.reg r2) .ret) .skip) k1)

def stm : Stm St := (.seq (.reg r0) k0)

def ex : Ex → Pt St := fun _ => p0

set_option maxRecDepth 100000 in
theorem sim : Sim Pg 18 p1 (Tryd.f16.body.getD .skip) stm p0 ex :=
  (Sim.seq (Sim.reg (A := p1) (B := p1) (fun _ _ _ => by kernel_rfl))
  (Sim.seq (Sim.test (A := p1) (B := p1) (fun _ _ _ => by kernel_rfl) (Sim.seq (Sim.reg (A := p1) (B := p0) (fun _ _ _ => by kernel_rfl))
  (Sim.ret (A := p0) (E := ex) (fun _ => ⟨rfl, trivial⟩)))
  (Sim.skip (A := p1)))
  (Sim.seq (Sim.seq (Sim.reg (A := p1) (B := p2) (fun _ _ _ => by kernel_rfl))
  (Sim.block (B := p3) (Sim.loop (A := p2) (Sim.seq (Sim.reg (A := p2) (B := p4) (fun _ _ _ => by kernel_rfl))
  (Sim.seq (Sim.cond (A := p4) (fun s => s.t11) (fun _ => rfl) (Sim.weak (B := p4) (C := p2) (Sim.skip (A := p4)) (fun _ => ⟨rfl, rfl, rfl, trivial⟩))
  (Sim.exit (A := p4) (fun _ => trivial)))
  (Sim.seq (Sim.block (B := p2) (Sim.seq (Sim.reg (A := p2) (B := p5) (fun _ _ _ => by kernel_rfl))
  (Sim.test (A := p5) (B := p2) (fun _ _ _ => by kernel_rfl) (Sim.seq (Sim.reg (A := p2) (B := p0) (fun _ _ _ => by kernel_rfl))
  (Sim.ret (A := p0) (E := (exAt (exAt ex 0 p3) 1 p2)) (fun _ => ⟨rfl, trivial⟩)))
  (Sim.skip (A := p2)))))
  (Sim.reg (A := p2) (B := p2) (fun _ _ _ => by kernel_rfl))))))))
  (Sim.seq (Sim.reg (A := p3) (B := p0) (fun _ _ _ => by kernel_rfl))
  (Sim.ret (A := p0) (E := ex) (fun _ => ⟨rfl, trivial⟩))))))

def init (x_x : Sl) : St := { x_x := x_x, t2 := false, x_v := none, t8 := Sl.nil, t9 := 0, t10 := 0, t11 := false }

/-- What is left of the results. -/
def res (K : Bool → Heap → Prop) (s : St) (h1 : Heap) : Prop := K s.t2 h1

/-- The call of 'pub-pemmican/laws.zzFits1'. -/
theorem calls (x_x : Sl) (h : Heap) (K : Bool → Heap → Prop)
    (H : stm (init x_x) h (endK (res K))) : c_laws_zzFits1 x_x h K := by
  have hc : CallsH Pg 16 #[(.slice x_x.p x_x.n x_x.c)] h fun v h1 => asB v fun b1 => K b1 h1 :=
    callsH_of_sim (R := p0) (fn := Tryd.f16) (c := Tryd.f16.body.getD .skip) Tryd.func16 rfl Tryd.ntmps16 Tryd.call16 sim (init x_x) (⟨rfl, trivial⟩) (Nat.le_of_ble_eq_true rfl) (fun _ => ⟨rfl, trivial⟩) rfl
      (res K) (fun _ _ => by kernel_rfl) H
  refine hc.mono ?_
  intro v hp H
  obtain ⟨b1, rfl, h1⟩ := asB_elim H
  exact ⟨_, rfl, h1⟩

end M_laws_zzFits1

end Go.Proofs.YtibleenkgmkpmaaDoor

namespace Go.Proofs.YtibleenkgmkpmaaDoor
open Go Go.Vc Go.Proofs

namespace M_laws_zzFits2

structure St where
  x_x_0 : Int
  x_x_1 : Sl
  x_x_2 : Int
  x_x_3 : Int
  x_xq1 : Option Addr
  t2 : Bool

def p0 : Pt St where
  env s := [(2, (.bool s.t2))]
  fin e s K := getV e 2 fun v1 => asB v1 fun b1 => K { s with t2 := b1 }
  ok := by
    intro e s K h0
    obtain ⟨w1, g1, h1⟩ := getV_elim h0
    obtain ⟨b1, rfl, h2⟩ := asB_elim h1
    exact ⟨_, ⟨g1, trivial⟩, h2⟩

def p1 : Pt St where
  env s := [(0, (.agg #[(.int .u8 s.x_x_0), (.slice s.x_x_1.p s.x_x_1.n s.x_x_1.c), (.int .u32 s.x_x_2), (.int .u32 s.x_x_3)]))]
  fin e s K := getV e 0 fun v1 => asA v1 fun l1 => asC l1 fun v2 l2 => asI .u8 v2 fun n1 => asC l2 fun v3 l3 => asS v3 fun p1 n2 c1 => asC l3 fun v4 l4 => asI .u32 v4 fun n3 => asC l4 fun v5 l5 => asI .u32 v5 fun n4 => asN l5 (K { s with x_x_0 := n1, x_x_1 := ⟨p1, n2, c1⟩, x_x_2 := n3, x_x_3 := n4 })
  ok := by
    intro e s K h0
    obtain ⟨w1, g1, h1⟩ := getV_elim h0
    obtain ⟨l1, rfl, h2⟩ := asA_elim h1
    obtain ⟨v1, l2, rfl, h3⟩ := asC_elim h2
    obtain ⟨n1, rfl, h4⟩ := asI_elim h3
    obtain ⟨v2, l3, rfl, h5⟩ := asC_elim h4
    obtain ⟨p1, n2, c1, rfl, h6⟩ := asS_elim h5
    obtain ⟨v3, l4, rfl, h7⟩ := asC_elim h6
    obtain ⟨n3, rfl, h8⟩ := asI_elim h7
    obtain ⟨v4, l5, rfl, h9⟩ := asC_elim h8
    obtain ⟨n4, rfl, h10⟩ := asI_elim h9
    obtain ⟨rfl, h11⟩ := asN_elim h10
    exact ⟨_, ⟨g1, trivial⟩, h11⟩

def p2 : Pt St where
  env s := [(1, (.pointer s.x_xq1))]
  fin e s K := getV e 1 fun v1 => asP v1 fun p1 => K { s with x_xq1 := p1 }
  ok := by
    intro e s K h0
    obtain ⟨w1, g1, h1⟩ := getV_elim h0
    obtain ⟨p1, rfl, h2⟩ := asP_elim h1
    exact ⟨_, ⟨g1, trivial⟩, h2⟩

def p3 : Pt St where
  env s := []
  fin e s K := K s
  ok := by
    intro e s K h0
    exact ⟨_, trivial, h0⟩

def r0 (s : St) (h : Heap) (Q : St → Heap → Prop) : Prop :=
  withH (hnew h [(.int .u8 s.x_x_0), (.slice s.x_x_1.p s.x_x_1.n s.x_x_1.c), (.int .u32 s.x_x_2), (.int .u32 s.x_x_3)] 73) fun h1 =>
  Q { s with x_xq1 := (some ⟨Array.size h, 0, none⟩) } h1

def r1 (s : St) (h : Heap) (Q : Bool → St → Heap → Prop) : Prop :=
  ptrE s.x_xq1 fun a1 =>
  ∃ (p2 : Option Addr) (n3 c4 : Nat), hcell h (Addr.add a1 1) = some (.slice p2 n3 c4) ∧
  Q (decide (((n3 : Nat) : Int) > (2147483647 : Int))) s h

def r2 (s : St) (h : Heap) (Q : St → Heap → Prop) : Prop :=
  Q { s with t2 := false } h

def r3 (s : St) (h : Heap) (Q : St → Heap → Prop) : Prop :=
  Q { s with t2 := true } h

def k0 : Stm St := (.seq (.test r1 (.seq (.reg r2) .ret) .skip) (.seq (.reg r3) .ret))

def stm : Stm St := (.seq (.reg r0) k0)

def ex : Ex → Pt St := fun _ => p0

set_option maxRecDepth 100000 in
theorem sim : Sim Pg 7 p1 (Tryd.f38.body.getD .skip) stm p0 ex :=
  (Sim.seq (Sim.reg (A := p1) (B := p2) (fun _ _ _ => by kernel_rfl))
  (Sim.seq (Sim.test (A := p2) (B := p3) (fun _ _ _ => by kernel_rfl) (Sim.seq (Sim.reg (A := p3) (B := p0) (fun _ _ _ => by kernel_rfl))
  (Sim.ret (A := p0) (E := ex) (fun _ => ⟨rfl, trivial⟩)))
  (Sim.skip (A := p3)))
  (Sim.seq (Sim.reg (A := p3) (B := p0) (fun _ _ _ => by kernel_rfl))
  (Sim.ret (A := p0) (E := ex) (fun _ => ⟨rfl, trivial⟩)))))

def init (x_x_0 : Int) (x_x_1 : Sl) (x_x_2 : Int) (x_x_3 : Int) : St := { x_x_0 := x_x_0, x_x_1 := x_x_1, x_x_2 := x_x_2, x_x_3 := x_x_3, x_xq1 := none, t2 := false }

/-- What is left of the results. -/
def res (K : Bool → Heap → Prop) (s : St) (h1 : Heap) : Prop := K s.t2 h1

/-- The call of 'pub-pemmican/laws.zzFits2'. -/
theorem calls (x_x_0 : Int) (x_x_1 : Sl) (x_x_2 : Int) (x_x_3 : Int) (h : Heap) (K : Bool → Heap → Prop)
    (H : stm (init x_x_0 x_x_1 x_x_2 x_x_3) h (endK (res K))) : c_laws_zzFits2 x_x_0 x_x_1 x_x_2 x_x_3 h K := by
  have hc : CallsH Pg 38 #[(.agg #[(.int .u8 x_x_0), (.slice x_x_1.p x_x_1.n x_x_1.c), (.int .u32 x_x_2), (.int .u32 x_x_3)])] h fun v h1 => asB v fun b1 => K b1 h1 :=
    callsH_of_sim (R := p0) (fn := Tryd.f38) (c := Tryd.f38.body.getD .skip) Tryd.func38 rfl Tryd.ntmps38 Tryd.call38 sim (init x_x_0 x_x_1 x_x_2 x_x_3) (⟨rfl, trivial⟩) (Nat.le_of_ble_eq_true rfl) (fun _ => ⟨rfl, trivial⟩) rfl
      (res K) (fun _ _ => by kernel_rfl) H
  refine hc.mono ?_
  intro v hp H
  obtain ⟨b1, rfl, h1⟩ := asB_elim H
  exact ⟨_, rfl, h1⟩

end M_laws_zzFits2

end Go.Proofs.YtibleenkgmkpmaaDoor

namespace Go.Proofs.YtibleenkgmkpmaaDoor
open Go Go.Vc Go.Proofs

namespace M_laws_pieces

structure St where
  x_l : Sl
  t2 : Bool
  x_p : Option Addr
  t5 : Sl
  t6 : Int
  t7 : Int
  t8 : Bool

def p0 : Pt St where
  env s := [(2, (.bool s.t2))]
  fin e s K := getV e 2 fun v1 => asB v1 fun b1 => K { s with t2 := b1 }
  ok := by
    intro e s K h0
    obtain ⟨w1, g1, h1⟩ := getV_elim h0
    obtain ⟨b1, rfl, h2⟩ := asB_elim h1
    exact ⟨_, ⟨g1, trivial⟩, h2⟩

def p1 : Pt St where
  env s := [(0, (.slice s.x_l.p s.x_l.n s.x_l.c))]
  fin e s K := getV e 0 fun v1 => asS v1 fun p1 n1 c1 => K { s with x_l := ⟨p1, n1, c1⟩ }
  ok := by
    intro e s K h0
    obtain ⟨w1, g1, h1⟩ := getV_elim h0
    obtain ⟨p1, n1, c1, rfl, h2⟩ := asS_elim h1
    exact ⟨_, ⟨g1, trivial⟩, h2⟩

def p2 : Pt St where
  env s := [(0, (.slice s.x_l.p s.x_l.n s.x_l.c)), (5, (.slice s.t5.p s.t5.n s.t5.c)), (6, (.int .i64 s.t6)), (7, (.int .i64 s.t7))]
  fin e s K := getV e 0 fun v1 => asS v1 fun p1 n1 c1 => getV e 5 fun v2 => asS v2 fun p2 n2 c2 => getV e 6 fun v3 => asI .i64 v3 fun n3 => getV e 7 fun v4 => asI .i64 v4 fun n4 => K { s with x_l := ⟨p1, n1, c1⟩, t5 := ⟨p2, n2, c2⟩, t6 := n3, t7 := n4 }
  ok := by
    intro e s K h0
    obtain ⟨w1, g1, h1⟩ := getV_elim h0
    obtain ⟨p1, n1, c1, rfl, h2⟩ := asS_elim h1
    obtain ⟨w2, g2, h3⟩ := getV_elim h2
    obtain ⟨p2, n2, c2, rfl, h4⟩ := asS_elim h3
    obtain ⟨w3, g3, h5⟩ := getV_elim h4
    obtain ⟨n3, rfl, h6⟩ := asI_elim h5
    obtain ⟨w4, g4, h7⟩ := getV_elim h6
    obtain ⟨n4, rfl, h8⟩ := asI_elim h7
    exact ⟨_, ⟨g1, g2, g3, g4, trivial⟩, h8⟩

def p3 : Pt St where
  env s := [(0, (.slice s.x_l.p s.x_l.n s.x_l.c)), (5, (.slice s.t5.p s.t5.n s.t5.c)), (6, (.int .i64 s.t6)), (7, (.int .i64 s.t7)), (8, (.bool s.t8))]
  fin e s K := getV e 0 fun v1 => asS v1 fun p1 n1 c1 => getV e 5 fun v2 => asS v2 fun p2 n2 c2 => getV e 6 fun v3 => asI .i64 v3 fun n3 => getV e 7 fun v4 => asI .i64 v4 fun n4 => getV e 8 fun v5 => asB v5 fun b1 => K { s with x_l := ⟨p1, n1, c1⟩, t5 := ⟨p2, n2, c2⟩, t6 := n3, t7 := n4, t8 := b1 }
  ok := by
    intro e s K h0
    obtain ⟨w1, g1, h1⟩ := getV_elim h0
    obtain ⟨p1, n1, c1, rfl, h2⟩ := asS_elim h1
    obtain ⟨w2, g2, h3⟩ := getV_elim h2
    obtain ⟨p2, n2, c2, rfl, h4⟩ := asS_elim h3
    obtain ⟨w3, g3, h5⟩ := getV_elim h4
    obtain ⟨n3, rfl, h6⟩ := asI_elim h5
    obtain ⟨w4, g4, h7⟩ := getV_elim h6
    obtain ⟨n4, rfl, h8⟩ := asI_elim h7
    obtain ⟨w5, g5, h9⟩ := getV_elim h8
    obtain ⟨b1, rfl, h10⟩ := asB_elim h9
    exact ⟨_, ⟨g1, g2, g3, g4, g5, trivial⟩, h10⟩

def p4 : Pt St where
  env s := [(0, (.slice s.x_l.p s.x_l.n s.x_l.c)), (4, (.pointer s.x_p)), (5, (.slice s.t5.p s.t5.n s.t5.c)), (6, (.int .i64 s.t6)), (7, (.int .i64 s.t7))]
  fin e s K := getV e 0 fun v1 => asS v1 fun p1 n1 c1 => getV e 4 fun v2 => asP v2 fun p2 => getV e 5 fun v3 => asS v3 fun p3 n2 c2 => getV e 6 fun v4 => asI .i64 v4 fun n3 => getV e 7 fun v5 => asI .i64 v5 fun n4 => K { s with x_l := ⟨p1, n1, c1⟩, x_p := p2, t5 := ⟨p3, n2, c2⟩, t6 := n3, t7 := n4 }
  ok := by
    intro e s K h0
    obtain ⟨w1, g1, h1⟩ := getV_elim h0
    obtain ⟨p1, n1, c1, rfl, h2⟩ := asS_elim h1
    obtain ⟨w2, g2, h3⟩ := getV_elim h2
    obtain ⟨p2, rfl, h4⟩ := asP_elim h3
    obtain ⟨w3, g3, h5⟩ := getV_elim h4
    obtain ⟨p3, n2, c2, rfl, h6⟩ := asS_elim h5
    obtain ⟨w4, g4, h7⟩ := getV_elim h6
    obtain ⟨n3, rfl, h8⟩ := asI_elim h7
    obtain ⟨w5, g5, h9⟩ := getV_elim h8
    obtain ⟨n4, rfl, h10⟩ := asI_elim h9
    exact ⟨_, ⟨g1, g2, g3, g4, g5, trivial⟩, h10⟩

def r0 (s : St) (h : Heap) (Q : St → Heap → Prop) : Prop :=
  Q s h

def r1 (s : St) (h : Heap) (Q : St → Heap → Prop) : Prop :=
  Q { s with t5 := s.x_l, t6 := ((s.x_l.n : Nat) : Int), t7 := (0 : Int) } h

def r2 (s : St) (h : Heap) (Q : St → Heap → Prop) : Prop :=
  Q { s with t8 := (decide (s.t7 < s.t6)) } h

def r3 (s : St) (h : Heap) (Q : St → Heap → Prop) : Prop :=
  0 ≤ s.t7 ∧ s.t7 < ((s.t5.n : Nat) : Int) ∧
  ptrE s.t5.p fun a1 =>
  ∃ v2 : Int, hcell h (Addr.add (Addr.add a1 (Int.toNat s.t7 * 4)) 0) = some (.int .u8 v2) ∧
  ∃ (p3 : Option Addr) (n4 c5 : Nat), hcell h (Addr.add (Addr.add a1 (Int.toNat s.t7 * 4)) 1) = some (.slice p3 n4 c5) ∧
  ∃ v6 : Int, hcell h (Addr.add (Addr.add a1 (Int.toNat s.t7 * 4)) 2) = some (.int .u32 v6) ∧
  ∃ v7 : Int, hcell h (Addr.add (Addr.add a1 (Int.toNat s.t7 * 4)) 3) = some (.int .u32 v7) ∧
  withH (hnew h (zcells Pg 73) 73) fun h8 =>
  st1 (Addr.add ⟨Array.size h, 0, none⟩ 0) (.int .u8 v2) h8 fun h9 =>
  st1 (Addr.add ⟨Array.size h, 0, none⟩ 1) (.slice p3 n4 c5) h9 fun h10 =>
  st1 (Addr.add ⟨Array.size h, 0, none⟩ 2) (.int .u32 v6) h10 fun h11 =>
  st1 (Addr.add ⟨Array.size h, 0, none⟩ 3) (.int .u32 v7) h11 fun h12 =>
  Q { s with x_p := (some ⟨Array.size h, 0, none⟩) } h12

def r4 (s : St) (h : Heap) (Q : Bool → St → Heap → Prop) : Prop :=
  ptrE s.x_p fun a1 =>
  ∃ (p2 : Option Addr) (n3 c4 : Nat), hcell h (Addr.add a1 1) = some (.slice p2 n3 c4) ∧
  Q (decide (((n3 : Nat) : Int) > (300 : Int))) s h

def r5 (s : St) (h : Heap) (Q : St → Heap → Prop) : Prop :=
  Q { s with t2 := false } h

def r6 (s : St) (h : Heap) (Q : St → Heap → Prop) : Prop :=
  Q { s with t7 := (IntKind.wrap .i64 (s.t7 + (1 : Int))) } h

def r7 (s : St) (h : Heap) (Q : St → Heap → Prop) : Prop :=
  Q { s with t2 := (decide (((s.x_l.n : Nat) : Int) ≤ (60 : Int))) } h

def k5 : Stm St := (.test r4 (.seq (.reg r5) .ret) .skip)
def k4 : Stm St := (.seq (.block 1 (.seq (.reg r3) k5)) (.reg r6))
def k3 : Stm St := (.seq (.cond (fun s => s.t8) .skip (.exit 0)) k4)
def k2 : Stm St := (.seq (.reg r2) k3)
def k1 : Stm St := (.block 0 (.loop k2))
def k0 : Stm St := (.seq (.seq (.reg r1) k1) (.seq (.reg r7) .ret))

def stm : Stm St := (.seq (.reg r0) k0)

def ex : Ex → Pt St := fun _ => p0

set_option maxRecDepth 100000 in
theorem sim : Sim Pg 19 p1 (Tryd.f17.body.getD .skip) stm p0 ex :=
  (Sim.seq (Sim.reg (A := p1) (B := p1) (fun _ _ _ => by kernel_rfl))
  (Sim.seq (Sim.seq (Sim.reg (A := p1) (B := p2) (fun _ _ _ => by kernel_rfl))
  (Sim.block (B := p1) (Sim.loop (A := p2) (Sim.seq (Sim.reg (A := p2) (B := p3) (fun _ _ _ => by kernel_rfl))
  (Sim.seq (Sim.cond (A := p3) (fun s => s.t8) (fun _ => rfl) (Sim.weak (B := p3) (C := p2) (Sim.skip (A := p3)) (fun _ => ⟨rfl, rfl, rfl, rfl, trivial⟩))
  (Sim.exit (A := p3) (fun _ => ⟨rfl, trivial⟩)))
  (Sim.seq (Sim.block (B := p2) (Sim.seq (Sim.reg (A := p2) (B := p4) (fun _ _ _ => by kernel_rfl))
  (Sim.test (A := p4) (B := p2) (fun _ _ _ => by kernel_rfl) (Sim.seq (Sim.reg (A := p2) (B := p0) (fun _ _ _ => by kernel_rfl))
  (Sim.ret (A := p0) (E := (exAt (exAt ex 0 p1) 1 p2)) (fun _ => ⟨rfl, trivial⟩)))
  (Sim.skip (A := p2)))))
  (Sim.reg (A := p2) (B := p2) (fun _ _ _ => by kernel_rfl))))))))
  (Sim.seq (Sim.reg (A := p1) (B := p0) (fun _ _ _ => by kernel_rfl))
  (Sim.ret (A := p0) (E := ex) (fun _ => ⟨rfl, trivial⟩)))))

def init (x_l : Sl) : St := { x_l := x_l, t2 := false, x_p := none, t5 := Sl.nil, t6 := 0, t7 := 0, t8 := false }

/-- What is left of the results. -/
def res (K : Bool → Heap → Prop) (s : St) (h1 : Heap) : Prop := K s.t2 h1

/-- The call of 'pub-pemmican/laws.pieces'. -/
theorem calls (x_l : Sl) (h : Heap) (K : Bool → Heap → Prop)
    (H : stm (init x_l) h (endK (res K))) : c_laws_pieces x_l h K := by
  have hc : CallsH Pg 17 #[(.slice x_l.p x_l.n x_l.c)] h fun v h1 => asB v fun b1 => K b1 h1 :=
    callsH_of_sim (R := p0) (fn := Tryd.f17) (c := Tryd.f17.body.getD .skip) Tryd.func17 rfl Tryd.ntmps17 Tryd.call17 sim (init x_l) (⟨rfl, trivial⟩) (Nat.le_of_ble_eq_true rfl) (fun _ => ⟨rfl, trivial⟩) rfl
      (res K) (fun _ _ => by kernel_rfl) H
  refine hc.mono ?_
  intro v hp H
  obtain ⟨b1, rfl, h1⟩ := asB_elim H
  exact ⟨_, rfl, h1⟩

end M_laws_pieces

end Go.Proofs.YtibleenkgmkpmaaDoor

namespace Go.Proofs.YtibleenkgmkpmaaDoor
open Go Go.Vc Go.Proofs

namespace M_spec_S2Write

structure St where
  x_l : Sl
  x_dict : Sl
  x_first : Int
  x_repeats : Bool
  x_block : Sl
  x_out : Sl
  x_w : Option Addr
  x_i : Int
  x_p : Option Addr
  t43 : Int

def p0 : Pt St where
  env s := [(8, (.slice s.x_block.p s.x_block.n s.x_block.c)), (9, (.slice s.x_out.p s.x_out.n s.x_out.c))]
  fin e s K := getV e 8 fun v1 => asS v1 fun p1 n1 c1 => getV e 9 fun v2 => asS v2 fun p2 n2 c2 => K { s with x_block := ⟨p1, n1, c1⟩, x_out := ⟨p2, n2, c2⟩ }
  ok := by
    intro e s K h0
    obtain ⟨w1, g1, h1⟩ := getV_elim h0
    obtain ⟨p1, n1, c1, rfl, h2⟩ := asS_elim h1
    obtain ⟨w2, g2, h3⟩ := getV_elim h2
    obtain ⟨p2, n2, c2, rfl, h4⟩ := asS_elim h3
    exact ⟨_, ⟨g1, g2, trivial⟩, h4⟩

def p1 : Pt St where
  env s := [(0, (.slice s.x_l.p s.x_l.n s.x_l.c)), (1, (.slice s.x_dict.p s.x_dict.n s.x_dict.c)), (2, (.int .i64 s.x_first)), (3, (.bool s.x_repeats))]
  fin e s K := getV e 0 fun v1 => asS v1 fun p1 n1 c1 => getV e 1 fun v2 => asS v2 fun p2 n2 c2 => getV e 2 fun v3 => asI .i64 v3 fun n3 => getV e 3 fun v4 => asB v4 fun b1 => K { s with x_l := ⟨p1, n1, c1⟩, x_dict := ⟨p2, n2, c2⟩, x_first := n3, x_repeats := b1 }
  ok := by
    intro e s K h0
    obtain ⟨w1, g1, h1⟩ := getV_elim h0
    obtain ⟨p1, n1, c1, rfl, h2⟩ := asS_elim h1
    obtain ⟨w2, g2, h3⟩ := getV_elim h2
    obtain ⟨p2, n2, c2, rfl, h4⟩ := asS_elim h3
    obtain ⟨w3, g3, h5⟩ := getV_elim h4
    obtain ⟨n3, rfl, h6⟩ := asI_elim h5
    obtain ⟨w4, g4, h7⟩ := getV_elim h6
    obtain ⟨b1, rfl, h8⟩ := asB_elim h7
    exact ⟨_, ⟨g1, g2, g3, g4, trivial⟩, h8⟩

def p2 : Pt St where
  env s := [(0, (.slice s.x_l.p s.x_l.n s.x_l.c)), (1, (.slice s.x_dict.p s.x_dict.n s.x_dict.c)), (2, (.int .i64 s.x_first)), (3, (.bool s.x_repeats)), (10, (.pointer s.x_w))]
  fin e s K := getV e 0 fun v1 => asS v1 fun p1 n1 c1 => getV e 1 fun v2 => asS v2 fun p2 n2 c2 => getV e 2 fun v3 => asI .i64 v3 fun n3 => getV e 3 fun v4 => asB v4 fun b1 => getV e 10 fun v5 => asP v5 fun p3 => K { s with x_l := ⟨p1, n1, c1⟩, x_dict := ⟨p2, n2, c2⟩, x_first := n3, x_repeats := b1, x_w := p3 }
  ok := by
    intro e s K h0
    obtain ⟨w1, g1, h1⟩ := getV_elim h0
    obtain ⟨p1, n1, c1, rfl, h2⟩ := asS_elim h1
    obtain ⟨w2, g2, h3⟩ := getV_elim h2
    obtain ⟨p2, n2, c2, rfl, h4⟩ := asS_elim h3
    obtain ⟨w3, g3, h5⟩ := getV_elim h4
    obtain ⟨n3, rfl, h6⟩ := asI_elim h5
    obtain ⟨w4, g4, h7⟩ := getV_elim h6
    obtain ⟨b1, rfl, h8⟩ := asB_elim h7
    obtain ⟨w5, g5, h9⟩ := getV_elim h8
    obtain ⟨p3, rfl, h10⟩ := asP_elim h9
    exact ⟨_, ⟨g1, g2, g3, g4, g5, trivial⟩, h10⟩

def p3 : Pt St where
  env s := [(0, (.slice s.x_l.p s.x_l.n s.x_l.c)), (3, (.bool s.x_repeats)), (10, (.pointer s.x_w))]
  fin e s K := getV e 0 fun v1 => asS v1 fun p1 n1 c1 => getV e 3 fun v2 => asB v2 fun b1 => getV e 10 fun v3 => asP v3 fun p2 => K { s with x_l := ⟨p1, n1, c1⟩, x_repeats := b1, x_w := p2 }
  ok := by
    intro e s K h0
    obtain ⟨w1, g1, h1⟩ := getV_elim h0
    obtain ⟨p1, n1, c1, rfl, h2⟩ := asS_elim h1
    obtain ⟨w2, g2, h3⟩ := getV_elim h2
    obtain ⟨b1, rfl, h4⟩ := asB_elim h3
    obtain ⟨w3, g3, h5⟩ := getV_elim h4
    obtain ⟨p2, rfl, h6⟩ := asP_elim h5
    exact ⟨_, ⟨g1, g2, g3, trivial⟩, h6⟩

def p4 : Pt St where
  env s := [(0, (.slice s.x_l.p s.x_l.n s.x_l.c)), (3, (.bool s.x_repeats)), (10, (.pointer s.x_w)), (11, (.int .i64 s.x_i))]
  fin e s K := getV e 0 fun v1 => asS v1 fun p1 n1 c1 => getV e 3 fun v2 => asB v2 fun b1 => getV e 10 fun v3 => asP v3 fun p2 => getV e 11 fun v4 => asI .i64 v4 fun n2 => K { s with x_l := ⟨p1, n1, c1⟩, x_repeats := b1, x_w := p2, x_i := n2 }
  ok := by
    intro e s K h0
    obtain ⟨w1, g1, h1⟩ := getV_elim h0
    obtain ⟨p1, n1, c1, rfl, h2⟩ := asS_elim h1
    obtain ⟨w2, g2, h3⟩ := getV_elim h2
    obtain ⟨b1, rfl, h4⟩ := asB_elim h3
    obtain ⟨w3, g3, h5⟩ := getV_elim h4
    obtain ⟨p2, rfl, h6⟩ := asP_elim h5
    obtain ⟨w4, g4, h7⟩ := getV_elim h6
    obtain ⟨n2, rfl, h8⟩ := asI_elim h7
    exact ⟨_, ⟨g1, g2, g3, g4, trivial⟩, h8⟩

def p5 : Pt St where
  env s := [(10, (.pointer s.x_w))]
  fin e s K := getV e 10 fun v1 => asP v1 fun p1 => K { s with x_w := p1 }
  ok := by
    intro e s K h0
    obtain ⟨w1, g1, h1⟩ := getV_elim h0
    obtain ⟨p1, rfl, h2⟩ := asP_elim h1
    exact ⟨_, ⟨g1, trivial⟩, h2⟩

def p6 : Pt St where
  env s := [(0, (.slice s.x_l.p s.x_l.n s.x_l.c)), (3, (.bool s.x_repeats)), (10, (.pointer s.x_w)), (11, (.int .i64 s.x_i)), (12, (.pointer s.x_p))]
  fin e s K := getV e 0 fun v1 => asS v1 fun p1 n1 c1 => getV e 3 fun v2 => asB v2 fun b1 => getV e 10 fun v3 => asP v3 fun p2 => getV e 11 fun v4 => asI .i64 v4 fun n2 => getV e 12 fun v5 => asP v5 fun p3 => K { s with x_l := ⟨p1, n1, c1⟩, x_repeats := b1, x_w := p2, x_i := n2, x_p := p3 }
  ok := by
    intro e s K h0
    obtain ⟨w1, g1, h1⟩ := getV_elim h0
    obtain ⟨p1, n1, c1, rfl, h2⟩ := asS_elim h1
    obtain ⟨w2, g2, h3⟩ := getV_elim h2
    obtain ⟨b1, rfl, h4⟩ := asB_elim h3
    obtain ⟨w3, g3, h5⟩ := getV_elim h4
    obtain ⟨p2, rfl, h6⟩ := asP_elim h5
    obtain ⟨w4, g4, h7⟩ := getV_elim h6
    obtain ⟨n2, rfl, h8⟩ := asI_elim h7
    obtain ⟨w5, g5, h9⟩ := getV_elim h8
    obtain ⟨p3, rfl, h10⟩ := asP_elim h9
    exact ⟨_, ⟨g1, g2, g3, g4, g5, trivial⟩, h10⟩

def p7 : Pt St where
  env s := [(0, (.slice s.x_l.p s.x_l.n s.x_l.c)), (3, (.bool s.x_repeats)), (10, (.pointer s.x_w)), (11, (.int .i64 s.x_i)), (12, (.pointer s.x_p)), (43, (.int .u8 s.t43))]
  fin e s K := getV e 0 fun v1 => asS v1 fun p1 n1 c1 => getV e 3 fun v2 => asB v2 fun b1 => getV e 10 fun v3 => asP v3 fun p2 => getV e 11 fun v4 => asI .i64 v4 fun n2 => getV e 12 fun v5 => asP v5 fun p3 => getV e 43 fun v6 => asI .u8 v6 fun n3 => K { s with x_l := ⟨p1, n1, c1⟩, x_repeats := b1, x_w := p2, x_i := n2, x_p := p3, t43 := n3 }
  ok := by
    intro e s K h0
    obtain ⟨w1, g1, h1⟩ := getV_elim h0
    obtain ⟨p1, n1, c1, rfl, h2⟩ := asS_elim h1
    obtain ⟨w2, g2, h3⟩ := getV_elim h2
    obtain ⟨b1, rfl, h4⟩ := asB_elim h3
    obtain ⟨w3, g3, h5⟩ := getV_elim h4
    obtain ⟨p2, rfl, h6⟩ := asP_elim h5
    obtain ⟨w4, g4, h7⟩ := getV_elim h6
    obtain ⟨n2, rfl, h8⟩ := asI_elim h7
    obtain ⟨w5, g5, h9⟩ := getV_elim h8
    obtain ⟨p3, rfl, h10⟩ := asP_elim h9
    obtain ⟨w6, g6, h11⟩ := getV_elim h10
    obtain ⟨n3, rfl, h12⟩ := asI_elim h11
    exact ⟨_, ⟨g1, g2, g3, g4, g5, g6, trivial⟩, h12⟩

def r0 (s : St) (h : Heap) (Q : St → Heap → Prop) : Prop :=
  Q s h

def r1 (s : St) (h : Heap) (Q : St → Heap → Prop) : Prop :=
  withH (hnew h [(.slice none 0 0), (.slice none 0 0), (.slice none 0 0), (.int .i64 (0 : Int)), (.bool false)] 77) fun h1 =>
  Q { s with x_w := (some ⟨Array.size h, 0, none⟩) } h1

def r2 (s : St) (h : Heap) (Q : Bool → St → Heap → Prop) : Prop :=
  Q (decide (((s.x_dict.n : Nat) : Int) > (0 : Int))) s h

def r3 (s : St) (h : Heap) (Q : St → Heap → Prop) : Prop :=
  ptrE s.x_w fun a1 =>
  st1 (Addr.add (Addr.add (Addr.add a1 1) 1) 0) (.slice s.x_dict.p s.x_dict.n s.x_dict.c) h fun h2 =>
  Q s h2

def r4 (s : St) (h : Heap) (Q : St → Heap → Prop) : Prop :=
  ptrE s.x_w fun a1 =>
  st1 (Addr.add (Addr.add (Addr.add a1 1) 2) 0) (.int .i64 (IntKind.wrap .i64 (((s.x_dict.n : Nat) : Int) - s.x_first))) h fun h2 =>
  Q s h2

def r5 (s : St) (h : Heap) (Q : St → Heap → Prop) : Prop :=
  Q { s with x_i := (0 : Int) } h

def r6 (s : St) (h : Heap) (Q : Bool → St → Heap → Prop) : Prop :=
  Q (decide (s.x_i < ((s.x_l.n : Nat) : Int))) s h

def r7 (s : St) (h : Heap) (Q : St → Heap → Prop) : Prop :=
  Q { s with x_i := (IntKind.wrap .i64 (s.x_i + (1 : Int))) } h

def r8 (s : St) (h : Heap) (Q : St → Heap → Prop) : Prop :=
  0 ≤ s.x_i ∧ s.x_i < ((s.x_l.n : Nat) : Int) ∧
  ptrE s.x_l.p fun a1 =>
  ∃ v2 : Int, hcell h (Addr.add (Addr.add a1 (Int.toNat s.x_i * 4)) 0) = some (.int .u8 v2) ∧
  ∃ (p3 : Option Addr) (n4 c5 : Nat), hcell h (Addr.add (Addr.add a1 (Int.toNat s.x_i * 4)) 1) = some (.slice p3 n4 c5) ∧
  ∃ v6 : Int, hcell h (Addr.add (Addr.add a1 (Int.toNat s.x_i * 4)) 2) = some (.int .u32 v6) ∧
  ∃ v7 : Int, hcell h (Addr.add (Addr.add a1 (Int.toNat s.x_i * 4)) 3) = some (.int .u32 v7) ∧
  withH (hnew h (zcells Pg 73) 73) fun h8 =>
  st1 (Addr.add ⟨Array.size h, 0, none⟩ 0) (.int .u8 v2) h8 fun h9 =>
  st1 (Addr.add ⟨Array.size h, 0, none⟩ 1) (.slice p3 n4 c5) h9 fun h10 =>
  st1 (Addr.add ⟨Array.size h, 0, none⟩ 2) (.int .u32 v6) h10 fun h11 =>
  st1 (Addr.add ⟨Array.size h, 0, none⟩ 3) (.int .u32 v7) h11 fun h12 =>
  Q { s with x_p := (some ⟨Array.size h, 0, none⟩) } h12

def r9 (s : St) (h : Heap) (Q : St → Heap → Prop) : Prop :=
  ptrE s.x_p fun a1 =>
  ∃ v2 : Int, hcell h (Addr.add a1 0) = some (.int .u8 v2) ∧
  Q { s with t43 := (Int.tmod v2 (5 : Int)) } h

def r10 (s : St) (h : Heap) (Q : Bool → St → Heap → Prop) : Prop :=
  Q (s.t43 == (0 : Int)) s h

def r11 (s : St) (h : Heap) (Q : St → Heap → Prop) : Prop :=
  ptrE s.x_p fun a1 =>
  ∃ (p2 : Option Addr) (n3 c4 : Nat), hcell h (Addr.add a1 1) = some (.slice p2 n3 c4) ∧
  ptrE s.x_p fun a5 =>
  ∃ v6 : Int, hcell h (Addr.add a5 3) = some (.int .u32 v6) ∧
  c_writer_literal s.x_w ⟨p2, n3, c4⟩ v6 h fun h7 =>
  Q s h7

def r12 (s : St) (h : Heap) (Q : Bool → St → Heap → Prop) : Prop :=
  Q (s.t43 == (1 : Int)) s h

def r13 (s : St) (h : Heap) (Q : St → Heap → Prop) : Prop :=
  ptrE s.x_p fun a1 =>
  ∃ v2 : Int, hcell h (Addr.add a1 0) = some (.int .u8 v2) ∧
  ∃ (p3 : Option Addr) (n4 c5 : Nat), hcell h (Addr.add a1 1) = some (.slice p3 n4 c5) ∧
  ∃ v6 : Int, hcell h (Addr.add a1 2) = some (.int .u32 v6) ∧
  ∃ v7 : Int, hcell h (Addr.add a1 3) = some (.int .u32 v7) ∧
  c_writer_copy s.x_w (1 : Int) v2 ⟨p3, n4, c5⟩ v6 v7 h fun h8 =>
  Q s h8

def r14 (s : St) (h : Heap) (Q : Bool → St → Heap → Prop) : Prop :=
  Q (s.t43 == (2 : Int)) s h

def r15 (s : St) (h : Heap) (Q : St → Heap → Prop) : Prop :=
  ptrE s.x_p fun a1 =>
  ∃ v2 : Int, hcell h (Addr.add a1 0) = some (.int .u8 v2) ∧
  ∃ (p3 : Option Addr) (n4 c5 : Nat), hcell h (Addr.add a1 1) = some (.slice p3 n4 c5) ∧
  ∃ v6 : Int, hcell h (Addr.add a1 2) = some (.int .u32 v6) ∧
  ∃ v7 : Int, hcell h (Addr.add a1 3) = some (.int .u32 v7) ∧
  c_writer_copy s.x_w (2 : Int) v2 ⟨p3, n4, c5⟩ v6 v7 h fun h8 =>
  Q s h8

def r16 (s : St) (h : Heap) (Q : Bool → St → Heap → Prop) : Prop :=
  Q (s.t43 == (3 : Int)) s h

def r17 (s : St) (h : Heap) (Q : St → Heap → Prop) : Prop :=
  ptrE s.x_p fun a1 =>
  ∃ v2 : Int, hcell h (Addr.add a1 0) = some (.int .u8 v2) ∧
  ∃ (p3 : Option Addr) (n4 c5 : Nat), hcell h (Addr.add a1 1) = some (.slice p3 n4 c5) ∧
  ∃ v6 : Int, hcell h (Addr.add a1 2) = some (.int .u32 v6) ∧
  ∃ v7 : Int, hcell h (Addr.add a1 3) = some (.int .u32 v7) ∧
  c_writer_copy s.x_w (4 : Int) v2 ⟨p3, n4, c5⟩ v6 v7 h fun h8 =>
  Q s h8

def r18 (s : St) (h : Heap) (Q : Bool → St → Heap → Prop) : Prop :=
  Q (s.t43 == (4 : Int)) s h

def r19 (s : St) (h : Heap) (Q : Bool → St → Heap → Prop) : Prop :=
  Q s.x_repeats s h

def r20 (s : St) (h : Heap) (Q : St → Heap → Prop) : Prop :=
  ptrE s.x_p fun a1 =>
  ∃ v2 : Int, hcell h (Addr.add a1 0) = some (.int .u8 v2) ∧
  ∃ (p3 : Option Addr) (n4 c5 : Nat), hcell h (Addr.add a1 1) = some (.slice p3 n4 c5) ∧
  ∃ v6 : Int, hcell h (Addr.add a1 2) = some (.int .u32 v6) ∧
  ∃ v7 : Int, hcell h (Addr.add a1 3) = some (.int .u32 v7) ∧
  c_writer_repeat s.x_w v2 ⟨p3, n4, c5⟩ v6 v7 h fun h8 =>
  Q s h8

def r21 (s : St) (h : Heap) (Q : St → Heap → Prop) : Prop :=
  ptrE s.x_w fun a1 =>
  ∃ (p2 : Option Addr) (n3 c4 : Nat), hcell h (Addr.add (Addr.add a1 1) 0) = some (.slice p2 n3 c4) ∧
  ptrE s.x_w fun a5 =>
  ptrE s.x_w fun a6 =>
  (c_spec_varint ((n3 : Nat) : Int) h fun w8 h7 =>
  ∃ (p9 : Option Addr) (n10 c11 : Nat), hcell h7 (Addr.add a5 0) = some (.slice p9 n10 c11) ∧
  (appendT Pg 5 w8.p w8.n w8.c (.slice p9 n10 c11) n10 h7 fun p12 n13 c14 h15 =>
  ∃ (p16 : Option Addr) (n17 c18 : Nat), hcell h15 (Addr.add (Addr.add a6 1) 0) = some (.slice p16 n17 c18) ∧
  Q { s with x_block := ⟨p12, n13, c14⟩, x_out := ⟨p16, n17, c18⟩ } h15) ∧
  (∃ (p19 : Option Addr) (n20 c21 : Nat), hcell h7 (Addr.add (Addr.add a6 1) 0) = some (.slice p19 n20 c21) ∧
  appendT Pg 5 w8.p w8.n w8.c (.slice p9 n10 c11) n10 h7 fun p22 n23 c24 h25 =>
  Q { s with x_block := ⟨p22, n23, c24⟩, x_out := ⟨p19, n20, c21⟩ } h25)) ∧
  (∃ (p26 : Option Addr) (n27 c28 : Nat), hcell h (Addr.add a5 0) = some (.slice p26 n27 c28) ∧
  (c_spec_varint ((n3 : Nat) : Int) h fun w30 h29 =>
  (appendT Pg 5 w30.p w30.n w30.c (.slice p26 n27 c28) n27 h29 fun p31 n32 c33 h34 =>
  ∃ (p35 : Option Addr) (n36 c37 : Nat), hcell h34 (Addr.add (Addr.add a6 1) 0) = some (.slice p35 n36 c37) ∧
  Q { s with x_block := ⟨p31, n32, c33⟩, x_out := ⟨p35, n36, c37⟩ } h34) ∧
  (∃ (p38 : Option Addr) (n39 c40 : Nat), hcell h29 (Addr.add (Addr.add a6 1) 0) = some (.slice p38 n39 c40) ∧
  appendT Pg 5 w30.p w30.n w30.c (.slice p26 n27 c28) n27 h29 fun p41 n42 c43 h44 =>
  Q { s with x_block := ⟨p41, n42, c43⟩, x_out := ⟨p38, n39, c40⟩ } h44)) ∧
  (∃ (p45 : Option Addr) (n46 c47 : Nat), hcell h (Addr.add (Addr.add a6 1) 0) = some (.slice p45 n46 c47) ∧
  c_spec_varint ((n3 : Nat) : Int) h fun w49 h48 =>
  appendT Pg 5 w49.p w49.n w49.c (.slice p26 n27 c28) n27 h48 fun p50 n51 c52 h53 =>
  Q { s with x_block := ⟨p50, n51, c52⟩, x_out := ⟨p45, n46, c47⟩ } h53)) ∧
  (∃ (p54 : Option Addr) (n55 c56 : Nat), hcell h (Addr.add (Addr.add a6 1) 0) = some (.slice p54 n55 c56) ∧
  (c_spec_varint ((n3 : Nat) : Int) h fun w58 h57 =>
  ∃ (p59 : Option Addr) (n60 c61 : Nat), hcell h57 (Addr.add a5 0) = some (.slice p59 n60 c61) ∧
  appendT Pg 5 w58.p w58.n w58.c (.slice p59 n60 c61) n60 h57 fun p62 n63 c64 h65 =>
  Q { s with x_block := ⟨p62, n63, c64⟩, x_out := ⟨p54, n55, c56⟩ } h65) ∧
  (∃ (p66 : Option Addr) (n67 c68 : Nat), hcell h (Addr.add a5 0) = some (.slice p66 n67 c68) ∧
  c_spec_varint ((n3 : Nat) : Int) h fun w70 h69 =>
  appendT Pg 5 w70.p w70.n w70.c (.slice p66 n67 c68) n67 h69 fun p71 n72 c73 h74 =>
  Q { s with x_block := ⟨p71, n72, c73⟩, x_out := ⟨p54, n55, c56⟩ } h74))

def k12 : Stm St := (.test r19 (.reg r20) .skip)
def k11 : Stm St := (.test r18 k12 .skip)
def k10 : Stm St := (.test r16 (.reg r17) k11)
def k9 : Stm St := (.test r14 (.reg r15) k10)
def k8 : Stm St := (.test r12 (.reg r13) k9)
def k7 : Stm St := (.block 2 (.test r10 (.reg r11) k8))
def k6 : Stm St := (.seq (.reg r9) k7)
def k5 : Stm St := (.seq (.block 1 (.seq (.reg r8) k6)) (.reg r7))
def k4 : Stm St := (.seq (.test r6 .skip (.exit 0)) k5)
def k3 : Stm St := (.block 0 (.loop k4))
def k2 : Stm St := (.seq (.seq (.reg r5) k3) (.seq (.reg r21) .ret))
def k1 : Stm St := (.seq (.test r2 (.seq (.reg r3) (.reg r4)) .skip) k2)
def k0 : Stm St := (.seq (.reg r1) k1)

def stm : Stm St := (.seq (.reg r0) k0)

def ex : Ex → Pt St := fun _ => p0

set_option maxRecDepth 100000 in
theorem sim : Sim Pg 90 p1 (Tryd.f18.body.getD .skip) stm p0 ex :=
  (Sim.seq (Sim.reg (A := p1) (B := p1) (fun _ _ _ => by kernel_rfl))
  (Sim.seq (Sim.reg (A := p1) (B := p2) (fun _ _ _ => by kernel_rfl))
  (Sim.seq (Sim.test (A := p2) (B := p2) (fun _ _ _ => by kernel_rfl) (Sim.seq (Sim.reg (A := p2) (B := p2) (fun _ _ _ => by kernel_rfl))
  (Sim.reg (A := p2) (B := p3) (fun _ _ _ => by kernel_rfl)))
  (Sim.weak (B := p2) (C := p3) (Sim.skip (A := p2)) (fun _ => ⟨rfl, rfl, rfl, trivial⟩)))
  (Sim.seq (Sim.seq (Sim.reg (A := p3) (B := p4) (fun _ _ _ => by kernel_rfl))
  (Sim.block (B := p5) (Sim.loop (A := p4) (Sim.seq (Sim.test (A := p4) (B := p4) (fun _ _ _ => by kernel_rfl) (Sim.skip (A := p4))
  (Sim.exit (A := p4) (fun _ => ⟨rfl, trivial⟩)))
  (Sim.seq (Sim.block (B := p4) (Sim.seq (Sim.reg (A := p4) (B := p6) (fun _ _ _ => by kernel_rfl))
  (Sim.seq (Sim.reg (A := p6) (B := p7) (fun _ _ _ => by kernel_rfl))
  (Sim.block (B := p4) (Sim.test (A := p7) (B := p7) (fun _ _ _ => by kernel_rfl) (Sim.reg (A := p7) (B := p4) (fun _ _ _ => by kernel_rfl))
  (Sim.test (A := p7) (B := p7) (fun _ _ _ => by kernel_rfl) (Sim.reg (A := p7) (B := p4) (fun _ _ _ => by kernel_rfl))
  (Sim.test (A := p7) (B := p7) (fun _ _ _ => by kernel_rfl) (Sim.reg (A := p7) (B := p4) (fun _ _ _ => by kernel_rfl))
  (Sim.test (A := p7) (B := p7) (fun _ _ _ => by kernel_rfl) (Sim.reg (A := p7) (B := p4) (fun _ _ _ => by kernel_rfl))
  (Sim.test (A := p7) (B := p6) (fun _ _ _ => by kernel_rfl) (Sim.test (A := p6) (B := p6) (fun _ _ _ => by kernel_rfl) (Sim.reg (A := p6) (B := p4) (fun _ _ _ => by kernel_rfl))
  (Sim.weak (B := p6) (C := p4) (Sim.skip (A := p6)) (fun _ => ⟨rfl, rfl, rfl, rfl, trivial⟩)))
  (Sim.weak (B := p6) (C := p4) (Sim.skip (A := p6)) (fun _ => ⟨rfl, rfl, rfl, rfl, trivial⟩)))))))))))
  (Sim.reg (A := p4) (B := p4) (fun _ _ _ => by kernel_rfl)))))))
  (Sim.seq (Sim.reg (A := p5) (B := p0) (fun _ _ _ => by kernel_rfl))
  (Sim.ret (A := p0) (E := ex) (fun _ => ⟨rfl, rfl, trivial⟩)))))))

def init (x_l : Sl) (x_dict : Sl) (x_first : Int) (x_repeats : Bool) : St := { x_l := x_l, x_dict := x_dict, x_first := x_first, x_repeats := x_repeats, x_block := Sl.nil, x_out := Sl.nil, x_w := none, x_i := 0, x_p := none, t43 := 0 }

/-- What is left of the results. -/
def res (K : Sl → Sl → Heap → Prop) (s : St) (h1 : Heap) : Prop := K s.x_block s.x_out h1

/-- The call of 'pub-pemmican/spec.S2Write'. -/
theorem calls (x_l : Sl) (x_dict : Sl) (x_first : Int) (x_repeats : Bool) (h : Heap) (K : Sl → Sl → Heap → Prop)
    (H : stm (init x_l x_dict x_first x_repeats) h (endK (res K))) : c_spec_S2Write x_l x_dict x_first x_repeats h K := by
  have hc : CallsH Pg 18 #[(.slice x_l.p x_l.n x_l.c), (.slice x_dict.p x_dict.n x_dict.c), (.int .i64 x_first), (.bool x_repeats)] h fun v h1 => asT v fun l1 => asC l1 fun v1 l2 => asS v1 fun p1 n1 c1 => asC l2 fun v2 l3 => asS v2 fun p2 n2 c2 => asN l3 (K ⟨p1, n1, c1⟩ ⟨p2, n2, c2⟩ h1) :=
    callsH_of_sim (R := p0) (fn := Tryd.f18) (c := Tryd.f18.body.getD .skip) Tryd.func18 rfl Tryd.ntmps18 Tryd.call18 sim (init x_l x_dict x_first x_repeats) (⟨rfl, rfl, rfl, rfl, trivial⟩) (Nat.le_of_ble_eq_true rfl) (fun _ => ⟨rfl, rfl, trivial⟩) rfl
      (res K) (fun _ _ => by kernel_rfl) H
  refine hc.mono ?_
  intro v hp H
  obtain ⟨l1, rfl, h1⟩ := asT_elim H
  obtain ⟨v1, l2, rfl, h2⟩ := asC_elim h1
  obtain ⟨p1, n1, c1, rfl, h3⟩ := asS_elim h2
  obtain ⟨v2, l3, rfl, h4⟩ := asC_elim h3
  obtain ⟨p2, n2, c2, rfl, h5⟩ := asS_elim h4
  obtain ⟨rfl, h6⟩ := asN_elim h5
  exact ⟨_, _, _, _, _, _, rfl, h6⟩

end M_spec_S2Write

end Go.Proofs.YtibleenkgmkpmaaDoor

namespace Go.Proofs.YtibleenkgmkpmaaDoor
open Go Go.Vc Go.Proofs

namespace M_impl_S2BlockDecode

structure St where
  x_size : Int
  x_block : Sl
  t4 : Sl
  t5 : Int
  x_dst : Sl
  x_code : Int

def p0 : Pt St where
  env s := [(4, (.slice s.t4.p s.t4.n s.t4.c)), (5, (.int .i64 s.t5))]
  fin e s K := getV e 4 fun v1 => asS v1 fun p1 n1 c1 => getV e 5 fun v2 => asI .i64 v2 fun n2 => K { s with t4 := ⟨p1, n1, c1⟩, t5 := n2 }
  ok := by
    intro e s K h0
    obtain ⟨w1, g1, h1⟩ := getV_elim h0
    obtain ⟨p1, n1, c1, rfl, h2⟩ := asS_elim h1
    obtain ⟨w2, g2, h3⟩ := getV_elim h2
    obtain ⟨n2, rfl, h4⟩ := asI_elim h3
    exact ⟨_, ⟨g1, g2, trivial⟩, h4⟩

def p1 : Pt St where
  env s := [(0, (.int .i64 s.x_size)), (1, (.slice s.x_block.p s.x_block.n s.x_block.c))]
  fin e s K := getV e 0 fun v1 => asI .i64 v1 fun n1 => getV e 1 fun v2 => asS v2 fun p1 n2 c1 => K { s with x_size := n1, x_block := ⟨p1, n2, c1⟩ }
  ok := by
    intro e s K h0
    obtain ⟨w1, g1, h1⟩ := getV_elim h0
    obtain ⟨n1, rfl, h2⟩ := asI_elim h1
    obtain ⟨w2, g2, h3⟩ := getV_elim h2
    obtain ⟨p1, n2, c1, rfl, h4⟩ := asS_elim h3
    exact ⟨_, ⟨g1, g2, trivial⟩, h4⟩

def p2 : Pt St where
  env s := [(1, (.slice s.x_block.p s.x_block.n s.x_block.c)), (6, (.slice s.x_dst.p s.x_dst.n s.x_dst.c))]
  fin e s K := getV e 1 fun v1 => asS v1 fun p1 n1 c1 => getV e 6 fun v2 => asS v2 fun p2 n2 c2 => K { s with x_block := ⟨p1, n1, c1⟩, x_dst := ⟨p2, n2, c2⟩ }
  ok := by
    intro e s K h0
    obtain ⟨w1, g1, h1⟩ := getV_elim h0
    obtain ⟨p1, n1, c1, rfl, h2⟩ := asS_elim h1
    obtain ⟨w2, g2, h3⟩ := getV_elim h2
    obtain ⟨p2, n2, c2, rfl, h4⟩ := asS_elim h3
    exact ⟨_, ⟨g1, g2, trivial⟩, h4⟩

def p3 : Pt St where
  env s := [(6, (.slice s.x_dst.p s.x_dst.n s.x_dst.c)), (7, (.int .i64 s.x_code))]
  fin e s K := getV e 6 fun v1 => asS v1 fun p1 n1 c1 => getV e 7 fun v2 => asI .i64 v2 fun n2 => K { s with x_dst := ⟨p1, n1, c1⟩, x_code := n2 }
  ok := by
    intro e s K h0
    obtain ⟨w1, g1, h1⟩ := getV_elim h0
    obtain ⟨p1, n1, c1, rfl, h2⟩ := asS_elim h1
    obtain ⟨w2, g2, h3⟩ := getV_elim h2
    obtain ⟨n2, rfl, h4⟩ := asI_elim h3
    exact ⟨_, ⟨g1, g2, trivial⟩, h4⟩

def r0 (s : St) (h : Heap) (Q : St → Heap → Prop) : Prop :=
  Q s h

def r1 (s : St) (h : Heap) (Q : St → Heap → Prop) : Prop :=
  mkT Pg 5 s.x_size s.x_size h fun a1 n2 c3 h4 =>
  Q { s with x_dst := ⟨(some a1), n2, c3⟩ } h4

def r2 (s : St) (h : Heap) (Q : St → Heap → Prop) : Prop :=
  c_ZzDecode s.x_dst s.x_block h fun r2 h1 =>
  Q { s with x_code := r2 } h1

def r3 (s : St) (h : Heap) (Q : St → Heap → Prop) : Prop :=
  Q { s with t4 := s.x_dst, t5 := s.x_code } h

def k1 : Stm St := (.seq (.reg r2) (.seq (.reg r3) .ret))
def k0 : Stm St := (.seq (.reg r1) k1)

def stm : Stm St := (.seq (.reg r0) k0)

def ex : Ex → Pt St := fun _ => p0

set_option maxRecDepth 100000 in
theorem sim : Sim Pg 15 p1 (Tryd.f19.body.getD .skip) stm p0 ex :=
  (Sim.seq (Sim.reg (A := p1) (B := p1) (fun _ _ _ => by kernel_rfl))
  (Sim.seq (Sim.reg (A := p1) (B := p2) (fun _ _ _ => by kernel_rfl))
  (Sim.seq (Sim.reg (A := p2) (B := p3) (fun _ _ _ => by kernel_rfl))
  (Sim.seq (Sim.reg (A := p3) (B := p0) (fun _ _ _ => by kernel_rfl))
  (Sim.ret (A := p0) (E := ex) (fun _ => ⟨rfl, rfl, trivial⟩))))))

def init (x_size : Int) (x_block : Sl) : St := { x_size := x_size, x_block := x_block, t4 := Sl.nil, t5 := 0, x_dst := Sl.nil, x_code := 0 }

/-- What is left of the results. -/
def res (K : Sl → Int → Heap → Prop) (s : St) (h1 : Heap) : Prop := K s.t4 s.t5 h1

/-- The call of 'pub-pemmican/impl.S2BlockDecode'. -/
theorem calls (x_size : Int) (x_block : Sl) (h : Heap) (K : Sl → Int → Heap → Prop)
    (H : stm (init x_size x_block) h (endK (res K))) : c_impl_S2BlockDecode x_size x_block h K := by
  have hc : CallsH Pg 19 #[(.int .i64 x_size), (.slice x_block.p x_block.n x_block.c)] h fun v h1 => asT v fun l1 => asC l1 fun v1 l2 => asS v1 fun p1 n1 c1 => asC l2 fun v2 l3 => asI .i64 v2 fun n2 => asN l3 (K ⟨p1, n1, c1⟩ n2 h1) :=
    callsH_of_sim (R := p0) (fn := Tryd.f19) (c := Tryd.f19.body.getD .skip) Tryd.func19 rfl Tryd.ntmps19 Tryd.call19 sim (init x_size x_block) (⟨rfl, rfl, trivial⟩) (Nat.le_of_ble_eq_true rfl) (fun _ => ⟨rfl, rfl, trivial⟩) rfl
      (res K) (fun _ _ => by kernel_rfl) H
  refine hc.mono ?_
  intro v hp H
  obtain ⟨l1, rfl, h1⟩ := asT_elim H
  obtain ⟨v1, l2, rfl, h2⟩ := asC_elim h1
  obtain ⟨p1, n1, c1, rfl, h3⟩ := asS_elim h2
  obtain ⟨v2, l3, rfl, h4⟩ := asC_elim h3
  obtain ⟨n2, rfl, h5⟩ := asI_elim h4
  obtain ⟨rfl, h6⟩ := asN_elim h5
  exact ⟨_, _, _, _, rfl, h6⟩

end M_impl_S2BlockDecode

end Go.Proofs.YtibleenkgmkpmaaDoor

namespace Go.Proofs.YtibleenkgmkpmaaDoor
open Go Go.Vc Go.Proofs

namespace M_ZzDecode

structure St where
  x_dst : Sl
  x_src : Sl
  t4 : Int

def p0 : Pt St where
  env s := [(4, (.int .i64 s.t4))]
  fin e s K := getV e 4 fun v1 => asI .i64 v1 fun n1 => K { s with t4 := n1 }
  ok := by
    intro e s K h0
    obtain ⟨w1, g1, h1⟩ := getV_elim h0
    obtain ⟨n1, rfl, h2⟩ := asI_elim h1
    exact ⟨_, ⟨g1, trivial⟩, h2⟩

def p1 : Pt St where
  env s := [(0, (.slice s.x_dst.p s.x_dst.n s.x_dst.c)), (1, (.slice s.x_src.p s.x_src.n s.x_src.c))]
  fin e s K := getV e 0 fun v1 => asS v1 fun p1 n1 c1 => getV e 1 fun v2 => asS v2 fun p2 n2 c2 => K { s with x_dst := ⟨p1, n1, c1⟩, x_src := ⟨p2, n2, c2⟩ }
  ok := by
    intro e s K h0
    obtain ⟨w1, g1, h1⟩ := getV_elim h0
    obtain ⟨p1, n1, c1, rfl, h2⟩ := asS_elim h1
    obtain ⟨w2, g2, h3⟩ := getV_elim h2
    obtain ⟨p2, n2, c2, rfl, h4⟩ := asS_elim h3
    exact ⟨_, ⟨g1, g2, trivial⟩, h4⟩

def r0 (s : St) (h : Heap) (Q : St → Heap → Prop) : Prop :=
  Q s h

def r1 (s : St) (h : Heap) (Q : St → Heap → Prop) : Prop :=
  c_s2Decode s.x_dst s.x_src h fun r2 h1 =>
  Q { s with t4 := r2 } h1

def stm : Stm St := (.seq (.reg r0) (.seq (.reg r1) .ret))

def ex : Ex → Pt St := fun _ => p0

set_option maxRecDepth 100000 in
theorem sim : Sim Pg 8 p1 (Tryd.f43.body.getD .skip) stm p0 ex :=
  (Sim.seq (Sim.reg (A := p1) (B := p1) (fun _ _ _ => by kernel_rfl))
  (Sim.seq (Sim.reg (A := p1) (B := p0) (fun _ _ _ => by kernel_rfl))
  (Sim.ret (A := p0) (E := ex) (fun _ => ⟨rfl, trivial⟩))))

def init (x_dst : Sl) (x_src : Sl) : St := { x_dst := x_dst, x_src := x_src, t4 := 0 }

/-- What is left of the results. -/
def res (K : Int → Heap → Prop) (s : St) (h1 : Heap) : Prop := K s.t4 h1

/-- The call of 'pub-pemmican/pub/compress/s2.ZzDecode'. -/
theorem calls (x_dst : Sl) (x_src : Sl) (h : Heap) (K : Int → Heap → Prop)
    (H : stm (init x_dst x_src) h (endK (res K))) : c_ZzDecode x_dst x_src h K := by
  have hc : CallsH Pg 43 #[(.slice x_dst.p x_dst.n x_dst.c), (.slice x_src.p x_src.n x_src.c)] h fun v h1 => asI .i64 v fun n1 => K n1 h1 :=
    callsH_of_sim (R := p0) (fn := Tryd.f43) (c := Tryd.f43.body.getD .skip) Tryd.func43 rfl Tryd.ntmps43 Tryd.call43 sim (init x_dst x_src) (⟨rfl, rfl, trivial⟩) (Nat.le_of_ble_eq_true rfl) (fun _ => ⟨rfl, trivial⟩) rfl
      (res K) (fun _ _ => by kernel_rfl) H
  refine hc.mono ?_
  intro v hp H
  obtain ⟨n1, rfl, h1⟩ := asI_elim H
  exact ⟨_, rfl, h1⟩

end M_ZzDecode

end Go.Proofs.YtibleenkgmkpmaaDoor

namespace Go.Proofs.YtibleenkgmkpmaaDoor
open Go Go.Vc Go.Proofs

namespace M_laws_FnS2Any

structure St where
  x_l : Sl
  x_repeats : Bool
  t4 : Bool
  x_b : Sl
  x_want : Sl
  x_out : Sl
  x_ok : Bool
  x_used : Int
  x_body : Sl
  x_code : Int

def p0 : Pt St where
  env s := [(4, (.bool s.t4))]
  fin e s K := getV e 4 fun v1 => asB v1 fun b1 => K { s with t4 := b1 }
  ok := by
    intro e s K h0
    obtain ⟨w1, g1, h1⟩ := getV_elim h0
    obtain ⟨b1, rfl, h2⟩ := asB_elim h1
    exact ⟨_, ⟨g1, trivial⟩, h2⟩

def p1 : Pt St where
  env s := [(0, (.slice s.x_l.p s.x_l.n s.x_l.c)), (1, (.bool s.x_repeats))]
  fin e s K := getV e 0 fun v1 => asS v1 fun p1 n1 c1 => getV e 1 fun v2 => asB v2 fun b1 => K { s with x_l := ⟨p1, n1, c1⟩, x_repeats := b1 }
  ok := by
    intro e s K h0
    obtain ⟨w1, g1, h1⟩ := getV_elim h0
    obtain ⟨p1, n1, c1, rfl, h2⟩ := asS_elim h1
    obtain ⟨w2, g2, h3⟩ := getV_elim h2
    obtain ⟨b1, rfl, h4⟩ := asB_elim h3
    exact ⟨_, ⟨g1, g2, trivial⟩, h4⟩

def p2 : Pt St where
  env s := [(5, (.slice s.x_b.p s.x_b.n s.x_b.c)), (6, (.slice s.x_want.p s.x_want.n s.x_want.c))]
  fin e s K := getV e 5 fun v1 => asS v1 fun p1 n1 c1 => getV e 6 fun v2 => asS v2 fun p2 n2 c2 => K { s with x_b := ⟨p1, n1, c1⟩, x_want := ⟨p2, n2, c2⟩ }
  ok := by
    intro e s K h0
    obtain ⟨w1, g1, h1⟩ := getV_elim h0
    obtain ⟨p1, n1, c1, rfl, h2⟩ := asS_elim h1
    obtain ⟨w2, g2, h3⟩ := getV_elim h2
    obtain ⟨p2, n2, c2, rfl, h4⟩ := asS_elim h3
    exact ⟨_, ⟨g1, g2, trivial⟩, h4⟩

def p3 : Pt St where
  env s := [(5, (.slice s.x_b.p s.x_b.n s.x_b.c)), (6, (.slice s.x_want.p s.x_want.n s.x_want.c)), (7, (.slice s.x_out.p s.x_out.n s.x_out.c)), (8, (.bool s.x_ok))]
  fin e s K := getV e 5 fun v1 => asS v1 fun p1 n1 c1 => getV e 6 fun v2 => asS v2 fun p2 n2 c2 => getV e 7 fun v3 => asS v3 fun p3 n3 c3 => getV e 8 fun v4 => asB v4 fun b1 => K { s with x_b := ⟨p1, n1, c1⟩, x_want := ⟨p2, n2, c2⟩, x_out := ⟨p3, n3, c3⟩, x_ok := b1 }
  ok := by
    intro e s K h0
    obtain ⟨w1, g1, h1⟩ := getV_elim h0
    obtain ⟨p1, n1, c1, rfl, h2⟩ := asS_elim h1
    obtain ⟨w2, g2, h3⟩ := getV_elim h2
    obtain ⟨p2, n2, c2, rfl, h4⟩ := asS_elim h3
    obtain ⟨w3, g3, h5⟩ := getV_elim h4
    obtain ⟨p3, n3, c3, rfl, h6⟩ := asS_elim h5
    obtain ⟨w4, g4, h7⟩ := getV_elim h6
    obtain ⟨b1, rfl, h8⟩ := asB_elim h7
    exact ⟨_, ⟨g1, g2, g3, g4, trivial⟩, h8⟩

def p4 : Pt St where
  env s := [(5, (.slice s.x_b.p s.x_b.n s.x_b.c)), (6, (.slice s.x_want.p s.x_want.n s.x_want.c)), (10, (.int .i64 s.x_used))]
  fin e s K := getV e 5 fun v1 => asS v1 fun p1 n1 c1 => getV e 6 fun v2 => asS v2 fun p2 n2 c2 => getV e 10 fun v3 => asI .i64 v3 fun n3 => K { s with x_b := ⟨p1, n1, c1⟩, x_want := ⟨p2, n2, c2⟩, x_used := n3 }
  ok := by
    intro e s K h0
    obtain ⟨w1, g1, h1⟩ := getV_elim h0
    obtain ⟨p1, n1, c1, rfl, h2⟩ := asS_elim h1
    obtain ⟨w2, g2, h3⟩ := getV_elim h2
    obtain ⟨p2, n2, c2, rfl, h4⟩ := asS_elim h3
    obtain ⟨w3, g3, h5⟩ := getV_elim h4
    obtain ⟨n3, rfl, h6⟩ := asI_elim h5
    exact ⟨_, ⟨g1, g2, g3, trivial⟩, h6⟩

def p5 : Pt St where
  env s := [(6, (.slice s.x_want.p s.x_want.n s.x_want.c)), (12, (.slice s.x_body.p s.x_body.n s.x_body.c)), (13, (.int .i64 s.x_code))]
  fin e s K := getV e 6 fun v1 => asS v1 fun p1 n1 c1 => getV e 12 fun v2 => asS v2 fun p2 n2 c2 => getV e 13 fun v3 => asI .i64 v3 fun n3 => K { s with x_want := ⟨p1, n1, c1⟩, x_body := ⟨p2, n2, c2⟩, x_code := n3 }
  ok := by
    intro e s K h0
    obtain ⟨w1, g1, h1⟩ := getV_elim h0
    obtain ⟨p1, n1, c1, rfl, h2⟩ := asS_elim h1
    obtain ⟨w2, g2, h3⟩ := getV_elim h2
    obtain ⟨p2, n2, c2, rfl, h4⟩ := asS_elim h3
    obtain ⟨w3, g3, h5⟩ := getV_elim h4
    obtain ⟨n3, rfl, h6⟩ := asI_elim h5
    exact ⟨_, ⟨g1, g2, g3, trivial⟩, h6⟩

def r0 (s : St) (h : Heap) (Q : St → Heap → Prop) : Prop :=
  Q s h

def r1 (s : St) (h : Heap) (Q : Bool → St → Heap → Prop) : Prop :=
  c_laws_zzFits1 s.x_l h fun b2 h1 =>
  Q (!b2) s h1

def r2 (s : St) (h : Heap) (Q : St → Heap → Prop) : Prop :=
  Q { s with t4 := true } h

def r3 (s : St) (h : Heap) (Q : Bool → St → Heap → Prop) : Prop :=
  c_laws_pieces s.x_l h fun b2 h1 =>
  Q (!b2) s h1

def r4 (s : St) (h : Heap) (Q : St → Heap → Prop) : Prop :=
  Q { s with t4 := true } h

def r5 (s : St) (h : Heap) (Q : St → Heap → Prop) : Prop :=
  c_spec_S2Write s.x_l ⟨none, 0, 0⟩ (0 : Int) s.x_repeats h fun w2 w3 h1 =>
  Q { s with x_b := w2, x_want := w3 } h1

def r6 (s : St) (h : Heap) (Q : Bool → St → Heap → Prop) : Prop :=
  Q (decide (((s.x_want.n : Nat) : Int) > (1048576 : Int))) s h

def r7 (s : St) (h : Heap) (Q : St → Heap → Prop) : Prop :=
  Q { s with t4 := true } h

def r8 (s : St) (h : Heap) (Q : St → Heap → Prop) : Prop :=
  c_impl_S2Decode s.x_b h fun w2 b3 h1 =>
  Q { s with x_out := w2, x_ok := b3 } h1

def r9 (s : St) (h : Heap) (Q : Bool → St → Heap → Prop) : Prop :=
  (if (!s.x_ok) = false then
  (c_laws_eq s.x_out s.x_want h fun b2 h1 =>
  Q (!b2) s h1)
  else
  (Q true s h))

def r10 (s : St) (h : Heap) (Q : St → Heap → Prop) : Prop :=
  Q { s with t4 := false } h

def r11 (s : St) (h : Heap) (Q : St → Heap → Prop) : Prop :=
  c_spec_S2Len s.x_b h fun r2 r3 r4 h1 =>
  Q { s with x_used := r3 } h1

def r12 (s : St) (h : Heap) (Q : Bool → St → Heap → Prop) : Prop :=
  (if (((s.x_want.n : Nat) : Int) == (0 : Int)) = false then
  (Q (decide (((s.x_want.n : Nat) : Int) > (262144 : Int))) s h)
  else
  (Q true s h))

def r13 (s : St) (h : Heap) (Q : St → Heap → Prop) : Prop :=
  Q { s with t4 := true } h

def r14 (s : St) (h : Heap) (Q : St → Heap → Prop) : Prop :=
  0 ≤ s.x_used ∧ s.x_used ≤ ((s.x_b.n : Nat) : Int) ∧
  c_impl_S2BlockDecode ((s.x_want.n : Nat) : Int) ⟨(subP s.x_b.p (Int.toNat s.x_used) s.x_b.c 1), (s.x_b.n - (Int.toNat s.x_used)), (s.x_b.c - (Int.toNat s.x_used))⟩ h fun w2 r3 h1 =>
  Q { s with x_body := w2, x_code := r3 } h1

def r15 (s : St) (h : Heap) (Q : St → Heap → Prop) : Prop :=
  (if (s.x_code == (0 : Int)) = true then
  (c_laws_eq s.x_body s.x_want h fun b2 h1 =>
  Q { s with t4 := b2 } h1)
  else
  (Q { s with t4 := false } h))

def k8 : Stm St := (.seq (.reg r14) (.seq (.reg r15) .ret))
def k7 : Stm St := (.seq (.test r12 (.seq (.reg r13) .ret) .skip) k8)
def k6 : Stm St := (.seq (.reg r11) k7)
def k5 : Stm St := (.seq (.test r9 (.seq (.reg r10) .ret) .skip) k6)
def k4 : Stm St := (.seq (.reg r8) k5)
def k3 : Stm St := (.seq (.test r6 (.seq (.reg r7) .ret) .skip) k4)
def k2 : Stm St := (.seq (.reg r5) k3)
def k1 : Stm St := (.seq (.test r3 (.seq (.reg r4) .ret) .skip) k2)
def k0 : Stm St := (.seq (.test r1 (.seq (.reg r2) .ret) .skip) k1)

def stm : Stm St := (.seq (.reg r0) k0)

def ex : Ex → Pt St := fun _ => p0

set_option maxRecDepth 100000 in
theorem sim : Sim Pg 72 p1 (Tryd.f5.body.getD .skip) stm p0 ex :=
  (Sim.seq (Sim.reg (A := p1) (B := p1) (fun _ _ _ => by kernel_rfl))
  (Sim.seq (Sim.test (A := p1) (B := p1) (fun _ _ _ => by kernel_rfl) (Sim.seq (Sim.reg (A := p1) (B := p0) (fun _ _ _ => by kernel_rfl))
  (Sim.ret (A := p0) (E := ex) (fun _ => ⟨rfl, trivial⟩)))
  (Sim.skip (A := p1)))
  (Sim.seq (Sim.test (A := p1) (B := p1) (fun _ _ _ => by kernel_rfl) (Sim.seq (Sim.reg (A := p1) (B := p0) (fun _ _ _ => by kernel_rfl))
  (Sim.ret (A := p0) (E := ex) (fun _ => ⟨rfl, trivial⟩)))
  (Sim.skip (A := p1)))
  (Sim.seq (Sim.reg (A := p1) (B := p2) (fun _ _ _ => by kernel_rfl))
  (Sim.seq (Sim.test (A := p2) (B := p2) (fun _ _ _ => by kernel_rfl) (Sim.seq (Sim.reg (A := p2) (B := p0) (fun _ _ _ => by kernel_rfl))
  (Sim.ret (A := p0) (E := ex) (fun _ => ⟨rfl, trivial⟩)))
  (Sim.skip (A := p2)))
  (Sim.seq (Sim.reg (A := p2) (B := p3) (fun _ _ _ => by kernel_rfl))
  (Sim.seq (Sim.test (A := p3) (B := p2) (fun _ _ _ => by kernel_rfl) (Sim.seq (Sim.reg (A := p2) (B := p0) (fun _ _ _ => by kernel_rfl))
  (Sim.ret (A := p0) (E := ex) (fun _ => ⟨rfl, trivial⟩)))
  (Sim.skip (A := p2)))
  (Sim.seq (Sim.reg (A := p2) (B := p4) (fun _ _ _ => by kernel_rfl))
  (Sim.seq (Sim.test (A := p4) (B := p4) (fun _ _ _ => by kernel_rfl) (Sim.seq (Sim.reg (A := p4) (B := p0) (fun _ _ _ => by kernel_rfl))
  (Sim.ret (A := p0) (E := ex) (fun _ => ⟨rfl, trivial⟩)))
  (Sim.skip (A := p4)))
  (Sim.seq (Sim.reg (A := p4) (B := p5) (fun _ _ _ => by kernel_rfl))
  (Sim.seq (Sim.reg (A := p5) (B := p0) (fun _ _ _ => by kernel_rfl))
  (Sim.ret (A := p0) (E := ex) (fun _ => ⟨rfl, trivial⟩)))))))))))))

def init (x_l : Sl) (x_repeats : Bool) : St := { x_l := x_l, x_repeats := x_repeats, t4 := false, x_b := Sl.nil, x_want := Sl.nil, x_out := Sl.nil, x_ok := false, x_used := 0, x_body := Sl.nil, x_code := 0 }

/-- What is left of the results. -/
def res (K : Bool → Heap → Prop) (s : St) (h1 : Heap) : Prop := K s.t4 h1

/-- The call of 'pub-pemmican/laws.FnS2Any'. -/
theorem calls (x_l : Sl) (x_repeats : Bool) (h : Heap) (K : Bool → Heap → Prop)
    (H : stm (init x_l x_repeats) h (endK (res K))) : c_laws_FnS2Any x_l x_repeats h K := by
  have hc : CallsH Pg 5 #[(.slice x_l.p x_l.n x_l.c), (.bool x_repeats)] h fun v h1 => asB v fun b1 => K b1 h1 :=
    callsH_of_sim (R := p0) (fn := Tryd.f5) (c := Tryd.f5.body.getD .skip) Tryd.func5 rfl Tryd.ntmps5 Tryd.call5 sim (init x_l x_repeats) (⟨rfl, rfl, trivial⟩) (Nat.le_of_ble_eq_true rfl) (fun _ => ⟨rfl, trivial⟩) rfl
      (res K) (fun _ _ => by kernel_rfl) H
  refine hc.mono ?_
  intro v hp H
  obtain ⟨b1, rfl, h1⟩ := asB_elim H
  exact ⟨_, rfl, h1⟩

end M_laws_FnS2Any

end Go.Proofs.YtibleenkgmkpmaaDoor

