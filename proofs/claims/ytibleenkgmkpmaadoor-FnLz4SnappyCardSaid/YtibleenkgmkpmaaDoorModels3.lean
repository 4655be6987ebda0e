/- Models of functions of the program: what each one computes, over heaps, tied to the program by one check a region. Written by a program. -/
import Derived.Test.YtibleenkgmkpmaaDoorSigs
namespace Go.Proofs.YtibleenkgmkpmaaDoor
open Go Go.Vc Go.Proofs

namespace M_laws_join

structure St where
  x_a : Sl
  x_b : Sl
  t4 : Sl
  x_out : Sl

def p0 : Pt St where
  env s := [(4, (.slice s.t4.p s.t4.n s.t4.c))]
  fin e s K := getV e 4 fun v1 => asS v1 fun p1 n1 c1 => K { s with t4 := ⟨p1, n1, c1⟩ }
  ok := by
    intro e s K h0
    obtain ⟨w1, g1, h1⟩ := getV_elim h0
    obtain ⟨p1, n1, c1, rfl, h2⟩ := asS_elim h1
    exact ⟨_, ⟨g1, trivial⟩, h2⟩

def p1 : Pt St where
  env s := [(0, (.slice s.x_a.p s.x_a.n s.x_a.c)), (1, (.slice s.x_b.p s.x_b.n s.x_b.c))]
  fin e s K := getV e 0 fun v1 => asS v1 fun p1 n1 c1 => getV e 1 fun v2 => asS v2 fun p2 n2 c2 => K { s with x_a := ⟨p1, n1, c1⟩, x_b := ⟨p2, n2, c2⟩ }
  ok := by
    intro e s K h0
    obtain ⟨w1, g1, h1⟩ := getV_elim h0
    obtain ⟨p1, n1, c1, rfl, h2⟩ := asS_elim h1
    obtain ⟨w2, g2, h3⟩ := getV_elim h2
    obtain ⟨p2, n2, c2, rfl, h4⟩ := asS_elim h3
    exact ⟨_, ⟨g1, g2, trivial⟩, h4⟩

def p2 : Pt St where
  env s := [(0, (.slice s.x_a.p s.x_a.n s.x_a.c)), (1, (.slice s.x_b.p s.x_b.n s.x_b.c)), (5, (.slice s.x_out.p s.x_out.n s.x_out.c))]
  fin e s K := getV e 0 fun v1 => asS v1 fun p1 n1 c1 => getV e 1 fun v2 => asS v2 fun p2 n2 c2 => getV e 5 fun v3 => asS v3 fun p3 n3 c3 => K { s with x_a := ⟨p1, n1, c1⟩, x_b := ⟨p2, n2, c2⟩, x_out := ⟨p3, n3, c3⟩ }
  ok := by
    intro e s K h0
    obtain ⟨w1, g1, h1⟩ := getV_elim h0
    obtain ⟨p1, n1, c1, rfl, h2⟩ := asS_elim h1
    obtain ⟨w2, g2, h3⟩ := getV_elim h2
    obtain ⟨p2, n2, c2, rfl, h4⟩ := asS_elim h3
    obtain ⟨w3, g3, h5⟩ := getV_elim h4
    obtain ⟨p3, n3, c3, rfl, h6⟩ := asS_elim h5
    exact ⟨_, ⟨g1, g2, g3, trivial⟩, h6⟩

def p3 : Pt St where
  env s := [(1, (.slice s.x_b.p s.x_b.n s.x_b.c)), (5, (.slice s.x_out.p s.x_out.n s.x_out.c))]
  fin e s K := getV e 1 fun v1 => asS v1 fun p1 n1 c1 => getV e 5 fun v2 => asS v2 fun p2 n2 c2 => K { s with x_b := ⟨p1, n1, c1⟩, x_out := ⟨p2, n2, c2⟩ }
  ok := by
    intro e s K h0
    obtain ⟨w1, g1, h1⟩ := getV_elim h0
    obtain ⟨p1, n1, c1, rfl, h2⟩ := asS_elim h1
    obtain ⟨w2, g2, h3⟩ := getV_elim h2
    obtain ⟨p2, n2, c2, rfl, h4⟩ := asS_elim h3
    exact ⟨_, ⟨g1, g2, trivial⟩, h4⟩

def r0 (s : St) (h : Heap) (Q : St → Heap → Prop) : Prop :=
  Q s h

def r1 (s : St) (h : Heap) (Q : St → Heap → Prop) : Prop :=
  mkT Pg 5 (0 : Int) (IntKind.wrap .i64 (((s.x_a.n : Nat) : Int) + ((s.x_b.n : Nat) : Int))) h fun a1 n2 c3 h4 =>
  Q { s with x_out := ⟨(some a1), n2, c3⟩ } h4

def r2 (s : St) (h : Heap) (Q : St → Heap → Prop) : Prop :=
  appendT Pg 5 s.x_out.p s.x_out.n s.x_out.c (.slice s.x_a.p s.x_a.n s.x_a.c) s.x_a.n h fun p1 n2 c3 h4 =>
  Q { s with x_out := ⟨p1, n2, c3⟩ } h4

def r3 (s : St) (h : Heap) (Q : St → Heap → Prop) : Prop :=
  appendT Pg 5 s.x_out.p s.x_out.n s.x_out.c (.slice s.x_b.p s.x_b.n s.x_b.c) s.x_b.n h fun p1 n2 c3 h4 =>
  Q { s with t4 := ⟨p1, n2, c3⟩ } h4

def k1 : Stm St := (.seq (.reg r2) (.seq (.reg r3) .ret))
def k0 : Stm St := (.seq (.reg r1) k1)

def stm : Stm St := (.seq (.reg r0) k0)

def ex : Ex → Pt St := fun _ => p0

set_option maxRecDepth 100000 in
theorem sim : Sim Pg 18 p1 (Tryd.f29.body.getD .skip) stm p0 ex :=
  (Sim.seq (Sim.reg (A := p1) (B := p1) (fun _ _ _ => by kernel_rfl))
  (Sim.seq (Sim.reg (A := p1) (B := p2) (fun _ _ _ => by kernel_rfl))
  (Sim.seq (Sim.reg (A := p2) (B := p3) (fun _ _ _ => by kernel_rfl))
  (Sim.seq (Sim.reg (A := p3) (B := p0) (fun _ _ _ => by kernel_rfl))
  (Sim.ret (A := p0) (E := ex) (fun _ => ⟨rfl, trivial⟩))))))

def init (x_a : Sl) (x_b : Sl) : St := { x_a := x_a, x_b := x_b, t4 := Sl.nil, x_out := Sl.nil }

/-- What is left of the results. -/
def res (K : Sl → Heap → Prop) (s : St) (h1 : Heap) : Prop := K s.t4 h1

/-- The call of 'pub-pemmican/laws.join'. -/
theorem calls (x_a : Sl) (x_b : Sl) (h : Heap) (K : Sl → Heap → Prop)
    (H : stm (init x_a x_b) h (endK (res K))) : c_laws_join x_a x_b h K := by
  have hc : CallsH Pg 29 #[(.slice x_a.p x_a.n x_a.c), (.slice x_b.p x_b.n x_b.c)] h fun v h1 => asS v fun p1 n1 c1 => K ⟨p1, n1, c1⟩ h1 :=
    callsH_of_sim (R := p0) (fn := Tryd.f29) (c := Tryd.f29.body.getD .skip) Tryd.func29 rfl Tryd.ntmps29 Tryd.call29 sim (init x_a x_b) (⟨rfl, rfl, trivial⟩) (Nat.le_of_ble_eq_true rfl) (fun _ => ⟨rfl, trivial⟩) rfl
      (res K) (fun _ _ => by kernel_rfl) H
  refine hc.mono ?_
  intro v hp H
  obtain ⟨p1, n1, c1, rfl, h1⟩ := asS_elim H
  exact ⟨_, _, _, rfl, h1⟩

end M_laws_join

end Go.Proofs.YtibleenkgmkpmaaDoor

namespace Go.Proofs.YtibleenkgmkpmaaDoor
open Go Go.Vc Go.Proofs

namespace M_laws_FnLz4Snappy

structure St where
  x_src : Sl
  x_modified : Bool
  t4 : Bool
  x_want : Sl
  x_fits : Int
  x_b : Sl
  x_n : Int
  x_ok : Bool
  x_out : Sl
  x_told : Int

def p0 : Pt St where
  env s := [(4, (.bool s.t4))]
  fin e s K := getV e 4 fun v1 => asB v1 fun b1 => K { s with t4 := b1 }
  ok := by
    intro e s K h0
    obtain ⟨w1, g1, h1⟩ := getV_elim h0
    obtain ⟨b1, rfl, h2⟩ := asB_elim h1
    exact ⟨_, ⟨g1, trivial⟩, h2⟩

def p1 : Pt St where
  env s := [(0, (.slice s.x_src.p s.x_src.n s.x_src.c)), (1, (.bool s.x_modified))]
  fin e s K := getV e 0 fun v1 => asS v1 fun p1 n1 c1 => getV e 1 fun v2 => asB v2 fun b1 => K { s with x_src := ⟨p1, n1, c1⟩, x_modified := b1 }
  ok := by
    intro e s K h0
    obtain ⟨w1, g1, h1⟩ := getV_elim h0
    obtain ⟨p1, n1, c1, rfl, h2⟩ := asS_elim h1
    obtain ⟨w2, g2, h3⟩ := getV_elim h2
    obtain ⟨b1, rfl, h4⟩ := asB_elim h3
    exact ⟨_, ⟨g1, g2, trivial⟩, h4⟩

def p2 : Pt St where
  env s := [(0, (.slice s.x_src.p s.x_src.n s.x_src.c)), (1, (.bool s.x_modified)), (5, (.slice s.x_want.p s.x_want.n s.x_want.c)), (6, (.int .i64 s.x_fits))]
  fin e s K := getV e 0 fun v1 => asS v1 fun p1 n1 c1 => getV e 1 fun v2 => asB v2 fun b1 => getV e 5 fun v3 => asS v3 fun p2 n2 c2 => getV e 6 fun v4 => asI .i64 v4 fun n3 => K { s with x_src := ⟨p1, n1, c1⟩, x_modified := b1, x_want := ⟨p2, n2, c2⟩, x_fits := n3 }
  ok := by
    intro e s K h0
    obtain ⟨w1, g1, h1⟩ := getV_elim h0
    obtain ⟨p1, n1, c1, rfl, h2⟩ := asS_elim h1
    obtain ⟨w2, g2, h3⟩ := getV_elim h2
    obtain ⟨b1, rfl, h4⟩ := asB_elim h3
    obtain ⟨w3, g3, h5⟩ := getV_elim h4
    obtain ⟨p2, n2, c2, rfl, h6⟩ := asS_elim h5
    obtain ⟨w4, g4, h7⟩ := getV_elim h6
    obtain ⟨n3, rfl, h8⟩ := asI_elim h7
    exact ⟨_, ⟨g1, g2, g3, g4, trivial⟩, h8⟩

def p3 : Pt St where
  env s := [(0, (.slice s.x_src.p s.x_src.n s.x_src.c)), (1, (.bool s.x_modified)), (5, (.slice s.x_want.p s.x_want.n s.x_want.c))]
  fin e s K := getV e 0 fun v1 => asS v1 fun p1 n1 c1 => getV e 1 fun v2 => asB v2 fun b1 => getV e 5 fun v3 => asS v3 fun p2 n2 c2 => K { s with x_src := ⟨p1, n1, c1⟩, x_modified := b1, x_want := ⟨p2, n2, c2⟩ }
  ok := by
    intro e s K h0
    obtain ⟨w1, g1, h1⟩ := getV_elim h0
    obtain ⟨p1, n1, c1, rfl, h2⟩ := asS_elim h1
    obtain ⟨w2, g2, h3⟩ := getV_elim h2
    obtain ⟨b1, rfl, h4⟩ := asB_elim h3
    obtain ⟨w3, g3, h5⟩ := getV_elim h4
    obtain ⟨p2, n2, c2, rfl, h6⟩ := asS_elim h5
    exact ⟨_, ⟨g1, g2, g3, trivial⟩, h6⟩

def p4 : Pt St where
  env s := [(5, (.slice s.x_want.p s.x_want.n s.x_want.c)), (7, (.slice s.x_b.p s.x_b.n s.x_b.c)), (8, (.int .i64 s.x_n)), (9, (.bool s.x_ok))]
  fin e s K := getV e 5 fun v1 => asS v1 fun p1 n1 c1 => getV e 7 fun v2 => asS v2 fun p2 n2 c2 => getV e 8 fun v3 => asI .i64 v3 fun n3 => getV e 9 fun v4 => asB v4 fun b1 => K { s with x_want := ⟨p1, n1, c1⟩, x_b := ⟨p2, n2, c2⟩, x_n := n3, x_ok := b1 }
  ok := by
    intro e s K h0
    obtain ⟨w1, g1, h1⟩ := getV_elim h0
    obtain ⟨p1, n1, c1, rfl, h2⟩ := asS_elim h1
    obtain ⟨w2, g2, h3⟩ := getV_elim h2
    obtain ⟨p2, n2, c2, rfl, h4⟩ := asS_elim h3
    obtain ⟨w3, g3, h5⟩ := getV_elim h4
    obtain ⟨n3, rfl, h6⟩ := asI_elim h5
    obtain ⟨w4, g4, h7⟩ := getV_elim h6
    obtain ⟨b1, rfl, h8⟩ := asB_elim h7
    exact ⟨_, ⟨g1, g2, g3, g4, trivial⟩, h8⟩

def p5 : Pt St where
  env s := [(5, (.slice s.x_want.p s.x_want.n s.x_want.c)), (7, (.slice s.x_b.p s.x_b.n s.x_b.c)), (8, (.int .i64 s.x_n))]
  fin e s K := getV e 5 fun v1 => asS v1 fun p1 n1 c1 => getV e 7 fun v2 => asS v2 fun p2 n2 c2 => getV e 8 fun v3 => asI .i64 v3 fun n3 => K { s with x_want := ⟨p1, n1, c1⟩, x_b := ⟨p2, n2, c2⟩, x_n := n3 }
  ok := by
    intro e s K h0
    obtain ⟨w1, g1, h1⟩ := getV_elim h0
    obtain ⟨p1, n1, c1, rfl, h2⟩ := asS_elim h1
    obtain ⟨w2, g2, h3⟩ := getV_elim h2
    obtain ⟨p2, n2, c2, rfl, h4⟩ := asS_elim h3
    obtain ⟨w3, g3, h5⟩ := getV_elim h4
    obtain ⟨n3, rfl, h6⟩ := asI_elim h5
    exact ⟨_, ⟨g1, g2, g3, trivial⟩, h6⟩

def p6 : Pt St where
  env s := [(5, (.slice s.x_want.p s.x_want.n s.x_want.c)), (10, (.slice s.x_out.p s.x_out.n s.x_out.c)), (11, (.int .i64 s.x_told))]
  fin e s K := getV e 5 fun v1 => asS v1 fun p1 n1 c1 => getV e 10 fun v2 => asS v2 fun p2 n2 c2 => getV e 11 fun v3 => asI .i64 v3 fun n3 => K { s with x_want := ⟨p1, n1, c1⟩, x_out := ⟨p2, n2, c2⟩, x_told := n3 }
  ok := by
    intro e s K h0
    obtain ⟨w1, g1, h1⟩ := getV_elim h0
    obtain ⟨p1, n1, c1, rfl, h2⟩ := asS_elim h1
    obtain ⟨w2, g2, h3⟩ := getV_elim h2
    obtain ⟨p2, n2, c2, rfl, h4⟩ := asS_elim h3
    obtain ⟨w3, g3, h5⟩ := getV_elim h4
    obtain ⟨n3, rfl, h6⟩ := asI_elim h5
    exact ⟨_, ⟨g1, g2, g3, trivial⟩, h6⟩

def r0 (s : St) (h : Heap) (Q : St → Heap → Prop) : Prop :=
  Q s h

def r1 (s : St) (h : Heap) (Q : Bool → St → Heap → Prop) : Prop :=
  Q (decide (((s.x_src.n : Nat) : Int) > (2147483647 : Int))) s h

def r2 (s : St) (h : Heap) (Q : St → Heap → Prop) : Prop :=
  Q { s with t4 := true } h

def r3 (s : St) (h : Heap) (Q : Bool → St → Heap → Prop) : Prop :=
  Q (decide (((s.x_src.n : Nat) : Int) > (65536 : Int))) s h

def r4 (s : St) (h : Heap) (Q : St → Heap → Prop) : Prop :=
  Q { s with t4 := true } h

def r5 (s : St) (h : Heap) (Q : St → Heap → Prop) : Prop :=
  c_laws_lz4 s.x_src s.x_modified h fun w2 r3 h1 =>
  Q { s with x_want := w2, x_fits := r3 } h1

def r6 (s : St) (h : Heap) (Q : Bool → St → Heap → Prop) : Prop :=
  (if (s.x_fits != (1 : Int)) = false then
  ((if (((s.x_want.n : Nat) : Int) == (0 : Int)) = false then
  (Q (decide (((s.x_want.n : Nat) : Int) > (1048576 : Int))) s h)
  else
  (Q true s h)))
  else
  (Q true s h))

def r7 (s : St) (h : Heap) (Q : St → Heap → Prop) : Prop :=
  Q { s with t4 := true } h

def r8 (s : St) (h : Heap) (Q : St → Heap → Prop) : Prop :=
  c_laws_convert s.x_src s.x_modified true h fun w2 r3 b4 h1 =>
  Q { s with x_b := w2, x_n := r3, x_ok := b4 } h1

def r9 (s : St) (h : Heap) (Q : Bool → St → Heap → Prop) : Prop :=
  (if (!s.x_ok) = false then
  (Q (s.x_n != ((s.x_want.n : Nat) : Int)) s h)
  else
  (Q true s h))

def r10 (s : St) (h : Heap) (Q : St → Heap → Prop) : Prop :=
  Q { s with t4 := false } h

def r11 (s : St) (h : Heap) (Q : St → Heap → Prop) : Prop :=
  c_laws_uvarint s.x_n h fun w2 h1 =>
  c_laws_join w2 s.x_b h1 fun w4 h3 =>
  c_spec_SnappyDecode w4 h3 fun w6 r7 h5 =>
  Q { s with x_out := w6, x_told := r7 } h5

def r12 (s : St) (h : Heap) (Q : St → Heap → Prop) : Prop :=
  (if (s.x_told == (1 : Int)) = true then
  (c_laws_eq s.x_out s.x_want h fun b2 h1 =>
  Q { s with t4 := b2 } h1)
  else
  (Q { s with t4 := false } h))

def k6 : Stm St := (.seq (.reg r11) (.seq (.reg r12) .ret))
def k5 : Stm St := (.seq (.test r9 (.seq (.reg r10) .ret) .skip) k6)
def k4 : Stm St := (.seq (.reg r8) k5)
def k3 : Stm St := (.seq (.test r6 (.seq (.reg r7) .ret) .skip) k4)
def k2 : Stm St := (.seq (.reg r5) k3)
def k1 : Stm St := (.seq (.test r3 (.seq (.reg r4) .ret) .skip) k2)
def k0 : Stm St := (.seq (.test r1 (.seq (.reg r2) .ret) .skip) k1)

def stm : Stm St := (.seq (.reg r0) k0)

def ex : Ex → Pt St := fun _ => p0

set_option maxRecDepth 100000 in
theorem sim : Sim Pg 66 p1 (Tryd.f8.body.getD .skip) stm p0 ex :=
  (Sim.seq (Sim.reg (A := p1) (B := p1) (fun _ _ _ => by kernel_rfl))
  (Sim.seq (Sim.test (A := p1) (B := p1) (fun _ _ _ => by kernel_rfl) (Sim.seq (Sim.reg (A := p1) (B := p0) (fun _ _ _ => by kernel_rfl))
  (Sim.ret (A := p0) (E := ex) (fun _ => ⟨rfl, trivial⟩)))
  (Sim.skip (A := p1)))
  (Sim.seq (Sim.test (A := p1) (B := p1) (fun _ _ _ => by kernel_rfl) (Sim.seq (Sim.reg (A := p1) (B := p0) (fun _ _ _ => by kernel_rfl))
  (Sim.ret (A := p0) (E := ex) (fun _ => ⟨rfl, trivial⟩)))
  (Sim.skip (A := p1)))
  (Sim.seq (Sim.reg (A := p1) (B := p2) (fun _ _ _ => by kernel_rfl))
  (Sim.seq (Sim.test (A := p2) (B := p3) (fun _ _ _ => by kernel_rfl) (Sim.seq (Sim.reg (A := p3) (B := p0) (fun _ _ _ => by kernel_rfl))
  (Sim.ret (A := p0) (E := ex) (fun _ => ⟨rfl, trivial⟩)))
  (Sim.skip (A := p3)))
  (Sim.seq (Sim.reg (A := p3) (B := p4) (fun _ _ _ => by kernel_rfl))
  (Sim.seq (Sim.test (A := p4) (B := p5) (fun _ _ _ => by kernel_rfl) (Sim.seq (Sim.reg (A := p5) (B := p0) (fun _ _ _ => by kernel_rfl))
  (Sim.ret (A := p0) (E := ex) (fun _ => ⟨rfl, trivial⟩)))
  (Sim.skip (A := p5)))
  (Sim.seq (Sim.reg (A := p5) (B := p6) (fun _ _ _ => by kernel_rfl))
  (Sim.seq (Sim.reg (A := p6) (B := p0) (fun _ _ _ => by kernel_rfl))
  (Sim.ret (A := p0) (E := ex) (fun _ => ⟨rfl, trivial⟩)))))))))))

def init (x_src : Sl) (x_modified : Bool) : St := { x_src := x_src, x_modified := x_modified, t4 := false, x_want := Sl.nil, x_fits := 0, x_b := Sl.nil, x_n := 0, x_ok := false, x_out := Sl.nil, x_told := 0 }

/-- What is left of the results. -/
def res (K : Bool → Heap → Prop) (s : St) (h1 : Heap) : Prop := K s.t4 h1

/-- The call of 'pub-pemmican/laws.FnLz4Snappy'. -/
theorem calls (x_src : Sl) (x_modified : Bool) (h : Heap) (K : Bool → Heap → Prop)
    (H : stm (init x_src x_modified) h (endK (res K))) : c_laws_FnLz4Snappy x_src x_modified h K := by
  have hc : CallsH Pg 8 #[(.slice x_src.p x_src.n x_src.c), (.bool x_modified)] h fun v h1 => asB v fun b1 => K b1 h1 :=
    callsH_of_sim (R := p0) (fn := Tryd.f8) (c := Tryd.f8.body.getD .skip) Tryd.func8 rfl Tryd.ntmps8 Tryd.call8 sim (init x_src x_modified) (⟨rfl, rfl, trivial⟩) (Nat.le_of_ble_eq_true rfl) (fun _ => ⟨rfl, trivial⟩) rfl
      (res K) (fun _ _ => by kernel_rfl) H
  refine hc.mono ?_
  intro v hp H
  obtain ⟨b1, rfl, h1⟩ := asB_elim H
  exact ⟨_, rfl, h1⟩

end M_laws_FnLz4Snappy

end Go.Proofs.YtibleenkgmkpmaaDoor

