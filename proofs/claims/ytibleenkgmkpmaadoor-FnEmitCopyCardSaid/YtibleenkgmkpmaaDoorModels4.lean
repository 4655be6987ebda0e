/- Models of functions of the program: what each one computes, over heaps, tied to the program by one check a region. Written by a program. -/
import Derived.Test.YtibleenkgmkpmaaDoorSigs
namespace Go.Proofs.YtibleenkgmkpmaaDoor
open Go Go.Vc Go.Proofs

namespace M_laws_FnConcatAny

structure St where
  x_ls : Sl
  x_repeats : Bool
  t4 : Bool
  x_blocks : Sl
  x_all : Sl
  x_l : Sl
  x_b : Sl
  x_out : Sl
  x_bq11 : Sl
  x_ok : Bool
  x_outq13 : Sl
  t25 : Sl
  t26 : Int
  t27 : Int
  t28 : Bool

def p0 : Pt St where
  env s := [(4, (.bool s.t4))]
  fin e s K := getV e 4 fun v1 => asB v1 fun b1 => K { s with t4 := b1 }
  ok := by
    intro e s K h0
    obtain ⟨w1, g1, h1⟩ := getV_elim h0
    obtain ⟨b1, rfl, h2⟩ := asB_elim h1
    exact ⟨_, ⟨g1, trivial⟩, h2⟩

def p1 : Pt St where
  env s := [(0, (.slice s.x_ls.p s.x_ls.n s.x_ls.c)), (1, (.bool s.x_repeats))]
  fin e s K := getV e 0 fun v1 => asS v1 fun p1 n1 c1 => getV e 1 fun v2 => asB v2 fun b1 => K { s with x_ls := ⟨p1, n1, c1⟩, x_repeats := b1 }
  ok := by
    intro e s K h0
    obtain ⟨w1, g1, h1⟩ := getV_elim h0
    obtain ⟨p1, n1, c1, rfl, h2⟩ := asS_elim h1
    obtain ⟨w2, g2, h3⟩ := getV_elim h2
    obtain ⟨b1, rfl, h4⟩ := asB_elim h3
    exact ⟨_, ⟨g1, g2, trivial⟩, h4⟩

def p2 : Pt St where
  env s := [(0, (.slice s.x_ls.p s.x_ls.n s.x_ls.c)), (1, (.bool s.x_repeats)), (5, (.slice s.x_blocks.p s.x_blocks.n s.x_blocks.c))]
  fin e s K := getV e 0 fun v1 => asS v1 fun p1 n1 c1 => getV e 1 fun v2 => asB v2 fun b1 => getV e 5 fun v3 => asS v3 fun p2 n2 c2 => K { s with x_ls := ⟨p1, n1, c1⟩, x_repeats := b1, x_blocks := ⟨p2, n2, c2⟩ }
  ok := by
    intro e s K h0
    obtain ⟨w1, g1, h1⟩ := getV_elim h0
    obtain ⟨p1, n1, c1, rfl, h2⟩ := asS_elim h1
    obtain ⟨w2, g2, h3⟩ := getV_elim h2
    obtain ⟨b1, rfl, h4⟩ := asB_elim h3
    obtain ⟨w3, g3, h5⟩ := getV_elim h4
    obtain ⟨p2, n2, c2, rfl, h6⟩ := asS_elim h5
    exact ⟨_, ⟨g1, g2, g3, trivial⟩, h6⟩

def p3 : Pt St where
  env s := [(0, (.slice s.x_ls.p s.x_ls.n s.x_ls.c)), (1, (.bool s.x_repeats)), (5, (.slice s.x_blocks.p s.x_blocks.n s.x_blocks.c)), (6, (.slice s.x_all.p s.x_all.n s.x_all.c))]
  fin e s K := getV e 0 fun v1 => asS v1 fun p1 n1 c1 => getV e 1 fun v2 => asB v2 fun b1 => getV e 5 fun v3 => asS v3 fun p2 n2 c2 => getV e 6 fun v4 => asS v4 fun p3 n3 c3 => K { s with x_ls := ⟨p1, n1, c1⟩, x_repeats := b1, x_blocks := ⟨p2, n2, c2⟩, x_all := ⟨p3, n3, c3⟩ }
  ok := by
    intro e s K h0
    obtain ⟨w1, g1, h1⟩ := getV_elim h0
    obtain ⟨p1, n1, c1, rfl, h2⟩ := asS_elim h1
    obtain ⟨w2, g2, h3⟩ := getV_elim h2
    obtain ⟨b1, rfl, h4⟩ := asB_elim h3
    obtain ⟨w3, g3, h5⟩ := getV_elim h4
    obtain ⟨p2, n2, c2, rfl, h6⟩ := asS_elim h5
    obtain ⟨w4, g4, h7⟩ := getV_elim h6
    obtain ⟨p3, n3, c3, rfl, h8⟩ := asS_elim h7
    exact ⟨_, ⟨g1, g2, g3, g4, trivial⟩, h8⟩

def p4 : Pt St where
  env s := [(1, (.bool s.x_repeats)), (5, (.slice s.x_blocks.p s.x_blocks.n s.x_blocks.c)), (6, (.slice s.x_all.p s.x_all.n s.x_all.c)), (25, (.slice s.t25.p s.t25.n s.t25.c)), (26, (.int .i64 s.t26)), (27, (.int .i64 s.t27))]
  fin e s K := getV e 1 fun v1 => asB v1 fun b1 => getV e 5 fun v2 => asS v2 fun p1 n1 c1 => getV e 6 fun v3 => asS v3 fun p2 n2 c2 => getV e 25 fun v4 => asS v4 fun p3 n3 c3 => getV e 26 fun v5 => asI .i64 v5 fun n4 => getV e 27 fun v6 => asI .i64 v6 fun n5 => K { s with x_repeats := b1, x_blocks := ⟨p1, n1, c1⟩, x_all := ⟨p2, n2, c2⟩, t25 := ⟨p3, n3, c3⟩, t26 := n4, t27 := n5 }
  ok := by
    intro e s K h0
    obtain ⟨w1, g1, h1⟩ := getV_elim h0
    obtain ⟨b1, rfl, h2⟩ := asB_elim h1
    obtain ⟨w2, g2, h3⟩ := getV_elim h2
    obtain ⟨p1, n1, c1, rfl, h4⟩ := asS_elim h3
    obtain ⟨w3, g3, h5⟩ := getV_elim h4
    obtain ⟨p2, n2, c2, rfl, h6⟩ := asS_elim h5
    obtain ⟨w4, g4, h7⟩ := getV_elim h6
    obtain ⟨p3, n3, c3, rfl, h8⟩ := asS_elim h7
    obtain ⟨w5, g5, h9⟩ := getV_elim h8
    obtain ⟨n4, rfl, h10⟩ := asI_elim h9
    obtain ⟨w6, g6, h11⟩ := getV_elim h10
    obtain ⟨n5, rfl, h12⟩ := asI_elim h11
    exact ⟨_, ⟨g1, g2, g3, g4, g5, g6, trivial⟩, h12⟩

def p5 : Pt St where
  env s := [(5, (.slice s.x_blocks.p s.x_blocks.n s.x_blocks.c)), (6, (.slice s.x_all.p s.x_all.n s.x_all.c))]
  fin e s K := getV e 5 fun v1 => asS v1 fun p1 n1 c1 => getV e 6 fun v2 => asS v2 fun p2 n2 c2 => K { s with x_blocks := ⟨p1, n1, c1⟩, x_all := ⟨p2, n2, c2⟩ }
  ok := by
    intro e s K h0
    obtain ⟨w1, g1, h1⟩ := getV_elim h0
    obtain ⟨p1, n1, c1, rfl, h2⟩ := asS_elim h1
    obtain ⟨w2, g2, h3⟩ := getV_elim h2
    obtain ⟨p2, n2, c2, rfl, h4⟩ := asS_elim h3
    exact ⟨_, ⟨g1, g2, trivial⟩, h4⟩

def p6 : Pt St where
  env s := [(1, (.bool s.x_repeats)), (5, (.slice s.x_blocks.p s.x_blocks.n s.x_blocks.c)), (6, (.slice s.x_all.p s.x_all.n s.x_all.c)), (25, (.slice s.t25.p s.t25.n s.t25.c)), (26, (.int .i64 s.t26)), (27, (.int .i64 s.t27)), (28, (.bool s.t28))]
  fin e s K := getV e 1 fun v1 => asB v1 fun b1 => getV e 5 fun v2 => asS v2 fun p1 n1 c1 => getV e 6 fun v3 => asS v3 fun p2 n2 c2 => getV e 25 fun v4 => asS v4 fun p3 n3 c3 => getV e 26 fun v5 => asI .i64 v5 fun n4 => getV e 27 fun v6 => asI .i64 v6 fun n5 => getV e 28 fun v7 => asB v7 fun b2 => K { s with x_repeats := b1, x_blocks := ⟨p1, n1, c1⟩, x_all := ⟨p2, n2, c2⟩, t25 := ⟨p3, n3, c3⟩, t26 := n4, t27 := n5, t28 := b2 }
  ok := by
    intro e s K h0
    obtain ⟨w1, g1, h1⟩ := getV_elim h0
    obtain ⟨b1, rfl, h2⟩ := asB_elim h1
    obtain ⟨w2, g2, h3⟩ := getV_elim h2
    obtain ⟨p1, n1, c1, rfl, h4⟩ := asS_elim h3
    obtain ⟨w3, g3, h5⟩ := getV_elim h4
    obtain ⟨p2, n2, c2, rfl, h6⟩ := asS_elim h5
    obtain ⟨w4, g4, h7⟩ := getV_elim h6
    obtain ⟨p3, n3, c3, rfl, h8⟩ := asS_elim h7
    obtain ⟨w5, g5, h9⟩ := getV_elim h8
    obtain ⟨n4, rfl, h10⟩ := asI_elim h9
    obtain ⟨w6, g6, h11⟩ := getV_elim h10
    obtain ⟨n5, rfl, h12⟩ := asI_elim h11
    obtain ⟨w7, g7, h13⟩ := getV_elim h12
    obtain ⟨b2, rfl, h14⟩ := asB_elim h13
    exact ⟨_, ⟨g1, g2, g3, g4, g5, g6, g7, trivial⟩, h14⟩

def p7 : Pt St where
  env s := [(1, (.bool s.x_repeats)), (5, (.slice s.x_blocks.p s.x_blocks.n s.x_blocks.c)), (6, (.slice s.x_all.p s.x_all.n s.x_all.c)), (8, (.slice s.x_l.p s.x_l.n s.x_l.c)), (25, (.slice s.t25.p s.t25.n s.t25.c)), (26, (.int .i64 s.t26)), (27, (.int .i64 s.t27))]
  fin e s K := getV e 1 fun v1 => asB v1 fun b1 => getV e 5 fun v2 => asS v2 fun p1 n1 c1 => getV e 6 fun v3 => asS v3 fun p2 n2 c2 => getV e 8 fun v4 => asS v4 fun p3 n3 c3 => getV e 25 fun v5 => asS v5 fun p4 n4 c4 => getV e 26 fun v6 => asI .i64 v6 fun n5 => getV e 27 fun v7 => asI .i64 v7 fun n6 => K { s with x_repeats := b1, x_blocks := ⟨p1, n1, c1⟩, x_all := ⟨p2, n2, c2⟩, x_l := ⟨p3, n3, c3⟩, t25 := ⟨p4, n4, c4⟩, t26 := n5, t27 := n6 }
  ok := by
    intro e s K h0
    obtain ⟨w1, g1, h1⟩ := getV_elim h0
    obtain ⟨b1, rfl, h2⟩ := asB_elim h1
    obtain ⟨w2, g2, h3⟩ := getV_elim h2
    obtain ⟨p1, n1, c1, rfl, h4⟩ := asS_elim h3
    obtain ⟨w3, g3, h5⟩ := getV_elim h4
    obtain ⟨p2, n2, c2, rfl, h6⟩ := asS_elim h5
    obtain ⟨w4, g4, h7⟩ := getV_elim h6
    obtain ⟨p3, n3, c3, rfl, h8⟩ := asS_elim h7
    obtain ⟨w5, g5, h9⟩ := getV_elim h8
    obtain ⟨p4, n4, c4, rfl, h10⟩ := asS_elim h9
    obtain ⟨w6, g6, h11⟩ := getV_elim h10
    obtain ⟨n5, rfl, h12⟩ := asI_elim h11
    obtain ⟨w7, g7, h13⟩ := getV_elim h12
    obtain ⟨n6, rfl, h14⟩ := asI_elim h13
    exact ⟨_, ⟨g1, g2, g3, g4, g5, g6, g7, trivial⟩, h14⟩

def p8 : Pt St where
  env s := [(1, (.bool s.x_repeats)), (5, (.slice s.x_blocks.p s.x_blocks.n s.x_blocks.c)), (6, (.slice s.x_all.p s.x_all.n s.x_all.c)), (9, (.slice s.x_b.p s.x_b.n s.x_b.c)), (10, (.slice s.x_out.p s.x_out.n s.x_out.c)), (25, (.slice s.t25.p s.t25.n s.t25.c)), (26, (.int .i64 s.t26)), (27, (.int .i64 s.t27))]
  fin e s K := getV e 1 fun v1 => asB v1 fun b1 => getV e 5 fun v2 => asS v2 fun p1 n1 c1 => getV e 6 fun v3 => asS v3 fun p2 n2 c2 => getV e 9 fun v4 => asS v4 fun p3 n3 c3 => getV e 10 fun v5 => asS v5 fun p4 n4 c4 => getV e 25 fun v6 => asS v6 fun p5 n5 c5 => getV e 26 fun v7 => asI .i64 v7 fun n6 => getV e 27 fun v8 => asI .i64 v8 fun n7 => K { s with x_repeats := b1, x_blocks := ⟨p1, n1, c1⟩, x_all := ⟨p2, n2, c2⟩, x_b := ⟨p3, n3, c3⟩, x_out := ⟨p4, n4, c4⟩, t25 := ⟨p5, n5, c5⟩, t26 := n6, t27 := n7 }
  ok := by
    intro e s K h0
    obtain ⟨w1, g1, h1⟩ := getV_elim h0
    obtain ⟨b1, rfl, h2⟩ := asB_elim h1
    obtain ⟨w2, g2, h3⟩ := getV_elim h2
    obtain ⟨p1, n1, c1, rfl, h4⟩ := asS_elim h3
    obtain ⟨w3, g3, h5⟩ := getV_elim h4
    obtain ⟨p2, n2, c2, rfl, h6⟩ := asS_elim h5
    obtain ⟨w4, g4, h7⟩ := getV_elim h6
    obtain ⟨p3, n3, c3, rfl, h8⟩ := asS_elim h7
    obtain ⟨w5, g5, h9⟩ := getV_elim h8
    obtain ⟨p4, n4, c4, rfl, h10⟩ := asS_elim h9
    obtain ⟨w6, g6, h11⟩ := getV_elim h10
    obtain ⟨p5, n5, c5, rfl, h12⟩ := asS_elim h11
    obtain ⟨w7, g7, h13⟩ := getV_elim h12
    obtain ⟨n6, rfl, h14⟩ := asI_elim h13
    obtain ⟨w8, g8, h15⟩ := getV_elim h14
    obtain ⟨n7, rfl, h16⟩ := asI_elim h15
    exact ⟨_, ⟨g1, g2, g3, g4, g5, g6, g7, g8, trivial⟩, h16⟩

def p9 : Pt St where
  env s := [(1, (.bool s.x_repeats)), (5, (.slice s.x_blocks.p s.x_blocks.n s.x_blocks.c)), (6, (.slice s.x_all.p s.x_all.n s.x_all.c)), (10, (.slice s.x_out.p s.x_out.n s.x_out.c)), (25, (.slice s.t25.p s.t25.n s.t25.c)), (26, (.int .i64 s.t26)), (27, (.int .i64 s.t27))]
  fin e s K := getV e 1 fun v1 => asB v1 fun b1 => getV e 5 fun v2 => asS v2 fun p1 n1 c1 => getV e 6 fun v3 => asS v3 fun p2 n2 c2 => getV e 10 fun v4 => asS v4 fun p3 n3 c3 => getV e 25 fun v5 => asS v5 fun p4 n4 c4 => getV e 26 fun v6 => asI .i64 v6 fun n5 => getV e 27 fun v7 => asI .i64 v7 fun n6 => K { s with x_repeats := b1, x_blocks := ⟨p1, n1, c1⟩, x_all := ⟨p2, n2, c2⟩, x_out := ⟨p3, n3, c3⟩, t25 := ⟨p4, n4, c4⟩, t26 := n5, t27 := n6 }
  ok := by
    intro e s K h0
    obtain ⟨w1, g1, h1⟩ := getV_elim h0
    obtain ⟨b1, rfl, h2⟩ := asB_elim h1
    obtain ⟨w2, g2, h3⟩ := getV_elim h2
    obtain ⟨p1, n1, c1, rfl, h4⟩ := asS_elim h3
    obtain ⟨w3, g3, h5⟩ := getV_elim h4
    obtain ⟨p2, n2, c2, rfl, h6⟩ := asS_elim h5
    obtain ⟨w4, g4, h7⟩ := getV_elim h6
    obtain ⟨p3, n3, c3, rfl, h8⟩ := asS_elim h7
    obtain ⟨w5, g5, h9⟩ := getV_elim h8
    obtain ⟨p4, n4, c4, rfl, h10⟩ := asS_elim h9
    obtain ⟨w6, g6, h11⟩ := getV_elim h10
    obtain ⟨n5, rfl, h12⟩ := asI_elim h11
    obtain ⟨w7, g7, h13⟩ := getV_elim h12
    obtain ⟨n6, rfl, h14⟩ := asI_elim h13
    exact ⟨_, ⟨g1, g2, g3, g4, g5, g6, g7, trivial⟩, h14⟩

def p10 : Pt St where
  env s := [(6, (.slice s.x_all.p s.x_all.n s.x_all.c)), (11, (.slice s.x_bq11.p s.x_bq11.n s.x_bq11.c)), (12, (.bool s.x_ok))]
  fin e s K := getV e 6 fun v1 => asS v1 fun p1 n1 c1 => getV e 11 fun v2 => asS v2 fun p2 n2 c2 => getV e 12 fun v3 => asB v3 fun b1 => K { s with x_all := ⟨p1, n1, c1⟩, x_bq11 := ⟨p2, n2, c2⟩, x_ok := b1 }
  ok := by
    intro e s K h0
    obtain ⟨w1, g1, h1⟩ := getV_elim h0
    obtain ⟨p1, n1, c1, rfl, h2⟩ := asS_elim h1
    obtain ⟨w2, g2, h3⟩ := getV_elim h2
    obtain ⟨p2, n2, c2, rfl, h4⟩ := asS_elim h3
    obtain ⟨w3, g3, h5⟩ := getV_elim h4
    obtain ⟨b1, rfl, h6⟩ := asB_elim h5
    exact ⟨_, ⟨g1, g2, g3, trivial⟩, h6⟩

def p11 : Pt St where
  env s := [(6, (.slice s.x_all.p s.x_all.n s.x_all.c)), (11, (.slice s.x_bq11.p s.x_bq11.n s.x_bq11.c))]
  fin e s K := getV e 6 fun v1 => asS v1 fun p1 n1 c1 => getV e 11 fun v2 => asS v2 fun p2 n2 c2 => K { s with x_all := ⟨p1, n1, c1⟩, x_bq11 := ⟨p2, n2, c2⟩ }
  ok := by
    intro e s K h0
    obtain ⟨w1, g1, h1⟩ := getV_elim h0
    obtain ⟨p1, n1, c1, rfl, h2⟩ := asS_elim h1
    obtain ⟨w2, g2, h3⟩ := getV_elim h2
    obtain ⟨p2, n2, c2, rfl, h4⟩ := asS_elim h3
    exact ⟨_, ⟨g1, g2, trivial⟩, h4⟩

def p12 : Pt St where
  env s := [(6, (.slice s.x_all.p s.x_all.n s.x_all.c)), (12, (.bool s.x_ok)), (13, (.slice s.x_outq13.p s.x_outq13.n s.x_outq13.c))]
  fin e s K := getV e 6 fun v1 => asS v1 fun p1 n1 c1 => getV e 12 fun v2 => asB v2 fun b1 => getV e 13 fun v3 => asS v3 fun p2 n2 c2 => K { s with x_all := ⟨p1, n1, c1⟩, x_ok := b1, x_outq13 := ⟨p2, n2, c2⟩ }
  ok := by
    intro e s K h0
    obtain ⟨w1, g1, h1⟩ := getV_elim h0
    obtain ⟨p1, n1, c1, rfl, h2⟩ := asS_elim h1
    obtain ⟨w2, g2, h3⟩ := getV_elim h2
    obtain ⟨b1, rfl, h4⟩ := asB_elim h3
    obtain ⟨w3, g3, h5⟩ := getV_elim h4
    obtain ⟨p2, n2, c2, rfl, h6⟩ := asS_elim h5
    exact ⟨_, ⟨g1, g2, g3, trivial⟩, h6⟩

def r0 (s : St) (h : Heap) (Q : St → Heap → Prop) : Prop :=
  Q s h

def r1 (s : St) (h : Heap) (Q : Bool → St → Heap → Prop) : Prop :=
  c_laws_zzFits3 s.x_ls h fun b2 h1 =>
  Q (!b2) s h1

def r2 (s : St) (h : Heap) (Q : St → Heap → Prop) : Prop :=
  Q { s with t4 := true } h

def r3 (s : St) (h : Heap) (Q : Bool → St → Heap → Prop) : Prop :=
  (if (decide (((s.x_ls.n : Nat) : Int) < (1 : Int))) = false then
  (Q (decide (((s.x_ls.n : Nat) : Int) > (8 : Int))) s h)
  else
  (Q true s h))

def r4 (s : St) (h : Heap) (Q : St → Heap → Prop) : Prop :=
  Q { s with t4 := true } h

def r5 (s : St) (h : Heap) (Q : St → Heap → Prop) : Prop :=
  Q { s with x_blocks := ⟨none, 0, 0⟩ } h

def r6 (s : St) (h : Heap) (Q : St → Heap → Prop) : Prop :=
  Q { s with x_all := ⟨none, 0, 0⟩ } h

def r7 (s : St) (h : Heap) (Q : St → Heap → Prop) : Prop :=
  Q { s with t25 := s.x_ls, t26 := ((s.x_ls.n : Nat) : Int), t27 := (0 : Int) } h

def r8 (s : St) (h : Heap) (Q : St → Heap → Prop) : Prop :=
  Q { s with t28 := (decide (s.t27 < s.t26)) } h

def r9 (s : St) (h : Heap) (Q : St → Heap → Prop) : Prop :=
  0 ≤ s.t27 ∧ s.t27 < ((s.t25.n : Nat) : Int) ∧
  ptrE s.t25.p fun a1 =>
  ∃ (p2 : Option Addr) (n3 c4 : Nat), hcell h (Addr.add a1 (Int.toNat s.t27 * 1)) = some (.slice p2 n3 c4) ∧
  Q { s with x_l := ⟨p2, n3, c4⟩ } h

def r10 (s : St) (h : Heap) (Q : Bool → St → Heap → Prop) : Prop :=
  c_laws_pieces s.x_l h fun b2 h1 =>
  Q (!b2) s h1

def r11 (s : St) (h : Heap) (Q : St → Heap → Prop) : Prop :=
  Q { s with t4 := true } h

def r12 (s : St) (h : Heap) (Q : St → Heap → Prop) : Prop :=
  c_spec_S2Write s.x_l ⟨none, 0, 0⟩ (0 : Int) s.x_repeats h fun w2 w3 h1 =>
  Q { s with x_b := w2, x_out := w3 } h1

def r13 (s : St) (h : Heap) (Q : St → Heap → Prop) : Prop :=
  withH (hnew h [(.slice s.x_b.p s.x_b.n s.x_b.c)] 22) fun h1 =>
  appendT Pg 22 s.x_blocks.p s.x_blocks.n s.x_blocks.c (.slice (some ⟨Array.size h, 0, none⟩) 1 1) 1 h1 fun p2 n3 c4 h5 =>
  Q { s with x_blocks := ⟨p2, n3, c4⟩ } h5

def r14 (s : St) (h : Heap) (Q : St → Heap → Prop) : Prop :=
  appendT Pg 5 s.x_all.p s.x_all.n s.x_all.c (.slice s.x_out.p s.x_out.n s.x_out.c) s.x_out.n h fun p1 n2 c3 h4 =>
  Q { s with x_all := ⟨p1, n2, c3⟩ } h4

def r15 (s : St) (h : Heap) (Q : St → Heap → Prop) : Prop :=
  Q { s with t27 := (IntKind.wrap .i64 (s.t27 + (1 : Int))) } h

def r16 (s : St) (h : Heap) (Q : Bool → St → Heap → Prop) : Prop :=
  Q (decide (((s.x_all.n : Nat) : Int) > (1048576 : Int))) s h

def r17 (s : St) (h : Heap) (Q : St → Heap → Prop) : Prop :=
  Q { s with t4 := true } h

def r18 (s : St) (h : Heap) (Q : St → Heap → Prop) : Prop :=
  c_impl_S2Concat ⟨none, 0, 0⟩ s.x_blocks h fun w2 b3 h1 =>
  Q { s with x_bq11 := w2, x_ok := b3 } h1

def r19 (s : St) (h : Heap) (Q : Bool → St → Heap → Prop) : Prop :=
  Q (!s.x_ok) s h

def r20 (s : St) (h : Heap) (Q : St → Heap → Prop) : Prop :=
  Q { s with t4 := false } h

def r21 (s : St) (h : Heap) (Q : St → Heap → Prop) : Prop :=
  c_impl_S2Decode s.x_bq11 h fun w2 b3 h1 =>
  Q { s with x_ok := b3, x_outq13 := w2 } h1

def r22 (s : St) (h : Heap) (Q : St → Heap → Prop) : Prop :=
  (if s.x_ok = true then
  (c_laws_eq s.x_outq13 s.x_all h fun b2 h1 =>
  Q { s with t4 := b2 } h1)
  else
  (Q { s with t4 := false } h))

def k14 : Stm St := (.seq (.reg r21) (.seq (.reg r22) .ret))
def k13 : Stm St := (.seq (.test r19 (.seq (.reg r20) .ret) .skip) k14)
def k12 : Stm St := (.seq (.reg r18) k13)
def k11 : Stm St := (.seq (.test r16 (.seq (.reg r17) .ret) .skip) k12)
def k10 : Stm St := (.seq (.reg r12) (.seq (.reg r13) (.reg r14)))
def k9 : Stm St := (.seq (.test r10 (.seq (.reg r11) .ret) .skip) k10)
def k8 : Stm St := (.seq (.block 1 (.seq (.reg r9) k9)) (.reg r15))
def k7 : Stm St := (.seq (.cond (fun s => s.t28) .skip (.exit 0)) k8)
def k6 : Stm St := (.seq (.reg r8) k7)
def k5 : Stm St := (.block 0 (.loop k6))
def k4 : Stm St := (.seq (.seq (.reg r7) k5) k11)
def k3 : Stm St := (.seq (.reg r6) k4)
def k2 : Stm St := (.seq (.reg r5) k3)
def k1 : Stm St := (.seq (.test r3 (.seq (.reg r4) .ret) .skip) k2)
def k0 : Stm St := (.seq (.test r1 (.seq (.reg r2) .ret) .skip) k1)

def stm : Stm St := (.seq (.reg r0) k0)

def ex : Ex → Pt St := fun _ => p0

set_option maxRecDepth 100000 in
theorem sim : Sim Pg 69 p1 (Tryd.f6.body.getD .skip) stm p0 ex :=
  (Sim.seq (Sim.reg (A := p1) (B := p1) (fun _ _ _ => by kernel_rfl))
  (Sim.seq (Sim.test (A := p1) (B := p1) (fun _ _ _ => by kernel_rfl) (Sim.seq (Sim.reg (A := p1) (B := p0) (fun _ _ _ => by kernel_rfl))
  (Sim.ret (A := p0) (E := ex) (fun _ => ⟨rfl, trivial⟩)))
  (Sim.skip (A := p1)))
  (Sim.seq (Sim.test (A := p1) (B := p1) (fun _ _ _ => by kernel_rfl) (Sim.seq (Sim.reg (A := p1) (B := p0) (fun _ _ _ => by kernel_rfl))
  (Sim.ret (A := p0) (E := ex) (fun _ => ⟨rfl, trivial⟩)))
  (Sim.skip (A := p1)))
  (Sim.seq (Sim.reg (A := p1) (B := p2) (fun _ _ _ => by kernel_rfl))
  (Sim.seq (Sim.reg (A := p2) (B := p3) (fun _ _ _ => by kernel_rfl))
  (Sim.seq (Sim.seq (Sim.reg (A := p3) (B := p4) (fun _ _ _ => by kernel_rfl))
  (Sim.block (B := p5) (Sim.loop (A := p4) (Sim.seq (Sim.reg (A := p4) (B := p6) (fun _ _ _ => by kernel_rfl))
  (Sim.seq (Sim.cond (A := p6) (fun s => s.t28) (fun _ => rfl) (Sim.weak (B := p6) (C := p4) (Sim.skip (A := p6)) (fun _ => ⟨rfl, rfl, rfl, rfl, rfl, rfl, trivial⟩))
  (Sim.exit (A := p6) (fun _ => ⟨rfl, rfl, trivial⟩)))
  (Sim.seq (Sim.block (B := p4) (Sim.seq (Sim.reg (A := p4) (B := p7) (fun _ _ _ => by kernel_rfl))
  (Sim.seq (Sim.test (A := p7) (B := p7) (fun _ _ _ => by kernel_rfl) (Sim.seq (Sim.reg (A := p7) (B := p0) (fun _ _ _ => by kernel_rfl))
  (Sim.ret (A := p0) (E := (exAt (exAt ex 0 p5) 1 p4)) (fun _ => ⟨rfl, trivial⟩)))
  (Sim.skip (A := p7)))
  (Sim.seq (Sim.reg (A := p7) (B := p8) (fun _ _ _ => by kernel_rfl))
  (Sim.seq (Sim.reg (A := p8) (B := p9) (fun _ _ _ => by kernel_rfl))
  (Sim.reg (A := p9) (B := p4) (fun _ _ _ => by kernel_rfl)))))))
  (Sim.reg (A := p4) (B := p4) (fun _ _ _ => by kernel_rfl))))))))
  (Sim.seq (Sim.test (A := p5) (B := p5) (fun _ _ _ => by kernel_rfl) (Sim.seq (Sim.reg (A := p5) (B := p0) (fun _ _ _ => by kernel_rfl))
  (Sim.ret (A := p0) (E := ex) (fun _ => ⟨rfl, trivial⟩)))
  (Sim.skip (A := p5)))
  (Sim.seq (Sim.reg (A := p5) (B := p10) (fun _ _ _ => by kernel_rfl))
  (Sim.seq (Sim.test (A := p10) (B := p11) (fun _ _ _ => by kernel_rfl) (Sim.seq (Sim.reg (A := p11) (B := p0) (fun _ _ _ => by kernel_rfl))
  (Sim.ret (A := p0) (E := ex) (fun _ => ⟨rfl, trivial⟩)))
  (Sim.skip (A := p11)))
  (Sim.seq (Sim.reg (A := p11) (B := p12) (fun _ _ _ => by kernel_rfl))
  (Sim.seq (Sim.reg (A := p12) (B := p0) (fun _ _ _ => by kernel_rfl))
  (Sim.ret (A := p0) (E := ex) (fun _ => ⟨rfl, trivial⟩)))))))))))))

def init (x_ls : Sl) (x_repeats : Bool) : St := { x_ls := x_ls, x_repeats := x_repeats, t4 := false, x_blocks := Sl.nil, x_all := Sl.nil, x_l := Sl.nil, x_b := Sl.nil, x_out := Sl.nil, x_bq11 := Sl.nil, x_ok := false, x_outq13 := Sl.nil, t25 := Sl.nil, t26 := 0, t27 := 0, t28 := false }

/-- What is left of the results. -/
def res (K : Bool → Heap → Prop) (s : St) (h1 : Heap) : Prop := K s.t4 h1

/-- The call of 'pub-pemmican/laws.FnConcatAny'. -/
theorem calls (x_ls : Sl) (x_repeats : Bool) (h : Heap) (K : Bool → Heap → Prop)
    (H : stm (init x_ls x_repeats) h (endK (res K))) : c_laws_FnConcatAny x_ls x_repeats h K := by
  have hc : CallsH Pg 6 #[(.slice x_ls.p x_ls.n x_ls.c), (.bool x_repeats)] h fun v h1 => asB v fun b1 => K b1 h1 :=
    callsH_of_sim (R := p0) (fn := Tryd.f6) (c := Tryd.f6.body.getD .skip) Tryd.func6 rfl Tryd.ntmps6 Tryd.call6 sim (init x_ls x_repeats) (⟨rfl, rfl, trivial⟩) (Nat.le_of_ble_eq_true rfl) (fun _ => ⟨rfl, trivial⟩) rfl
      (res K) (fun _ _ => by kernel_rfl) H
  refine hc.mono ?_
  intro v hp H
  obtain ⟨b1, rfl, h1⟩ := asB_elim H
  exact ⟨_, rfl, h1⟩

end M_laws_FnConcatAny

end Go.Proofs.YtibleenkgmkpmaaDoor

