/- Models of functions of the program: what each one computes, over heaps, tied to the program by one check a region. Written by a program. -/
import Derived.Test.YtibleenkgmkpmaaDoorSigs
namespace Go.Proofs.YtibleenkgmkpmaaDoor
open Go Go.Vc Go.Proofs

namespace M_ConcatBlocks

structure St where
  x_dst : Sl
  x_blocks : Sl
  t4 : Sl
  t5 : Value
  x_totalSize : Int
  x_compSize : Int
  x_b : Sl
  x_l : Int
  x_hdr : Int
  x_err : Value
  x_tmp : Option Addr
  x_hdrSize : Int
  x_wantSize : Int
  x_bq17 : Sl
  x_hdrq19 : Int
  x_errq20 : Value
  t21 : Sl
  t22 : Int
  t23 : Int
  t24 : Bool
  t80 : Sl
  t81 : Int
  t82 : Int
  t83 : Bool

def p0 : Pt St where
  env s := [(4, (.slice s.t4.p s.t4.n s.t4.c)), (5, s.t5)]
  fin e s K := getV e 4 fun v1 => asS v1 fun p1 n1 c1 => getV e 5 fun v2 => K { s with t4 := ⟨p1, n1, c1⟩, t5 := v2 }
  ok := by
    intro e s K h0
    obtain ⟨w1, g1, h1⟩ := getV_elim h0
    obtain ⟨p1, n1, c1, rfl, h2⟩ := asS_elim h1
    obtain ⟨w2, g2, h3⟩ := getV_elim h2
    exact ⟨_, ⟨g1, g2, trivial⟩, h3⟩

def p1 : Pt St where
  env s := [(0, (.slice s.x_dst.p s.x_dst.n s.x_dst.c)), (1, (.slice s.x_blocks.p s.x_blocks.n s.x_blocks.c))]
  fin e s K := getV e 0 fun v1 => asS v1 fun p1 n1 c1 => getV e 1 fun v2 => asS v2 fun p2 n2 c2 => K { s with x_dst := ⟨p1, n1, c1⟩, x_blocks := ⟨p2, n2, c2⟩ }
  ok := by
    intro e s K h0
    obtain ⟨w1, g1, h1⟩ := getV_elim h0
    obtain ⟨p1, n1, c1, rfl, h2⟩ := asS_elim h1
    obtain ⟨w2, g2, h3⟩ := getV_elim h2
    obtain ⟨p2, n2, c2, rfl, h4⟩ := asS_elim h3
    exact ⟨_, ⟨g1, g2, trivial⟩, h4⟩

def p2 : Pt St where
  env s := [(0, (.slice s.x_dst.p s.x_dst.n s.x_dst.c)), (1, (.slice s.x_blocks.p s.x_blocks.n s.x_blocks.c)), (6, (.int .u64 s.x_totalSize))]
  fin e s K := getV e 0 fun v1 => asS v1 fun p1 n1 c1 => getV e 1 fun v2 => asS v2 fun p2 n2 c2 => getV e 6 fun v3 => asI .u64 v3 fun n3 => K { s with x_dst := ⟨p1, n1, c1⟩, x_blocks := ⟨p2, n2, c2⟩, x_totalSize := n3 }
  ok := by
    intro e s K h0
    obtain ⟨w1, g1, h1⟩ := getV_elim h0
    obtain ⟨p1, n1, c1, rfl, h2⟩ := asS_elim h1
    obtain ⟨w2, g2, h3⟩ := getV_elim h2
    obtain ⟨p2, n2, c2, rfl, h4⟩ := asS_elim h3
    obtain ⟨w3, g3, h5⟩ := getV_elim h4
    obtain ⟨n3, rfl, h6⟩ := asI_elim h5
    exact ⟨_, ⟨g1, g2, g3, trivial⟩, h6⟩

def p3 : Pt St where
  env s := [(0, (.slice s.x_dst.p s.x_dst.n s.x_dst.c)), (1, (.slice s.x_blocks.p s.x_blocks.n s.x_blocks.c)), (6, (.int .u64 s.x_totalSize)), (7, (.int .i64 s.x_compSize))]
  fin e s K := getV e 0 fun v1 => asS v1 fun p1 n1 c1 => getV e 1 fun v2 => asS v2 fun p2 n2 c2 => getV e 6 fun v3 => asI .u64 v3 fun n3 => getV e 7 fun v4 => asI .i64 v4 fun n4 => K { s with x_dst := ⟨p1, n1, c1⟩, x_blocks := ⟨p2, n2, c2⟩, x_totalSize := n3, x_compSize := n4 }
  ok := by
    intro e s K h0
    obtain ⟨w1, g1, h1⟩ := getV_elim h0
    obtain ⟨p1, n1, c1, rfl, h2⟩ := asS_elim h1
    obtain ⟨w2, g2, h3⟩ := getV_elim h2
    obtain ⟨p2, n2, c2, rfl, h4⟩ := asS_elim h3
    obtain ⟨w3, g3, h5⟩ := getV_elim h4
    obtain ⟨n3, rfl, h6⟩ := asI_elim h5
    obtain ⟨w4, g4, h7⟩ := getV_elim h6
    obtain ⟨n4, rfl, h8⟩ := asI_elim h7
    exact ⟨_, ⟨g1, g2, g3, g4, trivial⟩, h8⟩

def p4 : Pt St where
  env s := [(0, (.slice s.x_dst.p s.x_dst.n s.x_dst.c)), (1, (.slice s.x_blocks.p s.x_blocks.n s.x_blocks.c)), (6, (.int .u64 s.x_totalSize)), (7, (.int .i64 s.x_compSize)), (21, (.slice s.t21.p s.t21.n s.t21.c)), (22, (.int .i64 s.t22)), (23, (.int .i64 s.t23))]
  fin e s K := getV e 0 fun v1 => asS v1 fun p1 n1 c1 => getV e 1 fun v2 => asS v2 fun p2 n2 c2 => getV e 6 fun v3 => asI .u64 v3 fun n3 => getV e 7 fun v4 => asI .i64 v4 fun n4 => getV e 21 fun v5 => asS v5 fun p3 n5 c3 => getV e 22 fun v6 => asI .i64 v6 fun n6 => getV e 23 fun v7 => asI .i64 v7 fun n7 => K { s with x_dst := ⟨p1, n1, c1⟩, x_blocks := ⟨p2, n2, c2⟩, x_totalSize := n3, x_compSize := n4, t21 := ⟨p3, n5, c3⟩, t22 := n6, t23 := n7 }
  ok := by
    intro e s K h0
    obtain ⟨w1, g1, h1⟩ := getV_elim h0
    obtain ⟨p1, n1, c1, rfl, h2⟩ := asS_elim h1
    obtain ⟨w2, g2, h3⟩ := getV_elim h2
    obtain ⟨p2, n2, c2, rfl, h4⟩ := asS_elim h3
    obtain ⟨w3, g3, h5⟩ := getV_elim h4
    obtain ⟨n3, rfl, h6⟩ := asI_elim h5
    obtain ⟨w4, g4, h7⟩ := getV_elim h6
    obtain ⟨n4, rfl, h8⟩ := asI_elim h7
    obtain ⟨w5, g5, h9⟩ := getV_elim h8
    obtain ⟨p3, n5, c3, rfl, h10⟩ := asS_elim h9
    obtain ⟨w6, g6, h11⟩ := getV_elim h10
    obtain ⟨n6, rfl, h12⟩ := asI_elim h11
    obtain ⟨w7, g7, h13⟩ := getV_elim h12
    obtain ⟨n7, rfl, h14⟩ := asI_elim h13
    exact ⟨_, ⟨g1, g2, g3, g4, g5, g6, g7, trivial⟩, h14⟩

def p5 : Pt St where
  env s := [(0, (.slice s.x_dst.p s.x_dst.n s.x_dst.c)), (1, (.slice s.x_blocks.p s.x_blocks.n s.x_blocks.c)), (6, (.int .u64 s.x_totalSize)), (7, (.int .i64 s.x_compSize)), (21, (.slice s.t21.p s.t21.n s.t21.c)), (22, (.int .i64 s.t22)), (23, (.int .i64 s.t23)), (24, (.bool s.t24))]
  fin e s K := getV e 0 fun v1 => asS v1 fun p1 n1 c1 => getV e 1 fun v2 => asS v2 fun p2 n2 c2 => getV e 6 fun v3 => asI .u64 v3 fun n3 => getV e 7 fun v4 => asI .i64 v4 fun n4 => getV e 21 fun v5 => asS v5 fun p3 n5 c3 => getV e 22 fun v6 => asI .i64 v6 fun n6 => getV e 23 fun v7 => asI .i64 v7 fun n7 => getV e 24 fun v8 => asB v8 fun b1 => K { s with x_dst := ⟨p1, n1, c1⟩, x_blocks := ⟨p2, n2, c2⟩, x_totalSize := n3, x_compSize := n4, t21 := ⟨p3, n5, c3⟩, t22 := n6, t23 := n7, t24 := b1 }
  ok := by
    intro e s K h0
    obtain ⟨w1, g1, h1⟩ := getV_elim h0
    obtain ⟨p1, n1, c1, rfl, h2⟩ := asS_elim h1
    obtain ⟨w2, g2, h3⟩ := getV_elim h2
    obtain ⟨p2, n2, c2, rfl, h4⟩ := asS_elim h3
    obtain ⟨w3, g3, h5⟩ := getV_elim h4
    obtain ⟨n3, rfl, h6⟩ := asI_elim h5
    obtain ⟨w4, g4, h7⟩ := getV_elim h6
    obtain ⟨n4, rfl, h8⟩ := asI_elim h7
    obtain ⟨w5, g5, h9⟩ := getV_elim h8
    obtain ⟨p3, n5, c3, rfl, h10⟩ := asS_elim h9
    obtain ⟨w6, g6, h11⟩ := getV_elim h10
    obtain ⟨n6, rfl, h12⟩ := asI_elim h11
    obtain ⟨w7, g7, h13⟩ := getV_elim h12
    obtain ⟨n7, rfl, h14⟩ := asI_elim h13
    obtain ⟨w8, g8, h15⟩ := getV_elim h14
    obtain ⟨b1, rfl, h16⟩ := asB_elim h15
    exact ⟨_, ⟨g1, g2, g3, g4, g5, g6, g7, g8, trivial⟩, h16⟩

def p6 : Pt St where
  env s := [(0, (.slice s.x_dst.p s.x_dst.n s.x_dst.c)), (1, (.slice s.x_blocks.p s.x_blocks.n s.x_blocks.c)), (6, (.int .u64 s.x_totalSize)), (7, (.int .i64 s.x_compSize)), (9, (.slice s.x_b.p s.x_b.n s.x_b.c)), (21, (.slice s.t21.p s.t21.n s.t21.c)), (22, (.int .i64 s.t22)), (23, (.int .i64 s.t23))]
  fin e s K := getV e 0 fun v1 => asS v1 fun p1 n1 c1 => getV e 1 fun v2 => asS v2 fun p2 n2 c2 => getV e 6 fun v3 => asI .u64 v3 fun n3 => getV e 7 fun v4 => asI .i64 v4 fun n4 => getV e 9 fun v5 => asS v5 fun p3 n5 c3 => getV e 21 fun v6 => asS v6 fun p4 n6 c4 => getV e 22 fun v7 => asI .i64 v7 fun n7 => getV e 23 fun v8 => asI .i64 v8 fun n8 => K { s with x_dst := ⟨p1, n1, c1⟩, x_blocks := ⟨p2, n2, c2⟩, x_totalSize := n3, x_compSize := n4, x_b := ⟨p3, n5, c3⟩, t21 := ⟨p4, n6, c4⟩, t22 := n7, t23 := n8 }
  ok := by
    intro e s K h0
    obtain ⟨w1, g1, h1⟩ := getV_elim h0
    obtain ⟨p1, n1, c1, rfl, h2⟩ := asS_elim h1
    obtain ⟨w2, g2, h3⟩ := getV_elim h2
    obtain ⟨p2, n2, c2, rfl, h4⟩ := asS_elim h3
    obtain ⟨w3, g3, h5⟩ := getV_elim h4
    obtain ⟨n3, rfl, h6⟩ := asI_elim h5
    obtain ⟨w4, g4, h7⟩ := getV_elim h6
    obtain ⟨n4, rfl, h8⟩ := asI_elim h7
    obtain ⟨w5, g5, h9⟩ := getV_elim h8
    obtain ⟨p3, n5, c3, rfl, h10⟩ := asS_elim h9
    obtain ⟨w6, g6, h11⟩ := getV_elim h10
    obtain ⟨p4, n6, c4, rfl, h12⟩ := asS_elim h11
    obtain ⟨w7, g7, h13⟩ := getV_elim h12
    obtain ⟨n7, rfl, h14⟩ := asI_elim h13
    obtain ⟨w8, g8, h15⟩ := getV_elim h14
    obtain ⟨n8, rfl, h16⟩ := asI_elim h15
    exact ⟨_, ⟨g1, g2, g3, g4, g5, g6, g7, g8, trivial⟩, h16⟩

def p7 : Pt St where
  env s := [(0, (.slice s.x_dst.p s.x_dst.n s.x_dst.c)), (1, (.slice s.x_blocks.p s.x_blocks.n s.x_blocks.c)), (6, (.int .u64 s.x_totalSize)), (7, (.int .i64 s.x_compSize)), (9, (.slice s.x_b.p s.x_b.n s.x_b.c)), (10, (.int .i64 s.x_l)), (11, (.int .i64 s.x_hdr)), (12, s.x_err), (21, (.slice s.t21.p s.t21.n s.t21.c)), (22, (.int .i64 s.t22)), (23, (.int .i64 s.t23))]
  fin e s K := getV e 0 fun v1 => asS v1 fun p1 n1 c1 => getV e 1 fun v2 => asS v2 fun p2 n2 c2 => getV e 6 fun v3 => asI .u64 v3 fun n3 => getV e 7 fun v4 => asI .i64 v4 fun n4 => getV e 9 fun v5 => asS v5 fun p3 n5 c3 => getV e 10 fun v6 => asI .i64 v6 fun n6 => getV e 11 fun v7 => asI .i64 v7 fun n7 => getV e 12 fun v8 => getV e 21 fun v9 => asS v9 fun p4 n8 c4 => getV e 22 fun v10 => asI .i64 v10 fun n9 => getV e 23 fun v11 => asI .i64 v11 fun n10 => K { s with x_dst := ⟨p1, n1, c1⟩, x_blocks := ⟨p2, n2, c2⟩, x_totalSize := n3, x_compSize := n4, x_b := ⟨p3, n5, c3⟩, x_l := n6, x_hdr := n7, x_err := v8, t21 := ⟨p4, n8, c4⟩, t22 := n9, t23 := n10 }
  ok := by
    intro e s K h0
    obtain ⟨w1, g1, h1⟩ := getV_elim h0
    obtain ⟨p1, n1, c1, rfl, h2⟩ := asS_elim h1
    obtain ⟨w2, g2, h3⟩ := getV_elim h2
    obtain ⟨p2, n2, c2, rfl, h4⟩ := asS_elim h3
    obtain ⟨w3, g3, h5⟩ := getV_elim h4
    obtain ⟨n3, rfl, h6⟩ := asI_elim h5
    obtain ⟨w4, g4, h7⟩ := getV_elim h6
    obtain ⟨n4, rfl, h8⟩ := asI_elim h7
    obtain ⟨w5, g5, h9⟩ := getV_elim h8
    obtain ⟨p3, n5, c3, rfl, h10⟩ := asS_elim h9
    obtain ⟨w6, g6, h11⟩ := getV_elim h10
    obtain ⟨n6, rfl, h12⟩ := asI_elim h11
    obtain ⟨w7, g7, h13⟩ := getV_elim h12
    obtain ⟨n7, rfl, h14⟩ := asI_elim h13
    obtain ⟨w8, g8, h15⟩ := getV_elim h14
    obtain ⟨w9, g9, h16⟩ := getV_elim h15
    obtain ⟨p4, n8, c4, rfl, h17⟩ := asS_elim h16
    obtain ⟨w10, g10, h18⟩ := getV_elim h17
    obtain ⟨n9, rfl, h19⟩ := asI_elim h18
    obtain ⟨w11, g11, h20⟩ := getV_elim h19
    obtain ⟨n10, rfl, h21⟩ := asI_elim h20
    exact ⟨_, ⟨g1, g2, g3, g4, g5, g6, g7, g8, g9, g10, g11, trivial⟩, h21⟩

def p8 : Pt St where
  env s := [(0, (.slice s.x_dst.p s.x_dst.n s.x_dst.c)), (1, (.slice s.x_blocks.p s.x_blocks.n s.x_blocks.c)), (6, (.int .u64 s.x_totalSize)), (7, (.int .i64 s.x_compSize)), (9, (.slice s.x_b.p s.x_b.n s.x_b.c)), (10, (.int .i64 s.x_l)), (11, (.int .i64 s.x_hdr)), (21, (.slice s.t21.p s.t21.n s.t21.c)), (22, (.int .i64 s.t22)), (23, (.int .i64 s.t23))]
  fin e s K := getV e 0 fun v1 => asS v1 fun p1 n1 c1 => getV e 1 fun v2 => asS v2 fun p2 n2 c2 => getV e 6 fun v3 => asI .u64 v3 fun n3 => getV e 7 fun v4 => asI .i64 v4 fun n4 => getV e 9 fun v5 => asS v5 fun p3 n5 c3 => getV e 10 fun v6 => asI .i64 v6 fun n6 => getV e 11 fun v7 => asI .i64 v7 fun n7 => getV e 21 fun v8 => asS v8 fun p4 n8 c4 => getV e 22 fun v9 => asI .i64 v9 fun n9 => getV e 23 fun v10 => asI .i64 v10 fun n10 => K { s with x_dst := ⟨p1, n1, c1⟩, x_blocks := ⟨p2, n2, c2⟩, x_totalSize := n3, x_compSize := n4, x_b := ⟨p3, n5, c3⟩, x_l := n6, x_hdr := n7, t21 := ⟨p4, n8, c4⟩, t22 := n9, t23 := n10 }
  ok := by
    intro e s K h0
    obtain ⟨w1, g1, h1⟩ := getV_elim h0
    obtain ⟨p1, n1, c1, rfl, h2⟩ := asS_elim h1
    obtain ⟨w2, g2, h3⟩ := getV_elim h2
    obtain ⟨p2, n2, c2, rfl, h4⟩ := asS_elim h3
    obtain ⟨w3, g3, h5⟩ := getV_elim h4
    obtain ⟨n3, rfl, h6⟩ := asI_elim h5
    obtain ⟨w4, g4, h7⟩ := getV_elim h6
    obtain ⟨n4, rfl, h8⟩ := asI_elim h7
    obtain ⟨w5, g5, h9⟩ := getV_elim h8
    obtain ⟨p3, n5, c3, rfl, h10⟩ := asS_elim h9
    obtain ⟨w6, g6, h11⟩ := getV_elim h10
    obtain ⟨n6, rfl, h12⟩ := asI_elim h11
    obtain ⟨w7, g7, h13⟩ := getV_elim h12
    obtain ⟨n7, rfl, h14⟩ := asI_elim h13
    obtain ⟨w8, g8, h15⟩ := getV_elim h14
    obtain ⟨p4, n8, c4, rfl, h16⟩ := asS_elim h15
    obtain ⟨w9, g9, h17⟩ := getV_elim h16
    obtain ⟨n9, rfl, h18⟩ := asI_elim h17
    obtain ⟨w10, g10, h19⟩ := getV_elim h18
    obtain ⟨n10, rfl, h20⟩ := asI_elim h19
    exact ⟨_, ⟨g1, g2, g3, g4, g5, g6, g7, g8, g9, g10, trivial⟩, h20⟩

def p9 : Pt St where
  env s := [(0, (.slice s.x_dst.p s.x_dst.n s.x_dst.c)), (1, (.slice s.x_blocks.p s.x_blocks.n s.x_blocks.c)), (6, (.int .u64 s.x_totalSize)), (7, (.int .i64 s.x_compSize)), (9, (.slice s.x_b.p s.x_b.n s.x_b.c)), (11, (.int .i64 s.x_hdr)), (21, (.slice s.t21.p s.t21.n s.t21.c)), (22, (.int .i64 s.t22)), (23, (.int .i64 s.t23))]
  fin e s K := getV e 0 fun v1 => asS v1 fun p1 n1 c1 => getV e 1 fun v2 => asS v2 fun p2 n2 c2 => getV e 6 fun v3 => asI .u64 v3 fun n3 => getV e 7 fun v4 => asI .i64 v4 fun n4 => getV e 9 fun v5 => asS v5 fun p3 n5 c3 => getV e 11 fun v6 => asI .i64 v6 fun n6 => getV e 21 fun v7 => asS v7 fun p4 n7 c4 => getV e 22 fun v8 => asI .i64 v8 fun n8 => getV e 23 fun v9 => asI .i64 v9 fun n9 => K { s with x_dst := ⟨p1, n1, c1⟩, x_blocks := ⟨p2, n2, c2⟩, x_totalSize := n3, x_compSize := n4, x_b := ⟨p3, n5, c3⟩, x_hdr := n6, t21 := ⟨p4, n7, c4⟩, t22 := n8, t23 := n9 }
  ok := by
    intro e s K h0
    obtain ⟨w1, g1, h1⟩ := getV_elim h0
    obtain ⟨p1, n1, c1, rfl, h2⟩ := asS_elim h1
    obtain ⟨w2, g2, h3⟩ := getV_elim h2
    obtain ⟨p2, n2, c2, rfl, h4⟩ := asS_elim h3
    obtain ⟨w3, g3, h5⟩ := getV_elim h4
    obtain ⟨n3, rfl, h6⟩ := asI_elim h5
    obtain ⟨w4, g4, h7⟩ := getV_elim h6
    obtain ⟨n4, rfl, h8⟩ := asI_elim h7
    obtain ⟨w5, g5, h9⟩ := getV_elim h8
    obtain ⟨p3, n5, c3, rfl, h10⟩ := asS_elim h9
    obtain ⟨w6, g6, h11⟩ := getV_elim h10
    obtain ⟨n6, rfl, h12⟩ := asI_elim h11
    obtain ⟨w7, g7, h13⟩ := getV_elim h12
    obtain ⟨p4, n7, c4, rfl, h14⟩ := asS_elim h13
    obtain ⟨w8, g8, h15⟩ := getV_elim h14
    obtain ⟨n8, rfl, h16⟩ := asI_elim h15
    obtain ⟨w9, g9, h17⟩ := getV_elim h16
    obtain ⟨n9, rfl, h18⟩ := asI_elim h17
    exact ⟨_, ⟨g1, g2, g3, g4, g5, g6, g7, g8, g9, trivial⟩, h18⟩

def p10 : Pt St where
  env s := [(0, (.slice s.x_dst.p s.x_dst.n s.x_dst.c))]
  fin e s K := getV e 0 fun v1 => asS v1 fun p1 n1 c1 => K { s with x_dst := ⟨p1, n1, c1⟩ }
  ok := by
    intro e s K h0
    obtain ⟨w1, g1, h1⟩ := getV_elim h0
    obtain ⟨p1, n1, c1, rfl, h2⟩ := asS_elim h1
    exact ⟨_, ⟨g1, trivial⟩, h2⟩

def p11 : Pt St where
  env s := [(0, (.slice s.x_dst.p s.x_dst.n s.x_dst.c)), (1, (.slice s.x_blocks.p s.x_blocks.n s.x_blocks.c)), (6, (.int .u64 s.x_totalSize)), (7, (.int .i64 s.x_compSize)), (13, (.pointer s.x_tmp))]
  fin e s K := getV e 0 fun v1 => asS v1 fun p1 n1 c1 => getV e 1 fun v2 => asS v2 fun p2 n2 c2 => getV e 6 fun v3 => asI .u64 v3 fun n3 => getV e 7 fun v4 => asI .i64 v4 fun n4 => getV e 13 fun v5 => asP v5 fun p3 => K { s with x_dst := ⟨p1, n1, c1⟩, x_blocks := ⟨p2, n2, c2⟩, x_totalSize := n3, x_compSize := n4, x_tmp := p3 }
  ok := by
    intro e s K h0
    obtain ⟨w1, g1, h1⟩ := getV_elim h0
    obtain ⟨p1, n1, c1, rfl, h2⟩ := asS_elim h1
    obtain ⟨w2, g2, h3⟩ := getV_elim h2
    obtain ⟨p2, n2, c2, rfl, h4⟩ := asS_elim h3
    obtain ⟨w3, g3, h5⟩ := getV_elim h4
    obtain ⟨n3, rfl, h6⟩ := asI_elim h5
    obtain ⟨w4, g4, h7⟩ := getV_elim h6
    obtain ⟨n4, rfl, h8⟩ := asI_elim h7
    obtain ⟨w5, g5, h9⟩ := getV_elim h8
    obtain ⟨p3, rfl, h10⟩ := asP_elim h9
    exact ⟨_, ⟨g1, g2, g3, g4, g5, trivial⟩, h10⟩

def p12 : Pt St where
  env s := [(0, (.slice s.x_dst.p s.x_dst.n s.x_dst.c)), (1, (.slice s.x_blocks.p s.x_blocks.n s.x_blocks.c)), (7, (.int .i64 s.x_compSize)), (13, (.pointer s.x_tmp)), (14, (.int .i64 s.x_hdrSize))]
  fin e s K := getV e 0 fun v1 => asS v1 fun p1 n1 c1 => getV e 1 fun v2 => asS v2 fun p2 n2 c2 => getV e 7 fun v3 => asI .i64 v3 fun n3 => getV e 13 fun v4 => asP v4 fun p3 => getV e 14 fun v5 => asI .i64 v5 fun n4 => K { s with x_dst := ⟨p1, n1, c1⟩, x_blocks := ⟨p2, n2, c2⟩, x_compSize := n3, x_tmp := p3, x_hdrSize := n4 }
  ok := by
    intro e s K h0
    obtain ⟨w1, g1, h1⟩ := getV_elim h0
    obtain ⟨p1, n1, c1, rfl, h2⟩ := asS_elim h1
    obtain ⟨w2, g2, h3⟩ := getV_elim h2
    obtain ⟨p2, n2, c2, rfl, h4⟩ := asS_elim h3
    obtain ⟨w3, g3, h5⟩ := getV_elim h4
    obtain ⟨n3, rfl, h6⟩ := asI_elim h5
    obtain ⟨w4, g4, h7⟩ := getV_elim h6
    obtain ⟨p3, rfl, h8⟩ := asP_elim h7
    obtain ⟨w5, g5, h9⟩ := getV_elim h8
    obtain ⟨n4, rfl, h10⟩ := asI_elim h9
    exact ⟨_, ⟨g1, g2, g3, g4, g5, trivial⟩, h10⟩

def p13 : Pt St where
  env s := [(0, (.slice s.x_dst.p s.x_dst.n s.x_dst.c)), (1, (.slice s.x_blocks.p s.x_blocks.n s.x_blocks.c)), (13, (.pointer s.x_tmp)), (14, (.int .i64 s.x_hdrSize)), (15, (.int .i64 s.x_wantSize))]
  fin e s K := getV e 0 fun v1 => asS v1 fun p1 n1 c1 => getV e 1 fun v2 => asS v2 fun p2 n2 c2 => getV e 13 fun v3 => asP v3 fun p3 => getV e 14 fun v4 => asI .i64 v4 fun n3 => getV e 15 fun v5 => asI .i64 v5 fun n4 => K { s with x_dst := ⟨p1, n1, c1⟩, x_blocks := ⟨p2, n2, c2⟩, x_tmp := p3, x_hdrSize := n3, x_wantSize := n4 }
  ok := by
    intro e s K h0
    obtain ⟨w1, g1, h1⟩ := getV_elim h0
    obtain ⟨p1, n1, c1, rfl, h2⟩ := asS_elim h1
    obtain ⟨w2, g2, h3⟩ := getV_elim h2
    obtain ⟨p2, n2, c2, rfl, h4⟩ := asS_elim h3
    obtain ⟨w3, g3, h5⟩ := getV_elim h4
    obtain ⟨p3, rfl, h6⟩ := asP_elim h5
    obtain ⟨w4, g4, h7⟩ := getV_elim h6
    obtain ⟨n3, rfl, h8⟩ := asI_elim h7
    obtain ⟨w5, g5, h9⟩ := getV_elim h8
    obtain ⟨n4, rfl, h10⟩ := asI_elim h9
    exact ⟨_, ⟨g1, g2, g3, g4, g5, trivial⟩, h10⟩

def p14 : Pt St where
  env s := [(0, (.slice s.x_dst.p s.x_dst.n s.x_dst.c)), (1, (.slice s.x_blocks.p s.x_blocks.n s.x_blocks.c)), (13, (.pointer s.x_tmp)), (14, (.int .i64 s.x_hdrSize))]
  fin e s K := getV e 0 fun v1 => asS v1 fun p1 n1 c1 => getV e 1 fun v2 => asS v2 fun p2 n2 c2 => getV e 13 fun v3 => asP v3 fun p3 => getV e 14 fun v4 => asI .i64 v4 fun n3 => K { s with x_dst := ⟨p1, n1, c1⟩, x_blocks := ⟨p2, n2, c2⟩, x_tmp := p3, x_hdrSize := n3 }
  ok := by
    intro e s K h0
    obtain ⟨w1, g1, h1⟩ := getV_elim h0
    obtain ⟨p1, n1, c1, rfl, h2⟩ := asS_elim h1
    obtain ⟨w2, g2, h3⟩ := getV_elim h2
    obtain ⟨p2, n2, c2, rfl, h4⟩ := asS_elim h3
    obtain ⟨w3, g3, h5⟩ := getV_elim h4
    obtain ⟨p3, rfl, h6⟩ := asP_elim h5
    obtain ⟨w4, g4, h7⟩ := getV_elim h6
    obtain ⟨n3, rfl, h8⟩ := asI_elim h7
    exact ⟨_, ⟨g1, g2, g3, g4, trivial⟩, h8⟩

def p15 : Pt St where
  env s := [(0, (.slice s.x_dst.p s.x_dst.n s.x_dst.c)), (80, (.slice s.t80.p s.t80.n s.t80.c)), (81, (.int .i64 s.t81)), (82, (.int .i64 s.t82))]
  fin e s K := getV e 0 fun v1 => asS v1 fun p1 n1 c1 => getV e 80 fun v2 => asS v2 fun p2 n2 c2 => getV e 81 fun v3 => asI .i64 v3 fun n3 => getV e 82 fun v4 => asI .i64 v4 fun n4 => K { s with x_dst := ⟨p1, n1, c1⟩, t80 := ⟨p2, n2, c2⟩, t81 := n3, t82 := n4 }
  ok := by
    intro e s K h0
    obtain ⟨w1, g1, h1⟩ := getV_elim h0
    obtain ⟨p1, n1, c1, rfl, h2⟩ := asS_elim h1
    obtain ⟨w2, g2, h3⟩ := getV_elim h2
    obtain ⟨p2, n2, c2, rfl, h4⟩ := asS_elim h3
    obtain ⟨w3, g3, h5⟩ := getV_elim h4
    obtain ⟨n3, rfl, h6⟩ := asI_elim h5
    obtain ⟨w4, g4, h7⟩ := getV_elim h6
    obtain ⟨n4, rfl, h8⟩ := asI_elim h7
    exact ⟨_, ⟨g1, g2, g3, g4, trivial⟩, h8⟩

def p16 : Pt St where
  env s := [(0, (.slice s.x_dst.p s.x_dst.n s.x_dst.c)), (80, (.slice s.t80.p s.t80.n s.t80.c)), (81, (.int .i64 s.t81)), (82, (.int .i64 s.t82)), (83, (.bool s.t83))]
  fin e s K := getV e 0 fun v1 => asS v1 fun p1 n1 c1 => getV e 80 fun v2 => asS v2 fun p2 n2 c2 => getV e 81 fun v3 => asI .i64 v3 fun n3 => getV e 82 fun v4 => asI .i64 v4 fun n4 => getV e 83 fun v5 => asB v5 fun b1 => K { s with x_dst := ⟨p1, n1, c1⟩, t80 := ⟨p2, n2, c2⟩, t81 := n3, t82 := n4, t83 := b1 }
  ok := by
    intro e s K h0
    obtain ⟨w1, g1, h1⟩ := getV_elim h0
    obtain ⟨p1, n1, c1, rfl, h2⟩ := asS_elim h1
    obtain ⟨w2, g2, h3⟩ := getV_elim h2
    obtain ⟨p2, n2, c2, rfl, h4⟩ := asS_elim h3
    obtain ⟨w3, g3, h5⟩ := getV_elim h4
    obtain ⟨n3, rfl, h6⟩ := asI_elim h5
    obtain ⟨w4, g4, h7⟩ := getV_elim h6
    obtain ⟨n4, rfl, h8⟩ := asI_elim h7
    obtain ⟨w5, g5, h9⟩ := getV_elim h8
    obtain ⟨b1, rfl, h10⟩ := asB_elim h9
    exact ⟨_, ⟨g1, g2, g3, g4, g5, trivial⟩, h10⟩

def p17 : Pt St where
  env s := [(0, (.slice s.x_dst.p s.x_dst.n s.x_dst.c)), (17, (.slice s.x_bq17.p s.x_bq17.n s.x_bq17.c)), (80, (.slice s.t80.p s.t80.n s.t80.c)), (81, (.int .i64 s.t81)), (82, (.int .i64 s.t82))]
  fin e s K := getV e 0 fun v1 => asS v1 fun p1 n1 c1 => getV e 17 fun v2 => asS v2 fun p2 n2 c2 => getV e 80 fun v3 => asS v3 fun p3 n3 c3 => getV e 81 fun v4 => asI .i64 v4 fun n4 => getV e 82 fun v5 => asI .i64 v5 fun n5 => K { s with x_dst := ⟨p1, n1, c1⟩, x_bq17 := ⟨p2, n2, c2⟩, t80 := ⟨p3, n3, c3⟩, t81 := n4, t82 := n5 }
  ok := by
    intro e s K h0
    obtain ⟨w1, g1, h1⟩ := getV_elim h0
    obtain ⟨p1, n1, c1, rfl, h2⟩ := asS_elim h1
    obtain ⟨w2, g2, h3⟩ := getV_elim h2
    obtain ⟨p2, n2, c2, rfl, h4⟩ := asS_elim h3
    obtain ⟨w3, g3, h5⟩ := getV_elim h4
    obtain ⟨p3, n3, c3, rfl, h6⟩ := asS_elim h5
    obtain ⟨w4, g4, h7⟩ := getV_elim h6
    obtain ⟨n4, rfl, h8⟩ := asI_elim h7
    obtain ⟨w5, g5, h9⟩ := getV_elim h8
    obtain ⟨n5, rfl, h10⟩ := asI_elim h9
    exact ⟨_, ⟨g1, g2, g3, g4, g5, trivial⟩, h10⟩

def p18 : Pt St where
  env s := [(0, (.slice s.x_dst.p s.x_dst.n s.x_dst.c)), (17, (.slice s.x_bq17.p s.x_bq17.n s.x_bq17.c)), (19, (.int .i64 s.x_hdrq19)), (20, s.x_errq20), (80, (.slice s.t80.p s.t80.n s.t80.c)), (81, (.int .i64 s.t81)), (82, (.int .i64 s.t82))]
  fin e s K := getV e 0 fun v1 => asS v1 fun p1 n1 c1 => getV e 17 fun v2 => asS v2 fun p2 n2 c2 => getV e 19 fun v3 => asI .i64 v3 fun n3 => getV e 20 fun v4 => getV e 80 fun v5 => asS v5 fun p3 n4 c3 => getV e 81 fun v6 => asI .i64 v6 fun n5 => getV e 82 fun v7 => asI .i64 v7 fun n6 => K { s with x_dst := ⟨p1, n1, c1⟩, x_bq17 := ⟨p2, n2, c2⟩, x_hdrq19 := n3, x_errq20 := v4, t80 := ⟨p3, n4, c3⟩, t81 := n5, t82 := n6 }
  ok := by
    intro e s K h0
    obtain ⟨w1, g1, h1⟩ := getV_elim h0
    obtain ⟨p1, n1, c1, rfl, h2⟩ := asS_elim h1
    obtain ⟨w2, g2, h3⟩ := getV_elim h2
    obtain ⟨p2, n2, c2, rfl, h4⟩ := asS_elim h3
    obtain ⟨w3, g3, h5⟩ := getV_elim h4
    obtain ⟨n3, rfl, h6⟩ := asI_elim h5
    obtain ⟨w4, g4, h7⟩ := getV_elim h6
    obtain ⟨w5, g5, h8⟩ := getV_elim h7
    obtain ⟨p3, n4, c3, rfl, h9⟩ := asS_elim h8
    obtain ⟨w6, g6, h10⟩ := getV_elim h9
    obtain ⟨n5, rfl, h11⟩ := asI_elim h10
    obtain ⟨w7, g7, h12⟩ := getV_elim h11
    obtain ⟨n6, rfl, h13⟩ := asI_elim h12
    exact ⟨_, ⟨g1, g2, g3, g4, g5, g6, g7, trivial⟩, h13⟩

def p19 : Pt St where
  env s := [(0, (.slice s.x_dst.p s.x_dst.n s.x_dst.c)), (17, (.slice s.x_bq17.p s.x_bq17.n s.x_bq17.c)), (19, (.int .i64 s.x_hdrq19)), (80, (.slice s.t80.p s.t80.n s.t80.c)), (81, (.int .i64 s.t81)), (82, (.int .i64 s.t82))]
  fin e s K := getV e 0 fun v1 => asS v1 fun p1 n1 c1 => getV e 17 fun v2 => asS v2 fun p2 n2 c2 => getV e 19 fun v3 => asI .i64 v3 fun n3 => getV e 80 fun v4 => asS v4 fun p3 n4 c3 => getV e 81 fun v5 => asI .i64 v5 fun n5 => getV e 82 fun v6 => asI .i64 v6 fun n6 => K { s with x_dst := ⟨p1, n1, c1⟩, x_bq17 := ⟨p2, n2, c2⟩, x_hdrq19 := n3, t80 := ⟨p3, n4, c3⟩, t81 := n5, t82 := n6 }
  ok := by
    intro e s K h0
    obtain ⟨w1, g1, h1⟩ := getV_elim h0
    obtain ⟨p1, n1, c1, rfl, h2⟩ := asS_elim h1
    obtain ⟨w2, g2, h3⟩ := getV_elim h2
    obtain ⟨p2, n2, c2, rfl, h4⟩ := asS_elim h3
    obtain ⟨w3, g3, h5⟩ := getV_elim h4
    obtain ⟨n3, rfl, h6⟩ := asI_elim h5
    obtain ⟨w4, g4, h7⟩ := getV_elim h6
    obtain ⟨p3, n4, c3, rfl, h8⟩ := asS_elim h7
    obtain ⟨w5, g5, h9⟩ := getV_elim h8
    obtain ⟨n5, rfl, h10⟩ := asI_elim h9
    obtain ⟨w6, g6, h11⟩ := getV_elim h10
    obtain ⟨n6, rfl, h12⟩ := asI_elim h11
    exact ⟨_, ⟨g1, g2, g3, g4, g5, g6, trivial⟩, h12⟩

def r0 (s : St) (h : Heap) (Q : St → Heap → Prop) : Prop :=
  Q s h

def r1 (s : St) (h : Heap) (Q : St → Heap → Prop) : Prop :=
  Q { s with x_totalSize := (0 : Int) } h

def r2 (s : St) (h : Heap) (Q : St → Heap → Prop) : Prop :=
  Q { s with x_compSize := (0 : Int) } h

def r3 (s : St) (h : Heap) (Q : St → Heap → Prop) : Prop :=
  Q { s with t21 := s.x_blocks, t22 := ((s.x_blocks.n : Nat) : Int), t23 := (0 : Int) } h

def r4 (s : St) (h : Heap) (Q : St → Heap → Prop) : Prop :=
  Q { s with t24 := (decide (s.t23 < s.t22)) } h

def r5 (s : St) (h : Heap) (Q : St → Heap → Prop) : Prop :=
  0 ≤ s.t23 ∧ s.t23 < ((s.t21.n : Nat) : Int) ∧
  ptrE s.t21.p fun a1 =>
  ∃ (p2 : Option Addr) (n3 c4 : Nat), hcell h (Addr.add a1 (Int.toNat s.t23 * 1)) = some (.slice p2 n3 c4) ∧
  Q { s with x_b := ⟨p2, n3, c4⟩ } h

def r6 (s : St) (h : Heap) (Q : St → Heap → Prop) : Prop :=
  c_decodedLen s.x_b h fun r2 r3 u4 h1 =>
  Q { s with x_l := r2, x_hdr := r3, x_err := u4 } h1

def r7 (s : St) (h : Heap) (Q : Bool → St → Heap → Prop) : Prop :=
  nilE s.x_err fun b1 =>
  Q (!b1) s h

def r8 (s : St) (h : Heap) (Q : St → Heap → Prop) : Prop :=
  Q { s with t4 := ⟨none, 0, 0⟩, t5 := s.x_err } h

def r9 (s : St) (h : Heap) (Q : St → Heap → Prop) : Prop :=
  Q { s with x_totalSize := (IntKind.wrap .u64 (s.x_totalSize + (IntKind.wrap .u64 s.x_l))) } h

def r10 (s : St) (h : Heap) (Q : St → Heap → Prop) : Prop :=
  Q { s with x_compSize := (IntKind.wrap .i64 (s.x_compSize + (IntKind.wrap .i64 (((s.x_b.n : Nat) : Int) - s.x_hdr)))) } h

def r11 (s : St) (h : Heap) (Q : St → Heap → Prop) : Prop :=
  Q { s with t23 := (IntKind.wrap .i64 (s.t23 + (1 : Int))) } h

def r12 (s : St) (h : Heap) (Q : Bool → St → Heap → Prop) : Prop :=
  Q (s.x_totalSize == (0 : Int)) s h

def r13 (s : St) (h : Heap) (Q : St → Heap → Prop) : Prop :=
  withH (hnew h [(.int .u8 (0 : Int))] 5) fun h1 =>
  appendT Pg 5 s.x_dst.p s.x_dst.n s.x_dst.c (.slice (some ⟨Array.size h, 0, none⟩) 1 1) 1 h1 fun p2 n3 c4 h5 =>
  Q { s with x_dst := ⟨p2, n3, c4⟩ } h5

def r14 (s : St) (h : Heap) (Q : St → Heap → Prop) : Prop :=
  Q { s with t4 := s.x_dst, t5 := .nilIface } h

def r15 (s : St) (h : Heap) (Q : Bool → St → Heap → Prop) : Prop :=
  Q (decide (s.x_totalSize > (4294967295 : Int))) s h

def r16 (s : St) (h : Heap) (Q : St → Heap → Prop) : Prop :=
  ∃ u1 : Value, hcell h ⟨1, 0, none⟩ = some u1 ∧
  Q { s with t4 := ⟨none, 0, 0⟩, t5 := u1 } h

def r17 (s : St) (h : Heap) (Q : St → Heap → Prop) : Prop :=
  withH (hnew h (zcells Pg 96) 96) fun h1 =>
  Q { s with x_tmp := (some ⟨Array.size h, 0, none⟩) } h1

def r18 (s : St) (h : Heap) (Q : St → Heap → Prop) : Prop :=
  ptrE s.x_tmp fun a1 =>
  c_PutUvarint ⟨(subP (some a1) 0 5 1), (5 - 0), (5 - 0)⟩ s.x_totalSize h fun r3 h2 =>
  Q { s with x_hdrSize := r3 } h2

def r19 (s : St) (h : Heap) (Q : St → Heap → Prop) : Prop :=
  Q { s with x_wantSize := (IntKind.wrap .i64 (s.x_hdrSize + s.x_compSize)) } h

def r20 (s : St) (h : Heap) (Q : Bool → St → Heap → Prop) : Prop :=
  Q (decide ((IntKind.wrap .i64 (((s.x_dst.c : Nat) : Int) - ((s.x_dst.n : Nat) : Int))) < s.x_wantSize)) s h

def r21 (s : St) (h : Heap) (Q : St → Heap → Prop) : Prop :=
  mkT Pg 5 (0 : Int) (IntKind.wrap .i64 (s.x_wantSize + ((s.x_dst.n : Nat) : Int))) h fun a1 n2 c3 h4 =>
  appendT Pg 5 (some a1) n2 c3 (.slice s.x_dst.p s.x_dst.n s.x_dst.c) s.x_dst.n h4 fun p5 n6 c7 h8 =>
  Q { s with x_dst := ⟨p5, n6, c7⟩ } h8

def r22 (s : St) (h : Heap) (Q : St → Heap → Prop) : Prop :=
  ptrE s.x_tmp fun a1 =>
  0 ≤ s.x_hdrSize ∧ s.x_hdrSize ≤ ((5 : Nat) : Int) ∧
  appendT Pg 5 s.x_dst.p s.x_dst.n s.x_dst.c (.slice (subP (some a1) 0 5 1) ((Int.toNat s.x_hdrSize) - 0) (5 - 0)) ((Int.toNat s.x_hdrSize) - 0) h fun p2 n3 c4 h5 =>
  Q { s with x_dst := ⟨p2, n3, c4⟩ } h5

def r23 (s : St) (h : Heap) (Q : St → Heap → Prop) : Prop :=
  Q { s with t80 := s.x_blocks, t81 := ((s.x_blocks.n : Nat) : Int), t82 := (0 : Int) } h

def r24 (s : St) (h : Heap) (Q : St → Heap → Prop) : Prop :=
  Q { s with t83 := (decide (s.t82 < s.t81)) } h

def r25 (s : St) (h : Heap) (Q : St → Heap → Prop) : Prop :=
  0 ≤ s.t82 ∧ s.t82 < ((s.t80.n : Nat) : Int) ∧
  ptrE s.t80.p fun a1 =>
  ∃ (p2 : Option Addr) (n3 c4 : Nat), hcell h (Addr.add a1 (Int.toNat s.t82 * 1)) = some (.slice p2 n3 c4) ∧
  Q { s with x_bq17 := ⟨p2, n3, c4⟩ } h

def r26 (s : St) (h : Heap) (Q : St → Heap → Prop) : Prop :=
  c_decodedLen s.x_bq17 h fun r2 r3 u4 h1 =>
  Q { s with x_hdrq19 := r3, x_errq20 := u4 } h1

def r27 (s : St) (h : Heap) (Q : Bool → St → Heap → Prop) : Prop :=
  nilE s.x_errq20 fun b1 =>
  Q (!b1) s h

def r28 (s : St) (h : Heap) (Q : St → Heap → Prop) : Prop :=
  Q { s with t4 := ⟨none, 0, 0⟩, t5 := s.x_errq20 } h

def r29 (s : St) (h : Heap) (Q : St → Heap → Prop) : Prop :=
  0 ≤ s.x_hdrq19 ∧ s.x_hdrq19 ≤ ((s.x_bq17.n : Nat) : Int) ∧
  appendT Pg 5 s.x_dst.p s.x_dst.n s.x_dst.c (.slice (subP s.x_bq17.p (Int.toNat s.x_hdrq19) s.x_bq17.c 1) (s.x_bq17.n - (Int.toNat s.x_hdrq19)) (s.x_bq17.c - (Int.toNat s.x_hdrq19))) (s.x_bq17.n - (Int.toNat s.x_hdrq19)) h fun p1 n2 c3 h4 =>
  Q { s with x_dst := ⟨p1, n2, c3⟩ } h4

def r30 (s : St) (h : Heap) (Q : St → Heap → Prop) : Prop :=
  Q { s with t82 := (IntKind.wrap .i64 (s.t82 + (1 : Int))) } h

def r31 (s : St) (h : Heap) (Q : St → Heap → Prop) : Prop :=
  Q { s with t4 := s.x_dst, t5 := .nilIface } h

def k23 : Stm St := (.seq (.test r27 (.seq (.reg r28) .ret) .skip) (.reg r29))
def k22 : Stm St := (.seq (.reg r26) k23)
def k21 : Stm St := (.seq (.block 3 (.seq (.reg r25) k22)) (.reg r30))
def k20 : Stm St := (.seq (.cond (fun s => s.t83) .skip (.exit 2)) k21)
def k19 : Stm St := (.seq (.reg r24) k20)
def k18 : Stm St := (.block 2 (.loop k19))
def k17 : Stm St := (.seq (.seq (.reg r23) k18) (.seq (.reg r31) .ret))
def k16 : Stm St := (.seq (.reg r22) k17)
def k15 : Stm St := (.seq (.test r20 (.reg r21) .skip) k16)
def k14 : Stm St := (.seq (.reg r19) k15)
def k13 : Stm St := (.seq (.reg r18) k14)
def k12 : Stm St := (.seq (.reg r17) k13)
def k11 : Stm St := (.seq (.test r15 (.seq (.reg r16) .ret) .skip) k12)
def k10 : Stm St := (.seq (.reg r13) (.seq (.reg r14) .ret))
def k9 : Stm St := (.seq (.test r12 k10 .skip) k11)
def k8 : Stm St := (.seq (.test r7 (.seq (.reg r8) .ret) .skip) (.seq (.reg r9) (.reg r10)))
def k7 : Stm St := (.seq (.reg r6) k8)
def k6 : Stm St := (.seq (.block 1 (.seq (.reg r5) k7)) (.reg r11))
def k5 : Stm St := (.seq (.cond (fun s => s.t24) .skip (.exit 0)) k6)
def k4 : Stm St := (.seq (.reg r4) k5)
def k3 : Stm St := (.block 0 (.loop k4))
def k2 : Stm St := (.seq (.seq (.reg r3) k3) k9)
def k1 : Stm St := (.seq (.reg r2) k2)
def k0 : Stm St := (.seq (.reg r1) k1)

def stm : Stm St := (.seq (.reg r0) k0)

def ex : Ex → Pt St := fun _ => p0

set_option maxRecDepth 100000 in
theorem sim : Sim Pg 102 p1 (Tryd.f44.body.getD .skip) stm p0 ex :=
  (Sim.seq (Sim.reg (A := p1) (B := p1) (fun _ _ _ => by kernel_rfl))
  (Sim.seq (Sim.reg (A := p1) (B := p2) (fun _ _ _ => by kernel_rfl))
  (Sim.seq (Sim.reg (A := p2) (B := p3) (fun _ _ _ => by kernel_rfl))
  (Sim.seq (Sim.seq (Sim.reg (A := p3) (B := p4) (fun _ _ _ => by kernel_rfl))
  (Sim.block (B := p3) (Sim.loop (A := p4) (Sim.seq (Sim.reg (A := p4) (B := p5) (fun _ _ _ => by kernel_rfl))
  (Sim.seq (Sim.cond (A := p5) (fun s => s.t24) (fun _ => rfl) (Sim.weak (B := p5) (C := p4) (Sim.skip (A := p5)) (fun _ => ⟨rfl, rfl, rfl, rfl, rfl, rfl, rfl, trivial⟩))
  (Sim.exit (A := p5) (fun _ => ⟨rfl, rfl, rfl, rfl, trivial⟩)))
  (Sim.seq (Sim.block (B := p4) (Sim.seq (Sim.reg (A := p4) (B := p6) (fun _ _ _ => by kernel_rfl))
  (Sim.seq (Sim.reg (A := p6) (B := p7) (fun _ _ _ => by kernel_rfl))
  (Sim.seq (Sim.test (A := p7) (B := p7) (fun _ _ _ => by kernel_rfl) (Sim.seq (Sim.reg (A := p7) (B := p0) (fun _ _ _ => by kernel_rfl))
  (Sim.ret (A := p0) (E := (exAt (exAt ex 0 p3) 1 p4)) (fun _ => ⟨rfl, rfl, trivial⟩)))
  (Sim.weak (B := p7) (C := p8) (Sim.skip (A := p7)) (fun _ => ⟨rfl, rfl, rfl, rfl, rfl, rfl, rfl, rfl, rfl, rfl, trivial⟩)))
  (Sim.seq (Sim.reg (A := p8) (B := p9) (fun _ _ _ => by kernel_rfl))
  (Sim.reg (A := p9) (B := p4) (fun _ _ _ => by kernel_rfl)))))))
  (Sim.reg (A := p4) (B := p4) (fun _ _ _ => by kernel_rfl))))))))
  (Sim.seq (Sim.test (A := p3) (B := p3) (fun _ _ _ => by kernel_rfl) (Sim.seq (Sim.reg (A := p3) (B := p10) (fun _ _ _ => by kernel_rfl))
  (Sim.seq (Sim.reg (A := p10) (B := p0) (fun _ _ _ => by kernel_rfl))
  (Sim.ret (A := p0) (E := ex) (fun _ => ⟨rfl, rfl, trivial⟩))))
  (Sim.skip (A := p3)))
  (Sim.seq (Sim.test (A := p3) (B := p3) (fun _ _ _ => by kernel_rfl) (Sim.seq (Sim.reg (A := p3) (B := p0) (fun _ _ _ => by kernel_rfl))
  (Sim.ret (A := p0) (E := ex) (fun _ => ⟨rfl, rfl, trivial⟩)))
  (Sim.skip (A := p3)))
  (Sim.seq (Sim.reg (A := p3) (B := p11) (fun _ _ _ => by kernel_rfl))
  (Sim.seq (Sim.reg (A := p11) (B := p12) (fun _ _ _ => by kernel_rfl))
  (Sim.seq (Sim.reg (A := p12) (B := p13) (fun _ _ _ => by kernel_rfl))
  (Sim.seq (Sim.test (A := p13) (B := p13) (fun _ _ _ => by kernel_rfl) (Sim.reg (A := p13) (B := p14) (fun _ _ _ => by kernel_rfl))
  (Sim.weak (B := p13) (C := p14) (Sim.skip (A := p13)) (fun _ => ⟨rfl, rfl, rfl, rfl, trivial⟩)))
  (Sim.seq (Sim.reg (A := p14) (B := p1) (fun _ _ _ => by kernel_rfl))
  (Sim.seq (Sim.seq (Sim.reg (A := p1) (B := p15) (fun _ _ _ => by kernel_rfl))
  (Sim.block (B := p10) (Sim.loop (A := p15) (Sim.seq (Sim.reg (A := p15) (B := p16) (fun _ _ _ => by kernel_rfl))
  (Sim.seq (Sim.cond (A := p16) (fun s => s.t83) (fun _ => rfl) (Sim.weak (B := p16) (C := p15) (Sim.skip (A := p16)) (fun _ => ⟨rfl, rfl, rfl, rfl, trivial⟩))
  (Sim.exit (A := p16) (fun _ => ⟨rfl, trivial⟩)))
  (Sim.seq (Sim.block (B := p15) (Sim.seq (Sim.reg (A := p15) (B := p17) (fun _ _ _ => by kernel_rfl))
  (Sim.seq (Sim.reg (A := p17) (B := p18) (fun _ _ _ => by kernel_rfl))
  (Sim.seq (Sim.test (A := p18) (B := p18) (fun _ _ _ => by kernel_rfl) (Sim.seq (Sim.reg (A := p18) (B := p0) (fun _ _ _ => by kernel_rfl))
  (Sim.ret (A := p0) (E := (exAt (exAt ex 2 p10) 3 p15)) (fun _ => ⟨rfl, rfl, trivial⟩)))
  (Sim.weak (B := p18) (C := p19) (Sim.skip (A := p18)) (fun _ => ⟨rfl, rfl, rfl, rfl, rfl, rfl, trivial⟩)))
  (Sim.reg (A := p19) (B := p15) (fun _ _ _ => by kernel_rfl))))))
  (Sim.reg (A := p15) (B := p15) (fun _ _ _ => by kernel_rfl))))))))
  (Sim.seq (Sim.reg (A := p10) (B := p0) (fun _ _ _ => by kernel_rfl))
  (Sim.ret (A := p0) (E := ex) (fun _ => ⟨rfl, rfl, trivial⟩)))))))))))))))

def init (x_dst : Sl) (x_blocks : Sl) : St := { x_dst := x_dst, x_blocks := x_blocks, t4 := Sl.nil, t5 := undef, x_totalSize := 0, x_compSize := 0, x_b := Sl.nil, x_l := 0, x_hdr := 0, x_err := undef, x_tmp := none, x_hdrSize := 0, x_wantSize := 0, x_bq17 := Sl.nil, x_hdrq19 := 0, x_errq20 := undef, t21 := Sl.nil, t22 := 0, t23 := 0, t24 := false, t80 := Sl.nil, t81 := 0, t82 := 0, t83 := false }

/-- What is left of the results. -/
def res (K : Sl → Value → Heap → Prop) (s : St) (h1 : Heap) : Prop := K s.t4 s.t5 h1

/-- The call of 'pub-pemmican/pub/compress/s2.ConcatBlocks'. -/
theorem calls (x_dst : Sl) (x_blocks : Sl) (h : Heap) (K : Sl → Value → Heap → Prop)
    (H : stm (init x_dst x_blocks) h (endK (res K))) : c_ConcatBlocks x_dst x_blocks h K := by
  have hc : CallsH Pg 44 #[(.slice x_dst.p x_dst.n x_dst.c), (.slice x_blocks.p x_blocks.n x_blocks.c)] h fun v h1 => asT v fun l1 => asC l1 fun v1 l2 => asS v1 fun p1 n1 c1 => asC l2 fun v2 l3 => asN l3 (K ⟨p1, n1, c1⟩ v2 h1) :=
    callsH_of_sim (R := p0) (fn := Tryd.f44) (c := Tryd.f44.body.getD .skip) Tryd.func44 rfl Tryd.ntmps44 Tryd.call44 sim (init x_dst x_blocks) (⟨rfl, rfl, trivial⟩) (Nat.le_of_ble_eq_true rfl) (fun _ => ⟨rfl, rfl, trivial⟩) rfl
      (res K) (fun _ _ => by kernel_rfl) H
  refine hc.mono ?_
  intro v hp H
  obtain ⟨l1, rfl, h1⟩ := asT_elim H
  obtain ⟨v1, l2, rfl, h2⟩ := asC_elim h1
  obtain ⟨p1, n1, c1, rfl, h3⟩ := asS_elim h2
  obtain ⟨v2, l3, rfl, h4⟩ := asC_elim h3
  obtain ⟨rfl, h5⟩ := asN_elim h4
  exact ⟨_, _, _, _, rfl, h5⟩

end M_ConcatBlocks

end Go.Proofs.YtibleenkgmkpmaaDoor

namespace Go.Proofs.YtibleenkgmkpmaaDoor
open Go Go.Vc Go.Proofs

namespace M_impl_S2Concat

structure St where
  x_dst : Sl
  x_blocks : Sl
  t4 : Sl
  t5 : Bool

def p0 : Pt St where
  env s := [(4, (.slice s.t4.p s.t4.n s.t4.c)), (5, (.bool s.t5))]
  fin e s K := getV e 4 fun v1 => asS v1 fun p1 n1 c1 => getV e 5 fun v2 => asB v2 fun b1 => K { s with t4 := ⟨p1, n1, c1⟩, t5 := b1 }
  ok := by
    intro e s K h0
    obtain ⟨w1, g1, h1⟩ := getV_elim h0
    obtain ⟨p1, n1, c1, rfl, h2⟩ := asS_elim h1
    obtain ⟨w2, g2, h3⟩ := getV_elim h2
    obtain ⟨b1, rfl, h4⟩ := asB_elim h3
    exact ⟨_, ⟨g1, g2, trivial⟩, h4⟩

def p1 : Pt St where
  env s := [(0, (.slice s.x_dst.p s.x_dst.n s.x_dst.c)), (1, (.slice s.x_blocks.p s.x_blocks.n s.x_blocks.c))]
  fin e s K := getV e 0 fun v1 => asS v1 fun p1 n1 c1 => getV e 1 fun v2 => asS v2 fun p2 n2 c2 => K { s with x_dst := ⟨p1, n1, c1⟩, x_blocks := ⟨p2, n2, c2⟩ }
  ok := by
    intro e s K h0
    obtain ⟨w1, g1, h1⟩ := getV_elim h0
    obtain ⟨p1, n1, c1, rfl, h2⟩ := asS_elim h1
    obtain ⟨w2, g2, h3⟩ := getV_elim h2
    obtain ⟨p2, n2, c2, rfl, h4⟩ := asS_elim h3
    exact ⟨_, ⟨g1, g2, trivial⟩, h4⟩

def r0 (s : St) (h : Heap) (Q : St → Heap → Prop) : Prop :=
  Q s h

def r1 (s : St) (h : Heap) (Q : St → Heap → Prop) : Prop :=
  c_impl_copied s.x_dst h fun w2 h1 =>
  c_ConcatBlocks w2 s.x_blocks h1 fun w4 u5 h3 =>
  c_impl_told w4 u5 h3 fun w7 b8 h6 =>
  Q { s with t4 := w7, t5 := b8 } h6

def stm : Stm St := (.seq (.reg r0) (.seq (.reg r1) .ret))

def ex : Ex → Pt St := fun _ => p0

set_option maxRecDepth 100000 in
theorem sim : Sim Pg 15 p1 (Tryd.f21.body.getD .skip) stm p0 ex :=
  (Sim.seq (Sim.reg (A := p1) (B := p1) (fun _ _ _ => by kernel_rfl))
  (Sim.seq (Sim.reg (A := p1) (B := p0) (fun _ _ _ => by kernel_rfl))
  (Sim.ret (A := p0) (E := ex) (fun _ => ⟨rfl, rfl, trivial⟩))))

def init (x_dst : Sl) (x_blocks : Sl) : St := { x_dst := x_dst, x_blocks := x_blocks, t4 := Sl.nil, t5 := false }

/-- What is left of the results. -/
def res (K : Sl → Bool → Heap → Prop) (s : St) (h1 : Heap) : Prop := K s.t4 s.t5 h1

/-- The call of 'pub-pemmican/impl.S2Concat'. -/
theorem calls (x_dst : Sl) (x_blocks : Sl) (h : Heap) (K : Sl → Bool → Heap → Prop)
    (H : stm (init x_dst x_blocks) h (endK (res K))) : c_impl_S2Concat x_dst x_blocks h K := by
  have hc : CallsH Pg 21 #[(.slice x_dst.p x_dst.n x_dst.c), (.slice x_blocks.p x_blocks.n x_blocks.c)] h fun v h1 => asT v fun l1 => asC l1 fun v1 l2 => asS v1 fun p1 n1 c1 => asC l2 fun v2 l3 => asB v2 fun b1 => asN l3 (K ⟨p1, n1, c1⟩ b1 h1) :=
    callsH_of_sim (R := p0) (fn := Tryd.f21) (c := Tryd.f21.body.getD .skip) Tryd.func21 rfl Tryd.ntmps21 Tryd.call21 sim (init x_dst x_blocks) (⟨rfl, rfl, trivial⟩) (Nat.le_of_ble_eq_true rfl) (fun _ => ⟨rfl, rfl, trivial⟩) rfl
      (res K) (fun _ _ => by kernel_rfl) H
  refine hc.mono ?_
  intro v hp H
  obtain ⟨l1, rfl, h1⟩ := asT_elim H
  obtain ⟨v1, l2, rfl, h2⟩ := asC_elim h1
  obtain ⟨p1, n1, c1, rfl, h3⟩ := asS_elim h2
  obtain ⟨v2, l3, rfl, h4⟩ := asC_elim h3
  obtain ⟨b1, rfl, h5⟩ := asB_elim h4
  obtain ⟨rfl, h6⟩ := asN_elim h5
  exact ⟨_, _, _, _, rfl, h6⟩

end M_impl_S2Concat

end Go.Proofs.YtibleenkgmkpmaaDoor

namespace Go.Proofs.YtibleenkgmkpmaaDoor
open Go Go.Vc Go.Proofs

namespace M_laws_zzFits3

structure St where
  x_x : Sl
  t2 : Bool
  x_v : Sl
  t8 : Sl
  t9 : Int
  t10 : Int
  t11 : Bool

def p0 : Pt St where
  env s := [(2, (.bool s.t2))]
  fin e s K := getV e 2 fun v1 => asB v1 fun b1 => K { s with t2 := b1 }
  ok := by
    intro e s K h0
    obtain ⟨w1, g1, h1⟩ := getV_elim h0
    obtain ⟨b1, rfl, h2⟩ := asB_elim h1
    exact ⟨_, ⟨g1, trivial⟩, h2⟩

def p1 : Pt St where
  env s := [(0, (.slice s.x_x.p s.x_x.n s.x_x.c))]
  fin e s K := getV e 0 fun v1 => asS v1 fun p1 n1 c1 => K { s with x_x := ⟨p1, n1, c1⟩ }
  ok := by
    intro e s K h0
    obtain ⟨w1, g1, h1⟩ := getV_elim h0
    obtain ⟨p1, n1, c1, rfl, h2⟩ := asS_elim h1
    exact ⟨_, ⟨g1, trivial⟩, h2⟩

def p2 : Pt St where
  env s := [(8, (.slice s.t8.p s.t8.n s.t8.c)), (9, (.int .i64 s.t9)), (10, (.int .i64 s.t10))]
  fin e s K := getV e 8 fun v1 => asS v1 fun p1 n1 c1 => getV e 9 fun v2 => asI .i64 v2 fun n2 => getV e 10 fun v3 => asI .i64 v3 fun n3 => K { s with t8 := ⟨p1, n1, c1⟩, t9 := n2, t10 := n3 }
  ok := by
    intro e s K h0
    obtain ⟨w1, g1, h1⟩ := getV_elim h0
    obtain ⟨p1, n1, c1, rfl, h2⟩ := asS_elim h1
    obtain ⟨w2, g2, h3⟩ := getV_elim h2
    obtain ⟨n2, rfl, h4⟩ := asI_elim h3
    obtain ⟨w3, g3, h5⟩ := getV_elim h4
    obtain ⟨n3, rfl, h6⟩ := asI_elim h5
    exact ⟨_, ⟨g1, g2, g3, trivial⟩, h6⟩

def p3 : Pt St where
  env s := []
  fin e s K := K s
  ok := by
    intro e s K h0
    exact ⟨_, trivial, h0⟩

def p4 : Pt St where
  env s := [(8, (.slice s.t8.p s.t8.n s.t8.c)), (9, (.int .i64 s.t9)), (10, (.int .i64 s.t10)), (11, (.bool s.t11))]
  fin e s K := getV e 8 fun v1 => asS v1 fun p1 n1 c1 => getV e 9 fun v2 => asI .i64 v2 fun n2 => getV e 10 fun v3 => asI .i64 v3 fun n3 => getV e 11 fun v4 => asB v4 fun b1 => K { s with t8 := ⟨p1, n1, c1⟩, t9 := n2, t10 := n3, t11 := b1 }
  ok := by
    intro e s K h0
    obtain ⟨w1, g1, h1⟩ := getV_elim h0
    obtain ⟨p1, n1, c1, rfl, h2⟩ := asS_elim h1
    obtain ⟨w2, g2, h3⟩ := getV_elim h2
    obtain ⟨n2, rfl, h4⟩ := asI_elim h3
    obtain ⟨w3, g3, h5⟩ := getV_elim h4
    obtain ⟨n3, rfl, h6⟩ := asI_elim h5
    obtain ⟨w4, g4, h7⟩ := getV_elim h6
    obtain ⟨b1, rfl, h8⟩ := asB_elim h7
    exact ⟨_, ⟨g1, g2, g3, g4, trivial⟩, h8⟩

def p5 : Pt St where
  env s := [(4, (.slice s.x_v.p s.x_v.n s.x_v.c)), (8, (.slice s.t8.p s.t8.n s.t8.c)), (9, (.int .i64 s.t9)), (10, (.int .i64 s.t10))]
  fin e s K := getV e 4 fun v1 => asS v1 fun p1 n1 c1 => getV e 8 fun v2 => asS v2 fun p2 n2 c2 => getV e 9 fun v3 => asI .i64 v3 fun n3 => getV e 10 fun v4 => asI .i64 v4 fun n4 => K { s with x_v := ⟨p1, n1, c1⟩, t8 := ⟨p2, n2, c2⟩, t9 := n3, t10 := n4 }
  ok := by
    intro e s K h0
    obtain ⟨w1, g1, h1⟩ := getV_elim h0
    obtain ⟨p1, n1, c1, rfl, h2⟩ := asS_elim h1
    obtain ⟨w2, g2, h3⟩ := getV_elim h2
    obtain ⟨p2, n2, c2, rfl, h4⟩ := asS_elim h3
    obtain ⟨w3, g3, h5⟩ := getV_elim h4
    obtain ⟨n3, rfl, h6⟩ := asI_elim h5
    obtain ⟨w4, g4, h7⟩ := getV_elim h6
    obtain ⟨n4, rfl, h8⟩ := asI_elim h7
    exact ⟨_, ⟨g1, g2, g3, g4, trivial⟩, h8⟩

def r0 (s : St) (h : Heap) (Q : St → Heap → Prop) : Prop :=
  Q s h

def r1 (s : St) (h : Heap) (Q : Bool → St → Heap → Prop) : Prop :=
  Q (decide (((s.x_x.n : Nat) : Int) > (2147483647 : Int))) s h

def r2 (s : St) (h : Heap) (Q : St → Heap → Prop) : Prop :=
  Q { s with t2 := false } h

def r3 (s : St) (h : Heap) (Q : St → Heap → Prop) : Prop :=
  Q { s with t8 := s.x_x, t9 := ((s.x_x.n : Nat) : Int), t10 := (0 : Int) } h

def r4 (s : St) (h : Heap) (Q : St → Heap → Prop) : Prop :=
  Q { s with t11 := (decide (s.t10 < s.t9)) } h

def r5 (s : St) (h : Heap) (Q : St → Heap → Prop) : Prop :=
  0 ≤ s.t10 ∧ s.t10 < ((s.t8.n : Nat) : Int) ∧
  ptrE s.t8.p fun a1 =>
  ∃ (p2 : Option Addr) (n3 c4 : Nat), hcell h (Addr.add a1 (Int.toNat s.t10 * 1)) = some (.slice p2 n3 c4) ∧
  Q { s with x_v := ⟨p2, n3, c4⟩ } h

def r6 (s : St) (h : Heap) (Q : Bool → St → Heap → Prop) : Prop :=
  c_laws_zzFits1 s.x_v h fun b2 h1 =>
  Q (!b2) s h1

def r7 (s : St) (h : Heap) (Q : St → Heap → Prop) : Prop :=
  Q { s with t2 := false } h

def r8 (s : St) (h : Heap) (Q : St → Heap → Prop) : Prop :=
  Q { s with t10 := (IntKind.wrap .i64 (s.t10 + (1 : Int))) } h

def r9 (s : St) (h : Heap) (Q : St → Heap → Prop) : Prop :=
  Q { s with t2 := true } h

def k6 : Stm St := (.test r6 (.seq (.reg r7) .ret) .skip)
def k5 : Stm St := (.seq (.block 1 (.seq (.reg r5) k6)) (.reg r8))
def k4 : Stm St := (.seq (.cond (fun s => s.t11) .skip (.exit 0)) k5)
def k3 : Stm St := (.seq (.reg r4) k4)
def k2 : Stm St := (.block 0 (.loop k3))
def k1 : Stm St := (.seq (.seq (.reg r3) k2) (.seq (.reg r9) .ret))
def k0 : Stm St := (.seq (.test r1 (.seq (.reg r2) .ret) .skip) k1)

def stm : Stm St := (.seq (.reg r0) k0)

def ex : Ex → Pt St := fun _ => p0

set_option maxRecDepth 100000 in
theorem sim : Sim Pg 18 p1 (Tryd.f20.body.getD .skip) stm p0 ex :=
  (Sim.seq (Sim.reg (A := p1) (B := p1) (fun _ _ _ => by kernel_rfl))
  (Sim.seq (Sim.test (A := p1) (B := p1) (fun _ _ _ => by kernel_rfl) (Sim.seq (Sim.reg (A := p1) (B := p0) (fun _ _ _ => by kernel_rfl))
  (Sim.ret (A := p0) (E := ex) (fun _ => ⟨rfl, trivial⟩)))
  (Sim.skip (A := p1)))
  (Sim.seq (Sim.seq (Sim.reg (A := p1) (B := p2) (fun _ _ _ => by kernel_rfl))
  (Sim.block (B := p3) (Sim.loop (A := p2) (Sim.seq (Sim.reg (A := p2) (B := p4) (fun _ _ _ => by kernel_rfl))
  (Sim.seq (Sim.cond (A := p4) (fun s => s.t11) (fun _ => rfl) (Sim.weak (B := p4) (C := p2) (Sim.skip (A := p4)) (fun _ => ⟨rfl, rfl, rfl, trivial⟩))
  (Sim.exit (A := p4) (fun _ => trivial)))
  (Sim.seq (Sim.block (B := p2) (Sim.seq (Sim.reg (A := p2) (B := p5) (fun _ _ _ => by kernel_rfl))
  (Sim.test (A := p5) (B := p2) (fun _ _ _ => by kernel_rfl) (Sim.seq (Sim.reg (A := p2) (B := p0) (fun _ _ _ => by kernel_rfl))
  (Sim.ret (A := p0) (E := (exAt (exAt ex 0 p3) 1 p2)) (fun _ => ⟨rfl, trivial⟩)))
  (Sim.skip (A := p2)))))
  (Sim.reg (A := p2) (B := p2) (fun _ _ _ => by kernel_rfl))))))))
  (Sim.seq (Sim.reg (A := p3) (B := p0) (fun _ _ _ => by kernel_rfl))
  (Sim.ret (A := p0) (E := ex) (fun _ => ⟨rfl, trivial⟩))))))

def init (x_x : Sl) : St := { x_x := x_x, t2 := false, x_v := Sl.nil, t8 := Sl.nil, t9 := 0, t10 := 0, t11 := false }

/-- What is left of the results. -/
def res (K : Bool → Heap → Prop) (s : St) (h1 : Heap) : Prop := K s.t2 h1

/-- The call of 'pub-pemmican/laws.zzFits3'. -/
theorem calls (x_x : Sl) (h : Heap) (K : Bool → Heap → Prop)
    (H : stm (init x_x) h (endK (res K))) : c_laws_zzFits3 x_x h K := by
  have hc : CallsH Pg 20 #[(.slice x_x.p x_x.n x_x.c)] h fun v h1 => asB v fun b1 => K b1 h1 :=
    callsH_of_sim (R := p0) (fn := Tryd.f20) (c := Tryd.f20.body.getD .skip) Tryd.func20 rfl Tryd.ntmps20 Tryd.call20 sim (init x_x) (⟨rfl, trivial⟩) (Nat.le_of_ble_eq_true rfl) (fun _ => ⟨rfl, trivial⟩) rfl
      (res K) (fun _ _ => by kernel_rfl) H
  refine hc.mono ?_
  intro v hp H
  obtain ⟨b1, rfl, h1⟩ := asB_elim H
  exact ⟨_, rfl, h1⟩

end M_laws_zzFits3

end Go.Proofs.YtibleenkgmkpmaaDoor

namespace Go.Proofs.YtibleenkgmkpmaaDoor
open Go Go.Vc Go.Proofs

namespace M_laws_FnConcatAny

structure St where
  x_ls : Sl
  x_repeats : Bool
  t4 : Bool
  x_blocks : Sl
  x_all : Sl
  x_l : Sl
  x_b : Sl
  x_out : Sl
  x_bq11 : Sl
  x_ok : Bool
  x_outq13 : Sl
  t25 : Sl
  t26 : Int
  t27 : Int
  t28 : Bool

def p0 : Pt St where
  env s := [(4, (.bool s.t4))]
  fin e s K := getV e 4 fun v1 => asB v1 fun b1 => K { s with t4 := b1 }
  ok := by
    intro e s K h0
    obtain ⟨w1, g1, h1⟩ := getV_elim h0
    obtain ⟨b1, rfl, h2⟩ := asB_elim h1
    exact ⟨_, ⟨g1, trivial⟩, h2⟩

def p1 : Pt St where
  env s := [(0, (.slice s.x_ls.p s.x_ls.n s.x_ls.c)), (1, (.bool s.x_repeats))]
  fin e s K := getV e 0 fun v1 => asS v1 fun p1 n1 c1 => getV e 1 fun v2 => asB v2 fun b1 => K { s with x_ls := ⟨p1, n1, c1⟩, x_repeats := b1 }
  ok := by
    intro e s K h0
    obtain ⟨w1, g1, h1⟩ := getV_elim h0
    obtain ⟨p1, n1, c1, rfl, h2⟩ := asS_elim h1
    obtain ⟨w2, g2, h3⟩ := getV_elim h2
    obtain ⟨b1, rfl, h4⟩ := asB_elim h3
    exact ⟨_, ⟨g1, g2, trivial⟩, h4⟩

def p2 : Pt St where
  env s := [(0, (.slice s.x_ls.p s.x_ls.n s.x_ls.c)), (1, (.bool s.x_repeats)), (5, (.slice s.x_blocks.p s.x_blocks.n s.x_blocks.c))]
  fin e s K := getV e 0 fun v1 => asS v1 fun p1 n1 c1 => getV e 1 fun v2 => asB v2 fun b1 => getV e 5 fun v3 => asS v3 fun p2 n2 c2 => K { s with x_ls := ⟨p1, n1, c1⟩, x_repeats := b1, x_blocks := ⟨p2, n2, c2⟩ }
  ok := by
    intro e s K h0
    obtain ⟨w1, g1, h1⟩ := getV_elim h0
    obtain ⟨p1, n1, c1, rfl, h2⟩ := asS_elim h1
    obtain ⟨w2, g2, h3⟩ := getV_elim h2
    obtain ⟨b1, rfl, h4⟩ := asB_elim h3
    obtain ⟨w3, g3, h5⟩ := getV_elim h4
    obtain ⟨p2, n2, c2, rfl, h6⟩ := asS_elim h5
    exact ⟨_, ⟨g1, g2, g3, trivial⟩, h6⟩

def p3 : Pt St where
  env s := [(0, (.slice s.x_ls.p s.x_ls.n s.x_ls.c)), (1, (.bool s.x_repeats)), (5, (.slice s.x_blocks.p s.x_blocks.n s.x_blocks.c)), (6, (.slice s.x_all.p s.x_all.n s.x_all.c))]
  fin e s K := getV e 0 fun v1 => asS v1 fun p1 n1 c1 => getV e 1 fun v2 => asB v2 fun b1 => getV e 5 fun v3 => asS v3 fun p2 n2 c2 => getV e 6 fun v4 => asS v4 fun p3 n3 c3 => K { s with x_ls := ⟨p1, n1, c1⟩, x_repeats := b1, x_blocks := ⟨p2, n2, c2⟩, x_all := ⟨p3, n3, c3⟩ }
  ok := by
    intro e s K h0
    obtain ⟨w1, g1, h1⟩ := getV_elim h0
    obtain ⟨p1, n1, c1, rfl, h2⟩ := asS_elim h1
    obtain ⟨w2, g2, h3⟩ := getV_elim h2
    obtain ⟨b1, rfl, h4⟩ := asB_elim h3
    obtain ⟨w3, g3, h5⟩ := getV_elim h4
    obtain ⟨p2, n2, c2, rfl, h6⟩ := asS_elim h5
    obtain ⟨w4, g4, h7⟩ := getV_elim h6
    obtain ⟨p3, n3, c3, rfl, h8⟩ := asS_elim h7
    exact ⟨_, ⟨g1, g2, g3, g4, trivial⟩, h8⟩

def p4 : Pt St where
  env s := [(1, (.bool s.x_repeats)), (5, (.slice s.x_blocks.p s.x_blocks.n s.x_blocks.c)), (6, (.slice s.x_all.p s.x_all.n s.x_all.c)), (25, (.slice s.t25.p s.t25.n s.t25.c)), (26, (.int .i64 s.t26)), (27, (.int .i64 s.t27))]
  fin e s K := getV e 1 fun v1 => asB v1 fun b1 => getV e 5 fun v2 => asS v2 fun p1 n1 c1 => getV e 6 fun v3 => asS v3 fun p2 n2 c2 => getV e 25 fun v4 => asS v4 fun p3 n3 c3 => getV e 26 fun v5 => asI .i64 v5 fun n4 => getV e 27 fun v6 => asI .i64 v6 fun n5 => K { s with x_repeats := b1, x_blocks := ⟨p1, n1, c1⟩, x_all := ⟨p2, n2, c2⟩, t25 := ⟨p3, n3, c3⟩, t26 := n4, t27 := n5 }
  ok := by
    intro e s K h0
    obtain ⟨w1, g1, h1⟩ := getV_elim h0
    obtain ⟨b1, rfl, h2⟩ := asB_elim h1
    obtain ⟨w2, g2, h3⟩ := getV_elim h2
    obtain ⟨p1, n1, c1, rfl, h4⟩ := asS_elim h3
    obtain ⟨w3, g3, h5⟩ := getV_elim h4
    obtain ⟨p2, n2, c2, rfl, h6⟩ := asS_elim h5
    obtain ⟨w4, g4, h7⟩ := getV_elim h6
    obtain ⟨p3, n3, c3, rfl, h8⟩ := asS_elim h7
    obtain ⟨w5, g5, h9⟩ := getV_elim h8
    obtain ⟨n4, rfl, h10⟩ := asI_elim h9
    obtain ⟨w6, g6, h11⟩ := getV_elim h10
    obtain ⟨n5, rfl, h12⟩ := asI_elim h11
    exact ⟨_, ⟨g1, g2, g3, g4, g5, g6, trivial⟩, h12⟩

def p5 : Pt St where
  env s := [(5, (.slice s.x_blocks.p s.x_blocks.n s.x_blocks.c)), (6, (.slice s.x_all.p s.x_all.n s.x_all.c))]
  fin e s K := getV e 5 fun v1 => asS v1 fun p1 n1 c1 => getV e 6 fun v2 => asS v2 fun p2 n2 c2 => K { s with x_blocks := ⟨p1, n1, c1⟩, x_all := ⟨p2, n2, c2⟩ }
  ok := by
    intro e s K h0
    obtain ⟨w1, g1, h1⟩ := getV_elim h0
    obtain ⟨p1, n1, c1, rfl, h2⟩ := asS_elim h1
    obtain ⟨w2, g2, h3⟩ := getV_elim h2
    obtain ⟨p2, n2, c2, rfl, h4⟩ := asS_elim h3
    exact ⟨_, ⟨g1, g2, trivial⟩, h4⟩

def p6 : Pt St where
  env s := [(1, (.bool s.x_repeats)), (5, (.slice s.x_blocks.p s.x_blocks.n s.x_blocks.c)), (6, (.slice s.x_all.p s.x_all.n s.x_all.c)), (25, (.slice s.t25.p s.t25.n s.t25.c)), (26, (.int .i64 s.t26)), (27, (.int .i64 s.t27)), (28, (.bool s.t28))]
  fin e s K := getV e 1 fun v1 => asB v1 fun b1 => getV e 5 fun v2 => asS v2 fun p1 n1 c1 => getV e 6 fun v3 => asS v3 fun p2 n2 c2 => getV e 25 fun v4 => asS v4 fun p3 n3 c3 => getV e 26 fun v5 => asI .i64 v5 fun n4 => getV e 27 fun v6 => asI .i64 v6 fun n5 => getV e 28 fun v7 => asB v7 fun b2 => K { s with x_repeats := b1, x_blocks := ⟨p1, n1, c1⟩, x_all := ⟨p2, n2, c2⟩, t25 := ⟨p3, n3, c3⟩, t26 := n4, t27 := n5, t28 := b2 }
  ok := by
    intro e s K h0
    obtain ⟨w1, g1, h1⟩ := getV_elim h0
    obtain ⟨b1, rfl, h2⟩ := asB_elim h1
    obtain ⟨w2, g2, h3⟩ := getV_elim h2
    obtain ⟨p1, n1, c1, rfl, h4⟩ := asS_elim h3
    obtain ⟨w3, g3, h5⟩ := getV_elim h4
    obtain ⟨p2, n2, c2, rfl, h6⟩ := asS_elim h5
    obtain ⟨w4, g4, h7⟩ := getV_elim h6
    obtain ⟨p3, n3, c3, rfl, h8⟩ := asS_elim h7
    obtain ⟨w5, g5, h9⟩ := getV_elim h8
    obtain ⟨n4, rfl, h10⟩ := asI_elim h9
    obtain ⟨w6, g6, h11⟩ := getV_elim h10
    obtain ⟨n5, rfl, h12⟩ := asI_elim h11
    obtain ⟨w7, g7, h13⟩ := getV_elim h12
    obtain ⟨b2, rfl, h14⟩ := asB_elim h13
    exact ⟨_, ⟨g1, g2, g3, g4, g5, g6, g7, trivial⟩, h14⟩

def p7 : Pt St where
  env s := [(1, (.bool s.x_repeats)), (5, (.slice s.x_blocks.p s.x_blocks.n s.x_blocks.c)), (6, (.slice s.x_all.p s.x_all.n s.x_all.c)), (8, (.slice s.x_l.p s.x_l.n s.x_l.c)), (25, (.slice s.t25.p s.t25.n s.t25.c)), (26, (.int .i64 s.t26)), (27, (.int .i64 s.t27))]
  fin e s K := getV e 1 fun v1 => asB v1 fun b1 => getV e 5 fun v2 => asS v2 fun p1 n1 c1 => getV e 6 fun v3 => asS v3 fun p2 n2 c2 => getV e 8 fun v4 => asS v4 fun p3 n3 c3 => getV e 25 fun v5 => asS v5 fun p4 n4 c4 => getV e 26 fun v6 => asI .i64 v6 fun n5 => getV e 27 fun v7 => asI .i64 v7 fun n6 => K { s with x_repeats := b1, x_blocks := ⟨p1, n1, c1⟩, x_all := ⟨p2, n2, c2⟩, x_l := ⟨p3, n3, c3⟩, t25 := ⟨p4, n4, c4⟩, t26 := n5, t27 := n6 }
  ok := by
    intro e s K h0
    obtain ⟨w1, g1, h1⟩ := getV_elim h0
    obtain ⟨b1, rfl, h2⟩ := asB_elim h1
    obtain ⟨w2, g2, h3⟩ := getV_elim h2
    obtain ⟨p1, n1, c1, rfl, h4⟩ := asS_elim h3
    obtain ⟨w3, g3, h5⟩ := getV_elim h4
    obtain ⟨p2, n2, c2, rfl, h6⟩ := asS_elim h5
    obtain ⟨w4, g4, h7⟩ := getV_elim h6
    obtain ⟨p3, n3, c3, rfl, h8⟩ := asS_elim h7
    obtain ⟨w5, g5, h9⟩ := getV_elim h8
    obtain ⟨p4, n4, c4, rfl, h10⟩ := asS_elim h9
    obtain ⟨w6, g6, h11⟩ := getV_elim h10
    obtain ⟨n5, rfl, h12⟩ := asI_elim h11
    obtain ⟨w7, g7, h13⟩ := getV_elim h12
    obtain ⟨n6, rfl, h14⟩ := asI_elim h13
    exact ⟨_, ⟨g1, g2, g3, g4, g5, g6, g7, trivial⟩, h14⟩

def p8 : Pt St where
  env s := [(1, (.bool s.x_repeats)), (5, (.slice s.x_blocks.p s.x_blocks.n s.x_blocks.c)), (6, (.slice s.x_all.p s.x_all.n s.x_all.c)), (9, (.slice s.x_b.p s.x_b.n s.x_b.c)), (10, (.slice s.x_out.p s.x_out.n s.x_out.c)), (25, (.slice s.t25.p s.t25.n s.t25.c)), (26, (.int .i64 s.t26)), (27, (.int .i64 s.t27))]
  fin e s K := getV e 1 fun v1 => asB v1 fun b1 => getV e 5 fun v2 => asS v2 fun p1 n1 c1 => getV e 6 fun v3 => asS v3 fun p2 n2 c2 => getV e 9 fun v4 => asS v4 fun p3 n3 c3 => getV e 10 fun v5 => asS v5 fun p4 n4 c4 => getV e 25 fun v6 => asS v6 fun p5 n5 c5 => getV e 26 fun v7 => asI .i64 v7 fun n6 => getV e 27 fun v8 => asI .i64 v8 fun n7 => K { s with x_repeats := b1, x_blocks := ⟨p1, n1, c1⟩, x_all := ⟨p2, n2, c2⟩, x_b := ⟨p3, n3, c3⟩, x_out := ⟨p4, n4, c4⟩, t25 := ⟨p5, n5, c5⟩, t26 := n6, t27 := n7 }
  ok := by
    intro e s K h0
    obtain ⟨w1, g1, h1⟩ := getV_elim h0
    obtain ⟨b1, rfl, h2⟩ := asB_elim h1
    obtain ⟨w2, g2, h3⟩ := getV_elim h2
    obtain ⟨p1, n1, c1, rfl, h4⟩ := asS_elim h3
    obtain ⟨w3, g3, h5⟩ := getV_elim h4
    obtain ⟨p2, n2, c2, rfl, h6⟩ := asS_elim h5
    obtain ⟨w4, g4, h7⟩ := getV_elim h6
    obtain ⟨p3, n3, c3, rfl, h8⟩ := asS_elim h7
    obtain ⟨w5, g5, h9⟩ := getV_elim h8
    obtain ⟨p4, n4, c4, rfl, h10⟩ := asS_elim h9
    obtain ⟨w6, g6, h11⟩ := getV_elim h10
    obtain ⟨p5, n5, c5, rfl, h12⟩ := asS_elim h11
    obtain ⟨w7, g7, h13⟩ := getV_elim h12
    obtain ⟨n6, rfl, h14⟩ := asI_elim h13
    obtain ⟨w8, g8, h15⟩ := getV_elim h14
    obtain ⟨n7, rfl, h16⟩ := asI_elim h15
    exact ⟨_, ⟨g1, g2, g3, g4, g5, g6, g7, g8, trivial⟩, h16⟩

def p9 : Pt St where
  env s := [(1, (.bool s.x_repeats)), (5, (.slice s.x_blocks.p s.x_blocks.n s.x_blocks.c)), (6, (.slice s.x_all.p s.x_all.n s.x_all.c)), (10, (.slice s.x_out.p s.x_out.n s.x_out.c)), (25, (.slice s.t25.p s.t25.n s.t25.c)), (26, (.int .i64 s.t26)), (27, (.int .i64 s.t27))]
  fin e s K := getV e 1 fun v1 => asB v1 fun b1 => getV e 5 fun v2 => asS v2 fun p1 n1 c1 => getV e 6 fun v3 => asS v3 fun p2 n2 c2 => getV e 10 fun v4 => asS v4 fun p3 n3 c3 => getV e 25 fun v5 => asS v5 fun p4 n4 c4 => getV e 26 fun v6 => asI .i64 v6 fun n5 => getV e 27 fun v7 => asI .i64 v7 fun n6 => K { s with x_repeats := b1, x_blocks := ⟨p1, n1, c1⟩, x_all := ⟨p2, n2, c2⟩, x_out := ⟨p3, n3, c3⟩, t25 := ⟨p4, n4, c4⟩, t26 := n5, t27 := n6 }
  ok := by
    intro e s K h0
    obtain ⟨w1, g1, h1⟩ := getV_elim h0
    obtain ⟨b1, rfl, h2⟩ := asB_elim h1
    obtain ⟨w2, g2, h3⟩ := getV_elim h2
    obtain ⟨p1, n1, c1, rfl, h4⟩ := asS_elim h3
    obtain ⟨w3, g3, h5⟩ := getV_elim h4
    obtain ⟨p2, n2, c2, rfl, h6⟩ := asS_elim h5
    obtain ⟨w4, g4, h7⟩ := getV_elim h6
    obtain ⟨p3, n3, c3, rfl, h8⟩ := asS_elim h7
    obtain ⟨w5, g5, h9⟩ := getV_elim h8
    obtain ⟨p4, n4, c4, rfl, h10⟩ := asS_elim h9
    obtain ⟨w6, g6, h11⟩ := getV_elim h10
    obtain ⟨n5, rfl, h12⟩ := asI_elim h11
    obtain ⟨w7, g7, h13⟩ := getV_elim h12
    obtain ⟨n6, rfl, h14⟩ := asI_elim h13
    exact ⟨_, ⟨g1, g2, g3, g4, g5, g6, g7, trivial⟩, h14⟩

def p10 : Pt St where
  env s := [(6, (.slice s.x_all.p s.x_all.n s.x_all.c)), (11, (.slice s.x_bq11.p s.x_bq11.n s.x_bq11.c)), (12, (.bool s.x_ok))]
  fin e s K := getV e 6 fun v1 => asS v1 fun p1 n1 c1 => getV e 11 fun v2 => asS v2 fun p2 n2 c2 => getV e 12 fun v3 => asB v3 fun b1 => K { s with x_all := ⟨p1, n1, c1⟩, x_bq11 := ⟨p2, n2, c2⟩, x_ok := b1 }
  ok := by
    intro e s K h0
    obtain ⟨w1, g1, h1⟩ := getV_elim h0
    obtain ⟨p1, n1, c1, rfl, h2⟩ := asS_elim h1
    obtain ⟨w2, g2, h3⟩ := getV_elim h2
    obtain ⟨p2, n2, c2, rfl, h4⟩ := asS_elim h3
    obtain ⟨w3, g3, h5⟩ := getV_elim h4
    obtain ⟨b1, rfl, h6⟩ := asB_elim h5
    exact ⟨_, ⟨g1, g2, g3, trivial⟩, h6⟩

def p11 : Pt St where
  env s := [(6, (.slice s.x_all.p s.x_all.n s.x_all.c)), (11, (.slice s.x_bq11.p s.x_bq11.n s.x_bq11.c))]
  fin e s K := getV e 6 fun v1 => asS v1 fun p1 n1 c1 => getV e 11 fun v2 => asS v2 fun p2 n2 c2 => K { s with x_all := ⟨p1, n1, c1⟩, x_bq11 := ⟨p2, n2, c2⟩ }
  ok := by
    intro e s K h0
    obtain ⟨w1, g1, h1⟩ := getV_elim h0
    obtain ⟨p1, n1, c1, rfl, h2⟩ := asS_elim h1
    obtain ⟨w2, g2, h3⟩ := getV_elim h2
    obtain ⟨p2, n2, c2, rfl, h4⟩ := asS_elim h3
    exact ⟨_, ⟨g1, g2, trivial⟩, h4⟩

def p12 : Pt St where
  env s := [(6, (.slice s.x_all.p s.x_all.n s.x_all.c)), (12, (.bool s.x_ok)), (13, (.slice s.x_outq13.p s.x_outq13.n s.x_outq13.c))]
  fin e s K := getV e 6 fun v1 => asS v1 fun p1 n1 c1 => getV e 12 fun v2 => asB v2 fun b1 => getV e 13 fun v3 => asS v3 fun p2 n2 c2 => K { s with x_all := ⟨p1, n1, c1⟩, x_ok := b1, x_outq13 := ⟨p2, n2, c2⟩ }
  ok := by
    intro e s K h0
    obtain ⟨w1, g1, h1⟩ := getV_elim h0
    obtain ⟨p1, n1, c1, rfl, h2⟩ := asS_elim h1
    obtain ⟨w2, g2, h3⟩ := getV_elim h2
    obtain ⟨b1, rfl, h4⟩ := asB_elim h3
    obtain ⟨w3, g3, h5⟩ := getV_elim h4
    obtain ⟨p2, n2, c2, rfl, h6⟩ := asS_elim h5
    exact ⟨_, ⟨g1, g2, g3, trivial⟩, h6⟩

def r0 (s : St) (h : Heap) (Q : St → Heap → Prop) : Prop :=
  Q s h

def r1 (s : St) (h : Heap) (Q : Bool → St → Heap → Prop) : Prop :=
  c_laws_zzFits3 s.x_ls h fun b2 h1 =>
  Q (!b2) s h1

def r2 (s : St) (h : Heap) (Q : St → Heap → Prop) : Prop :=
  Q { s with t4 := true } h

def r3 (s : St) (h : Heap) (Q : Bool → St → Heap → Prop) : Prop :=
  (if (decide (((s.x_ls.n : Nat) : Int) < (1 : Int))) = false then
  (Q (decide (((s.x_ls.n : Nat) : Int) > (8 : Int))) s h)
  else
  (Q true s h))

def r4 (s : St) (h : Heap) (Q : St → Heap → Prop) : Prop :=
  Q { s with t4 := true } h

def r5 (s : St) (h : Heap) (Q : St → Heap → Prop) : Prop :=
  Q { s with x_blocks := ⟨none, 0, 0⟩ } h

def r6 (s : St) (h : Heap) (Q : St → Heap → Prop) : Prop :=
  Q { s with x_all := ⟨none, 0, 0⟩ } h

def r7 (s : St) (h : Heap) (Q : St → Heap → Prop) : Prop :=
  Q { s with t25 := s.x_ls, t26 := ((s.x_ls.n : Nat) : Int), t27 := (0 : Int) } h

def r8 (s : St) (h : Heap) (Q : St → Heap → Prop) : Prop :=
  Q { s with t28 := (decide (s.t27 < s.t26)) } h

def r9 (s : St) (h : Heap) (Q : St → Heap → Prop) : Prop :=
  0 ≤ s.t27 ∧ s.t27 < ((s.t25.n : Nat) : Int) ∧
  ptrE s.t25.p fun a1 =>
  ∃ (p2 : Option Addr) (n3 c4 : Nat), hcell h (Addr.add a1 (Int.toNat s.t27 * 1)) = some (.slice p2 n3 c4) ∧
  Q { s with x_l := ⟨p2, n3, c4⟩ } h

def r10 (s : St) (h : Heap) (Q : Bool → St → Heap → Prop) : Prop :=
  c_laws_pieces s.x_l h fun b2 h1 =>
  Q (!b2) s h1

def r11 (s : St) (h : Heap) (Q : St → Heap → Prop) : Prop :=
  Q { s with t4 := true } h

def r12 (s : St) (h : Heap) (Q : St → Heap → Prop) : Prop :=
  c_spec_S2Write s.x_l ⟨none, 0, 0⟩ (0 : Int) s.x_repeats h fun w2 w3 h1 =>
  Q { s with x_b := w2, x_out := w3 } h1

def r13 (s : St) (h : Heap) (Q : St → Heap → Prop) : Prop :=
  withH (hnew h [(.slice s.x_b.p s.x_b.n s.x_b.c)] 22) fun h1 =>
  appendT Pg 22 s.x_blocks.p s.x_blocks.n s.x_blocks.c (.slice (some ⟨Array.size h, 0, none⟩) 1 1) 1 h1 fun p2 n3 c4 h5 =>
  Q { s with x_blocks := ⟨p2, n3, c4⟩ } h5

def r14 (s : St) (h : Heap) (Q : St → Heap → Prop) : Prop :=
  appendT Pg 5 s.x_all.p s.x_all.n s.x_all.c (.slice s.x_out.p s.x_out.n s.x_out.c) s.x_out.n h fun p1 n2 c3 h4 =>
  Q { s with x_all := ⟨p1, n2, c3⟩ } h4

def r15 (s : St) (h : Heap) (Q : St → Heap → Prop) : Prop :=
  Q { s with t27 := (IntKind.wrap .i64 (s.t27 + (1 : Int))) } h

def r16 (s : St) (h : Heap) (Q : Bool → St → Heap → Prop) : Prop :=
  Q (decide (((s.x_all.n : Nat) : Int) > (1048576 : Int))) s h

def r17 (s : St) (h : Heap) (Q : St → Heap → Prop) : Prop :=
  Q { s with t4 := true } h

def r18 (s : St) (h : Heap) (Q : St → Heap → Prop) : Prop :=
  c_impl_S2Concat ⟨none, 0, 0⟩ s.x_blocks h fun w2 b3 h1 =>
  Q { s with x_bq11 := w2, x_ok := b3 } h1

def r19 (s : St) (h : Heap) (Q : Bool → St → Heap → Prop) : Prop :=
  Q (!s.x_ok) s h

def r20 (s : St) (h : Heap) (Q : St → Heap → Prop) : Prop :=
  Q { s with t4 := false } h

def r21 (s : St) (h : Heap) (Q : St → Heap → Prop) : Prop :=
  c_impl_S2Decode s.x_bq11 h fun w2 b3 h1 =>
  Q { s with x_ok := b3, x_outq13 := w2 } h1

def r22 (s : St) (h : Heap) (Q : St → Heap → Prop) : Prop :=
  (if s.x_ok = true then
  (c_laws_eq s.x_outq13 s.x_all h fun b2 h1 =>
  Q { s with t4 := b2 } h1)
  else
  (Q { s with t4 := false } h))

def k14 : Stm St := (.seq (.reg r21) (.seq (.reg r22) .ret))
def k13 : Stm St := (.seq (.test r19 (.seq (.reg r20) .ret) .skip) k14)
def k12 : Stm St := (.seq (.reg r18) k13)
def k11 : Stm St := (.seq (.test r16 (.seq (.reg r17) .ret) .skip) k12)
def k10 : Stm St := (.seq (.reg r12) (.seq (.reg r13) (.reg r14)))
def k9 : Stm St := (.seq (.test r10 (.seq (.reg r11) .ret) .skip) k10)
def k8 : Stm St := (.seq (.block 1 (.seq (.reg r9) k9)) (.reg r15))
def k7 : Stm St := (.seq (.cond (fun s => s.t28) .skip (.exit 0)) k8)
def k6 : Stm St := (.seq (.reg r8) k7)
def k5 : Stm St := (.block 0 (.loop k6))
def k4 : Stm St := (.seq (.seq (.reg r7) k5) k11)
def k3 : Stm St := (.seq (.reg r6) k4)
def k2 : Stm St := (.seq (.reg r5) k3)
def k1 : Stm St := (.seq (.test r3 (.seq (.reg r4) .ret) .skip) k2)
def k0 : Stm St := (.seq (.test r1 (.seq (.reg r2) .ret) .skip) k1)

def stm : Stm St := (.seq (.reg r0) k0)

def ex : Ex → Pt St := fun _ => p0

set_option maxRecDepth 100000 in
theorem sim : Sim Pg 69 p1 (Tryd.f6.body.getD .skip) stm p0 ex :=
  (Sim.seq (Sim.reg (A := p1) (B := p1) (fun _ _ _ => by kernel_rfl))
  (Sim.seq (Sim.test (A := p1) (B := p1) (fun _ _ _ => by kernel_rfl) (Sim.seq (Sim.reg (A := p1) (B := p0) (fun _ _ _ => by kernel_rfl))
  (Sim.ret (A := p0) (E := ex) (fun _ => ⟨rfl, trivial⟩)))
  (Sim.skip (A := p1)))
  (Sim.seq (Sim.test (A := p1) (B := p1) (fun _ _ _ => by kernel_rfl) (Sim.seq (Sim.reg (A := p1) (B := p0) (fun _ _ _ => by kernel_rfl))
  (Sim.ret (A := p0) (E := ex) (fun _ => ⟨rfl, trivial⟩)))
  (Sim.skip (A := p1)))
  (Sim.seq (Sim.reg (A := p1) (B := p2) (fun _ _ _ => by kernel_rfl))
  (Sim.seq (Sim.reg (A := p2) (B := p3) (fun _ _ _ => by kernel_rfl))
  (Sim.seq (Sim.seq (Sim.reg (A := p3) (B := p4) (fun _ _ _ => by kernel_rfl))
  (Sim.block (B := p5) (Sim.loop (A := p4) (Sim.seq (Sim.reg (A := p4) (B := p6) (fun _ _ _ => by kernel_rfl))
  (Sim.seq (Sim.cond (A := p6) (fun s => s.t28) (fun _ => rfl) (Sim.weak (B := p6) (C := p4) (Sim.skip (A := p6)) (fun _ => ⟨rfl, rfl, rfl, rfl, rfl, rfl, trivial⟩))
  (Sim.exit (A := p6) (fun _ => ⟨rfl, rfl, trivial⟩)))
  (Sim.seq (Sim.block (B := p4) (Sim.seq (Sim.reg (A := p4) (B := p7) (fun _ _ _ => by kernel_rfl))
  (Sim.seq (Sim.test (A := p7) (B := p7) (fun _ _ _ => by kernel_rfl) (Sim.seq (Sim.reg (A := p7) (B := p0) (fun _ _ _ => by kernel_rfl))
  (Sim.ret (A := p0) (E := (exAt (exAt ex 0 p5) 1 p4)) (fun _ => ⟨rfl, trivial⟩)))
  (Sim.skip (A := p7)))
  (Sim.seq (Sim.reg (A := p7) (B := p8) (fun _ _ _ => by kernel_rfl))
  (Sim.seq (Sim.reg (A := p8) (B := p9) (fun _ _ _ => by kernel_rfl))
  (Sim.reg (A := p9) (B := p4) (fun _ _ _ => by kernel_rfl)))))))
  (Sim.reg (A := p4) (B := p4) (fun _ _ _ => by kernel_rfl))))))))
  (Sim.seq (Sim.test (A := p5) (B := p5) (fun _ _ _ => by kernel_rfl) (Sim.seq (Sim.reg (A := p5) (B := p0) (fun _ _ _ => by kernel_rfl))
  (Sim.ret (A := p0) (E := ex) (fun _ => ⟨rfl, trivial⟩)))
  (Sim.skip (A := p5)))
  (Sim.seq (Sim.reg (A := p5) (B := p10) (fun _ _ _ => by kernel_rfl))
  (Sim.seq (Sim.test (A := p10) (B := p11) (fun _ _ _ => by kernel_rfl) (Sim.seq (Sim.reg (A := p11) (B := p0) (fun _ _ _ => by kernel_rfl))
  (Sim.ret (A := p0) (E := ex) (fun _ => ⟨rfl, trivial⟩)))
  (Sim.skip (A := p11)))
  (Sim.seq (Sim.reg (A := p11) (B := p12) (fun _ _ _ => by kernel_rfl))
  (Sim.seq (Sim.reg (A := p12) (B := p0) (fun _ _ _ => by kernel_rfl))
  (Sim.ret (A := p0) (E := ex) (fun _ => ⟨rfl, trivial⟩)))))))))))))

def init (x_ls : Sl) (x_repeats : Bool) : St := { x_ls := x_ls, x_repeats := x_repeats, t4 := false, x_blocks := Sl.nil, x_all := Sl.nil, x_l := Sl.nil, x_b := Sl.nil, x_out := Sl.nil, x_bq11 := Sl.nil, x_ok := false, x_outq13 := Sl.nil, t25 := Sl.nil, t26 := 0, t27 := 0, t28 := false }

/-- What is left of the results. -/
def res (K : Bool → Heap → Prop) (s : St) (h1 : Heap) : Prop := K s.t4 h1

/-- The call of 'pub-pemmican/laws.FnConcatAny'. -/
theorem calls (x_ls : Sl) (x_repeats : Bool) (h : Heap) (K : Bool → Heap → Prop)
    (H : stm (init x_ls x_repeats) h (endK (res K))) : c_laws_FnConcatAny x_ls x_repeats h K := by
  have hc : CallsH Pg 6 #[(.slice x_ls.p x_ls.n x_ls.c), (.bool x_repeats)] h fun v h1 => asB v fun b1 => K b1 h1 :=
    callsH_of_sim (R := p0) (fn := Tryd.f6) (c := Tryd.f6.body.getD .skip) Tryd.func6 rfl Tryd.ntmps6 Tryd.call6 sim (init x_ls x_repeats) (⟨rfl, rfl, trivial⟩) (Nat.le_of_ble_eq_true rfl) (fun _ => ⟨rfl, trivial⟩) rfl
      (res K) (fun _ _ => by kernel_rfl) H
  refine hc.mono ?_
  intro v hp H
  obtain ⟨b1, rfl, h1⟩ := asB_elim H
  exact ⟨_, rfl, h1⟩

end M_laws_FnConcatAny

end Go.Proofs.YtibleenkgmkpmaaDoor

