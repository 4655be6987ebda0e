/- Models of functions of the program: what each one computes, over heaps, tied to the program by one check a region. Written by a program. -/
import Derived.Test.YtibleenkgmkpmaaDoorSigs
namespace Go.Proofs.YtibleenkgmkpmaaDoor
open Go Go.Vc Go.Proofs

namespace M_Lc2

structure St where
  x_l : Option Addr
  x_dst : Sl
  x_src : Sl
  t6 : Sl
  t7 : Int
  t8 : Value
  x_s : Int
  x_d : Int
  x_res : Int
  x_sz : Int
  x_dLimit : Int
  x_lastOffset : Int
  x_uncompressed : Int
  x_token : Int
  x_ll : Int
  x_ml : Int
  x_val : Int
  x_offset : Int
  x_valq21 : Int
  x_length : Int
  x_dstq23 : Sl
  x_left : Int
  x_lengthq25 : Int
  x_dstq26 : Sl
  x_off : Int
  t55 : Int

def p0 : Pt St where
  env s := [(6, (.slice s.t6.p s.t6.n s.t6.c)), (7, (.int .i64 s.t7)), (8, s.t8)]
  fin e s K := vS e 6 fun p1 n1 c1 => vI e 7 .i64 fun n2 => getV e 8 fun v3 => K { s with t6 := ⟨p1, n1, c1⟩, t7 := n2, t8 := v3 }
  ok := by
    intro e s K h0
    obtain ⟨p1, n1, c1, g1, h2⟩ := gS h0
    obtain ⟨n2, g2, h4⟩ := gI h2
    obtain ⟨w3, g3, h5⟩ := getV_elim h4
    exact ⟨_, ⟨g1, g2, g3, trivial⟩, h5⟩

def p1 : Pt St where
  env s := [(0, (.pointer s.x_l)), (1, (.slice s.x_dst.p s.x_dst.n s.x_dst.c)), (2, (.slice s.x_src.p s.x_src.n s.x_src.c))]
  fin e s K := vP e 0 fun p1 => vS e 1 fun p2 n1 c1 => vS e 2 fun p3 n2 c2 => K { s with x_l := p1, x_dst := ⟨p2, n1, c1⟩, x_src := ⟨p3, n2, c2⟩ }
  ok := by
    intro e s K h0
    obtain ⟨p1, g1, h2⟩ := gP h0
    obtain ⟨p2, n1, c1, g2, h4⟩ := gS h2
    obtain ⟨p3, n2, c2, g3, h6⟩ := gS h4
    exact ⟨_, ⟨g1, g2, g3, trivial⟩, h6⟩

def p2 : Pt St where
  env s := [(0, (.pointer s.x_l)), (1, (.slice s.x_dst.p s.x_dst.n s.x_dst.c)), (2, (.slice s.x_src.p s.x_src.n s.x_src.c)), (9, (.int .i64 s.x_s)), (10, (.int .i64 s.x_d))]
  fin e s K := vP e 0 fun p1 => vS e 1 fun p2 n1 c1 => vS e 2 fun p3 n2 c2 => vI e 9 .i64 fun n3 => vI e 10 .i64 fun n4 => K { s with x_l := p1, x_dst := ⟨p2, n1, c1⟩, x_src := ⟨p3, n2, c2⟩, x_s := n3, x_d := n4 }
  ok := by
    intro e s K h0
    obtain ⟨p1, g1, h2⟩ := gP h0
    obtain ⟨p2, n1, c1, g2, h4⟩ := gS h2
    obtain ⟨p3, n2, c2, g3, h6⟩ := gS h4
    obtain ⟨n3, g4, h8⟩ := gI h6
    obtain ⟨n4, g5, h10⟩ := gI h8
    exact ⟨_, ⟨g1, g2, g3, g4, g5, trivial⟩, h10⟩

def p3 : Pt St where
  env s := [(1, (.slice s.x_dst.p s.x_dst.n s.x_dst.c)), (2, (.slice s.x_src.p s.x_src.n s.x_src.c)), (9, (.int .i64 s.x_s)), (10, (.int .i64 s.x_d))]
  fin e s K := vS e 1 fun p1 n1 c1 => vS e 2 fun p2 n2 c2 => vI e 9 .i64 fun n3 => vI e 10 .i64 fun n4 => K { s with x_dst := ⟨p1, n1, c1⟩, x_src := ⟨p2, n2, c2⟩, x_s := n3, x_d := n4 }
  ok := by
    intro e s K h0
    obtain ⟨p1, n1, c1, g1, h2⟩ := gS h0
    obtain ⟨p2, n2, c2, g2, h4⟩ := gS h2
    obtain ⟨n3, g3, h6⟩ := gI h4
    obtain ⟨n4, g4, h8⟩ := gI h6
    exact ⟨_, ⟨g1, g2, g3, g4, trivial⟩, h8⟩

def p4 : Pt St where
  env s := [(1, (.slice s.x_dst.p s.x_dst.n s.x_dst.c)), (10, (.int .i64 s.x_d)), (11, (.int .i64 s.x_res)), (12, (.int .i64 s.x_sz))]
  fin e s K := vS e 1 fun p1 n1 c1 => vI e 10 .i64 fun n2 => vI e 11 .i64 fun n3 => vI e 12 .i64 fun n4 => K { s with x_dst := ⟨p1, n1, c1⟩, x_d := n2, x_res := n3, x_sz := n4 }
  ok := by
    intro e s K h0
    obtain ⟨p1, n1, c1, g1, h2⟩ := gS h0
    obtain ⟨n2, g2, h4⟩ := gI h2
    obtain ⟨n3, g3, h6⟩ := gI h4
    obtain ⟨n4, g4, h8⟩ := gI h6
    exact ⟨_, ⟨g1, g2, g3, g4, trivial⟩, h8⟩

def p5 : Pt St where
  env s := [(55, (.int .i64 s.t55))]
  fin e s K := vI e 55 .i64 fun n1 => K { s with t55 := n1 }
  ok := by
    intro e s K h0
    obtain ⟨n1, g1, h2⟩ := gI h0
    exact ⟨_, ⟨g1, trivial⟩, h2⟩

def p6 : Pt St where
  env s := []
  fin e s K := K s
  ok := by
    intro e s K h0
    exact ⟨_, trivial, h0⟩

def p7 : Pt St where
  env s := [(1, (.slice s.x_dst.p s.x_dst.n s.x_dst.c)), (2, (.slice s.x_src.p s.x_src.n s.x_src.c)), (9, (.int .i64 s.x_s)), (10, (.int .i64 s.x_d)), (13, (.int .i64 s.x_dLimit))]
  fin e s K := vS e 1 fun p1 n1 c1 => vS e 2 fun p2 n2 c2 => vI e 9 .i64 fun n3 => vI e 10 .i64 fun n4 => vI e 13 .i64 fun n5 => K { s with x_dst := ⟨p1, n1, c1⟩, x_src := ⟨p2, n2, c2⟩, x_s := n3, x_d := n4, x_dLimit := n5 }
  ok := by
    intro e s K h0
    obtain ⟨p1, n1, c1, g1, h2⟩ := gS h0
    obtain ⟨p2, n2, c2, g2, h4⟩ := gS h2
    obtain ⟨n3, g3, h6⟩ := gI h4
    obtain ⟨n4, g4, h8⟩ := gI h6
    obtain ⟨n5, g5, h10⟩ := gI h8
    exact ⟨_, ⟨g1, g2, g3, g4, g5, trivial⟩, h10⟩

def p8 : Pt St where
  env s := [(1, (.slice s.x_dst.p s.x_dst.n s.x_dst.c)), (2, (.slice s.x_src.p s.x_src.n s.x_src.c)), (9, (.int .i64 s.x_s)), (10, (.int .i64 s.x_d)), (13, (.int .i64 s.x_dLimit)), (14, (.int .u16 s.x_lastOffset))]
  fin e s K := vS e 1 fun p1 n1 c1 => vS e 2 fun p2 n2 c2 => vI e 9 .i64 fun n3 => vI e 10 .i64 fun n4 => vI e 13 .i64 fun n5 => vI e 14 .u16 fun n6 => K { s with x_dst := ⟨p1, n1, c1⟩, x_src := ⟨p2, n2, c2⟩, x_s := n3, x_d := n4, x_dLimit := n5, x_lastOffset := n6 }
  ok := by
    intro e s K h0
    obtain ⟨p1, n1, c1, g1, h2⟩ := gS h0
    obtain ⟨p2, n2, c2, g2, h4⟩ := gS h2
    obtain ⟨n3, g3, h6⟩ := gI h4
    obtain ⟨n4, g4, h8⟩ := gI h6
    obtain ⟨n5, g5, h10⟩ := gI h8
    obtain ⟨n6, g6, h12⟩ := gI h10
    exact ⟨_, ⟨g1, g2, g3, g4, g5, g6, trivial⟩, h12⟩

def p9 : Pt St where
  env s := [(1, (.slice s.x_dst.p s.x_dst.n s.x_dst.c)), (2, (.slice s.x_src.p s.x_src.n s.x_src.c)), (9, (.int .i64 s.x_s)), (10, (.int .i64 s.x_d)), (13, (.int .i64 s.x_dLimit)), (14, (.int .u16 s.x_lastOffset)), (15, (.int .i64 s.x_uncompressed))]
  fin e s K := vS e 1 fun p1 n1 c1 => vS e 2 fun p2 n2 c2 => vI e 9 .i64 fun n3 => vI e 10 .i64 fun n4 => vI e 13 .i64 fun n5 => vI e 14 .u16 fun n6 => vI e 15 .i64 fun n7 => K { s with x_dst := ⟨p1, n1, c1⟩, x_src := ⟨p2, n2, c2⟩, x_s := n3, x_d := n4, x_dLimit := n5, x_lastOffset := n6, x_uncompressed := n7 }
  ok := by
    intro e s K h0
    obtain ⟨p1, n1, c1, g1, h2⟩ := gS h0
    obtain ⟨p2, n2, c2, g2, h4⟩ := gS h2
    obtain ⟨n3, g3, h6⟩ := gI h4
    obtain ⟨n4, g4, h8⟩ := gI h6
    obtain ⟨n5, g5, h10⟩ := gI h8
    obtain ⟨n6, g6, h12⟩ := gI h10
    obtain ⟨n7, g7, h14⟩ := gI h12
    exact ⟨_, ⟨g1, g2, g3, g4, g5, g6, g7, trivial⟩, h14⟩

def p10 : Pt St where
  env s := [(1, (.slice s.x_dst.p s.x_dst.n s.x_dst.c)), (10, (.int .i64 s.x_d)), (15, (.int .i64 s.x_uncompressed))]
  fin e s K := vS e 1 fun p1 n1 c1 => vI e 10 .i64 fun n2 => vI e 15 .i64 fun n3 => K { s with x_dst := ⟨p1, n1, c1⟩, x_d := n2, x_uncompressed := n3 }
  ok := by
    intro e s K h0
    obtain ⟨p1, n1, c1, g1, h2⟩ := gS h0
    obtain ⟨n2, g2, h4⟩ := gI h2
    obtain ⟨n3, g3, h6⟩ := gI h4
    exact ⟨_, ⟨g1, g2, g3, trivial⟩, h6⟩

def p11 : Pt St where
  env s := [(1, (.slice s.x_dst.p s.x_dst.n s.x_dst.c)), (2, (.slice s.x_src.p s.x_src.n s.x_src.c)), (9, (.int .i64 s.x_s)), (10, (.int .i64 s.x_d)), (13, (.int .i64 s.x_dLimit)), (14, (.int .u16 s.x_lastOffset)), (15, (.int .i64 s.x_uncompressed)), (16, (.int .u8 s.x_token))]
  fin e s K := vS e 1 fun p1 n1 c1 => vS e 2 fun p2 n2 c2 => vI e 9 .i64 fun n3 => vI e 10 .i64 fun n4 => vI e 13 .i64 fun n5 => vI e 14 .u16 fun n6 => vI e 15 .i64 fun n7 => vI e 16 .u8 fun n8 => K { s with x_dst := ⟨p1, n1, c1⟩, x_src := ⟨p2, n2, c2⟩, x_s := n3, x_d := n4, x_dLimit := n5, x_lastOffset := n6, x_uncompressed := n7, x_token := n8 }
  ok := by
    intro e s K h0
    obtain ⟨p1, n1, c1, g1, h2⟩ := gS h0
    obtain ⟨p2, n2, c2, g2, h4⟩ := gS h2
    obtain ⟨n3, g3, h6⟩ := gI h4
    obtain ⟨n4, g4, h8⟩ := gI h6
    obtain ⟨n5, g5, h10⟩ := gI h8
    obtain ⟨n6, g6, h12⟩ := gI h10
    obtain ⟨n7, g7, h14⟩ := gI h12
    obtain ⟨n8, g8, h16⟩ := gI h14
    exact ⟨_, ⟨g1, g2, g3, g4, g5, g6, g7, g8, trivial⟩, h16⟩

def p12 : Pt St where
  env s := [(1, (.slice s.x_dst.p s.x_dst.n s.x_dst.c)), (2, (.slice s.x_src.p s.x_src.n s.x_src.c)), (9, (.int .i64 s.x_s)), (10, (.int .i64 s.x_d)), (13, (.int .i64 s.x_dLimit)), (14, (.int .u16 s.x_lastOffset)), (15, (.int .i64 s.x_uncompressed)), (16, (.int .u8 s.x_token)), (17, (.int .i64 s.x_ll))]
  fin e s K := vS e 1 fun p1 n1 c1 => vS e 2 fun p2 n2 c2 => vI e 9 .i64 fun n3 => vI e 10 .i64 fun n4 => vI e 13 .i64 fun n5 => vI e 14 .u16 fun n6 => vI e 15 .i64 fun n7 => vI e 16 .u8 fun n8 => vI e 17 .i64 fun n9 => K { s with x_dst := ⟨p1, n1, c1⟩, x_src := ⟨p2, n2, c2⟩, x_s := n3, x_d := n4, x_dLimit := n5, x_lastOffset := n6, x_uncompressed := n7, x_token := n8, x_ll := n9 }
  ok := by
    intro e s K h0
    obtain ⟨p1, n1, c1, g1, h2⟩ := gS h0
    obtain ⟨p2, n2, c2, g2, h4⟩ := gS h2
    obtain ⟨n3, g3, h6⟩ := gI h4
    obtain ⟨n4, g4, h8⟩ := gI h6
    obtain ⟨n5, g5, h10⟩ := gI h8
    obtain ⟨n6, g6, h12⟩ := gI h10
    obtain ⟨n7, g7, h14⟩ := gI h12
    obtain ⟨n8, g8, h16⟩ := gI h14
    obtain ⟨n9, g9, h18⟩ := gI h16
    exact ⟨_, ⟨g1, g2, g3, g4, g5, g6, g7, g8, g9, trivial⟩, h18⟩

def p13 : Pt St where
  env s := [(1, (.slice s.x_dst.p s.x_dst.n s.x_dst.c)), (2, (.slice s.x_src.p s.x_src.n s.x_src.c)), (9, (.int .i64 s.x_s)), (10, (.int .i64 s.x_d)), (13, (.int .i64 s.x_dLimit)), (14, (.int .u16 s.x_lastOffset)), (15, (.int .i64 s.x_uncompressed)), (16, (.int .u8 s.x_token)), (17, (.int .i64 s.x_ll)), (18, (.int .i64 s.x_ml))]
  fin e s K := vS e 1 fun p1 n1 c1 => vS e 2 fun p2 n2 c2 => vI e 9 .i64 fun n3 => vI e 10 .i64 fun n4 => vI e 13 .i64 fun n5 => vI e 14 .u16 fun n6 => vI e 15 .i64 fun n7 => vI e 16 .u8 fun n8 => vI e 17 .i64 fun n9 => vI e 18 .i64 fun n10 => K { s with x_dst := ⟨p1, n1, c1⟩, x_src := ⟨p2, n2, c2⟩, x_s := n3, x_d := n4, x_dLimit := n5, x_lastOffset := n6, x_uncompressed := n7, x_token := n8, x_ll := n9, x_ml := n10 }
  ok := by
    intro e s K h0
    obtain ⟨p1, n1, c1, g1, h2⟩ := gS h0
    obtain ⟨p2, n2, c2, g2, h4⟩ := gS h2
    obtain ⟨n3, g3, h6⟩ := gI h4
    obtain ⟨n4, g4, h8⟩ := gI h6
    obtain ⟨n5, g5, h10⟩ := gI h8
    obtain ⟨n6, g6, h12⟩ := gI h10
    obtain ⟨n7, g7, h14⟩ := gI h12
    obtain ⟨n8, g8, h16⟩ := gI h14
    obtain ⟨n9, g9, h18⟩ := gI h16
    obtain ⟨n10, g10, h20⟩ := gI h18
    exact ⟨_, ⟨g1, g2, g3, g4, g5, g6, g7, g8, g9, g10, trivial⟩, h20⟩

def p14 : Pt St where
  env s := [(1, (.slice s.x_dst.p s.x_dst.n s.x_dst.c)), (2, (.slice s.x_src.p s.x_src.n s.x_src.c)), (9, (.int .i64 s.x_s)), (10, (.int .i64 s.x_d)), (13, (.int .i64 s.x_dLimit)), (14, (.int .u16 s.x_lastOffset)), (15, (.int .i64 s.x_uncompressed)), (17, (.int .i64 s.x_ll)), (18, (.int .i64 s.x_ml))]
  fin e s K := vS e 1 fun p1 n1 c1 => vS e 2 fun p2 n2 c2 => vI e 9 .i64 fun n3 => vI e 10 .i64 fun n4 => vI e 13 .i64 fun n5 => vI e 14 .u16 fun n6 => vI e 15 .i64 fun n7 => vI e 17 .i64 fun n8 => vI e 18 .i64 fun n9 => K { s with x_dst := ⟨p1, n1, c1⟩, x_src := ⟨p2, n2, c2⟩, x_s := n3, x_d := n4, x_dLimit := n5, x_lastOffset := n6, x_uncompressed := n7, x_ll := n8, x_ml := n9 }
  ok := by
    intro e s K h0
    obtain ⟨p1, n1, c1, g1, h2⟩ := gS h0
    obtain ⟨p2, n2, c2, g2, h4⟩ := gS h2
    obtain ⟨n3, g3, h6⟩ := gI h4
    obtain ⟨n4, g4, h8⟩ := gI h6
    obtain ⟨n5, g5, h10⟩ := gI h8
    obtain ⟨n6, g6, h12⟩ := gI h10
    obtain ⟨n7, g7, h14⟩ := gI h12
    obtain ⟨n8, g8, h16⟩ := gI h14
    obtain ⟨n9, g9, h18⟩ := gI h16
    exact ⟨_, ⟨g1, g2, g3, g4, g5, g6, g7, g8, g9, trivial⟩, h18⟩

def p15 : Pt St where
  env s := [(1, (.slice s.x_dst.p s.x_dst.n s.x_dst.c)), (2, (.slice s.x_src.p s.x_src.n s.x_src.c)), (9, (.int .i64 s.x_s)), (10, (.int .i64 s.x_d)), (13, (.int .i64 s.x_dLimit)), (14, (.int .u16 s.x_lastOffset)), (15, (.int .i64 s.x_uncompressed)), (17, (.int .i64 s.x_ll)), (18, (.int .i64 s.x_ml)), (19, (.int .u8 s.x_val))]
  fin e s K := vS e 1 fun p1 n1 c1 => vS e 2 fun p2 n2 c2 => vI e 9 .i64 fun n3 => vI e 10 .i64 fun n4 => vI e 13 .i64 fun n5 => vI e 14 .u16 fun n6 => vI e 15 .i64 fun n7 => vI e 17 .i64 fun n8 => vI e 18 .i64 fun n9 => vI e 19 .u8 fun n10 => K { s with x_dst := ⟨p1, n1, c1⟩, x_src := ⟨p2, n2, c2⟩, x_s := n3, x_d := n4, x_dLimit := n5, x_lastOffset := n6, x_uncompressed := n7, x_ll := n8, x_ml := n9, x_val := n10 }
  ok := by
    intro e s K h0
    obtain ⟨p1, n1, c1, g1, h2⟩ := gS h0
    obtain ⟨p2, n2, c2, g2, h4⟩ := gS h2
    obtain ⟨n3, g3, h6⟩ := gI h4
    obtain ⟨n4, g4, h8⟩ := gI h6
    obtain ⟨n5, g5, h10⟩ := gI h8
    obtain ⟨n6, g6, h12⟩ := gI h10
    obtain ⟨n7, g7, h14⟩ := gI h12
    obtain ⟨n8, g8, h16⟩ := gI h14
    obtain ⟨n9, g9, h18⟩ := gI h16
    obtain ⟨n10, g10, h20⟩ := gI h18
    exact ⟨_, ⟨g1, g2, g3, g4, g5, g6, g7, g8, g9, g10, trivial⟩, h20⟩

def p16 : Pt St where
  env s := [(1, (.slice s.x_dst.p s.x_dst.n s.x_dst.c)), (2, (.slice s.x_src.p s.x_src.n s.x_src.c)), (9, (.int .i64 s.x_s)), (10, (.int .i64 s.x_d)), (13, (.int .i64 s.x_dLimit)), (14, (.int .u16 s.x_lastOffset)), (15, (.int .i64 s.x_uncompressed)), (18, (.int .i64 s.x_ml))]
  fin e s K := vS e 1 fun p1 n1 c1 => vS e 2 fun p2 n2 c2 => vI e 9 .i64 fun n3 => vI e 10 .i64 fun n4 => vI e 13 .i64 fun n5 => vI e 14 .u16 fun n6 => vI e 15 .i64 fun n7 => vI e 18 .i64 fun n8 => K { s with x_dst := ⟨p1, n1, c1⟩, x_src := ⟨p2, n2, c2⟩, x_s := n3, x_d := n4, x_dLimit := n5, x_lastOffset := n6, x_uncompressed := n7, x_ml := n8 }
  ok := by
    intro e s K h0
    obtain ⟨p1, n1, c1, g1, h2⟩ := gS h0
    obtain ⟨p2, n2, c2, g2, h4⟩ := gS h2
    obtain ⟨n3, g3, h6⟩ := gI h4
    obtain ⟨n4, g4, h8⟩ := gI h6
    obtain ⟨n5, g5, h10⟩ := gI h8
    obtain ⟨n6, g6, h12⟩ := gI h10
    obtain ⟨n7, g7, h14⟩ := gI h12
    obtain ⟨n8, g8, h16⟩ := gI h14
    exact ⟨_, ⟨g1, g2, g3, g4, g5, g6, g7, g8, trivial⟩, h16⟩

def p17 : Pt St where
  env s := [(1, (.slice s.x_dst.p s.x_dst.n s.x_dst.c)), (2, (.slice s.x_src.p s.x_src.n s.x_src.c)), (9, (.int .i64 s.x_s)), (10, (.int .i64 s.x_d)), (13, (.int .i64 s.x_dLimit)), (14, (.int .u16 s.x_lastOffset)), (15, (.int .i64 s.x_uncompressed)), (18, (.int .i64 s.x_ml)), (20, (.int .u16 s.x_offset))]
  fin e s K := vS e 1 fun p1 n1 c1 => vS e 2 fun p2 n2 c2 => vI e 9 .i64 fun n3 => vI e 10 .i64 fun n4 => vI e 13 .i64 fun n5 => vI e 14 .u16 fun n6 => vI e 15 .i64 fun n7 => vI e 18 .i64 fun n8 => vI e 20 .u16 fun n9 => K { s with x_dst := ⟨p1, n1, c1⟩, x_src := ⟨p2, n2, c2⟩, x_s := n3, x_d := n4, x_dLimit := n5, x_lastOffset := n6, x_uncompressed := n7, x_ml := n8, x_offset := n9 }
  ok := by
    intro e s K h0
    obtain ⟨p1, n1, c1, g1, h2⟩ := gS h0
    obtain ⟨p2, n2, c2, g2, h4⟩ := gS h2
    obtain ⟨n3, g3, h6⟩ := gI h4
    obtain ⟨n4, g4, h8⟩ := gI h6
    obtain ⟨n5, g5, h10⟩ := gI h8
    obtain ⟨n6, g6, h12⟩ := gI h10
    obtain ⟨n7, g7, h14⟩ := gI h12
    obtain ⟨n8, g8, h16⟩ := gI h14
    obtain ⟨n9, g9, h18⟩ := gI h16
    exact ⟨_, ⟨g1, g2, g3, g4, g5, g6, g7, g8, g9, trivial⟩, h18⟩

def p18 : Pt St where
  env s := [(1, (.slice s.x_dst.p s.x_dst.n s.x_dst.c)), (2, (.slice s.x_src.p s.x_src.n s.x_src.c)), (9, (.int .i64 s.x_s)), (10, (.int .i64 s.x_d)), (13, (.int .i64 s.x_dLimit)), (14, (.int .u16 s.x_lastOffset)), (15, (.int .i64 s.x_uncompressed)), (18, (.int .i64 s.x_ml)), (20, (.int .u16 s.x_offset)), (21, (.int .u8 s.x_valq21))]
  fin e s K := vS e 1 fun p1 n1 c1 => vS e 2 fun p2 n2 c2 => vI e 9 .i64 fun n3 => vI e 10 .i64 fun n4 => vI e 13 .i64 fun n5 => vI e 14 .u16 fun n6 => vI e 15 .i64 fun n7 => vI e 18 .i64 fun n8 => vI e 20 .u16 fun n9 => vI e 21 .u8 fun n10 => K { s with x_dst := ⟨p1, n1, c1⟩, x_src := ⟨p2, n2, c2⟩, x_s := n3, x_d := n4, x_dLimit := n5, x_lastOffset := n6, x_uncompressed := n7, x_ml := n8, x_offset := n9, x_valq21 := n10 }
  ok := by
    intro e s K h0
    obtain ⟨p1, n1, c1, g1, h2⟩ := gS h0
    obtain ⟨p2, n2, c2, g2, h4⟩ := gS h2
    obtain ⟨n3, g3, h6⟩ := gI h4
    obtain ⟨n4, g4, h8⟩ := gI h6
    obtain ⟨n5, g5, h10⟩ := gI h8
    obtain ⟨n6, g6, h12⟩ := gI h10
    obtain ⟨n7, g7, h14⟩ := gI h12
    obtain ⟨n8, g8, h16⟩ := gI h14
    obtain ⟨n9, g9, h18⟩ := gI h16
    obtain ⟨n10, g10, h20⟩ := gI h18
    exact ⟨_, ⟨g1, g2, g3, g4, g5, g6, g7, g8, g9, g10, trivial⟩, h20⟩

def p19 : Pt St where
  env s := [(1, (.slice s.x_dst.p s.x_dst.n s.x_dst.c)), (2, (.slice s.x_src.p s.x_src.n s.x_src.c)), (9, (.int .i64 s.x_s)), (10, (.int .i64 s.x_d)), (13, (.int .i64 s.x_dLimit)), (14, (.int .u16 s.x_lastOffset)), (15, (.int .i64 s.x_uncompressed)), (18, (.int .i64 s.x_ml)), (20, (.int .u16 s.x_offset)), (22, (.int .i64 s.x_length))]
  fin e s K := vS e 1 fun p1 n1 c1 => vS e 2 fun p2 n2 c2 => vI e 9 .i64 fun n3 => vI e 10 .i64 fun n4 => vI e 13 .i64 fun n5 => vI e 14 .u16 fun n6 => vI e 15 .i64 fun n7 => vI e 18 .i64 fun n8 => vI e 20 .u16 fun n9 => vI e 22 .i64 fun n10 => K { s with x_dst := ⟨p1, n1, c1⟩, x_src := ⟨p2, n2, c2⟩, x_s := n3, x_d := n4, x_dLimit := n5, x_lastOffset := n6, x_uncompressed := n7, x_ml := n8, x_offset := n9, x_length := n10 }
  ok := by
    intro e s K h0
    obtain ⟨p1, n1, c1, g1, h2⟩ := gS h0
    obtain ⟨p2, n2, c2, g2, h4⟩ := gS h2
    obtain ⟨n3, g3, h6⟩ := gI h4
    obtain ⟨n4, g4, h8⟩ := gI h6
    obtain ⟨n5, g5, h10⟩ := gI h8
    obtain ⟨n6, g6, h12⟩ := gI h10
    obtain ⟨n7, g7, h14⟩ := gI h12
    obtain ⟨n8, g8, h16⟩ := gI h14
    obtain ⟨n9, g9, h18⟩ := gI h16
    obtain ⟨n10, g10, h20⟩ := gI h18
    exact ⟨_, ⟨g1, g2, g3, g4, g5, g6, g7, g8, g9, g10, trivial⟩, h20⟩

def p20 : Pt St where
  env s := [(1, (.slice s.x_dst.p s.x_dst.n s.x_dst.c)), (2, (.slice s.x_src.p s.x_src.n s.x_src.c)), (9, (.int .i64 s.x_s)), (10, (.int .i64 s.x_d)), (13, (.int .i64 s.x_dLimit)), (14, (.int .u16 s.x_lastOffset)), (15, (.int .i64 s.x_uncompressed)), (18, (.int .i64 s.x_ml)), (20, (.int .u16 s.x_offset)), (22, (.int .i64 s.x_length)), (23, (.slice s.x_dstq23.p s.x_dstq23.n s.x_dstq23.c))]
  fin e s K := vS e 1 fun p1 n1 c1 => vS e 2 fun p2 n2 c2 => vI e 9 .i64 fun n3 => vI e 10 .i64 fun n4 => vI e 13 .i64 fun n5 => vI e 14 .u16 fun n6 => vI e 15 .i64 fun n7 => vI e 18 .i64 fun n8 => vI e 20 .u16 fun n9 => vI e 22 .i64 fun n10 => vS e 23 fun p3 n11 c3 => K { s with x_dst := ⟨p1, n1, c1⟩, x_src := ⟨p2, n2, c2⟩, x_s := n3, x_d := n4, x_dLimit := n5, x_lastOffset := n6, x_uncompressed := n7, x_ml := n8, x_offset := n9, x_length := n10, x_dstq23 := ⟨p3, n11, c3⟩ }
  ok := by
    intro e s K h0
    obtain ⟨p1, n1, c1, g1, h2⟩ := gS h0
    obtain ⟨p2, n2, c2, g2, h4⟩ := gS h2
    obtain ⟨n3, g3, h6⟩ := gI h4
    obtain ⟨n4, g4, h8⟩ := gI h6
    obtain ⟨n5, g5, h10⟩ := gI h8
    obtain ⟨n6, g6, h12⟩ := gI h10
    obtain ⟨n7, g7, h14⟩ := gI h12
    obtain ⟨n8, g8, h16⟩ := gI h14
    obtain ⟨n9, g9, h18⟩ := gI h16
    obtain ⟨n10, g10, h20⟩ := gI h18
    obtain ⟨p3, n11, c3, g11, h22⟩ := gS h20
    exact ⟨_, ⟨g1, g2, g3, g4, g5, g6, g7, g8, g9, g10, g11, trivial⟩, h22⟩

def p21 : Pt St where
  env s := [(1, (.slice s.x_dst.p s.x_dst.n s.x_dst.c)), (2, (.slice s.x_src.p s.x_src.n s.x_src.c)), (9, (.int .i64 s.x_s)), (10, (.int .i64 s.x_d)), (13, (.int .i64 s.x_dLimit)), (14, (.int .u16 s.x_lastOffset)), (15, (.int .i64 s.x_uncompressed)), (18, (.int .i64 s.x_ml)), (23, (.slice s.x_dstq23.p s.x_dstq23.n s.x_dstq23.c))]
  fin e s K := vS e 1 fun p1 n1 c1 => vS e 2 fun p2 n2 c2 => vI e 9 .i64 fun n3 => vI e 10 .i64 fun n4 => vI e 13 .i64 fun n5 => vI e 14 .u16 fun n6 => vI e 15 .i64 fun n7 => vI e 18 .i64 fun n8 => vS e 23 fun p3 n9 c3 => K { s with x_dst := ⟨p1, n1, c1⟩, x_src := ⟨p2, n2, c2⟩, x_s := n3, x_d := n4, x_dLimit := n5, x_lastOffset := n6, x_uncompressed := n7, x_ml := n8, x_dstq23 := ⟨p3, n9, c3⟩ }
  ok := by
    intro e s K h0
    obtain ⟨p1, n1, c1, g1, h2⟩ := gS h0
    obtain ⟨p2, n2, c2, g2, h4⟩ := gS h2
    obtain ⟨n3, g3, h6⟩ := gI h4
    obtain ⟨n4, g4, h8⟩ := gI h6
    obtain ⟨n5, g5, h10⟩ := gI h8
    obtain ⟨n6, g6, h12⟩ := gI h10
    obtain ⟨n7, g7, h14⟩ := gI h12
    obtain ⟨n8, g8, h16⟩ := gI h14
    obtain ⟨p3, n9, c3, g9, h18⟩ := gS h16
    exact ⟨_, ⟨g1, g2, g3, g4, g5, g6, g7, g8, g9, trivial⟩, h18⟩

def p22 : Pt St where
  env s := [(1, (.slice s.x_dst.p s.x_dst.n s.x_dst.c)), (2, (.slice s.x_src.p s.x_src.n s.x_src.c)), (9, (.int .i64 s.x_s)), (10, (.int .i64 s.x_d)), (13, (.int .i64 s.x_dLimit)), (14, (.int .u16 s.x_lastOffset)), (15, (.int .i64 s.x_uncompressed)), (18, (.int .i64 s.x_ml)), (22, (.int .i64 s.x_length)), (23, (.slice s.x_dstq23.p s.x_dstq23.n s.x_dstq23.c))]
  fin e s K := vS e 1 fun p1 n1 c1 => vS e 2 fun p2 n2 c2 => vI e 9 .i64 fun n3 => vI e 10 .i64 fun n4 => vI e 13 .i64 fun n5 => vI e 14 .u16 fun n6 => vI e 15 .i64 fun n7 => vI e 18 .i64 fun n8 => vI e 22 .i64 fun n9 => vS e 23 fun p3 n10 c3 => K { s with x_dst := ⟨p1, n1, c1⟩, x_src := ⟨p2, n2, c2⟩, x_s := n3, x_d := n4, x_dLimit := n5, x_lastOffset := n6, x_uncompressed := n7, x_ml := n8, x_length := n9, x_dstq23 := ⟨p3, n10, c3⟩ }
  ok := by
    intro e s K h0
    obtain ⟨p1, n1, c1, g1, h2⟩ := gS h0
    obtain ⟨p2, n2, c2, g2, h4⟩ := gS h2
    obtain ⟨n3, g3, h6⟩ := gI h4
    obtain ⟨n4, g4, h8⟩ := gI h6
    obtain ⟨n5, g5, h10⟩ := gI h8
    obtain ⟨n6, g6, h12⟩ := gI h10
    obtain ⟨n7, g7, h14⟩ := gI h12
    obtain ⟨n8, g8, h16⟩ := gI h14
    obtain ⟨n9, g9, h18⟩ := gI h16
    obtain ⟨p3, n10, c3, g10, h20⟩ := gS h18
    exact ⟨_, ⟨g1, g2, g3, g4, g5, g6, g7, g8, g9, g10, trivial⟩, h20⟩

def p23 : Pt St where
  env s := [(1, (.slice s.x_dst.p s.x_dst.n s.x_dst.c)), (2, (.slice s.x_src.p s.x_src.n s.x_src.c)), (9, (.int .i64 s.x_s)), (10, (.int .i64 s.x_d)), (13, (.int .i64 s.x_dLimit)), (14, (.int .u16 s.x_lastOffset)), (15, (.int .i64 s.x_uncompressed)), (18, (.int .i64 s.x_ml)), (20, (.int .u16 s.x_offset)), (22, (.int .i64 s.x_length)), (23, (.slice s.x_dstq23.p s.x_dstq23.n s.x_dstq23.c)), (24, (.int .i64 s.x_left))]
  fin e s K := vS e 1 fun p1 n1 c1 => vS e 2 fun p2 n2 c2 => vI e 9 .i64 fun n3 => vI e 10 .i64 fun n4 => vI e 13 .i64 fun n5 => vI e 14 .u16 fun n6 => vI e 15 .i64 fun n7 => vI e 18 .i64 fun n8 => vI e 20 .u16 fun n9 => vI e 22 .i64 fun n10 => vS e 23 fun p3 n11 c3 => vI e 24 .i64 fun n12 => K { s with x_dst := ⟨p1, n1, c1⟩, x_src := ⟨p2, n2, c2⟩, x_s := n3, x_d := n4, x_dLimit := n5, x_lastOffset := n6, x_uncompressed := n7, x_ml := n8, x_offset := n9, x_length := n10, x_dstq23 := ⟨p3, n11, c3⟩, x_left := n12 }
  ok := by
    intro e s K h0
    obtain ⟨p1, n1, c1, g1, h2⟩ := gS h0
    obtain ⟨p2, n2, c2, g2, h4⟩ := gS h2
    obtain ⟨n3, g3, h6⟩ := gI h4
    obtain ⟨n4, g4, h8⟩ := gI h6
    obtain ⟨n5, g5, h10⟩ := gI h8
    obtain ⟨n6, g6, h12⟩ := gI h10
    obtain ⟨n7, g7, h14⟩ := gI h12
    obtain ⟨n8, g8, h16⟩ := gI h14
    obtain ⟨n9, g9, h18⟩ := gI h16
    obtain ⟨n10, g10, h20⟩ := gI h18
    obtain ⟨p3, n11, c3, g11, h22⟩ := gS h20
    obtain ⟨n12, g12, h24⟩ := gI h22
    exact ⟨_, ⟨g1, g2, g3, g4, g5, g6, g7, g8, g9, g10, g11, g12, trivial⟩, h24⟩

def p24 : Pt St where
  env s := [(1, (.slice s.x_dst.p s.x_dst.n s.x_dst.c)), (2, (.slice s.x_src.p s.x_src.n s.x_src.c)), (9, (.int .i64 s.x_s)), (10, (.int .i64 s.x_d)), (13, (.int .i64 s.x_dLimit)), (14, (.int .u16 s.x_lastOffset)), (15, (.int .i64 s.x_uncompressed)), (18, (.int .i64 s.x_ml)), (20, (.int .u16 s.x_offset)), (23, (.slice s.x_dstq23.p s.x_dstq23.n s.x_dstq23.c)), (24, (.int .i64 s.x_left))]
  fin e s K := vS e 1 fun p1 n1 c1 => vS e 2 fun p2 n2 c2 => vI e 9 .i64 fun n3 => vI e 10 .i64 fun n4 => vI e 13 .i64 fun n5 => vI e 14 .u16 fun n6 => vI e 15 .i64 fun n7 => vI e 18 .i64 fun n8 => vI e 20 .u16 fun n9 => vS e 23 fun p3 n10 c3 => vI e 24 .i64 fun n11 => K { s with x_dst := ⟨p1, n1, c1⟩, x_src := ⟨p2, n2, c2⟩, x_s := n3, x_d := n4, x_dLimit := n5, x_lastOffset := n6, x_uncompressed := n7, x_ml := n8, x_offset := n9, x_dstq23 := ⟨p3, n10, c3⟩, x_left := n11 }
  ok := by
    intro e s K h0
    obtain ⟨p1, n1, c1, g1, h2⟩ := gS h0
    obtain ⟨p2, n2, c2, g2, h4⟩ := gS h2
    obtain ⟨n3, g3, h6⟩ := gI h4
    obtain ⟨n4, g4, h8⟩ := gI h6
    obtain ⟨n5, g5, h10⟩ := gI h8
    obtain ⟨n6, g6, h12⟩ := gI h10
    obtain ⟨n7, g7, h14⟩ := gI h12
    obtain ⟨n8, g8, h16⟩ := gI h14
    obtain ⟨n9, g9, h18⟩ := gI h16
    obtain ⟨p3, n10, c3, g10, h20⟩ := gS h18
    obtain ⟨n11, g11, h22⟩ := gI h20
    exact ⟨_, ⟨g1, g2, g3, g4, g5, g6, g7, g8, g9, g10, g11, trivial⟩, h22⟩

def p25 : Pt St where
  env s := [(1, (.slice s.x_dst.p s.x_dst.n s.x_dst.c)), (2, (.slice s.x_src.p s.x_src.n s.x_src.c)), (9, (.int .i64 s.x_s)), (10, (.int .i64 s.x_d)), (13, (.int .i64 s.x_dLimit)), (15, (.int .i64 s.x_uncompressed)), (18, (.int .i64 s.x_ml)), (20, (.int .u16 s.x_offset))]
  fin e s K := vS e 1 fun p1 n1 c1 => vS e 2 fun p2 n2 c2 => vI e 9 .i64 fun n3 => vI e 10 .i64 fun n4 => vI e 13 .i64 fun n5 => vI e 15 .i64 fun n6 => vI e 18 .i64 fun n7 => vI e 20 .u16 fun n8 => K { s with x_dst := ⟨p1, n1, c1⟩, x_src := ⟨p2, n2, c2⟩, x_s := n3, x_d := n4, x_dLimit := n5, x_uncompressed := n6, x_ml := n7, x_offset := n8 }
  ok := by
    intro e s K h0
    obtain ⟨p1, n1, c1, g1, h2⟩ := gS h0
    obtain ⟨p2, n2, c2, g2, h4⟩ := gS h2
    obtain ⟨n3, g3, h6⟩ := gI h4
    obtain ⟨n4, g4, h8⟩ := gI h6
    obtain ⟨n5, g5, h10⟩ := gI h8
    obtain ⟨n6, g6, h12⟩ := gI h10
    obtain ⟨n7, g7, h14⟩ := gI h12
    obtain ⟨n8, g8, h16⟩ := gI h14
    exact ⟨_, ⟨g1, g2, g3, g4, g5, g6, g7, g8, trivial⟩, h16⟩

def p26 : Pt St where
  env s := [(1, (.slice s.x_dst.p s.x_dst.n s.x_dst.c)), (2, (.slice s.x_src.p s.x_src.n s.x_src.c)), (9, (.int .i64 s.x_s)), (10, (.int .i64 s.x_d)), (13, (.int .i64 s.x_dLimit)), (15, (.int .i64 s.x_uncompressed)), (18, (.int .i64 s.x_ml)), (20, (.int .u16 s.x_offset)), (25, (.int .i64 s.x_lengthq25))]
  fin e s K := vS e 1 fun p1 n1 c1 => vS e 2 fun p2 n2 c2 => vI e 9 .i64 fun n3 => vI e 10 .i64 fun n4 => vI e 13 .i64 fun n5 => vI e 15 .i64 fun n6 => vI e 18 .i64 fun n7 => vI e 20 .u16 fun n8 => vI e 25 .i64 fun n9 => K { s with x_dst := ⟨p1, n1, c1⟩, x_src := ⟨p2, n2, c2⟩, x_s := n3, x_d := n4, x_dLimit := n5, x_uncompressed := n6, x_ml := n7, x_offset := n8, x_lengthq25 := n9 }
  ok := by
    intro e s K h0
    obtain ⟨p1, n1, c1, g1, h2⟩ := gS h0
    obtain ⟨p2, n2, c2, g2, h4⟩ := gS h2
    obtain ⟨n3, g3, h6⟩ := gI h4
    obtain ⟨n4, g4, h8⟩ := gI h6
    obtain ⟨n5, g5, h10⟩ := gI h8
    obtain ⟨n6, g6, h12⟩ := gI h10
    obtain ⟨n7, g7, h14⟩ := gI h12
    obtain ⟨n8, g8, h16⟩ := gI h14
    obtain ⟨n9, g9, h18⟩ := gI h16
    exact ⟨_, ⟨g1, g2, g3, g4, g5, g6, g7, g8, g9, trivial⟩, h18⟩

def p27 : Pt St where
  env s := [(1, (.slice s.x_dst.p s.x_dst.n s.x_dst.c)), (2, (.slice s.x_src.p s.x_src.n s.x_src.c)), (9, (.int .i64 s.x_s)), (10, (.int .i64 s.x_d)), (13, (.int .i64 s.x_dLimit)), (15, (.int .i64 s.x_uncompressed)), (18, (.int .i64 s.x_ml)), (20, (.int .u16 s.x_offset)), (25, (.int .i64 s.x_lengthq25)), (26, (.slice s.x_dstq26.p s.x_dstq26.n s.x_dstq26.c))]
  fin e s K := vS e 1 fun p1 n1 c1 => vS e 2 fun p2 n2 c2 => vI e 9 .i64 fun n3 => vI e 10 .i64 fun n4 => vI e 13 .i64 fun n5 => vI e 15 .i64 fun n6 => vI e 18 .i64 fun n7 => vI e 20 .u16 fun n8 => vI e 25 .i64 fun n9 => vS e 26 fun p3 n10 c3 => K { s with x_dst := ⟨p1, n1, c1⟩, x_src := ⟨p2, n2, c2⟩, x_s := n3, x_d := n4, x_dLimit := n5, x_uncompressed := n6, x_ml := n7, x_offset := n8, x_lengthq25 := n9, x_dstq26 := ⟨p3, n10, c3⟩ }
  ok := by
    intro e s K h0
    obtain ⟨p1, n1, c1, g1, h2⟩ := gS h0
    obtain ⟨p2, n2, c2, g2, h4⟩ := gS h2
    obtain ⟨n3, g3, h6⟩ := gI h4
    obtain ⟨n4, g4, h8⟩ := gI h6
    obtain ⟨n5, g5, h10⟩ := gI h8
    obtain ⟨n6, g6, h12⟩ := gI h10
    obtain ⟨n7, g7, h14⟩ := gI h12
    obtain ⟨n8, g8, h16⟩ := gI h14
    obtain ⟨n9, g9, h18⟩ := gI h16
    obtain ⟨p3, n10, c3, g10, h20⟩ := gS h18
    exact ⟨_, ⟨g1, g2, g3, g4, g5, g6, g7, g8, g9, g10, trivial⟩, h20⟩

def p28 : Pt St where
  env s := [(1, (.slice s.x_dst.p s.x_dst.n s.x_dst.c)), (2, (.slice s.x_src.p s.x_src.n s.x_src.c)), (9, (.int .i64 s.x_s)), (10, (.int .i64 s.x_d)), (13, (.int .i64 s.x_dLimit)), (15, (.int .i64 s.x_uncompressed)), (18, (.int .i64 s.x_ml)), (20, (.int .u16 s.x_offset)), (25, (.int .i64 s.x_lengthq25)), (26, (.slice s.x_dstq26.p s.x_dstq26.n s.x_dstq26.c)), (27, (.int .i64 s.x_off))]
  fin e s K := vS e 1 fun p1 n1 c1 => vS e 2 fun p2 n2 c2 => vI e 9 .i64 fun n3 => vI e 10 .i64 fun n4 => vI e 13 .i64 fun n5 => vI e 15 .i64 fun n6 => vI e 18 .i64 fun n7 => vI e 20 .u16 fun n8 => vI e 25 .i64 fun n9 => vS e 26 fun p3 n10 c3 => vI e 27 .i64 fun n11 => K { s with x_dst := ⟨p1, n1, c1⟩, x_src := ⟨p2, n2, c2⟩, x_s := n3, x_d := n4, x_dLimit := n5, x_uncompressed := n6, x_ml := n7, x_offset := n8, x_lengthq25 := n9, x_dstq26 := ⟨p3, n10, c3⟩, x_off := n11 }
  ok := by
    intro e s K h0
    obtain ⟨p1, n1, c1, g1, h2⟩ := gS h0
    obtain ⟨p2, n2, c2, g2, h4⟩ := gS h2
    obtain ⟨n3, g3, h6⟩ := gI h4
    obtain ⟨n4, g4, h8⟩ := gI h6
    obtain ⟨n5, g5, h10⟩ := gI h8
    obtain ⟨n6, g6, h12⟩ := gI h10
    obtain ⟨n7, g7, h14⟩ := gI h12
    obtain ⟨n8, g8, h16⟩ := gI h14
    obtain ⟨n9, g9, h18⟩ := gI h16
    obtain ⟨p3, n10, c3, g10, h20⟩ := gS h18
    obtain ⟨n11, g11, h22⟩ := gI h20
    exact ⟨_, ⟨g1, g2, g3, g4, g5, g6, g7, g8, g9, g10, g11, trivial⟩, h22⟩

def r0 (s : St) (h : Heap) (Q : St → Heap → Prop) : Prop :=
  Q s h

def r1 (s : St) (h : Heap) (Q : Bool → St → Heap → Prop) : Prop :=
  Q (((s.x_src.n : Nat) : Int) == (0 : Int)) s h

def r2 (s : St) (h : Heap) (Q : St → Heap → Prop) : Prop :=
  Q { s with t6 := s.x_dst, t7 := (0 : Int), t8 := .nilIface } h

def r3 (s : St) (h : Heap) (Q : St → Heap → Prop) : Prop :=
  Q { s with x_s := (0 : Int), x_d := ((s.x_dst.n : Nat) : Int) } h

def r4 (s : St) (h : Heap) (Q : St → Heap → Prop) : Prop :=
  0 ≤ ((s.x_dst.c : Nat) : Int) ∧ ((s.x_dst.c : Nat) : Int) ≤ ((s.x_dst.c : Nat) : Int) ∧
  Q { s with x_dst := ⟨(subP s.x_dst.p 0 s.x_dst.c 1), ((Int.toNat ((s.x_dst.c : Nat) : Int)) - 0), (s.x_dst.c - 0)⟩ } h

def r5 (s : St) (h : Heap) (Q : Bool → St → Heap → Prop) : Prop :=
  Q false s h

def r6 (s : St) (h : Heap) (Q : St → Heap → Prop) : Prop :=
  0 ≤ s.x_d ∧ s.x_d ≤ ((s.x_dst.n : Nat) : Int) ∧
  c_cvtLZ4BlockAsm ⟨(subP s.x_dst.p (Int.toNat s.x_d) s.x_dst.c 1), (s.x_dst.n - (Int.toNat s.x_d)), (s.x_dst.c - (Int.toNat s.x_d))⟩ s.x_src h fun r2 r3 h1 =>
  Q { s with x_res := r2, x_sz := r3 } h1

def r7 (s : St) (h : Heap) (Q : Bool → St → Heap → Prop) : Prop :=
  Q (decide (s.x_res < (0 : Int))) s h

def r8 (s : St) (h : Heap) (Q : St → Heap → Prop) : Prop :=
  Q { s with t55 := s.x_res } h

def r9 (s : St) (h : Heap) (Q : St → Heap → Prop) : Prop :=
  c_New (ByteArray.mk #[117, 110, 101, 120, 112, 101, 99, 116, 101, 100, 32, 114, 101, 115, 117, 108, 116, 58]) h fun u2 h1 =>
  Q { s with t6 := ⟨none, 0, 0⟩, t7 := (0 : Int), t8 := u2 } h1

def r10 (s : St) (h : Heap) (Q : Bool → St → Heap → Prop) : Prop :=
  Q (s.t55 == (-1 : Int)) s h

def r11 (s : St) (h : Heap) (Q : St → Heap → Prop) : Prop :=
  ∃ u1 : Value, hcell h ⟨0, 0, none⟩ = some u1 ∧
  Q { s with t6 := ⟨none, 0, 0⟩, t7 := (0 : Int), t8 := u1 } h

def r12 (s : St) (h : Heap) (Q : Bool → St → Heap → Prop) : Prop :=
  Q (s.t55 == (-2 : Int)) s h

def r13 (s : St) (h : Heap) (Q : St → Heap → Prop) : Prop :=
  ∃ u1 : Value, hcell h ⟨2, 0, none⟩ = some u1 ∧
  Q { s with t6 := ⟨none, 0, 0⟩, t7 := (0 : Int), t8 := u1 } h

def r14 (s : St) (h : Heap) (Q : Bool → St → Heap → Prop) : Prop :=
  Q (decide ((IntKind.wrap .i64 (s.x_d + s.x_sz)) > ((s.x_dst.n : Nat) : Int))) s h

def r15 (s : St) (h : Heap) (Q : St → Heap → Prop) : Prop :=
  ∃ u1 : Value, hcell h ⟨2, 0, none⟩ = some u1 ∧
  Q { s with t6 := ⟨none, 0, 0⟩, t7 := (0 : Int), t8 := u1 } h

def r16 (s : St) (h : Heap) (Q : St → Heap → Prop) : Prop :=
  0 ≤ (IntKind.wrap .i64 (s.x_d + s.x_sz)) ∧ (IntKind.wrap .i64 (s.x_d + s.x_sz)) ≤ ((s.x_dst.c : Nat) : Int) ∧
  Q { s with t6 := ⟨(subP s.x_dst.p 0 s.x_dst.c 1), ((Int.toNat (IntKind.wrap .i64 (s.x_d + s.x_sz))) - 0), (s.x_dst.c - 0)⟩, t7 := s.x_res, t8 := .nilIface } h

def r17 (s : St) (h : Heap) (Q : St → Heap → Prop) : Prop :=
  Q { s with x_dLimit := (IntKind.wrap .i64 (((s.x_dst.n : Nat) : Int) - (10 : Int))) } h

def r18 (s : St) (h : Heap) (Q : St → Heap → Prop) : Prop :=
  Q { s with x_lastOffset := (0 : Int) } h

def r19 (s : St) (h : Heap) (Q : St → Heap → Prop) : Prop :=
  Q { s with x_uncompressed := (0 : Int) } h

def r20 (s : St) (h : Heap) (Q : Bool → St → Heap → Prop) : Prop :=
  Q (decide (s.x_s ≥ ((s.x_src.n : Nat) : Int))) s h

def r21 (s : St) (h : Heap) (Q : St → Heap → Prop) : Prop :=
  0 ≤ s.x_d ∧ s.x_d ≤ ((s.x_dst.c : Nat) : Int) ∧
  ∃ u1 : Value, hcell h ⟨0, 0, none⟩ = some u1 ∧
  Q { s with t6 := ⟨(subP s.x_dst.p 0 s.x_dst.c 1), ((Int.toNat s.x_d) - 0), (s.x_dst.c - 0)⟩, t7 := (0 : Int), t8 := u1 } h

def r22 (s : St) (h : Heap) (Q : St → Heap → Prop) : Prop :=
  0 ≤ s.x_s ∧ s.x_s < ((s.x_src.n : Nat) : Int) ∧
  ptrE s.x_src.p fun a1 =>
  ∃ v2 : Int, hcell h (Addr.add a1 (Int.toNat s.x_s * 1)) = some (.int .u8 v2) ∧
  Q { s with x_token := v2 } h

def r23 (s : St) (h : Heap) (Q : St → Heap → Prop) : Prop :=
  Q { s with x_ll := (IntKind.wrap .i64 (Int.fdiv s.x_token (2 ^ (4 : Nat)))) } h

def r24 (s : St) (h : Heap) (Q : St → Heap → Prop) : Prop :=
  Q { s with x_ml := (IntKind.wrap .i64 (IntKind.wrap .u8 ((4 : Int) + (bAnd .u8 s.x_token (15 : Int))))) } h

def r25 (s : St) (h : Heap) (Q : Bool → St → Heap → Prop) : Prop :=
  Q (decide (s.x_token ≥ (240 : Int))) s h

def r26 (s : St) (h : Heap) (Q : St → Heap → Prop) : Prop :=
  Q { s with x_s := (IntKind.wrap .i64 (s.x_s + (1 : Int))) } h

def r27 (s : St) (h : Heap) (Q : Bool → St → Heap → Prop) : Prop :=
  Q (decide (s.x_s ≥ ((s.x_src.n : Nat) : Int))) s h

def r28 (s : St) (h : Heap) (Q : St → Heap → Prop) : Prop :=
  0 ≤ s.x_d ∧ s.x_d ≤ ((s.x_dst.c : Nat) : Int) ∧
  ∃ u1 : Value, hcell h ⟨0, 0, none⟩ = some u1 ∧
  Q { s with t6 := ⟨(subP s.x_dst.p 0 s.x_dst.c 1), ((Int.toNat s.x_d) - 0), (s.x_dst.c - 0)⟩, t7 := (0 : Int), t8 := u1 } h

def r29 (s : St) (h : Heap) (Q : St → Heap → Prop) : Prop :=
  0 ≤ s.x_s ∧ s.x_s < ((s.x_src.n : Nat) : Int) ∧
  ptrE s.x_src.p fun a1 =>
  ∃ v2 : Int, hcell h (Addr.add a1 (Int.toNat s.x_s * 1)) = some (.int .u8 v2) ∧
  Q { s with x_val := v2 } h

def r30 (s : St) (h : Heap) (Q : St → Heap → Prop) : Prop :=
  Q { s with x_ll := (IntKind.wrap .i64 (s.x_ll + (IntKind.wrap .i64 s.x_val))) } h

def r31 (s : St) (h : Heap) (Q : Bool → St → Heap → Prop) : Prop :=
  Q (s.x_val != (255 : Int)) s h

def r32 (s : St) (h : Heap) (Q : Bool → St → Heap → Prop) : Prop :=
  Q (decide ((IntKind.wrap .i64 (s.x_s + s.x_ll)) ≥ ((s.x_src.n : Nat) : Int))) s h

def r33 (s : St) (h : Heap) (Q : St → Heap → Prop) : Prop :=
  ∃ u1 : Value, hcell h ⟨0, 0, none⟩ = some u1 ∧
  Q { s with t6 := ⟨none, 0, 0⟩, t7 := (0 : Int), t8 := u1 } h

def r34 (s : St) (h : Heap) (Q : St → Heap → Prop) : Prop :=
  Q { s with x_s := (IntKind.wrap .i64 (s.x_s + (1 : Int))) } h

def r35 (s : St) (h : Heap) (Q : Bool → St → Heap → Prop) : Prop :=
  Q (decide (s.x_ll > (0 : Int))) s h

def r36 (s : St) (h : Heap) (Q : Bool → St → Heap → Prop) : Prop :=
  Q (decide ((IntKind.wrap .i64 (s.x_d + s.x_ll)) > (IntKind.wrap .i64 (((s.x_dst.n : Nat) : Int) - (13 : Int))))) s h

def r37 (s : St) (h : Heap) (Q : St → Heap → Prop) : Prop :=
  ∃ u1 : Value, hcell h ⟨2, 0, none⟩ = some u1 ∧
  Q { s with t6 := ⟨none, 0, 0⟩, t7 := (0 : Int), t8 := u1 } h

def r38 (s : St) (h : Heap) (Q : St → Heap → Prop) : Prop :=
  0 ≤ s.x_d ∧ s.x_d ≤ ((s.x_dst.n : Nat) : Int) ∧
  0 ≤ (IntKind.wrap .i64 (s.x_s + s.x_ll)) ∧ (IntKind.wrap .i64 (s.x_s + s.x_ll)) ≤ ((s.x_src.c : Nat) : Int) ∧
  0 ≤ s.x_s ∧ s.x_s ≤ (((Int.toNat (IntKind.wrap .i64 (s.x_s + s.x_ll))) : Nat) : Int) ∧
  c_emitLiteralGo ⟨(subP s.x_dst.p (Int.toNat s.x_d) s.x_dst.c 1), (s.x_dst.n - (Int.toNat s.x_d)), (s.x_dst.c - (Int.toNat s.x_d))⟩ ⟨(subP s.x_src.p (Int.toNat s.x_s) s.x_src.c 1), ((Int.toNat (IntKind.wrap .i64 (s.x_s + s.x_ll))) - (Int.toNat s.x_s)), (s.x_src.c - (Int.toNat s.x_s))⟩ h fun r2 h1 =>
  Q { s with x_d := (IntKind.wrap .i64 (s.x_d + r2)) } h1

def r39 (s : St) (h : Heap) (Q : St → Heap → Prop) : Prop :=
  Q { s with x_s := (IntKind.wrap .i64 (s.x_s + s.x_ll)) } h

def r40 (s : St) (h : Heap) (Q : St → Heap → Prop) : Prop :=
  Q { s with x_uncompressed := (IntKind.wrap .i64 (s.x_uncompressed + s.x_ll)) } h

def r41 (s : St) (h : Heap) (Q : Bool → St → Heap → Prop) : Prop :=
  (if (s.x_s == ((s.x_src.n : Nat) : Int)) = true then
  (Q (s.x_ml == (4 : Int)) s h)
  else
  (Q false s h))

def r42 (s : St) (h : Heap) (Q : Bool → St → Heap → Prop) : Prop :=
  Q (decide (s.x_s ≥ (IntKind.wrap .i64 (((s.x_src.n : Nat) : Int) - (2 : Int))))) s h

def r43 (s : St) (h : Heap) (Q : St → Heap → Prop) : Prop :=
  ∃ u1 : Value, hcell h ⟨0, 0, none⟩ = some u1 ∧
  Q { s with t6 := ⟨none, 0, 0⟩, t7 := (0 : Int), t8 := u1 } h

def r44 (s : St) (h : Heap) (Q : St → Heap → Prop) : Prop :=
  0 ≤ s.x_s ∧ s.x_s ≤ ((s.x_src.n : Nat) : Int) ∧
  c_littleEndian_Uint16 ⟨(subP s.x_src.p (Int.toNat s.x_s) s.x_src.c 1), (s.x_src.n - (Int.toNat s.x_s)), (s.x_src.c - (Int.toNat s.x_s))⟩ h fun r2 h1 =>
  Q { s with x_offset := r2 } h1

def r45 (s : St) (h : Heap) (Q : St → Heap → Prop) : Prop :=
  Q { s with x_s := (IntKind.wrap .i64 (s.x_s + (2 : Int))) } h

def r46 (s : St) (h : Heap) (Q : Bool → St → Heap → Prop) : Prop :=
  Q (s.x_offset == (0 : Int)) s h

def r47 (s : St) (h : Heap) (Q : St → Heap → Prop) : Prop :=
  ∃ u1 : Value, hcell h ⟨0, 0, none⟩ = some u1 ∧
  Q { s with t6 := ⟨none, 0, 0⟩, t7 := (0 : Int), t8 := u1 } h

def r48 (s : St) (h : Heap) (Q : Bool → St → Heap → Prop) : Prop :=
  Q (decide ((IntKind.wrap .i64 s.x_offset) > s.x_uncompressed)) s h

def r49 (s : St) (h : Heap) (Q : St → Heap → Prop) : Prop :=
  ∃ u1 : Value, hcell h ⟨0, 0, none⟩ = some u1 ∧
  Q { s with t6 := ⟨none, 0, 0⟩, t7 := (0 : Int), t8 := u1 } h

def r50 (s : St) (h : Heap) (Q : Bool → St → Heap → Prop) : Prop :=
  Q (s.x_ml == (19 : Int)) s h

def r51 (s : St) (h : Heap) (Q : Bool → St → Heap → Prop) : Prop :=
  Q (decide (s.x_s ≥ ((s.x_src.n : Nat) : Int))) s h

def r52 (s : St) (h : Heap) (Q : St → Heap → Prop) : Prop :=
  ∃ u1 : Value, hcell h ⟨0, 0, none⟩ = some u1 ∧
  Q { s with t6 := ⟨none, 0, 0⟩, t7 := (0 : Int), t8 := u1 } h

def r53 (s : St) (h : Heap) (Q : St → Heap → Prop) : Prop :=
  0 ≤ s.x_s ∧ s.x_s < ((s.x_src.n : Nat) : Int) ∧
  ptrE s.x_src.p fun a1 =>
  ∃ v2 : Int, hcell h (Addr.add a1 (Int.toNat s.x_s * 1)) = some (.int .u8 v2) ∧
  Q { s with x_valq21 := v2 } h

def r54 (s : St) (h : Heap) (Q : St → Heap → Prop) : Prop :=
  Q { s with x_s := (IntKind.wrap .i64 (s.x_s + (1 : Int))) } h

def r55 (s : St) (h : Heap) (Q : St → Heap → Prop) : Prop :=
  Q { s with x_ml := (IntKind.wrap .i64 (s.x_ml + (IntKind.wrap .i64 s.x_valq21))) } h

def r56 (s : St) (h : Heap) (Q : Bool → St → Heap → Prop) : Prop :=
  Q (s.x_valq21 != (255 : Int)) s h

def r57 (s : St) (h : Heap) (Q : Bool → St → Heap → Prop) : Prop :=
  Q (decide (s.x_s ≥ ((s.x_src.n : Nat) : Int))) s h

def r58 (s : St) (h : Heap) (Q : St → Heap → Prop) : Prop :=
  ∃ u1 : Value, hcell h ⟨0, 0, none⟩ = some u1 ∧
  Q { s with t6 := ⟨none, 0, 0⟩, t7 := (0 : Int), t8 := u1 } h

def r59 (s : St) (h : Heap) (Q : Bool → St → Heap → Prop) : Prop :=
  Q (s.x_offset == s.x_lastOffset) s h

def r60 (s : St) (h : Heap) (Q : St → Heap → Prop) : Prop :=
  0 ≤ s.x_d ∧ s.x_d ≤ ((s.x_dst.n : Nat) : Int) ∧
  c_emitRepeat16 ⟨(subP s.x_dst.p (Int.toNat s.x_d) s.x_dst.c 1), (s.x_dst.n - (Int.toNat s.x_d)), (s.x_dst.c - (Int.toNat s.x_d))⟩ s.x_offset s.x_ml h fun r2 h1 =>
  Q { s with x_d := (IntKind.wrap .i64 (s.x_d + r2)) } h1

def r61 (s : St) (h : Heap) (Q : St → Heap → Prop) : Prop :=
  Q { s with x_length := s.x_ml } h

def r62 (s : St) (h : Heap) (Q : St → Heap → Prop) : Prop :=
  0 ≤ s.x_d ∧ s.x_d ≤ ((s.x_dst.n : Nat) : Int) ∧
  Q { s with x_dstq23 := ⟨(subP s.x_dst.p (Int.toNat s.x_d) s.x_dst.c 1), (s.x_dst.n - (Int.toNat s.x_d)), (s.x_dst.c - (Int.toNat s.x_d))⟩ } h

def r63 (s : St) (h : Heap) (Q : Bool → St → Heap → Prop) : Prop :=
  Q (decide (((s.x_dstq23.n : Nat) : Int) > (5 : Int))) s h

def r64 (s : St) (h : Heap) (Q : St → Heap → Prop) : Prop :=
  Q { s with x_length := (IntKind.wrap .i64 (s.x_length - (4 : Int))) } h

def r65 (s : St) (h : Heap) (Q : Bool → St → Heap → Prop) : Prop :=
  Q (decide (s.x_length ≤ (4 : Int))) s h

def r66 (s : St) (h : Heap) (Q : St → Heap → Prop) : Prop :=
  0 ≤ (0 : Int) ∧ (0 : Int) < ((s.x_dstq23.n : Nat) : Int) ∧
  ptrE s.x_dstq23.p fun a1 =>
  st1 (Addr.add (Addr.add a1 (Int.toNat (0 : Int) * 1)) 0) (.int .u8 (bOr .u8 (IntKind.wrap .u8 ((IntKind.wrap .u8 s.x_length) * 2 ^ (2 : Nat))) (1 : Int))) h fun h2 =>
  Q s h2

def r67 (s : St) (h : Heap) (Q : St → Heap → Prop) : Prop :=
  0 ≤ (1 : Int) ∧ (1 : Int) < ((s.x_dstq23.n : Nat) : Int) ∧
  ptrE s.x_dstq23.p fun a1 =>
  st1 (Addr.add (Addr.add a1 (Int.toNat (1 : Int) * 1)) 0) (.int .u8 (0 : Int)) h fun h2 =>
  Q s h2

def r68 (s : St) (h : Heap) (Q : St → Heap → Prop) : Prop :=
  Q { s with x_d := (IntKind.wrap .i64 (s.x_d + (2 : Int))) } h

def r69 (s : St) (h : Heap) (Q : Bool → St → Heap → Prop) : Prop :=
  (if (decide (s.x_length < (8 : Int))) = true then
  (Q (decide (s.x_offset < (2048 : Int))) s h)
  else
  (Q false s h))

def r70 (s : St) (h : Heap) (Q : St → Heap → Prop) : Prop :=
  0 ≤ (1 : Int) ∧ (1 : Int) < ((s.x_dstq23.n : Nat) : Int) ∧
  ptrE s.x_dstq23.p fun a1 =>
  st1 (Addr.add (Addr.add a1 (Int.toNat (1 : Int) * 1)) 0) (.int .u8 (IntKind.wrap .u8 s.x_offset)) h fun h2 =>
  Q s h2

def r71 (s : St) (h : Heap) (Q : St → Heap → Prop) : Prop :=
  0 ≤ (0 : Int) ∧ (0 : Int) < ((s.x_dstq23.n : Nat) : Int) ∧
  ptrE s.x_dstq23.p fun a1 =>
  st1 (Addr.add (Addr.add a1 (Int.toNat (0 : Int) * 1)) 0) (.int .u8 (bOr .u8 (bOr .u8 (IntKind.wrap .u8 ((IntKind.wrap .u8 (Int.fdiv s.x_offset (2 ^ (8 : Nat)))) * 2 ^ (5 : Nat))) (IntKind.wrap .u8 ((IntKind.wrap .u8 s.x_length) * 2 ^ (2 : Nat)))) (1 : Int))) h fun h2 =>
  Q s h2

def r72 (s : St) (h : Heap) (Q : St → Heap → Prop) : Prop :=
  Q { s with x_d := (IntKind.wrap .i64 (s.x_d + (2 : Int))) } h

def r73 (s : St) (h : Heap) (Q : Bool → St → Heap → Prop) : Prop :=
  Q (decide (s.x_length < (260 : Int))) s h

def r74 (s : St) (h : Heap) (Q : St → Heap → Prop) : Prop :=
  Q { s with x_length := (IntKind.wrap .i64 (s.x_length - (4 : Int))) } h

def r75 (s : St) (h : Heap) (Q : St → Heap → Prop) : Prop :=
  0 ≤ (2 : Int) ∧ (2 : Int) < ((s.x_dstq23.n : Nat) : Int) ∧
  ptrE s.x_dstq23.p fun a1 =>
  st1 (Addr.add (Addr.add a1 (Int.toNat (2 : Int) * 1)) 0) (.int .u8 (IntKind.wrap .u8 s.x_length)) h fun h2 =>
  Q s h2

def r76 (s : St) (h : Heap) (Q : St → Heap → Prop) : Prop :=
  0 ≤ (1 : Int) ∧ (1 : Int) < ((s.x_dstq23.n : Nat) : Int) ∧
  ptrE s.x_dstq23.p fun a1 =>
  st1 (Addr.add (Addr.add a1 (Int.toNat (1 : Int) * 1)) 0) (.int .u8 (0 : Int)) h fun h2 =>
  Q s h2

def r77 (s : St) (h : Heap) (Q : St → Heap → Prop) : Prop :=
  0 ≤ (0 : Int) ∧ (0 : Int) < ((s.x_dstq23.n : Nat) : Int) ∧
  ptrE s.x_dstq23.p fun a1 =>
  st1 (Addr.add (Addr.add a1 (Int.toNat (0 : Int) * 1)) 0) (.int .u8 (21 : Int)) h fun h2 =>
  Q s h2

def r78 (s : St) (h : Heap) (Q : St → Heap → Prop) : Prop :=
  Q { s with x_d := (IntKind.wrap .i64 (s.x_d + (3 : Int))) } h

def r79 (s : St) (h : Heap) (Q : Bool → St → Heap → Prop) : Prop :=
  Q (decide (s.x_length < (65792 : Int))) s h

def r80 (s : St) (h : Heap) (Q : St → Heap → Prop) : Prop :=
  Q { s with x_length := (IntKind.wrap .i64 (s.x_length - (256 : Int))) } h

def r81 (s : St) (h : Heap) (Q : St → Heap → Prop) : Prop :=
  0 ≤ (3 : Int) ∧ (3 : Int) < ((s.x_dstq23.n : Nat) : Int) ∧
  ptrE s.x_dstq23.p fun a1 =>
  st1 (Addr.add (Addr.add a1 (Int.toNat (3 : Int) * 1)) 0) (.int .u8 (IntKind.wrap .u8 (Int.fdiv s.x_length (2 ^ (8 : Nat))))) h fun h2 =>
  Q s h2

def r82 (s : St) (h : Heap) (Q : St → Heap → Prop) : Prop :=
  0 ≤ (2 : Int) ∧ (2 : Int) < ((s.x_dstq23.n : Nat) : Int) ∧
  ptrE s.x_dstq23.p fun a1 =>
  st1 (Addr.add (Addr.add a1 (Int.toNat (2 : Int) * 1)) 0) (.int .u8 (IntKind.wrap .u8 (Int.fdiv s.x_length (2 ^ (0 : Nat))))) h fun h2 =>
  Q s h2

def r83 (s : St) (h : Heap) (Q : St → Heap → Prop) : Prop :=
  0 ≤ (1 : Int) ∧ (1 : Int) < ((s.x_dstq23.n : Nat) : Int) ∧
  ptrE s.x_dstq23.p fun a1 =>
  st1 (Addr.add (Addr.add a1 (Int.toNat (1 : Int) * 1)) 0) (.int .u8 (0 : Int)) h fun h2 =>
  Q s h2

def r84 (s : St) (h : Heap) (Q : St → Heap → Prop) : Prop :=
  0 ≤ (0 : Int) ∧ (0 : Int) < ((s.x_dstq23.n : Nat) : Int) ∧
  ptrE s.x_dstq23.p fun a1 =>
  st1 (Addr.add (Addr.add a1 (Int.toNat (0 : Int) * 1)) 0) (.int .u8 (25 : Int)) h fun h2 =>
  Q s h2

def r85 (s : St) (h : Heap) (Q : St → Heap → Prop) : Prop :=
  Q { s with x_d := (IntKind.wrap .i64 (s.x_d + (4 : Int))) } h

def r86 (s : St) (h : Heap) (Q : St → Heap → Prop) : Prop :=
  Q { s with x_length := (IntKind.wrap .i64 (s.x_length - (65536 : Int))) } h

def r87 (s : St) (h : Heap) (Q : St → Heap → Prop) : Prop :=
  Q { s with x_left := (0 : Int) } h

def r88 (s : St) (h : Heap) (Q : Bool → St → Heap → Prop) : Prop :=
  Q (decide (s.x_length > (16777215 : Int))) s h

def r89 (s : St) (h : Heap) (Q : St → Heap → Prop) : Prop :=
  Q { s with x_left := (IntKind.wrap .i64 ((IntKind.wrap .i64 (s.x_length - (16777215 : Int))) + (4 : Int))) } h

def r90 (s : St) (h : Heap) (Q : St → Heap → Prop) : Prop :=
  Q { s with x_length := (16777211 : Int) } h

def r91 (s : St) (h : Heap) (Q : St → Heap → Prop) : Prop :=
  0 ≤ (4 : Int) ∧ (4 : Int) < ((s.x_dstq23.n : Nat) : Int) ∧
  ptrE s.x_dstq23.p fun a1 =>
  st1 (Addr.add (Addr.add a1 (Int.toNat (4 : Int) * 1)) 0) (.int .u8 (IntKind.wrap .u8 (Int.fdiv s.x_length (2 ^ (16 : Nat))))) h fun h2 =>
  Q s h2

def r92 (s : St) (h : Heap) (Q : St → Heap → Prop) : Prop :=
  0 ≤ (3 : Int) ∧ (3 : Int) < ((s.x_dstq23.n : Nat) : Int) ∧
  ptrE s.x_dstq23.p fun a1 =>
  st1 (Addr.add (Addr.add a1 (Int.toNat (3 : Int) * 1)) 0) (.int .u8 (IntKind.wrap .u8 (Int.fdiv s.x_length (2 ^ (8 : Nat))))) h fun h2 =>
  Q s h2

def r93 (s : St) (h : Heap) (Q : St → Heap → Prop) : Prop :=
  0 ≤ (2 : Int) ∧ (2 : Int) < ((s.x_dstq23.n : Nat) : Int) ∧
  ptrE s.x_dstq23.p fun a1 =>
  st1 (Addr.add (Addr.add a1 (Int.toNat (2 : Int) * 1)) 0) (.int .u8 (IntKind.wrap .u8 (Int.fdiv s.x_length (2 ^ (0 : Nat))))) h fun h2 =>
  Q s h2

def r94 (s : St) (h : Heap) (Q : St → Heap → Prop) : Prop :=
  0 ≤ (1 : Int) ∧ (1 : Int) < ((s.x_dstq23.n : Nat) : Int) ∧
  ptrE s.x_dstq23.p fun a1 =>
  st1 (Addr.add (Addr.add a1 (Int.toNat (1 : Int) * 1)) 0) (.int .u8 (0 : Int)) h fun h2 =>
  Q s h2

def r95 (s : St) (h : Heap) (Q : St → Heap → Prop) : Prop :=
  0 ≤ (0 : Int) ∧ (0 : Int) < ((s.x_dstq23.n : Nat) : Int) ∧
  ptrE s.x_dstq23.p fun a1 =>
  st1 (Addr.add (Addr.add a1 (Int.toNat (0 : Int) * 1)) 0) (.int .u8 (29 : Int)) h fun h2 =>
  Q s h2

def r96 (s : St) (h : Heap) (Q : St → Heap → Prop) : Prop :=
  Q { s with x_d := (IntKind.wrap .i64 (s.x_d + (5 : Int))) } h

def r97 (s : St) (h : Heap) (Q : Bool → St → Heap → Prop) : Prop :=
  Q (decide (s.x_left > (0 : Int))) s h

def r98 (s : St) (h : Heap) (Q : St → Heap → Prop) : Prop :=
  0 ≤ (5 : Int) ∧ (5 : Int) ≤ ((s.x_dstq23.n : Nat) : Int) ∧
  Q { s with x_dstq23 := ⟨(subP s.x_dstq23.p (Int.toNat (5 : Int)) s.x_dstq23.c 1), (s.x_dstq23.n - (Int.toNat (5 : Int))), (s.x_dstq23.c - (Int.toNat (5 : Int)))⟩ } h

def r99 (s : St) (h : Heap) (Q : St → Heap → Prop) : Prop :=
  Q { s with x_length := s.x_left } h

def r100 (s : St) (h : Heap) (Q : St → Heap → Prop) : Prop :=
  0 ≤ s.x_d ∧ s.x_d ≤ ((s.x_dst.n : Nat) : Int) ∧
  c_emitCopy16 ⟨(subP s.x_dst.p (Int.toNat s.x_d) s.x_dst.c 1), (s.x_dst.n - (Int.toNat s.x_d)), (s.x_dst.c - (Int.toNat s.x_d))⟩ s.x_offset s.x_ml h fun r2 h1 =>
  Q { s with x_d := (IntKind.wrap .i64 (s.x_d + r2)) } h1

def r101 (s : St) (h : Heap) (Q : St → Heap → Prop) : Prop :=
  Q { s with x_lengthq25 := s.x_ml } h

def r102 (s : St) (h : Heap) (Q : St → Heap → Prop) : Prop :=
  0 ≤ s.x_d ∧ s.x_d ≤ ((s.x_dst.n : Nat) : Int) ∧
  Q { s with x_dstq26 := ⟨(subP s.x_dst.p (Int.toNat s.x_d) s.x_dst.c 1), (s.x_dst.n - (Int.toNat s.x_d)), (s.x_dst.c - (Int.toNat s.x_d))⟩ } h

def r103 (s : St) (h : Heap) (Q : Bool → St → Heap → Prop) : Prop :=
  Q (decide (((s.x_dstq26.n : Nat) : Int) > (5 : Int))) s h

def r104 (s : St) (h : Heap) (Q : Bool → St → Heap → Prop) : Prop :=
  Q (decide (s.x_lengthq25 > (64 : Int))) s h

def r105 (s : St) (h : Heap) (Q : St → Heap → Prop) : Prop :=
  Q { s with x_off := (3 : Int) } h

def r106 (s : St) (h : Heap) (Q : Bool → St → Heap → Prop) : Prop :=
  Q (decide (s.x_offset < (2048 : Int))) s h

def r107 (s : St) (h : Heap) (Q : St → Heap → Prop) : Prop :=
  0 ≤ (1 : Int) ∧ (1 : Int) < ((s.x_dstq26.n : Nat) : Int) ∧
  ptrE s.x_dstq26.p fun a1 =>
  st1 (Addr.add (Addr.add a1 (Int.toNat (1 : Int) * 1)) 0) (.int .u8 (IntKind.wrap .u8 s.x_offset)) h fun h2 =>
  Q s h2

def r108 (s : St) (h : Heap) (Q : St → Heap → Prop) : Prop :=
  0 ≤ (0 : Int) ∧ (0 : Int) < ((s.x_dstq26.n : Nat) : Int) ∧
  ptrE s.x_dstq26.p fun a1 =>
  st1 (Addr.add (Addr.add a1 (Int.toNat (0 : Int) * 1)) 0) (.int .u8 (bOr .u8 (bOr .u8 (IntKind.wrap .u8 ((IntKind.wrap .u8 (Int.fdiv s.x_offset (2 ^ (8 : Nat)))) * 2 ^ (5 : Nat))) (16 : Int)) (1 : Int))) h fun h2 =>
  Q s h2

def r109 (s : St) (h : Heap) (Q : St → Heap → Prop) : Prop :=
  Q { s with x_lengthq25 := (IntKind.wrap .i64 (s.x_lengthq25 - (8 : Int))) } h

def r110 (s : St) (h : Heap) (Q : St → Heap → Prop) : Prop :=
  Q { s with x_off := (2 : Int) } h

def r111 (s : St) (h : Heap) (Q : St → Heap → Prop) : Prop :=
  0 ≤ (2 : Int) ∧ (2 : Int) < ((s.x_dstq26.n : Nat) : Int) ∧
  ptrE s.x_dstq26.p fun a1 =>
  st1 (Addr.add (Addr.add a1 (Int.toNat (2 : Int) * 1)) 0) (.int .u8 (IntKind.wrap .u8 (Int.fdiv s.x_offset (2 ^ (8 : Nat))))) h fun h2 =>
  Q s h2

def r112 (s : St) (h : Heap) (Q : St → Heap → Prop) : Prop :=
  0 ≤ (1 : Int) ∧ (1 : Int) < ((s.x_dstq26.n : Nat) : Int) ∧
  ptrE s.x_dstq26.p fun a1 =>
  st1 (Addr.add (Addr.add a1 (Int.toNat (1 : Int) * 1)) 0) (.int .u8 (IntKind.wrap .u8 s.x_offset)) h fun h2 =>
  Q s h2

def r113 (s : St) (h : Heap) (Q : St → Heap → Prop) : Prop :=
  0 ≤ (0 : Int) ∧ (0 : Int) < ((s.x_dstq26.n : Nat) : Int) ∧
  ptrE s.x_dstq26.p fun a1 =>
  st1 (Addr.add (Addr.add a1 (Int.toNat (0 : Int) * 1)) 0) (.int .u8 (238 : Int)) h fun h2 =>
  Q s h2

def r114 (s : St) (h : Heap) (Q : St → Heap → Prop) : Prop :=
  Q { s with x_lengthq25 := (IntKind.wrap .i64 (s.x_lengthq25 - (60 : Int))) } h

def r115 (s : St) (h : Heap) (Q : St → Heap → Prop) : Prop :=
  0 ≤ s.x_off ∧ s.x_off ≤ ((s.x_dstq26.n : Nat) : Int) ∧
  c_emitRepeat16 ⟨(subP s.x_dstq26.p (Int.toNat s.x_off) s.x_dstq26.c 1), (s.x_dstq26.n - (Int.toNat s.x_off)), (s.x_dstq26.c - (Int.toNat s.x_off))⟩ s.x_offset s.x_lengthq25 h fun r2 h1 =>
  Q { s with x_d := (IntKind.wrap .i64 (s.x_d + (IntKind.wrap .i64 (s.x_off + r2)))) } h1

def r116 (s : St) (h : Heap) (Q : Bool → St → Heap → Prop) : Prop :=
  (if (decide (s.x_lengthq25 ≥ (12 : Int))) = false then
  (Q (decide (s.x_offset ≥ (2048 : Int))) s h)
  else
  (Q true s h))

def r117 (s : St) (h : Heap) (Q : St → Heap → Prop) : Prop :=
  0 ≤ (2 : Int) ∧ (2 : Int) < ((s.x_dstq26.n : Nat) : Int) ∧
  ptrE s.x_dstq26.p fun a1 =>
  st1 (Addr.add (Addr.add a1 (Int.toNat (2 : Int) * 1)) 0) (.int .u8 (IntKind.wrap .u8 (Int.fdiv s.x_offset (2 ^ (8 : Nat))))) h fun h2 =>
  Q s h2

def r118 (s : St) (h : Heap) (Q : St → Heap → Prop) : Prop :=
  0 ≤ (1 : Int) ∧ (1 : Int) < ((s.x_dstq26.n : Nat) : Int) ∧
  ptrE s.x_dstq26.p fun a1 =>
  st1 (Addr.add (Addr.add a1 (Int.toNat (1 : Int) * 1)) 0) (.int .u8 (IntKind.wrap .u8 s.x_offset)) h fun h2 =>
  Q s h2

def r119 (s : St) (h : Heap) (Q : St → Heap → Prop) : Prop :=
  0 ≤ (0 : Int) ∧ (0 : Int) < ((s.x_dstq26.n : Nat) : Int) ∧
  ptrE s.x_dstq26.p fun a1 =>
  st1 (Addr.add (Addr.add a1 (Int.toNat (0 : Int) * 1)) 0) (.int .u8 (bOr .u8 (IntKind.wrap .u8 ((IntKind.wrap .u8 (IntKind.wrap .i64 (s.x_lengthq25 - (1 : Int)))) * 2 ^ (2 : Nat))) (2 : Int))) h fun h2 =>
  Q s h2

def r120 (s : St) (h : Heap) (Q : St → Heap → Prop) : Prop :=
  Q { s with x_d := (IntKind.wrap .i64 (s.x_d + (3 : Int))) } h

def r121 (s : St) (h : Heap) (Q : St → Heap → Prop) : Prop :=
  0 ≤ (1 : Int) ∧ (1 : Int) < ((s.x_dstq26.n : Nat) : Int) ∧
  ptrE s.x_dstq26.p fun a1 =>
  st1 (Addr.add (Addr.add a1 (Int.toNat (1 : Int) * 1)) 0) (.int .u8 (IntKind.wrap .u8 s.x_offset)) h fun h2 =>
  Q s h2

def r122 (s : St) (h : Heap) (Q : St → Heap → Prop) : Prop :=
  0 ≤ (0 : Int) ∧ (0 : Int) < ((s.x_dstq26.n : Nat) : Int) ∧
  ptrE s.x_dstq26.p fun a1 =>
  st1 (Addr.add (Addr.add a1 (Int.toNat (0 : Int) * 1)) 0) (.int .u8 (bOr .u8 (bOr .u8 (IntKind.wrap .u8 ((IntKind.wrap .u8 (Int.fdiv s.x_offset (2 ^ (8 : Nat)))) * 2 ^ (5 : Nat))) (IntKind.wrap .u8 ((IntKind.wrap .u8 (IntKind.wrap .i64 (s.x_lengthq25 - (4 : Int)))) * 2 ^ (2 : Nat)))) (1 : Int))) h fun h2 =>
  Q s h2

def r123 (s : St) (h : Heap) (Q : St → Heap → Prop) : Prop :=
  Q { s with x_d := (IntKind.wrap .i64 (s.x_d + (2 : Int))) } h

def r124 (s : St) (h : Heap) (Q : St → Heap → Prop) : Prop :=
  Q { s with x_lastOffset := s.x_offset } h

def r125 (s : St) (h : Heap) (Q : St → Heap → Prop) : Prop :=
  Q { s with x_uncompressed := (IntKind.wrap .i64 (s.x_uncompressed + s.x_ml)) } h

def r126 (s : St) (h : Heap) (Q : Bool → St → Heap → Prop) : Prop :=
  Q (decide (s.x_d > s.x_dLimit)) s h

def r127 (s : St) (h : Heap) (Q : St → Heap → Prop) : Prop :=
  ∃ u1 : Value, hcell h ⟨2, 0, none⟩ = some u1 ∧
  Q { s with t6 := ⟨none, 0, 0⟩, t7 := (0 : Int), t8 := u1 } h

def r128 (s : St) (h : Heap) (Q : St → Heap → Prop) : Prop :=
  0 ≤ s.x_d ∧ s.x_d ≤ ((s.x_dst.c : Nat) : Int) ∧
  Q { s with t6 := ⟨(subP s.x_dst.p 0 s.x_dst.c 1), ((Int.toNat s.x_d) - 0), (s.x_dst.c - 0)⟩, t7 := s.x_uncompressed, t8 := .nilIface } h

def k98 : Stm St := (.test r126 (.seq (.reg r127) .ret) .skip)
def k97 : Stm St := (.seq (.reg r125) k98)
def k96 : Stm St := (.seq (.reg r122) (.seq (.reg r123) (.exit 9)))
def k95 : Stm St := (.seq (.reg r121) k96)
def k94 : Stm St := (.seq (.reg r119) (.seq (.reg r120) (.exit 9)))
def k93 : Stm St := (.seq (.reg r118) k94)
def k92 : Stm St := (.seq (.reg r117) k93)
def k91 : Stm St := (.seq (.test r116 k92 .skip) k95)
def k90 : Stm St := (.seq (.reg r112) (.seq (.reg r113) (.reg r114)))
def k89 : Stm St := (.seq (.reg r111) k90)
def k88 : Stm St := (.seq (.reg r108) (.seq (.reg r109) (.reg r110)))
def k87 : Stm St := (.seq (.reg r107) k88)
def k86 : Stm St := (.seq (.test r106 k87 k89) (.seq (.reg r115) (.exit 9)))
def k85 : Stm St := (.seq (.reg r105) k86)
def k84 : Stm St := (.block 10 (.seq (.test r104 k85 .skip) k91))
def k83 : Stm St := (.seq (.test r103 .skip (.exit 9)) k84)
def k82 : Stm St := (.block 9 (.loop k83))
def k81 : Stm St := (.seq (.reg r102) k82)
def k80 : Stm St := (.seq (.reg r101) k81)
def k79 : Stm St := (.seq (.cond (fun _ => false) (.reg r100) k80) (.reg r124))
def k78 : Stm St := (.seq (.reg r98) (.seq (.reg r99) (.exit 8)))
def k77 : Stm St := (.seq (.test r97 k78 .skip) (.exit 7))
def k76 : Stm St := (.seq (.reg r96) k77)
def k75 : Stm St := (.seq (.reg r95) k76)
def k74 : Stm St := (.seq (.reg r94) k75)
def k73 : Stm St := (.seq (.reg r93) k74)
def k72 : Stm St := (.seq (.reg r92) k73)
def k71 : Stm St := (.seq (.reg r91) k72)
def k70 : Stm St := (.seq (.test r88 (.seq (.reg r89) (.reg r90)) .skip) k71)
def k69 : Stm St := (.seq (.reg r87) k70)
def k68 : Stm St := (.seq (.reg r86) k69)
def k67 : Stm St := (.seq (.reg r84) (.seq (.reg r85) (.exit 7)))
def k66 : Stm St := (.seq (.reg r83) k67)
def k65 : Stm St := (.seq (.reg r82) k66)
def k64 : Stm St := (.seq (.reg r81) k65)
def k63 : Stm St := (.seq (.reg r80) k64)
def k62 : Stm St := (.seq (.test r79 k63 .skip) k68)
def k61 : Stm St := (.seq (.reg r77) (.seq (.reg r78) (.exit 7)))
def k60 : Stm St := (.seq (.reg r76) k61)
def k59 : Stm St := (.seq (.reg r75) k60)
def k58 : Stm St := (.seq (.reg r74) k59)
def k57 : Stm St := (.seq (.test r73 k58 .skip) k62)
def k56 : Stm St := (.seq (.reg r71) (.seq (.reg r72) (.exit 7)))
def k55 : Stm St := (.seq (.reg r70) k56)
def k54 : Stm St := (.seq (.test r69 k55 .skip) k57)
def k53 : Stm St := (.seq (.reg r67) (.seq (.reg r68) (.exit 7)))
def k52 : Stm St := (.seq (.reg r66) k53)
def k51 : Stm St := (.seq (.test r65 k52 .skip) k54)
def k50 : Stm St := (.block 8 (.seq (.reg r64) k51))
def k49 : Stm St := (.seq (.test r63 .skip (.exit 7)) k50)
def k48 : Stm St := (.block 7 (.loop k49))
def k47 : Stm St := (.seq (.reg r62) k48)
def k46 : Stm St := (.seq (.reg r61) k47)
def k45 : Stm St := (.cond (fun _ => false) (.reg r60) k46)
def k44 : Stm St := (.seq (.test r59 k45 k79) k97)
def k43 : Stm St := (.seq (.test r57 (.seq (.reg r58) .ret) .skip) (.exit 5))
def k42 : Stm St := (.test r56 k43 .skip)
def k41 : Stm St := (.seq (.reg r55) k42)
def k40 : Stm St := (.seq (.reg r54) k41)
def k39 : Stm St := (.seq (.reg r53) k40)
def k38 : Stm St := (.block 6 (.seq (.test r51 (.seq (.reg r52) .ret) .skip) k39))
def k37 : Stm St := (.block 5 (.loop k38))
def k36 : Stm St := (.seq (.test r50 k37 .skip) k44)
def k35 : Stm St := (.seq (.test r48 (.seq (.reg r49) .ret) .skip) k36)
def k34 : Stm St := (.seq (.test r46 (.seq (.reg r47) .ret) .skip) k35)
def k33 : Stm St := (.seq (.reg r45) k34)
def k32 : Stm St := (.seq (.reg r44) k33)
def k31 : Stm St := (.seq (.test r42 (.seq (.reg r43) .ret) .skip) k32)
def k30 : Stm St := (.seq (.test r41 (.exit 1) .skip) k31)
def k29 : Stm St := (.seq (.reg r38) (.seq (.reg r39) (.reg r40)))
def k28 : Stm St := (.seq (.test r36 (.seq (.reg r37) .ret) .skip) k29)
def k27 : Stm St := (.seq (.test r35 k28 .skip) k30)
def k26 : Stm St := (.seq (.reg r34) k27)
def k25 : Stm St := (.seq (.test r32 (.seq (.reg r33) .ret) .skip) k26)
def k24 : Stm St := (.test r31 (.exit 3) .skip)
def k23 : Stm St := (.seq (.reg r30) k24)
def k22 : Stm St := (.seq (.reg r29) k23)
def k21 : Stm St := (.seq (.test r27 (.seq (.reg r28) .ret) .skip) k22)
def k20 : Stm St := (.block 4 (.seq (.reg r26) k21))
def k19 : Stm St := (.block 3 (.loop k20))
def k18 : Stm St := (.seq (.test r25 k19 .skip) k25)
def k17 : Stm St := (.seq (.reg r24) k18)
def k16 : Stm St := (.seq (.reg r23) k17)
def k15 : Stm St := (.seq (.reg r22) k16)
def k14 : Stm St := (.block 2 (.seq (.test r20 (.seq (.reg r21) .ret) .skip) k15))
def k13 : Stm St := (.seq (.block 1 (.loop k14)) (.seq (.reg r128) .ret))
def k12 : Stm St := (.seq (.reg r19) k13)
def k11 : Stm St := (.seq (.reg r18) k12)
def k10 : Stm St := (.seq (.reg r17) k11)
def k9 : Stm St := (.seq (.test r14 (.seq (.reg r15) .ret) .skip) (.seq (.reg r16) .ret))
def k8 : Stm St := (.test r12 (.seq (.reg r13) .ret) (.seq (.reg r9) .ret))
def k7 : Stm St := (.block 0 (.test r10 (.seq (.reg r11) .ret) k8))
def k6 : Stm St := (.seq (.reg r8) k7)
def k5 : Stm St := (.seq (.test r7 k6 .skip) k9)
def k4 : Stm St := (.seq (.reg r6) k5)
def k3 : Stm St := (.seq (.test r5 k4 .skip) k10)
def k2 : Stm St := (.seq (.reg r4) k3)
def k1 : Stm St := (.seq (.reg r3) k2)
def k0 : Stm St := (.seq (.test r1 (.seq (.reg r2) .ret) .skip) k1)

def stm : Stm St := (.seq (.reg r0) k0)

def ex : Ex → Pt St := fun _ => p0

set_option maxRecDepth 100000 in
theorem sim : Sim Pg 442 p1 (Tryd.f74.body.getD .skip) stm p0 ex :=
  (Sim.seq (Sim.reg (A := p1) (B := p1) (fun _ _ _ => by kernel_rfl))
  (Sim.seq (Sim.test (A := p1) (B := p1) (fun _ _ _ => by kernel_rfl) (Sim.seq (Sim.reg (A := p1) (B := p0) (fun _ _ _ => by kernel_rfl))
  (Sim.ret (A := p0) (E := ex) (fun _ => ⟨rfl, rfl, rfl, trivial⟩)))
  (Sim.skip (A := p1)))
  (Sim.seq (Sim.reg (A := p1) (B := p2) (fun _ _ _ => by kernel_rfl))
  (Sim.seq (Sim.reg (A := p2) (B := p2) (fun _ _ _ => by kernel_rfl))
  (Sim.seq (Sim.test (A := p2) (B := p3) (fun _ _ _ => by kernel_rfl) (Sim.seq (Sim.reg (A := p3) (B := p4) (fun _ _ _ => by kernel_rfl))
  (Sim.seq (Sim.test (A := p4) (B := p4) (fun _ _ _ => by kernel_rfl) (Sim.seq (Sim.reg (A := p4) (B := p5) (fun _ _ _ => by kernel_rfl))
  (Sim.block (Sim.test (A := p5) (B := p5) (fun _ _ _ => by kernel_rfl) (Sim.seq (Sim.reg (A := p5) (B := p0) (fun _ _ _ => by kernel_rfl))
  (Sim.ret (A := p0) (E := (exAt ex 0 _)) (fun _ => ⟨rfl, rfl, rfl, trivial⟩)))
  (Sim.test (A := p5) (B := p6) (fun _ _ _ => by kernel_rfl) (Sim.seq (Sim.reg (A := p6) (B := p0) (fun _ _ _ => by kernel_rfl))
  (Sim.ret (A := p0) (E := (exAt ex 0 _)) (fun _ => ⟨rfl, rfl, rfl, trivial⟩)))
  (Sim.seq (Sim.reg (A := p6) (B := p0) (fun _ _ _ => by kernel_rfl))
  (Sim.ret (A := p0) (E := (exAt ex 0 _)) (fun _ => ⟨rfl, rfl, rfl, trivial⟩)))))))
  (Sim.skip (A := p4)))
  (Sim.seq (Sim.test (A := p4) (B := p4) (fun _ _ _ => by kernel_rfl) (Sim.seq (Sim.reg (A := p4) (B := p0) (fun _ _ _ => by kernel_rfl))
  (Sim.ret (A := p0) (E := ex) (fun _ => ⟨rfl, rfl, rfl, trivial⟩)))
  (Sim.skip (A := p4)))
  (Sim.seq (Sim.reg (A := p4) (B := p0) (fun _ _ _ => by kernel_rfl))
  (Sim.ret (A := p0) (E := ex) (fun _ => ⟨rfl, rfl, rfl, trivial⟩))))))
  (Sim.skip (A := p3)))
  (Sim.seq (Sim.reg (A := p3) (B := p7) (fun _ _ _ => by kernel_rfl))
  (Sim.seq (Sim.reg (A := p7) (B := p8) (fun _ _ _ => by kernel_rfl))
  (Sim.seq (Sim.reg (A := p8) (B := p9) (fun _ _ _ => by kernel_rfl))
  (Sim.seq (Sim.block (B := p10) (Sim.loop (A := p9) (Sim.block (B := p9) (Sim.seq (Sim.test (A := p9) (B := p9) (fun _ _ _ => by kernel_rfl) (Sim.seq (Sim.reg (A := p9) (B := p0) (fun _ _ _ => by kernel_rfl))
  (Sim.ret (A := p0) (E := (exAt (exAt ex 1 p10) 2 p9)) (fun _ => ⟨rfl, rfl, rfl, trivial⟩)))
  (Sim.skip (A := p9)))
  (Sim.seq (Sim.reg (A := p9) (B := p11) (fun _ _ _ => by kernel_rfl))
  (Sim.seq (Sim.reg (A := p11) (B := p12) (fun _ _ _ => by kernel_rfl))
  (Sim.seq (Sim.reg (A := p12) (B := p13) (fun _ _ _ => by kernel_rfl))
  (Sim.seq (Sim.test (A := p13) (B := p14) (fun _ _ _ => by kernel_rfl) (Sim.block (B := p14) (Sim.loop (A := p14) (Sim.block (B := p14) (Sim.seq (Sim.reg (A := p14) (B := p14) (fun _ _ _ => by kernel_rfl))
  (Sim.seq (Sim.test (A := p14) (B := p14) (fun _ _ _ => by kernel_rfl) (Sim.seq (Sim.reg (A := p14) (B := p0) (fun _ _ _ => by kernel_rfl))
  (Sim.ret (A := p0) (E := (exAt (exAt (exAt (exAt ex 1 p10) 2 p9) 3 p14) 4 p14)) (fun _ => ⟨rfl, rfl, rfl, trivial⟩)))
  (Sim.skip (A := p14)))
  (Sim.seq (Sim.reg (A := p14) (B := p15) (fun _ _ _ => by kernel_rfl))
  (Sim.seq (Sim.reg (A := p15) (B := p15) (fun _ _ _ => by kernel_rfl))
  (Sim.test (A := p15) (B := p14) (fun _ _ _ => by kernel_rfl) (Sim.exit (A := p14) (fun _ => ⟨rfl, rfl, rfl, rfl, rfl, rfl, rfl, rfl, rfl, trivial⟩))
  (Sim.skip (A := p14))))))))))
  (Sim.skip (A := p14)))
  (Sim.seq (Sim.test (A := p14) (B := p14) (fun _ _ _ => by kernel_rfl) (Sim.seq (Sim.reg (A := p14) (B := p0) (fun _ _ _ => by kernel_rfl))
  (Sim.ret (A := p0) (E := (exAt (exAt ex 1 p10) 2 p9)) (fun _ => ⟨rfl, rfl, rfl, trivial⟩)))
  (Sim.skip (A := p14)))
  (Sim.seq (Sim.reg (A := p14) (B := p14) (fun _ _ _ => by kernel_rfl))
  (Sim.seq (Sim.test (A := p14) (B := p14) (fun _ _ _ => by kernel_rfl) (Sim.seq (Sim.test (A := p14) (B := p14) (fun _ _ _ => by kernel_rfl) (Sim.seq (Sim.reg (A := p14) (B := p0) (fun _ _ _ => by kernel_rfl))
  (Sim.ret (A := p0) (E := (exAt (exAt ex 1 p10) 2 p9)) (fun _ => ⟨rfl, rfl, rfl, trivial⟩)))
  (Sim.skip (A := p14)))
  (Sim.seq (Sim.reg (A := p14) (B := p14) (fun _ _ _ => by kernel_rfl))
  (Sim.seq (Sim.reg (A := p14) (B := p14) (fun _ _ _ => by kernel_rfl))
  (Sim.reg (A := p14) (B := p16) (fun _ _ _ => by kernel_rfl)))))
  (Sim.weak (B := p14) (C := p16) (Sim.skip (A := p14)) (fun _ => ⟨rfl, rfl, rfl, rfl, rfl, rfl, rfl, rfl, trivial⟩)))
  (Sim.seq (Sim.test (A := p16) (B := p16) (fun _ _ _ => by kernel_rfl) (Sim.exit (A := p16) (fun _ => ⟨rfl, rfl, rfl, trivial⟩))
  (Sim.skip (A := p16)))
  (Sim.seq (Sim.test (A := p16) (B := p16) (fun _ _ _ => by kernel_rfl) (Sim.seq (Sim.reg (A := p16) (B := p0) (fun _ _ _ => by kernel_rfl))
  (Sim.ret (A := p0) (E := (exAt (exAt ex 1 p10) 2 p9)) (fun _ => ⟨rfl, rfl, rfl, trivial⟩)))
  (Sim.skip (A := p16)))
  (Sim.seq (Sim.reg (A := p16) (B := p17) (fun _ _ _ => by kernel_rfl))
  (Sim.seq (Sim.reg (A := p17) (B := p17) (fun _ _ _ => by kernel_rfl))
  (Sim.seq (Sim.test (A := p17) (B := p17) (fun _ _ _ => by kernel_rfl) (Sim.seq (Sim.reg (A := p17) (B := p0) (fun _ _ _ => by kernel_rfl))
  (Sim.ret (A := p0) (E := (exAt (exAt ex 1 p10) 2 p9)) (fun _ => ⟨rfl, rfl, rfl, trivial⟩)))
  (Sim.skip (A := p17)))
  (Sim.seq (Sim.test (A := p17) (B := p17) (fun _ _ _ => by kernel_rfl) (Sim.seq (Sim.reg (A := p17) (B := p0) (fun _ _ _ => by kernel_rfl))
  (Sim.ret (A := p0) (E := (exAt (exAt ex 1 p10) 2 p9)) (fun _ => ⟨rfl, rfl, rfl, trivial⟩)))
  (Sim.skip (A := p17)))
  (Sim.seq (Sim.test (A := p17) (B := p17) (fun _ _ _ => by kernel_rfl) (Sim.block (B := p17) (Sim.loop (A := p17) (Sim.block (B := p17) (Sim.seq (Sim.test (A := p17) (B := p17) (fun _ _ _ => by kernel_rfl) (Sim.seq (Sim.reg (A := p17) (B := p0) (fun _ _ _ => by kernel_rfl))
  (Sim.ret (A := p0) (E := (exAt (exAt (exAt (exAt ex 1 p10) 2 p9) 5 p17) 6 p17)) (fun _ => ⟨rfl, rfl, rfl, trivial⟩)))
  (Sim.skip (A := p17)))
  (Sim.seq (Sim.reg (A := p17) (B := p18) (fun _ _ _ => by kernel_rfl))
  (Sim.seq (Sim.reg (A := p18) (B := p18) (fun _ _ _ => by kernel_rfl))
  (Sim.seq (Sim.reg (A := p18) (B := p18) (fun _ _ _ => by kernel_rfl))
  (Sim.test (A := p18) (B := p17) (fun _ _ _ => by kernel_rfl) (Sim.seq (Sim.test (A := p17) (B := p17) (fun _ _ _ => by kernel_rfl) (Sim.seq (Sim.reg (A := p17) (B := p0) (fun _ _ _ => by kernel_rfl))
  (Sim.ret (A := p0) (E := (exAt (exAt (exAt (exAt ex 1 p10) 2 p9) 5 p17) 6 p17)) (fun _ => ⟨rfl, rfl, rfl, trivial⟩)))
  (Sim.skip (A := p17)))
  (Sim.exit (A := p17) (fun _ => ⟨rfl, rfl, rfl, rfl, rfl, rfl, rfl, rfl, rfl, trivial⟩)))
  (Sim.skip (A := p17))))))))))
  (Sim.skip (A := p17)))
  (Sim.seq (Sim.test (A := p17) (B := p17) (fun _ _ _ => by kernel_rfl) (Sim.cond (A := p17) (fun _ => false) (fun _ => rfl) (Sim.reg (A := p17) (B := p16) (fun _ _ _ => by kernel_rfl))
  (Sim.seq (Sim.reg (A := p17) (B := p19) (fun _ _ _ => by kernel_rfl))
  (Sim.seq (Sim.reg (A := p19) (B := p20) (fun _ _ _ => by kernel_rfl))
  (Sim.block (B := p16) (Sim.loop (A := p20) (Sim.seq (Sim.test (A := p20) (B := p20) (fun _ _ _ => by kernel_rfl) (Sim.skip (A := p20))
  (Sim.exit (A := p20) (fun _ => ⟨rfl, rfl, rfl, rfl, rfl, rfl, rfl, rfl, trivial⟩)))
  (Sim.block (B := p20) (Sim.seq (Sim.reg (A := p20) (B := p20) (fun _ _ _ => by kernel_rfl))
  (Sim.seq (Sim.test (A := p20) (B := p20) (fun _ _ _ => by kernel_rfl) (Sim.seq (Sim.reg (A := p20) (B := p21) (fun _ _ _ => by kernel_rfl))
  (Sim.seq (Sim.reg (A := p21) (B := p16) (fun _ _ _ => by kernel_rfl))
  (Sim.seq (Sim.reg (A := p16) (B := p16) (fun _ _ _ => by kernel_rfl))
  (Sim.exit (A := p16) (fun _ => ⟨rfl, rfl, rfl, rfl, rfl, rfl, rfl, rfl, trivial⟩)))))
  (Sim.skip (A := p20)))
  (Sim.seq (Sim.test (A := p20) (B := p20) (fun _ _ _ => by kernel_rfl) (Sim.seq (Sim.reg (A := p20) (B := p20) (fun _ _ _ => by kernel_rfl))
  (Sim.seq (Sim.reg (A := p20) (B := p16) (fun _ _ _ => by kernel_rfl))
  (Sim.seq (Sim.reg (A := p16) (B := p16) (fun _ _ _ => by kernel_rfl))
  (Sim.exit (A := p16) (fun _ => ⟨rfl, rfl, rfl, rfl, rfl, rfl, rfl, rfl, trivial⟩)))))
  (Sim.skip (A := p20)))
  (Sim.seq (Sim.test (A := p20) (B := p20) (fun _ _ _ => by kernel_rfl) (Sim.seq (Sim.reg (A := p20) (B := p22) (fun _ _ _ => by kernel_rfl))
  (Sim.seq (Sim.reg (A := p22) (B := p21) (fun _ _ _ => by kernel_rfl))
  (Sim.seq (Sim.reg (A := p21) (B := p21) (fun _ _ _ => by kernel_rfl))
  (Sim.seq (Sim.reg (A := p21) (B := p16) (fun _ _ _ => by kernel_rfl))
  (Sim.seq (Sim.reg (A := p16) (B := p16) (fun _ _ _ => by kernel_rfl))
  (Sim.exit (A := p16) (fun _ => ⟨rfl, rfl, rfl, rfl, rfl, rfl, rfl, rfl, trivial⟩)))))))
  (Sim.skip (A := p20)))
  (Sim.seq (Sim.test (A := p20) (B := p20) (fun _ _ _ => by kernel_rfl) (Sim.seq (Sim.reg (A := p20) (B := p22) (fun _ _ _ => by kernel_rfl))
  (Sim.seq (Sim.reg (A := p22) (B := p22) (fun _ _ _ => by kernel_rfl))
  (Sim.seq (Sim.reg (A := p22) (B := p21) (fun _ _ _ => by kernel_rfl))
  (Sim.seq (Sim.reg (A := p21) (B := p21) (fun _ _ _ => by kernel_rfl))
  (Sim.seq (Sim.reg (A := p21) (B := p16) (fun _ _ _ => by kernel_rfl))
  (Sim.seq (Sim.reg (A := p16) (B := p16) (fun _ _ _ => by kernel_rfl))
  (Sim.exit (A := p16) (fun _ => ⟨rfl, rfl, rfl, rfl, rfl, rfl, rfl, rfl, trivial⟩))))))))
  (Sim.skip (A := p20)))
  (Sim.seq (Sim.reg (A := p20) (B := p20) (fun _ _ _ => by kernel_rfl))
  (Sim.seq (Sim.reg (A := p20) (B := p23) (fun _ _ _ => by kernel_rfl))
  (Sim.seq (Sim.test (A := p23) (B := p23) (fun _ _ _ => by kernel_rfl) (Sim.seq (Sim.reg (A := p23) (B := p24) (fun _ _ _ => by kernel_rfl))
  (Sim.reg (A := p24) (B := p23) (fun _ _ _ => by kernel_rfl)))
  (Sim.skip (A := p23)))
  (Sim.seq (Sim.reg (A := p23) (B := p23) (fun _ _ _ => by kernel_rfl))
  (Sim.seq (Sim.reg (A := p23) (B := p23) (fun _ _ _ => by kernel_rfl))
  (Sim.seq (Sim.reg (A := p23) (B := p24) (fun _ _ _ => by kernel_rfl))
  (Sim.seq (Sim.reg (A := p24) (B := p24) (fun _ _ _ => by kernel_rfl))
  (Sim.seq (Sim.reg (A := p24) (B := p24) (fun _ _ _ => by kernel_rfl))
  (Sim.seq (Sim.reg (A := p24) (B := p24) (fun _ _ _ => by kernel_rfl))
  (Sim.seq (Sim.test (A := p24) (B := p24) (fun _ _ _ => by kernel_rfl) (Sim.seq (Sim.reg (A := p24) (B := p24) (fun _ _ _ => by kernel_rfl))
  (Sim.seq (Sim.reg (A := p24) (B := p20) (fun _ _ _ => by kernel_rfl))
  (Sim.exit (A := p20) (fun _ => ⟨rfl, rfl, rfl, rfl, rfl, rfl, rfl, rfl, rfl, rfl, rfl, trivial⟩))))
  (Sim.weak (B := p24) (C := p16) (Sim.skip (A := p24)) (fun _ => ⟨rfl, rfl, rfl, rfl, rfl, rfl, rfl, rfl, trivial⟩)))
  (Sim.exit (A := p16) (fun _ => ⟨rfl, rfl, rfl, rfl, rfl, rfl, rfl, rfl, trivial⟩))))))))))))))))))))))))
  (Sim.seq (Sim.cond (A := p17) (fun _ => false) (fun _ => rfl) (Sim.reg (A := p17) (B := p25) (fun _ _ _ => by kernel_rfl))
  (Sim.seq (Sim.reg (A := p17) (B := p26) (fun _ _ _ => by kernel_rfl))
  (Sim.seq (Sim.reg (A := p26) (B := p27) (fun _ _ _ => by kernel_rfl))
  (Sim.block (B := p25) (Sim.loop (A := p27) (Sim.seq (Sim.test (A := p27) (B := p27) (fun _ _ _ => by kernel_rfl) (Sim.skip (A := p27))
  (Sim.exit (A := p27) (fun _ => ⟨rfl, rfl, rfl, rfl, rfl, rfl, rfl, rfl, trivial⟩)))
  (Sim.block (Sim.seq (Sim.test (A := p27) (B := p27) (fun _ _ _ => by kernel_rfl) (Sim.seq (Sim.reg (A := p27) (B := p28) (fun _ _ _ => by kernel_rfl))
  (Sim.seq (Sim.test (A := p28) (B := p28) (fun _ _ _ => by kernel_rfl) (Sim.seq (Sim.reg (A := p28) (B := p27) (fun _ _ _ => by kernel_rfl))
  (Sim.seq (Sim.reg (A := p27) (B := p27) (fun _ _ _ => by kernel_rfl))
  (Sim.seq (Sim.reg (A := p27) (B := p27) (fun _ _ _ => by kernel_rfl))
  (Sim.reg (A := p27) (B := p28) (fun _ _ _ => by kernel_rfl)))))
  (Sim.seq (Sim.reg (A := p28) (B := p28) (fun _ _ _ => by kernel_rfl))
  (Sim.seq (Sim.reg (A := p28) (B := p28) (fun _ _ _ => by kernel_rfl))
  (Sim.seq (Sim.reg (A := p28) (B := p28) (fun _ _ _ => by kernel_rfl))
  (Sim.reg (A := p28) (B := p28) (fun _ _ _ => by kernel_rfl))))))
  (Sim.seq (Sim.reg (A := p28) (B := p25) (fun _ _ _ => by kernel_rfl))
  (Sim.exit (A := p25) (fun _ => ⟨rfl, rfl, rfl, rfl, rfl, rfl, rfl, rfl, trivial⟩)))))
  (Sim.skip (A := p27)))
  (Sim.seq (Sim.test (A := p27) (B := p27) (fun _ _ _ => by kernel_rfl) (Sim.seq (Sim.reg (A := p27) (B := p27) (fun _ _ _ => by kernel_rfl))
  (Sim.seq (Sim.reg (A := p27) (B := p27) (fun _ _ _ => by kernel_rfl))
  (Sim.seq (Sim.reg (A := p27) (B := p25) (fun _ _ _ => by kernel_rfl))
  (Sim.seq (Sim.reg (A := p25) (B := p25) (fun _ _ _ => by kernel_rfl))
  (Sim.exit (A := p25) (fun _ => ⟨rfl, rfl, rfl, rfl, rfl, rfl, rfl, rfl, trivial⟩))))))
  (Sim.skip (A := p27)))
  (Sim.seq (Sim.reg (A := p27) (B := p27) (fun _ _ _ => by kernel_rfl))
  (Sim.seq (Sim.reg (A := p27) (B := p25) (fun _ _ _ => by kernel_rfl))
  (Sim.seq (Sim.reg (A := p25) (B := p25) (fun _ _ _ => by kernel_rfl))
  (Sim.exit (A := p25) (fun _ => ⟨rfl, rfl, rfl, rfl, rfl, rfl, rfl, rfl, trivial⟩))))))))))))))
  (Sim.reg (A := p25) (B := p16) (fun _ _ _ => by kernel_rfl))))
  (Sim.seq (Sim.reg (A := p16) (B := p9) (fun _ _ _ => by kernel_rfl))
  (Sim.test (A := p9) (B := p9) (fun _ _ _ => by kernel_rfl) (Sim.seq (Sim.reg (A := p9) (B := p0) (fun _ _ _ => by kernel_rfl))
  (Sim.ret (A := p0) (E := (exAt (exAt ex 1 p10) 2 p9)) (fun _ => ⟨rfl, rfl, rfl, trivial⟩)))
  (Sim.skip (A := p9)))))))))))))))))))))))
  (Sim.seq (Sim.reg (A := p10) (B := p0) (fun _ _ _ => by kernel_rfl))
  (Sim.ret (A := p0) (E := ex) (fun _ => ⟨rfl, rfl, rfl, trivial⟩))))))))))))

def init (x_l : Option Addr) (x_dst : Sl) (x_src : Sl) : St := { x_l := x_l, x_dst := x_dst, x_src := x_src, t6 := Sl.nil, t7 := 0, t8 := undef, x_s := 0, x_d := 0, x_res := 0, x_sz := 0, x_dLimit := 0, x_lastOffset := 0, x_uncompressed := 0, x_token := 0, x_ll := 0, x_ml := 0, x_val := 0, x_offset := 0, x_valq21 := 0, x_length := 0, x_dstq23 := Sl.nil, x_left := 0, x_lengthq25 := 0, x_dstq26 := Sl.nil, x_off := 0, t55 := 0 }

/-- What is left of the results. -/
def res (K : Sl → Int → Value → Heap → Prop) (s : St) (h1 : Heap) : Prop := K s.t6 s.t7 s.t8 h1

/-- The call of '(*pub-pemmican/pub/compress/s2.LZ4Converter).ConvertBlock'. -/
theorem calls (x_l : Option Addr) (x_dst : Sl) (x_src : Sl) (h : Heap) (K : Sl → Int → Value → Heap → Prop)
    (H : stm (init x_l x_dst x_src) h (endK (res K))) : c_Lc2 x_l x_dst x_src h K := by
  have hc : CallsH Pg 74 #[(.pointer x_l), (.slice x_dst.p x_dst.n x_dst.c), (.slice x_src.p x_src.n x_src.c)] h fun v h1 => asT v fun l1 => asC l1 fun v1 l2 => asS v1 fun p1 n1 c1 => asC l2 fun v2 l3 => asI .i64 v2 fun n2 => asC l3 fun v3 l4 => asN l4 (K ⟨p1, n1, c1⟩ n2 v3 h1) :=
    callsH_of_sim (R := p0) (fn := Tryd.f74) (c := Tryd.f74.body.getD .skip) Tryd.func74 rfl Tryd.ntmps74 Tryd.call74 sim (init x_l x_dst x_src) (⟨rfl, rfl, rfl, trivial⟩) (Nat.le_of_ble_eq_true rfl) (fun _ => ⟨rfl, rfl, rfl, trivial⟩) rfl
      (res K) (fun _ _ => by kernel_rfl) H
  refine hc.mono ?_
  intro v hp H
  obtain ⟨l1, rfl, h1⟩ := asT_elim H
  obtain ⟨v1, l2, rfl, h2⟩ := asC_elim h1
  obtain ⟨p1, n1, c1, rfl, h3⟩ := asS_elim h2
  obtain ⟨v2, l3, rfl, h4⟩ := asC_elim h3
  obtain ⟨n2, rfl, h5⟩ := asI_elim h4
  obtain ⟨v3, l4, rfl, h6⟩ := asC_elim h5
  obtain ⟨rfl, h7⟩ := asN_elim h6
  exact ⟨_, _, _, _, _, rfl, h7⟩

end M_Lc2

end Go.Proofs.YtibleenkgmkpmaaDoor

namespace Go.Proofs.YtibleenkgmkpmaaDoor
open Go Go.Vc Go.Proofs

namespace M_Ls2

structure St where
  x_l : Option Addr
  x_dst : Sl
  x_src : Sl
  t6 : Sl
  t7 : Int
  t8 : Value
  x_s : Int
  x_d : Int
  x_res : Int
  x_sz : Int
  x_dLimit : Int
  x_lastOffset : Int
  x_uncompressed : Int
  x_token : Int
  x_ll : Int
  x_ml : Int
  x_val : Int
  x_offset : Int
  x_valq21 : Int
  x_length : Int
  x_dstq23 : Sl
  x_left : Int
  x_lengthq25 : Int
  x_dstq26 : Sl
  x_off : Int
  t55 : Int

def p0 : Pt St where
  env s := [(6, (.slice s.t6.p s.t6.n s.t6.c)), (7, (.int .i64 s.t7)), (8, s.t8)]
  fin e s K := vS e 6 fun p1 n1 c1 => vI e 7 .i64 fun n2 => getV e 8 fun v3 => K { s with t6 := ⟨p1, n1, c1⟩, t7 := n2, t8 := v3 }
  ok := by
    intro e s K h0
    obtain ⟨p1, n1, c1, g1, h2⟩ := gS h0
    obtain ⟨n2, g2, h4⟩ := gI h2
    obtain ⟨w3, g3, h5⟩ := getV_elim h4
    exact ⟨_, ⟨g1, g2, g3, trivial⟩, h5⟩

def p1 : Pt St where
  env s := [(0, (.pointer s.x_l)), (1, (.slice s.x_dst.p s.x_dst.n s.x_dst.c)), (2, (.slice s.x_src.p s.x_src.n s.x_src.c))]
  fin e s K := vP e 0 fun p1 => vS e 1 fun p2 n1 c1 => vS e 2 fun p3 n2 c2 => K { s with x_l := p1, x_dst := ⟨p2, n1, c1⟩, x_src := ⟨p3, n2, c2⟩ }
  ok := by
    intro e s K h0
    obtain ⟨p1, g1, h2⟩ := gP h0
    obtain ⟨p2, n1, c1, g2, h4⟩ := gS h2
    obtain ⟨p3, n2, c2, g3, h6⟩ := gS h4
    exact ⟨_, ⟨g1, g2, g3, trivial⟩, h6⟩

def p2 : Pt St where
  env s := [(0, (.pointer s.x_l)), (1, (.slice s.x_dst.p s.x_dst.n s.x_dst.c)), (2, (.slice s.x_src.p s.x_src.n s.x_src.c)), (9, (.int .i64 s.x_s)), (10, (.int .i64 s.x_d))]
  fin e s K := vP e 0 fun p1 => vS e 1 fun p2 n1 c1 => vS e 2 fun p3 n2 c2 => vI e 9 .i64 fun n3 => vI e 10 .i64 fun n4 => K { s with x_l := p1, x_dst := ⟨p2, n1, c1⟩, x_src := ⟨p3, n2, c2⟩, x_s := n3, x_d := n4 }
  ok := by
    intro e s K h0
    obtain ⟨p1, g1, h2⟩ := gP h0
    obtain ⟨p2, n1, c1, g2, h4⟩ := gS h2
    obtain ⟨p3, n2, c2, g3, h6⟩ := gS h4
    obtain ⟨n3, g4, h8⟩ := gI h6
    obtain ⟨n4, g5, h10⟩ := gI h8
    exact ⟨_, ⟨g1, g2, g3, g4, g5, trivial⟩, h10⟩

def p3 : Pt St where
  env s := [(1, (.slice s.x_dst.p s.x_dst.n s.x_dst.c)), (2, (.slice s.x_src.p s.x_src.n s.x_src.c)), (9, (.int .i64 s.x_s)), (10, (.int .i64 s.x_d))]
  fin e s K := vS e 1 fun p1 n1 c1 => vS e 2 fun p2 n2 c2 => vI e 9 .i64 fun n3 => vI e 10 .i64 fun n4 => K { s with x_dst := ⟨p1, n1, c1⟩, x_src := ⟨p2, n2, c2⟩, x_s := n3, x_d := n4 }
  ok := by
    intro e s K h0
    obtain ⟨p1, n1, c1, g1, h2⟩ := gS h0
    obtain ⟨p2, n2, c2, g2, h4⟩ := gS h2
    obtain ⟨n3, g3, h6⟩ := gI h4
    obtain ⟨n4, g4, h8⟩ := gI h6
    exact ⟨_, ⟨g1, g2, g3, g4, trivial⟩, h8⟩

def p4 : Pt St where
  env s := [(1, (.slice s.x_dst.p s.x_dst.n s.x_dst.c)), (10, (.int .i64 s.x_d)), (11, (.int .i64 s.x_res)), (12, (.int .i64 s.x_sz))]
  fin e s K := vS e 1 fun p1 n1 c1 => vI e 10 .i64 fun n2 => vI e 11 .i64 fun n3 => vI e 12 .i64 fun n4 => K { s with x_dst := ⟨p1, n1, c1⟩, x_d := n2, x_res := n3, x_sz := n4 }
  ok := by
    intro e s K h0
    obtain ⟨p1, n1, c1, g1, h2⟩ := gS h0
    obtain ⟨n2, g2, h4⟩ := gI h2
    obtain ⟨n3, g3, h6⟩ := gI h4
    obtain ⟨n4, g4, h8⟩ := gI h6
    exact ⟨_, ⟨g1, g2, g3, g4, trivial⟩, h8⟩

def p5 : Pt St where
  env s := [(55, (.int .i64 s.t55))]
  fin e s K := vI e 55 .i64 fun n1 => K { s with t55 := n1 }
  ok := by
    intro e s K h0
    obtain ⟨n1, g1, h2⟩ := gI h0
    exact ⟨_, ⟨g1, trivial⟩, h2⟩

def p6 : Pt St where
  env s := []
  fin e s K := K s
  ok := by
    intro e s K h0
    exact ⟨_, trivial, h0⟩

def p7 : Pt St where
  env s := [(1, (.slice s.x_dst.p s.x_dst.n s.x_dst.c)), (2, (.slice s.x_src.p s.x_src.n s.x_src.c)), (9, (.int .i64 s.x_s)), (10, (.int .i64 s.x_d)), (13, (.int .i64 s.x_dLimit))]
  fin e s K := vS e 1 fun p1 n1 c1 => vS e 2 fun p2 n2 c2 => vI e 9 .i64 fun n3 => vI e 10 .i64 fun n4 => vI e 13 .i64 fun n5 => K { s with x_dst := ⟨p1, n1, c1⟩, x_src := ⟨p2, n2, c2⟩, x_s := n3, x_d := n4, x_dLimit := n5 }
  ok := by
    intro e s K h0
    obtain ⟨p1, n1, c1, g1, h2⟩ := gS h0
    obtain ⟨p2, n2, c2, g2, h4⟩ := gS h2
    obtain ⟨n3, g3, h6⟩ := gI h4
    obtain ⟨n4, g4, h8⟩ := gI h6
    obtain ⟨n5, g5, h10⟩ := gI h8
    exact ⟨_, ⟨g1, g2, g3, g4, g5, trivial⟩, h10⟩

def p8 : Pt St where
  env s := [(1, (.slice s.x_dst.p s.x_dst.n s.x_dst.c)), (2, (.slice s.x_src.p s.x_src.n s.x_src.c)), (9, (.int .i64 s.x_s)), (10, (.int .i64 s.x_d)), (13, (.int .i64 s.x_dLimit)), (14, (.int .u16 s.x_lastOffset))]
  fin e s K := vS e 1 fun p1 n1 c1 => vS e 2 fun p2 n2 c2 => vI e 9 .i64 fun n3 => vI e 10 .i64 fun n4 => vI e 13 .i64 fun n5 => vI e 14 .u16 fun n6 => K { s with x_dst := ⟨p1, n1, c1⟩, x_src := ⟨p2, n2, c2⟩, x_s := n3, x_d := n4, x_dLimit := n5, x_lastOffset := n6 }
  ok := by
    intro e s K h0
    obtain ⟨p1, n1, c1, g1, h2⟩ := gS h0
    obtain ⟨p2, n2, c2, g2, h4⟩ := gS h2
    obtain ⟨n3, g3, h6⟩ := gI h4
    obtain ⟨n4, g4, h8⟩ := gI h6
    obtain ⟨n5, g5, h10⟩ := gI h8
    obtain ⟨n6, g6, h12⟩ := gI h10
    exact ⟨_, ⟨g1, g2, g3, g4, g5, g6, trivial⟩, h12⟩

def p9 : Pt St where
  env s := [(1, (.slice s.x_dst.p s.x_dst.n s.x_dst.c)), (2, (.slice s.x_src.p s.x_src.n s.x_src.c)), (9, (.int .i64 s.x_s)), (10, (.int .i64 s.x_d)), (13, (.int .i64 s.x_dLimit)), (14, (.int .u16 s.x_lastOffset)), (15, (.int .i64 s.x_uncompressed))]
  fin e s K := vS e 1 fun p1 n1 c1 => vS e 2 fun p2 n2 c2 => vI e 9 .i64 fun n3 => vI e 10 .i64 fun n4 => vI e 13 .i64 fun n5 => vI e 14 .u16 fun n6 => vI e 15 .i64 fun n7 => K { s with x_dst := ⟨p1, n1, c1⟩, x_src := ⟨p2, n2, c2⟩, x_s := n3, x_d := n4, x_dLimit := n5, x_lastOffset := n6, x_uncompressed := n7 }
  ok := by
    intro e s K h0
    obtain ⟨p1, n1, c1, g1, h2⟩ := gS h0
    obtain ⟨p2, n2, c2, g2, h4⟩ := gS h2
    obtain ⟨n3, g3, h6⟩ := gI h4
    obtain ⟨n4, g4, h8⟩ := gI h6
    obtain ⟨n5, g5, h10⟩ := gI h8
    obtain ⟨n6, g6, h12⟩ := gI h10
    obtain ⟨n7, g7, h14⟩ := gI h12
    exact ⟨_, ⟨g1, g2, g3, g4, g5, g6, g7, trivial⟩, h14⟩

def p10 : Pt St where
  env s := [(1, (.slice s.x_dst.p s.x_dst.n s.x_dst.c)), (10, (.int .i64 s.x_d)), (15, (.int .i64 s.x_uncompressed))]
  fin e s K := vS e 1 fun p1 n1 c1 => vI e 10 .i64 fun n2 => vI e 15 .i64 fun n3 => K { s with x_dst := ⟨p1, n1, c1⟩, x_d := n2, x_uncompressed := n3 }
  ok := by
    intro e s K h0
    obtain ⟨p1, n1, c1, g1, h2⟩ := gS h0
    obtain ⟨n2, g2, h4⟩ := gI h2
    obtain ⟨n3, g3, h6⟩ := gI h4
    exact ⟨_, ⟨g1, g2, g3, trivial⟩, h6⟩

def p11 : Pt St where
  env s := [(1, (.slice s.x_dst.p s.x_dst.n s.x_dst.c)), (2, (.slice s.x_src.p s.x_src.n s.x_src.c)), (9, (.int .i64 s.x_s)), (10, (.int .i64 s.x_d)), (13, (.int .i64 s.x_dLimit)), (14, (.int .u16 s.x_lastOffset)), (15, (.int .i64 s.x_uncompressed)), (16, (.int .u8 s.x_token))]
  fin e s K := vS e 1 fun p1 n1 c1 => vS e 2 fun p2 n2 c2 => vI e 9 .i64 fun n3 => vI e 10 .i64 fun n4 => vI e 13 .i64 fun n5 => vI e 14 .u16 fun n6 => vI e 15 .i64 fun n7 => vI e 16 .u8 fun n8 => K { s with x_dst := ⟨p1, n1, c1⟩, x_src := ⟨p2, n2, c2⟩, x_s := n3, x_d := n4, x_dLimit := n5, x_lastOffset := n6, x_uncompressed := n7, x_token := n8 }
  ok := by
    intro e s K h0
    obtain ⟨p1, n1, c1, g1, h2⟩ := gS h0
    obtain ⟨p2, n2, c2, g2, h4⟩ := gS h2
    obtain ⟨n3, g3, h6⟩ := gI h4
    obtain ⟨n4, g4, h8⟩ := gI h6
    obtain ⟨n5, g5, h10⟩ := gI h8
    obtain ⟨n6, g6, h12⟩ := gI h10
    obtain ⟨n7, g7, h14⟩ := gI h12
    obtain ⟨n8, g8, h16⟩ := gI h14
    exact ⟨_, ⟨g1, g2, g3, g4, g5, g6, g7, g8, trivial⟩, h16⟩

def p12 : Pt St where
  env s := [(1, (.slice s.x_dst.p s.x_dst.n s.x_dst.c)), (2, (.slice s.x_src.p s.x_src.n s.x_src.c)), (9, (.int .i64 s.x_s)), (10, (.int .i64 s.x_d)), (13, (.int .i64 s.x_dLimit)), (14, (.int .u16 s.x_lastOffset)), (15, (.int .i64 s.x_uncompressed)), (16, (.int .u8 s.x_token)), (17, (.int .i64 s.x_ll))]
  fin e s K := vS e 1 fun p1 n1 c1 => vS e 2 fun p2 n2 c2 => vI e 9 .i64 fun n3 => vI e 10 .i64 fun n4 => vI e 13 .i64 fun n5 => vI e 14 .u16 fun n6 => vI e 15 .i64 fun n7 => vI e 16 .u8 fun n8 => vI e 17 .i64 fun n9 => K { s with x_dst := ⟨p1, n1, c1⟩, x_src := ⟨p2, n2, c2⟩, x_s := n3, x_d := n4, x_dLimit := n5, x_lastOffset := n6, x_uncompressed := n7, x_token := n8, x_ll := n9 }
  ok := by
    intro e s K h0
    obtain ⟨p1, n1, c1, g1, h2⟩ := gS h0
    obtain ⟨p2, n2, c2, g2, h4⟩ := gS h2
    obtain ⟨n3, g3, h6⟩ := gI h4
    obtain ⟨n4, g4, h8⟩ := gI h6
    obtain ⟨n5, g5, h10⟩ := gI h8
    obtain ⟨n6, g6, h12⟩ := gI h10
    obtain ⟨n7, g7, h14⟩ := gI h12
    obtain ⟨n8, g8, h16⟩ := gI h14
    obtain ⟨n9, g9, h18⟩ := gI h16
    exact ⟨_, ⟨g1, g2, g3, g4, g5, g6, g7, g8, g9, trivial⟩, h18⟩

def p13 : Pt St where
  env s := [(1, (.slice s.x_dst.p s.x_dst.n s.x_dst.c)), (2, (.slice s.x_src.p s.x_src.n s.x_src.c)), (9, (.int .i64 s.x_s)), (10, (.int .i64 s.x_d)), (13, (.int .i64 s.x_dLimit)), (14, (.int .u16 s.x_lastOffset)), (15, (.int .i64 s.x_uncompressed)), (16, (.int .u8 s.x_token)), (17, (.int .i64 s.x_ll)), (18, (.int .i64 s.x_ml))]
  fin e s K := vS e 1 fun p1 n1 c1 => vS e 2 fun p2 n2 c2 => vI e 9 .i64 fun n3 => vI e 10 .i64 fun n4 => vI e 13 .i64 fun n5 => vI e 14 .u16 fun n6 => vI e 15 .i64 fun n7 => vI e 16 .u8 fun n8 => vI e 17 .i64 fun n9 => vI e 18 .i64 fun n10 => K { s with x_dst := ⟨p1, n1, c1⟩, x_src := ⟨p2, n2, c2⟩, x_s := n3, x_d := n4, x_dLimit := n5, x_lastOffset := n6, x_uncompressed := n7, x_token := n8, x_ll := n9, x_ml := n10 }
  ok := by
    intro e s K h0
    obtain ⟨p1, n1, c1, g1, h2⟩ := gS h0
    obtain ⟨p2, n2, c2, g2, h4⟩ := gS h2
    obtain ⟨n3, g3, h6⟩ := gI h4
    obtain ⟨n4, g4, h8⟩ := gI h6
    obtain ⟨n5, g5, h10⟩ := gI h8
    obtain ⟨n6, g6, h12⟩ := gI h10
    obtain ⟨n7, g7, h14⟩ := gI h12
    obtain ⟨n8, g8, h16⟩ := gI h14
    obtain ⟨n9, g9, h18⟩ := gI h16
    obtain ⟨n10, g10, h20⟩ := gI h18
    exact ⟨_, ⟨g1, g2, g3, g4, g5, g6, g7, g8, g9, g10, trivial⟩, h20⟩

def p14 : Pt St where
  env s := [(1, (.slice s.x_dst.p s.x_dst.n s.x_dst.c)), (2, (.slice s.x_src.p s.x_src.n s.x_src.c)), (9, (.int .i64 s.x_s)), (10, (.int .i64 s.x_d)), (13, (.int .i64 s.x_dLimit)), (14, (.int .u16 s.x_lastOffset)), (15, (.int .i64 s.x_uncompressed)), (17, (.int .i64 s.x_ll)), (18, (.int .i64 s.x_ml))]
  fin e s K := vS e 1 fun p1 n1 c1 => vS e 2 fun p2 n2 c2 => vI e 9 .i64 fun n3 => vI e 10 .i64 fun n4 => vI e 13 .i64 fun n5 => vI e 14 .u16 fun n6 => vI e 15 .i64 fun n7 => vI e 17 .i64 fun n8 => vI e 18 .i64 fun n9 => K { s with x_dst := ⟨p1, n1, c1⟩, x_src := ⟨p2, n2, c2⟩, x_s := n3, x_d := n4, x_dLimit := n5, x_lastOffset := n6, x_uncompressed := n7, x_ll := n8, x_ml := n9 }
  ok := by
    intro e s K h0
    obtain ⟨p1, n1, c1, g1, h2⟩ := gS h0
    obtain ⟨p2, n2, c2, g2, h4⟩ := gS h2
    obtain ⟨n3, g3, h6⟩ := gI h4
    obtain ⟨n4, g4, h8⟩ := gI h6
    obtain ⟨n5, g5, h10⟩ := gI h8
    obtain ⟨n6, g6, h12⟩ := gI h10
    obtain ⟨n7, g7, h14⟩ := gI h12
    obtain ⟨n8, g8, h16⟩ := gI h14
    obtain ⟨n9, g9, h18⟩ := gI h16
    exact ⟨_, ⟨g1, g2, g3, g4, g5, g6, g7, g8, g9, trivial⟩, h18⟩

def p15 : Pt St where
  env s := [(1, (.slice s.x_dst.p s.x_dst.n s.x_dst.c)), (2, (.slice s.x_src.p s.x_src.n s.x_src.c)), (9, (.int .i64 s.x_s)), (10, (.int .i64 s.x_d)), (13, (.int .i64 s.x_dLimit)), (14, (.int .u16 s.x_lastOffset)), (15, (.int .i64 s.x_uncompressed)), (17, (.int .i64 s.x_ll)), (18, (.int .i64 s.x_ml)), (19, (.int .u8 s.x_val))]
  fin e s K := vS e 1 fun p1 n1 c1 => vS e 2 fun p2 n2 c2 => vI e 9 .i64 fun n3 => vI e 10 .i64 fun n4 => vI e 13 .i64 fun n5 => vI e 14 .u16 fun n6 => vI e 15 .i64 fun n7 => vI e 17 .i64 fun n8 => vI e 18 .i64 fun n9 => vI e 19 .u8 fun n10 => K { s with x_dst := ⟨p1, n1, c1⟩, x_src := ⟨p2, n2, c2⟩, x_s := n3, x_d := n4, x_dLimit := n5, x_lastOffset := n6, x_uncompressed := n7, x_ll := n8, x_ml := n9, x_val := n10 }
  ok := by
    intro e s K h0
    obtain ⟨p1, n1, c1, g1, h2⟩ := gS h0
    obtain ⟨p2, n2, c2, g2, h4⟩ := gS h2
    obtain ⟨n3, g3, h6⟩ := gI h4
    obtain ⟨n4, g4, h8⟩ := gI h6
    obtain ⟨n5, g5, h10⟩ := gI h8
    obtain ⟨n6, g6, h12⟩ := gI h10
    obtain ⟨n7, g7, h14⟩ := gI h12
    obtain ⟨n8, g8, h16⟩ := gI h14
    obtain ⟨n9, g9, h18⟩ := gI h16
    obtain ⟨n10, g10, h20⟩ := gI h18
    exact ⟨_, ⟨g1, g2, g3, g4, g5, g6, g7, g8, g9, g10, trivial⟩, h20⟩

def p16 : Pt St where
  env s := [(1, (.slice s.x_dst.p s.x_dst.n s.x_dst.c)), (2, (.slice s.x_src.p s.x_src.n s.x_src.c)), (9, (.int .i64 s.x_s)), (10, (.int .i64 s.x_d)), (13, (.int .i64 s.x_dLimit)), (14, (.int .u16 s.x_lastOffset)), (15, (.int .i64 s.x_uncompressed)), (18, (.int .i64 s.x_ml))]
  fin e s K := vS e 1 fun p1 n1 c1 => vS e 2 fun p2 n2 c2 => vI e 9 .i64 fun n3 => vI e 10 .i64 fun n4 => vI e 13 .i64 fun n5 => vI e 14 .u16 fun n6 => vI e 15 .i64 fun n7 => vI e 18 .i64 fun n8 => K { s with x_dst := ⟨p1, n1, c1⟩, x_src := ⟨p2, n2, c2⟩, x_s := n3, x_d := n4, x_dLimit := n5, x_lastOffset := n6, x_uncompressed := n7, x_ml := n8 }
  ok := by
    intro e s K h0
    obtain ⟨p1, n1, c1, g1, h2⟩ := gS h0
    obtain ⟨p2, n2, c2, g2, h4⟩ := gS h2
    obtain ⟨n3, g3, h6⟩ := gI h4
    obtain ⟨n4, g4, h8⟩ := gI h6
    obtain ⟨n5, g5, h10⟩ := gI h8
    obtain ⟨n6, g6, h12⟩ := gI h10
    obtain ⟨n7, g7, h14⟩ := gI h12
    obtain ⟨n8, g8, h16⟩ := gI h14
    exact ⟨_, ⟨g1, g2, g3, g4, g5, g6, g7, g8, trivial⟩, h16⟩

def p17 : Pt St where
  env s := [(1, (.slice s.x_dst.p s.x_dst.n s.x_dst.c)), (2, (.slice s.x_src.p s.x_src.n s.x_src.c)), (9, (.int .i64 s.x_s)), (10, (.int .i64 s.x_d)), (13, (.int .i64 s.x_dLimit)), (14, (.int .u16 s.x_lastOffset)), (15, (.int .i64 s.x_uncompressed)), (18, (.int .i64 s.x_ml)), (20, (.int .u16 s.x_offset))]
  fin e s K := vS e 1 fun p1 n1 c1 => vS e 2 fun p2 n2 c2 => vI e 9 .i64 fun n3 => vI e 10 .i64 fun n4 => vI e 13 .i64 fun n5 => vI e 14 .u16 fun n6 => vI e 15 .i64 fun n7 => vI e 18 .i64 fun n8 => vI e 20 .u16 fun n9 => K { s with x_dst := ⟨p1, n1, c1⟩, x_src := ⟨p2, n2, c2⟩, x_s := n3, x_d := n4, x_dLimit := n5, x_lastOffset := n6, x_uncompressed := n7, x_ml := n8, x_offset := n9 }
  ok := by
    intro e s K h0
    obtain ⟨p1, n1, c1, g1, h2⟩ := gS h0
    obtain ⟨p2, n2, c2, g2, h4⟩ := gS h2
    obtain ⟨n3, g3, h6⟩ := gI h4
    obtain ⟨n4, g4, h8⟩ := gI h6
    obtain ⟨n5, g5, h10⟩ := gI h8
    obtain ⟨n6, g6, h12⟩ := gI h10
    obtain ⟨n7, g7, h14⟩ := gI h12
    obtain ⟨n8, g8, h16⟩ := gI h14
    obtain ⟨n9, g9, h18⟩ := gI h16
    exact ⟨_, ⟨g1, g2, g3, g4, g5, g6, g7, g8, g9, trivial⟩, h18⟩

def p18 : Pt St where
  env s := [(1, (.slice s.x_dst.p s.x_dst.n s.x_dst.c)), (2, (.slice s.x_src.p s.x_src.n s.x_src.c)), (9, (.int .i64 s.x_s)), (10, (.int .i64 s.x_d)), (13, (.int .i64 s.x_dLimit)), (14, (.int .u16 s.x_lastOffset)), (15, (.int .i64 s.x_uncompressed)), (18, (.int .i64 s.x_ml)), (20, (.int .u16 s.x_offset)), (21, (.int .u8 s.x_valq21))]
  fin e s K := vS e 1 fun p1 n1 c1 => vS e 2 fun p2 n2 c2 => vI e 9 .i64 fun n3 => vI e 10 .i64 fun n4 => vI e 13 .i64 fun n5 => vI e 14 .u16 fun n6 => vI e 15 .i64 fun n7 => vI e 18 .i64 fun n8 => vI e 20 .u16 fun n9 => vI e 21 .u8 fun n10 => K { s with x_dst := ⟨p1, n1, c1⟩, x_src := ⟨p2, n2, c2⟩, x_s := n3, x_d := n4, x_dLimit := n5, x_lastOffset := n6, x_uncompressed := n7, x_ml := n8, x_offset := n9, x_valq21 := n10 }
  ok := by
    intro e s K h0
    obtain ⟨p1, n1, c1, g1, h2⟩ := gS h0
    obtain ⟨p2, n2, c2, g2, h4⟩ := gS h2
    obtain ⟨n3, g3, h6⟩ := gI h4
    obtain ⟨n4, g4, h8⟩ := gI h6
    obtain ⟨n5, g5, h10⟩ := gI h8
    obtain ⟨n6, g6, h12⟩ := gI h10
    obtain ⟨n7, g7, h14⟩ := gI h12
    obtain ⟨n8, g8, h16⟩ := gI h14
    obtain ⟨n9, g9, h18⟩ := gI h16
    obtain ⟨n10, g10, h20⟩ := gI h18
    exact ⟨_, ⟨g1, g2, g3, g4, g5, g6, g7, g8, g9, g10, trivial⟩, h20⟩

def p19 : Pt St where
  env s := [(1, (.slice s.x_dst.p s.x_dst.n s.x_dst.c)), (2, (.slice s.x_src.p s.x_src.n s.x_src.c)), (9, (.int .i64 s.x_s)), (10, (.int .i64 s.x_d)), (13, (.int .i64 s.x_dLimit)), (14, (.int .u16 s.x_lastOffset)), (15, (.int .i64 s.x_uncompressed)), (18, (.int .i64 s.x_ml)), (20, (.int .u16 s.x_offset)), (22, (.int .i64 s.x_length))]
  fin e s K := vS e 1 fun p1 n1 c1 => vS e 2 fun p2 n2 c2 => vI e 9 .i64 fun n3 => vI e 10 .i64 fun n4 => vI e 13 .i64 fun n5 => vI e 14 .u16 fun n6 => vI e 15 .i64 fun n7 => vI e 18 .i64 fun n8 => vI e 20 .u16 fun n9 => vI e 22 .i64 fun n10 => K { s with x_dst := ⟨p1, n1, c1⟩, x_src := ⟨p2, n2, c2⟩, x_s := n3, x_d := n4, x_dLimit := n5, x_lastOffset := n6, x_uncompressed := n7, x_ml := n8, x_offset := n9, x_length := n10 }
  ok := by
    intro e s K h0
    obtain ⟨p1, n1, c1, g1, h2⟩ := gS h0
    obtain ⟨p2, n2, c2, g2, h4⟩ := gS h2
    obtain ⟨n3, g3, h6⟩ := gI h4
    obtain ⟨n4, g4, h8⟩ := gI h6
    obtain ⟨n5, g5, h10⟩ := gI h8
    obtain ⟨n6, g6, h12⟩ := gI h10
    obtain ⟨n7, g7, h14⟩ := gI h12
    obtain ⟨n8, g8, h16⟩ := gI h14
    obtain ⟨n9, g9, h18⟩ := gI h16
    obtain ⟨n10, g10, h20⟩ := gI h18
    exact ⟨_, ⟨g1, g2, g3, g4, g5, g6, g7, g8, g9, g10, trivial⟩, h20⟩

def p20 : Pt St where
  env s := [(1, (.slice s.x_dst.p s.x_dst.n s.x_dst.c)), (2, (.slice s.x_src.p s.x_src.n s.x_src.c)), (9, (.int .i64 s.x_s)), (10, (.int .i64 s.x_d)), (13, (.int .i64 s.x_dLimit)), (14, (.int .u16 s.x_lastOffset)), (15, (.int .i64 s.x_uncompressed)), (18, (.int .i64 s.x_ml)), (20, (.int .u16 s.x_offset)), (22, (.int .i64 s.x_length)), (23, (.slice s.x_dstq23.p s.x_dstq23.n s.x_dstq23.c))]
  fin e s K := vS e 1 fun p1 n1 c1 => vS e 2 fun p2 n2 c2 => vI e 9 .i64 fun n3 => vI e 10 .i64 fun n4 => vI e 13 .i64 fun n5 => vI e 14 .u16 fun n6 => vI e 15 .i64 fun n7 => vI e 18 .i64 fun n8 => vI e 20 .u16 fun n9 => vI e 22 .i64 fun n10 => vS e 23 fun p3 n11 c3 => K { s with x_dst := ⟨p1, n1, c1⟩, x_src := ⟨p2, n2, c2⟩, x_s := n3, x_d := n4, x_dLimit := n5, x_lastOffset := n6, x_uncompressed := n7, x_ml := n8, x_offset := n9, x_length := n10, x_dstq23 := ⟨p3, n11, c3⟩ }
  ok := by
    intro e s K h0
    obtain ⟨p1, n1, c1, g1, h2⟩ := gS h0
    obtain ⟨p2, n2, c2, g2, h4⟩ := gS h2
    obtain ⟨n3, g3, h6⟩ := gI h4
    obtain ⟨n4, g4, h8⟩ := gI h6
    obtain ⟨n5, g5, h10⟩ := gI h8
    obtain ⟨n6, g6, h12⟩ := gI h10
    obtain ⟨n7, g7, h14⟩ := gI h12
    obtain ⟨n8, g8, h16⟩ := gI h14
    obtain ⟨n9, g9, h18⟩ := gI h16
    obtain ⟨n10, g10, h20⟩ := gI h18
    obtain ⟨p3, n11, c3, g11, h22⟩ := gS h20
    exact ⟨_, ⟨g1, g2, g3, g4, g5, g6, g7, g8, g9, g10, g11, trivial⟩, h22⟩

def p21 : Pt St where
  env s := [(1, (.slice s.x_dst.p s.x_dst.n s.x_dst.c)), (2, (.slice s.x_src.p s.x_src.n s.x_src.c)), (9, (.int .i64 s.x_s)), (10, (.int .i64 s.x_d)), (13, (.int .i64 s.x_dLimit)), (14, (.int .u16 s.x_lastOffset)), (15, (.int .i64 s.x_uncompressed)), (18, (.int .i64 s.x_ml)), (23, (.slice s.x_dstq23.p s.x_dstq23.n s.x_dstq23.c))]
  fin e s K := vS e 1 fun p1 n1 c1 => vS e 2 fun p2 n2 c2 => vI e 9 .i64 fun n3 => vI e 10 .i64 fun n4 => vI e 13 .i64 fun n5 => vI e 14 .u16 fun n6 => vI e 15 .i64 fun n7 => vI e 18 .i64 fun n8 => vS e 23 fun p3 n9 c3 => K { s with x_dst := ⟨p1, n1, c1⟩, x_src := ⟨p2, n2, c2⟩, x_s := n3, x_d := n4, x_dLimit := n5, x_lastOffset := n6, x_uncompressed := n7, x_ml := n8, x_dstq23 := ⟨p3, n9, c3⟩ }
  ok := by
    intro e s K h0
    obtain ⟨p1, n1, c1, g1, h2⟩ := gS h0
    obtain ⟨p2, n2, c2, g2, h4⟩ := gS h2
    obtain ⟨n3, g3, h6⟩ := gI h4
    obtain ⟨n4, g4, h8⟩ := gI h6
    obtain ⟨n5, g5, h10⟩ := gI h8
    obtain ⟨n6, g6, h12⟩ := gI h10
    obtain ⟨n7, g7, h14⟩ := gI h12
    obtain ⟨n8, g8, h16⟩ := gI h14
    obtain ⟨p3, n9, c3, g9, h18⟩ := gS h16
    exact ⟨_, ⟨g1, g2, g3, g4, g5, g6, g7, g8, g9, trivial⟩, h18⟩

def p22 : Pt St where
  env s := [(1, (.slice s.x_dst.p s.x_dst.n s.x_dst.c)), (2, (.slice s.x_src.p s.x_src.n s.x_src.c)), (9, (.int .i64 s.x_s)), (10, (.int .i64 s.x_d)), (13, (.int .i64 s.x_dLimit)), (14, (.int .u16 s.x_lastOffset)), (15, (.int .i64 s.x_uncompressed)), (18, (.int .i64 s.x_ml)), (22, (.int .i64 s.x_length)), (23, (.slice s.x_dstq23.p s.x_dstq23.n s.x_dstq23.c))]
  fin e s K := vS e 1 fun p1 n1 c1 => vS e 2 fun p2 n2 c2 => vI e 9 .i64 fun n3 => vI e 10 .i64 fun n4 => vI e 13 .i64 fun n5 => vI e 14 .u16 fun n6 => vI e 15 .i64 fun n7 => vI e 18 .i64 fun n8 => vI e 22 .i64 fun n9 => vS e 23 fun p3 n10 c3 => K { s with x_dst := ⟨p1, n1, c1⟩, x_src := ⟨p2, n2, c2⟩, x_s := n3, x_d := n4, x_dLimit := n5, x_lastOffset := n6, x_uncompressed := n7, x_ml := n8, x_length := n9, x_dstq23 := ⟨p3, n10, c3⟩ }
  ok := by
    intro e s K h0
    obtain ⟨p1, n1, c1, g1, h2⟩ := gS h0
    obtain ⟨p2, n2, c2, g2, h4⟩ := gS h2
    obtain ⟨n3, g3, h6⟩ := gI h4
    obtain ⟨n4, g4, h8⟩ := gI h6
    obtain ⟨n5, g5, h10⟩ := gI h8
    obtain ⟨n6, g6, h12⟩ := gI h10
    obtain ⟨n7, g7, h14⟩ := gI h12
    obtain ⟨n8, g8, h16⟩ := gI h14
    obtain ⟨n9, g9, h18⟩ := gI h16
    obtain ⟨p3, n10, c3, g10, h20⟩ := gS h18
    exact ⟨_, ⟨g1, g2, g3, g4, g5, g6, g7, g8, g9, g10, trivial⟩, h20⟩

def p23 : Pt St where
  env s := [(1, (.slice s.x_dst.p s.x_dst.n s.x_dst.c)), (2, (.slice s.x_src.p s.x_src.n s.x_src.c)), (9, (.int .i64 s.x_s)), (10, (.int .i64 s.x_d)), (13, (.int .i64 s.x_dLimit)), (14, (.int .u16 s.x_lastOffset)), (15, (.int .i64 s.x_uncompressed)), (18, (.int .i64 s.x_ml)), (20, (.int .u16 s.x_offset)), (22, (.int .i64 s.x_length)), (23, (.slice s.x_dstq23.p s.x_dstq23.n s.x_dstq23.c)), (24, (.int .i64 s.x_left))]
  fin e s K := vS e 1 fun p1 n1 c1 => vS e 2 fun p2 n2 c2 => vI e 9 .i64 fun n3 => vI e 10 .i64 fun n4 => vI e 13 .i64 fun n5 => vI e 14 .u16 fun n6 => vI e 15 .i64 fun n7 => vI e 18 .i64 fun n8 => vI e 20 .u16 fun n9 => vI e 22 .i64 fun n10 => vS e 23 fun p3 n11 c3 => vI e 24 .i64 fun n12 => K { s with x_dst := ⟨p1, n1, c1⟩, x_src := ⟨p2, n2, c2⟩, x_s := n3, x_d := n4, x_dLimit := n5, x_lastOffset := n6, x_uncompressed := n7, x_ml := n8, x_offset := n9, x_length := n10, x_dstq23 := ⟨p3, n11, c3⟩, x_left := n12 }
  ok := by
    intro e s K h0
    obtain ⟨p1, n1, c1, g1, h2⟩ := gS h0
    obtain ⟨p2, n2, c2, g2, h4⟩ := gS h2
    obtain ⟨n3, g3, h6⟩ := gI h4
    obtain ⟨n4, g4, h8⟩ := gI h6
    obtain ⟨n5, g5, h10⟩ := gI h8
    obtain ⟨n6, g6, h12⟩ := gI h10
    obtain ⟨n7, g7, h14⟩ := gI h12
    obtain ⟨n8, g8, h16⟩ := gI h14
    obtain ⟨n9, g9, h18⟩ := gI h16
    obtain ⟨n10, g10, h20⟩ := gI h18
    obtain ⟨p3, n11, c3, g11, h22⟩ := gS h20
    obtain ⟨n12, g12, h24⟩ := gI h22
    exact ⟨_, ⟨g1, g2, g3, g4, g5, g6, g7, g8, g9, g10, g11, g12, trivial⟩, h24⟩

def p24 : Pt St where
  env s := [(1, (.slice s.x_dst.p s.x_dst.n s.x_dst.c)), (2, (.slice s.x_src.p s.x_src.n s.x_src.c)), (9, (.int .i64 s.x_s)), (10, (.int .i64 s.x_d)), (13, (.int .i64 s.x_dLimit)), (14, (.int .u16 s.x_lastOffset)), (15, (.int .i64 s.x_uncompressed)), (18, (.int .i64 s.x_ml)), (20, (.int .u16 s.x_offset)), (23, (.slice s.x_dstq23.p s.x_dstq23.n s.x_dstq23.c)), (24, (.int .i64 s.x_left))]
  fin e s K := vS e 1 fun p1 n1 c1 => vS e 2 fun p2 n2 c2 => vI e 9 .i64 fun n3 => vI e 10 .i64 fun n4 => vI e 13 .i64 fun n5 => vI e 14 .u16 fun n6 => vI e 15 .i64 fun n7 => vI e 18 .i64 fun n8 => vI e 20 .u16 fun n9 => vS e 23 fun p3 n10 c3 => vI e 24 .i64 fun n11 => K { s with x_dst := ⟨p1, n1, c1⟩, x_src := ⟨p2, n2, c2⟩, x_s := n3, x_d := n4, x_dLimit := n5, x_lastOffset := n6, x_uncompressed := n7, x_ml := n8, x_offset := n9, x_dstq23 := ⟨p3, n10, c3⟩, x_left := n11 }
  ok := by
    intro e s K h0
    obtain ⟨p1, n1, c1, g1, h2⟩ := gS h0
    obtain ⟨p2, n2, c2, g2, h4⟩ := gS h2
    obtain ⟨n3, g3, h6⟩ := gI h4
    obtain ⟨n4, g4, h8⟩ := gI h6
    obtain ⟨n5, g5, h10⟩ := gI h8
    obtain ⟨n6, g6, h12⟩ := gI h10
    obtain ⟨n7, g7, h14⟩ := gI h12
    obtain ⟨n8, g8, h16⟩ := gI h14
    obtain ⟨n9, g9, h18⟩ := gI h16
    obtain ⟨p3, n10, c3, g10, h20⟩ := gS h18
    obtain ⟨n11, g11, h22⟩ := gI h20
    exact ⟨_, ⟨g1, g2, g3, g4, g5, g6, g7, g8, g9, g10, g11, trivial⟩, h22⟩

def p25 : Pt St where
  env s := [(1, (.slice s.x_dst.p s.x_dst.n s.x_dst.c)), (2, (.slice s.x_src.p s.x_src.n s.x_src.c)), (9, (.int .i64 s.x_s)), (10, (.int .i64 s.x_d)), (13, (.int .i64 s.x_dLimit)), (15, (.int .i64 s.x_uncompressed)), (18, (.int .i64 s.x_ml)), (20, (.int .u16 s.x_offset))]
  fin e s K := vS e 1 fun p1 n1 c1 => vS e 2 fun p2 n2 c2 => vI e 9 .i64 fun n3 => vI e 10 .i64 fun n4 => vI e 13 .i64 fun n5 => vI e 15 .i64 fun n6 => vI e 18 .i64 fun n7 => vI e 20 .u16 fun n8 => K { s with x_dst := ⟨p1, n1, c1⟩, x_src := ⟨p2, n2, c2⟩, x_s := n3, x_d := n4, x_dLimit := n5, x_uncompressed := n6, x_ml := n7, x_offset := n8 }
  ok := by
    intro e s K h0
    obtain ⟨p1, n1, c1, g1, h2⟩ := gS h0
    obtain ⟨p2, n2, c2, g2, h4⟩ := gS h2
    obtain ⟨n3, g3, h6⟩ := gI h4
    obtain ⟨n4, g4, h8⟩ := gI h6
    obtain ⟨n5, g5, h10⟩ := gI h8
    obtain ⟨n6, g6, h12⟩ := gI h10
    obtain ⟨n7, g7, h14⟩ := gI h12
    obtain ⟨n8, g8, h16⟩ := gI h14
    exact ⟨_, ⟨g1, g2, g3, g4, g5, g6, g7, g8, trivial⟩, h16⟩

def p26 : Pt St where
  env s := [(1, (.slice s.x_dst.p s.x_dst.n s.x_dst.c)), (2, (.slice s.x_src.p s.x_src.n s.x_src.c)), (9, (.int .i64 s.x_s)), (10, (.int .i64 s.x_d)), (13, (.int .i64 s.x_dLimit)), (15, (.int .i64 s.x_uncompressed)), (18, (.int .i64 s.x_ml)), (20, (.int .u16 s.x_offset)), (25, (.int .i64 s.x_lengthq25))]
  fin e s K := vS e 1 fun p1 n1 c1 => vS e 2 fun p2 n2 c2 => vI e 9 .i64 fun n3 => vI e 10 .i64 fun n4 => vI e 13 .i64 fun n5 => vI e 15 .i64 fun n6 => vI e 18 .i64 fun n7 => vI e 20 .u16 fun n8 => vI e 25 .i64 fun n9 => K { s with x_dst := ⟨p1, n1, c1⟩, x_src := ⟨p2, n2, c2⟩, x_s := n3, x_d := n4, x_dLimit := n5, x_uncompressed := n6, x_ml := n7, x_offset := n8, x_lengthq25 := n9 }
  ok := by
    intro e s K h0
    obtain ⟨p1, n1, c1, g1, h2⟩ := gS h0
    obtain ⟨p2, n2, c2, g2, h4⟩ := gS h2
    obtain ⟨n3, g3, h6⟩ := gI h4
    obtain ⟨n4, g4, h8⟩ := gI h6
    obtain ⟨n5, g5, h10⟩ := gI h8
    obtain ⟨n6, g6, h12⟩ := gI h10
    obtain ⟨n7, g7, h14⟩ := gI h12
    obtain ⟨n8, g8, h16⟩ := gI h14
    obtain ⟨n9, g9, h18⟩ := gI h16
    exact ⟨_, ⟨g1, g2, g3, g4, g5, g6, g7, g8, g9, trivial⟩, h18⟩

def p27 : Pt St where
  env s := [(1, (.slice s.x_dst.p s.x_dst.n s.x_dst.c)), (2, (.slice s.x_src.p s.x_src.n s.x_src.c)), (9, (.int .i64 s.x_s)), (10, (.int .i64 s.x_d)), (13, (.int .i64 s.x_dLimit)), (15, (.int .i64 s.x_uncompressed)), (18, (.int .i64 s.x_ml)), (20, (.int .u16 s.x_offset)), (25, (.int .i64 s.x_lengthq25)), (26, (.slice s.x_dstq26.p s.x_dstq26.n s.x_dstq26.c))]
  fin e s K := vS e 1 fun p1 n1 c1 => vS e 2 fun p2 n2 c2 => vI e 9 .i64 fun n3 => vI e 10 .i64 fun n4 => vI e 13 .i64 fun n5 => vI e 15 .i64 fun n6 => vI e 18 .i64 fun n7 => vI e 20 .u16 fun n8 => vI e 25 .i64 fun n9 => vS e 26 fun p3 n10 c3 => K { s with x_dst := ⟨p1, n1, c1⟩, x_src := ⟨p2, n2, c2⟩, x_s := n3, x_d := n4, x_dLimit := n5, x_uncompressed := n6, x_ml := n7, x_offset := n8, x_lengthq25 := n9, x_dstq26 := ⟨p3, n10, c3⟩ }
  ok := by
    intro e s K h0
    obtain ⟨p1, n1, c1, g1, h2⟩ := gS h0
    obtain ⟨p2, n2, c2, g2, h4⟩ := gS h2
    obtain ⟨n3, g3, h6⟩ := gI h4
    obtain ⟨n4, g4, h8⟩ := gI h6
    obtain ⟨n5, g5, h10⟩ := gI h8
    obtain ⟨n6, g6, h12⟩ := gI h10
    obtain ⟨n7, g7, h14⟩ := gI h12
    obtain ⟨n8, g8, h16⟩ := gI h14
    obtain ⟨n9, g9, h18⟩ := gI h16
    obtain ⟨p3, n10, c3, g10, h20⟩ := gS h18
    exact ⟨_, ⟨g1, g2, g3, g4, g5, g6, g7, g8, g9, g10, trivial⟩, h20⟩

def p28 : Pt St where
  env s := [(1, (.slice s.x_dst.p s.x_dst.n s.x_dst.c)), (2, (.slice s.x_src.p s.x_src.n s.x_src.c)), (9, (.int .i64 s.x_s)), (10, (.int .i64 s.x_d)), (13, (.int .i64 s.x_dLimit)), (15, (.int .i64 s.x_uncompressed)), (18, (.int .i64 s.x_ml)), (20, (.int .u16 s.x_offset)), (25, (.int .i64 s.x_lengthq25)), (26, (.slice s.x_dstq26.p s.x_dstq26.n s.x_dstq26.c)), (27, (.int .i64 s.x_off))]
  fin e s K := vS e 1 fun p1 n1 c1 => vS e 2 fun p2 n2 c2 => vI e 9 .i64 fun n3 => vI e 10 .i64 fun n4 => vI e 13 .i64 fun n5 => vI e 15 .i64 fun n6 => vI e 18 .i64 fun n7 => vI e 20 .u16 fun n8 => vI e 25 .i64 fun n9 => vS e 26 fun p3 n10 c3 => vI e 27 .i64 fun n11 => K { s with x_dst := ⟨p1, n1, c1⟩, x_src := ⟨p2, n2, c2⟩, x_s := n3, x_d := n4, x_dLimit := n5, x_uncompressed := n6, x_ml := n7, x_offset := n8, x_lengthq25 := n9, x_dstq26 := ⟨p3, n10, c3⟩, x_off := n11 }
  ok := by
    intro e s K h0
    obtain ⟨p1, n1, c1, g1, h2⟩ := gS h0
    obtain ⟨p2, n2, c2, g2, h4⟩ := gS h2
    obtain ⟨n3, g3, h6⟩ := gI h4
    obtain ⟨n4, g4, h8⟩ := gI h6
    obtain ⟨n5, g5, h10⟩ := gI h8
    obtain ⟨n6, g6, h12⟩ := gI h10
    obtain ⟨n7, g7, h14⟩ := gI h12
    obtain ⟨n8, g8, h16⟩ := gI h14
    obtain ⟨n9, g9, h18⟩ := gI h16
    obtain ⟨p3, n10, c3, g10, h20⟩ := gS h18
    obtain ⟨n11, g11, h22⟩ := gI h20
    exact ⟨_, ⟨g1, g2, g3, g4, g5, g6, g7, g8, g9, g10, g11, trivial⟩, h22⟩

def r0 (s : St) (h : Heap) (Q : St → Heap → Prop) : Prop :=
  Q s h

def r1 (s : St) (h : Heap) (Q : Bool → St → Heap → Prop) : Prop :=
  Q (((s.x_src.n : Nat) : Int) == (0 : Int)) s h

def r2 (s : St) (h : Heap) (Q : St → Heap → Prop) : Prop :=
  Q { s with t6 := s.x_dst, t7 := (0 : Int), t8 := .nilIface } h

def r3 (s : St) (h : Heap) (Q : St → Heap → Prop) : Prop :=
  Q { s with x_s := (0 : Int), x_d := ((s.x_dst.n : Nat) : Int) } h

def r4 (s : St) (h : Heap) (Q : St → Heap → Prop) : Prop :=
  0 ≤ ((s.x_dst.c : Nat) : Int) ∧ ((s.x_dst.c : Nat) : Int) ≤ ((s.x_dst.c : Nat) : Int) ∧
  Q { s with x_dst := ⟨(subP s.x_dst.p 0 s.x_dst.c 1), ((Int.toNat ((s.x_dst.c : Nat) : Int)) - 0), (s.x_dst.c - 0)⟩ } h

def r5 (s : St) (h : Heap) (Q : Bool → St → Heap → Prop) : Prop :=
  Q false s h

def r6 (s : St) (h : Heap) (Q : St → Heap → Prop) : Prop :=
  0 ≤ s.x_d ∧ s.x_d ≤ ((s.x_dst.n : Nat) : Int) ∧
  c_cvtLZ4sBlockAsm ⟨(subP s.x_dst.p (Int.toNat s.x_d) s.x_dst.c 1), (s.x_dst.n - (Int.toNat s.x_d)), (s.x_dst.c - (Int.toNat s.x_d))⟩ s.x_src h fun r2 r3 h1 =>
  Q { s with x_res := r2, x_sz := r3 } h1

def r7 (s : St) (h : Heap) (Q : Bool → St → Heap → Prop) : Prop :=
  Q (decide (s.x_res < (0 : Int))) s h

def r8 (s : St) (h : Heap) (Q : St → Heap → Prop) : Prop :=
  Q { s with t55 := s.x_res } h

def r9 (s : St) (h : Heap) (Q : St → Heap → Prop) : Prop :=
  c_New (ByteArray.mk #[117, 110, 101, 120, 112, 101, 99, 116, 101, 100, 32, 114, 101, 115, 117, 108, 116, 58]) h fun u2 h1 =>
  Q { s with t6 := ⟨none, 0, 0⟩, t7 := (0 : Int), t8 := u2 } h1

def r10 (s : St) (h : Heap) (Q : Bool → St → Heap → Prop) : Prop :=
  Q (s.t55 == (-1 : Int)) s h

def r11 (s : St) (h : Heap) (Q : St → Heap → Prop) : Prop :=
  ∃ u1 : Value, hcell h ⟨0, 0, none⟩ = some u1 ∧
  Q { s with t6 := ⟨none, 0, 0⟩, t7 := (0 : Int), t8 := u1 } h

def r12 (s : St) (h : Heap) (Q : Bool → St → Heap → Prop) : Prop :=
  Q (s.t55 == (-2 : Int)) s h

def r13 (s : St) (h : Heap) (Q : St → Heap → Prop) : Prop :=
  ∃ u1 : Value, hcell h ⟨2, 0, none⟩ = some u1 ∧
  Q { s with t6 := ⟨none, 0, 0⟩, t7 := (0 : Int), t8 := u1 } h

def r14 (s : St) (h : Heap) (Q : Bool → St → Heap → Prop) : Prop :=
  Q (decide ((IntKind.wrap .i64 (s.x_d + s.x_sz)) > ((s.x_dst.n : Nat) : Int))) s h

def r15 (s : St) (h : Heap) (Q : St → Heap → Prop) : Prop :=
  ∃ u1 : Value, hcell h ⟨2, 0, none⟩ = some u1 ∧
  Q { s with t6 := ⟨none, 0, 0⟩, t7 := (0 : Int), t8 := u1 } h

def r16 (s : St) (h : Heap) (Q : St → Heap → Prop) : Prop :=
  0 ≤ (IntKind.wrap .i64 (s.x_d + s.x_sz)) ∧ (IntKind.wrap .i64 (s.x_d + s.x_sz)) ≤ ((s.x_dst.c : Nat) : Int) ∧
  Q { s with t6 := ⟨(subP s.x_dst.p 0 s.x_dst.c 1), ((Int.toNat (IntKind.wrap .i64 (s.x_d + s.x_sz))) - 0), (s.x_dst.c - 0)⟩, t7 := s.x_res, t8 := .nilIface } h

def r17 (s : St) (h : Heap) (Q : St → Heap → Prop) : Prop :=
  Q { s with x_dLimit := (IntKind.wrap .i64 (((s.x_dst.n : Nat) : Int) - (10 : Int))) } h

def r18 (s : St) (h : Heap) (Q : St → Heap → Prop) : Prop :=
  Q { s with x_lastOffset := (0 : Int) } h

def r19 (s : St) (h : Heap) (Q : St → Heap → Prop) : Prop :=
  Q { s with x_uncompressed := (0 : Int) } h

def r20 (s : St) (h : Heap) (Q : Bool → St → Heap → Prop) : Prop :=
  Q (decide (s.x_s ≥ ((s.x_src.n : Nat) : Int))) s h

def r21 (s : St) (h : Heap) (Q : St → Heap → Prop) : Prop :=
  0 ≤ s.x_d ∧ s.x_d ≤ ((s.x_dst.c : Nat) : Int) ∧
  ∃ u1 : Value, hcell h ⟨0, 0, none⟩ = some u1 ∧
  Q { s with t6 := ⟨(subP s.x_dst.p 0 s.x_dst.c 1), ((Int.toNat s.x_d) - 0), (s.x_dst.c - 0)⟩, t7 := (0 : Int), t8 := u1 } h

def r22 (s : St) (h : Heap) (Q : St → Heap → Prop) : Prop :=
  0 ≤ s.x_s ∧ s.x_s < ((s.x_src.n : Nat) : Int) ∧
  ptrE s.x_src.p fun a1 =>
  ∃ v2 : Int, hcell h (Addr.add a1 (Int.toNat s.x_s * 1)) = some (.int .u8 v2) ∧
  Q { s with x_token := v2 } h

def r23 (s : St) (h : Heap) (Q : St → Heap → Prop) : Prop :=
  Q { s with x_ll := (IntKind.wrap .i64 (Int.fdiv s.x_token (2 ^ (4 : Nat)))) } h

def r24 (s : St) (h : Heap) (Q : St → Heap → Prop) : Prop :=
  Q { s with x_ml := (IntKind.wrap .i64 (IntKind.wrap .u8 ((3 : Int) + (bAnd .u8 s.x_token (15 : Int))))) } h

def r25 (s : St) (h : Heap) (Q : Bool → St → Heap → Prop) : Prop :=
  Q (decide (s.x_token ≥ (240 : Int))) s h

def r26 (s : St) (h : Heap) (Q : St → Heap → Prop) : Prop :=
  Q { s with x_s := (IntKind.wrap .i64 (s.x_s + (1 : Int))) } h

def r27 (s : St) (h : Heap) (Q : Bool → St → Heap → Prop) : Prop :=
  Q (decide (s.x_s ≥ ((s.x_src.n : Nat) : Int))) s h

def r28 (s : St) (h : Heap) (Q : St → Heap → Prop) : Prop :=
  0 ≤ s.x_d ∧ s.x_d ≤ ((s.x_dst.c : Nat) : Int) ∧
  ∃ u1 : Value, hcell h ⟨0, 0, none⟩ = some u1 ∧
  Q { s with t6 := ⟨(subP s.x_dst.p 0 s.x_dst.c 1), ((Int.toNat s.x_d) - 0), (s.x_dst.c - 0)⟩, t7 := (0 : Int), t8 := u1 } h

def r29 (s : St) (h : Heap) (Q : St → Heap → Prop) : Prop :=
  0 ≤ s.x_s ∧ s.x_s < ((s.x_src.n : Nat) : Int) ∧
  ptrE s.x_src.p fun a1 =>
  ∃ v2 : Int, hcell h (Addr.add a1 (Int.toNat s.x_s * 1)) = some (.int .u8 v2) ∧
  Q { s with x_val := v2 } h

def r30 (s : St) (h : Heap) (Q : St → Heap → Prop) : Prop :=
  Q { s with x_ll := (IntKind.wrap .i64 (s.x_ll + (IntKind.wrap .i64 s.x_val))) } h

def r31 (s : St) (h : Heap) (Q : Bool → St → Heap → Prop) : Prop :=
  Q (s.x_val != (255 : Int)) s h

def r32 (s : St) (h : Heap) (Q : Bool → St → Heap → Prop) : Prop :=
  Q (decide ((IntKind.wrap .i64 (s.x_s + s.x_ll)) ≥ ((s.x_src.n : Nat) : Int))) s h

def r33 (s : St) (h : Heap) (Q : St → Heap → Prop) : Prop :=
  ∃ u1 : Value, hcell h ⟨0, 0, none⟩ = some u1 ∧
  Q { s with t6 := ⟨none, 0, 0⟩, t7 := (0 : Int), t8 := u1 } h

def r34 (s : St) (h : Heap) (Q : St → Heap → Prop) : Prop :=
  Q { s with x_s := (IntKind.wrap .i64 (s.x_s + (1 : Int))) } h

def r35 (s : St) (h : Heap) (Q : Bool → St → Heap → Prop) : Prop :=
  Q (decide (s.x_ll > (0 : Int))) s h

def r36 (s : St) (h : Heap) (Q : Bool → St → Heap → Prop) : Prop :=
  Q (decide ((IntKind.wrap .i64 (s.x_d + s.x_ll)) > (IntKind.wrap .i64 (((s.x_dst.n : Nat) : Int) - (13 : Int))))) s h

def r37 (s : St) (h : Heap) (Q : St → Heap → Prop) : Prop :=
  ∃ u1 : Value, hcell h ⟨2, 0, none⟩ = some u1 ∧
  Q { s with t6 := ⟨none, 0, 0⟩, t7 := (0 : Int), t8 := u1 } h

def r38 (s : St) (h : Heap) (Q : St → Heap → Prop) : Prop :=
  0 ≤ s.x_d ∧ s.x_d ≤ ((s.x_dst.n : Nat) : Int) ∧
  0 ≤ (IntKind.wrap .i64 (s.x_s + s.x_ll)) ∧ (IntKind.wrap .i64 (s.x_s + s.x_ll)) ≤ ((s.x_src.c : Nat) : Int) ∧
  0 ≤ s.x_s ∧ s.x_s ≤ (((Int.toNat (IntKind.wrap .i64 (s.x_s + s.x_ll))) : Nat) : Int) ∧
  c_emitLiteralGo ⟨(subP s.x_dst.p (Int.toNat s.x_d) s.x_dst.c 1), (s.x_dst.n - (Int.toNat s.x_d)), (s.x_dst.c - (Int.toNat s.x_d))⟩ ⟨(subP s.x_src.p (Int.toNat s.x_s) s.x_src.c 1), ((Int.toNat (IntKind.wrap .i64 (s.x_s + s.x_ll))) - (Int.toNat s.x_s)), (s.x_src.c - (Int.toNat s.x_s))⟩ h fun r2 h1 =>
  Q { s with x_d := (IntKind.wrap .i64 (s.x_d + r2)) } h1

def r39 (s : St) (h : Heap) (Q : St → Heap → Prop) : Prop :=
  Q { s with x_s := (IntKind.wrap .i64 (s.x_s + s.x_ll)) } h

def r40 (s : St) (h : Heap) (Q : St → Heap → Prop) : Prop :=
  Q { s with x_uncompressed := (IntKind.wrap .i64 (s.x_uncompressed + s.x_ll)) } h

def r41 (s : St) (h : Heap) (Q : Bool → St → Heap → Prop) : Prop :=
  Q (s.x_ml == (3 : Int)) s h

def r42 (s : St) (h : Heap) (Q : Bool → St → Heap → Prop) : Prop :=
  Q (s.x_s == ((s.x_src.n : Nat) : Int)) s h

def r43 (s : St) (h : Heap) (Q : Bool → St → Heap → Prop) : Prop :=
  Q (decide (s.x_s ≥ (IntKind.wrap .i64 (((s.x_src.n : Nat) : Int) - (2 : Int))))) s h

def r44 (s : St) (h : Heap) (Q : St → Heap → Prop) : Prop :=
  ∃ u1 : Value, hcell h ⟨0, 0, none⟩ = some u1 ∧
  Q { s with t6 := ⟨none, 0, 0⟩, t7 := (0 : Int), t8 := u1 } h

def r45 (s : St) (h : Heap) (Q : St → Heap → Prop) : Prop :=
  0 ≤ s.x_s ∧ s.x_s ≤ ((s.x_src.n : Nat) : Int) ∧
  c_littleEndian_Uint16 ⟨(subP s.x_src.p (Int.toNat s.x_s) s.x_src.c 1), (s.x_src.n - (Int.toNat s.x_s)), (s.x_src.c - (Int.toNat s.x_s))⟩ h fun r2 h1 =>
  Q { s with x_offset := r2 } h1

def r46 (s : St) (h : Heap) (Q : St → Heap → Prop) : Prop :=
  Q { s with x_s := (IntKind.wrap .i64 (s.x_s + (2 : Int))) } h

def r47 (s : St) (h : Heap) (Q : Bool → St → Heap → Prop) : Prop :=
  Q (s.x_offset == (0 : Int)) s h

def r48 (s : St) (h : Heap) (Q : St → Heap → Prop) : Prop :=
  ∃ u1 : Value, hcell h ⟨0, 0, none⟩ = some u1 ∧
  Q { s with t6 := ⟨none, 0, 0⟩, t7 := (0 : Int), t8 := u1 } h

def r49 (s : St) (h : Heap) (Q : Bool → St → Heap → Prop) : Prop :=
  Q (decide ((IntKind.wrap .i64 s.x_offset) > s.x_uncompressed)) s h

def r50 (s : St) (h : Heap) (Q : St → Heap → Prop) : Prop :=
  ∃ u1 : Value, hcell h ⟨0, 0, none⟩ = some u1 ∧
  Q { s with t6 := ⟨none, 0, 0⟩, t7 := (0 : Int), t8 := u1 } h

def r51 (s : St) (h : Heap) (Q : Bool → St → Heap → Prop) : Prop :=
  Q (s.x_ml == (18 : Int)) s h

def r52 (s : St) (h : Heap) (Q : Bool → St → Heap → Prop) : Prop :=
  Q (decide (s.x_s ≥ ((s.x_src.n : Nat) : Int))) s h

def r53 (s : St) (h : Heap) (Q : St → Heap → Prop) : Prop :=
  ∃ u1 : Value, hcell h ⟨0, 0, none⟩ = some u1 ∧
  Q { s with t6 := ⟨none, 0, 0⟩, t7 := (0 : Int), t8 := u1 } h

def r54 (s : St) (h : Heap) (Q : St → Heap → Prop) : Prop :=
  0 ≤ s.x_s ∧ s.x_s < ((s.x_src.n : Nat) : Int) ∧
  ptrE s.x_src.p fun a1 =>
  ∃ v2 : Int, hcell h (Addr.add a1 (Int.toNat s.x_s * 1)) = some (.int .u8 v2) ∧
  Q { s with x_valq21 := v2 } h

def r55 (s : St) (h : Heap) (Q : St → Heap → Prop) : Prop :=
  Q { s with x_s := (IntKind.wrap .i64 (s.x_s + (1 : Int))) } h

def r56 (s : St) (h : Heap) (Q : St → Heap → Prop) : Prop :=
  Q { s with x_ml := (IntKind.wrap .i64 (s.x_ml + (IntKind.wrap .i64 s.x_valq21))) } h

def r57 (s : St) (h : Heap) (Q : Bool → St → Heap → Prop) : Prop :=
  Q (s.x_valq21 != (255 : Int)) s h

def r58 (s : St) (h : Heap) (Q : Bool → St → Heap → Prop) : Prop :=
  Q (decide (s.x_s ≥ ((s.x_src.n : Nat) : Int))) s h

def r59 (s : St) (h : Heap) (Q : St → Heap → Prop) : Prop :=
  ∃ u1 : Value, hcell h ⟨0, 0, none⟩ = some u1 ∧
  Q { s with t6 := ⟨none, 0, 0⟩, t7 := (0 : Int), t8 := u1 } h

def r60 (s : St) (h : Heap) (Q : Bool → St → Heap → Prop) : Prop :=
  Q (s.x_offset == s.x_lastOffset) s h

def r61 (s : St) (h : Heap) (Q : St → Heap → Prop) : Prop :=
  0 ≤ s.x_d ∧ s.x_d ≤ ((s.x_dst.n : Nat) : Int) ∧
  c_emitRepeat16 ⟨(subP s.x_dst.p (Int.toNat s.x_d) s.x_dst.c 1), (s.x_dst.n - (Int.toNat s.x_d)), (s.x_dst.c - (Int.toNat s.x_d))⟩ s.x_offset s.x_ml h fun r2 h1 =>
  Q { s with x_d := (IntKind.wrap .i64 (s.x_d + r2)) } h1

def r62 (s : St) (h : Heap) (Q : St → Heap → Prop) : Prop :=
  Q { s with x_length := s.x_ml } h

def r63 (s : St) (h : Heap) (Q : St → Heap → Prop) : Prop :=
  0 ≤ s.x_d ∧ s.x_d ≤ ((s.x_dst.n : Nat) : Int) ∧
  Q { s with x_dstq23 := ⟨(subP s.x_dst.p (Int.toNat s.x_d) s.x_dst.c 1), (s.x_dst.n - (Int.toNat s.x_d)), (s.x_dst.c - (Int.toNat s.x_d))⟩ } h

def r64 (s : St) (h : Heap) (Q : Bool → St → Heap → Prop) : Prop :=
  Q (decide (((s.x_dstq23.n : Nat) : Int) > (5 : Int))) s h

def r65 (s : St) (h : Heap) (Q : St → Heap → Prop) : Prop :=
  Q { s with x_length := (IntKind.wrap .i64 (s.x_length - (4 : Int))) } h

def r66 (s : St) (h : Heap) (Q : Bool → St → Heap → Prop) : Prop :=
  Q (decide (s.x_length ≤ (4 : Int))) s h

def r67 (s : St) (h : Heap) (Q : St → Heap → Prop) : Prop :=
  0 ≤ (0 : Int) ∧ (0 : Int) < ((s.x_dstq23.n : Nat) : Int) ∧
  ptrE s.x_dstq23.p fun a1 =>
  st1 (Addr.add (Addr.add a1 (Int.toNat (0 : Int) * 1)) 0) (.int .u8 (bOr .u8 (IntKind.wrap .u8 ((IntKind.wrap .u8 s.x_length) * 2 ^ (2 : Nat))) (1 : Int))) h fun h2 =>
  Q s h2

def r68 (s : St) (h : Heap) (Q : St → Heap → Prop) : Prop :=
  0 ≤ (1 : Int) ∧ (1 : Int) < ((s.x_dstq23.n : Nat) : Int) ∧
  ptrE s.x_dstq23.p fun a1 =>
  st1 (Addr.add (Addr.add a1 (Int.toNat (1 : Int) * 1)) 0) (.int .u8 (0 : Int)) h fun h2 =>
  Q s h2

def r69 (s : St) (h : Heap) (Q : St → Heap → Prop) : Prop :=
  Q { s with x_d := (IntKind.wrap .i64 (s.x_d + (2 : Int))) } h

def r70 (s : St) (h : Heap) (Q : Bool → St → Heap → Prop) : Prop :=
  (if (decide (s.x_length < (8 : Int))) = true then
  (Q (decide (s.x_offset < (2048 : Int))) s h)
  else
  (Q false s h))

def r71 (s : St) (h : Heap) (Q : St → Heap → Prop) : Prop :=
  0 ≤ (1 : Int) ∧ (1 : Int) < ((s.x_dstq23.n : Nat) : Int) ∧
  ptrE s.x_dstq23.p fun a1 =>
  st1 (Addr.add (Addr.add a1 (Int.toNat (1 : Int) * 1)) 0) (.int .u8 (IntKind.wrap .u8 s.x_offset)) h fun h2 =>
  Q s h2

def r72 (s : St) (h : Heap) (Q : St → Heap → Prop) : Prop :=
  0 ≤ (0 : Int) ∧ (0 : Int) < ((s.x_dstq23.n : Nat) : Int) ∧
  ptrE s.x_dstq23.p fun a1 =>
  st1 (Addr.add (Addr.add a1 (Int.toNat (0 : Int) * 1)) 0) (.int .u8 (bOr .u8 (bOr .u8 (IntKind.wrap .u8 ((IntKind.wrap .u8 (Int.fdiv s.x_offset (2 ^ (8 : Nat)))) * 2 ^ (5 : Nat))) (IntKind.wrap .u8 ((IntKind.wrap .u8 s.x_length) * 2 ^ (2 : Nat)))) (1 : Int))) h fun h2 =>
  Q s h2

def r73 (s : St) (h : Heap) (Q : St → Heap → Prop) : Prop :=
  Q { s with x_d := (IntKind.wrap .i64 (s.x_d + (2 : Int))) } h

def r74 (s : St) (h : Heap) (Q : Bool → St → Heap → Prop) : Prop :=
  Q (decide (s.x_length < (260 : Int))) s h

def r75 (s : St) (h : Heap) (Q : St → Heap → Prop) : Prop :=
  Q { s with x_length := (IntKind.wrap .i64 (s.x_length - (4 : Int))) } h

def r76 (s : St) (h : Heap) (Q : St → Heap → Prop) : Prop :=
  0 ≤ (2 : Int) ∧ (2 : Int) < ((s.x_dstq23.n : Nat) : Int) ∧
  ptrE s.x_dstq23.p fun a1 =>
  st1 (Addr.add (Addr.add a1 (Int.toNat (2 : Int) * 1)) 0) (.int .u8 (IntKind.wrap .u8 s.x_length)) h fun h2 =>
  Q s h2

def r77 (s : St) (h : Heap) (Q : St → Heap → Prop) : Prop :=
  0 ≤ (1 : Int) ∧ (1 : Int) < ((s.x_dstq23.n : Nat) : Int) ∧
  ptrE s.x_dstq23.p fun a1 =>
  st1 (Addr.add (Addr.add a1 (Int.toNat (1 : Int) * 1)) 0) (.int .u8 (0 : Int)) h fun h2 =>
  Q s h2

def r78 (s : St) (h : Heap) (Q : St → Heap → Prop) : Prop :=
  0 ≤ (0 : Int) ∧ (0 : Int) < ((s.x_dstq23.n : Nat) : Int) ∧
  ptrE s.x_dstq23.p fun a1 =>
  st1 (Addr.add (Addr.add a1 (Int.toNat (0 : Int) * 1)) 0) (.int .u8 (21 : Int)) h fun h2 =>
  Q s h2

def r79 (s : St) (h : Heap) (Q : St → Heap → Prop) : Prop :=
  Q { s with x_d := (IntKind.wrap .i64 (s.x_d + (3 : Int))) } h

def r80 (s : St) (h : Heap) (Q : Bool → St → Heap → Prop) : Prop :=
  Q (decide (s.x_length < (65792 : Int))) s h

def r81 (s : St) (h : Heap) (Q : St → Heap → Prop) : Prop :=
  Q { s with x_length := (IntKind.wrap .i64 (s.x_length - (256 : Int))) } h

def r82 (s : St) (h : Heap) (Q : St → Heap → Prop) : Prop :=
  0 ≤ (3 : Int) ∧ (3 : Int) < ((s.x_dstq23.n : Nat) : Int) ∧
  ptrE s.x_dstq23.p fun a1 =>
  st1 (Addr.add (Addr.add a1 (Int.toNat (3 : Int) * 1)) 0) (.int .u8 (IntKind.wrap .u8 (Int.fdiv s.x_length (2 ^ (8 : Nat))))) h fun h2 =>
  Q s h2

def r83 (s : St) (h : Heap) (Q : St → Heap → Prop) : Prop :=
  0 ≤ (2 : Int) ∧ (2 : Int) < ((s.x_dstq23.n : Nat) : Int) ∧
  ptrE s.x_dstq23.p fun a1 =>
  st1 (Addr.add (Addr.add a1 (Int.toNat (2 : Int) * 1)) 0) (.int .u8 (IntKind.wrap .u8 (Int.fdiv s.x_length (2 ^ (0 : Nat))))) h fun h2 =>
  Q s h2

def r84 (s : St) (h : Heap) (Q : St → Heap → Prop) : Prop :=
  0 ≤ (1 : Int) ∧ (1 : Int) < ((s.x_dstq23.n : Nat) : Int) ∧
  ptrE s.x_dstq23.p fun a1 =>
  st1 (Addr.add (Addr.add a1 (Int.toNat (1 : Int) * 1)) 0) (.int .u8 (0 : Int)) h fun h2 =>
  Q s h2

def r85 (s : St) (h : Heap) (Q : St → Heap → Prop) : Prop :=
  0 ≤ (0 : Int) ∧ (0 : Int) < ((s.x_dstq23.n : Nat) : Int) ∧
  ptrE s.x_dstq23.p fun a1 =>
  st1 (Addr.add (Addr.add a1 (Int.toNat (0 : Int) * 1)) 0) (.int .u8 (25 : Int)) h fun h2 =>
  Q s h2

def r86 (s : St) (h : Heap) (Q : St → Heap → Prop) : Prop :=
  Q { s with x_d := (IntKind.wrap .i64 (s.x_d + (4 : Int))) } h

def r87 (s : St) (h : Heap) (Q : St → Heap → Prop) : Prop :=
  Q { s with x_length := (IntKind.wrap .i64 (s.x_length - (65536 : Int))) } h

def r88 (s : St) (h : Heap) (Q : St → Heap → Prop) : Prop :=
  Q { s with x_left := (0 : Int) } h

def r89 (s : St) (h : Heap) (Q : Bool → St → Heap → Prop) : Prop :=
  Q (decide (s.x_length > (16777215 : Int))) s h

def r90 (s : St) (h : Heap) (Q : St → Heap → Prop) : Prop :=
  Q { s with x_left := (IntKind.wrap .i64 ((IntKind.wrap .i64 (s.x_length - (16777215 : Int))) + (4 : Int))) } h

def r91 (s : St) (h : Heap) (Q : St → Heap → Prop) : Prop :=
  Q { s with x_length := (16777211 : Int) } h

def r92 (s : St) (h : Heap) (Q : St → Heap → Prop) : Prop :=
  0 ≤ (4 : Int) ∧ (4 : Int) < ((s.x_dstq23.n : Nat) : Int) ∧
  ptrE s.x_dstq23.p fun a1 =>
  st1 (Addr.add (Addr.add a1 (Int.toNat (4 : Int) * 1)) 0) (.int .u8 (IntKind.wrap .u8 (Int.fdiv s.x_length (2 ^ (16 : Nat))))) h fun h2 =>
  Q s h2

def r93 (s : St) (h : Heap) (Q : St → Heap → Prop) : Prop :=
  0 ≤ (3 : Int) ∧ (3 : Int) < ((s.x_dstq23.n : Nat) : Int) ∧
  ptrE s.x_dstq23.p fun a1 =>
  st1 (Addr.add (Addr.add a1 (Int.toNat (3 : Int) * 1)) 0) (.int .u8 (IntKind.wrap .u8 (Int.fdiv s.x_length (2 ^ (8 : Nat))))) h fun h2 =>
  Q s h2

def r94 (s : St) (h : Heap) (Q : St → Heap → Prop) : Prop :=
  0 ≤ (2 : Int) ∧ (2 : Int) < ((s.x_dstq23.n : Nat) : Int) ∧
  ptrE s.x_dstq23.p fun a1 =>
  st1 (Addr.add (Addr.add a1 (Int.toNat (2 : Int) * 1)) 0) (.int .u8 (IntKind.wrap .u8 (Int.fdiv s.x_length (2 ^ (0 : Nat))))) h fun h2 =>
  Q s h2

def r95 (s : St) (h : Heap) (Q : St → Heap → Prop) : Prop :=
  0 ≤ (1 : Int) ∧ (1 : Int) < ((s.x_dstq23.n : Nat) : Int) ∧
  ptrE s.x_dstq23.p fun a1 =>
  st1 (Addr.add (Addr.add a1 (Int.toNat (1 : Int) * 1)) 0) (.int .u8 (0 : Int)) h fun h2 =>
  Q s h2

def r96 (s : St) (h : Heap) (Q : St → Heap → Prop) : Prop :=
  0 ≤ (0 : Int) ∧ (0 : Int) < ((s.x_dstq23.n : Nat) : Int) ∧
  ptrE s.x_dstq23.p fun a1 =>
  st1 (Addr.add (Addr.add a1 (Int.toNat (0 : Int) * 1)) 0) (.int .u8 (29 : Int)) h fun h2 =>
  Q s h2

def r97 (s : St) (h : Heap) (Q : St → Heap → Prop) : Prop :=
  Q { s with x_d := (IntKind.wrap .i64 (s.x_d + (5 : Int))) } h

def r98 (s : St) (h : Heap) (Q : Bool → St → Heap → Prop) : Prop :=
  Q (decide (s.x_left > (0 : Int))) s h

def r99 (s : St) (h : Heap) (Q : St → Heap → Prop) : Prop :=
  0 ≤ (5 : Int) ∧ (5 : Int) ≤ ((s.x_dstq23.n : Nat) : Int) ∧
  Q { s with x_dstq23 := ⟨(subP s.x_dstq23.p (Int.toNat (5 : Int)) s.x_dstq23.c 1), (s.x_dstq23.n - (Int.toNat (5 : Int))), (s.x_dstq23.c - (Int.toNat (5 : Int)))⟩ } h

def r100 (s : St) (h : Heap) (Q : St → Heap → Prop) : Prop :=
  Q { s with x_length := s.x_left } h

def r101 (s : St) (h : Heap) (Q : St → Heap → Prop) : Prop :=
  0 ≤ s.x_d ∧ s.x_d ≤ ((s.x_dst.n : Nat) : Int) ∧
  c_emitCopy16 ⟨(subP s.x_dst.p (Int.toNat s.x_d) s.x_dst.c 1), (s.x_dst.n - (Int.toNat s.x_d)), (s.x_dst.c - (Int.toNat s.x_d))⟩ s.x_offset s.x_ml h fun r2 h1 =>
  Q { s with x_d := (IntKind.wrap .i64 (s.x_d + r2)) } h1

def r102 (s : St) (h : Heap) (Q : St → Heap → Prop) : Prop :=
  Q { s with x_lengthq25 := s.x_ml } h

def r103 (s : St) (h : Heap) (Q : St → Heap → Prop) : Prop :=
  0 ≤ s.x_d ∧ s.x_d ≤ ((s.x_dst.n : Nat) : Int) ∧
  Q { s with x_dstq26 := ⟨(subP s.x_dst.p (Int.toNat s.x_d) s.x_dst.c 1), (s.x_dst.n - (Int.toNat s.x_d)), (s.x_dst.c - (Int.toNat s.x_d))⟩ } h

def r104 (s : St) (h : Heap) (Q : Bool → St → Heap → Prop) : Prop :=
  Q (decide (((s.x_dstq26.n : Nat) : Int) > (5 : Int))) s h

def r105 (s : St) (h : Heap) (Q : Bool → St → Heap → Prop) : Prop :=
  Q (decide (s.x_lengthq25 > (64 : Int))) s h

def r106 (s : St) (h : Heap) (Q : St → Heap → Prop) : Prop :=
  Q { s with x_off := (3 : Int) } h

def r107 (s : St) (h : Heap) (Q : Bool → St → Heap → Prop) : Prop :=
  Q (decide (s.x_offset < (2048 : Int))) s h

def r108 (s : St) (h : Heap) (Q : St → Heap → Prop) : Prop :=
  0 ≤ (1 : Int) ∧ (1 : Int) < ((s.x_dstq26.n : Nat) : Int) ∧
  ptrE s.x_dstq26.p fun a1 =>
  st1 (Addr.add (Addr.add a1 (Int.toNat (1 : Int) * 1)) 0) (.int .u8 (IntKind.wrap .u8 s.x_offset)) h fun h2 =>
  Q s h2

def r109 (s : St) (h : Heap) (Q : St → Heap → Prop) : Prop :=
  0 ≤ (0 : Int) ∧ (0 : Int) < ((s.x_dstq26.n : Nat) : Int) ∧
  ptrE s.x_dstq26.p fun a1 =>
  st1 (Addr.add (Addr.add a1 (Int.toNat (0 : Int) * 1)) 0) (.int .u8 (bOr .u8 (bOr .u8 (IntKind.wrap .u8 ((IntKind.wrap .u8 (Int.fdiv s.x_offset (2 ^ (8 : Nat)))) * 2 ^ (5 : Nat))) (16 : Int)) (1 : Int))) h fun h2 =>
  Q s h2

def r110 (s : St) (h : Heap) (Q : St → Heap → Prop) : Prop :=
  Q { s with x_lengthq25 := (IntKind.wrap .i64 (s.x_lengthq25 - (8 : Int))) } h

def r111 (s : St) (h : Heap) (Q : St → Heap → Prop) : Prop :=
  Q { s with x_off := (2 : Int) } h

def r112 (s : St) (h : Heap) (Q : St → Heap → Prop) : Prop :=
  0 ≤ (2 : Int) ∧ (2 : Int) < ((s.x_dstq26.n : Nat) : Int) ∧
  ptrE s.x_dstq26.p fun a1 =>
  st1 (Addr.add (Addr.add a1 (Int.toNat (2 : Int) * 1)) 0) (.int .u8 (IntKind.wrap .u8 (Int.fdiv s.x_offset (2 ^ (8 : Nat))))) h fun h2 =>
  Q s h2

def r113 (s : St) (h : Heap) (Q : St → Heap → Prop) : Prop :=
  0 ≤ (1 : Int) ∧ (1 : Int) < ((s.x_dstq26.n : Nat) : Int) ∧
  ptrE s.x_dstq26.p fun a1 =>
  st1 (Addr.add (Addr.add a1 (Int.toNat (1 : Int) * 1)) 0) (.int .u8 (IntKind.wrap .u8 s.x_offset)) h fun h2 =>
  Q s h2

def r114 (s : St) (h : Heap) (Q : St → Heap → Prop) : Prop :=
  0 ≤ (0 : Int) ∧ (0 : Int) < ((s.x_dstq26.n : Nat) : Int) ∧
  ptrE s.x_dstq26.p fun a1 =>
  st1 (Addr.add (Addr.add a1 (Int.toNat (0 : Int) * 1)) 0) (.int .u8 (238 : Int)) h fun h2 =>
  Q s h2

def r115 (s : St) (h : Heap) (Q : St → Heap → Prop) : Prop :=
  Q { s with x_lengthq25 := (IntKind.wrap .i64 (s.x_lengthq25 - (60 : Int))) } h

def r116 (s : St) (h : Heap) (Q : St → Heap → Prop) : Prop :=
  0 ≤ s.x_off ∧ s.x_off ≤ ((s.x_dstq26.n : Nat) : Int) ∧
  c_emitRepeat16 ⟨(subP s.x_dstq26.p (Int.toNat s.x_off) s.x_dstq26.c 1), (s.x_dstq26.n - (Int.toNat s.x_off)), (s.x_dstq26.c - (Int.toNat s.x_off))⟩ s.x_offset s.x_lengthq25 h fun r2 h1 =>
  Q { s with x_d := (IntKind.wrap .i64 (s.x_d + (IntKind.wrap .i64 (s.x_off + r2)))) } h1

def r117 (s : St) (h : Heap) (Q : Bool → St → Heap → Prop) : Prop :=
  (if (decide (s.x_lengthq25 ≥ (12 : Int))) = false then
  (Q (decide (s.x_offset ≥ (2048 : Int))) s h)
  else
  (Q true s h))

def r118 (s : St) (h : Heap) (Q : St → Heap → Prop) : Prop :=
  0 ≤ (2 : Int) ∧ (2 : Int) < ((s.x_dstq26.n : Nat) : Int) ∧
  ptrE s.x_dstq26.p fun a1 =>
  st1 (Addr.add (Addr.add a1 (Int.toNat (2 : Int) * 1)) 0) (.int .u8 (IntKind.wrap .u8 (Int.fdiv s.x_offset (2 ^ (8 : Nat))))) h fun h2 =>
  Q s h2

def r119 (s : St) (h : Heap) (Q : St → Heap → Prop) : Prop :=
  0 ≤ (1 : Int) ∧ (1 : Int) < ((s.x_dstq26.n : Nat) : Int) ∧
  ptrE s.x_dstq26.p fun a1 =>
  st1 (Addr.add (Addr.add a1 (Int.toNat (1 : Int) * 1)) 0) (.int .u8 (IntKind.wrap .u8 s.x_offset)) h fun h2 =>
  Q s h2

def r120 (s : St) (h : Heap) (Q : St → Heap → Prop) : Prop :=
  0 ≤ (0 : Int) ∧ (0 : Int) < ((s.x_dstq26.n : Nat) : Int) ∧
  ptrE s.x_dstq26.p fun a1 =>
  st1 (Addr.add (Addr.add a1 (Int.toNat (0 : Int) * 1)) 0) (.int .u8 (bOr .u8 (IntKind.wrap .u8 ((IntKind.wrap .u8 (IntKind.wrap .i64 (s.x_lengthq25 - (1 : Int)))) * 2 ^ (2 : Nat))) (2 : Int))) h fun h2 =>
  Q s h2

def r121 (s : St) (h : Heap) (Q : St → Heap → Prop) : Prop :=
  Q { s with x_d := (IntKind.wrap .i64 (s.x_d + (3 : Int))) } h

def r122 (s : St) (h : Heap) (Q : St → Heap → Prop) : Prop :=
  0 ≤ (1 : Int) ∧ (1 : Int) < ((s.x_dstq26.n : Nat) : Int) ∧
  ptrE s.x_dstq26.p fun a1 =>
  st1 (Addr.add (Addr.add a1 (Int.toNat (1 : Int) * 1)) 0) (.int .u8 (IntKind.wrap .u8 s.x_offset)) h fun h2 =>
  Q s h2

def r123 (s : St) (h : Heap) (Q : St → Heap → Prop) : Prop :=
  0 ≤ (0 : Int) ∧ (0 : Int) < ((s.x_dstq26.n : Nat) : Int) ∧
  ptrE s.x_dstq26.p fun a1 =>
  st1 (Addr.add (Addr.add a1 (Int.toNat (0 : Int) * 1)) 0) (.int .u8 (bOr .u8 (bOr .u8 (IntKind.wrap .u8 ((IntKind.wrap .u8 (Int.fdiv s.x_offset (2 ^ (8 : Nat)))) * 2 ^ (5 : Nat))) (IntKind.wrap .u8 ((IntKind.wrap .u8 (IntKind.wrap .i64 (s.x_lengthq25 - (4 : Int)))) * 2 ^ (2 : Nat)))) (1 : Int))) h fun h2 =>
  Q s h2

def r124 (s : St) (h : Heap) (Q : St → Heap → Prop) : Prop :=
  Q { s with x_d := (IntKind.wrap .i64 (s.x_d + (2 : Int))) } h

def r125 (s : St) (h : Heap) (Q : St → Heap → Prop) : Prop :=
  Q { s with x_lastOffset := s.x_offset } h

def r126 (s : St) (h : Heap) (Q : St → Heap → Prop) : Prop :=
  Q { s with x_uncompressed := (IntKind.wrap .i64 (s.x_uncompressed + s.x_ml)) } h

def r127 (s : St) (h : Heap) (Q : Bool → St → Heap → Prop) : Prop :=
  Q (decide (s.x_d > s.x_dLimit)) s h

def r128 (s : St) (h : Heap) (Q : St → Heap → Prop) : Prop :=
  ∃ u1 : Value, hcell h ⟨2, 0, none⟩ = some u1 ∧
  Q { s with t6 := ⟨none, 0, 0⟩, t7 := (0 : Int), t8 := u1 } h

def r129 (s : St) (h : Heap) (Q : St → Heap → Prop) : Prop :=
  0 ≤ s.x_d ∧ s.x_d ≤ ((s.x_dst.c : Nat) : Int) ∧
  Q { s with t6 := ⟨(subP s.x_dst.p 0 s.x_dst.c 1), ((Int.toNat s.x_d) - 0), (s.x_dst.c - 0)⟩, t7 := s.x_uncompressed, t8 := .nilIface } h

def k99 : Stm St := (.test r127 (.seq (.reg r128) .ret) .skip)
def k98 : Stm St := (.seq (.reg r126) k99)
def k97 : Stm St := (.seq (.reg r123) (.seq (.reg r124) (.exit 9)))
def k96 : Stm St := (.seq (.reg r122) k97)
def k95 : Stm St := (.seq (.reg r120) (.seq (.reg r121) (.exit 9)))
def k94 : Stm St := (.seq (.reg r119) k95)
def k93 : Stm St := (.seq (.reg r118) k94)
def k92 : Stm St := (.seq (.test r117 k93 .skip) k96)
def k91 : Stm St := (.seq (.reg r113) (.seq (.reg r114) (.reg r115)))
def k90 : Stm St := (.seq (.reg r112) k91)
def k89 : Stm St := (.seq (.reg r109) (.seq (.reg r110) (.reg r111)))
def k88 : Stm St := (.seq (.reg r108) k89)
def k87 : Stm St := (.seq (.test r107 k88 k90) (.seq (.reg r116) (.exit 9)))
def k86 : Stm St := (.seq (.reg r106) k87)
def k85 : Stm St := (.block 10 (.seq (.test r105 k86 .skip) k92))
def k84 : Stm St := (.seq (.test r104 .skip (.exit 9)) k85)
def k83 : Stm St := (.block 9 (.loop k84))
def k82 : Stm St := (.seq (.reg r103) k83)
def k81 : Stm St := (.seq (.reg r102) k82)
def k80 : Stm St := (.seq (.cond (fun _ => false) (.reg r101) k81) (.reg r125))
def k79 : Stm St := (.seq (.reg r99) (.seq (.reg r100) (.exit 8)))
def k78 : Stm St := (.seq (.test r98 k79 .skip) (.exit 7))
def k77 : Stm St := (.seq (.reg r97) k78)
def k76 : Stm St := (.seq (.reg r96) k77)
def k75 : Stm St := (.seq (.reg r95) k76)
def k74 : Stm St := (.seq (.reg r94) k75)
def k73 : Stm St := (.seq (.reg r93) k74)
def k72 : Stm St := (.seq (.reg r92) k73)
def k71 : Stm St := (.seq (.test r89 (.seq (.reg r90) (.reg r91)) .skip) k72)
def k70 : Stm St := (.seq (.reg r88) k71)
def k69 : Stm St := (.seq (.reg r87) k70)
def k68 : Stm St := (.seq (.reg r85) (.seq (.reg r86) (.exit 7)))
def k67 : Stm St := (.seq (.reg r84) k68)
def k66 : Stm St := (.seq (.reg r83) k67)
def k65 : Stm St := (.seq (.reg r82) k66)
def k64 : Stm St := (.seq (.reg r81) k65)
def k63 : Stm St := (.seq (.test r80 k64 .skip) k69)
def k62 : Stm St := (.seq (.reg r78) (.seq (.reg r79) (.exit 7)))
def k61 : Stm St := (.seq (.reg r77) k62)
def k60 : Stm St := (.seq (.reg r76) k61)
def k59 : Stm St := (.seq (.reg r75) k60)
def k58 : Stm St := (.seq (.test r74 k59 .skip) k63)
def k57 : Stm St := (.seq (.reg r72) (.seq (.reg r73) (.exit 7)))
def k56 : Stm St := (.seq (.reg r71) k57)
def k55 : Stm St := (.seq (.test r70 k56 .skip) k58)
def k54 : Stm St := (.seq (.reg r68) (.seq (.reg r69) (.exit 7)))
def k53 : Stm St := (.seq (.reg r67) k54)
def k52 : Stm St := (.seq (.test r66 k53 .skip) k55)
def k51 : Stm St := (.block 8 (.seq (.reg r65) k52))
def k50 : Stm St := (.seq (.test r64 .skip (.exit 7)) k51)
def k49 : Stm St := (.block 7 (.loop k50))
def k48 : Stm St := (.seq (.reg r63) k49)
def k47 : Stm St := (.seq (.reg r62) k48)
def k46 : Stm St := (.cond (fun _ => false) (.reg r61) k47)
def k45 : Stm St := (.seq (.test r60 k46 k80) k98)
def k44 : Stm St := (.seq (.test r58 (.seq (.reg r59) .ret) .skip) (.exit 5))
def k43 : Stm St := (.test r57 k44 .skip)
def k42 : Stm St := (.seq (.reg r56) k43)
def k41 : Stm St := (.seq (.reg r55) k42)
def k40 : Stm St := (.seq (.reg r54) k41)
def k39 : Stm St := (.block 6 (.seq (.test r52 (.seq (.reg r53) .ret) .skip) k40))
def k38 : Stm St := (.block 5 (.loop k39))
def k37 : Stm St := (.seq (.test r51 k38 .skip) k45)
def k36 : Stm St := (.seq (.test r49 (.seq (.reg r50) .ret) .skip) k37)
def k35 : Stm St := (.seq (.test r47 (.seq (.reg r48) .ret) .skip) k36)
def k34 : Stm St := (.seq (.reg r46) k35)
def k33 : Stm St := (.seq (.reg r45) k34)
def k32 : Stm St := (.seq (.test r43 (.seq (.reg r44) .ret) .skip) k33)
def k31 : Stm St := (.seq (.test r42 (.exit 1) .skip) (.exit 2))
def k30 : Stm St := (.seq (.test r41 k31 .skip) k32)
def k29 : Stm St := (.seq (.reg r38) (.seq (.reg r39) (.reg r40)))
def k28 : Stm St := (.seq (.test r36 (.seq (.reg r37) .ret) .skip) k29)
def k27 : Stm St := (.seq (.test r35 k28 .skip) k30)
def k26 : Stm St := (.seq (.reg r34) k27)
def k25 : Stm St := (.seq (.test r32 (.seq (.reg r33) .ret) .skip) k26)
def k24 : Stm St := (.test r31 (.exit 3) .skip)
def k23 : Stm St := (.seq (.reg r30) k24)
def k22 : Stm St := (.seq (.reg r29) k23)
def k21 : Stm St := (.seq (.test r27 (.seq (.reg r28) .ret) .skip) k22)
def k20 : Stm St := (.block 4 (.seq (.reg r26) k21))
def k19 : Stm St := (.block 3 (.loop k20))
def k18 : Stm St := (.seq (.test r25 k19 .skip) k25)
def k17 : Stm St := (.seq (.reg r24) k18)
def k16 : Stm St := (.seq (.reg r23) k17)
def k15 : Stm St := (.seq (.reg r22) k16)
def k14 : Stm St := (.block 2 (.seq (.test r20 (.seq (.reg r21) .ret) .skip) k15))
def k13 : Stm St := (.seq (.block 1 (.loop k14)) (.seq (.reg r129) .ret))
def k12 : Stm St := (.seq (.reg r19) k13)
def k11 : Stm St := (.seq (.reg r18) k12)
def k10 : Stm St := (.seq (.reg r17) k11)
def k9 : Stm St := (.seq (.test r14 (.seq (.reg r15) .ret) .skip) (.seq (.reg r16) .ret))
def k8 : Stm St := (.test r12 (.seq (.reg r13) .ret) (.seq (.reg r9) .ret))
def k7 : Stm St := (.block 0 (.test r10 (.seq (.reg r11) .ret) k8))
def k6 : Stm St := (.seq (.reg r8) k7)
def k5 : Stm St := (.seq (.test r7 k6 .skip) k9)
def k4 : Stm St := (.seq (.reg r6) k5)
def k3 : Stm St := (.seq (.test r5 k4 .skip) k10)
def k2 : Stm St := (.seq (.reg r4) k3)
def k1 : Stm St := (.seq (.reg r3) k2)
def k0 : Stm St := (.seq (.test r1 (.seq (.reg r2) .ret) .skip) k1)

def stm : Stm St := (.seq (.reg r0) k0)

def ex : Ex → Pt St := fun _ => p0

set_option maxRecDepth 100000 in
theorem sim : Sim Pg 440 p1 (Tryd.f72.body.getD .skip) stm p0 ex :=
  (Sim.seq (Sim.reg (A := p1) (B := p1) (fun _ _ _ => by kernel_rfl))
  (Sim.seq (Sim.test (A := p1) (B := p1) (fun _ _ _ => by kernel_rfl) (Sim.seq (Sim.reg (A := p1) (B := p0) (fun _ _ _ => by kernel_rfl))
  (Sim.ret (A := p0) (E := ex) (fun _ => ⟨rfl, rfl, rfl, trivial⟩)))
  (Sim.skip (A := p1)))
  (Sim.seq (Sim.reg (A := p1) (B := p2) (fun _ _ _ => by kernel_rfl))
  (Sim.seq (Sim.reg (A := p2) (B := p2) (fun _ _ _ => by kernel_rfl))
  (Sim.seq (Sim.test (A := p2) (B := p3) (fun _ _ _ => by kernel_rfl) (Sim.seq (Sim.reg (A := p3) (B := p4) (fun _ _ _ => by kernel_rfl))
  (Sim.seq (Sim.test (A := p4) (B := p4) (fun _ _ _ => by kernel_rfl) (Sim.seq (Sim.reg (A := p4) (B := p5) (fun _ _ _ => by kernel_rfl))
  (Sim.block (Sim.test (A := p5) (B := p5) (fun _ _ _ => by kernel_rfl) (Sim.seq (Sim.reg (A := p5) (B := p0) (fun _ _ _ => by kernel_rfl))
  (Sim.ret (A := p0) (E := (exAt ex 0 _)) (fun _ => ⟨rfl, rfl, rfl, trivial⟩)))
  (Sim.test (A := p5) (B := p6) (fun _ _ _ => by kernel_rfl) (Sim.seq (Sim.reg (A := p6) (B := p0) (fun _ _ _ => by kernel_rfl))
  (Sim.ret (A := p0) (E := (exAt ex 0 _)) (fun _ => ⟨rfl, rfl, rfl, trivial⟩)))
  (Sim.seq (Sim.reg (A := p6) (B := p0) (fun _ _ _ => by kernel_rfl))
  (Sim.ret (A := p0) (E := (exAt ex 0 _)) (fun _ => ⟨rfl, rfl, rfl, trivial⟩)))))))
  (Sim.skip (A := p4)))
  (Sim.seq (Sim.test (A := p4) (B := p4) (fun _ _ _ => by kernel_rfl) (Sim.seq (Sim.reg (A := p4) (B := p0) (fun _ _ _ => by kernel_rfl))
  (Sim.ret (A := p0) (E := ex) (fun _ => ⟨rfl, rfl, rfl, trivial⟩)))
  (Sim.skip (A := p4)))
  (Sim.seq (Sim.reg (A := p4) (B := p0) (fun _ _ _ => by kernel_rfl))
  (Sim.ret (A := p0) (E := ex) (fun _ => ⟨rfl, rfl, rfl, trivial⟩))))))
  (Sim.skip (A := p3)))
  (Sim.seq (Sim.reg (A := p3) (B := p7) (fun _ _ _ => by kernel_rfl))
  (Sim.seq (Sim.reg (A := p7) (B := p8) (fun _ _ _ => by kernel_rfl))
  (Sim.seq (Sim.reg (A := p8) (B := p9) (fun _ _ _ => by kernel_rfl))
  (Sim.seq (Sim.block (B := p10) (Sim.loop (A := p9) (Sim.block (B := p9) (Sim.seq (Sim.test (A := p9) (B := p9) (fun _ _ _ => by kernel_rfl) (Sim.seq (Sim.reg (A := p9) (B := p0) (fun _ _ _ => by kernel_rfl))
  (Sim.ret (A := p0) (E := (exAt (exAt ex 1 p10) 2 p9)) (fun _ => ⟨rfl, rfl, rfl, trivial⟩)))
  (Sim.skip (A := p9)))
  (Sim.seq (Sim.reg (A := p9) (B := p11) (fun _ _ _ => by kernel_rfl))
  (Sim.seq (Sim.reg (A := p11) (B := p12) (fun _ _ _ => by kernel_rfl))
  (Sim.seq (Sim.reg (A := p12) (B := p13) (fun _ _ _ => by kernel_rfl))
  (Sim.seq (Sim.test (A := p13) (B := p14) (fun _ _ _ => by kernel_rfl) (Sim.block (B := p14) (Sim.loop (A := p14) (Sim.block (B := p14) (Sim.seq (Sim.reg (A := p14) (B := p14) (fun _ _ _ => by kernel_rfl))
  (Sim.seq (Sim.test (A := p14) (B := p14) (fun _ _ _ => by kernel_rfl) (Sim.seq (Sim.reg (A := p14) (B := p0) (fun _ _ _ => by kernel_rfl))
  (Sim.ret (A := p0) (E := (exAt (exAt (exAt (exAt ex 1 p10) 2 p9) 3 p14) 4 p14)) (fun _ => ⟨rfl, rfl, rfl, trivial⟩)))
  (Sim.skip (A := p14)))
  (Sim.seq (Sim.reg (A := p14) (B := p15) (fun _ _ _ => by kernel_rfl))
  (Sim.seq (Sim.reg (A := p15) (B := p15) (fun _ _ _ => by kernel_rfl))
  (Sim.test (A := p15) (B := p14) (fun _ _ _ => by kernel_rfl) (Sim.exit (A := p14) (fun _ => ⟨rfl, rfl, rfl, rfl, rfl, rfl, rfl, rfl, rfl, trivial⟩))
  (Sim.skip (A := p14))))))))))
  (Sim.skip (A := p14)))
  (Sim.seq (Sim.test (A := p14) (B := p14) (fun _ _ _ => by kernel_rfl) (Sim.seq (Sim.reg (A := p14) (B := p0) (fun _ _ _ => by kernel_rfl))
  (Sim.ret (A := p0) (E := (exAt (exAt ex 1 p10) 2 p9)) (fun _ => ⟨rfl, rfl, rfl, trivial⟩)))
  (Sim.skip (A := p14)))
  (Sim.seq (Sim.reg (A := p14) (B := p14) (fun _ _ _ => by kernel_rfl))
  (Sim.seq (Sim.test (A := p14) (B := p14) (fun _ _ _ => by kernel_rfl) (Sim.seq (Sim.test (A := p14) (B := p14) (fun _ _ _ => by kernel_rfl) (Sim.seq (Sim.reg (A := p14) (B := p0) (fun _ _ _ => by kernel_rfl))
  (Sim.ret (A := p0) (E := (exAt (exAt ex 1 p10) 2 p9)) (fun _ => ⟨rfl, rfl, rfl, trivial⟩)))
  (Sim.skip (A := p14)))
  (Sim.seq (Sim.reg (A := p14) (B := p14) (fun _ _ _ => by kernel_rfl))
  (Sim.seq (Sim.reg (A := p14) (B := p14) (fun _ _ _ => by kernel_rfl))
  (Sim.reg (A := p14) (B := p16) (fun _ _ _ => by kernel_rfl)))))
  (Sim.weak (B := p14) (C := p16) (Sim.skip (A := p14)) (fun _ => ⟨rfl, rfl, rfl, rfl, rfl, rfl, rfl, rfl, trivial⟩)))
  (Sim.seq (Sim.test (A := p16) (B := p16) (fun _ _ _ => by kernel_rfl) (Sim.seq (Sim.test (A := p16) (B := p9) (fun _ _ _ => by kernel_rfl) (Sim.exit (A := p9) (fun _ => ⟨rfl, rfl, rfl, trivial⟩))
  (Sim.skip (A := p9)))
  (Sim.exit (A := p9) (fun _ => ⟨rfl, rfl, rfl, rfl, rfl, rfl, rfl, trivial⟩)))
  (Sim.skip (A := p16)))
  (Sim.seq (Sim.test (A := p16) (B := p16) (fun _ _ _ => by kernel_rfl) (Sim.seq (Sim.reg (A := p16) (B := p0) (fun _ _ _ => by kernel_rfl))
  (Sim.ret (A := p0) (E := (exAt (exAt ex 1 p10) 2 p9)) (fun _ => ⟨rfl, rfl, rfl, trivial⟩)))
  (Sim.skip (A := p16)))
  (Sim.seq (Sim.reg (A := p16) (B := p17) (fun _ _ _ => by kernel_rfl))
  (Sim.seq (Sim.reg (A := p17) (B := p17) (fun _ _ _ => by kernel_rfl))
  (Sim.seq (Sim.test (A := p17) (B := p17) (fun _ _ _ => by kernel_rfl) (Sim.seq (Sim.reg (A := p17) (B := p0) (fun _ _ _ => by kernel_rfl))
  (Sim.ret (A := p0) (E := (exAt (exAt ex 1 p10) 2 p9)) (fun _ => ⟨rfl, rfl, rfl, trivial⟩)))
  (Sim.skip (A := p17)))
  (Sim.seq (Sim.test (A := p17) (B := p17) (fun _ _ _ => by kernel_rfl) (Sim.seq (Sim.reg (A := p17) (B := p0) (fun _ _ _ => by kernel_rfl))
  (Sim.ret (A := p0) (E := (exAt (exAt ex 1 p10) 2 p9)) (fun _ => ⟨rfl, rfl, rfl, trivial⟩)))
  (Sim.skip (A := p17)))
  (Sim.seq (Sim.test (A := p17) (B := p17) (fun _ _ _ => by kernel_rfl) (Sim.block (B := p17) (Sim.loop (A := p17) (Sim.block (B := p17) (Sim.seq (Sim.test (A := p17) (B := p17) (fun _ _ _ => by kernel_rfl) (Sim.seq (Sim.reg (A := p17) (B := p0) (fun _ _ _ => by kernel_rfl))
  (Sim.ret (A := p0) (E := (exAt (exAt (exAt (exAt ex 1 p10) 2 p9) 5 p17) 6 p17)) (fun _ => ⟨rfl, rfl, rfl, trivial⟩)))
  (Sim.skip (A := p17)))
  (Sim.seq (Sim.reg (A := p17) (B := p18) (fun _ _ _ => by kernel_rfl))
  (Sim.seq (Sim.reg (A := p18) (B := p18) (fun _ _ _ => by kernel_rfl))
  (Sim.seq (Sim.reg (A := p18) (B := p18) (fun _ _ _ => by kernel_rfl))
  (Sim.test (A := p18) (B := p17) (fun _ _ _ => by kernel_rfl) (Sim.seq (Sim.test (A := p17) (B := p17) (fun _ _ _ => by kernel_rfl) (Sim.seq (Sim.reg (A := p17) (B := p0) (fun _ _ _ => by kernel_rfl))
  (Sim.ret (A := p0) (E := (exAt (exAt (exAt (exAt ex 1 p10) 2 p9) 5 p17) 6 p17)) (fun _ => ⟨rfl, rfl, rfl, trivial⟩)))
  (Sim.skip (A := p17)))
  (Sim.exit (A := p17) (fun _ => ⟨rfl, rfl, rfl, rfl, rfl, rfl, rfl, rfl, rfl, trivial⟩)))
  (Sim.skip (A := p17))))))))))
  (Sim.skip (A := p17)))
  (Sim.seq (Sim.test (A := p17) (B := p17) (fun _ _ _ => by kernel_rfl) (Sim.cond (A := p17) (fun _ => false) (fun _ => rfl) (Sim.reg (A := p17) (B := p16) (fun _ _ _ => by kernel_rfl))
  (Sim.seq (Sim.reg (A := p17) (B := p19) (fun _ _ _ => by kernel_rfl))
  (Sim.seq (Sim.reg (A := p19) (B := p20) (fun _ _ _ => by kernel_rfl))
  (Sim.block (B := p16) (Sim.loop (A := p20) (Sim.seq (Sim.test (A := p20) (B := p20) (fun _ _ _ => by kernel_rfl) (Sim.skip (A := p20))
  (Sim.exit (A := p20) (fun _ => ⟨rfl, rfl, rfl, rfl, rfl, rfl, rfl, rfl, trivial⟩)))
  (Sim.block (B := p20) (Sim.seq (Sim.reg (A := p20) (B := p20) (fun _ _ _ => by kernel_rfl))
  (Sim.seq (Sim.test (A := p20) (B := p20) (fun _ _ _ => by kernel_rfl) (Sim.seq (Sim.reg (A := p20) (B := p21) (fun _ _ _ => by kernel_rfl))
  (Sim.seq (Sim.reg (A := p21) (B := p16) (fun _ _ _ => by kernel_rfl))
  (Sim.seq (Sim.reg (A := p16) (B := p16) (fun _ _ _ => by kernel_rfl))
  (Sim.exit (A := p16) (fun _ => ⟨rfl, rfl, rfl, rfl, rfl, rfl, rfl, rfl, trivial⟩)))))
  (Sim.skip (A := p20)))
  (Sim.seq (Sim.test (A := p20) (B := p20) (fun _ _ _ => by kernel_rfl) (Sim.seq (Sim.reg (A := p20) (B := p20) (fun _ _ _ => by kernel_rfl))
  (Sim.seq (Sim.reg (A := p20) (B := p16) (fun _ _ _ => by kernel_rfl))
  (Sim.seq (Sim.reg (A := p16) (B := p16) (fun _ _ _ => by kernel_rfl))
  (Sim.exit (A := p16) (fun _ => ⟨rfl, rfl, rfl, rfl, rfl, rfl, rfl, rfl, trivial⟩)))))
  (Sim.skip (A := p20)))
  (Sim.seq (Sim.test (A := p20) (B := p20) (fun _ _ _ => by kernel_rfl) (Sim.seq (Sim.reg (A := p20) (B := p22) (fun _ _ _ => by kernel_rfl))
  (Sim.seq (Sim.reg (A := p22) (B := p21) (fun _ _ _ => by kernel_rfl))
  (Sim.seq (Sim.reg (A := p21) (B := p21) (fun _ _ _ => by kernel_rfl))
  (Sim.seq (Sim.reg (A := p21) (B := p16) (fun _ _ _ => by kernel_rfl))
  (Sim.seq (Sim.reg (A := p16) (B := p16) (fun _ _ _ => by kernel_rfl))
  (Sim.exit (A := p16) (fun _ => ⟨rfl, rfl, rfl, rfl, rfl, rfl, rfl, rfl, trivial⟩)))))))
  (Sim.skip (A := p20)))
  (Sim.seq (Sim.test (A := p20) (B := p20) (fun _ _ _ => by kernel_rfl) (Sim.seq (Sim.reg (A := p20) (B := p22) (fun _ _ _ => by kernel_rfl))
  (Sim.seq (Sim.reg (A := p22) (B := p22) (fun _ _ _ => by kernel_rfl))
  (Sim.seq (Sim.reg (A := p22) (B := p21) (fun _ _ _ => by kernel_rfl))
  (Sim.seq (Sim.reg (A := p21) (B := p21) (fun _ _ _ => by kernel_rfl))
  (Sim.seq (Sim.reg (A := p21) (B := p16) (fun _ _ _ => by kernel_rfl))
  (Sim.seq (Sim.reg (A := p16) (B := p16) (fun _ _ _ => by kernel_rfl))
  (Sim.exit (A := p16) (fun _ => ⟨rfl, rfl, rfl, rfl, rfl, rfl, rfl, rfl, trivial⟩))))))))
  (Sim.skip (A := p20)))
  (Sim.seq (Sim.reg (A := p20) (B := p20) (fun _ _ _ => by kernel_rfl))
  (Sim.seq (Sim.reg (A := p20) (B := p23) (fun _ _ _ => by kernel_rfl))
  (Sim.seq (Sim.test (A := p23) (B := p23) (fun _ _ _ => by kernel_rfl) (Sim.seq (Sim.reg (A := p23) (B := p24) (fun _ _ _ => by kernel_rfl))
  (Sim.reg (A := p24) (B := p23) (fun _ _ _ => by kernel_rfl)))
  (Sim.skip (A := p23)))
  (Sim.seq (Sim.reg (A := p23) (B := p23) (fun _ _ _ => by kernel_rfl))
  (Sim.seq (Sim.reg (A := p23) (B := p23) (fun _ _ _ => by kernel_rfl))
  (Sim.seq (Sim.reg (A := p23) (B := p24) (fun _ _ _ => by kernel_rfl))
  (Sim.seq (Sim.reg (A := p24) (B := p24) (fun _ _ _ => by kernel_rfl))
  (Sim.seq (Sim.reg (A := p24) (B := p24) (fun _ _ _ => by kernel_rfl))
  (Sim.seq (Sim.reg (A := p24) (B := p24) (fun _ _ _ => by kernel_rfl))
  (Sim.seq (Sim.test (A := p24) (B := p24) (fun _ _ _ => by kernel_rfl) (Sim.seq (Sim.reg (A := p24) (B := p24) (fun _ _ _ => by kernel_rfl))
  (Sim.seq (Sim.reg (A := p24) (B := p20) (fun _ _ _ => by kernel_rfl))
  (Sim.exit (A := p20) (fun _ => ⟨rfl, rfl, rfl, rfl, rfl, rfl, rfl, rfl, rfl, rfl, rfl, trivial⟩))))
  (Sim.weak (B := p24) (C := p16) (Sim.skip (A := p24)) (fun _ => ⟨rfl, rfl, rfl, rfl, rfl, rfl, rfl, rfl, trivial⟩)))
  (Sim.exit (A := p16) (fun _ => ⟨rfl, rfl, rfl, rfl, rfl, rfl, rfl, rfl, trivial⟩))))))))))))))))))))))))
  (Sim.seq (Sim.cond (A := p17) (fun _ => false) (fun _ => rfl) (Sim.reg (A := p17) (B := p25) (fun _ _ _ => by kernel_rfl))
  (Sim.seq (Sim.reg (A := p17) (B := p26) (fun _ _ _ => by kernel_rfl))
  (Sim.seq (Sim.reg (A := p26) (B := p27) (fun _ _ _ => by kernel_rfl))
  (Sim.block (B := p25) (Sim.loop (A := p27) (Sim.seq (Sim.test (A := p27) (B := p27) (fun _ _ _ => by kernel_rfl) (Sim.skip (A := p27))
  (Sim.exit (A := p27) (fun _ => ⟨rfl, rfl, rfl, rfl, rfl, rfl, rfl, rfl, trivial⟩)))
  (Sim.block (Sim.seq (Sim.test (A := p27) (B := p27) (fun _ _ _ => by kernel_rfl) (Sim.seq (Sim.reg (A := p27) (B := p28) (fun _ _ _ => by kernel_rfl))
  (Sim.seq (Sim.test (A := p28) (B := p28) (fun _ _ _ => by kernel_rfl) (Sim.seq (Sim.reg (A := p28) (B := p27) (fun _ _ _ => by kernel_rfl))
  (Sim.seq (Sim.reg (A := p27) (B := p27) (fun _ _ _ => by kernel_rfl))
  (Sim.seq (Sim.reg (A := p27) (B := p27) (fun _ _ _ => by kernel_rfl))
  (Sim.reg (A := p27) (B := p28) (fun _ _ _ => by kernel_rfl)))))
  (Sim.seq (Sim.reg (A := p28) (B := p28) (fun _ _ _ => by kernel_rfl))
  (Sim.seq (Sim.reg (A := p28) (B := p28) (fun _ _ _ => by kernel_rfl))
  (Sim.seq (Sim.reg (A := p28) (B := p28) (fun _ _ _ => by kernel_rfl))
  (Sim.reg (A := p28) (B := p28) (fun _ _ _ => by kernel_rfl))))))
  (Sim.seq (Sim.reg (A := p28) (B := p25) (fun _ _ _ => by kernel_rfl))
  (Sim.exit (A := p25) (fun _ => ⟨rfl, rfl, rfl, rfl, rfl, rfl, rfl, rfl, trivial⟩)))))
  (Sim.skip (A := p27)))
  (Sim.seq (Sim.test (A := p27) (B := p27) (fun _ _ _ => by kernel_rfl) (Sim.seq (Sim.reg (A := p27) (B := p27) (fun _ _ _ => by kernel_rfl))
  (Sim.seq (Sim.reg (A := p27) (B := p27) (fun _ _ _ => by kernel_rfl))
  (Sim.seq (Sim.reg (A := p27) (B := p25) (fun _ _ _ => by kernel_rfl))
  (Sim.seq (Sim.reg (A := p25) (B := p25) (fun _ _ _ => by kernel_rfl))
  (Sim.exit (A := p25) (fun _ => ⟨rfl, rfl, rfl, rfl, rfl, rfl, rfl, rfl, trivial⟩))))))
  (Sim.skip (A := p27)))
  (Sim.seq (Sim.reg (A := p27) (B := p27) (fun _ _ _ => by kernel_rfl))
  (Sim.seq (Sim.reg (A := p27) (B := p25) (fun _ _ _ => by kernel_rfl))
  (Sim.seq (Sim.reg (A := p25) (B := p25) (fun _ _ _ => by kernel_rfl))
  (Sim.exit (A := p25) (fun _ => ⟨rfl, rfl, rfl, rfl, rfl, rfl, rfl, rfl, trivial⟩))))))))))))))
  (Sim.reg (A := p25) (B := p16) (fun _ _ _ => by kernel_rfl))))
  (Sim.seq (Sim.reg (A := p16) (B := p9) (fun _ _ _ => by kernel_rfl))
  (Sim.test (A := p9) (B := p9) (fun _ _ _ => by kernel_rfl) (Sim.seq (Sim.reg (A := p9) (B := p0) (fun _ _ _ => by kernel_rfl))
  (Sim.ret (A := p0) (E := (exAt (exAt ex 1 p10) 2 p9)) (fun _ => ⟨rfl, rfl, rfl, trivial⟩)))
  (Sim.skip (A := p9)))))))))))))))))))))))
  (Sim.seq (Sim.reg (A := p10) (B := p0) (fun _ _ _ => by kernel_rfl))
  (Sim.ret (A := p0) (E := ex) (fun _ => ⟨rfl, rfl, rfl, trivial⟩))))))))))))

def init (x_l : Option Addr) (x_dst : Sl) (x_src : Sl) : St := { x_l := x_l, x_dst := x_dst, x_src := x_src, t6 := Sl.nil, t7 := 0, t8 := undef, x_s := 0, x_d := 0, x_res := 0, x_sz := 0, x_dLimit := 0, x_lastOffset := 0, x_uncompressed := 0, x_token := 0, x_ll := 0, x_ml := 0, x_val := 0, x_offset := 0, x_valq21 := 0, x_length := 0, x_dstq23 := Sl.nil, x_left := 0, x_lengthq25 := 0, x_dstq26 := Sl.nil, x_off := 0, t55 := 0 }

/-- What is left of the results. -/
def res (K : Sl → Int → Value → Heap → Prop) (s : St) (h1 : Heap) : Prop := K s.t6 s.t7 s.t8 h1

/-- The call of '(*pub-pemmican/pub/compress/s2.LZ4sConverter).ConvertBlock'. -/
theorem calls (x_l : Option Addr) (x_dst : Sl) (x_src : Sl) (h : Heap) (K : Sl → Int → Value → Heap → Prop)
    (H : stm (init x_l x_dst x_src) h (endK (res K))) : c_Ls2 x_l x_dst x_src h K := by
  have hc : CallsH Pg 72 #[(.pointer x_l), (.slice x_dst.p x_dst.n x_dst.c), (.slice x_src.p x_src.n x_src.c)] h fun v h1 => asT v fun l1 => asC l1 fun v1 l2 => asS v1 fun p1 n1 c1 => asC l2 fun v2 l3 => asI .i64 v2 fun n2 => asC l3 fun v3 l4 => asN l4 (K ⟨p1, n1, c1⟩ n2 v3 h1) :=
    callsH_of_sim (R := p0) (fn := Tryd.f72) (c := Tryd.f72.body.getD .skip) Tryd.func72 rfl Tryd.ntmps72 Tryd.call72 sim (init x_l x_dst x_src) (⟨rfl, rfl, rfl, trivial⟩) (Nat.le_of_ble_eq_true rfl) (fun _ => ⟨rfl, rfl, rfl, trivial⟩) rfl
      (res K) (fun _ _ => by kernel_rfl) H
  refine hc.mono ?_
  intro v hp H
  obtain ⟨l1, rfl, h1⟩ := asT_elim H
  obtain ⟨v1, l2, rfl, h2⟩ := asC_elim h1
  obtain ⟨p1, n1, c1, rfl, h3⟩ := asS_elim h2
  obtain ⟨v2, l3, rfl, h4⟩ := asC_elim h3
  obtain ⟨n2, rfl, h5⟩ := asI_elim h4
  obtain ⟨v3, l4, rfl, h6⟩ := asC_elim h5
  obtain ⟨rfl, h7⟩ := asN_elim h6
  exact ⟨_, _, _, _, _, rfl, h7⟩

end M_Ls2

end Go.Proofs.YtibleenkgmkpmaaDoor

namespace Go.Proofs.YtibleenkgmkpmaaDoor
open Go Go.Vc Go.Proofs

namespace M_Uvarint

structure St where
  x_buf : Sl
  t2 : Int
  t3 : Int
  x_x : Int
  x_s : Int
  x_i : Int
  x_b : Int
  t8 : Sl
  t9 : Int
  t10 : Int
  t11 : Bool

def p0 : Pt St where
  env s := [(2, (.int .u64 s.t2)), (3, (.int .i64 s.t3))]
  fin e s K := vI e 2 .u64 fun n1 => vI e 3 .i64 fun n2 => K { s with t2 := n1, t3 := n2 }
  ok := by
    intro e s K h0
    obtain ⟨n1, g1, h2⟩ := gI h0
    obtain ⟨n2, g2, h4⟩ := gI h2
    exact ⟨_, ⟨g1, g2, trivial⟩, h4⟩

def p1 : Pt St where
  env s := [(0, (.slice s.x_buf.p s.x_buf.n s.x_buf.c))]
  fin e s K := vS e 0 fun p1 n1 c1 => K { s with x_buf := ⟨p1, n1, c1⟩ }
  ok := by
    intro e s K h0
    obtain ⟨p1, n1, c1, g1, h2⟩ := gS h0
    exact ⟨_, ⟨g1, trivial⟩, h2⟩

def p2 : Pt St where
  env s := [(0, (.slice s.x_buf.p s.x_buf.n s.x_buf.c)), (4, (.int .u64 s.x_x))]
  fin e s K := vS e 0 fun p1 n1 c1 => vI e 4 .u64 fun n2 => K { s with x_buf := ⟨p1, n1, c1⟩, x_x := n2 }
  ok := by
    intro e s K h0
    obtain ⟨p1, n1, c1, g1, h2⟩ := gS h0
    obtain ⟨n2, g2, h4⟩ := gI h2
    exact ⟨_, ⟨g1, g2, trivial⟩, h4⟩

def p3 : Pt St where
  env s := [(0, (.slice s.x_buf.p s.x_buf.n s.x_buf.c)), (4, (.int .u64 s.x_x)), (5, (.int .u64 s.x_s))]
  fin e s K := vS e 0 fun p1 n1 c1 => vI e 4 .u64 fun n2 => vI e 5 .u64 fun n3 => K { s with x_buf := ⟨p1, n1, c1⟩, x_x := n2, x_s := n3 }
  ok := by
    intro e s K h0
    obtain ⟨p1, n1, c1, g1, h2⟩ := gS h0
    obtain ⟨n2, g2, h4⟩ := gI h2
    obtain ⟨n3, g3, h6⟩ := gI h4
    exact ⟨_, ⟨g1, g2, g3, trivial⟩, h6⟩

def p4 : Pt St where
  env s := [(4, (.int .u64 s.x_x)), (5, (.int .u64 s.x_s)), (8, (.slice s.t8.p s.t8.n s.t8.c)), (9, (.int .i64 s.t9)), (10, (.int .i64 s.t10))]
  fin e s K := vI e 4 .u64 fun n1 => vI e 5 .u64 fun n2 => vS e 8 fun p1 n3 c1 => vI e 9 .i64 fun n4 => vI e 10 .i64 fun n5 => K { s with x_x := n1, x_s := n2, t8 := ⟨p1, n3, c1⟩, t9 := n4, t10 := n5 }
  ok := by
    intro e s K h0
    obtain ⟨n1, g1, h2⟩ := gI h0
    obtain ⟨n2, g2, h4⟩ := gI h2
    obtain ⟨p1, n3, c1, g3, h6⟩ := gS h4
    obtain ⟨n4, g4, h8⟩ := gI h6
    obtain ⟨n5, g5, h10⟩ := gI h8
    exact ⟨_, ⟨g1, g2, g3, g4, g5, trivial⟩, h10⟩

def p5 : Pt St where
  env s := []
  fin e s K := K s
  ok := by
    intro e s K h0
    exact ⟨_, trivial, h0⟩

def p6 : Pt St where
  env s := [(4, (.int .u64 s.x_x)), (5, (.int .u64 s.x_s)), (8, (.slice s.t8.p s.t8.n s.t8.c)), (9, (.int .i64 s.t9)), (10, (.int .i64 s.t10)), (11, (.bool s.t11))]
  fin e s K := vI e 4 .u64 fun n1 => vI e 5 .u64 fun n2 => vS e 8 fun p1 n3 c1 => vI e 9 .i64 fun n4 => vI e 10 .i64 fun n5 => vB e 11 fun b1 => K { s with x_x := n1, x_s := n2, t8 := ⟨p1, n3, c1⟩, t9 := n4, t10 := n5, t11 := b1 }
  ok := by
    intro e s K h0
    obtain ⟨n1, g1, h2⟩ := gI h0
    obtain ⟨n2, g2, h4⟩ := gI h2
    obtain ⟨p1, n3, c1, g3, h6⟩ := gS h4
    obtain ⟨n4, g4, h8⟩ := gI h6
    obtain ⟨n5, g5, h10⟩ := gI h8
    obtain ⟨b1, g6, h12⟩ := gB h10
    exact ⟨_, ⟨g1, g2, g3, g4, g5, g6, trivial⟩, h12⟩

def p7 : Pt St where
  env s := [(4, (.int .u64 s.x_x)), (5, (.int .u64 s.x_s)), (6, (.int .i64 s.x_i)), (7, (.int .u8 s.x_b)), (8, (.slice s.t8.p s.t8.n s.t8.c)), (9, (.int .i64 s.t9)), (10, (.int .i64 s.t10))]
  fin e s K := vI e 4 .u64 fun n1 => vI e 5 .u64 fun n2 => vI e 6 .i64 fun n3 => vI e 7 .u8 fun n4 => vS e 8 fun p1 n5 c1 => vI e 9 .i64 fun n6 => vI e 10 .i64 fun n7 => K { s with x_x := n1, x_s := n2, x_i := n3, x_b := n4, t8 := ⟨p1, n5, c1⟩, t9 := n6, t10 := n7 }
  ok := by
    intro e s K h0
    obtain ⟨n1, g1, h2⟩ := gI h0
    obtain ⟨n2, g2, h4⟩ := gI h2
    obtain ⟨n3, g3, h6⟩ := gI h4
    obtain ⟨n4, g4, h8⟩ := gI h6
    obtain ⟨p1, n5, c1, g5, h10⟩ := gS h8
    obtain ⟨n6, g6, h12⟩ := gI h10
    obtain ⟨n7, g7, h14⟩ := gI h12
    exact ⟨_, ⟨g1, g2, g3, g4, g5, g6, g7, trivial⟩, h14⟩

def p8 : Pt St where
  env s := [(4, (.int .u64 s.x_x)), (5, (.int .u64 s.x_s)), (7, (.int .u8 s.x_b)), (8, (.slice s.t8.p s.t8.n s.t8.c)), (9, (.int .i64 s.t9)), (10, (.int .i64 s.t10))]
  fin e s K := vI e 4 .u64 fun n1 => vI e 5 .u64 fun n2 => vI e 7 .u8 fun n3 => vS e 8 fun p1 n4 c1 => vI e 9 .i64 fun n5 => vI e 10 .i64 fun n6 => K { s with x_x := n1, x_s := n2, x_b := n3, t8 := ⟨p1, n4, c1⟩, t9 := n5, t10 := n6 }
  ok := by
    intro e s K h0
    obtain ⟨n1, g1, h2⟩ := gI h0
    obtain ⟨n2, g2, h4⟩ := gI h2
    obtain ⟨n3, g3, h6⟩ := gI h4
    obtain ⟨p1, n4, c1, g4, h8⟩ := gS h6
    obtain ⟨n5, g5, h10⟩ := gI h8
    obtain ⟨n6, g6, h12⟩ := gI h10
    exact ⟨_, ⟨g1, g2, g3, g4, g5, g6, trivial⟩, h12⟩

def p9 : Pt St where
  env s := [(4, (.int .u64 s.x_x)), (5, (.int .u64 s.x_s)), (6, (.int .i64 s.x_i)), (7, (.int .u8 s.x_b))]
  fin e s K := vI e 4 .u64 fun n1 => vI e 5 .u64 fun n2 => vI e 6 .i64 fun n3 => vI e 7 .u8 fun n4 => K { s with x_x := n1, x_s := n2, x_i := n3, x_b := n4 }
  ok := by
    intro e s K h0
    obtain ⟨n1, g1, h2⟩ := gI h0
    obtain ⟨n2, g2, h4⟩ := gI h2
    obtain ⟨n3, g3, h6⟩ := gI h4
    obtain ⟨n4, g4, h8⟩ := gI h6
    exact ⟨_, ⟨g1, g2, g3, g4, trivial⟩, h8⟩

def r0 (s : St) (h : Heap) (Q : St → Heap → Prop) : Prop :=
  Q s h

def r1 (s : St) (h : Heap) (Q : St → Heap → Prop) : Prop :=
  Q { s with x_x := (0 : Int) } h

def r2 (s : St) (h : Heap) (Q : St → Heap → Prop) : Prop :=
  Q { s with x_s := (0 : Int) } h

def r3 (s : St) (h : Heap) (Q : St → Heap → Prop) : Prop :=
  Q { s with t8 := s.x_buf, t9 := ((s.x_buf.n : Nat) : Int), t10 := (0 : Int) } h

def r4 (s : St) (h : Heap) (Q : St → Heap → Prop) : Prop :=
  Q { s with t11 := (decide (s.t10 < s.t9)) } h

def r5 (s : St) (h : Heap) (Q : St → Heap → Prop) : Prop :=
  0 ≤ s.t10 ∧ s.t10 < ((s.t8.n : Nat) : Int) ∧
  ptrE s.t8.p fun a1 =>
  ∃ v2 : Int, hcell h (Addr.add a1 (Int.toNat s.t10 * 1)) = some (.int .u8 v2) ∧
  Q { s with x_i := s.t10, x_b := v2 } h

def r6 (s : St) (h : Heap) (Q : Bool → St → Heap → Prop) : Prop :=
  Q (s.x_i == (10 : Int)) s h

def r7 (s : St) (h : Heap) (Q : St → Heap → Prop) : Prop :=
  Q { s with t2 := (0 : Int), t3 := (IntKind.wrap .i64 (0 - (IntKind.wrap .i64 (s.x_i + (1 : Int))))) } h

def r8 (s : St) (h : Heap) (Q : Bool → St → Heap → Prop) : Prop :=
  Q (decide (s.x_b < (128 : Int))) s h

def r9 (s : St) (h : Heap) (Q : Bool → St → Heap → Prop) : Prop :=
  (if (s.x_i == (9 : Int)) = true then
  (Q (decide (s.x_b > (1 : Int))) s h)
  else
  (Q false s h))

def r10 (s : St) (h : Heap) (Q : St → Heap → Prop) : Prop :=
  Q { s with t2 := (0 : Int), t3 := (IntKind.wrap .i64 (0 - (IntKind.wrap .i64 (s.x_i + (1 : Int))))) } h

def r11 (s : St) (h : Heap) (Q : St → Heap → Prop) : Prop :=
  (if s.x_s < 0 then False else
  Q { s with t2 := (bOr .u64 s.x_x (IntKind.wrap .u64 ((IntKind.wrap .u64 s.x_b) * 2 ^ (min (Int.toNat s.x_s) 64)))), t3 := (IntKind.wrap .i64 (s.x_i + (1 : Int))) } h)

def r12 (s : St) (h : Heap) (Q : St → Heap → Prop) : Prop :=
  (if s.x_s < 0 then False else
  Q { s with x_x := (bOr .u64 s.x_x (IntKind.wrap .u64 ((IntKind.wrap .u64 (bAnd .u8 s.x_b (127 : Int))) * 2 ^ (min (Int.toNat s.x_s) 64)))) } h)

def r13 (s : St) (h : Heap) (Q : St → Heap → Prop) : Prop :=
  Q { s with x_s := (IntKind.wrap .u64 (s.x_s + (7 : Int))) } h

def r14 (s : St) (h : Heap) (Q : St → Heap → Prop) : Prop :=
  Q { s with t10 := (IntKind.wrap .i64 (s.t10 + (1 : Int))) } h

def r15 (s : St) (h : Heap) (Q : St → Heap → Prop) : Prop :=
  Q { s with t2 := (0 : Int), t3 := (0 : Int) } h

def k9 : Stm St := (.seq (.test r9 (.seq (.reg r10) .ret) .skip) (.seq (.reg r11) .ret))
def k8 : Stm St := (.seq (.test r8 k9 .skip) (.seq (.reg r12) (.reg r13)))
def k7 : Stm St := (.seq (.test r6 (.seq (.reg r7) .ret) .skip) k8)
def k6 : Stm St := (.seq (.block 1 (.seq (.reg r5) k7)) (.reg r14))
def k5 : Stm St := (.seq (.cond (fun s => s.t11) .skip (.exit 0)) k6)
def k4 : Stm St := (.seq (.reg r4) k5)
def k3 : Stm St := (.block 0 (.loop k4))
def k2 : Stm St := (.seq (.seq (.reg r3) k3) (.seq (.reg r15) .ret))
def k1 : Stm St := (.seq (.reg r2) k2)
def k0 : Stm St := (.seq (.reg r1) k1)

def stm : Stm St := (.seq (.reg r0) k0)

def ex : Ex → Pt St := fun _ => p0

set_option maxRecDepth 100000 in
theorem sim : Sim Pg 49 p1 (Tryd.f81.body.getD .skip) stm p0 ex :=
  (Sim.seq (Sim.reg (A := p1) (B := p1) (fun _ _ _ => by kernel_rfl))
  (Sim.seq (Sim.reg (A := p1) (B := p2) (fun _ _ _ => by kernel_rfl))
  (Sim.seq (Sim.reg (A := p2) (B := p3) (fun _ _ _ => by kernel_rfl))
  (Sim.seq (Sim.seq (Sim.reg (A := p3) (B := p4) (fun _ _ _ => by kernel_rfl))
  (Sim.block (B := p5) (Sim.loop (A := p4) (Sim.seq (Sim.reg (A := p4) (B := p6) (fun _ _ _ => by kernel_rfl))
  (Sim.seq (Sim.cond (A := p6) (fun s => s.t11) (fun _ => rfl) (Sim.weak (B := p6) (C := p4) (Sim.skip (A := p6)) (fun _ => ⟨rfl, rfl, rfl, rfl, rfl, trivial⟩))
  (Sim.exit (A := p6) (fun _ => trivial)))
  (Sim.seq (Sim.block (B := p4) (Sim.seq (Sim.reg (A := p4) (B := p7) (fun _ _ _ => by kernel_rfl))
  (Sim.seq (Sim.test (A := p7) (B := p7) (fun _ _ _ => by kernel_rfl) (Sim.seq (Sim.reg (A := p7) (B := p0) (fun _ _ _ => by kernel_rfl))
  (Sim.ret (A := p0) (E := (exAt (exAt ex 0 p5) 1 p4)) (fun _ => ⟨rfl, rfl, trivial⟩)))
  (Sim.skip (A := p7)))
  (Sim.seq (Sim.test (A := p7) (B := p7) (fun _ _ _ => by kernel_rfl) (Sim.seq (Sim.test (A := p7) (B := p9) (fun _ _ _ => by kernel_rfl) (Sim.seq (Sim.reg (A := p9) (B := p0) (fun _ _ _ => by kernel_rfl))
  (Sim.ret (A := p0) (E := (exAt (exAt ex 0 p5) 1 p4)) (fun _ => ⟨rfl, rfl, trivial⟩)))
  (Sim.skip (A := p9)))
  (Sim.seq (Sim.reg (A := p9) (B := p0) (fun _ _ _ => by kernel_rfl))
  (Sim.ret (A := p0) (E := (exAt (exAt ex 0 p5) 1 p4)) (fun _ => ⟨rfl, rfl, trivial⟩))))
  (Sim.weak (B := p7) (C := p8) (Sim.skip (A := p7)) (fun _ => ⟨rfl, rfl, rfl, rfl, rfl, rfl, trivial⟩)))
  (Sim.seq (Sim.reg (A := p8) (B := p4) (fun _ _ _ => by kernel_rfl))
  (Sim.reg (A := p4) (B := p4) (fun _ _ _ => by kernel_rfl)))))))
  (Sim.reg (A := p4) (B := p4) (fun _ _ _ => by kernel_rfl))))))))
  (Sim.seq (Sim.reg (A := p5) (B := p0) (fun _ _ _ => by kernel_rfl))
  (Sim.ret (A := p0) (E := ex) (fun _ => ⟨rfl, rfl, trivial⟩)))))))

def init (x_buf : Sl) : St := { x_buf := x_buf, t2 := 0, t3 := 0, x_x := 0, x_s := 0, x_i := 0, x_b := 0, t8 := Sl.nil, t9 := 0, t10 := 0, t11 := false }

/-- What is left of the results. -/
def res (K : Int → Int → Heap → Prop) (s : St) (h1 : Heap) : Prop := K s.t2 s.t3 h1

/-- The call of 'encoding/binary.Uvarint'. -/
theorem calls (x_buf : Sl) (h : Heap) (K : Int → Int → Heap → Prop)
    (H : stm (init x_buf) h (endK (res K))) : c_Uvarint x_buf h K := by
  have hc : CallsH Pg 81 #[(.slice x_buf.p x_buf.n x_buf.c)] h fun v h1 => asT v fun l1 => asC l1 fun v1 l2 => asI .u64 v1 fun n1 => asC l2 fun v2 l3 => asI .i64 v2 fun n2 => asN l3 (K n1 n2 h1) :=
    callsH_of_sim (R := p0) (fn := Tryd.f81) (c := Tryd.f81.body.getD .skip) Tryd.func81 rfl Tryd.ntmps81 Tryd.call81 sim (init x_buf) (⟨rfl, trivial⟩) (Nat.le_of_ble_eq_true rfl) (fun _ => ⟨rfl, rfl, trivial⟩) rfl
      (res K) (fun _ _ => by kernel_rfl) H
  refine hc.mono ?_
  intro v hp H
  obtain ⟨l1, rfl, h1⟩ := asT_elim H
  obtain ⟨v1, l2, rfl, h2⟩ := asC_elim h1
  obtain ⟨n1, rfl, h3⟩ := asI_elim h2
  obtain ⟨v2, l3, rfl, h4⟩ := asC_elim h3
  obtain ⟨n2, rfl, h5⟩ := asI_elim h4
  obtain ⟨rfl, h6⟩ := asN_elim h5
  exact ⟨_, _, rfl, h6⟩

end M_Uvarint

end Go.Proofs.YtibleenkgmkpmaaDoor

