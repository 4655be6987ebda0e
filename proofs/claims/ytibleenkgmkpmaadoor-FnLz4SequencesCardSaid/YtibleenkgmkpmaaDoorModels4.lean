/- Models of functions of the program: what each one computes, over heaps, tied to the program by one check a region. Written by a program. -/
import Derived.Test.YtibleenkgmkpmaaDoorSigs
namespace Go.Proofs.YtibleenkgmkpmaaDoor
open Go Go.Vc Go.Proofs

namespace M_decodedLen

structure St where
  x_src : Sl
  x_blockLen : Int
  x_headerLen : Int
  x_err : Value
  x_v : Int
  x_n : Int

def p0 : Pt St where
  env s := [(2, (.int .i64 s.x_blockLen)), (3, (.int .i64 s.x_headerLen)), (4, s.x_err)]
  fin e s K := vI e 2 .i64 fun n1 => vI e 3 .i64 fun n2 => getV e 4 fun v3 => K { s with x_blockLen := n1, x_headerLen := n2, x_err := v3 }
  ok := by
    intro e s K h0
    obtain ⟨n1, g1, h2⟩ := gI h0
    obtain ⟨n2, g2, h4⟩ := gI h2
    obtain ⟨w3, g3, h5⟩ := getV_elim h4
    exact ⟨_, ⟨g1, g2, g3, trivial⟩, h5⟩

def p1 : Pt St where
  env s := [(0, (.slice s.x_src.p s.x_src.n s.x_src.c))]
  fin e s K := vS e 0 fun p1 n1 c1 => K { s with x_src := ⟨p1, n1, c1⟩ }
  ok := by
    intro e s K h0
    obtain ⟨p1, n1, c1, g1, h2⟩ := gS h0
    exact ⟨_, ⟨g1, trivial⟩, h2⟩

def p2 : Pt St where
  env s := [(5, (.int .u64 s.x_v)), (6, (.int .i64 s.x_n))]
  fin e s K := vI e 5 .u64 fun n1 => vI e 6 .i64 fun n2 => K { s with x_v := n1, x_n := n2 }
  ok := by
    intro e s K h0
    obtain ⟨n1, g1, h2⟩ := gI h0
    obtain ⟨n2, g2, h4⟩ := gI h2
    exact ⟨_, ⟨g1, g2, trivial⟩, h4⟩

def r0 (s : St) (h : Heap) (Q : St → Heap → Prop) : Prop :=
  Q s h

def r1 (s : St) (h : Heap) (Q : St → Heap → Prop) : Prop :=
  c_Uvarint s.x_src h fun r2 r3 h1 =>
  Q { s with x_v := r2, x_n := r3 } h1

def r2 (s : St) (h : Heap) (Q : Bool → St → Heap → Prop) : Prop :=
  (if (decide (s.x_n ≤ (0 : Int))) = false then
  ((if (decide (s.x_n > (5 : Int))) = false then
  (Q (decide (s.x_v > (4294967295 : Int))) s h)
  else
  (Q true s h)))
  else
  (Q true s h))

def r3 (s : St) (h : Heap) (Q : St → Heap → Prop) : Prop :=
  ∃ u1 : Value, hcell h ⟨0, 0, none⟩ = some u1 ∧
  Q { s with x_blockLen := (0 : Int), x_headerLen := (0 : Int), x_err := u1 } h

def r4 (s : St) (h : Heap) (Q : Bool → St → Heap → Prop) : Prop :=
  Q false s h

def r5 (s : St) (h : Heap) (Q : St → Heap → Prop) : Prop :=
  ∃ u1 : Value, hcell h ⟨1, 0, none⟩ = some u1 ∧
  Q { s with x_blockLen := (0 : Int), x_headerLen := (0 : Int), x_err := u1 } h

def r6 (s : St) (h : Heap) (Q : St → Heap → Prop) : Prop :=
  Q { s with x_blockLen := (IntKind.wrap .i64 s.x_v), x_headerLen := s.x_n, x_err := .nilIface } h

def k2 : Stm St := (.seq (.test r4 (.seq (.reg r5) .ret) .skip) (.seq (.reg r6) .ret))
def k1 : Stm St := (.seq (.test r2 (.seq (.reg r3) .ret) .skip) k2)
def k0 : Stm St := (.seq (.reg r1) k1)

def stm : Stm St := (.seq (.reg r0) k0)

def ex : Ex → Pt St := fun _ => p0

set_option maxRecDepth 100000 in
theorem sim : Sim Pg 31 p1 (Tryd.f56.body.getD .skip) stm p0 ex :=
  (Sim.seq (Sim.reg (A := p1) (B := p1) (fun _ _ _ => by kernel_rfl))
  (Sim.seq (Sim.reg (A := p1) (B := p2) (fun _ _ _ => by kernel_rfl))
  (Sim.seq (Sim.test (A := p2) (B := p2) (fun _ _ _ => by kernel_rfl) (Sim.seq (Sim.reg (A := p2) (B := p0) (fun _ _ _ => by kernel_rfl))
  (Sim.ret (A := p0) (E := ex) (fun _ => ⟨rfl, rfl, rfl, trivial⟩)))
  (Sim.skip (A := p2)))
  (Sim.seq (Sim.test (A := p2) (B := p2) (fun _ _ _ => by kernel_rfl) (Sim.seq (Sim.reg (A := p2) (B := p0) (fun _ _ _ => by kernel_rfl))
  (Sim.ret (A := p0) (E := ex) (fun _ => ⟨rfl, rfl, rfl, trivial⟩)))
  (Sim.skip (A := p2)))
  (Sim.seq (Sim.reg (A := p2) (B := p0) (fun _ _ _ => by kernel_rfl))
  (Sim.ret (A := p0) (E := ex) (fun _ => ⟨rfl, rfl, rfl, trivial⟩)))))))

def init (x_src : Sl) : St := { x_src := x_src, x_blockLen := 0, x_headerLen := 0, x_err := undef, x_v := 0, x_n := 0 }

/-- What is left of the results. -/
def res (K : Int → Int → Value → Heap → Prop) (s : St) (h1 : Heap) : Prop := K s.x_blockLen s.x_headerLen s.x_err h1

/-- The call of 'pub-pemmican/pub/compress/s2.decodedLen'. -/
theorem calls (x_src : Sl) (h : Heap) (K : Int → Int → Value → Heap → Prop)
    (H : stm (init x_src) h (endK (res K))) : c_decodedLen x_src h K := by
  have hc : CallsH Pg 56 #[(.slice x_src.p x_src.n x_src.c)] h fun v h1 => asT v fun l1 => asC l1 fun v1 l2 => asI .i64 v1 fun n1 => asC l2 fun v2 l3 => asI .i64 v2 fun n2 => asC l3 fun v3 l4 => asN l4 (K n1 n2 v3 h1) :=
    callsH_of_sim (R := p0) (fn := Tryd.f56) (c := Tryd.f56.body.getD .skip) Tryd.func56 rfl Tryd.ntmps56 Tryd.call56 sim (init x_src) (⟨rfl, trivial⟩) (Nat.le_of_ble_eq_true rfl) (fun _ => ⟨rfl, rfl, rfl, trivial⟩) rfl
      (res K) (fun _ _ => by kernel_rfl) H
  refine hc.mono ?_
  intro v hp H
  obtain ⟨l1, rfl, h1⟩ := asT_elim H
  obtain ⟨v1, l2, rfl, h2⟩ := asC_elim h1
  obtain ⟨n1, rfl, h3⟩ := asI_elim h2
  obtain ⟨v2, l3, rfl, h4⟩ := asC_elim h3
  obtain ⟨n2, rfl, h5⟩ := asI_elim h4
  obtain ⟨v3, l4, rfl, h6⟩ := asC_elim h5
  obtain ⟨rfl, h7⟩ := asN_elim h6
  exact ⟨_, _, _, rfl, h7⟩

end M_decodedLen

end Go.Proofs.YtibleenkgmkpmaaDoor

namespace Go.Proofs.YtibleenkgmkpmaaDoor
open Go Go.Vc Go.Proofs

namespace M_s2Decode

structure St where
  x_dst : Sl
  x_src : Sl
  t4 : Int
  x_d : Int
  x_s : Int
  x_length : Int
  x_offset : Int
  x_x : Int
  x_toffset : Int
  x_in : Sl
  x_a : Sl
  x_b : Sl
  x_i : Int
  x_xq15 : Int
  x_toffsetq16 : Int
  x_aq17 : Sl
  x_bq18 : Sl
  x_iq19 : Int
  t29 : Int
  t152 : Int
  t283 : Int
  t284 : Int
  t285 : Bool
  t306 : Int
  t511 : Int
  t724 : Int
  t725 : Int
  t726 : Bool

def p0 : Pt St where
  env s := [(4, (.int .i64 s.t4))]
  fin e s K := vI e 4 .i64 fun n1 => K { s with t4 := n1 }
  ok := by
    intro e s K h0
    obtain ⟨n1, g1, h2⟩ := gI h0
    exact ⟨_, ⟨g1, trivial⟩, h2⟩

def p1 : Pt St where
  env s := [(0, (.slice s.x_dst.p s.x_dst.n s.x_dst.c)), (1, (.slice s.x_src.p s.x_src.n s.x_src.c))]
  fin e s K := vS e 0 fun p1 n1 c1 => vS e 1 fun p2 n2 c2 => K { s with x_dst := ⟨p1, n1, c1⟩, x_src := ⟨p2, n2, c2⟩ }
  ok := by
    intro e s K h0
    obtain ⟨p1, n1, c1, g1, h2⟩ := gS h0
    obtain ⟨p2, n2, c2, g2, h4⟩ := gS h2
    exact ⟨_, ⟨g1, g2, trivial⟩, h4⟩

def p2 : Pt St where
  env s := [(0, (.slice s.x_dst.p s.x_dst.n s.x_dst.c)), (1, (.slice s.x_src.p s.x_src.n s.x_src.c)), (5, (.int .i64 s.x_d)), (6, (.int .i64 s.x_s)), (7, (.int .i64 s.x_length))]
  fin e s K := vS e 0 fun p1 n1 c1 => vS e 1 fun p2 n2 c2 => vI e 5 .i64 fun n3 => vI e 6 .i64 fun n4 => vI e 7 .i64 fun n5 => K { s with x_dst := ⟨p1, n1, c1⟩, x_src := ⟨p2, n2, c2⟩, x_d := n3, x_s := n4, x_length := n5 }
  ok := by
    intro e s K h0
    obtain ⟨p1, n1, c1, g1, h2⟩ := gS h0
    obtain ⟨p2, n2, c2, g2, h4⟩ := gS h2
    obtain ⟨n3, g3, h6⟩ := gI h4
    obtain ⟨n4, g4, h8⟩ := gI h6
    obtain ⟨n5, g5, h10⟩ := gI h8
    exact ⟨_, ⟨g1, g2, g3, g4, g5, trivial⟩, h10⟩

def p3 : Pt St where
  env s := [(0, (.slice s.x_dst.p s.x_dst.n s.x_dst.c)), (1, (.slice s.x_src.p s.x_src.n s.x_src.c)), (5, (.int .i64 s.x_d)), (6, (.int .i64 s.x_s)), (7, (.int .i64 s.x_length)), (8, (.int .i64 s.x_offset))]
  fin e s K := vS e 0 fun p1 n1 c1 => vS e 1 fun p2 n2 c2 => vI e 5 .i64 fun n3 => vI e 6 .i64 fun n4 => vI e 7 .i64 fun n5 => vI e 8 .i64 fun n6 => K { s with x_dst := ⟨p1, n1, c1⟩, x_src := ⟨p2, n2, c2⟩, x_d := n3, x_s := n4, x_length := n5, x_offset := n6 }
  ok := by
    intro e s K h0
    obtain ⟨p1, n1, c1, g1, h2⟩ := gS h0
    obtain ⟨p2, n2, c2, g2, h4⟩ := gS h2
    obtain ⟨n3, g3, h6⟩ := gI h4
    obtain ⟨n4, g4, h8⟩ := gI h6
    obtain ⟨n5, g5, h10⟩ := gI h8
    obtain ⟨n6, g6, h12⟩ := gI h10
    exact ⟨_, ⟨g1, g2, g3, g4, g5, g6, trivial⟩, h12⟩

def p4 : Pt St where
  env s := [(0, (.slice s.x_dst.p s.x_dst.n s.x_dst.c)), (1, (.slice s.x_src.p s.x_src.n s.x_src.c)), (5, (.int .i64 s.x_d)), (6, (.int .i64 s.x_s)), (7, (.int .i64 s.x_length)), (8, (.int .i64 s.x_offset)), (29, (.int .u8 s.t29))]
  fin e s K := vS e 0 fun p1 n1 c1 => vS e 1 fun p2 n2 c2 => vI e 5 .i64 fun n3 => vI e 6 .i64 fun n4 => vI e 7 .i64 fun n5 => vI e 8 .i64 fun n6 => vI e 29 .u8 fun n7 => K { s with x_dst := ⟨p1, n1, c1⟩, x_src := ⟨p2, n2, c2⟩, x_d := n3, x_s := n4, x_length := n5, x_offset := n6, t29 := n7 }
  ok := by
    intro e s K h0
    obtain ⟨p1, n1, c1, g1, h2⟩ := gS h0
    obtain ⟨p2, n2, c2, g2, h4⟩ := gS h2
    obtain ⟨n3, g3, h6⟩ := gI h4
    obtain ⟨n4, g4, h8⟩ := gI h6
    obtain ⟨n5, g5, h10⟩ := gI h8
    obtain ⟨n6, g6, h12⟩ := gI h10
    obtain ⟨n7, g7, h14⟩ := gI h12
    exact ⟨_, ⟨g1, g2, g3, g4, g5, g6, g7, trivial⟩, h14⟩

def p5 : Pt St where
  env s := [(0, (.slice s.x_dst.p s.x_dst.n s.x_dst.c)), (1, (.slice s.x_src.p s.x_src.n s.x_src.c)), (5, (.int .i64 s.x_d)), (6, (.int .i64 s.x_s)), (8, (.int .i64 s.x_offset)), (9, (.int .u32 s.x_x))]
  fin e s K := vS e 0 fun p1 n1 c1 => vS e 1 fun p2 n2 c2 => vI e 5 .i64 fun n3 => vI e 6 .i64 fun n4 => vI e 8 .i64 fun n5 => vI e 9 .u32 fun n6 => K { s with x_dst := ⟨p1, n1, c1⟩, x_src := ⟨p2, n2, c2⟩, x_d := n3, x_s := n4, x_offset := n5, x_x := n6 }
  ok := by
    intro e s K h0
    obtain ⟨p1, n1, c1, g1, h2⟩ := gS h0
    obtain ⟨p2, n2, c2, g2, h4⟩ := gS h2
    obtain ⟨n3, g3, h6⟩ := gI h4
    obtain ⟨n4, g4, h8⟩ := gI h6
    obtain ⟨n5, g5, h10⟩ := gI h8
    obtain ⟨n6, g6, h12⟩ := gI h10
    exact ⟨_, ⟨g1, g2, g3, g4, g5, g6, trivial⟩, h12⟩

def p6 : Pt St where
  env s := [(0, (.slice s.x_dst.p s.x_dst.n s.x_dst.c)), (1, (.slice s.x_src.p s.x_src.n s.x_src.c)), (5, (.int .i64 s.x_d)), (6, (.int .i64 s.x_s)), (8, (.int .i64 s.x_offset))]
  fin e s K := vS e 0 fun p1 n1 c1 => vS e 1 fun p2 n2 c2 => vI e 5 .i64 fun n3 => vI e 6 .i64 fun n4 => vI e 8 .i64 fun n5 => K { s with x_dst := ⟨p1, n1, c1⟩, x_src := ⟨p2, n2, c2⟩, x_d := n3, x_s := n4, x_offset := n5 }
  ok := by
    intro e s K h0
    obtain ⟨p1, n1, c1, g1, h2⟩ := gS h0
    obtain ⟨p2, n2, c2, g2, h4⟩ := gS h2
    obtain ⟨n3, g3, h6⟩ := gI h4
    obtain ⟨n4, g4, h8⟩ := gI h6
    obtain ⟨n5, g5, h10⟩ := gI h8
    exact ⟨_, ⟨g1, g2, g3, g4, g5, trivial⟩, h10⟩

def p7 : Pt St where
  env s := [(0, (.slice s.x_dst.p s.x_dst.n s.x_dst.c)), (1, (.slice s.x_src.p s.x_src.n s.x_src.c)), (5, (.int .i64 s.x_d)), (6, (.int .i64 s.x_s)), (8, (.int .i64 s.x_offset)), (10, (.int .i64 s.x_toffset))]
  fin e s K := vS e 0 fun p1 n1 c1 => vS e 1 fun p2 n2 c2 => vI e 5 .i64 fun n3 => vI e 6 .i64 fun n4 => vI e 8 .i64 fun n5 => vI e 10 .i64 fun n6 => K { s with x_dst := ⟨p1, n1, c1⟩, x_src := ⟨p2, n2, c2⟩, x_d := n3, x_s := n4, x_offset := n5, x_toffset := n6 }
  ok := by
    intro e s K h0
    obtain ⟨p1, n1, c1, g1, h2⟩ := gS h0
    obtain ⟨p2, n2, c2, g2, h4⟩ := gS h2
    obtain ⟨n3, g3, h6⟩ := gI h4
    obtain ⟨n4, g4, h8⟩ := gI h6
    obtain ⟨n5, g5, h10⟩ := gI h8
    obtain ⟨n6, g6, h12⟩ := gI h10
    exact ⟨_, ⟨g1, g2, g3, g4, g5, g6, trivial⟩, h12⟩

def p8 : Pt St where
  env s := [(0, (.slice s.x_dst.p s.x_dst.n s.x_dst.c)), (1, (.slice s.x_src.p s.x_src.n s.x_src.c)), (5, (.int .i64 s.x_d)), (6, (.int .i64 s.x_s)), (7, (.int .i64 s.x_length)), (8, (.int .i64 s.x_offset)), (10, (.int .i64 s.x_toffset))]
  fin e s K := vS e 0 fun p1 n1 c1 => vS e 1 fun p2 n2 c2 => vI e 5 .i64 fun n3 => vI e 6 .i64 fun n4 => vI e 7 .i64 fun n5 => vI e 8 .i64 fun n6 => vI e 10 .i64 fun n7 => K { s with x_dst := ⟨p1, n1, c1⟩, x_src := ⟨p2, n2, c2⟩, x_d := n3, x_s := n4, x_length := n5, x_offset := n6, x_toffset := n7 }
  ok := by
    intro e s K h0
    obtain ⟨p1, n1, c1, g1, h2⟩ := gS h0
    obtain ⟨p2, n2, c2, g2, h4⟩ := gS h2
    obtain ⟨n3, g3, h6⟩ := gI h4
    obtain ⟨n4, g4, h8⟩ := gI h6
    obtain ⟨n5, g5, h10⟩ := gI h8
    obtain ⟨n6, g6, h12⟩ := gI h10
    obtain ⟨n7, g7, h14⟩ := gI h12
    exact ⟨_, ⟨g1, g2, g3, g4, g5, g6, g7, trivial⟩, h14⟩

def p9 : Pt St where
  env s := [(0, (.slice s.x_dst.p s.x_dst.n s.x_dst.c)), (1, (.slice s.x_src.p s.x_src.n s.x_src.c)), (5, (.int .i64 s.x_d)), (6, (.int .i64 s.x_s)), (7, (.int .i64 s.x_length)), (8, (.int .i64 s.x_offset)), (152, (.int .i64 s.t152))]
  fin e s K := vS e 0 fun p1 n1 c1 => vS e 1 fun p2 n2 c2 => vI e 5 .i64 fun n3 => vI e 6 .i64 fun n4 => vI e 7 .i64 fun n5 => vI e 8 .i64 fun n6 => vI e 152 .i64 fun n7 => K { s with x_dst := ⟨p1, n1, c1⟩, x_src := ⟨p2, n2, c2⟩, x_d := n3, x_s := n4, x_length := n5, x_offset := n6, t152 := n7 }
  ok := by
    intro e s K h0
    obtain ⟨p1, n1, c1, g1, h2⟩ := gS h0
    obtain ⟨p2, n2, c2, g2, h4⟩ := gS h2
    obtain ⟨n3, g3, h6⟩ := gI h4
    obtain ⟨n4, g4, h8⟩ := gI h6
    obtain ⟨n5, g5, h10⟩ := gI h8
    obtain ⟨n6, g6, h12⟩ := gI h10
    obtain ⟨n7, g7, h14⟩ := gI h12
    exact ⟨_, ⟨g1, g2, g3, g4, g5, g6, g7, trivial⟩, h14⟩

def p10 : Pt St where
  env s := [(0, (.slice s.x_dst.p s.x_dst.n s.x_dst.c)), (1, (.slice s.x_src.p s.x_src.n s.x_src.c)), (5, (.int .i64 s.x_d)), (6, (.int .i64 s.x_s)), (8, (.int .i64 s.x_offset)), (11, (.slice s.x_in.p s.x_in.n s.x_in.c))]
  fin e s K := vS e 0 fun p1 n1 c1 => vS e 1 fun p2 n2 c2 => vI e 5 .i64 fun n3 => vI e 6 .i64 fun n4 => vI e 8 .i64 fun n5 => vS e 11 fun p3 n6 c3 => K { s with x_dst := ⟨p1, n1, c1⟩, x_src := ⟨p2, n2, c2⟩, x_d := n3, x_s := n4, x_offset := n5, x_in := ⟨p3, n6, c3⟩ }
  ok := by
    intro e s K h0
    obtain ⟨p1, n1, c1, g1, h2⟩ := gS h0
    obtain ⟨p2, n2, c2, g2, h4⟩ := gS h2
    obtain ⟨n3, g3, h6⟩ := gI h4
    obtain ⟨n4, g4, h8⟩ := gI h6
    obtain ⟨n5, g5, h10⟩ := gI h8
    obtain ⟨p3, n6, c3, g6, h12⟩ := gS h10
    exact ⟨_, ⟨g1, g2, g3, g4, g5, g6, trivial⟩, h12⟩

def p11 : Pt St where
  env s := [(0, (.slice s.x_dst.p s.x_dst.n s.x_dst.c)), (1, (.slice s.x_src.p s.x_src.n s.x_src.c)), (5, (.int .i64 s.x_d)), (6, (.int .i64 s.x_s)), (7, (.int .i64 s.x_length)), (8, (.int .i64 s.x_offset)), (12, (.slice s.x_a.p s.x_a.n s.x_a.c))]
  fin e s K := vS e 0 fun p1 n1 c1 => vS e 1 fun p2 n2 c2 => vI e 5 .i64 fun n3 => vI e 6 .i64 fun n4 => vI e 7 .i64 fun n5 => vI e 8 .i64 fun n6 => vS e 12 fun p3 n7 c3 => K { s with x_dst := ⟨p1, n1, c1⟩, x_src := ⟨p2, n2, c2⟩, x_d := n3, x_s := n4, x_length := n5, x_offset := n6, x_a := ⟨p3, n7, c3⟩ }
  ok := by
    intro e s K h0
    obtain ⟨p1, n1, c1, g1, h2⟩ := gS h0
    obtain ⟨p2, n2, c2, g2, h4⟩ := gS h2
    obtain ⟨n3, g3, h6⟩ := gI h4
    obtain ⟨n4, g4, h8⟩ := gI h6
    obtain ⟨n5, g5, h10⟩ := gI h8
    obtain ⟨n6, g6, h12⟩ := gI h10
    obtain ⟨p3, n7, c3, g7, h14⟩ := gS h12
    exact ⟨_, ⟨g1, g2, g3, g4, g5, g6, g7, trivial⟩, h14⟩

def p12 : Pt St where
  env s := [(0, (.slice s.x_dst.p s.x_dst.n s.x_dst.c)), (1, (.slice s.x_src.p s.x_src.n s.x_src.c)), (5, (.int .i64 s.x_d)), (6, (.int .i64 s.x_s)), (7, (.int .i64 s.x_length)), (8, (.int .i64 s.x_offset)), (12, (.slice s.x_a.p s.x_a.n s.x_a.c)), (13, (.slice s.x_b.p s.x_b.n s.x_b.c))]
  fin e s K := vS e 0 fun p1 n1 c1 => vS e 1 fun p2 n2 c2 => vI e 5 .i64 fun n3 => vI e 6 .i64 fun n4 => vI e 7 .i64 fun n5 => vI e 8 .i64 fun n6 => vS e 12 fun p3 n7 c3 => vS e 13 fun p4 n8 c4 => K { s with x_dst := ⟨p1, n1, c1⟩, x_src := ⟨p2, n2, c2⟩, x_d := n3, x_s := n4, x_length := n5, x_offset := n6, x_a := ⟨p3, n7, c3⟩, x_b := ⟨p4, n8, c4⟩ }
  ok := by
    intro e s K h0
    obtain ⟨p1, n1, c1, g1, h2⟩ := gS h0
    obtain ⟨p2, n2, c2, g2, h4⟩ := gS h2
    obtain ⟨n3, g3, h6⟩ := gI h4
    obtain ⟨n4, g4, h8⟩ := gI h6
    obtain ⟨n5, g5, h10⟩ := gI h8
    obtain ⟨n6, g6, h12⟩ := gI h10
    obtain ⟨p3, n7, c3, g7, h14⟩ := gS h12
    obtain ⟨p4, n8, c4, g8, h16⟩ := gS h14
    exact ⟨_, ⟨g1, g2, g3, g4, g5, g6, g7, g8, trivial⟩, h16⟩

def p13 : Pt St where
  env s := [(0, (.slice s.x_dst.p s.x_dst.n s.x_dst.c)), (1, (.slice s.x_src.p s.x_src.n s.x_src.c)), (5, (.int .i64 s.x_d)), (6, (.int .i64 s.x_s)), (7, (.int .i64 s.x_length)), (8, (.int .i64 s.x_offset)), (12, (.slice s.x_a.p s.x_a.n s.x_a.c)), (13, (.slice s.x_b.p s.x_b.n s.x_b.c)), (283, (.int .i64 s.t283)), (284, (.int .i64 s.t284))]
  fin e s K := vS e 0 fun p1 n1 c1 => vS e 1 fun p2 n2 c2 => vI e 5 .i64 fun n3 => vI e 6 .i64 fun n4 => vI e 7 .i64 fun n5 => vI e 8 .i64 fun n6 => vS e 12 fun p3 n7 c3 => vS e 13 fun p4 n8 c4 => vI e 283 .i64 fun n9 => vI e 284 .i64 fun n10 => K { s with x_dst := ⟨p1, n1, c1⟩, x_src := ⟨p2, n2, c2⟩, x_d := n3, x_s := n4, x_length := n5, x_offset := n6, x_a := ⟨p3, n7, c3⟩, x_b := ⟨p4, n8, c4⟩, t283 := n9, t284 := n10 }
  ok := by
    intro e s K h0
    obtain ⟨p1, n1, c1, g1, h2⟩ := gS h0
    obtain ⟨p2, n2, c2, g2, h4⟩ := gS h2
    obtain ⟨n3, g3, h6⟩ := gI h4
    obtain ⟨n4, g4, h8⟩ := gI h6
    obtain ⟨n5, g5, h10⟩ := gI h8
    obtain ⟨n6, g6, h12⟩ := gI h10
    obtain ⟨p3, n7, c3, g7, h14⟩ := gS h12
    obtain ⟨p4, n8, c4, g8, h16⟩ := gS h14
    obtain ⟨n9, g9, h18⟩ := gI h16
    obtain ⟨n10, g10, h20⟩ := gI h18
    exact ⟨_, ⟨g1, g2, g3, g4, g5, g6, g7, g8, g9, g10, trivial⟩, h20⟩

def p14 : Pt St where
  env s := [(0, (.slice s.x_dst.p s.x_dst.n s.x_dst.c)), (1, (.slice s.x_src.p s.x_src.n s.x_src.c)), (5, (.int .i64 s.x_d)), (6, (.int .i64 s.x_s)), (7, (.int .i64 s.x_length)), (8, (.int .i64 s.x_offset)), (12, (.slice s.x_a.p s.x_a.n s.x_a.c)), (13, (.slice s.x_b.p s.x_b.n s.x_b.c)), (283, (.int .i64 s.t283)), (284, (.int .i64 s.t284)), (285, (.bool s.t285))]
  fin e s K := vS e 0 fun p1 n1 c1 => vS e 1 fun p2 n2 c2 => vI e 5 .i64 fun n3 => vI e 6 .i64 fun n4 => vI e 7 .i64 fun n5 => vI e 8 .i64 fun n6 => vS e 12 fun p3 n7 c3 => vS e 13 fun p4 n8 c4 => vI e 283 .i64 fun n9 => vI e 284 .i64 fun n10 => vB e 285 fun b1 => K { s with x_dst := ⟨p1, n1, c1⟩, x_src := ⟨p2, n2, c2⟩, x_d := n3, x_s := n4, x_length := n5, x_offset := n6, x_a := ⟨p3, n7, c3⟩, x_b := ⟨p4, n8, c4⟩, t283 := n9, t284 := n10, t285 := b1 }
  ok := by
    intro e s K h0
    obtain ⟨p1, n1, c1, g1, h2⟩ := gS h0
    obtain ⟨p2, n2, c2, g2, h4⟩ := gS h2
    obtain ⟨n3, g3, h6⟩ := gI h4
    obtain ⟨n4, g4, h8⟩ := gI h6
    obtain ⟨n5, g5, h10⟩ := gI h8
    obtain ⟨n6, g6, h12⟩ := gI h10
    obtain ⟨p3, n7, c3, g7, h14⟩ := gS h12
    obtain ⟨p4, n8, c4, g8, h16⟩ := gS h14
    obtain ⟨n9, g9, h18⟩ := gI h16
    obtain ⟨n10, g10, h20⟩ := gI h18
    obtain ⟨b1, g11, h22⟩ := gB h20
    exact ⟨_, ⟨g1, g2, g3, g4, g5, g6, g7, g8, g9, g10, g11, trivial⟩, h22⟩

def p15 : Pt St where
  env s := [(0, (.slice s.x_dst.p s.x_dst.n s.x_dst.c)), (1, (.slice s.x_src.p s.x_src.n s.x_src.c)), (5, (.int .i64 s.x_d)), (6, (.int .i64 s.x_s)), (7, (.int .i64 s.x_length)), (8, (.int .i64 s.x_offset)), (12, (.slice s.x_a.p s.x_a.n s.x_a.c)), (13, (.slice s.x_b.p s.x_b.n s.x_b.c)), (14, (.int .i64 s.x_i)), (283, (.int .i64 s.t283)), (284, (.int .i64 s.t284))]
  fin e s K := vS e 0 fun p1 n1 c1 => vS e 1 fun p2 n2 c2 => vI e 5 .i64 fun n3 => vI e 6 .i64 fun n4 => vI e 7 .i64 fun n5 => vI e 8 .i64 fun n6 => vS e 12 fun p3 n7 c3 => vS e 13 fun p4 n8 c4 => vI e 14 .i64 fun n9 => vI e 283 .i64 fun n10 => vI e 284 .i64 fun n11 => K { s with x_dst := ⟨p1, n1, c1⟩, x_src := ⟨p2, n2, c2⟩, x_d := n3, x_s := n4, x_length := n5, x_offset := n6, x_a := ⟨p3, n7, c3⟩, x_b := ⟨p4, n8, c4⟩, x_i := n9, t283 := n10, t284 := n11 }
  ok := by
    intro e s K h0
    obtain ⟨p1, n1, c1, g1, h2⟩ := gS h0
    obtain ⟨p2, n2, c2, g2, h4⟩ := gS h2
    obtain ⟨n3, g3, h6⟩ := gI h4
    obtain ⟨n4, g4, h8⟩ := gI h6
    obtain ⟨n5, g5, h10⟩ := gI h8
    obtain ⟨n6, g6, h12⟩ := gI h10
    obtain ⟨p3, n7, c3, g7, h14⟩ := gS h12
    obtain ⟨p4, n8, c4, g8, h16⟩ := gS h14
    obtain ⟨n9, g9, h18⟩ := gI h16
    obtain ⟨n10, g10, h20⟩ := gI h18
    obtain ⟨n11, g11, h22⟩ := gI h20
    exact ⟨_, ⟨g1, g2, g3, g4, g5, g6, g7, g8, g9, g10, g11, trivial⟩, h22⟩

def p16 : Pt St where
  env s := [(0, (.slice s.x_dst.p s.x_dst.n s.x_dst.c)), (5, (.int .i64 s.x_d))]
  fin e s K := vS e 0 fun p1 n1 c1 => vI e 5 .i64 fun n2 => K { s with x_dst := ⟨p1, n1, c1⟩, x_d := n2 }
  ok := by
    intro e s K h0
    obtain ⟨p1, n1, c1, g1, h2⟩ := gS h0
    obtain ⟨n2, g2, h4⟩ := gI h2
    exact ⟨_, ⟨g1, g2, trivial⟩, h4⟩

def p17 : Pt St where
  env s := [(0, (.slice s.x_dst.p s.x_dst.n s.x_dst.c)), (1, (.slice s.x_src.p s.x_src.n s.x_src.c)), (5, (.int .i64 s.x_d)), (6, (.int .i64 s.x_s)), (7, (.int .i64 s.x_length)), (8, (.int .i64 s.x_offset)), (306, (.int .u8 s.t306))]
  fin e s K := vS e 0 fun p1 n1 c1 => vS e 1 fun p2 n2 c2 => vI e 5 .i64 fun n3 => vI e 6 .i64 fun n4 => vI e 7 .i64 fun n5 => vI e 8 .i64 fun n6 => vI e 306 .u8 fun n7 => K { s with x_dst := ⟨p1, n1, c1⟩, x_src := ⟨p2, n2, c2⟩, x_d := n3, x_s := n4, x_length := n5, x_offset := n6, t306 := n7 }
  ok := by
    intro e s K h0
    obtain ⟨p1, n1, c1, g1, h2⟩ := gS h0
    obtain ⟨p2, n2, c2, g2, h4⟩ := gS h2
    obtain ⟨n3, g3, h6⟩ := gI h4
    obtain ⟨n4, g4, h8⟩ := gI h6
    obtain ⟨n5, g5, h10⟩ := gI h8
    obtain ⟨n6, g6, h12⟩ := gI h10
    obtain ⟨n7, g7, h14⟩ := gI h12
    exact ⟨_, ⟨g1, g2, g3, g4, g5, g6, g7, trivial⟩, h14⟩

def p18 : Pt St where
  env s := [(0, (.slice s.x_dst.p s.x_dst.n s.x_dst.c)), (1, (.slice s.x_src.p s.x_src.n s.x_src.c)), (5, (.int .i64 s.x_d)), (6, (.int .i64 s.x_s)), (8, (.int .i64 s.x_offset)), (15, (.int .u32 s.x_xq15))]
  fin e s K := vS e 0 fun p1 n1 c1 => vS e 1 fun p2 n2 c2 => vI e 5 .i64 fun n3 => vI e 6 .i64 fun n4 => vI e 8 .i64 fun n5 => vI e 15 .u32 fun n6 => K { s with x_dst := ⟨p1, n1, c1⟩, x_src := ⟨p2, n2, c2⟩, x_d := n3, x_s := n4, x_offset := n5, x_xq15 := n6 }
  ok := by
    intro e s K h0
    obtain ⟨p1, n1, c1, g1, h2⟩ := gS h0
    obtain ⟨p2, n2, c2, g2, h4⟩ := gS h2
    obtain ⟨n3, g3, h6⟩ := gI h4
    obtain ⟨n4, g4, h8⟩ := gI h6
    obtain ⟨n5, g5, h10⟩ := gI h8
    obtain ⟨n6, g6, h12⟩ := gI h10
    exact ⟨_, ⟨g1, g2, g3, g4, g5, g6, trivial⟩, h12⟩

def p19 : Pt St where
  env s := [(0, (.slice s.x_dst.p s.x_dst.n s.x_dst.c)), (1, (.slice s.x_src.p s.x_src.n s.x_src.c)), (5, (.int .i64 s.x_d)), (6, (.int .i64 s.x_s)), (7, (.int .i64 s.x_length)), (8, (.int .i64 s.x_offset)), (16, (.int .i64 s.x_toffsetq16))]
  fin e s K := vS e 0 fun p1 n1 c1 => vS e 1 fun p2 n2 c2 => vI e 5 .i64 fun n3 => vI e 6 .i64 fun n4 => vI e 7 .i64 fun n5 => vI e 8 .i64 fun n6 => vI e 16 .i64 fun n7 => K { s with x_dst := ⟨p1, n1, c1⟩, x_src := ⟨p2, n2, c2⟩, x_d := n3, x_s := n4, x_length := n5, x_offset := n6, x_toffsetq16 := n7 }
  ok := by
    intro e s K h0
    obtain ⟨p1, n1, c1, g1, h2⟩ := gS h0
    obtain ⟨p2, n2, c2, g2, h4⟩ := gS h2
    obtain ⟨n3, g3, h6⟩ := gI h4
    obtain ⟨n4, g4, h8⟩ := gI h6
    obtain ⟨n5, g5, h10⟩ := gI h8
    obtain ⟨n6, g6, h12⟩ := gI h10
    obtain ⟨n7, g7, h14⟩ := gI h12
    exact ⟨_, ⟨g1, g2, g3, g4, g5, g6, g7, trivial⟩, h14⟩

def p20 : Pt St where
  env s := [(0, (.slice s.x_dst.p s.x_dst.n s.x_dst.c)), (1, (.slice s.x_src.p s.x_src.n s.x_src.c)), (5, (.int .i64 s.x_d)), (6, (.int .i64 s.x_s)), (7, (.int .i64 s.x_length)), (8, (.int .i64 s.x_offset)), (511, (.int .i64 s.t511))]
  fin e s K := vS e 0 fun p1 n1 c1 => vS e 1 fun p2 n2 c2 => vI e 5 .i64 fun n3 => vI e 6 .i64 fun n4 => vI e 7 .i64 fun n5 => vI e 8 .i64 fun n6 => vI e 511 .i64 fun n7 => K { s with x_dst := ⟨p1, n1, c1⟩, x_src := ⟨p2, n2, c2⟩, x_d := n3, x_s := n4, x_length := n5, x_offset := n6, t511 := n7 }
  ok := by
    intro e s K h0
    obtain ⟨p1, n1, c1, g1, h2⟩ := gS h0
    obtain ⟨p2, n2, c2, g2, h4⟩ := gS h2
    obtain ⟨n3, g3, h6⟩ := gI h4
    obtain ⟨n4, g4, h8⟩ := gI h6
    obtain ⟨n5, g5, h10⟩ := gI h8
    obtain ⟨n6, g6, h12⟩ := gI h10
    obtain ⟨n7, g7, h14⟩ := gI h12
    exact ⟨_, ⟨g1, g2, g3, g4, g5, g6, g7, trivial⟩, h14⟩

def p21 : Pt St where
  env s := [(0, (.slice s.x_dst.p s.x_dst.n s.x_dst.c)), (1, (.slice s.x_src.p s.x_src.n s.x_src.c)), (5, (.int .i64 s.x_d)), (6, (.int .i64 s.x_s))]
  fin e s K := vS e 0 fun p1 n1 c1 => vS e 1 fun p2 n2 c2 => vI e 5 .i64 fun n3 => vI e 6 .i64 fun n4 => K { s with x_dst := ⟨p1, n1, c1⟩, x_src := ⟨p2, n2, c2⟩, x_d := n3, x_s := n4 }
  ok := by
    intro e s K h0
    obtain ⟨p1, n1, c1, g1, h2⟩ := gS h0
    obtain ⟨p2, n2, c2, g2, h4⟩ := gS h2
    obtain ⟨n3, g3, h6⟩ := gI h4
    obtain ⟨n4, g4, h8⟩ := gI h6
    exact ⟨_, ⟨g1, g2, g3, g4, trivial⟩, h8⟩

def p22 : Pt St where
  env s := [(0, (.slice s.x_dst.p s.x_dst.n s.x_dst.c)), (1, (.slice s.x_src.p s.x_src.n s.x_src.c)), (5, (.int .i64 s.x_d)), (6, (.int .i64 s.x_s)), (7, (.int .i64 s.x_length)), (8, (.int .i64 s.x_offset)), (17, (.slice s.x_aq17.p s.x_aq17.n s.x_aq17.c))]
  fin e s K := vS e 0 fun p1 n1 c1 => vS e 1 fun p2 n2 c2 => vI e 5 .i64 fun n3 => vI e 6 .i64 fun n4 => vI e 7 .i64 fun n5 => vI e 8 .i64 fun n6 => vS e 17 fun p3 n7 c3 => K { s with x_dst := ⟨p1, n1, c1⟩, x_src := ⟨p2, n2, c2⟩, x_d := n3, x_s := n4, x_length := n5, x_offset := n6, x_aq17 := ⟨p3, n7, c3⟩ }
  ok := by
    intro e s K h0
    obtain ⟨p1, n1, c1, g1, h2⟩ := gS h0
    obtain ⟨p2, n2, c2, g2, h4⟩ := gS h2
    obtain ⟨n3, g3, h6⟩ := gI h4
    obtain ⟨n4, g4, h8⟩ := gI h6
    obtain ⟨n5, g5, h10⟩ := gI h8
    obtain ⟨n6, g6, h12⟩ := gI h10
    obtain ⟨p3, n7, c3, g7, h14⟩ := gS h12
    exact ⟨_, ⟨g1, g2, g3, g4, g5, g6, g7, trivial⟩, h14⟩

def p23 : Pt St where
  env s := [(0, (.slice s.x_dst.p s.x_dst.n s.x_dst.c)), (1, (.slice s.x_src.p s.x_src.n s.x_src.c)), (5, (.int .i64 s.x_d)), (6, (.int .i64 s.x_s)), (7, (.int .i64 s.x_length)), (8, (.int .i64 s.x_offset)), (17, (.slice s.x_aq17.p s.x_aq17.n s.x_aq17.c)), (18, (.slice s.x_bq18.p s.x_bq18.n s.x_bq18.c))]
  fin e s K := vS e 0 fun p1 n1 c1 => vS e 1 fun p2 n2 c2 => vI e 5 .i64 fun n3 => vI e 6 .i64 fun n4 => vI e 7 .i64 fun n5 => vI e 8 .i64 fun n6 => vS e 17 fun p3 n7 c3 => vS e 18 fun p4 n8 c4 => K { s with x_dst := ⟨p1, n1, c1⟩, x_src := ⟨p2, n2, c2⟩, x_d := n3, x_s := n4, x_length := n5, x_offset := n6, x_aq17 := ⟨p3, n7, c3⟩, x_bq18 := ⟨p4, n8, c4⟩ }
  ok := by
    intro e s K h0
    obtain ⟨p1, n1, c1, g1, h2⟩ := gS h0
    obtain ⟨p2, n2, c2, g2, h4⟩ := gS h2
    obtain ⟨n3, g3, h6⟩ := gI h4
    obtain ⟨n4, g4, h8⟩ := gI h6
    obtain ⟨n5, g5, h10⟩ := gI h8
    obtain ⟨n6, g6, h12⟩ := gI h10
    obtain ⟨p3, n7, c3, g7, h14⟩ := gS h12
    obtain ⟨p4, n8, c4, g8, h16⟩ := gS h14
    exact ⟨_, ⟨g1, g2, g3, g4, g5, g6, g7, g8, trivial⟩, h16⟩

def p24 : Pt St where
  env s := [(0, (.slice s.x_dst.p s.x_dst.n s.x_dst.c)), (1, (.slice s.x_src.p s.x_src.n s.x_src.c)), (5, (.int .i64 s.x_d)), (6, (.int .i64 s.x_s)), (7, (.int .i64 s.x_length)), (8, (.int .i64 s.x_offset)), (17, (.slice s.x_aq17.p s.x_aq17.n s.x_aq17.c)), (18, (.slice s.x_bq18.p s.x_bq18.n s.x_bq18.c)), (724, (.int .i64 s.t724)), (725, (.int .i64 s.t725))]
  fin e s K := vS e 0 fun p1 n1 c1 => vS e 1 fun p2 n2 c2 => vI e 5 .i64 fun n3 => vI e 6 .i64 fun n4 => vI e 7 .i64 fun n5 => vI e 8 .i64 fun n6 => vS e 17 fun p3 n7 c3 => vS e 18 fun p4 n8 c4 => vI e 724 .i64 fun n9 => vI e 725 .i64 fun n10 => K { s with x_dst := ⟨p1, n1, c1⟩, x_src := ⟨p2, n2, c2⟩, x_d := n3, x_s := n4, x_length := n5, x_offset := n6, x_aq17 := ⟨p3, n7, c3⟩, x_bq18 := ⟨p4, n8, c4⟩, t724 := n9, t725 := n10 }
  ok := by
    intro e s K h0
    obtain ⟨p1, n1, c1, g1, h2⟩ := gS h0
    obtain ⟨p2, n2, c2, g2, h4⟩ := gS h2
    obtain ⟨n3, g3, h6⟩ := gI h4
    obtain ⟨n4, g4, h8⟩ := gI h6
    obtain ⟨n5, g5, h10⟩ := gI h8
    obtain ⟨n6, g6, h12⟩ := gI h10
    obtain ⟨p3, n7, c3, g7, h14⟩ := gS h12
    obtain ⟨p4, n8, c4, g8, h16⟩ := gS h14
    obtain ⟨n9, g9, h18⟩ := gI h16
    obtain ⟨n10, g10, h20⟩ := gI h18
    exact ⟨_, ⟨g1, g2, g3, g4, g5, g6, g7, g8, g9, g10, trivial⟩, h20⟩

def p25 : Pt St where
  env s := [(0, (.slice s.x_dst.p s.x_dst.n s.x_dst.c)), (1, (.slice s.x_src.p s.x_src.n s.x_src.c)), (5, (.int .i64 s.x_d)), (6, (.int .i64 s.x_s)), (7, (.int .i64 s.x_length)), (8, (.int .i64 s.x_offset)), (17, (.slice s.x_aq17.p s.x_aq17.n s.x_aq17.c)), (18, (.slice s.x_bq18.p s.x_bq18.n s.x_bq18.c)), (724, (.int .i64 s.t724)), (725, (.int .i64 s.t725)), (726, (.bool s.t726))]
  fin e s K := vS e 0 fun p1 n1 c1 => vS e 1 fun p2 n2 c2 => vI e 5 .i64 fun n3 => vI e 6 .i64 fun n4 => vI e 7 .i64 fun n5 => vI e 8 .i64 fun n6 => vS e 17 fun p3 n7 c3 => vS e 18 fun p4 n8 c4 => vI e 724 .i64 fun n9 => vI e 725 .i64 fun n10 => vB e 726 fun b1 => K { s with x_dst := ⟨p1, n1, c1⟩, x_src := ⟨p2, n2, c2⟩, x_d := n3, x_s := n4, x_length := n5, x_offset := n6, x_aq17 := ⟨p3, n7, c3⟩, x_bq18 := ⟨p4, n8, c4⟩, t724 := n9, t725 := n10, t726 := b1 }
  ok := by
    intro e s K h0
    obtain ⟨p1, n1, c1, g1, h2⟩ := gS h0
    obtain ⟨p2, n2, c2, g2, h4⟩ := gS h2
    obtain ⟨n3, g3, h6⟩ := gI h4
    obtain ⟨n4, g4, h8⟩ := gI h6
    obtain ⟨n5, g5, h10⟩ := gI h8
    obtain ⟨n6, g6, h12⟩ := gI h10
    obtain ⟨p3, n7, c3, g7, h14⟩ := gS h12
    obtain ⟨p4, n8, c4, g8, h16⟩ := gS h14
    obtain ⟨n9, g9, h18⟩ := gI h16
    obtain ⟨n10, g10, h20⟩ := gI h18
    obtain ⟨b1, g11, h22⟩ := gB h20
    exact ⟨_, ⟨g1, g2, g3, g4, g5, g6, g7, g8, g9, g10, g11, trivial⟩, h22⟩

def p26 : Pt St where
  env s := [(0, (.slice s.x_dst.p s.x_dst.n s.x_dst.c)), (1, (.slice s.x_src.p s.x_src.n s.x_src.c)), (5, (.int .i64 s.x_d)), (6, (.int .i64 s.x_s)), (7, (.int .i64 s.x_length)), (8, (.int .i64 s.x_offset)), (17, (.slice s.x_aq17.p s.x_aq17.n s.x_aq17.c)), (18, (.slice s.x_bq18.p s.x_bq18.n s.x_bq18.c)), (19, (.int .i64 s.x_iq19)), (724, (.int .i64 s.t724)), (725, (.int .i64 s.t725))]
  fin e s K := vS e 0 fun p1 n1 c1 => vS e 1 fun p2 n2 c2 => vI e 5 .i64 fun n3 => vI e 6 .i64 fun n4 => vI e 7 .i64 fun n5 => vI e 8 .i64 fun n6 => vS e 17 fun p3 n7 c3 => vS e 18 fun p4 n8 c4 => vI e 19 .i64 fun n9 => vI e 724 .i64 fun n10 => vI e 725 .i64 fun n11 => K { s with x_dst := ⟨p1, n1, c1⟩, x_src := ⟨p2, n2, c2⟩, x_d := n3, x_s := n4, x_length := n5, x_offset := n6, x_aq17 := ⟨p3, n7, c3⟩, x_bq18 := ⟨p4, n8, c4⟩, x_iq19 := n9, t724 := n10, t725 := n11 }
  ok := by
    intro e s K h0
    obtain ⟨p1, n1, c1, g1, h2⟩ := gS h0
    obtain ⟨p2, n2, c2, g2, h4⟩ := gS h2
    obtain ⟨n3, g3, h6⟩ := gI h4
    obtain ⟨n4, g4, h8⟩ := gI h6
    obtain ⟨n5, g5, h10⟩ := gI h8
    obtain ⟨n6, g6, h12⟩ := gI h10
    obtain ⟨p3, n7, c3, g7, h14⟩ := gS h12
    obtain ⟨p4, n8, c4, g8, h16⟩ := gS h14
    obtain ⟨n9, g9, h18⟩ := gI h16
    obtain ⟨n10, g10, h20⟩ := gI h18
    obtain ⟨n11, g11, h22⟩ := gI h20
    exact ⟨_, ⟨g1, g2, g3, g4, g5, g6, g7, g8, g9, g10, g11, trivial⟩, h22⟩

def p27 : Pt St where
  env s := []
  fin e s K := K s
  ok := by
    intro e s K h0
    exact ⟨_, trivial, h0⟩

def r0 (s : St) (h : Heap) (Q : St → Heap → Prop) : Prop :=
  Q s h

def r1 (s : St) (h : Heap) (Q : St → Heap → Prop) : Prop :=
  Q { s with x_d := (0 : Int), x_s := (0 : Int), x_length := (0 : Int) } h

def r2 (s : St) (h : Heap) (Q : St → Heap → Prop) : Prop :=
  Q { s with x_offset := (0 : Int) } h

def r3 (s : St) (h : Heap) (Q : Bool → St → Heap → Prop) : Prop :=
  Q (decide (s.x_s < (IntKind.wrap .i64 (((s.x_src.n : Nat) : Int) - (5 : Int))))) s h

def r4 (s : St) (h : Heap) (Q : St → Heap → Prop) : Prop :=
  0 ≤ s.x_s ∧ s.x_s < ((s.x_src.n : Nat) : Int) ∧
  ptrE s.x_src.p fun a1 =>
  ∃ v2 : Int, hcell h (Addr.add a1 (Int.toNat s.x_s * 1)) = some (.int .u8 v2) ∧
  Q { s with t29 := (bAnd .u8 v2 (3 : Int)) } h

def r5 (s : St) (h : Heap) (Q : Bool → St → Heap → Prop) : Prop :=
  Q (s.t29 == (0 : Int)) s h

def r6 (s : St) (h : Heap) (Q : St → Heap → Prop) : Prop :=
  0 ≤ s.x_s ∧ s.x_s < ((s.x_src.n : Nat) : Int) ∧
  ptrE s.x_src.p fun a1 =>
  ∃ v2 : Int, hcell h (Addr.add a1 (Int.toNat s.x_s * 1)) = some (.int .u8 v2) ∧
  Q { s with x_x := (IntKind.wrap .u32 (Int.fdiv v2 (2 ^ (2 : Nat)))) } h

def r7 (s : St) (h : Heap) (Q : Bool → St → Heap → Prop) : Prop :=
  Q (decide (s.x_x < (60 : Int))) s h

def r8 (s : St) (h : Heap) (Q : St → Heap → Prop) : Prop :=
  Q { s with x_s := (IntKind.wrap .i64 (s.x_s + (1 : Int))) } h

def r9 (s : St) (h : Heap) (Q : Bool → St → Heap → Prop) : Prop :=
  Q (s.x_x == (60 : Int)) s h

def r10 (s : St) (h : Heap) (Q : St → Heap → Prop) : Prop :=
  0 ≤ (IntKind.wrap .i64 (s.x_s + (1 : Int))) ∧ (IntKind.wrap .i64 (s.x_s + (1 : Int))) < ((s.x_src.n : Nat) : Int) ∧
  ptrE s.x_src.p fun a1 =>
  ∃ v2 : Int, hcell h (Addr.add a1 (Int.toNat (IntKind.wrap .i64 (s.x_s + (1 : Int))) * 1)) = some (.int .u8 v2) ∧
  Q { s with x_x := (IntKind.wrap .u32 v2) } h

def r11 (s : St) (h : Heap) (Q : St → Heap → Prop) : Prop :=
  Q { s with x_s := (IntKind.wrap .i64 (s.x_s + (2 : Int))) } h

def r12 (s : St) (h : Heap) (Q : Bool → St → Heap → Prop) : Prop :=
  Q (s.x_x == (61 : Int)) s h

def r13 (s : St) (h : Heap) (Q : St → Heap → Prop) : Prop :=
  c_Load16 s.x_src (IntKind.wrap .i64 (s.x_s + (1 : Int))) h fun r2 h1 =>
  Q { s with x_x := (IntKind.wrap .u32 r2) } h1

def r14 (s : St) (h : Heap) (Q : St → Heap → Prop) : Prop :=
  Q { s with x_s := (IntKind.wrap .i64 (s.x_s + (3 : Int))) } h

def r15 (s : St) (h : Heap) (Q : Bool → St → Heap → Prop) : Prop :=
  Q (s.x_x == (62 : Int)) s h

def r16 (s : St) (h : Heap) (Q : St → Heap → Prop) : Prop :=
  c_Load32 s.x_src s.x_s h fun r2 h1 =>
  Q { s with x_x := r2 } h1

def r17 (s : St) (h : Heap) (Q : St → Heap → Prop) : Prop :=
  Q { s with x_x := (Int.fdiv s.x_x (2 ^ (8 : Nat))) } h

def r18 (s : St) (h : Heap) (Q : St → Heap → Prop) : Prop :=
  Q { s with x_s := (IntKind.wrap .i64 (s.x_s + (4 : Int))) } h

def r19 (s : St) (h : Heap) (Q : Bool → St → Heap → Prop) : Prop :=
  Q (s.x_x == (63 : Int)) s h

def r20 (s : St) (h : Heap) (Q : St → Heap → Prop) : Prop :=
  c_Load32 s.x_src (IntKind.wrap .i64 (s.x_s + (1 : Int))) h fun r2 h1 =>
  Q { s with x_x := r2 } h1

def r21 (s : St) (h : Heap) (Q : St → Heap → Prop) : Prop :=
  Q { s with x_s := (IntKind.wrap .i64 (s.x_s + (5 : Int))) } h

def r22 (s : St) (h : Heap) (Q : St → Heap → Prop) : Prop :=
  Q { s with x_length := (IntKind.wrap .i64 ((IntKind.wrap .i64 s.x_x) + (1 : Int))) } h

def r23 (s : St) (h : Heap) (Q : Bool → St → Heap → Prop) : Prop :=
  (if (decide (s.x_length > (IntKind.wrap .i64 (((s.x_dst.n : Nat) : Int) - s.x_d)))) = false then
  ((if (decide (s.x_length > (IntKind.wrap .i64 (((s.x_src.n : Nat) : Int) - s.x_s)))) = false then
  (Q false s h)
  else
  (Q true s h)))
  else
  (Q true s h))

def r24 (s : St) (h : Heap) (Q : St → Heap → Prop) : Prop :=
  Q { s with t4 := (1 : Int) } h

def r25 (s : St) (h : Heap) (Q : St → Heap → Prop) : Prop :=
  0 ≤ s.x_d ∧ s.x_d ≤ ((s.x_dst.n : Nat) : Int) ∧
  0 ≤ (IntKind.wrap .i64 (s.x_s + s.x_length)) ∧ (IntKind.wrap .i64 (s.x_s + s.x_length)) ≤ ((s.x_src.c : Nat) : Int) ∧
  0 ≤ s.x_s ∧ s.x_s ≤ (((Int.toNat (IntKind.wrap .i64 (s.x_s + s.x_length))) : Nat) : Int) ∧
  copyT Pg 5 (subP s.x_dst.p (Int.toNat s.x_d) s.x_dst.c 1) (s.x_dst.n - (Int.toNat s.x_d)) (.slice (subP s.x_src.p (Int.toNat s.x_s) s.x_src.c 1) ((Int.toNat (IntKind.wrap .i64 (s.x_s + s.x_length))) - (Int.toNat s.x_s)) (s.x_src.c - (Int.toNat s.x_s))) ((Int.toNat (IntKind.wrap .i64 (s.x_s + s.x_length))) - (Int.toNat s.x_s)) h fun n1 h2 =>
  Q s h2

def r26 (s : St) (h : Heap) (Q : St → Heap → Prop) : Prop :=
  Q { s with x_d := (IntKind.wrap .i64 (s.x_d + s.x_length)) } h

def r27 (s : St) (h : Heap) (Q : St → Heap → Prop) : Prop :=
  Q { s with x_s := (IntKind.wrap .i64 (s.x_s + s.x_length)) } h

def r28 (s : St) (h : Heap) (Q : Bool → St → Heap → Prop) : Prop :=
  Q (s.t29 == (1 : Int)) s h

def r29 (s : St) (h : Heap) (Q : St → Heap → Prop) : Prop :=
  Q { s with x_s := (IntKind.wrap .i64 (s.x_s + (2 : Int))) } h

def r30 (s : St) (h : Heap) (Q : St → Heap → Prop) : Prop :=
  0 ≤ (IntKind.wrap .i64 (s.x_s - (2 : Int))) ∧ (IntKind.wrap .i64 (s.x_s - (2 : Int))) < ((s.x_src.n : Nat) : Int) ∧
  ptrE s.x_src.p fun a1 =>
  ∃ v2 : Int, hcell h (Addr.add a1 (Int.toNat (IntKind.wrap .i64 (s.x_s - (2 : Int))) * 1)) = some (.int .u8 v2) ∧
  0 ≤ (IntKind.wrap .i64 (s.x_s - (1 : Int))) ∧ (IntKind.wrap .i64 (s.x_s - (1 : Int))) < ((s.x_src.n : Nat) : Int) ∧
  ptrE s.x_src.p fun a3 =>
  ∃ v4 : Int, hcell h (Addr.add a3 (Int.toNat (IntKind.wrap .i64 (s.x_s - (1 : Int))) * 1)) = some (.int .u8 v4) ∧
  Q { s with x_toffset := (IntKind.wrap .i64 (bOr .u32 (IntKind.wrap .u32 ((bAnd .u32 (IntKind.wrap .u32 v2) (224 : Int)) * 2 ^ (3 : Nat))) (IntKind.wrap .u32 v4))) } h

def r31 (s : St) (h : Heap) (Q : St → Heap → Prop) : Prop :=
  0 ≤ (IntKind.wrap .i64 (s.x_s - (2 : Int))) ∧ (IntKind.wrap .i64 (s.x_s - (2 : Int))) < ((s.x_src.n : Nat) : Int) ∧
  ptrE s.x_src.p fun a1 =>
  ∃ v2 : Int, hcell h (Addr.add a1 (Int.toNat (IntKind.wrap .i64 (s.x_s - (2 : Int))) * 1)) = some (.int .u8 v2) ∧
  Q { s with x_length := (bAnd .i64 (Int.fdiv (IntKind.wrap .i64 v2) (2 ^ (2 : Nat))) (7 : Int)) } h

def r32 (s : St) (h : Heap) (Q : Bool → St → Heap → Prop) : Prop :=
  Q (s.x_toffset == (0 : Int)) s h

def r33 (s : St) (h : Heap) (Q : St → Heap → Prop) : Prop :=
  Q { s with t152 := s.x_length } h

def r34 (s : St) (h : Heap) (Q : Bool → St → Heap → Prop) : Prop :=
  Q (s.t152 == (5 : Int)) s h

def r35 (s : St) (h : Heap) (Q : St → Heap → Prop) : Prop :=
  0 ≤ s.x_s ∧ s.x_s < ((s.x_src.n : Nat) : Int) ∧
  ptrE s.x_src.p fun a1 =>
  ∃ v2 : Int, hcell h (Addr.add a1 (Int.toNat s.x_s * 1)) = some (.int .u8 v2) ∧
  Q { s with x_length := (IntKind.wrap .i64 ((IntKind.wrap .i64 v2) + (4 : Int))) } h

def r36 (s : St) (h : Heap) (Q : St → Heap → Prop) : Prop :=
  Q { s with x_s := (IntKind.wrap .i64 (s.x_s + (1 : Int))) } h

def r37 (s : St) (h : Heap) (Q : Bool → St → Heap → Prop) : Prop :=
  Q (s.t152 == (6 : Int)) s h

def r38 (s : St) (h : Heap) (Q : St → Heap → Prop) : Prop :=
  c_Load16 s.x_src s.x_s h fun r2 h1 =>
  Q { s with x_length := (IntKind.wrap .i64 ((IntKind.wrap .i64 r2) + (256 : Int))) } h1

def r39 (s : St) (h : Heap) (Q : St → Heap → Prop) : Prop :=
  Q { s with x_s := (IntKind.wrap .i64 (s.x_s + (2 : Int))) } h

def r40 (s : St) (h : Heap) (Q : Bool → St → Heap → Prop) : Prop :=
  Q (s.t152 == (7 : Int)) s h

def r41 (s : St) (h : Heap) (Q : St → Heap → Prop) : Prop :=
  0 ≤ (IntKind.wrap .i64 (s.x_s + (3 : Int))) ∧ (IntKind.wrap .i64 (s.x_s + (3 : Int))) ≤ ((s.x_src.c : Nat) : Int) ∧
  0 ≤ s.x_s ∧ s.x_s ≤ (((Int.toNat (IntKind.wrap .i64 (s.x_s + (3 : Int)))) : Nat) : Int) ∧
  Q { s with x_in := ⟨(subP s.x_src.p (Int.toNat s.x_s) s.x_src.c 1), ((Int.toNat (IntKind.wrap .i64 (s.x_s + (3 : Int)))) - (Int.toNat s.x_s)), (s.x_src.c - (Int.toNat s.x_s))⟩ } h

def r42 (s : St) (h : Heap) (Q : St → Heap → Prop) : Prop :=
  0 ≤ (2 : Int) ∧ (2 : Int) < ((s.x_in.n : Nat) : Int) ∧
  ptrE s.x_in.p fun a1 =>
  ∃ v2 : Int, hcell h (Addr.add a1 (Int.toNat (2 : Int) * 1)) = some (.int .u8 v2) ∧
  0 ≤ (1 : Int) ∧ (1 : Int) < ((s.x_in.n : Nat) : Int) ∧
  ptrE s.x_in.p fun a3 =>
  ∃ v4 : Int, hcell h (Addr.add a3 (Int.toNat (1 : Int) * 1)) = some (.int .u8 v4) ∧
  0 ≤ (0 : Int) ∧ (0 : Int) < ((s.x_in.n : Nat) : Int) ∧
  ptrE s.x_in.p fun a5 =>
  ∃ v6 : Int, hcell h (Addr.add a5 (Int.toNat (0 : Int) * 1)) = some (.int .u8 v6) ∧
  Q { s with x_length := (IntKind.wrap .i64 ((IntKind.wrap .i64 (bOr .u32 (bOr .u32 (IntKind.wrap .u32 ((IntKind.wrap .u32 v2) * 2 ^ (16 : Nat))) (IntKind.wrap .u32 ((IntKind.wrap .u32 v4) * 2 ^ (8 : Nat)))) (IntKind.wrap .u32 v6))) + (65536 : Int))) } h

def r43 (s : St) (h : Heap) (Q : St → Heap → Prop) : Prop :=
  Q { s with x_s := (IntKind.wrap .i64 (s.x_s + (3 : Int))) } h

def r44 (s : St) (h : Heap) (Q : St → Heap → Prop) : Prop :=
  Q { s with x_offset := s.x_toffset } h

def r45 (s : St) (h : Heap) (Q : St → Heap → Prop) : Prop :=
  Q { s with x_length := (IntKind.wrap .i64 (s.x_length + (4 : Int))) } h

def r46 (s : St) (h : Heap) (Q : Bool → St → Heap → Prop) : Prop :=
  Q (s.t29 == (2 : Int)) s h

def r47 (s : St) (h : Heap) (Q : St → Heap → Prop) : Prop :=
  c_Load16 s.x_src (IntKind.wrap .i64 (s.x_s + (1 : Int))) h fun r2 h1 =>
  Q { s with x_offset := (IntKind.wrap .i64 r2) } h1

def r48 (s : St) (h : Heap) (Q : St → Heap → Prop) : Prop :=
  0 ≤ s.x_s ∧ s.x_s < ((s.x_src.n : Nat) : Int) ∧
  ptrE s.x_src.p fun a1 =>
  ∃ v2 : Int, hcell h (Addr.add a1 (Int.toNat s.x_s * 1)) = some (.int .u8 v2) ∧
  Q { s with x_length := (IntKind.wrap .i64 ((1 : Int) + (Int.fdiv (IntKind.wrap .i64 v2) (2 ^ (2 : Nat))))) } h

def r49 (s : St) (h : Heap) (Q : St → Heap → Prop) : Prop :=
  Q { s with x_s := (IntKind.wrap .i64 (s.x_s + (3 : Int))) } h

def r50 (s : St) (h : Heap) (Q : Bool → St → Heap → Prop) : Prop :=
  Q (s.t29 == (3 : Int)) s h

def r51 (s : St) (h : Heap) (Q : St → Heap → Prop) : Prop :=
  c_Load32 s.x_src (IntKind.wrap .i64 (s.x_s + (1 : Int))) h fun r2 h1 =>
  Q { s with x_offset := (IntKind.wrap .i64 r2) } h1

def r52 (s : St) (h : Heap) (Q : St → Heap → Prop) : Prop :=
  0 ≤ s.x_s ∧ s.x_s < ((s.x_src.n : Nat) : Int) ∧
  ptrE s.x_src.p fun a1 =>
  ∃ v2 : Int, hcell h (Addr.add a1 (Int.toNat s.x_s * 1)) = some (.int .u8 v2) ∧
  Q { s with x_length := (IntKind.wrap .i64 ((1 : Int) + (Int.fdiv (IntKind.wrap .i64 v2) (2 ^ (2 : Nat))))) } h

def r53 (s : St) (h : Heap) (Q : St → Heap → Prop) : Prop :=
  Q { s with x_s := (IntKind.wrap .i64 (s.x_s + (5 : Int))) } h

def r54 (s : St) (h : Heap) (Q : Bool → St → Heap → Prop) : Prop :=
  (if (decide (s.x_offset ≤ (0 : Int))) = false then
  ((if (decide (s.x_d < s.x_offset)) = false then
  (Q (decide (s.x_length > (IntKind.wrap .i64 (((s.x_dst.n : Nat) : Int) - s.x_d)))) s h)
  else
  (Q true s h)))
  else
  (Q true s h))

def r55 (s : St) (h : Heap) (Q : St → Heap → Prop) : Prop :=
  Q { s with t4 := (1 : Int) } h

def r56 (s : St) (h : Heap) (Q : Bool → St → Heap → Prop) : Prop :=
  Q (decide (s.x_offset > s.x_length)) s h

def r57 (s : St) (h : Heap) (Q : St → Heap → Prop) : Prop :=
  0 ≤ (IntKind.wrap .i64 (s.x_d + s.x_length)) ∧ (IntKind.wrap .i64 (s.x_d + s.x_length)) ≤ ((s.x_dst.c : Nat) : Int) ∧
  0 ≤ s.x_d ∧ s.x_d ≤ (((Int.toNat (IntKind.wrap .i64 (s.x_d + s.x_length))) : Nat) : Int) ∧
  0 ≤ (IntKind.wrap .i64 (s.x_d - s.x_offset)) ∧ (IntKind.wrap .i64 (s.x_d - s.x_offset)) ≤ ((s.x_dst.n : Nat) : Int) ∧
  copyT Pg 5 (subP s.x_dst.p (Int.toNat s.x_d) s.x_dst.c 1) ((Int.toNat (IntKind.wrap .i64 (s.x_d + s.x_length))) - (Int.toNat s.x_d)) (.slice (subP s.x_dst.p (Int.toNat (IntKind.wrap .i64 (s.x_d - s.x_offset))) s.x_dst.c 1) (s.x_dst.n - (Int.toNat (IntKind.wrap .i64 (s.x_d - s.x_offset)))) (s.x_dst.c - (Int.toNat (IntKind.wrap .i64 (s.x_d - s.x_offset))))) (s.x_dst.n - (Int.toNat (IntKind.wrap .i64 (s.x_d - s.x_offset)))) h fun n1 h2 =>
  Q s h2

def r58 (s : St) (h : Heap) (Q : St → Heap → Prop) : Prop :=
  Q { s with x_d := (IntKind.wrap .i64 (s.x_d + s.x_length)) } h

def r59 (s : St) (h : Heap) (Q : St → Heap → Prop) : Prop :=
  0 ≤ (IntKind.wrap .i64 (s.x_d + s.x_length)) ∧ (IntKind.wrap .i64 (s.x_d + s.x_length)) ≤ ((s.x_dst.c : Nat) : Int) ∧
  0 ≤ s.x_d ∧ s.x_d ≤ (((Int.toNat (IntKind.wrap .i64 (s.x_d + s.x_length))) : Nat) : Int) ∧
  Q { s with x_a := ⟨(subP s.x_dst.p (Int.toNat s.x_d) s.x_dst.c 1), ((Int.toNat (IntKind.wrap .i64 (s.x_d + s.x_length))) - (Int.toNat s.x_d)), (s.x_dst.c - (Int.toNat s.x_d))⟩ } h

def r60 (s : St) (h : Heap) (Q : St → Heap → Prop) : Prop :=
  0 ≤ (IntKind.wrap .i64 (s.x_d - s.x_offset)) ∧ (IntKind.wrap .i64 (s.x_d - s.x_offset)) ≤ ((s.x_dst.n : Nat) : Int) ∧
  Q { s with x_b := ⟨(subP s.x_dst.p (Int.toNat (IntKind.wrap .i64 (s.x_d - s.x_offset))) s.x_dst.c 1), (s.x_dst.n - (Int.toNat (IntKind.wrap .i64 (s.x_d - s.x_offset)))), (s.x_dst.c - (Int.toNat (IntKind.wrap .i64 (s.x_d - s.x_offset))))⟩ } h

def r61 (s : St) (h : Heap) (Q : St → Heap → Prop) : Prop :=
  0 ≤ ((s.x_a.n : Nat) : Int) ∧ ((s.x_a.n : Nat) : Int) ≤ ((s.x_b.c : Nat) : Int) ∧
  Q { s with x_b := ⟨(subP s.x_b.p 0 s.x_b.c 1), ((Int.toNat ((s.x_a.n : Nat) : Int)) - 0), (s.x_b.c - 0)⟩ } h

def r62 (s : St) (h : Heap) (Q : St → Heap → Prop) : Prop :=
  Q { s with t283 := ((s.x_a.n : Nat) : Int), t284 := (0 : Int) } h

def r63 (s : St) (h : Heap) (Q : St → Heap → Prop) : Prop :=
  Q { s with t285 := (decide (s.t284 < s.t283)) } h

def r64 (s : St) (h : Heap) (Q : St → Heap → Prop) : Prop :=
  Q { s with x_i := s.t284 } h

def r65 (s : St) (h : Heap) (Q : St → Heap → Prop) : Prop :=
  0 ≤ s.x_i ∧ s.x_i < ((s.x_b.n : Nat) : Int) ∧
  ptrE s.x_b.p fun a1 =>
  ∃ v2 : Int, hcell h (Addr.add a1 (Int.toNat s.x_i * 1)) = some (.int .u8 v2) ∧
  0 ≤ s.x_i ∧ s.x_i < ((s.x_a.n : Nat) : Int) ∧
  ptrE s.x_a.p fun a3 =>
  st1 (Addr.add (Addr.add a3 (Int.toNat s.x_i * 1)) 0) (.int .u8 v2) h fun h4 =>
  Q s h4

def r66 (s : St) (h : Heap) (Q : St → Heap → Prop) : Prop :=
  Q { s with t284 := (IntKind.wrap .i64 (s.t284 + (1 : Int))) } h

def r67 (s : St) (h : Heap) (Q : St → Heap → Prop) : Prop :=
  Q { s with x_d := (IntKind.wrap .i64 (s.x_d + s.x_length)) } h

def r68 (s : St) (h : Heap) (Q : Bool → St → Heap → Prop) : Prop :=
  Q (decide (s.x_s < ((s.x_src.n : Nat) : Int))) s h

def r69 (s : St) (h : Heap) (Q : St → Heap → Prop) : Prop :=
  0 ≤ s.x_s ∧ s.x_s < ((s.x_src.n : Nat) : Int) ∧
  ptrE s.x_src.p fun a1 =>
  ∃ v2 : Int, hcell h (Addr.add a1 (Int.toNat s.x_s * 1)) = some (.int .u8 v2) ∧
  Q { s with t306 := (bAnd .u8 v2 (3 : Int)) } h

def r70 (s : St) (h : Heap) (Q : Bool → St → Heap → Prop) : Prop :=
  Q (s.t306 == (0 : Int)) s h

def r71 (s : St) (h : Heap) (Q : St → Heap → Prop) : Prop :=
  0 ≤ s.x_s ∧ s.x_s < ((s.x_src.n : Nat) : Int) ∧
  ptrE s.x_src.p fun a1 =>
  ∃ v2 : Int, hcell h (Addr.add a1 (Int.toNat s.x_s * 1)) = some (.int .u8 v2) ∧
  Q { s with x_xq15 := (IntKind.wrap .u32 (Int.fdiv v2 (2 ^ (2 : Nat)))) } h

def r72 (s : St) (h : Heap) (Q : Bool → St → Heap → Prop) : Prop :=
  Q (decide (s.x_xq15 < (60 : Int))) s h

def r73 (s : St) (h : Heap) (Q : St → Heap → Prop) : Prop :=
  Q { s with x_s := (IntKind.wrap .i64 (s.x_s + (1 : Int))) } h

def r74 (s : St) (h : Heap) (Q : Bool → St → Heap → Prop) : Prop :=
  Q (s.x_xq15 == (60 : Int)) s h

def r75 (s : St) (h : Heap) (Q : St → Heap → Prop) : Prop :=
  Q { s with x_s := (IntKind.wrap .i64 (s.x_s + (2 : Int))) } h

def r76 (s : St) (h : Heap) (Q : Bool → St → Heap → Prop) : Prop :=
  Q (decide ((IntKind.wrap .u64 s.x_s) > (IntKind.wrap .u64 ((s.x_src.n : Nat) : Int)))) s h

def r77 (s : St) (h : Heap) (Q : St → Heap → Prop) : Prop :=
  Q { s with t4 := (1 : Int) } h

def r78 (s : St) (h : Heap) (Q : St → Heap → Prop) : Prop :=
  0 ≤ (IntKind.wrap .i64 (s.x_s - (1 : Int))) ∧ (IntKind.wrap .i64 (s.x_s - (1 : Int))) < ((s.x_src.n : Nat) : Int) ∧
  ptrE s.x_src.p fun a1 =>
  ∃ v2 : Int, hcell h (Addr.add a1 (Int.toNat (IntKind.wrap .i64 (s.x_s - (1 : Int))) * 1)) = some (.int .u8 v2) ∧
  Q { s with x_xq15 := (IntKind.wrap .u32 v2) } h

def r79 (s : St) (h : Heap) (Q : Bool → St → Heap → Prop) : Prop :=
  Q (s.x_xq15 == (61 : Int)) s h

def r80 (s : St) (h : Heap) (Q : St → Heap → Prop) : Prop :=
  Q { s with x_s := (IntKind.wrap .i64 (s.x_s + (3 : Int))) } h

def r81 (s : St) (h : Heap) (Q : Bool → St → Heap → Prop) : Prop :=
  Q (decide ((IntKind.wrap .u64 s.x_s) > (IntKind.wrap .u64 ((s.x_src.n : Nat) : Int)))) s h

def r82 (s : St) (h : Heap) (Q : St → Heap → Prop) : Prop :=
  Q { s with t4 := (1 : Int) } h

def r83 (s : St) (h : Heap) (Q : St → Heap → Prop) : Prop :=
  0 ≤ (IntKind.wrap .i64 (s.x_s - (2 : Int))) ∧ (IntKind.wrap .i64 (s.x_s - (2 : Int))) < ((s.x_src.n : Nat) : Int) ∧
  ptrE s.x_src.p fun a1 =>
  ∃ v2 : Int, hcell h (Addr.add a1 (Int.toNat (IntKind.wrap .i64 (s.x_s - (2 : Int))) * 1)) = some (.int .u8 v2) ∧
  0 ≤ (IntKind.wrap .i64 (s.x_s - (1 : Int))) ∧ (IntKind.wrap .i64 (s.x_s - (1 : Int))) < ((s.x_src.n : Nat) : Int) ∧
  ptrE s.x_src.p fun a3 =>
  ∃ v4 : Int, hcell h (Addr.add a3 (Int.toNat (IntKind.wrap .i64 (s.x_s - (1 : Int))) * 1)) = some (.int .u8 v4) ∧
  Q { s with x_xq15 := (bOr .u32 (IntKind.wrap .u32 v2) (IntKind.wrap .u32 ((IntKind.wrap .u32 v4) * 2 ^ (8 : Nat)))) } h

def r84 (s : St) (h : Heap) (Q : Bool → St → Heap → Prop) : Prop :=
  Q (s.x_xq15 == (62 : Int)) s h

def r85 (s : St) (h : Heap) (Q : St → Heap → Prop) : Prop :=
  Q { s with x_s := (IntKind.wrap .i64 (s.x_s + (4 : Int))) } h

def r86 (s : St) (h : Heap) (Q : Bool → St → Heap → Prop) : Prop :=
  Q (decide ((IntKind.wrap .u64 s.x_s) > (IntKind.wrap .u64 ((s.x_src.n : Nat) : Int)))) s h

def r87 (s : St) (h : Heap) (Q : St → Heap → Prop) : Prop :=
  Q { s with t4 := (1 : Int) } h

def r88 (s : St) (h : Heap) (Q : St → Heap → Prop) : Prop :=
  0 ≤ (IntKind.wrap .i64 (s.x_s - (3 : Int))) ∧ (IntKind.wrap .i64 (s.x_s - (3 : Int))) < ((s.x_src.n : Nat) : Int) ∧
  ptrE s.x_src.p fun a1 =>
  ∃ v2 : Int, hcell h (Addr.add a1 (Int.toNat (IntKind.wrap .i64 (s.x_s - (3 : Int))) * 1)) = some (.int .u8 v2) ∧
  0 ≤ (IntKind.wrap .i64 (s.x_s - (2 : Int))) ∧ (IntKind.wrap .i64 (s.x_s - (2 : Int))) < ((s.x_src.n : Nat) : Int) ∧
  ptrE s.x_src.p fun a3 =>
  ∃ v4 : Int, hcell h (Addr.add a3 (Int.toNat (IntKind.wrap .i64 (s.x_s - (2 : Int))) * 1)) = some (.int .u8 v4) ∧
  0 ≤ (IntKind.wrap .i64 (s.x_s - (1 : Int))) ∧ (IntKind.wrap .i64 (s.x_s - (1 : Int))) < ((s.x_src.n : Nat) : Int) ∧
  ptrE s.x_src.p fun a5 =>
  ∃ v6 : Int, hcell h (Addr.add a5 (Int.toNat (IntKind.wrap .i64 (s.x_s - (1 : Int))) * 1)) = some (.int .u8 v6) ∧
  Q { s with x_xq15 := (bOr .u32 (bOr .u32 (IntKind.wrap .u32 v2) (IntKind.wrap .u32 ((IntKind.wrap .u32 v4) * 2 ^ (8 : Nat)))) (IntKind.wrap .u32 ((IntKind.wrap .u32 v6) * 2 ^ (16 : Nat)))) } h

def r89 (s : St) (h : Heap) (Q : Bool → St → Heap → Prop) : Prop :=
  Q (s.x_xq15 == (63 : Int)) s h

def r90 (s : St) (h : Heap) (Q : St → Heap → Prop) : Prop :=
  Q { s with x_s := (IntKind.wrap .i64 (s.x_s + (5 : Int))) } h

def r91 (s : St) (h : Heap) (Q : Bool → St → Heap → Prop) : Prop :=
  Q (decide ((IntKind.wrap .u64 s.x_s) > (IntKind.wrap .u64 ((s.x_src.n : Nat) : Int)))) s h

def r92 (s : St) (h : Heap) (Q : St → Heap → Prop) : Prop :=
  Q { s with t4 := (1 : Int) } h

def r93 (s : St) (h : Heap) (Q : St → Heap → Prop) : Prop :=
  0 ≤ (IntKind.wrap .i64 (s.x_s - (4 : Int))) ∧ (IntKind.wrap .i64 (s.x_s - (4 : Int))) < ((s.x_src.n : Nat) : Int) ∧
  ptrE s.x_src.p fun a1 =>
  ∃ v2 : Int, hcell h (Addr.add a1 (Int.toNat (IntKind.wrap .i64 (s.x_s - (4 : Int))) * 1)) = some (.int .u8 v2) ∧
  0 ≤ (IntKind.wrap .i64 (s.x_s - (3 : Int))) ∧ (IntKind.wrap .i64 (s.x_s - (3 : Int))) < ((s.x_src.n : Nat) : Int) ∧
  ptrE s.x_src.p fun a3 =>
  ∃ v4 : Int, hcell h (Addr.add a3 (Int.toNat (IntKind.wrap .i64 (s.x_s - (3 : Int))) * 1)) = some (.int .u8 v4) ∧
  0 ≤ (IntKind.wrap .i64 (s.x_s - (2 : Int))) ∧ (IntKind.wrap .i64 (s.x_s - (2 : Int))) < ((s.x_src.n : Nat) : Int) ∧
  ptrE s.x_src.p fun a5 =>
  ∃ v6 : Int, hcell h (Addr.add a5 (Int.toNat (IntKind.wrap .i64 (s.x_s - (2 : Int))) * 1)) = some (.int .u8 v6) ∧
  0 ≤ (IntKind.wrap .i64 (s.x_s - (1 : Int))) ∧ (IntKind.wrap .i64 (s.x_s - (1 : Int))) < ((s.x_src.n : Nat) : Int) ∧
  ptrE s.x_src.p fun a7 =>
  ∃ v8 : Int, hcell h (Addr.add a7 (Int.toNat (IntKind.wrap .i64 (s.x_s - (1 : Int))) * 1)) = some (.int .u8 v8) ∧
  Q { s with x_xq15 := (bOr .u32 (bOr .u32 (bOr .u32 (IntKind.wrap .u32 v2) (IntKind.wrap .u32 ((IntKind.wrap .u32 v4) * 2 ^ (8 : Nat)))) (IntKind.wrap .u32 ((IntKind.wrap .u32 v6) * 2 ^ (16 : Nat)))) (IntKind.wrap .u32 ((IntKind.wrap .u32 v8) * 2 ^ (24 : Nat)))) } h

def r94 (s : St) (h : Heap) (Q : St → Heap → Prop) : Prop :=
  Q { s with x_length := (IntKind.wrap .i64 ((IntKind.wrap .i64 s.x_xq15) + (1 : Int))) } h

def r95 (s : St) (h : Heap) (Q : Bool → St → Heap → Prop) : Prop :=
  (if (decide (s.x_length > (IntKind.wrap .i64 (((s.x_dst.n : Nat) : Int) - s.x_d)))) = false then
  ((if (decide (s.x_length > (IntKind.wrap .i64 (((s.x_src.n : Nat) : Int) - s.x_s)))) = false then
  (Q false s h)
  else
  (Q true s h)))
  else
  (Q true s h))

def r96 (s : St) (h : Heap) (Q : St → Heap → Prop) : Prop :=
  Q { s with t4 := (1 : Int) } h

def r97 (s : St) (h : Heap) (Q : St → Heap → Prop) : Prop :=
  0 ≤ s.x_d ∧ s.x_d ≤ ((s.x_dst.n : Nat) : Int) ∧
  0 ≤ (IntKind.wrap .i64 (s.x_s + s.x_length)) ∧ (IntKind.wrap .i64 (s.x_s + s.x_length)) ≤ ((s.x_src.c : Nat) : Int) ∧
  0 ≤ s.x_s ∧ s.x_s ≤ (((Int.toNat (IntKind.wrap .i64 (s.x_s + s.x_length))) : Nat) : Int) ∧
  copyT Pg 5 (subP s.x_dst.p (Int.toNat s.x_d) s.x_dst.c 1) (s.x_dst.n - (Int.toNat s.x_d)) (.slice (subP s.x_src.p (Int.toNat s.x_s) s.x_src.c 1) ((Int.toNat (IntKind.wrap .i64 (s.x_s + s.x_length))) - (Int.toNat s.x_s)) (s.x_src.c - (Int.toNat s.x_s))) ((Int.toNat (IntKind.wrap .i64 (s.x_s + s.x_length))) - (Int.toNat s.x_s)) h fun n1 h2 =>
  Q s h2

def r98 (s : St) (h : Heap) (Q : St → Heap → Prop) : Prop :=
  Q { s with x_d := (IntKind.wrap .i64 (s.x_d + s.x_length)) } h

def r99 (s : St) (h : Heap) (Q : St → Heap → Prop) : Prop :=
  Q { s with x_s := (IntKind.wrap .i64 (s.x_s + s.x_length)) } h

def r100 (s : St) (h : Heap) (Q : Bool → St → Heap → Prop) : Prop :=
  Q (s.t306 == (1 : Int)) s h

def r101 (s : St) (h : Heap) (Q : St → Heap → Prop) : Prop :=
  Q { s with x_s := (IntKind.wrap .i64 (s.x_s + (2 : Int))) } h

def r102 (s : St) (h : Heap) (Q : Bool → St → Heap → Prop) : Prop :=
  Q (decide ((IntKind.wrap .u64 s.x_s) > (IntKind.wrap .u64 ((s.x_src.n : Nat) : Int)))) s h

def r103 (s : St) (h : Heap) (Q : St → Heap → Prop) : Prop :=
  Q { s with t4 := (1 : Int) } h

def r104 (s : St) (h : Heap) (Q : St → Heap → Prop) : Prop :=
  0 ≤ (IntKind.wrap .i64 (s.x_s - (2 : Int))) ∧ (IntKind.wrap .i64 (s.x_s - (2 : Int))) < ((s.x_src.n : Nat) : Int) ∧
  ptrE s.x_src.p fun a1 =>
  ∃ v2 : Int, hcell h (Addr.add a1 (Int.toNat (IntKind.wrap .i64 (s.x_s - (2 : Int))) * 1)) = some (.int .u8 v2) ∧
  Q { s with x_length := (bAnd .i64 (Int.fdiv (IntKind.wrap .i64 v2) (2 ^ (2 : Nat))) (7 : Int)) } h

def r105 (s : St) (h : Heap) (Q : St → Heap → Prop) : Prop :=
  0 ≤ (IntKind.wrap .i64 (s.x_s - (2 : Int))) ∧ (IntKind.wrap .i64 (s.x_s - (2 : Int))) < ((s.x_src.n : Nat) : Int) ∧
  ptrE s.x_src.p fun a1 =>
  ∃ v2 : Int, hcell h (Addr.add a1 (Int.toNat (IntKind.wrap .i64 (s.x_s - (2 : Int))) * 1)) = some (.int .u8 v2) ∧
  0 ≤ (IntKind.wrap .i64 (s.x_s - (1 : Int))) ∧ (IntKind.wrap .i64 (s.x_s - (1 : Int))) < ((s.x_src.n : Nat) : Int) ∧
  ptrE s.x_src.p fun a3 =>
  ∃ v4 : Int, hcell h (Addr.add a3 (Int.toNat (IntKind.wrap .i64 (s.x_s - (1 : Int))) * 1)) = some (.int .u8 v4) ∧
  Q { s with x_toffsetq16 := (IntKind.wrap .i64 (bOr .u32 (IntKind.wrap .u32 ((bAnd .u32 (IntKind.wrap .u32 v2) (224 : Int)) * 2 ^ (3 : Nat))) (IntKind.wrap .u32 v4))) } h

def r106 (s : St) (h : Heap) (Q : Bool → St → Heap → Prop) : Prop :=
  Q (s.x_toffsetq16 == (0 : Int)) s h

def r107 (s : St) (h : Heap) (Q : St → Heap → Prop) : Prop :=
  Q { s with t511 := s.x_length } h

def r108 (s : St) (h : Heap) (Q : Bool → St → Heap → Prop) : Prop :=
  Q (s.t511 == (5 : Int)) s h

def r109 (s : St) (h : Heap) (Q : St → Heap → Prop) : Prop :=
  Q { s with x_s := (IntKind.wrap .i64 (s.x_s + (1 : Int))) } h

def r110 (s : St) (h : Heap) (Q : Bool → St → Heap → Prop) : Prop :=
  Q (decide ((IntKind.wrap .u64 s.x_s) > (IntKind.wrap .u64 ((s.x_src.n : Nat) : Int)))) s h

def r111 (s : St) (h : Heap) (Q : St → Heap → Prop) : Prop :=
  Q { s with t4 := (1 : Int) } h

def r112 (s : St) (h : Heap) (Q : St → Heap → Prop) : Prop :=
  0 ≤ (IntKind.wrap .i64 (s.x_s - (1 : Int))) ∧ (IntKind.wrap .i64 (s.x_s - (1 : Int))) < ((s.x_src.n : Nat) : Int) ∧
  ptrE s.x_src.p fun a1 =>
  ∃ v2 : Int, hcell h (Addr.add a1 (Int.toNat (IntKind.wrap .i64 (s.x_s - (1 : Int))) * 1)) = some (.int .u8 v2) ∧
  Q { s with x_length := (IntKind.wrap .i64 ((IntKind.wrap .i64 (IntKind.wrap .u32 v2)) + (4 : Int))) } h

def r113 (s : St) (h : Heap) (Q : Bool → St → Heap → Prop) : Prop :=
  Q (s.t511 == (6 : Int)) s h

def r114 (s : St) (h : Heap) (Q : St → Heap → Prop) : Prop :=
  Q { s with x_s := (IntKind.wrap .i64 (s.x_s + (2 : Int))) } h

def r115 (s : St) (h : Heap) (Q : Bool → St → Heap → Prop) : Prop :=
  Q (decide ((IntKind.wrap .u64 s.x_s) > (IntKind.wrap .u64 ((s.x_src.n : Nat) : Int)))) s h

def r116 (s : St) (h : Heap) (Q : St → Heap → Prop) : Prop :=
  Q { s with t4 := (1 : Int) } h

def r117 (s : St) (h : Heap) (Q : St → Heap → Prop) : Prop :=
  0 ≤ (IntKind.wrap .i64 (s.x_s - (2 : Int))) ∧ (IntKind.wrap .i64 (s.x_s - (2 : Int))) < ((s.x_src.n : Nat) : Int) ∧
  ptrE s.x_src.p fun a1 =>
  ∃ v2 : Int, hcell h (Addr.add a1 (Int.toNat (IntKind.wrap .i64 (s.x_s - (2 : Int))) * 1)) = some (.int .u8 v2) ∧
  0 ≤ (IntKind.wrap .i64 (s.x_s - (1 : Int))) ∧ (IntKind.wrap .i64 (s.x_s - (1 : Int))) < ((s.x_src.n : Nat) : Int) ∧
  ptrE s.x_src.p fun a3 =>
  ∃ v4 : Int, hcell h (Addr.add a3 (Int.toNat (IntKind.wrap .i64 (s.x_s - (1 : Int))) * 1)) = some (.int .u8 v4) ∧
  Q { s with x_length := (IntKind.wrap .i64 ((IntKind.wrap .i64 (bOr .u32 (IntKind.wrap .u32 v2) (IntKind.wrap .u32 ((IntKind.wrap .u32 v4) * 2 ^ (8 : Nat))))) + (256 : Int))) } h

def r118 (s : St) (h : Heap) (Q : Bool → St → Heap → Prop) : Prop :=
  Q (s.t511 == (7 : Int)) s h

def r119 (s : St) (h : Heap) (Q : St → Heap → Prop) : Prop :=
  Q { s with x_s := (IntKind.wrap .i64 (s.x_s + (3 : Int))) } h

def r120 (s : St) (h : Heap) (Q : Bool → St → Heap → Prop) : Prop :=
  Q (decide ((IntKind.wrap .u64 s.x_s) > (IntKind.wrap .u64 ((s.x_src.n : Nat) : Int)))) s h

def r121 (s : St) (h : Heap) (Q : St → Heap → Prop) : Prop :=
  Q { s with t4 := (1 : Int) } h

def r122 (s : St) (h : Heap) (Q : St → Heap → Prop) : Prop :=
  0 ≤ (IntKind.wrap .i64 (s.x_s - (3 : Int))) ∧ (IntKind.wrap .i64 (s.x_s - (3 : Int))) < ((s.x_src.n : Nat) : Int) ∧
  ptrE s.x_src.p fun a1 =>
  ∃ v2 : Int, hcell h (Addr.add a1 (Int.toNat (IntKind.wrap .i64 (s.x_s - (3 : Int))) * 1)) = some (.int .u8 v2) ∧
  0 ≤ (IntKind.wrap .i64 (s.x_s - (2 : Int))) ∧ (IntKind.wrap .i64 (s.x_s - (2 : Int))) < ((s.x_src.n : Nat) : Int) ∧
  ptrE s.x_src.p fun a3 =>
  ∃ v4 : Int, hcell h (Addr.add a3 (Int.toNat (IntKind.wrap .i64 (s.x_s - (2 : Int))) * 1)) = some (.int .u8 v4) ∧
  0 ≤ (IntKind.wrap .i64 (s.x_s - (1 : Int))) ∧ (IntKind.wrap .i64 (s.x_s - (1 : Int))) < ((s.x_src.n : Nat) : Int) ∧
  ptrE s.x_src.p fun a5 =>
  ∃ v6 : Int, hcell h (Addr.add a5 (Int.toNat (IntKind.wrap .i64 (s.x_s - (1 : Int))) * 1)) = some (.int .u8 v6) ∧
  Q { s with x_length := (IntKind.wrap .i64 ((IntKind.wrap .i64 (bOr .u32 (bOr .u32 (IntKind.wrap .u32 v2) (IntKind.wrap .u32 ((IntKind.wrap .u32 v4) * 2 ^ (8 : Nat)))) (IntKind.wrap .u32 ((IntKind.wrap .u32 v6) * 2 ^ (16 : Nat))))) + (65536 : Int))) } h

def r123 (s : St) (h : Heap) (Q : St → Heap → Prop) : Prop :=
  Q { s with x_offset := s.x_toffsetq16 } h

def r124 (s : St) (h : Heap) (Q : St → Heap → Prop) : Prop :=
  Q { s with x_length := (IntKind.wrap .i64 (s.x_length + (4 : Int))) } h

def r125 (s : St) (h : Heap) (Q : Bool → St → Heap → Prop) : Prop :=
  Q (s.t306 == (2 : Int)) s h

def r126 (s : St) (h : Heap) (Q : St → Heap → Prop) : Prop :=
  Q { s with x_s := (IntKind.wrap .i64 (s.x_s + (3 : Int))) } h

def r127 (s : St) (h : Heap) (Q : Bool → St → Heap → Prop) : Prop :=
  Q (decide ((IntKind.wrap .u64 s.x_s) > (IntKind.wrap .u64 ((s.x_src.n : Nat) : Int)))) s h

def r128 (s : St) (h : Heap) (Q : St → Heap → Prop) : Prop :=
  Q { s with t4 := (1 : Int) } h

def r129 (s : St) (h : Heap) (Q : St → Heap → Prop) : Prop :=
  0 ≤ (IntKind.wrap .i64 (s.x_s - (3 : Int))) ∧ (IntKind.wrap .i64 (s.x_s - (3 : Int))) < ((s.x_src.n : Nat) : Int) ∧
  ptrE s.x_src.p fun a1 =>
  ∃ v2 : Int, hcell h (Addr.add a1 (Int.toNat (IntKind.wrap .i64 (s.x_s - (3 : Int))) * 1)) = some (.int .u8 v2) ∧
  Q { s with x_length := (IntKind.wrap .i64 ((1 : Int) + (Int.fdiv (IntKind.wrap .i64 v2) (2 ^ (2 : Nat))))) } h

def r130 (s : St) (h : Heap) (Q : St → Heap → Prop) : Prop :=
  0 ≤ (IntKind.wrap .i64 (s.x_s - (2 : Int))) ∧ (IntKind.wrap .i64 (s.x_s - (2 : Int))) < ((s.x_src.n : Nat) : Int) ∧
  ptrE s.x_src.p fun a1 =>
  ∃ v2 : Int, hcell h (Addr.add a1 (Int.toNat (IntKind.wrap .i64 (s.x_s - (2 : Int))) * 1)) = some (.int .u8 v2) ∧
  0 ≤ (IntKind.wrap .i64 (s.x_s - (1 : Int))) ∧ (IntKind.wrap .i64 (s.x_s - (1 : Int))) < ((s.x_src.n : Nat) : Int) ∧
  ptrE s.x_src.p fun a3 =>
  ∃ v4 : Int, hcell h (Addr.add a3 (Int.toNat (IntKind.wrap .i64 (s.x_s - (1 : Int))) * 1)) = some (.int .u8 v4) ∧
  Q { s with x_offset := (IntKind.wrap .i64 (bOr .u32 (IntKind.wrap .u32 v2) (IntKind.wrap .u32 ((IntKind.wrap .u32 v4) * 2 ^ (8 : Nat))))) } h

def r131 (s : St) (h : Heap) (Q : Bool → St → Heap → Prop) : Prop :=
  Q (s.t306 == (3 : Int)) s h

def r132 (s : St) (h : Heap) (Q : St → Heap → Prop) : Prop :=
  Q { s with x_s := (IntKind.wrap .i64 (s.x_s + (5 : Int))) } h

def r133 (s : St) (h : Heap) (Q : Bool → St → Heap → Prop) : Prop :=
  Q (decide ((IntKind.wrap .u64 s.x_s) > (IntKind.wrap .u64 ((s.x_src.n : Nat) : Int)))) s h

def r134 (s : St) (h : Heap) (Q : St → Heap → Prop) : Prop :=
  Q { s with t4 := (1 : Int) } h

def r135 (s : St) (h : Heap) (Q : St → Heap → Prop) : Prop :=
  0 ≤ (IntKind.wrap .i64 (s.x_s - (5 : Int))) ∧ (IntKind.wrap .i64 (s.x_s - (5 : Int))) < ((s.x_src.n : Nat) : Int) ∧
  ptrE s.x_src.p fun a1 =>
  ∃ v2 : Int, hcell h (Addr.add a1 (Int.toNat (IntKind.wrap .i64 (s.x_s - (5 : Int))) * 1)) = some (.int .u8 v2) ∧
  Q { s with x_length := (IntKind.wrap .i64 ((1 : Int) + (Int.fdiv (IntKind.wrap .i64 v2) (2 ^ (2 : Nat))))) } h

def r136 (s : St) (h : Heap) (Q : St → Heap → Prop) : Prop :=
  0 ≤ (IntKind.wrap .i64 (s.x_s - (4 : Int))) ∧ (IntKind.wrap .i64 (s.x_s - (4 : Int))) < ((s.x_src.n : Nat) : Int) ∧
  ptrE s.x_src.p fun a1 =>
  ∃ v2 : Int, hcell h (Addr.add a1 (Int.toNat (IntKind.wrap .i64 (s.x_s - (4 : Int))) * 1)) = some (.int .u8 v2) ∧
  0 ≤ (IntKind.wrap .i64 (s.x_s - (3 : Int))) ∧ (IntKind.wrap .i64 (s.x_s - (3 : Int))) < ((s.x_src.n : Nat) : Int) ∧
  ptrE s.x_src.p fun a3 =>
  ∃ v4 : Int, hcell h (Addr.add a3 (Int.toNat (IntKind.wrap .i64 (s.x_s - (3 : Int))) * 1)) = some (.int .u8 v4) ∧
  0 ≤ (IntKind.wrap .i64 (s.x_s - (2 : Int))) ∧ (IntKind.wrap .i64 (s.x_s - (2 : Int))) < ((s.x_src.n : Nat) : Int) ∧
  ptrE s.x_src.p fun a5 =>
  ∃ v6 : Int, hcell h (Addr.add a5 (Int.toNat (IntKind.wrap .i64 (s.x_s - (2 : Int))) * 1)) = some (.int .u8 v6) ∧
  0 ≤ (IntKind.wrap .i64 (s.x_s - (1 : Int))) ∧ (IntKind.wrap .i64 (s.x_s - (1 : Int))) < ((s.x_src.n : Nat) : Int) ∧
  ptrE s.x_src.p fun a7 =>
  ∃ v8 : Int, hcell h (Addr.add a7 (Int.toNat (IntKind.wrap .i64 (s.x_s - (1 : Int))) * 1)) = some (.int .u8 v8) ∧
  Q { s with x_offset := (IntKind.wrap .i64 (bOr .u32 (bOr .u32 (bOr .u32 (IntKind.wrap .u32 v2) (IntKind.wrap .u32 ((IntKind.wrap .u32 v4) * 2 ^ (8 : Nat)))) (IntKind.wrap .u32 ((IntKind.wrap .u32 v6) * 2 ^ (16 : Nat)))) (IntKind.wrap .u32 ((IntKind.wrap .u32 v8) * 2 ^ (24 : Nat))))) } h

def r137 (s : St) (h : Heap) (Q : Bool → St → Heap → Prop) : Prop :=
  (if (decide (s.x_offset ≤ (0 : Int))) = false then
  ((if (decide (s.x_d < s.x_offset)) = false then
  (Q (decide (s.x_length > (IntKind.wrap .i64 (((s.x_dst.n : Nat) : Int) - s.x_d)))) s h)
  else
  (Q true s h)))
  else
  (Q true s h))

def r138 (s : St) (h : Heap) (Q : St → Heap → Prop) : Prop :=
  Q { s with t4 := (1 : Int) } h

def r139 (s : St) (h : Heap) (Q : Bool → St → Heap → Prop) : Prop :=
  Q (decide (s.x_offset > s.x_length)) s h

def r140 (s : St) (h : Heap) (Q : St → Heap → Prop) : Prop :=
  0 ≤ (IntKind.wrap .i64 (s.x_d + s.x_length)) ∧ (IntKind.wrap .i64 (s.x_d + s.x_length)) ≤ ((s.x_dst.c : Nat) : Int) ∧
  0 ≤ s.x_d ∧ s.x_d ≤ (((Int.toNat (IntKind.wrap .i64 (s.x_d + s.x_length))) : Nat) : Int) ∧
  0 ≤ (IntKind.wrap .i64 (s.x_d - s.x_offset)) ∧ (IntKind.wrap .i64 (s.x_d - s.x_offset)) ≤ ((s.x_dst.n : Nat) : Int) ∧
  copyT Pg 5 (subP s.x_dst.p (Int.toNat s.x_d) s.x_dst.c 1) ((Int.toNat (IntKind.wrap .i64 (s.x_d + s.x_length))) - (Int.toNat s.x_d)) (.slice (subP s.x_dst.p (Int.toNat (IntKind.wrap .i64 (s.x_d - s.x_offset))) s.x_dst.c 1) (s.x_dst.n - (Int.toNat (IntKind.wrap .i64 (s.x_d - s.x_offset)))) (s.x_dst.c - (Int.toNat (IntKind.wrap .i64 (s.x_d - s.x_offset))))) (s.x_dst.n - (Int.toNat (IntKind.wrap .i64 (s.x_d - s.x_offset)))) h fun n1 h2 =>
  Q s h2

def r141 (s : St) (h : Heap) (Q : St → Heap → Prop) : Prop :=
  Q { s with x_d := (IntKind.wrap .i64 (s.x_d + s.x_length)) } h

def r142 (s : St) (h : Heap) (Q : St → Heap → Prop) : Prop :=
  0 ≤ (IntKind.wrap .i64 (s.x_d + s.x_length)) ∧ (IntKind.wrap .i64 (s.x_d + s.x_length)) ≤ ((s.x_dst.c : Nat) : Int) ∧
  0 ≤ s.x_d ∧ s.x_d ≤ (((Int.toNat (IntKind.wrap .i64 (s.x_d + s.x_length))) : Nat) : Int) ∧
  Q { s with x_aq17 := ⟨(subP s.x_dst.p (Int.toNat s.x_d) s.x_dst.c 1), ((Int.toNat (IntKind.wrap .i64 (s.x_d + s.x_length))) - (Int.toNat s.x_d)), (s.x_dst.c - (Int.toNat s.x_d))⟩ } h

def r143 (s : St) (h : Heap) (Q : St → Heap → Prop) : Prop :=
  0 ≤ (IntKind.wrap .i64 (s.x_d - s.x_offset)) ∧ (IntKind.wrap .i64 (s.x_d - s.x_offset)) ≤ ((s.x_dst.n : Nat) : Int) ∧
  Q { s with x_bq18 := ⟨(subP s.x_dst.p (Int.toNat (IntKind.wrap .i64 (s.x_d - s.x_offset))) s.x_dst.c 1), (s.x_dst.n - (Int.toNat (IntKind.wrap .i64 (s.x_d - s.x_offset)))), (s.x_dst.c - (Int.toNat (IntKind.wrap .i64 (s.x_d - s.x_offset))))⟩ } h

def r144 (s : St) (h : Heap) (Q : St → Heap → Prop) : Prop :=
  0 ≤ ((s.x_aq17.n : Nat) : Int) ∧ ((s.x_aq17.n : Nat) : Int) ≤ ((s.x_bq18.c : Nat) : Int) ∧
  Q { s with x_bq18 := ⟨(subP s.x_bq18.p 0 s.x_bq18.c 1), ((Int.toNat ((s.x_aq17.n : Nat) : Int)) - 0), (s.x_bq18.c - 0)⟩ } h

def r145 (s : St) (h : Heap) (Q : St → Heap → Prop) : Prop :=
  Q { s with t724 := ((s.x_aq17.n : Nat) : Int), t725 := (0 : Int) } h

def r146 (s : St) (h : Heap) (Q : St → Heap → Prop) : Prop :=
  Q { s with t726 := (decide (s.t725 < s.t724)) } h

def r147 (s : St) (h : Heap) (Q : St → Heap → Prop) : Prop :=
  Q { s with x_iq19 := s.t725 } h

def r148 (s : St) (h : Heap) (Q : St → Heap → Prop) : Prop :=
  0 ≤ s.x_iq19 ∧ s.x_iq19 < ((s.x_bq18.n : Nat) : Int) ∧
  ptrE s.x_bq18.p fun a1 =>
  ∃ v2 : Int, hcell h (Addr.add a1 (Int.toNat s.x_iq19 * 1)) = some (.int .u8 v2) ∧
  0 ≤ s.x_iq19 ∧ s.x_iq19 < ((s.x_aq17.n : Nat) : Int) ∧
  ptrE s.x_aq17.p fun a3 =>
  st1 (Addr.add (Addr.add a3 (Int.toNat s.x_iq19 * 1)) 0) (.int .u8 v2) h fun h4 =>
  Q s h4

def r149 (s : St) (h : Heap) (Q : St → Heap → Prop) : Prop :=
  Q { s with t725 := (IntKind.wrap .i64 (s.t725 + (1 : Int))) } h

def r150 (s : St) (h : Heap) (Q : St → Heap → Prop) : Prop :=
  Q { s with x_d := (IntKind.wrap .i64 (s.x_d + s.x_length)) } h

def r151 (s : St) (h : Heap) (Q : Bool → St → Heap → Prop) : Prop :=
  Q (s.x_d != ((s.x_dst.n : Nat) : Int)) s h

def r152 (s : St) (h : Heap) (Q : St → Heap → Prop) : Prop :=
  Q { s with t4 := (1 : Int) } h

def r153 (s : St) (h : Heap) (Q : St → Heap → Prop) : Prop :=
  Q { s with t4 := (0 : Int) } h

def k97 : Stm St := (.seq (.test r151 (.seq (.reg r152) .ret) .skip) (.seq (.reg r153) .ret))
def k96 : Stm St := (.seq (.block 13 (.seq (.reg r147) (.reg r148))) (.reg r149))
def k95 : Stm St := (.seq (.cond (fun s => s.t726) .skip (.exit 12)) k96)
def k94 : Stm St := (.seq (.reg r146) k95)
def k93 : Stm St := (.block 12 (.loop k94))
def k92 : Stm St := (.seq (.seq (.reg r145) k93) (.reg r150))
def k91 : Stm St := (.seq (.reg r144) k92)
def k90 : Stm St := (.seq (.reg r143) k91)
def k89 : Stm St := (.seq (.reg r142) k90)
def k88 : Stm St := (.seq (.reg r140) (.seq (.reg r141) (.exit 8)))
def k87 : Stm St := (.seq (.test r139 k88 .skip) k89)
def k86 : Stm St := (.seq (.test r137 (.seq (.reg r138) .ret) .skip) k87)
def k85 : Stm St := (.seq (.test r133 (.seq (.reg r134) .ret) .skip) (.seq (.reg r135) (.reg r136)))
def k84 : Stm St := (.seq (.reg r132) k85)
def k83 : Stm St := (.test r131 k84 .skip)
def k82 : Stm St := (.seq (.test r127 (.seq (.reg r128) .ret) .skip) (.seq (.reg r129) (.reg r130)))
def k81 : Stm St := (.seq (.reg r126) k82)
def k80 : Stm St := (.test r125 k81 k83)
def k79 : Stm St := (.seq (.test r120 (.seq (.reg r121) .ret) .skip) (.reg r122))
def k78 : Stm St := (.seq (.reg r119) k79)
def k77 : Stm St := (.test r118 k78 .skip)
def k76 : Stm St := (.seq (.test r115 (.seq (.reg r116) .ret) .skip) (.reg r117))
def k75 : Stm St := (.seq (.reg r114) k76)
def k74 : Stm St := (.test r113 k75 k77)
def k73 : Stm St := (.seq (.test r110 (.seq (.reg r111) .ret) .skip) (.reg r112))
def k72 : Stm St := (.seq (.reg r109) k73)
def k71 : Stm St := (.block 11 (.test r108 k72 k74))
def k70 : Stm St := (.seq (.reg r107) k71)
def k69 : Stm St := (.seq (.test r106 k70 (.reg r123)) (.reg r124))
def k68 : Stm St := (.seq (.reg r105) k69)
def k67 : Stm St := (.seq (.reg r104) k68)
def k66 : Stm St := (.seq (.test r102 (.seq (.reg r103) .ret) .skip) k67)
def k65 : Stm St := (.seq (.reg r101) k66)
def k64 : Stm St := (.test r100 k65 k80)
def k63 : Stm St := (.seq (.reg r98) (.seq (.reg r99) (.exit 8)))
def k62 : Stm St := (.seq (.reg r97) k63)
def k61 : Stm St := (.seq (.test r95 (.seq (.reg r96) .ret) .skip) k62)
def k60 : Stm St := (.seq (.reg r94) k61)
def k59 : Stm St := (.seq (.test r91 (.seq (.reg r92) .ret) .skip) (.reg r93))
def k58 : Stm St := (.seq (.reg r90) k59)
def k57 : Stm St := (.test r89 k58 .skip)
def k56 : Stm St := (.seq (.test r86 (.seq (.reg r87) .ret) .skip) (.reg r88))
def k55 : Stm St := (.seq (.reg r85) k56)
def k54 : Stm St := (.test r84 k55 k57)
def k53 : Stm St := (.seq (.test r81 (.seq (.reg r82) .ret) .skip) (.reg r83))
def k52 : Stm St := (.seq (.reg r80) k53)
def k51 : Stm St := (.test r79 k52 k54)
def k50 : Stm St := (.seq (.test r76 (.seq (.reg r77) .ret) .skip) (.reg r78))
def k49 : Stm St := (.seq (.reg r75) k50)
def k48 : Stm St := (.test r74 k49 k51)
def k47 : Stm St := (.seq (.block 10 (.test r72 (.reg r73) k48)) k60)
def k46 : Stm St := (.seq (.reg r71) k47)
def k45 : Stm St := (.block 9 (.test r70 k46 k64))
def k44 : Stm St := (.block 8 (.seq (.seq (.reg r69) k45) k86))
def k43 : Stm St := (.seq (.test r68 .skip (.exit 7)) k44)
def k42 : Stm St := (.seq (.block 7 (.loop k43)) k97)
def k41 : Stm St := (.seq (.block 6 (.seq (.reg r64) (.reg r65))) (.reg r66))
def k40 : Stm St := (.seq (.cond (fun s => s.t285) .skip (.exit 5)) k41)
def k39 : Stm St := (.seq (.reg r63) k40)
def k38 : Stm St := (.block 5 (.loop k39))
def k37 : Stm St := (.seq (.seq (.reg r62) k38) (.reg r67))
def k36 : Stm St := (.seq (.reg r61) k37)
def k35 : Stm St := (.seq (.reg r60) k36)
def k34 : Stm St := (.seq (.reg r59) k35)
def k33 : Stm St := (.seq (.reg r57) (.seq (.reg r58) (.exit 1)))
def k32 : Stm St := (.seq (.test r56 k33 .skip) k34)
def k31 : Stm St := (.seq (.test r54 (.seq (.reg r55) .ret) .skip) k32)
def k30 : Stm St := (.seq (.reg r51) (.seq (.reg r52) (.reg r53)))
def k29 : Stm St := (.test r50 k30 .skip)
def k28 : Stm St := (.seq (.reg r47) (.seq (.reg r48) (.reg r49)))
def k27 : Stm St := (.test r46 k28 k29)
def k26 : Stm St := (.seq (.reg r41) (.seq (.reg r42) (.reg r43)))
def k25 : Stm St := (.test r40 k26 .skip)
def k24 : Stm St := (.test r37 (.seq (.reg r38) (.reg r39)) k25)
def k23 : Stm St := (.block 4 (.test r34 (.seq (.reg r35) (.reg r36)) k24))
def k22 : Stm St := (.seq (.reg r33) k23)
def k21 : Stm St := (.seq (.test r32 k22 (.reg r44)) (.reg r45))
def k20 : Stm St := (.seq (.reg r31) k21)
def k19 : Stm St := (.seq (.reg r30) k20)
def k18 : Stm St := (.seq (.reg r29) k19)
def k17 : Stm St := (.test r28 k18 k27)
def k16 : Stm St := (.seq (.reg r26) (.seq (.reg r27) (.exit 1)))
def k15 : Stm St := (.seq (.reg r25) k16)
def k14 : Stm St := (.seq (.test r23 (.seq (.reg r24) .ret) .skip) k15)
def k13 : Stm St := (.seq (.reg r22) k14)
def k12 : Stm St := (.test r19 (.seq (.reg r20) (.reg r21)) .skip)
def k11 : Stm St := (.seq (.reg r16) (.seq (.reg r17) (.reg r18)))
def k10 : Stm St := (.test r15 k11 k12)
def k9 : Stm St := (.test r12 (.seq (.reg r13) (.reg r14)) k10)
def k8 : Stm St := (.test r9 (.seq (.reg r10) (.reg r11)) k9)
def k7 : Stm St := (.seq (.block 3 (.test r7 (.reg r8) k8)) k13)
def k6 : Stm St := (.seq (.reg r6) k7)
def k5 : Stm St := (.block 2 (.test r5 k6 k17))
def k4 : Stm St := (.block 1 (.seq (.seq (.reg r4) k5) k31))
def k3 : Stm St := (.seq (.test r3 .skip (.exit 0)) k4)
def k2 : Stm St := (.seq (.block 0 (.loop k3)) k42)
def k1 : Stm St := (.seq (.reg r2) k2)
def k0 : Stm St := (.seq (.reg r1) k1)

def stm : Stm St := (.seq (.reg r0) k0)

def ex : Ex → Pt St := fun _ => p0

set_option maxRecDepth 100000 in
theorem sim : Sim Pg 743 p1 (Tryd.f59.body.getD .skip) stm p0 ex :=
  (Sim.seq (Sim.reg (A := p1) (B := p1) (fun _ _ _ => by kernel_rfl))
  (Sim.seq (Sim.reg (A := p1) (B := p2) (fun _ _ _ => by kernel_rfl))
  (Sim.seq (Sim.reg (A := p2) (B := p3) (fun _ _ _ => by kernel_rfl))
  (Sim.seq (Sim.block (B := p3) (Sim.loop (A := p3) (Sim.seq (Sim.test (A := p3) (B := p3) (fun _ _ _ => by kernel_rfl) (Sim.skip (A := p3))
  (Sim.exit (A := p3) (fun _ => ⟨rfl, rfl, rfl, rfl, rfl, rfl, trivial⟩)))
  (Sim.block (B := p3) (Sim.seq (Sim.seq (Sim.reg (A := p3) (B := p4) (fun _ _ _ => by kernel_rfl))
  (Sim.block (B := p3) (Sim.test (A := p4) (B := p4) (fun _ _ _ => by kernel_rfl) (Sim.seq (Sim.reg (A := p4) (B := p5) (fun _ _ _ => by kernel_rfl))
  (Sim.seq (Sim.block (B := p5) (Sim.test (A := p5) (B := p5) (fun _ _ _ => by kernel_rfl) (Sim.reg (A := p5) (B := p5) (fun _ _ _ => by kernel_rfl))
  (Sim.test (A := p5) (B := p5) (fun _ _ _ => by kernel_rfl) (Sim.seq (Sim.reg (A := p5) (B := p5) (fun _ _ _ => by kernel_rfl))
  (Sim.reg (A := p5) (B := p5) (fun _ _ _ => by kernel_rfl)))
  (Sim.test (A := p5) (B := p5) (fun _ _ _ => by kernel_rfl) (Sim.seq (Sim.reg (A := p5) (B := p5) (fun _ _ _ => by kernel_rfl))
  (Sim.reg (A := p5) (B := p5) (fun _ _ _ => by kernel_rfl)))
  (Sim.test (A := p5) (B := p5) (fun _ _ _ => by kernel_rfl) (Sim.seq (Sim.reg (A := p5) (B := p5) (fun _ _ _ => by kernel_rfl))
  (Sim.seq (Sim.reg (A := p5) (B := p5) (fun _ _ _ => by kernel_rfl))
  (Sim.reg (A := p5) (B := p5) (fun _ _ _ => by kernel_rfl))))
  (Sim.test (A := p5) (B := p5) (fun _ _ _ => by kernel_rfl) (Sim.seq (Sim.reg (A := p5) (B := p5) (fun _ _ _ => by kernel_rfl))
  (Sim.reg (A := p5) (B := p5) (fun _ _ _ => by kernel_rfl)))
  (Sim.skip (A := p5))))))))
  (Sim.seq (Sim.reg (A := p5) (B := p3) (fun _ _ _ => by kernel_rfl))
  (Sim.seq (Sim.test (A := p3) (B := p3) (fun _ _ _ => by kernel_rfl) (Sim.seq (Sim.reg (A := p3) (B := p0) (fun _ _ _ => by kernel_rfl))
  (Sim.ret (A := p0) (E := (exAt (exAt (exAt ex 0 p3) 1 p3) 2 p3)) (fun _ => ⟨rfl, trivial⟩)))
  (Sim.skip (A := p3)))
  (Sim.seq (Sim.reg (A := p3) (B := p3) (fun _ _ _ => by kernel_rfl))
  (Sim.seq (Sim.reg (A := p3) (B := p3) (fun _ _ _ => by kernel_rfl))
  (Sim.seq (Sim.reg (A := p3) (B := p3) (fun _ _ _ => by kernel_rfl))
  (Sim.exit (A := p3) (fun _ => ⟨rfl, rfl, rfl, rfl, rfl, rfl, trivial⟩)))))))))
  (Sim.test (A := p4) (B := p4) (fun _ _ _ => by kernel_rfl) (Sim.seq (Sim.reg (A := p4) (B := p6) (fun _ _ _ => by kernel_rfl))
  (Sim.seq (Sim.reg (A := p6) (B := p7) (fun _ _ _ => by kernel_rfl))
  (Sim.seq (Sim.reg (A := p7) (B := p8) (fun _ _ _ => by kernel_rfl))
  (Sim.seq (Sim.test (A := p8) (B := p8) (fun _ _ _ => by kernel_rfl) (Sim.seq (Sim.reg (A := p8) (B := p9) (fun _ _ _ => by kernel_rfl))
  (Sim.block (B := p3) (Sim.test (A := p9) (B := p9) (fun _ _ _ => by kernel_rfl) (Sim.seq (Sim.reg (A := p9) (B := p3) (fun _ _ _ => by kernel_rfl))
  (Sim.reg (A := p3) (B := p3) (fun _ _ _ => by kernel_rfl)))
  (Sim.test (A := p9) (B := p9) (fun _ _ _ => by kernel_rfl) (Sim.seq (Sim.reg (A := p9) (B := p3) (fun _ _ _ => by kernel_rfl))
  (Sim.reg (A := p3) (B := p3) (fun _ _ _ => by kernel_rfl)))
  (Sim.test (A := p9) (B := p3) (fun _ _ _ => by kernel_rfl) (Sim.seq (Sim.reg (A := p3) (B := p10) (fun _ _ _ => by kernel_rfl))
  (Sim.seq (Sim.reg (A := p10) (B := p3) (fun _ _ _ => by kernel_rfl))
  (Sim.reg (A := p3) (B := p3) (fun _ _ _ => by kernel_rfl))))
  (Sim.skip (A := p3)))))))
  (Sim.reg (A := p8) (B := p3) (fun _ _ _ => by kernel_rfl)))
  (Sim.reg (A := p3) (B := p3) (fun _ _ _ => by kernel_rfl))))))
  (Sim.test (A := p4) (B := p4) (fun _ _ _ => by kernel_rfl) (Sim.seq (Sim.reg (A := p4) (B := p6) (fun _ _ _ => by kernel_rfl))
  (Sim.seq (Sim.reg (A := p6) (B := p3) (fun _ _ _ => by kernel_rfl))
  (Sim.reg (A := p3) (B := p3) (fun _ _ _ => by kernel_rfl))))
  (Sim.test (A := p4) (B := p3) (fun _ _ _ => by kernel_rfl) (Sim.seq (Sim.reg (A := p3) (B := p6) (fun _ _ _ => by kernel_rfl))
  (Sim.seq (Sim.reg (A := p6) (B := p3) (fun _ _ _ => by kernel_rfl))
  (Sim.reg (A := p3) (B := p3) (fun _ _ _ => by kernel_rfl))))
  (Sim.skip (A := p3))))))))
  (Sim.seq (Sim.test (A := p3) (B := p3) (fun _ _ _ => by kernel_rfl) (Sim.seq (Sim.reg (A := p3) (B := p0) (fun _ _ _ => by kernel_rfl))
  (Sim.ret (A := p0) (E := (exAt (exAt ex 0 p3) 1 p3)) (fun _ => ⟨rfl, trivial⟩)))
  (Sim.skip (A := p3)))
  (Sim.seq (Sim.test (A := p3) (B := p3) (fun _ _ _ => by kernel_rfl) (Sim.seq (Sim.reg (A := p3) (B := p3) (fun _ _ _ => by kernel_rfl))
  (Sim.seq (Sim.reg (A := p3) (B := p3) (fun _ _ _ => by kernel_rfl))
  (Sim.exit (A := p3) (fun _ => ⟨rfl, rfl, rfl, rfl, rfl, rfl, trivial⟩))))
  (Sim.skip (A := p3)))
  (Sim.seq (Sim.reg (A := p3) (B := p11) (fun _ _ _ => by kernel_rfl))
  (Sim.seq (Sim.reg (A := p11) (B := p12) (fun _ _ _ => by kernel_rfl))
  (Sim.seq (Sim.reg (A := p12) (B := p12) (fun _ _ _ => by kernel_rfl))
  (Sim.seq (Sim.seq (Sim.reg (A := p12) (B := p13) (fun _ _ _ => by kernel_rfl))
  (Sim.block (B := p3) (Sim.loop (A := p13) (Sim.seq (Sim.reg (A := p13) (B := p14) (fun _ _ _ => by kernel_rfl))
  (Sim.seq (Sim.cond (A := p14) (fun s => s.t285) (fun _ => rfl) (Sim.weak (B := p14) (C := p13) (Sim.skip (A := p14)) (fun _ => ⟨rfl, rfl, rfl, rfl, rfl, rfl, rfl, rfl, rfl, rfl, trivial⟩))
  (Sim.exit (A := p14) (fun _ => ⟨rfl, rfl, rfl, rfl, rfl, rfl, trivial⟩)))
  (Sim.seq (Sim.block (B := p13) (Sim.seq (Sim.reg (A := p13) (B := p15) (fun _ _ _ => by kernel_rfl))
  (Sim.reg (A := p15) (B := p13) (fun _ _ _ => by kernel_rfl))))
  (Sim.reg (A := p13) (B := p13) (fun _ _ _ => by kernel_rfl))))))))
  (Sim.reg (A := p3) (B := p3) (fun _ _ _ => by kernel_rfl)))))))))))))
  (Sim.seq (Sim.block (B := p16) (Sim.loop (A := p3) (Sim.seq (Sim.test (A := p3) (B := p3) (fun _ _ _ => by kernel_rfl) (Sim.skip (A := p3))
  (Sim.exit (A := p3) (fun _ => ⟨rfl, rfl, trivial⟩)))
  (Sim.block (B := p3) (Sim.seq (Sim.seq (Sim.reg (A := p3) (B := p17) (fun _ _ _ => by kernel_rfl))
  (Sim.block (B := p3) (Sim.test (A := p17) (B := p17) (fun _ _ _ => by kernel_rfl) (Sim.seq (Sim.reg (A := p17) (B := p18) (fun _ _ _ => by kernel_rfl))
  (Sim.seq (Sim.block (B := p18) (Sim.test (A := p18) (B := p18) (fun _ _ _ => by kernel_rfl) (Sim.reg (A := p18) (B := p18) (fun _ _ _ => by kernel_rfl))
  (Sim.test (A := p18) (B := p18) (fun _ _ _ => by kernel_rfl) (Sim.seq (Sim.reg (A := p18) (B := p6) (fun _ _ _ => by kernel_rfl))
  (Sim.seq (Sim.test (A := p6) (B := p6) (fun _ _ _ => by kernel_rfl) (Sim.seq (Sim.reg (A := p6) (B := p0) (fun _ _ _ => by kernel_rfl))
  (Sim.ret (A := p0) (E := (exAt (exAt (exAt (exAt ex 7 p16) 8 p3) 9 p3) 10 p18)) (fun _ => ⟨rfl, trivial⟩)))
  (Sim.skip (A := p6)))
  (Sim.reg (A := p6) (B := p18) (fun _ _ _ => by kernel_rfl))))
  (Sim.test (A := p18) (B := p18) (fun _ _ _ => by kernel_rfl) (Sim.seq (Sim.reg (A := p18) (B := p6) (fun _ _ _ => by kernel_rfl))
  (Sim.seq (Sim.test (A := p6) (B := p6) (fun _ _ _ => by kernel_rfl) (Sim.seq (Sim.reg (A := p6) (B := p0) (fun _ _ _ => by kernel_rfl))
  (Sim.ret (A := p0) (E := (exAt (exAt (exAt (exAt ex 7 p16) 8 p3) 9 p3) 10 p18)) (fun _ => ⟨rfl, trivial⟩)))
  (Sim.skip (A := p6)))
  (Sim.reg (A := p6) (B := p18) (fun _ _ _ => by kernel_rfl))))
  (Sim.test (A := p18) (B := p18) (fun _ _ _ => by kernel_rfl) (Sim.seq (Sim.reg (A := p18) (B := p6) (fun _ _ _ => by kernel_rfl))
  (Sim.seq (Sim.test (A := p6) (B := p6) (fun _ _ _ => by kernel_rfl) (Sim.seq (Sim.reg (A := p6) (B := p0) (fun _ _ _ => by kernel_rfl))
  (Sim.ret (A := p0) (E := (exAt (exAt (exAt (exAt ex 7 p16) 8 p3) 9 p3) 10 p18)) (fun _ => ⟨rfl, trivial⟩)))
  (Sim.skip (A := p6)))
  (Sim.reg (A := p6) (B := p18) (fun _ _ _ => by kernel_rfl))))
  (Sim.test (A := p18) (B := p18) (fun _ _ _ => by kernel_rfl) (Sim.seq (Sim.reg (A := p18) (B := p6) (fun _ _ _ => by kernel_rfl))
  (Sim.seq (Sim.test (A := p6) (B := p6) (fun _ _ _ => by kernel_rfl) (Sim.seq (Sim.reg (A := p6) (B := p0) (fun _ _ _ => by kernel_rfl))
  (Sim.ret (A := p0) (E := (exAt (exAt (exAt (exAt ex 7 p16) 8 p3) 9 p3) 10 p18)) (fun _ => ⟨rfl, trivial⟩)))
  (Sim.skip (A := p6)))
  (Sim.reg (A := p6) (B := p18) (fun _ _ _ => by kernel_rfl))))
  (Sim.skip (A := p18))))))))
  (Sim.seq (Sim.reg (A := p18) (B := p3) (fun _ _ _ => by kernel_rfl))
  (Sim.seq (Sim.test (A := p3) (B := p3) (fun _ _ _ => by kernel_rfl) (Sim.seq (Sim.reg (A := p3) (B := p0) (fun _ _ _ => by kernel_rfl))
  (Sim.ret (A := p0) (E := (exAt (exAt (exAt ex 7 p16) 8 p3) 9 p3)) (fun _ => ⟨rfl, trivial⟩)))
  (Sim.skip (A := p3)))
  (Sim.seq (Sim.reg (A := p3) (B := p3) (fun _ _ _ => by kernel_rfl))
  (Sim.seq (Sim.reg (A := p3) (B := p3) (fun _ _ _ => by kernel_rfl))
  (Sim.seq (Sim.reg (A := p3) (B := p3) (fun _ _ _ => by kernel_rfl))
  (Sim.exit (A := p3) (fun _ => ⟨rfl, rfl, rfl, rfl, rfl, rfl, trivial⟩)))))))))
  (Sim.test (A := p17) (B := p17) (fun _ _ _ => by kernel_rfl) (Sim.seq (Sim.reg (A := p17) (B := p6) (fun _ _ _ => by kernel_rfl))
  (Sim.seq (Sim.test (A := p6) (B := p6) (fun _ _ _ => by kernel_rfl) (Sim.seq (Sim.reg (A := p6) (B := p0) (fun _ _ _ => by kernel_rfl))
  (Sim.ret (A := p0) (E := (exAt (exAt (exAt ex 7 p16) 8 p3) 9 p3)) (fun _ => ⟨rfl, trivial⟩)))
  (Sim.skip (A := p6)))
  (Sim.seq (Sim.reg (A := p6) (B := p3) (fun _ _ _ => by kernel_rfl))
  (Sim.seq (Sim.reg (A := p3) (B := p19) (fun _ _ _ => by kernel_rfl))
  (Sim.seq (Sim.test (A := p19) (B := p19) (fun _ _ _ => by kernel_rfl) (Sim.seq (Sim.reg (A := p19) (B := p20) (fun _ _ _ => by kernel_rfl))
  (Sim.block (B := p3) (Sim.test (A := p20) (B := p20) (fun _ _ _ => by kernel_rfl) (Sim.seq (Sim.reg (A := p20) (B := p6) (fun _ _ _ => by kernel_rfl))
  (Sim.seq (Sim.test (A := p6) (B := p6) (fun _ _ _ => by kernel_rfl) (Sim.seq (Sim.reg (A := p6) (B := p0) (fun _ _ _ => by kernel_rfl))
  (Sim.ret (A := p0) (E := (exAt (exAt (exAt (exAt ex 7 p16) 8 p3) 9 p3) 11 p3)) (fun _ => ⟨rfl, trivial⟩)))
  (Sim.skip (A := p6)))
  (Sim.reg (A := p6) (B := p3) (fun _ _ _ => by kernel_rfl))))
  (Sim.test (A := p20) (B := p20) (fun _ _ _ => by kernel_rfl) (Sim.seq (Sim.reg (A := p20) (B := p6) (fun _ _ _ => by kernel_rfl))
  (Sim.seq (Sim.test (A := p6) (B := p6) (fun _ _ _ => by kernel_rfl) (Sim.seq (Sim.reg (A := p6) (B := p0) (fun _ _ _ => by kernel_rfl))
  (Sim.ret (A := p0) (E := (exAt (exAt (exAt (exAt ex 7 p16) 8 p3) 9 p3) 11 p3)) (fun _ => ⟨rfl, trivial⟩)))
  (Sim.skip (A := p6)))
  (Sim.reg (A := p6) (B := p3) (fun _ _ _ => by kernel_rfl))))
  (Sim.test (A := p20) (B := p3) (fun _ _ _ => by kernel_rfl) (Sim.seq (Sim.reg (A := p3) (B := p6) (fun _ _ _ => by kernel_rfl))
  (Sim.seq (Sim.test (A := p6) (B := p6) (fun _ _ _ => by kernel_rfl) (Sim.seq (Sim.reg (A := p6) (B := p0) (fun _ _ _ => by kernel_rfl))
  (Sim.ret (A := p0) (E := (exAt (exAt (exAt (exAt ex 7 p16) 8 p3) 9 p3) 11 p3)) (fun _ => ⟨rfl, trivial⟩)))
  (Sim.skip (A := p6)))
  (Sim.reg (A := p6) (B := p3) (fun _ _ _ => by kernel_rfl))))
  (Sim.skip (A := p3)))))))
  (Sim.reg (A := p19) (B := p3) (fun _ _ _ => by kernel_rfl)))
  (Sim.reg (A := p3) (B := p3) (fun _ _ _ => by kernel_rfl)))))))
  (Sim.test (A := p17) (B := p17) (fun _ _ _ => by kernel_rfl) (Sim.seq (Sim.reg (A := p17) (B := p21) (fun _ _ _ => by kernel_rfl))
  (Sim.seq (Sim.test (A := p21) (B := p21) (fun _ _ _ => by kernel_rfl) (Sim.seq (Sim.reg (A := p21) (B := p0) (fun _ _ _ => by kernel_rfl))
  (Sim.ret (A := p0) (E := (exAt (exAt (exAt ex 7 p16) 8 p3) 9 p3)) (fun _ => ⟨rfl, trivial⟩)))
  (Sim.skip (A := p21)))
  (Sim.seq (Sim.reg (A := p21) (B := p2) (fun _ _ _ => by kernel_rfl))
  (Sim.reg (A := p2) (B := p3) (fun _ _ _ => by kernel_rfl)))))
  (Sim.test (A := p17) (B := p3) (fun _ _ _ => by kernel_rfl) (Sim.seq (Sim.reg (A := p3) (B := p21) (fun _ _ _ => by kernel_rfl))
  (Sim.seq (Sim.test (A := p21) (B := p21) (fun _ _ _ => by kernel_rfl) (Sim.seq (Sim.reg (A := p21) (B := p0) (fun _ _ _ => by kernel_rfl))
  (Sim.ret (A := p0) (E := (exAt (exAt (exAt ex 7 p16) 8 p3) 9 p3)) (fun _ => ⟨rfl, trivial⟩)))
  (Sim.skip (A := p21)))
  (Sim.seq (Sim.reg (A := p21) (B := p2) (fun _ _ _ => by kernel_rfl))
  (Sim.reg (A := p2) (B := p3) (fun _ _ _ => by kernel_rfl)))))
  (Sim.skip (A := p3))))))))
  (Sim.seq (Sim.test (A := p3) (B := p3) (fun _ _ _ => by kernel_rfl) (Sim.seq (Sim.reg (A := p3) (B := p0) (fun _ _ _ => by kernel_rfl))
  (Sim.ret (A := p0) (E := (exAt (exAt ex 7 p16) 8 p3)) (fun _ => ⟨rfl, trivial⟩)))
  (Sim.skip (A := p3)))
  (Sim.seq (Sim.test (A := p3) (B := p3) (fun _ _ _ => by kernel_rfl) (Sim.seq (Sim.reg (A := p3) (B := p3) (fun _ _ _ => by kernel_rfl))
  (Sim.seq (Sim.reg (A := p3) (B := p3) (fun _ _ _ => by kernel_rfl))
  (Sim.exit (A := p3) (fun _ => ⟨rfl, rfl, rfl, rfl, rfl, rfl, trivial⟩))))
  (Sim.skip (A := p3)))
  (Sim.seq (Sim.reg (A := p3) (B := p22) (fun _ _ _ => by kernel_rfl))
  (Sim.seq (Sim.reg (A := p22) (B := p23) (fun _ _ _ => by kernel_rfl))
  (Sim.seq (Sim.reg (A := p23) (B := p23) (fun _ _ _ => by kernel_rfl))
  (Sim.seq (Sim.seq (Sim.reg (A := p23) (B := p24) (fun _ _ _ => by kernel_rfl))
  (Sim.block (B := p3) (Sim.loop (A := p24) (Sim.seq (Sim.reg (A := p24) (B := p25) (fun _ _ _ => by kernel_rfl))
  (Sim.seq (Sim.cond (A := p25) (fun s => s.t726) (fun _ => rfl) (Sim.weak (B := p25) (C := p24) (Sim.skip (A := p25)) (fun _ => ⟨rfl, rfl, rfl, rfl, rfl, rfl, rfl, rfl, rfl, rfl, trivial⟩))
  (Sim.exit (A := p25) (fun _ => ⟨rfl, rfl, rfl, rfl, rfl, rfl, trivial⟩)))
  (Sim.seq (Sim.block (B := p24) (Sim.seq (Sim.reg (A := p24) (B := p26) (fun _ _ _ => by kernel_rfl))
  (Sim.reg (A := p26) (B := p24) (fun _ _ _ => by kernel_rfl))))
  (Sim.reg (A := p24) (B := p24) (fun _ _ _ => by kernel_rfl))))))))
  (Sim.reg (A := p3) (B := p3) (fun _ _ _ => by kernel_rfl)))))))))))))
  (Sim.seq (Sim.test (A := p16) (B := p27) (fun _ _ _ => by kernel_rfl) (Sim.seq (Sim.reg (A := p27) (B := p0) (fun _ _ _ => by kernel_rfl))
  (Sim.ret (A := p0) (E := ex) (fun _ => ⟨rfl, trivial⟩)))
  (Sim.skip (A := p27)))
  (Sim.seq (Sim.reg (A := p27) (B := p0) (fun _ _ _ => by kernel_rfl))
  (Sim.ret (A := p0) (E := ex) (fun _ => ⟨rfl, trivial⟩)))))))))

def init (x_dst : Sl) (x_src : Sl) : St := { x_dst := x_dst, x_src := x_src, t4 := 0, x_d := 0, x_s := 0, x_length := 0, x_offset := 0, x_x := 0, x_toffset := 0, x_in := Sl.nil, x_a := Sl.nil, x_b := Sl.nil, x_i := 0, x_xq15 := 0, x_toffsetq16 := 0, x_aq17 := Sl.nil, x_bq18 := Sl.nil, x_iq19 := 0, t29 := 0, t152 := 0, t283 := 0, t284 := 0, t285 := false, t306 := 0, t511 := 0, t724 := 0, t725 := 0, t726 := false }

/-- What is left of the results. -/
def res (K : Int → Heap → Prop) (s : St) (h1 : Heap) : Prop := K s.t4 h1

/-- The call of 'pub-pemmican/pub/compress/s2.s2Decode'. -/
theorem calls (x_dst : Sl) (x_src : Sl) (h : Heap) (K : Int → Heap → Prop)
    (H : stm (init x_dst x_src) h (endK (res K))) : c_s2Decode x_dst x_src h K := by
  have hc : CallsH Pg 59 #[(.slice x_dst.p x_dst.n x_dst.c), (.slice x_src.p x_src.n x_src.c)] h fun v h1 => asI .i64 v fun n1 => K n1 h1 :=
    callsH_of_sim (R := p0) (fn := Tryd.f59) (c := Tryd.f59.body.getD .skip) Tryd.func59 rfl Tryd.ntmps59 Tryd.call59 sim (init x_dst x_src) (⟨rfl, rfl, trivial⟩) (Nat.le_of_ble_eq_true rfl) (fun _ => ⟨rfl, trivial⟩) rfl
      (res K) (fun _ _ => by kernel_rfl) H
  refine hc.mono ?_
  intro v hp H
  obtain ⟨n1, rfl, h1⟩ := asI_elim H
  exact ⟨_, rfl, h1⟩

end M_s2Decode

end Go.Proofs.YtibleenkgmkpmaaDoor

namespace Go.Proofs.YtibleenkgmkpmaaDoor
open Go Go.Vc Go.Proofs

namespace M_Decode

structure St where
  x_dst : Sl
  x_src : Sl
  t4 : Sl
  t5 : Value
  x_dLen : Int
  x_s : Int
  x_err : Value

def p0 : Pt St where
  env s := [(4, (.slice s.t4.p s.t4.n s.t4.c)), (5, s.t5)]
  fin e s K := vS e 4 fun p1 n1 c1 => getV e 5 fun v2 => K { s with t4 := ⟨p1, n1, c1⟩, t5 := v2 }
  ok := by
    intro e s K h0
    obtain ⟨p1, n1, c1, g1, h2⟩ := gS h0
    obtain ⟨w2, g2, h3⟩ := getV_elim h2
    exact ⟨_, ⟨g1, g2, trivial⟩, h3⟩

def p1 : Pt St where
  env s := [(0, (.slice s.x_dst.p s.x_dst.n s.x_dst.c)), (1, (.slice s.x_src.p s.x_src.n s.x_src.c))]
  fin e s K := vS e 0 fun p1 n1 c1 => vS e 1 fun p2 n2 c2 => K { s with x_dst := ⟨p1, n1, c1⟩, x_src := ⟨p2, n2, c2⟩ }
  ok := by
    intro e s K h0
    obtain ⟨p1, n1, c1, g1, h2⟩ := gS h0
    obtain ⟨p2, n2, c2, g2, h4⟩ := gS h2
    exact ⟨_, ⟨g1, g2, trivial⟩, h4⟩

def p2 : Pt St where
  env s := [(0, (.slice s.x_dst.p s.x_dst.n s.x_dst.c)), (1, (.slice s.x_src.p s.x_src.n s.x_src.c)), (6, (.int .i64 s.x_dLen)), (7, (.int .i64 s.x_s)), (8, s.x_err)]
  fin e s K := vS e 0 fun p1 n1 c1 => vS e 1 fun p2 n2 c2 => vI e 6 .i64 fun n3 => vI e 7 .i64 fun n4 => getV e 8 fun v5 => K { s with x_dst := ⟨p1, n1, c1⟩, x_src := ⟨p2, n2, c2⟩, x_dLen := n3, x_s := n4, x_err := v5 }
  ok := by
    intro e s K h0
    obtain ⟨p1, n1, c1, g1, h2⟩ := gS h0
    obtain ⟨p2, n2, c2, g2, h4⟩ := gS h2
    obtain ⟨n3, g3, h6⟩ := gI h4
    obtain ⟨n4, g4, h8⟩ := gI h6
    obtain ⟨w5, g5, h9⟩ := getV_elim h8
    exact ⟨_, ⟨g1, g2, g3, g4, g5, trivial⟩, h9⟩

def p3 : Pt St where
  env s := [(0, (.slice s.x_dst.p s.x_dst.n s.x_dst.c)), (1, (.slice s.x_src.p s.x_src.n s.x_src.c)), (6, (.int .i64 s.x_dLen)), (7, (.int .i64 s.x_s))]
  fin e s K := vS e 0 fun p1 n1 c1 => vS e 1 fun p2 n2 c2 => vI e 6 .i64 fun n3 => vI e 7 .i64 fun n4 => K { s with x_dst := ⟨p1, n1, c1⟩, x_src := ⟨p2, n2, c2⟩, x_dLen := n3, x_s := n4 }
  ok := by
    intro e s K h0
    obtain ⟨p1, n1, c1, g1, h2⟩ := gS h0
    obtain ⟨p2, n2, c2, g2, h4⟩ := gS h2
    obtain ⟨n3, g3, h6⟩ := gI h4
    obtain ⟨n4, g4, h8⟩ := gI h6
    exact ⟨_, ⟨g1, g2, g3, g4, trivial⟩, h8⟩

def p4 : Pt St where
  env s := [(0, (.slice s.x_dst.p s.x_dst.n s.x_dst.c)), (1, (.slice s.x_src.p s.x_src.n s.x_src.c)), (7, (.int .i64 s.x_s))]
  fin e s K := vS e 0 fun p1 n1 c1 => vS e 1 fun p2 n2 c2 => vI e 7 .i64 fun n3 => K { s with x_dst := ⟨p1, n1, c1⟩, x_src := ⟨p2, n2, c2⟩, x_s := n3 }
  ok := by
    intro e s K h0
    obtain ⟨p1, n1, c1, g1, h2⟩ := gS h0
    obtain ⟨p2, n2, c2, g2, h4⟩ := gS h2
    obtain ⟨n3, g3, h6⟩ := gI h4
    exact ⟨_, ⟨g1, g2, g3, trivial⟩, h6⟩

def p5 : Pt St where
  env s := [(0, (.slice s.x_dst.p s.x_dst.n s.x_dst.c))]
  fin e s K := vS e 0 fun p1 n1 c1 => K { s with x_dst := ⟨p1, n1, c1⟩ }
  ok := by
    intro e s K h0
    obtain ⟨p1, n1, c1, g1, h2⟩ := gS h0
    exact ⟨_, ⟨g1, trivial⟩, h2⟩

def r0 (s : St) (h : Heap) (Q : St → Heap → Prop) : Prop :=
  Q s h

def r1 (s : St) (h : Heap) (Q : St → Heap → Prop) : Prop :=
  c_decodedLen s.x_src h fun r2 r3 u4 h1 =>
  Q { s with x_dLen := r2, x_s := r3, x_err := u4 } h1

def r2 (s : St) (h : Heap) (Q : Bool → St → Heap → Prop) : Prop :=
  nilE s.x_err fun b1 =>
  Q (!b1) s h

def r3 (s : St) (h : Heap) (Q : St → Heap → Prop) : Prop :=
  Q { s with t4 := ⟨none, 0, 0⟩, t5 := s.x_err } h

def r4 (s : St) (h : Heap) (Q : Bool → St → Heap → Prop) : Prop :=
  Q (decide (s.x_dLen ≤ ((s.x_dst.c : Nat) : Int))) s h

def r5 (s : St) (h : Heap) (Q : St → Heap → Prop) : Prop :=
  0 ≤ s.x_dLen ∧ s.x_dLen ≤ ((s.x_dst.c : Nat) : Int) ∧
  Q { s with x_dst := ⟨(subP s.x_dst.p 0 s.x_dst.c 1), ((Int.toNat s.x_dLen) - 0), (s.x_dst.c - 0)⟩ } h

def r6 (s : St) (h : Heap) (Q : St → Heap → Prop) : Prop :=
  mkT Pg 5 s.x_dLen s.x_dLen h fun a1 n2 c3 h4 =>
  Q { s with x_dst := ⟨(some a1), n2, c3⟩ } h4

def r7 (s : St) (h : Heap) (Q : St → Heap → Prop) : Prop :=
  c_WriteSlice s.x_dst h fun h1 =>
  Q s h1

def r8 (s : St) (h : Heap) (Q : St → Heap → Prop) : Prop :=
  0 ≤ s.x_s ∧ s.x_s ≤ ((s.x_src.n : Nat) : Int) ∧
  c_ReadSlice ⟨(subP s.x_src.p (Int.toNat s.x_s) s.x_src.c 1), (s.x_src.n - (Int.toNat s.x_s)), (s.x_src.c - (Int.toNat s.x_s))⟩ h fun h1 =>
  Q s h1

def r9 (s : St) (h : Heap) (Q : Bool → St → Heap → Prop) : Prop :=
  0 ≤ s.x_s ∧ s.x_s ≤ ((s.x_src.n : Nat) : Int) ∧
  c_s2Decode s.x_dst ⟨(subP s.x_src.p (Int.toNat s.x_s) s.x_src.c 1), (s.x_src.n - (Int.toNat s.x_s)), (s.x_src.c - (Int.toNat s.x_s))⟩ h fun r2 h1 =>
  Q (r2 != (0 : Int)) s h1

def r10 (s : St) (h : Heap) (Q : St → Heap → Prop) : Prop :=
  ∃ u1 : Value, hcell h ⟨0, 0, none⟩ = some u1 ∧
  Q { s with t4 := ⟨none, 0, 0⟩, t5 := u1 } h

def r11 (s : St) (h : Heap) (Q : St → Heap → Prop) : Prop :=
  Q { s with t4 := s.x_dst, t5 := .nilIface } h

def k5 : Stm St := (.seq (.test r9 (.seq (.reg r10) .ret) .skip) (.seq (.reg r11) .ret))
def k4 : Stm St := (.seq (.reg r8) k5)
def k3 : Stm St := (.seq (.reg r7) k4)
def k2 : Stm St := (.seq (.test r4 (.reg r5) (.reg r6)) k3)
def k1 : Stm St := (.seq (.test r2 (.seq (.reg r3) .ret) .skip) k2)
def k0 : Stm St := (.seq (.reg r1) k1)

def stm : Stm St := (.seq (.reg r0) k0)

def ex : Ex → Pt St := fun _ => p0

set_option maxRecDepth 100000 in
theorem sim : Sim Pg 41 p1 (Tryd.f37.body.getD .skip) stm p0 ex :=
  (Sim.seq (Sim.reg (A := p1) (B := p1) (fun _ _ _ => by kernel_rfl))
  (Sim.seq (Sim.reg (A := p1) (B := p2) (fun _ _ _ => by kernel_rfl))
  (Sim.seq (Sim.test (A := p2) (B := p2) (fun _ _ _ => by kernel_rfl) (Sim.seq (Sim.reg (A := p2) (B := p0) (fun _ _ _ => by kernel_rfl))
  (Sim.ret (A := p0) (E := ex) (fun _ => ⟨rfl, rfl, trivial⟩)))
  (Sim.weak (B := p2) (C := p3) (Sim.skip (A := p2)) (fun _ => ⟨rfl, rfl, rfl, rfl, trivial⟩)))
  (Sim.seq (Sim.test (A := p3) (B := p3) (fun _ _ _ => by kernel_rfl) (Sim.reg (A := p3) (B := p4) (fun _ _ _ => by kernel_rfl))
  (Sim.reg (A := p3) (B := p4) (fun _ _ _ => by kernel_rfl)))
  (Sim.seq (Sim.reg (A := p4) (B := p4) (fun _ _ _ => by kernel_rfl))
  (Sim.seq (Sim.reg (A := p4) (B := p4) (fun _ _ _ => by kernel_rfl))
  (Sim.seq (Sim.test (A := p4) (B := p5) (fun _ _ _ => by kernel_rfl) (Sim.seq (Sim.reg (A := p5) (B := p0) (fun _ _ _ => by kernel_rfl))
  (Sim.ret (A := p0) (E := ex) (fun _ => ⟨rfl, rfl, trivial⟩)))
  (Sim.skip (A := p5)))
  (Sim.seq (Sim.reg (A := p5) (B := p0) (fun _ _ _ => by kernel_rfl))
  (Sim.ret (A := p0) (E := ex) (fun _ => ⟨rfl, rfl, trivial⟩))))))))))

def init (x_dst : Sl) (x_src : Sl) : St := { x_dst := x_dst, x_src := x_src, t4 := Sl.nil, t5 := undef, x_dLen := 0, x_s := 0, x_err := undef }

/-- What is left of the results. -/
def res (K : Sl → Value → Heap → Prop) (s : St) (h1 : Heap) : Prop := K s.t4 s.t5 h1

/-- The call of 'pub-pemmican/pub/compress/s2.Decode'. -/
theorem calls (x_dst : Sl) (x_src : Sl) (h : Heap) (K : Sl → Value → Heap → Prop)
    (H : stm (init x_dst x_src) h (endK (res K))) : c_Decode x_dst x_src h K := by
  have hc : CallsH Pg 37 #[(.slice x_dst.p x_dst.n x_dst.c), (.slice x_src.p x_src.n x_src.c)] h fun v h1 => asT v fun l1 => asC l1 fun v1 l2 => asS v1 fun p1 n1 c1 => asC l2 fun v2 l3 => asN l3 (K ⟨p1, n1, c1⟩ v2 h1) :=
    callsH_of_sim (R := p0) (fn := Tryd.f37) (c := Tryd.f37.body.getD .skip) Tryd.func37 rfl Tryd.ntmps37 Tryd.call37 sim (init x_dst x_src) (⟨rfl, rfl, trivial⟩) (Nat.le_of_ble_eq_true rfl) (fun _ => ⟨rfl, rfl, trivial⟩) rfl
      (res K) (fun _ _ => by kernel_rfl) H
  refine hc.mono ?_
  intro v hp H
  obtain ⟨l1, rfl, h1⟩ := asT_elim H
  obtain ⟨v1, l2, rfl, h2⟩ := asC_elim h1
  obtain ⟨p1, n1, c1, rfl, h3⟩ := asS_elim h2
  obtain ⟨v2, l3, rfl, h4⟩ := asC_elim h3
  obtain ⟨rfl, h5⟩ := asN_elim h4
  exact ⟨_, _, _, _, rfl, h5⟩

end M_Decode

end Go.Proofs.YtibleenkgmkpmaaDoor

namespace Go.Proofs.YtibleenkgmkpmaaDoor
open Go Go.Vc Go.Proofs

namespace M_WriteSlice

structure St where
  x_s : Sl

def p0 : Pt St where
  env s := []
  fin e s K := K s
  ok := by
    intro e s K h0
    exact ⟨_, trivial, h0⟩

def stm : Stm St := .skip

def ex : Ex → Pt St := fun _ => p0

set_option maxRecDepth 100000 in
theorem sim : Sim Pg 2 p0 (Tryd.f57.body.getD .skip) stm p0 ex :=
  (Sim.skip (A := p0))

def init (x_s : Sl) : St := { x_s := x_s }

/-- What is left of the results. -/
def res (K : Heap → Prop) (s : St) (h1 : Heap) : Prop := K h1

/-- The call of 'pub-pemmican/pub/compress/inner/race.WriteSlice[byte]'. -/
theorem calls (x_s : Sl) (h : Heap) (K : Heap → Prop)
    (H : stm (init x_s) h (endK (res K))) : c_WriteSlice x_s h K := by
  have hc : CallsH Pg 57 #[(.slice x_s.p x_s.n x_s.c)] h fun v h1 => asT v fun l1 => asN l1 (K h1) :=
    callsH_of_sim (R := p0) (fn := Tryd.f57) (c := Tryd.f57.body.getD .skip) Tryd.func57 rfl Tryd.ntmps57 Tryd.call57 sim (init x_s) (trivial) (Nat.le_of_ble_eq_true rfl) (fun _ => trivial) rfl
      (res K) (fun _ _ => by kernel_rfl) H
  refine hc.mono ?_
  intro v hp H
  obtain ⟨l1, rfl, h1⟩ := asT_elim H
  obtain ⟨rfl, h2⟩ := asN_elim h1
  exact ⟨rfl, h2⟩

end M_WriteSlice

end Go.Proofs.YtibleenkgmkpmaaDoor

namespace Go.Proofs.YtibleenkgmkpmaaDoor
open Go Go.Vc Go.Proofs

namespace M_ReadSlice

structure St where
  x_s : Sl

def p0 : Pt St where
  env s := []
  fin e s K := K s
  ok := by
    intro e s K h0
    exact ⟨_, trivial, h0⟩

def stm : Stm St := .skip

def ex : Ex → Pt St := fun _ => p0

set_option maxRecDepth 100000 in
theorem sim : Sim Pg 2 p0 (Tryd.f58.body.getD .skip) stm p0 ex :=
  (Sim.skip (A := p0))

def init (x_s : Sl) : St := { x_s := x_s }

/-- What is left of the results. -/
def res (K : Heap → Prop) (s : St) (h1 : Heap) : Prop := K h1

/-- The call of 'pub-pemmican/pub/compress/inner/race.ReadSlice[byte]'. -/
theorem calls (x_s : Sl) (h : Heap) (K : Heap → Prop)
    (H : stm (init x_s) h (endK (res K))) : c_ReadSlice x_s h K := by
  have hc : CallsH Pg 58 #[(.slice x_s.p x_s.n x_s.c)] h fun v h1 => asT v fun l1 => asN l1 (K h1) :=
    callsH_of_sim (R := p0) (fn := Tryd.f58) (c := Tryd.f58.body.getD .skip) Tryd.func58 rfl Tryd.ntmps58 Tryd.call58 sim (init x_s) (trivial) (Nat.le_of_ble_eq_true rfl) (fun _ => trivial) rfl
      (res K) (fun _ _ => by kernel_rfl) H
  refine hc.mono ?_
  intro v hp H
  obtain ⟨l1, rfl, h1⟩ := asT_elim H
  obtain ⟨rfl, h2⟩ := asN_elim h1
  exact ⟨rfl, h2⟩

end M_ReadSlice

end Go.Proofs.YtibleenkgmkpmaaDoor

namespace Go.Proofs.YtibleenkgmkpmaaDoor
open Go Go.Vc Go.Proofs

namespace M_impl_S2Decode

structure St where
  x_src : Sl
  t2 : Sl
  t3 : Bool

def p0 : Pt St where
  env s := [(2, (.slice s.t2.p s.t2.n s.t2.c)), (3, (.bool s.t3))]
  fin e s K := vS e 2 fun p1 n1 c1 => vB e 3 fun b1 => K { s with t2 := ⟨p1, n1, c1⟩, t3 := b1 }
  ok := by
    intro e s K h0
    obtain ⟨p1, n1, c1, g1, h2⟩ := gS h0
    obtain ⟨b1, g2, h4⟩ := gB h2
    exact ⟨_, ⟨g1, g2, trivial⟩, h4⟩

def p1 : Pt St where
  env s := [(0, (.slice s.x_src.p s.x_src.n s.x_src.c))]
  fin e s K := vS e 0 fun p1 n1 c1 => K { s with x_src := ⟨p1, n1, c1⟩ }
  ok := by
    intro e s K h0
    obtain ⟨p1, n1, c1, g1, h2⟩ := gS h0
    exact ⟨_, ⟨g1, trivial⟩, h2⟩

def r0 (s : St) (h : Heap) (Q : St → Heap → Prop) : Prop :=
  Q s h

def r1 (s : St) (h : Heap) (Q : St → Heap → Prop) : Prop :=
  c_Decode ⟨none, 0, 0⟩ s.x_src h fun w2 u3 h1 =>
  c_impl_told w2 u3 h1 fun w5 b6 h4 =>
  Q { s with t2 := w5, t3 := b6 } h4

def stm : Stm St := (.seq (.reg r0) (.seq (.reg r1) .ret))

def ex : Ex → Pt St := fun _ => p0

set_option maxRecDepth 100000 in
theorem sim : Sim Pg 11 p1 (Tryd.f14.body.getD .skip) stm p0 ex :=
  (Sim.seq (Sim.reg (A := p1) (B := p1) (fun _ _ _ => by kernel_rfl))
  (Sim.seq (Sim.reg (A := p1) (B := p0) (fun _ _ _ => by kernel_rfl))
  (Sim.ret (A := p0) (E := ex) (fun _ => ⟨rfl, rfl, trivial⟩))))

def init (x_src : Sl) : St := { x_src := x_src, t2 := Sl.nil, t3 := false }

/-- What is left of the results. -/
def res (K : Sl → Bool → Heap → Prop) (s : St) (h1 : Heap) : Prop := K s.t2 s.t3 h1

/-- The call of 'pub-pemmican/impl.S2Decode'. -/
theorem calls (x_src : Sl) (h : Heap) (K : Sl → Bool → Heap → Prop)
    (H : stm (init x_src) h (endK (res K))) : c_impl_S2Decode x_src h K := by
  have hc : CallsH Pg 14 #[(.slice x_src.p x_src.n x_src.c)] h fun v h1 => asT v fun l1 => asC l1 fun v1 l2 => asS v1 fun p1 n1 c1 => asC l2 fun v2 l3 => asB v2 fun b1 => asN l3 (K ⟨p1, n1, c1⟩ b1 h1) :=
    callsH_of_sim (R := p0) (fn := Tryd.f14) (c := Tryd.f14.body.getD .skip) Tryd.func14 rfl Tryd.ntmps14 Tryd.call14 sim (init x_src) (⟨rfl, trivial⟩) (Nat.le_of_ble_eq_true rfl) (fun _ => ⟨rfl, rfl, trivial⟩) rfl
      (res K) (fun _ _ => by kernel_rfl) H
  refine hc.mono ?_
  intro v hp H
  obtain ⟨l1, rfl, h1⟩ := asT_elim H
  obtain ⟨v1, l2, rfl, h2⟩ := asC_elim h1
  obtain ⟨p1, n1, c1, rfl, h3⟩ := asS_elim h2
  obtain ⟨v2, l3, rfl, h4⟩ := asC_elim h3
  obtain ⟨b1, rfl, h5⟩ := asB_elim h4
  obtain ⟨rfl, h6⟩ := asN_elim h5
  exact ⟨_, _, _, _, rfl, h6⟩

end M_impl_S2Decode

end Go.Proofs.YtibleenkgmkpmaaDoor

namespace Go.Proofs.YtibleenkgmkpmaaDoor
open Go Go.Vc Go.Proofs

namespace M_impl_told

structure St where
  x_b : Sl
  x_err : Value
  t4 : Sl
  t5 : Bool

def p0 : Pt St where
  env s := [(4, (.slice s.t4.p s.t4.n s.t4.c)), (5, (.bool s.t5))]
  fin e s K := vS e 4 fun p1 n1 c1 => vB e 5 fun b1 => K { s with t4 := ⟨p1, n1, c1⟩, t5 := b1 }
  ok := by
    intro e s K h0
    obtain ⟨p1, n1, c1, g1, h2⟩ := gS h0
    obtain ⟨b1, g2, h4⟩ := gB h2
    exact ⟨_, ⟨g1, g2, trivial⟩, h4⟩

def p1 : Pt St where
  env s := [(0, (.slice s.x_b.p s.x_b.n s.x_b.c)), (1, s.x_err)]
  fin e s K := vS e 0 fun p1 n1 c1 => getV e 1 fun v2 => K { s with x_b := ⟨p1, n1, c1⟩, x_err := v2 }
  ok := by
    intro e s K h0
    obtain ⟨p1, n1, c1, g1, h2⟩ := gS h0
    obtain ⟨w2, g2, h3⟩ := getV_elim h2
    exact ⟨_, ⟨g1, g2, trivial⟩, h3⟩

def p2 : Pt St where
  env s := [(0, (.slice s.x_b.p s.x_b.n s.x_b.c))]
  fin e s K := vS e 0 fun p1 n1 c1 => K { s with x_b := ⟨p1, n1, c1⟩ }
  ok := by
    intro e s K h0
    obtain ⟨p1, n1, c1, g1, h2⟩ := gS h0
    exact ⟨_, ⟨g1, trivial⟩, h2⟩

def r0 (s : St) (h : Heap) (Q : St → Heap → Prop) : Prop :=
  Q s h

def r1 (s : St) (h : Heap) (Q : Bool → St → Heap → Prop) : Prop :=
  nilE s.x_err fun b1 =>
  Q (!b1) s h

def r2 (s : St) (h : Heap) (Q : St → Heap → Prop) : Prop :=
  Q { s with t4 := ⟨none, 0, 0⟩, t5 := false } h

def r3 (s : St) (h : Heap) (Q : St → Heap → Prop) : Prop :=
  c_impl_copied s.x_b h fun w2 h1 =>
  Q { s with t4 := w2, t5 := true } h1

def k0 : Stm St := (.seq (.test r1 (.seq (.reg r2) .ret) .skip) (.seq (.reg r3) .ret))

def stm : Stm St := (.seq (.reg r0) k0)

def ex : Ex → Pt St := fun _ => p0

set_option maxRecDepth 100000 in
theorem sim : Sim Pg 10 p1 (Tryd.f36.body.getD .skip) stm p0 ex :=
  (Sim.seq (Sim.reg (A := p1) (B := p1) (fun _ _ _ => by kernel_rfl))
  (Sim.seq (Sim.test (A := p1) (B := p2) (fun _ _ _ => by kernel_rfl) (Sim.seq (Sim.reg (A := p2) (B := p0) (fun _ _ _ => by kernel_rfl))
  (Sim.ret (A := p0) (E := ex) (fun _ => ⟨rfl, rfl, trivial⟩)))
  (Sim.skip (A := p2)))
  (Sim.seq (Sim.reg (A := p2) (B := p0) (fun _ _ _ => by kernel_rfl))
  (Sim.ret (A := p0) (E := ex) (fun _ => ⟨rfl, rfl, trivial⟩)))))

def init (x_b : Sl) (x_err : Value) : St := { x_b := x_b, x_err := x_err, t4 := Sl.nil, t5 := false }

/-- What is left of the results. -/
def res (K : Sl → Bool → Heap → Prop) (s : St) (h1 : Heap) : Prop := K s.t4 s.t5 h1

/-- The call of 'pub-pemmican/impl.told'. -/
theorem calls (x_b : Sl) (x_err : Value) (h : Heap) (K : Sl → Bool → Heap → Prop)
    (H : stm (init x_b x_err) h (endK (res K))) : c_impl_told x_b x_err h K := by
  have hc : CallsH Pg 36 #[(.slice x_b.p x_b.n x_b.c), x_err] h fun v h1 => asT v fun l1 => asC l1 fun v1 l2 => asS v1 fun p1 n1 c1 => asC l2 fun v2 l3 => asB v2 fun b1 => asN l3 (K ⟨p1, n1, c1⟩ b1 h1) :=
    callsH_of_sim (R := p0) (fn := Tryd.f36) (c := Tryd.f36.body.getD .skip) Tryd.func36 rfl Tryd.ntmps36 Tryd.call36 sim (init x_b x_err) (⟨rfl, rfl, trivial⟩) (Nat.le_of_ble_eq_true rfl) (fun _ => ⟨rfl, rfl, trivial⟩) rfl
      (res K) (fun _ _ => by kernel_rfl) H
  refine hc.mono ?_
  intro v hp H
  obtain ⟨l1, rfl, h1⟩ := asT_elim H
  obtain ⟨v1, l2, rfl, h2⟩ := asC_elim h1
  obtain ⟨p1, n1, c1, rfl, h3⟩ := asS_elim h2
  obtain ⟨v2, l3, rfl, h4⟩ := asC_elim h3
  obtain ⟨b1, rfl, h5⟩ := asB_elim h4
  obtain ⟨rfl, h6⟩ := asN_elim h5
  exact ⟨_, _, _, _, rfl, h6⟩

end M_impl_told

end Go.Proofs.YtibleenkgmkpmaaDoor

namespace Go.Proofs.YtibleenkgmkpmaaDoor
open Go Go.Vc Go.Proofs

namespace M_laws_copied

structure St where
  x_text : Sl
  x_offset : Int
  x_length : Int
  t6 : Sl
  x_out : Sl
  t10 : Int
  t11 : Int
  t12 : Bool

def p0 : Pt St where
  env s := [(6, (.slice s.t6.p s.t6.n s.t6.c))]
  fin e s K := vS e 6 fun p1 n1 c1 => K { s with t6 := ⟨p1, n1, c1⟩ }
  ok := by
    intro e s K h0
    obtain ⟨p1, n1, c1, g1, h2⟩ := gS h0
    exact ⟨_, ⟨g1, trivial⟩, h2⟩

def p1 : Pt St where
  env s := [(0, (.slice s.x_text.p s.x_text.n s.x_text.c)), (1, (.int .i64 s.x_offset)), (2, (.int .i64 s.x_length))]
  fin e s K := vS e 0 fun p1 n1 c1 => vI e 1 .i64 fun n2 => vI e 2 .i64 fun n3 => K { s with x_text := ⟨p1, n1, c1⟩, x_offset := n2, x_length := n3 }
  ok := by
    intro e s K h0
    obtain ⟨p1, n1, c1, g1, h2⟩ := gS h0
    obtain ⟨n2, g2, h4⟩ := gI h2
    obtain ⟨n3, g3, h6⟩ := gI h4
    exact ⟨_, ⟨g1, g2, g3, trivial⟩, h6⟩

def p2 : Pt St where
  env s := [(1, (.int .i64 s.x_offset)), (2, (.int .i64 s.x_length)), (7, (.slice s.x_out.p s.x_out.n s.x_out.c))]
  fin e s K := vI e 1 .i64 fun n1 => vI e 2 .i64 fun n2 => vS e 7 fun p1 n3 c1 => K { s with x_offset := n1, x_length := n2, x_out := ⟨p1, n3, c1⟩ }
  ok := by
    intro e s K h0
    obtain ⟨n1, g1, h2⟩ := gI h0
    obtain ⟨n2, g2, h4⟩ := gI h2
    obtain ⟨p1, n3, c1, g3, h6⟩ := gS h4
    exact ⟨_, ⟨g1, g2, g3, trivial⟩, h6⟩

def p3 : Pt St where
  env s := [(1, (.int .i64 s.x_offset)), (7, (.slice s.x_out.p s.x_out.n s.x_out.c)), (10, (.int .i64 s.t10)), (11, (.int .i64 s.t11))]
  fin e s K := vI e 1 .i64 fun n1 => vS e 7 fun p1 n2 c1 => vI e 10 .i64 fun n3 => vI e 11 .i64 fun n4 => K { s with x_offset := n1, x_out := ⟨p1, n2, c1⟩, t10 := n3, t11 := n4 }
  ok := by
    intro e s K h0
    obtain ⟨n1, g1, h2⟩ := gI h0
    obtain ⟨p1, n2, c1, g2, h4⟩ := gS h2
    obtain ⟨n3, g3, h6⟩ := gI h4
    obtain ⟨n4, g4, h8⟩ := gI h6
    exact ⟨_, ⟨g1, g2, g3, g4, trivial⟩, h8⟩

def p4 : Pt St where
  env s := [(7, (.slice s.x_out.p s.x_out.n s.x_out.c))]
  fin e s K := vS e 7 fun p1 n1 c1 => K { s with x_out := ⟨p1, n1, c1⟩ }
  ok := by
    intro e s K h0
    obtain ⟨p1, n1, c1, g1, h2⟩ := gS h0
    exact ⟨_, ⟨g1, trivial⟩, h2⟩

def p5 : Pt St where
  env s := [(1, (.int .i64 s.x_offset)), (7, (.slice s.x_out.p s.x_out.n s.x_out.c)), (10, (.int .i64 s.t10)), (11, (.int .i64 s.t11)), (12, (.bool s.t12))]
  fin e s K := vI e 1 .i64 fun n1 => vS e 7 fun p1 n2 c1 => vI e 10 .i64 fun n3 => vI e 11 .i64 fun n4 => vB e 12 fun b1 => K { s with x_offset := n1, x_out := ⟨p1, n2, c1⟩, t10 := n3, t11 := n4, t12 := b1 }
  ok := by
    intro e s K h0
    obtain ⟨n1, g1, h2⟩ := gI h0
    obtain ⟨p1, n2, c1, g2, h4⟩ := gS h2
    obtain ⟨n3, g3, h6⟩ := gI h4
    obtain ⟨n4, g4, h8⟩ := gI h6
    obtain ⟨b1, g5, h10⟩ := gB h8
    exact ⟨_, ⟨g1, g2, g3, g4, g5, trivial⟩, h10⟩

def r0 (s : St) (h : Heap) (Q : St → Heap → Prop) : Prop :=
  Q s h

def r1 (s : St) (h : Heap) (Q : St → Heap → Prop) : Prop :=
  c_laws_join s.x_text ⟨none, 0, 0⟩ h fun w2 h1 =>
  Q { s with x_out := w2 } h1

def r2 (s : St) (h : Heap) (Q : St → Heap → Prop) : Prop :=
  Q { s with t10 := s.x_length, t11 := (0 : Int) } h

def r3 (s : St) (h : Heap) (Q : St → Heap → Prop) : Prop :=
  Q { s with t12 := (decide (s.t11 < s.t10)) } h

def r4 (s : St) (h : Heap) (Q : St → Heap → Prop) : Prop :=
  0 ≤ (IntKind.wrap .i64 (((s.x_out.n : Nat) : Int) - s.x_offset)) ∧ (IntKind.wrap .i64 (((s.x_out.n : Nat) : Int) - s.x_offset)) < ((s.x_out.n : Nat) : Int) ∧
  ptrE s.x_out.p fun a1 =>
  ∃ v2 : Int, hcell h (Addr.add a1 (Int.toNat (IntKind.wrap .i64 (((s.x_out.n : Nat) : Int) - s.x_offset)) * 1)) = some (.int .u8 v2) ∧
  withH (hnew h [(.int .u8 v2)] 5) fun h3 =>
  appendT Pg 5 s.x_out.p s.x_out.n s.x_out.c (.slice (some ⟨Array.size h, 0, none⟩) 1 1) 1 h3 fun p4 n5 c6 h7 =>
  Q { s with x_out := ⟨p4, n5, c6⟩ } h7

def r5 (s : St) (h : Heap) (Q : St → Heap → Prop) : Prop :=
  Q { s with t11 := (IntKind.wrap .i64 (s.t11 + (1 : Int))) } h

def r6 (s : St) (h : Heap) (Q : St → Heap → Prop) : Prop :=
  Q { s with t6 := s.x_out } h

def k5 : Stm St := (.seq (.block 1 (.reg r4)) (.reg r5))
def k4 : Stm St := (.seq (.cond (fun s => s.t12) .skip (.exit 0)) k5)
def k3 : Stm St := (.seq (.reg r3) k4)
def k2 : Stm St := (.block 0 (.loop k3))
def k1 : Stm St := (.seq (.seq (.reg r2) k2) (.seq (.reg r6) .ret))
def k0 : Stm St := (.seq (.reg r1) k1)

def stm : Stm St := (.seq (.reg r0) k0)

def ex : Ex → Pt St := fun _ => p0

set_option maxRecDepth 100000 in
theorem sim : Sim Pg 25 p1 (Tryd.f22.body.getD .skip) stm p0 ex :=
  (Sim.seq (Sim.reg (A := p1) (B := p1) (fun _ _ _ => by kernel_rfl))
  (Sim.seq (Sim.reg (A := p1) (B := p2) (fun _ _ _ => by kernel_rfl))
  (Sim.seq (Sim.seq (Sim.reg (A := p2) (B := p3) (fun _ _ _ => by kernel_rfl))
  (Sim.block (B := p4) (Sim.loop (A := p3) (Sim.seq (Sim.reg (A := p3) (B := p5) (fun _ _ _ => by kernel_rfl))
  (Sim.seq (Sim.cond (A := p5) (fun s => s.t12) (fun _ => rfl) (Sim.weak (B := p5) (C := p3) (Sim.skip (A := p5)) (fun _ => ⟨rfl, rfl, rfl, rfl, trivial⟩))
  (Sim.exit (A := p5) (fun _ => ⟨rfl, trivial⟩)))
  (Sim.seq (Sim.block (B := p3) (Sim.reg (A := p3) (B := p3) (fun _ _ _ => by kernel_rfl)))
  (Sim.reg (A := p3) (B := p3) (fun _ _ _ => by kernel_rfl))))))))
  (Sim.seq (Sim.reg (A := p4) (B := p0) (fun _ _ _ => by kernel_rfl))
  (Sim.ret (A := p0) (E := ex) (fun _ => ⟨rfl, trivial⟩))))))

def init (x_text : Sl) (x_offset : Int) (x_length : Int) : St := { x_text := x_text, x_offset := x_offset, x_length := x_length, t6 := Sl.nil, x_out := Sl.nil, t10 := 0, t11 := 0, t12 := false }

/-- What is left of the results. -/
def res (K : Sl → Heap → Prop) (s : St) (h1 : Heap) : Prop := K s.t6 h1

/-- The call of 'pub-pemmican/laws.copied'. -/
theorem calls (x_text : Sl) (x_offset : Int) (x_length : Int) (h : Heap) (K : Sl → Heap → Prop)
    (H : stm (init x_text x_offset x_length) h (endK (res K))) : c_laws_copied x_text x_offset x_length h K := by
  have hc : CallsH Pg 22 #[(.slice x_text.p x_text.n x_text.c), (.int .i64 x_offset), (.int .i64 x_length)] h fun v h1 => asS v fun p1 n1 c1 => K ⟨p1, n1, c1⟩ h1 :=
    callsH_of_sim (R := p0) (fn := Tryd.f22) (c := Tryd.f22.body.getD .skip) Tryd.func22 rfl Tryd.ntmps22 Tryd.call22 sim (init x_text x_offset x_length) (⟨rfl, rfl, rfl, trivial⟩) (Nat.le_of_ble_eq_true rfl) (fun _ => ⟨rfl, trivial⟩) rfl
      (res K) (fun _ _ => by kernel_rfl) H
  refine hc.mono ?_
  intro v hp H
  obtain ⟨p1, n1, c1, rfl, h1⟩ := asS_elim H
  exact ⟨_, _, _, rfl, h1⟩

end M_laws_copied

end Go.Proofs.YtibleenkgmkpmaaDoor

namespace Go.Proofs.YtibleenkgmkpmaaDoor
open Go Go.Vc Go.Proofs

namespace M_laws_zzFits6

structure St where
  x_x : Sl
  t2 : Bool
  x_v : Option Addr
  t8 : Sl
  t9 : Int
  t10 : Int
  t11 : Bool

def p0 : Pt St where
  env s := [(2, (.bool s.t2))]
  fin e s K := vB e 2 fun b1 => K { s with t2 := b1 }
  ok := by
    intro e s K h0
    obtain ⟨b1, g1, h2⟩ := gB h0
    exact ⟨_, ⟨g1, trivial⟩, h2⟩

def p1 : Pt St where
  env s := [(0, (.slice s.x_x.p s.x_x.n s.x_x.c))]
  fin e s K := vS e 0 fun p1 n1 c1 => K { s with x_x := ⟨p1, n1, c1⟩ }
  ok := by
    intro e s K h0
    obtain ⟨p1, n1, c1, g1, h2⟩ := gS h0
    exact ⟨_, ⟨g1, trivial⟩, h2⟩

def p2 : Pt St where
  env s := [(8, (.slice s.t8.p s.t8.n s.t8.c)), (9, (.int .i64 s.t9)), (10, (.int .i64 s.t10))]
  fin e s K := vS e 8 fun p1 n1 c1 => vI e 9 .i64 fun n2 => vI e 10 .i64 fun n3 => K { s with t8 := ⟨p1, n1, c1⟩, t9 := n2, t10 := n3 }
  ok := by
    intro e s K h0
    obtain ⟨p1, n1, c1, g1, h2⟩ := gS h0
    obtain ⟨n2, g2, h4⟩ := gI h2
    obtain ⟨n3, g3, h6⟩ := gI h4
    exact ⟨_, ⟨g1, g2, g3, trivial⟩, h6⟩

def p3 : Pt St where
  env s := []
  fin e s K := K s
  ok := by
    intro e s K h0
    exact ⟨_, trivial, h0⟩

def p4 : Pt St where
  env s := [(8, (.slice s.t8.p s.t8.n s.t8.c)), (9, (.int .i64 s.t9)), (10, (.int .i64 s.t10)), (11, (.bool s.t11))]
  fin e s K := vS e 8 fun p1 n1 c1 => vI e 9 .i64 fun n2 => vI e 10 .i64 fun n3 => vB e 11 fun b1 => K { s with t8 := ⟨p1, n1, c1⟩, t9 := n2, t10 := n3, t11 := b1 }
  ok := by
    intro e s K h0
    obtain ⟨p1, n1, c1, g1, h2⟩ := gS h0
    obtain ⟨n2, g2, h4⟩ := gI h2
    obtain ⟨n3, g3, h6⟩ := gI h4
    obtain ⟨b1, g4, h8⟩ := gB h6
    exact ⟨_, ⟨g1, g2, g3, g4, trivial⟩, h8⟩

def p5 : Pt St where
  env s := [(4, (.pointer s.x_v)), (8, (.slice s.t8.p s.t8.n s.t8.c)), (9, (.int .i64 s.t9)), (10, (.int .i64 s.t10))]
  fin e s K := vP e 4 fun p1 => vS e 8 fun p2 n1 c1 => vI e 9 .i64 fun n2 => vI e 10 .i64 fun n3 => K { s with x_v := p1, t8 := ⟨p2, n1, c1⟩, t9 := n2, t10 := n3 }
  ok := by
    intro e s K h0
    obtain ⟨p1, g1, h2⟩ := gP h0
    obtain ⟨p2, n1, c1, g2, h4⟩ := gS h2
    obtain ⟨n2, g3, h6⟩ := gI h4
    obtain ⟨n3, g4, h8⟩ := gI h6
    exact ⟨_, ⟨g1, g2, g3, g4, trivial⟩, h8⟩

def r0 (s : St) (h : Heap) (Q : St → Heap → Prop) : Prop :=
  Q s h

def r1 (s : St) (h : Heap) (Q : Bool → St → Heap → Prop) : Prop :=
  Q (decide (((s.x_x.n : Nat) : Int) > (2147483647 : Int))) s h

def r2 (s : St) (h : Heap) (Q : St → Heap → Prop) : Prop :=
  Q { s with t2 := false } h

def r3 (s : St) (h : Heap) (Q : St → Heap → Prop) : Prop :=
  Q { s with t8 := s.x_x, t9 := ((s.x_x.n : Nat) : Int), t10 := (0 : Int) } h

def r4 (s : St) (h : Heap) (Q : St → Heap → Prop) : Prop :=
  Q { s with t11 := (decide (s.t10 < s.t9)) } h

def r5 (s : St) (h : Heap) (Q : St → Heap → Prop) : Prop :=
  0 ≤ s.t10 ∧ s.t10 < ((s.t8.n : Nat) : Int) ∧
  ptrE s.t8.p fun a1 =>
  ∃ (p2 : Option Addr) (n3 c4 : Nat), hcell h (Addr.add (Addr.add a1 (Int.toNat s.t10 * 3)) 0) = some (.slice p2 n3 c4) ∧
  ∃ v5 : Int, hcell h (Addr.add (Addr.add a1 (Int.toNat s.t10 * 3)) 1) = some (.int .u16 v5) ∧
  ∃ v6 : Int, hcell h (Addr.add (Addr.add a1 (Int.toNat s.t10 * 3)) 2) = some (.int .u16 v6) ∧
  withH (hnew h (zcells Pg 58) 58) fun h7 =>
  st1 (Addr.add ⟨Array.size h, 0, none⟩ 0) (.slice p2 n3 c4) h7 fun h8 =>
  st1 (Addr.add ⟨Array.size h, 0, none⟩ 1) (.int .u16 v5) h8 fun h9 =>
  st1 (Addr.add ⟨Array.size h, 0, none⟩ 2) (.int .u16 v6) h9 fun h10 =>
  Q { s with x_v := (some ⟨Array.size h, 0, none⟩) } h10

def r6 (s : St) (h : Heap) (Q : Bool → St → Heap → Prop) : Prop :=
  ptrE s.x_v fun a1 =>
  ∃ (p2 : Option Addr) (n3 c4 : Nat), hcell h (Addr.add a1 0) = some (.slice p2 n3 c4) ∧
  ∃ v5 : Int, hcell h (Addr.add a1 1) = some (.int .u16 v5) ∧
  ∃ v6 : Int, hcell h (Addr.add a1 2) = some (.int .u16 v6) ∧
  c_laws_zzFits7 ⟨p2, n3, c4⟩ v5 v6 h fun b8 h7 =>
  Q (!b8) s h7

def r7 (s : St) (h : Heap) (Q : St → Heap → Prop) : Prop :=
  Q { s with t2 := false } h

def r8 (s : St) (h : Heap) (Q : St → Heap → Prop) : Prop :=
  Q { s with t10 := (IntKind.wrap .i64 (s.t10 + (1 : Int))) } h

def r9 (s : St) (h : Heap) (Q : St → Heap → Prop) : Prop :=
  Q { s with t2 := true } h

def k6 : Stm St := (.test r6 (.seq (.reg r7) .ret) .skip)
def k5 : Stm St := (.seq (.block 1 (.seq (.reg r5) k6)) (.reg r8))
def k4 : Stm St := (.seq (.cond (fun s => s.t11) .skip (.exit 0)) k5)
def k3 : Stm St := (.seq (.reg r4) k4)
def k2 : Stm St := (.block 0 (.loop k3))
def k1 : Stm St := (.seq (.seq (.reg r3) k2) (.seq (.reg r9) .ret))
def k0 : Stm St := (.seq (.test r1 (.seq (.reg r2) .ret) .skip) k1)

def stm : Stm St := (.seq (.reg r0) k0)

def ex : Ex → Pt St := fun _ => p0

set_option maxRecDepth 100000 in
theorem sim : Sim Pg 18 p1 (Tryd.f31.body.getD .skip) stm p0 ex :=
  (Sim.seq (Sim.reg (A := p1) (B := p1) (fun _ _ _ => by kernel_rfl))
  (Sim.seq (Sim.test (A := p1) (B := p1) (fun _ _ _ => by kernel_rfl) (Sim.seq (Sim.reg (A := p1) (B := p0) (fun _ _ _ => by kernel_rfl))
  (Sim.ret (A := p0) (E := ex) (fun _ => ⟨rfl, trivial⟩)))
  (Sim.skip (A := p1)))
  (Sim.seq (Sim.seq (Sim.reg (A := p1) (B := p2) (fun _ _ _ => by kernel_rfl))
  (Sim.block (B := p3) (Sim.loop (A := p2) (Sim.seq (Sim.reg (A := p2) (B := p4) (fun _ _ _ => by kernel_rfl))
  (Sim.seq (Sim.cond (A := p4) (fun s => s.t11) (fun _ => rfl) (Sim.weak (B := p4) (C := p2) (Sim.skip (A := p4)) (fun _ => ⟨rfl, rfl, rfl, trivial⟩))
  (Sim.exit (A := p4) (fun _ => trivial)))
  (Sim.seq (Sim.block (B := p2) (Sim.seq (Sim.reg (A := p2) (B := p5) (fun _ _ _ => by kernel_rfl))
  (Sim.test (A := p5) (B := p2) (fun _ _ _ => by kernel_rfl) (Sim.seq (Sim.reg (A := p2) (B := p0) (fun _ _ _ => by kernel_rfl))
  (Sim.ret (A := p0) (E := (exAt (exAt ex 0 p3) 1 p2)) (fun _ => ⟨rfl, trivial⟩)))
  (Sim.skip (A := p2)))))
  (Sim.reg (A := p2) (B := p2) (fun _ _ _ => by kernel_rfl))))))))
  (Sim.seq (Sim.reg (A := p3) (B := p0) (fun _ _ _ => by kernel_rfl))
  (Sim.ret (A := p0) (E := ex) (fun _ => ⟨rfl, trivial⟩))))))

def init (x_x : Sl) : St := { x_x := x_x, t2 := false, x_v := none, t8 := Sl.nil, t9 := 0, t10 := 0, t11 := false }

/-- What is left of the results. -/
def res (K : Bool → Heap → Prop) (s : St) (h1 : Heap) : Prop := K s.t2 h1

/-- The call of 'pub-pemmican/laws.zzFits6'. -/
theorem calls (x_x : Sl) (h : Heap) (K : Bool → Heap → Prop)
    (H : stm (init x_x) h (endK (res K))) : c_laws_zzFits6 x_x h K := by
  have hc : CallsH Pg 31 #[(.slice x_x.p x_x.n x_x.c)] h fun v h1 => asB v fun b1 => K b1 h1 :=
    callsH_of_sim (R := p0) (fn := Tryd.f31) (c := Tryd.f31.body.getD .skip) Tryd.func31 rfl Tryd.ntmps31 Tryd.call31 sim (init x_x) (⟨rfl, trivial⟩) (Nat.le_of_ble_eq_true rfl) (fun _ => ⟨rfl, trivial⟩) rfl
      (res K) (fun _ _ => by kernel_rfl) H
  refine hc.mono ?_
  intro v hp H
  obtain ⟨b1, rfl, h1⟩ := asB_elim H
  exact ⟨_, rfl, h1⟩

end M_laws_zzFits6

end Go.Proofs.YtibleenkgmkpmaaDoor

namespace Go.Proofs.YtibleenkgmkpmaaDoor
open Go Go.Vc Go.Proofs

namespace M_laws_zzFits7

structure St where
  x_x_0 : Sl
  x_x_1 : Int
  x_x_2 : Int
  x_xq1 : Option Addr
  t2 : Bool

def p0 : Pt St where
  env s := [(2, (.bool s.t2))]
  fin e s K := vB e 2 fun b1 => K { s with t2 := b1 }
  ok := by
    intro e s K h0
    obtain ⟨b1, g1, h2⟩ := gB h0
    exact ⟨_, ⟨g1, trivial⟩, h2⟩

def p1 : Pt St where
  env s := [(0, (.agg #[(.slice s.x_x_0.p s.x_x_0.n s.x_x_0.c), (.int .u16 s.x_x_1), (.int .u16 s.x_x_2)]))]
  fin e s K := getV e 0 fun v1 => asA v1 fun l1 => asC l1 fun v2 l2 => asS v2 fun p1 n1 c1 => asC l2 fun v3 l3 => asI .u16 v3 fun n2 => asC l3 fun v4 l4 => asI .u16 v4 fun n3 => asN l4 (K { s with x_x_0 := ⟨p1, n1, c1⟩, x_x_1 := n2, x_x_2 := n3 })
  ok := by
    intro e s K h0
    obtain ⟨w1, g1, h1⟩ := getV_elim h0
    obtain ⟨l1, rfl, h2⟩ := asA_elim h1
    obtain ⟨v1, l2, rfl, h3⟩ := asC_elim h2
    obtain ⟨p1, n1, c1, rfl, h4⟩ := asS_elim h3
    obtain ⟨v2, l3, rfl, h5⟩ := asC_elim h4
    obtain ⟨n2, rfl, h6⟩ := asI_elim h5
    obtain ⟨v3, l4, rfl, h7⟩ := asC_elim h6
    obtain ⟨n3, rfl, h8⟩ := asI_elim h7
    obtain ⟨rfl, h9⟩ := asN_elim h8
    exact ⟨_, ⟨g1, trivial⟩, h9⟩

def p2 : Pt St where
  env s := [(1, (.pointer s.x_xq1))]
  fin e s K := vP e 1 fun p1 => K { s with x_xq1 := p1 }
  ok := by
    intro e s K h0
    obtain ⟨p1, g1, h2⟩ := gP h0
    exact ⟨_, ⟨g1, trivial⟩, h2⟩

def p3 : Pt St where
  env s := []
  fin e s K := K s
  ok := by
    intro e s K h0
    exact ⟨_, trivial, h0⟩

def r0 (s : St) (h : Heap) (Q : St → Heap → Prop) : Prop :=
  withH (hnew h [(.slice s.x_x_0.p s.x_x_0.n s.x_x_0.c), (.int .u16 s.x_x_1), (.int .u16 s.x_x_2)] 58) fun h1 =>
  Q { s with x_xq1 := (some ⟨Array.size h, 0, none⟩) } h1

def r1 (s : St) (h : Heap) (Q : Bool → St → Heap → Prop) : Prop :=
  ptrE s.x_xq1 fun a1 =>
  ∃ (p2 : Option Addr) (n3 c4 : Nat), hcell h (Addr.add a1 0) = some (.slice p2 n3 c4) ∧
  Q (decide (((n3 : Nat) : Int) > (2147483647 : Int))) s h

def r2 (s : St) (h : Heap) (Q : St → Heap → Prop) : Prop :=
  Q { s with t2 := false } h

def r3 (s : St) (h : Heap) (Q : St → Heap → Prop) : Prop :=
  Q { s with t2 := true } h

def k0 : Stm St := (.seq (.test r1 (.seq (.reg r2) .ret) .skip) (.seq (.reg r3) .ret))

def stm : Stm St := (.seq (.reg r0) k0)

def ex : Ex → Pt St := fun _ => p0

set_option maxRecDepth 100000 in
theorem sim : Sim Pg 7 p1 (Tryd.f53.body.getD .skip) stm p0 ex :=
  (Sim.seq (Sim.reg (A := p1) (B := p2) (fun _ _ _ => by kernel_rfl))
  (Sim.seq (Sim.test (A := p2) (B := p3) (fun _ _ _ => by kernel_rfl) (Sim.seq (Sim.reg (A := p3) (B := p0) (fun _ _ _ => by kernel_rfl))
  (Sim.ret (A := p0) (E := ex) (fun _ => ⟨rfl, trivial⟩)))
  (Sim.skip (A := p3)))
  (Sim.seq (Sim.reg (A := p3) (B := p0) (fun _ _ _ => by kernel_rfl))
  (Sim.ret (A := p0) (E := ex) (fun _ => ⟨rfl, trivial⟩)))))

def init (x_x_0 : Sl) (x_x_1 : Int) (x_x_2 : Int) : St := { x_x_0 := x_x_0, x_x_1 := x_x_1, x_x_2 := x_x_2, x_xq1 := none, t2 := false }

/-- What is left of the results. -/
def res (K : Bool → Heap → Prop) (s : St) (h1 : Heap) : Prop := K s.t2 h1

/-- The call of 'pub-pemmican/laws.zzFits7'. -/
theorem calls (x_x_0 : Sl) (x_x_1 : Int) (x_x_2 : Int) (h : Heap) (K : Bool → Heap → Prop)
    (H : stm (init x_x_0 x_x_1 x_x_2) h (endK (res K))) : c_laws_zzFits7 x_x_0 x_x_1 x_x_2 h K := by
  have hc : CallsH Pg 53 #[(.agg #[(.slice x_x_0.p x_x_0.n x_x_0.c), (.int .u16 x_x_1), (.int .u16 x_x_2)])] h fun v h1 => asB v fun b1 => K b1 h1 :=
    callsH_of_sim (R := p0) (fn := Tryd.f53) (c := Tryd.f53.body.getD .skip) Tryd.func53 rfl Tryd.ntmps53 Tryd.call53 sim (init x_x_0 x_x_1 x_x_2) (⟨rfl, trivial⟩) (Nat.le_of_ble_eq_true rfl) (fun _ => ⟨rfl, trivial⟩) rfl
      (res K) (fun _ _ => by kernel_rfl) H
  refine hc.mono ?_
  intro v hp H
  obtain ⟨b1, rfl, h1⟩ := asB_elim H
  exact ⟨_, rfl, h1⟩

end M_laws_zzFits7

end Go.Proofs.YtibleenkgmkpmaaDoor

namespace Go.Proofs.YtibleenkgmkpmaaDoor
open Go Go.Vc Go.Proofs

namespace M_laws_token

structure St where
  x_lit : Sl
  x_low : Int
  t4 : Sl
  x_out : Sl

def p0 : Pt St where
  env s := [(4, (.slice s.t4.p s.t4.n s.t4.c))]
  fin e s K := vS e 4 fun p1 n1 c1 => K { s with t4 := ⟨p1, n1, c1⟩ }
  ok := by
    intro e s K h0
    obtain ⟨p1, n1, c1, g1, h2⟩ := gS h0
    exact ⟨_, ⟨g1, trivial⟩, h2⟩

def p1 : Pt St where
  env s := [(0, (.slice s.x_lit.p s.x_lit.n s.x_lit.c)), (1, (.int .i64 s.x_low))]
  fin e s K := vS e 0 fun p1 n1 c1 => vI e 1 .i64 fun n2 => K { s with x_lit := ⟨p1, n1, c1⟩, x_low := n2 }
  ok := by
    intro e s K h0
    obtain ⟨p1, n1, c1, g1, h2⟩ := gS h0
    obtain ⟨n2, g2, h4⟩ := gI h2
    exact ⟨_, ⟨g1, g2, trivial⟩, h4⟩

def p2 : Pt St where
  env s := [(0, (.slice s.x_lit.p s.x_lit.n s.x_lit.c)), (5, (.slice s.x_out.p s.x_out.n s.x_out.c))]
  fin e s K := vS e 0 fun p1 n1 c1 => vS e 5 fun p2 n2 c2 => K { s with x_lit := ⟨p1, n1, c1⟩, x_out := ⟨p2, n2, c2⟩ }
  ok := by
    intro e s K h0
    obtain ⟨p1, n1, c1, g1, h2⟩ := gS h0
    obtain ⟨p2, n2, c2, g2, h4⟩ := gS h2
    exact ⟨_, ⟨g1, g2, trivial⟩, h4⟩

def r0 (s : St) (h : Heap) (Q : St → Heap → Prop) : Prop :=
  Q s h

def r1 (s : St) (h : Heap) (Q : St → Heap → Prop) : Prop :=
  withH (hnew h [(.int .u8 (IntKind.wrap .u8 (bOr .i64 (IntKind.wrap .i64 ((if (15 : Int) < ((s.x_lit.n : Nat) : Int) then (15 : Int) else ((s.x_lit.n : Nat) : Int)) * 2 ^ (4 : Nat))) s.x_low)))] 5) fun h1 =>
  Q { s with x_out := ⟨(some ⟨Array.size h, 0, none⟩), 1, 1⟩ } h1

def r2 (s : St) (h : Heap) (Q : Bool → St → Heap → Prop) : Prop :=
  Q (decide (((s.x_lit.n : Nat) : Int) ≥ (15 : Int))) s h

def r3 (s : St) (h : Heap) (Q : St → Heap → Prop) : Prop :=
  c_laws_further (IntKind.wrap .i64 (((s.x_lit.n : Nat) : Int) - (15 : Int))) h fun w2 h1 =>
  appendT Pg 5 s.x_out.p s.x_out.n s.x_out.c (.slice w2.p w2.n w2.c) w2.n h1 fun p3 n4 c5 h6 =>
  Q { s with x_out := ⟨p3, n4, c5⟩ } h6

def r4 (s : St) (h : Heap) (Q : St → Heap → Prop) : Prop :=
  appendT Pg 5 s.x_out.p s.x_out.n s.x_out.c (.slice s.x_lit.p s.x_lit.n s.x_lit.c) s.x_lit.n h fun p1 n2 c3 h4 =>
  Q { s with t4 := ⟨p1, n2, c3⟩ } h4

def k1 : Stm St := (.seq (.test r2 (.reg r3) .skip) (.seq (.reg r4) .ret))
def k0 : Stm St := (.seq (.reg r1) k1)

def stm : Stm St := (.seq (.reg r0) k0)

def ex : Ex → Pt St := fun _ => p0

set_option maxRecDepth 100000 in
theorem sim : Sim Pg 26 p1 (Tryd.f32.body.getD .skip) stm p0 ex :=
  (Sim.seq (Sim.reg (A := p1) (B := p1) (fun _ _ _ => by kernel_rfl))
  (Sim.seq (Sim.reg (A := p1) (B := p2) (fun _ _ _ => by kernel_rfl))
  (Sim.seq (Sim.test (A := p2) (B := p2) (fun _ _ _ => by kernel_rfl) (Sim.reg (A := p2) (B := p2) (fun _ _ _ => by kernel_rfl))
  (Sim.skip (A := p2)))
  (Sim.seq (Sim.reg (A := p2) (B := p0) (fun _ _ _ => by kernel_rfl))
  (Sim.ret (A := p0) (E := ex) (fun _ => ⟨rfl, trivial⟩))))))

def init (x_lit : Sl) (x_low : Int) : St := { x_lit := x_lit, x_low := x_low, t4 := Sl.nil, x_out := Sl.nil }

/-- What is left of the results. -/
def res (K : Sl → Heap → Prop) (s : St) (h1 : Heap) : Prop := K s.t4 h1

/-- The call of 'pub-pemmican/laws.token'. -/
theorem calls (x_lit : Sl) (x_low : Int) (h : Heap) (K : Sl → Heap → Prop)
    (H : stm (init x_lit x_low) h (endK (res K))) : c_laws_token x_lit x_low h K := by
  have hc : CallsH Pg 32 #[(.slice x_lit.p x_lit.n x_lit.c), (.int .i64 x_low)] h fun v h1 => asS v fun p1 n1 c1 => K ⟨p1, n1, c1⟩ h1 :=
    callsH_of_sim (R := p0) (fn := Tryd.f32) (c := Tryd.f32.body.getD .skip) Tryd.func32 rfl Tryd.ntmps32 Tryd.call32 sim (init x_lit x_low) (⟨rfl, rfl, trivial⟩) (Nat.le_of_ble_eq_true rfl) (fun _ => ⟨rfl, trivial⟩) rfl
      (res K) (fun _ _ => by kernel_rfl) H
  refine hc.mono ?_
  intro v hp H
  obtain ⟨p1, n1, c1, rfl, h1⟩ := asS_elim H
  exact ⟨_, _, _, rfl, h1⟩

end M_laws_token

end Go.Proofs.YtibleenkgmkpmaaDoor

namespace Go.Proofs.YtibleenkgmkpmaaDoor
open Go Go.Vc Go.Proofs

namespace M_laws_further

structure St where
  x_n : Int
  t2 : Sl
  x_out : Sl

def p0 : Pt St where
  env s := [(2, (.slice s.t2.p s.t2.n s.t2.c))]
  fin e s K := vS e 2 fun p1 n1 c1 => K { s with t2 := ⟨p1, n1, c1⟩ }
  ok := by
    intro e s K h0
    obtain ⟨p1, n1, c1, g1, h2⟩ := gS h0
    exact ⟨_, ⟨g1, trivial⟩, h2⟩

def p1 : Pt St where
  env s := [(0, (.int .i64 s.x_n))]
  fin e s K := vI e 0 .i64 fun n1 => K { s with x_n := n1 }
  ok := by
    intro e s K h0
    obtain ⟨n1, g1, h2⟩ := gI h0
    exact ⟨_, ⟨g1, trivial⟩, h2⟩

def p2 : Pt St where
  env s := [(0, (.int .i64 s.x_n)), (3, (.slice s.x_out.p s.x_out.n s.x_out.c))]
  fin e s K := vI e 0 .i64 fun n1 => vS e 3 fun p1 n2 c1 => K { s with x_n := n1, x_out := ⟨p1, n2, c1⟩ }
  ok := by
    intro e s K h0
    obtain ⟨n1, g1, h2⟩ := gI h0
    obtain ⟨p1, n2, c1, g2, h4⟩ := gS h2
    exact ⟨_, ⟨g1, g2, trivial⟩, h4⟩

def r0 (s : St) (h : Heap) (Q : St → Heap → Prop) : Prop :=
  Q s h

def r1 (s : St) (h : Heap) (Q : St → Heap → Prop) : Prop :=
  Q { s with x_out := ⟨none, 0, 0⟩ } h

def r2 (s : St) (h : Heap) (Q : Bool → St → Heap → Prop) : Prop :=
  Q (decide (s.x_n ≥ (255 : Int))) s h

def r3 (s : St) (h : Heap) (Q : St → Heap → Prop) : Prop :=
  withH (hnew h [(.int .u8 (255 : Int))] 5) fun h1 =>
  appendT Pg 5 s.x_out.p s.x_out.n s.x_out.c (.slice (some ⟨Array.size h, 0, none⟩) 1 1) 1 h1 fun p2 n3 c4 h5 =>
  Q { s with x_out := ⟨p2, n3, c4⟩ } h5

def r4 (s : St) (h : Heap) (Q : St → Heap → Prop) : Prop :=
  Q { s with x_n := (IntKind.wrap .i64 (s.x_n - (255 : Int))) } h

def r5 (s : St) (h : Heap) (Q : St → Heap → Prop) : Prop :=
  withH (hnew h [(.int .u8 (IntKind.wrap .u8 s.x_n))] 5) fun h1 =>
  appendT Pg 5 s.x_out.p s.x_out.n s.x_out.c (.slice (some ⟨Array.size h, 0, none⟩) 1 1) 1 h1 fun p2 n3 c4 h5 =>
  Q { s with t2 := ⟨p2, n3, c4⟩ } h5

def k3 : Stm St := (.block 1 (.seq (.reg r3) (.reg r4)))
def k2 : Stm St := (.seq (.test r2 .skip (.exit 0)) k3)
def k1 : Stm St := (.seq (.block 0 (.loop k2)) (.seq (.reg r5) .ret))
def k0 : Stm St := (.seq (.reg r1) k1)

def stm : Stm St := (.seq (.reg r0) k0)

def ex : Ex → Pt St := fun _ => p0

set_option maxRecDepth 100000 in
theorem sim : Sim Pg 16 p1 (Tryd.f33.body.getD .skip) stm p0 ex :=
  (Sim.seq (Sim.reg (A := p1) (B := p1) (fun _ _ _ => by kernel_rfl))
  (Sim.seq (Sim.reg (A := p1) (B := p2) (fun _ _ _ => by kernel_rfl))
  (Sim.seq (Sim.block (B := p2) (Sim.loop (A := p2) (Sim.seq (Sim.test (A := p2) (B := p2) (fun _ _ _ => by kernel_rfl) (Sim.skip (A := p2))
  (Sim.exit (A := p2) (fun _ => ⟨rfl, rfl, trivial⟩)))
  (Sim.block (B := p2) (Sim.seq (Sim.reg (A := p2) (B := p2) (fun _ _ _ => by kernel_rfl))
  (Sim.reg (A := p2) (B := p2) (fun _ _ _ => by kernel_rfl)))))))
  (Sim.seq (Sim.reg (A := p2) (B := p0) (fun _ _ _ => by kernel_rfl))
  (Sim.ret (A := p0) (E := ex) (fun _ => ⟨rfl, trivial⟩))))))

def init (x_n : Int) : St := { x_n := x_n, t2 := Sl.nil, x_out := Sl.nil }

/-- What is left of the results. -/
def res (K : Sl → Heap → Prop) (s : St) (h1 : Heap) : Prop := K s.t2 h1

/-- The call of 'pub-pemmican/laws.further'. -/
theorem calls (x_n : Int) (h : Heap) (K : Sl → Heap → Prop)
    (H : stm (init x_n) h (endK (res K))) : c_laws_further x_n h K := by
  have hc : CallsH Pg 33 #[(.int .i64 x_n)] h fun v h1 => asS v fun p1 n1 c1 => K ⟨p1, n1, c1⟩ h1 :=
    callsH_of_sim (R := p0) (fn := Tryd.f33) (c := Tryd.f33.body.getD .skip) Tryd.func33 rfl Tryd.ntmps33 Tryd.call33 sim (init x_n) (⟨rfl, trivial⟩) (Nat.le_of_ble_eq_true rfl) (fun _ => ⟨rfl, trivial⟩) rfl
      (res K) (fun _ _ => by kernel_rfl) H
  refine hc.mono ?_
  intro v hp H
  obtain ⟨p1, n1, c1, rfl, h1⟩ := asS_elim H
  exact ⟨_, _, _, rfl, h1⟩

end M_laws_further

end Go.Proofs.YtibleenkgmkpmaaDoor

namespace Go.Proofs.YtibleenkgmkpmaaDoor
open Go Go.Vc Go.Proofs

namespace M_laws_FnLz4Sequences

structure St where
  x_l : Sl
  x_end : Sl
  x_modified : Bool
  x_snappy : Bool
  t8 : Bool
  x_b : Sl
  x_text : Sl
  x_x : Option Addr
  x_m : Int
  x_least : Int
  x_less : Int
  x_off : Int
  x_out : Sl
  x_n : Int
  x_ok : Bool
  x_plain : Sl
  x_told : Int
  x_back : Sl
  t44 : Sl
  t45 : Int
  t46 : Int
  t47 : Bool

def p0 : Pt St where
  env s := [(8, (.bool s.t8))]
  fin e s K := vB e 8 fun b1 => K { s with t8 := b1 }
  ok := by
    intro e s K h0
    obtain ⟨b1, g1, h2⟩ := gB h0
    exact ⟨_, ⟨g1, trivial⟩, h2⟩

def p1 : Pt St where
  env s := [(0, (.slice s.x_l.p s.x_l.n s.x_l.c)), (1, (.slice s.x_end.p s.x_end.n s.x_end.c)), (2, (.bool s.x_modified)), (3, (.bool s.x_snappy))]
  fin e s K := vS e 0 fun p1 n1 c1 => vS e 1 fun p2 n2 c2 => vB e 2 fun b1 => vB e 3 fun b2 => K { s with x_l := ⟨p1, n1, c1⟩, x_end := ⟨p2, n2, c2⟩, x_modified := b1, x_snappy := b2 }
  ok := by
    intro e s K h0
    obtain ⟨p1, n1, c1, g1, h2⟩ := gS h0
    obtain ⟨p2, n2, c2, g2, h4⟩ := gS h2
    obtain ⟨b1, g3, h6⟩ := gB h4
    obtain ⟨b2, g4, h8⟩ := gB h6
    exact ⟨_, ⟨g1, g2, g3, g4, trivial⟩, h8⟩

def p2 : Pt St where
  env s := [(0, (.slice s.x_l.p s.x_l.n s.x_l.c)), (1, (.slice s.x_end.p s.x_end.n s.x_end.c)), (2, (.bool s.x_modified)), (3, (.bool s.x_snappy)), (9, (.slice s.x_b.p s.x_b.n s.x_b.c)), (10, (.slice s.x_text.p s.x_text.n s.x_text.c))]
  fin e s K := vS e 0 fun p1 n1 c1 => vS e 1 fun p2 n2 c2 => vB e 2 fun b1 => vB e 3 fun b2 => vS e 9 fun p3 n3 c3 => vS e 10 fun p4 n4 c4 => K { s with x_l := ⟨p1, n1, c1⟩, x_end := ⟨p2, n2, c2⟩, x_modified := b1, x_snappy := b2, x_b := ⟨p3, n3, c3⟩, x_text := ⟨p4, n4, c4⟩ }
  ok := by
    intro e s K h0
    obtain ⟨p1, n1, c1, g1, h2⟩ := gS h0
    obtain ⟨p2, n2, c2, g2, h4⟩ := gS h2
    obtain ⟨b1, g3, h6⟩ := gB h4
    obtain ⟨b2, g4, h8⟩ := gB h6
    obtain ⟨p3, n3, c3, g5, h10⟩ := gS h8
    obtain ⟨p4, n4, c4, g6, h12⟩ := gS h10
    exact ⟨_, ⟨g1, g2, g3, g4, g5, g6, trivial⟩, h12⟩

def p3 : Pt St where
  env s := [(1, (.slice s.x_end.p s.x_end.n s.x_end.c)), (2, (.bool s.x_modified)), (3, (.bool s.x_snappy)), (9, (.slice s.x_b.p s.x_b.n s.x_b.c)), (10, (.slice s.x_text.p s.x_text.n s.x_text.c)), (44, (.slice s.t44.p s.t44.n s.t44.c)), (45, (.int .i64 s.t45)), (46, (.int .i64 s.t46))]
  fin e s K := vS e 1 fun p1 n1 c1 => vB e 2 fun b1 => vB e 3 fun b2 => vS e 9 fun p2 n2 c2 => vS e 10 fun p3 n3 c3 => vS e 44 fun p4 n4 c4 => vI e 45 .i64 fun n5 => vI e 46 .i64 fun n6 => K { s with x_end := ⟨p1, n1, c1⟩, x_modified := b1, x_snappy := b2, x_b := ⟨p2, n2, c2⟩, x_text := ⟨p3, n3, c3⟩, t44 := ⟨p4, n4, c4⟩, t45 := n5, t46 := n6 }
  ok := by
    intro e s K h0
    obtain ⟨p1, n1, c1, g1, h2⟩ := gS h0
    obtain ⟨b1, g2, h4⟩ := gB h2
    obtain ⟨b2, g3, h6⟩ := gB h4
    obtain ⟨p2, n2, c2, g4, h8⟩ := gS h6
    obtain ⟨p3, n3, c3, g5, h10⟩ := gS h8
    obtain ⟨p4, n4, c4, g6, h12⟩ := gS h10
    obtain ⟨n5, g7, h14⟩ := gI h12
    obtain ⟨n6, g8, h16⟩ := gI h14
    exact ⟨_, ⟨g1, g2, g3, g4, g5, g6, g7, g8, trivial⟩, h16⟩

def p4 : Pt St where
  env s := [(1, (.slice s.x_end.p s.x_end.n s.x_end.c)), (2, (.bool s.x_modified)), (3, (.bool s.x_snappy)), (9, (.slice s.x_b.p s.x_b.n s.x_b.c)), (10, (.slice s.x_text.p s.x_text.n s.x_text.c))]
  fin e s K := vS e 1 fun p1 n1 c1 => vB e 2 fun b1 => vB e 3 fun b2 => vS e 9 fun p2 n2 c2 => vS e 10 fun p3 n3 c3 => K { s with x_end := ⟨p1, n1, c1⟩, x_modified := b1, x_snappy := b2, x_b := ⟨p2, n2, c2⟩, x_text := ⟨p3, n3, c3⟩ }
  ok := by
    intro e s K h0
    obtain ⟨p1, n1, c1, g1, h2⟩ := gS h0
    obtain ⟨b1, g2, h4⟩ := gB h2
    obtain ⟨b2, g3, h6⟩ := gB h4
    obtain ⟨p2, n2, c2, g4, h8⟩ := gS h6
    obtain ⟨p3, n3, c3, g5, h10⟩ := gS h8
    exact ⟨_, ⟨g1, g2, g3, g4, g5, trivial⟩, h10⟩

def p5 : Pt St where
  env s := [(1, (.slice s.x_end.p s.x_end.n s.x_end.c)), (2, (.bool s.x_modified)), (3, (.bool s.x_snappy)), (9, (.slice s.x_b.p s.x_b.n s.x_b.c)), (10, (.slice s.x_text.p s.x_text.n s.x_text.c)), (44, (.slice s.t44.p s.t44.n s.t44.c)), (45, (.int .i64 s.t45)), (46, (.int .i64 s.t46)), (47, (.bool s.t47))]
  fin e s K := vS e 1 fun p1 n1 c1 => vB e 2 fun b1 => vB e 3 fun b2 => vS e 9 fun p2 n2 c2 => vS e 10 fun p3 n3 c3 => vS e 44 fun p4 n4 c4 => vI e 45 .i64 fun n5 => vI e 46 .i64 fun n6 => vB e 47 fun b3 => K { s with x_end := ⟨p1, n1, c1⟩, x_modified := b1, x_snappy := b2, x_b := ⟨p2, n2, c2⟩, x_text := ⟨p3, n3, c3⟩, t44 := ⟨p4, n4, c4⟩, t45 := n5, t46 := n6, t47 := b3 }
  ok := by
    intro e s K h0
    obtain ⟨p1, n1, c1, g1, h2⟩ := gS h0
    obtain ⟨b1, g2, h4⟩ := gB h2
    obtain ⟨b2, g3, h6⟩ := gB h4
    obtain ⟨p2, n2, c2, g4, h8⟩ := gS h6
    obtain ⟨p3, n3, c3, g5, h10⟩ := gS h8
    obtain ⟨p4, n4, c4, g6, h12⟩ := gS h10
    obtain ⟨n5, g7, h14⟩ := gI h12
    obtain ⟨n6, g8, h16⟩ := gI h14
    obtain ⟨b3, g9, h18⟩ := gB h16
    exact ⟨_, ⟨g1, g2, g3, g4, g5, g6, g7, g8, g9, trivial⟩, h18⟩

def p6 : Pt St where
  env s := [(1, (.slice s.x_end.p s.x_end.n s.x_end.c)), (2, (.bool s.x_modified)), (3, (.bool s.x_snappy)), (9, (.slice s.x_b.p s.x_b.n s.x_b.c)), (10, (.slice s.x_text.p s.x_text.n s.x_text.c)), (12, (.pointer s.x_x)), (44, (.slice s.t44.p s.t44.n s.t44.c)), (45, (.int .i64 s.t45)), (46, (.int .i64 s.t46))]
  fin e s K := vS e 1 fun p1 n1 c1 => vB e 2 fun b1 => vB e 3 fun b2 => vS e 9 fun p2 n2 c2 => vS e 10 fun p3 n3 c3 => vP e 12 fun p4 => vS e 44 fun p5 n4 c4 => vI e 45 .i64 fun n5 => vI e 46 .i64 fun n6 => K { s with x_end := ⟨p1, n1, c1⟩, x_modified := b1, x_snappy := b2, x_b := ⟨p2, n2, c2⟩, x_text := ⟨p3, n3, c3⟩, x_x := p4, t44 := ⟨p5, n4, c4⟩, t45 := n5, t46 := n6 }
  ok := by
    intro e s K h0
    obtain ⟨p1, n1, c1, g1, h2⟩ := gS h0
    obtain ⟨b1, g2, h4⟩ := gB h2
    obtain ⟨b2, g3, h6⟩ := gB h4
    obtain ⟨p2, n2, c2, g4, h8⟩ := gS h6
    obtain ⟨p3, n3, c3, g5, h10⟩ := gS h8
    obtain ⟨p4, g6, h12⟩ := gP h10
    obtain ⟨p5, n4, c4, g7, h14⟩ := gS h12
    obtain ⟨n5, g8, h16⟩ := gI h14
    obtain ⟨n6, g9, h18⟩ := gI h16
    exact ⟨_, ⟨g1, g2, g3, g4, g5, g6, g7, g8, g9, trivial⟩, h18⟩

def p7 : Pt St where
  env s := [(1, (.slice s.x_end.p s.x_end.n s.x_end.c)), (2, (.bool s.x_modified)), (3, (.bool s.x_snappy)), (9, (.slice s.x_b.p s.x_b.n s.x_b.c)), (10, (.slice s.x_text.p s.x_text.n s.x_text.c)), (12, (.pointer s.x_x)), (13, (.int .i64 s.x_m)), (14, (.int .i64 s.x_least)), (15, (.int .i64 s.x_less)), (44, (.slice s.t44.p s.t44.n s.t44.c)), (45, (.int .i64 s.t45)), (46, (.int .i64 s.t46))]
  fin e s K := vS e 1 fun p1 n1 c1 => vB e 2 fun b1 => vB e 3 fun b2 => vS e 9 fun p2 n2 c2 => vS e 10 fun p3 n3 c3 => vP e 12 fun p4 => vI e 13 .i64 fun n4 => vI e 14 .i64 fun n5 => vI e 15 .i64 fun n6 => vS e 44 fun p5 n7 c4 => vI e 45 .i64 fun n8 => vI e 46 .i64 fun n9 => K { s with x_end := ⟨p1, n1, c1⟩, x_modified := b1, x_snappy := b2, x_b := ⟨p2, n2, c2⟩, x_text := ⟨p3, n3, c3⟩, x_x := p4, x_m := n4, x_least := n5, x_less := n6, t44 := ⟨p5, n7, c4⟩, t45 := n8, t46 := n9 }
  ok := by
    intro e s K h0
    obtain ⟨p1, n1, c1, g1, h2⟩ := gS h0
    obtain ⟨b1, g2, h4⟩ := gB h2
    obtain ⟨b2, g3, h6⟩ := gB h4
    obtain ⟨p2, n2, c2, g4, h8⟩ := gS h6
    obtain ⟨p3, n3, c3, g5, h10⟩ := gS h8
    obtain ⟨p4, g6, h12⟩ := gP h10
    obtain ⟨n4, g7, h14⟩ := gI h12
    obtain ⟨n5, g8, h16⟩ := gI h14
    obtain ⟨n6, g9, h18⟩ := gI h16
    obtain ⟨p5, n7, c4, g10, h20⟩ := gS h18
    obtain ⟨n8, g11, h22⟩ := gI h20
    obtain ⟨n9, g12, h24⟩ := gI h22
    exact ⟨_, ⟨g1, g2, g3, g4, g5, g6, g7, g8, g9, g10, g11, g12, trivial⟩, h24⟩

def p8 : Pt St where
  env s := [(1, (.slice s.x_end.p s.x_end.n s.x_end.c)), (2, (.bool s.x_modified)), (3, (.bool s.x_snappy)), (9, (.slice s.x_b.p s.x_b.n s.x_b.c)), (10, (.slice s.x_text.p s.x_text.n s.x_text.c)), (12, (.pointer s.x_x)), (13, (.int .i64 s.x_m)), (14, (.int .i64 s.x_least)), (44, (.slice s.t44.p s.t44.n s.t44.c)), (45, (.int .i64 s.t45)), (46, (.int .i64 s.t46))]
  fin e s K := vS e 1 fun p1 n1 c1 => vB e 2 fun b1 => vB e 3 fun b2 => vS e 9 fun p2 n2 c2 => vS e 10 fun p3 n3 c3 => vP e 12 fun p4 => vI e 13 .i64 fun n4 => vI e 14 .i64 fun n5 => vS e 44 fun p5 n6 c4 => vI e 45 .i64 fun n7 => vI e 46 .i64 fun n8 => K { s with x_end := ⟨p1, n1, c1⟩, x_modified := b1, x_snappy := b2, x_b := ⟨p2, n2, c2⟩, x_text := ⟨p3, n3, c3⟩, x_x := p4, x_m := n4, x_least := n5, t44 := ⟨p5, n6, c4⟩, t45 := n7, t46 := n8 }
  ok := by
    intro e s K h0
    obtain ⟨p1, n1, c1, g1, h2⟩ := gS h0
    obtain ⟨b1, g2, h4⟩ := gB h2
    obtain ⟨b2, g3, h6⟩ := gB h4
    obtain ⟨p2, n2, c2, g4, h8⟩ := gS h6
    obtain ⟨p3, n3, c3, g5, h10⟩ := gS h8
    obtain ⟨p4, g6, h12⟩ := gP h10
    obtain ⟨n4, g7, h14⟩ := gI h12
    obtain ⟨n5, g8, h16⟩ := gI h14
    obtain ⟨p5, n6, c4, g9, h18⟩ := gS h16
    obtain ⟨n7, g10, h20⟩ := gI h18
    obtain ⟨n8, g11, h22⟩ := gI h20
    exact ⟨_, ⟨g1, g2, g3, g4, g5, g6, g7, g8, g9, g10, g11, trivial⟩, h22⟩

def p9 : Pt St where
  env s := [(1, (.slice s.x_end.p s.x_end.n s.x_end.c)), (2, (.bool s.x_modified)), (3, (.bool s.x_snappy)), (9, (.slice s.x_b.p s.x_b.n s.x_b.c)), (10, (.slice s.x_text.p s.x_text.n s.x_text.c)), (13, (.int .i64 s.x_m)), (14, (.int .i64 s.x_least)), (16, (.int .i64 s.x_off)), (44, (.slice s.t44.p s.t44.n s.t44.c)), (45, (.int .i64 s.t45)), (46, (.int .i64 s.t46))]
  fin e s K := vS e 1 fun p1 n1 c1 => vB e 2 fun b1 => vB e 3 fun b2 => vS e 9 fun p2 n2 c2 => vS e 10 fun p3 n3 c3 => vI e 13 .i64 fun n4 => vI e 14 .i64 fun n5 => vI e 16 .i64 fun n6 => vS e 44 fun p4 n7 c4 => vI e 45 .i64 fun n8 => vI e 46 .i64 fun n9 => K { s with x_end := ⟨p1, n1, c1⟩, x_modified := b1, x_snappy := b2, x_b := ⟨p2, n2, c2⟩, x_text := ⟨p3, n3, c3⟩, x_m := n4, x_least := n5, x_off := n6, t44 := ⟨p4, n7, c4⟩, t45 := n8, t46 := n9 }
  ok := by
    intro e s K h0
    obtain ⟨p1, n1, c1, g1, h2⟩ := gS h0
    obtain ⟨b1, g2, h4⟩ := gB h2
    obtain ⟨b2, g3, h6⟩ := gB h4
    obtain ⟨p2, n2, c2, g4, h8⟩ := gS h6
    obtain ⟨p3, n3, c3, g5, h10⟩ := gS h8
    obtain ⟨n4, g6, h12⟩ := gI h10
    obtain ⟨n5, g7, h14⟩ := gI h12
    obtain ⟨n6, g8, h16⟩ := gI h14
    obtain ⟨p4, n7, c4, g9, h18⟩ := gS h16
    obtain ⟨n8, g10, h20⟩ := gI h18
    obtain ⟨n9, g11, h22⟩ := gI h20
    exact ⟨_, ⟨g1, g2, g3, g4, g5, g6, g7, g8, g9, g10, g11, trivial⟩, h22⟩

def p10 : Pt St where
  env s := [(1, (.slice s.x_end.p s.x_end.n s.x_end.c)), (2, (.bool s.x_modified)), (3, (.bool s.x_snappy)), (9, (.slice s.x_b.p s.x_b.n s.x_b.c)), (10, (.slice s.x_text.p s.x_text.n s.x_text.c)), (13, (.int .i64 s.x_m)), (16, (.int .i64 s.x_off)), (44, (.slice s.t44.p s.t44.n s.t44.c)), (45, (.int .i64 s.t45)), (46, (.int .i64 s.t46))]
  fin e s K := vS e 1 fun p1 n1 c1 => vB e 2 fun b1 => vB e 3 fun b2 => vS e 9 fun p2 n2 c2 => vS e 10 fun p3 n3 c3 => vI e 13 .i64 fun n4 => vI e 16 .i64 fun n5 => vS e 44 fun p4 n6 c4 => vI e 45 .i64 fun n7 => vI e 46 .i64 fun n8 => K { s with x_end := ⟨p1, n1, c1⟩, x_modified := b1, x_snappy := b2, x_b := ⟨p2, n2, c2⟩, x_text := ⟨p3, n3, c3⟩, x_m := n4, x_off := n5, t44 := ⟨p4, n6, c4⟩, t45 := n7, t46 := n8 }
  ok := by
    intro e s K h0
    obtain ⟨p1, n1, c1, g1, h2⟩ := gS h0
    obtain ⟨b1, g2, h4⟩ := gB h2
    obtain ⟨b2, g3, h6⟩ := gB h4
    obtain ⟨p2, n2, c2, g4, h8⟩ := gS h6
    obtain ⟨p3, n3, c3, g5, h10⟩ := gS h8
    obtain ⟨n4, g6, h12⟩ := gI h10
    obtain ⟨n5, g7, h14⟩ := gI h12
    obtain ⟨p4, n6, c4, g8, h16⟩ := gS h14
    obtain ⟨n7, g9, h18⟩ := gI h16
    obtain ⟨n8, g10, h20⟩ := gI h18
    exact ⟨_, ⟨g1, g2, g3, g4, g5, g6, g7, g8, g9, g10, trivial⟩, h20⟩

def p11 : Pt St where
  env s := [(2, (.bool s.x_modified)), (3, (.bool s.x_snappy)), (9, (.slice s.x_b.p s.x_b.n s.x_b.c)), (10, (.slice s.x_text.p s.x_text.n s.x_text.c))]
  fin e s K := vB e 2 fun b1 => vB e 3 fun b2 => vS e 9 fun p1 n1 c1 => vS e 10 fun p2 n2 c2 => K { s with x_modified := b1, x_snappy := b2, x_b := ⟨p1, n1, c1⟩, x_text := ⟨p2, n2, c2⟩ }
  ok := by
    intro e s K h0
    obtain ⟨b1, g1, h2⟩ := gB h0
    obtain ⟨b2, g2, h4⟩ := gB h2
    obtain ⟨p1, n1, c1, g3, h6⟩ := gS h4
    obtain ⟨p2, n2, c2, g4, h8⟩ := gS h6
    exact ⟨_, ⟨g1, g2, g3, g4, trivial⟩, h8⟩

def p12 : Pt St where
  env s := [(3, (.bool s.x_snappy)), (10, (.slice s.x_text.p s.x_text.n s.x_text.c)), (17, (.slice s.x_out.p s.x_out.n s.x_out.c)), (18, (.int .i64 s.x_n)), (19, (.bool s.x_ok))]
  fin e s K := vB e 3 fun b1 => vS e 10 fun p1 n1 c1 => vS e 17 fun p2 n2 c2 => vI e 18 .i64 fun n3 => vB e 19 fun b2 => K { s with x_snappy := b1, x_text := ⟨p1, n1, c1⟩, x_out := ⟨p2, n2, c2⟩, x_n := n3, x_ok := b2 }
  ok := by
    intro e s K h0
    obtain ⟨b1, g1, h2⟩ := gB h0
    obtain ⟨p1, n1, c1, g2, h4⟩ := gS h2
    obtain ⟨p2, n2, c2, g3, h6⟩ := gS h4
    obtain ⟨n3, g4, h8⟩ := gI h6
    obtain ⟨b2, g5, h10⟩ := gB h8
    exact ⟨_, ⟨g1, g2, g3, g4, g5, trivial⟩, h10⟩

def p13 : Pt St where
  env s := [(3, (.bool s.x_snappy)), (10, (.slice s.x_text.p s.x_text.n s.x_text.c)), (17, (.slice s.x_out.p s.x_out.n s.x_out.c)), (18, (.int .i64 s.x_n))]
  fin e s K := vB e 3 fun b1 => vS e 10 fun p1 n1 c1 => vS e 17 fun p2 n2 c2 => vI e 18 .i64 fun n3 => K { s with x_snappy := b1, x_text := ⟨p1, n1, c1⟩, x_out := ⟨p2, n2, c2⟩, x_n := n3 }
  ok := by
    intro e s K h0
    obtain ⟨b1, g1, h2⟩ := gB h0
    obtain ⟨p1, n1, c1, g2, h4⟩ := gS h2
    obtain ⟨p2, n2, c2, g3, h6⟩ := gS h4
    obtain ⟨n3, g4, h8⟩ := gI h6
    exact ⟨_, ⟨g1, g2, g3, g4, trivial⟩, h8⟩

def p14 : Pt St where
  env s := [(10, (.slice s.x_text.p s.x_text.n s.x_text.c)), (17, (.slice s.x_out.p s.x_out.n s.x_out.c)), (18, (.int .i64 s.x_n))]
  fin e s K := vS e 10 fun p1 n1 c1 => vS e 17 fun p2 n2 c2 => vI e 18 .i64 fun n3 => K { s with x_text := ⟨p1, n1, c1⟩, x_out := ⟨p2, n2, c2⟩, x_n := n3 }
  ok := by
    intro e s K h0
    obtain ⟨p1, n1, c1, g1, h2⟩ := gS h0
    obtain ⟨p2, n2, c2, g2, h4⟩ := gS h2
    obtain ⟨n3, g3, h6⟩ := gI h4
    exact ⟨_, ⟨g1, g2, g3, trivial⟩, h6⟩

def p15 : Pt St where
  env s := [(10, (.slice s.x_text.p s.x_text.n s.x_text.c)), (20, (.slice s.x_plain.p s.x_plain.n s.x_plain.c)), (21, (.int .i64 s.x_told))]
  fin e s K := vS e 10 fun p1 n1 c1 => vS e 20 fun p2 n2 c2 => vI e 21 .i64 fun n3 => K { s with x_text := ⟨p1, n1, c1⟩, x_plain := ⟨p2, n2, c2⟩, x_told := n3 }
  ok := by
    intro e s K h0
    obtain ⟨p1, n1, c1, g1, h2⟩ := gS h0
    obtain ⟨p2, n2, c2, g2, h4⟩ := gS h2
    obtain ⟨n3, g3, h6⟩ := gI h4
    exact ⟨_, ⟨g1, g2, g3, trivial⟩, h6⟩

def p16 : Pt St where
  env s := [(10, (.slice s.x_text.p s.x_text.n s.x_text.c)), (19, (.bool s.x_ok)), (22, (.slice s.x_back.p s.x_back.n s.x_back.c))]
  fin e s K := vS e 10 fun p1 n1 c1 => vB e 19 fun b1 => vS e 22 fun p2 n2 c2 => K { s with x_text := ⟨p1, n1, c1⟩, x_ok := b1, x_back := ⟨p2, n2, c2⟩ }
  ok := by
    intro e s K h0
    obtain ⟨p1, n1, c1, g1, h2⟩ := gS h0
    obtain ⟨b1, g2, h4⟩ := gB h2
    obtain ⟨p2, n2, c2, g3, h6⟩ := gS h4
    exact ⟨_, ⟨g1, g2, g3, trivial⟩, h6⟩

def r0 (s : St) (h : Heap) (Q : St → Heap → Prop) : Prop :=
  Q s h

def r1 (s : St) (h : Heap) (Q : Bool → St → Heap → Prop) : Prop :=
  c_laws_zzFits6 s.x_l h fun b2 h1 =>
  (if (!b2) = false then
  (Q (decide (((s.x_end.n : Nat) : Int) > (2147483647 : Int))) s h1)
  else
  (Q true s h1))

def r2 (s : St) (h : Heap) (Q : St → Heap → Prop) : Prop :=
  Q { s with t8 := true } h

def r3 (s : St) (h : Heap) (Q : Bool → St → Heap → Prop) : Prop :=
  (if (decide (((s.x_l.n : Nat) : Int) > (100 : Int))) = false then
  ((if (decide (((s.x_end.n : Nat) : Int) < (12 : Int))) = false then
  (Q (decide (((s.x_end.n : Nat) : Int) > (500 : Int))) s h)
  else
  (Q true s h)))
  else
  (Q true s h))

def r4 (s : St) (h : Heap) (Q : St → Heap → Prop) : Prop :=
  Q { s with t8 := true } h

def r5 (s : St) (h : Heap) (Q : St → Heap → Prop) : Prop :=
  Q { s with x_b := ⟨none, 0, 0⟩, x_text := ⟨none, 0, 0⟩ } h

def r6 (s : St) (h : Heap) (Q : St → Heap → Prop) : Prop :=
  Q { s with t44 := s.x_l, t45 := ((s.x_l.n : Nat) : Int), t46 := (0 : Int) } h

def r7 (s : St) (h : Heap) (Q : St → Heap → Prop) : Prop :=
  Q { s with t47 := (decide (s.t46 < s.t45)) } h

def r8 (s : St) (h : Heap) (Q : St → Heap → Prop) : Prop :=
  0 ≤ s.t46 ∧ s.t46 < ((s.t44.n : Nat) : Int) ∧
  ptrE s.t44.p fun a1 =>
  ∃ (p2 : Option Addr) (n3 c4 : Nat), hcell h (Addr.add (Addr.add a1 (Int.toNat s.t46 * 3)) 0) = some (.slice p2 n3 c4) ∧
  ∃ v5 : Int, hcell h (Addr.add (Addr.add a1 (Int.toNat s.t46 * 3)) 1) = some (.int .u16 v5) ∧
  ∃ v6 : Int, hcell h (Addr.add (Addr.add a1 (Int.toNat s.t46 * 3)) 2) = some (.int .u16 v6) ∧
  withH (hnew h (zcells Pg 58) 58) fun h7 =>
  st1 (Addr.add ⟨Array.size h, 0, none⟩ 0) (.slice p2 n3 c4) h7 fun h8 =>
  st1 (Addr.add ⟨Array.size h, 0, none⟩ 1) (.int .u16 v5) h8 fun h9 =>
  st1 (Addr.add ⟨Array.size h, 0, none⟩ 2) (.int .u16 v6) h9 fun h10 =>
  Q { s with x_x := (some ⟨Array.size h, 0, none⟩) } h10

def r9 (s : St) (h : Heap) (Q : Bool → St → Heap → Prop) : Prop :=
  ptrE s.x_x fun a1 =>
  ∃ (p2 : Option Addr) (n3 c4 : Nat), hcell h (Addr.add a1 0) = some (.slice p2 n3 c4) ∧
  (if (decide (((n3 : Nat) : Int) > (500 : Int))) = false then
  (ptrE s.x_x fun a5 =>
  ∃ (p6 : Option Addr) (n7 c8 : Nat), hcell h (Addr.add a5 0) = some (.slice p6 n7 c8) ∧
  Q ((IntKind.wrap .i64 (((s.x_text.n : Nat) : Int) + ((n7 : Nat) : Int))) == (0 : Int)) s h)
  else
  (Q true s h))

def r10 (s : St) (h : Heap) (Q : St → Heap → Prop) : Prop :=
  Q { s with t8 := true } h

def r11 (s : St) (h : Heap) (Q : St → Heap → Prop) : Prop :=
  ptrE s.x_x fun a1 =>
  ∃ v2 : Int, hcell h (Addr.add a1 2) = some (.int .u16 v2) ∧
  Q { s with x_m := (IntKind.wrap .i64 ((4 : Int) + (Int.tmod (IntKind.wrap .i64 v2) (2000 : Int)))), x_least := (19 : Int), x_less := (4 : Int) } h

def r12 (s : St) (h : Heap) (Q : Bool → St → Heap → Prop) : Prop :=
  Q s.x_modified s h

def r13 (s : St) (h : Heap) (Q : St → Heap → Prop) : Prop :=
  Q { s with x_least := (18 : Int), x_less := (3 : Int) } h

def r14 (s : St) (h : Heap) (Q : St → Heap → Prop) : Prop :=
  ptrE s.x_x fun a1 =>
  ∃ (p2 : Option Addr) (n3 c4 : Nat), hcell h (Addr.add a1 0) = some (.slice p2 n3 c4) ∧
  c_laws_token ⟨p2, n3, c4⟩ (if (15 : Int) < (IntKind.wrap .i64 (s.x_m - s.x_less)) then (15 : Int) else (IntKind.wrap .i64 (s.x_m - s.x_less))) h fun w6 h5 =>
  appendT Pg 5 s.x_b.p s.x_b.n s.x_b.c (.slice w6.p w6.n w6.c) w6.n h5 fun p7 n8 c9 h10 =>
  Q { s with x_b := ⟨p7, n8, c9⟩ } h10

def r15 (s : St) (h : Heap) (Q : St → Heap → Prop) : Prop :=
  ptrE s.x_x fun a1 =>
  ∃ (p2 : Option Addr) (n3 c4 : Nat), hcell h (Addr.add a1 0) = some (.slice p2 n3 c4) ∧
  appendT Pg 5 s.x_text.p s.x_text.n s.x_text.c (.slice p2 n3 c4) n3 h fun p5 n6 c7 h8 =>
  Q { s with x_text := ⟨p5, n6, c7⟩ } h8

def r16 (s : St) (h : Heap) (Q : St → Heap → Prop) : Prop :=
  ptrE s.x_x fun a1 =>
  ∃ v2 : Int, hcell h (Addr.add a1 1) = some (.int .u16 v2) ∧
  (if (if (65535 : Int) < ((s.x_text.n : Nat) : Int) then (65535 : Int) else ((s.x_text.n : Nat) : Int)) = 0 then False else
  Q { s with x_off := (IntKind.wrap .i64 ((1 : Int) + (Int.tmod (IntKind.wrap .i64 v2) (if (65535 : Int) < ((s.x_text.n : Nat) : Int) then (65535 : Int) else ((s.x_text.n : Nat) : Int))))) } h)

def r17 (s : St) (h : Heap) (Q : St → Heap → Prop) : Prop :=
  withH (hnew h [(.int .u8 (IntKind.wrap .u8 s.x_off)), (.int .u8 (IntKind.wrap .u8 (Int.fdiv s.x_off (2 ^ (8 : Nat)))))] 5) fun h1 =>
  appendT Pg 5 s.x_b.p s.x_b.n s.x_b.c (.slice (some ⟨Array.size h, 0, none⟩) 2 2) 2 h1 fun p2 n3 c4 h5 =>
  Q { s with x_b := ⟨p2, n3, c4⟩ } h5

def r18 (s : St) (h : Heap) (Q : Bool → St → Heap → Prop) : Prop :=
  Q (decide (s.x_m ≥ s.x_least)) s h

def r19 (s : St) (h : Heap) (Q : St → Heap → Prop) : Prop :=
  c_laws_further (IntKind.wrap .i64 (s.x_m - s.x_least)) h fun w2 h1 =>
  appendT Pg 5 s.x_b.p s.x_b.n s.x_b.c (.slice w2.p w2.n w2.c) w2.n h1 fun p3 n4 c5 h6 =>
  Q { s with x_b := ⟨p3, n4, c5⟩ } h6

def r20 (s : St) (h : Heap) (Q : St → Heap → Prop) : Prop :=
  c_laws_copied s.x_text s.x_off s.x_m h fun w2 h1 =>
  Q { s with x_text := w2 } h1

def r21 (s : St) (h : Heap) (Q : St → Heap → Prop) : Prop :=
  Q { s with t46 := (IntKind.wrap .i64 (s.t46 + (1 : Int))) } h

def r22 (s : St) (h : Heap) (Q : St → Heap → Prop) : Prop :=
  c_laws_token s.x_end (0 : Int) h fun w2 h1 =>
  appendT Pg 5 s.x_b.p s.x_b.n s.x_b.c (.slice w2.p w2.n w2.c) w2.n h1 fun p3 n4 c5 h6 =>
  Q { s with x_b := ⟨p3, n4, c5⟩ } h6

def r23 (s : St) (h : Heap) (Q : St → Heap → Prop) : Prop :=
  appendT Pg 5 s.x_text.p s.x_text.n s.x_text.c (.slice s.x_end.p s.x_end.n s.x_end.c) s.x_end.n h fun p1 n2 c3 h4 =>
  Q { s with x_text := ⟨p1, n2, c3⟩ } h4

def r24 (s : St) (h : Heap) (Q : St → Heap → Prop) : Prop :=
  c_laws_convert s.x_b s.x_modified s.x_snappy h fun w2 r3 b4 h1 =>
  Q { s with x_out := w2, x_n := r3, x_ok := b4 } h1

def r25 (s : St) (h : Heap) (Q : Bool → St → Heap → Prop) : Prop :=
  (if (!s.x_ok) = false then
  (Q (s.x_n != ((s.x_text.n : Nat) : Int)) s h)
  else
  (Q true s h))

def r26 (s : St) (h : Heap) (Q : St → Heap → Prop) : Prop :=
  Q { s with t8 := false } h

def r27 (s : St) (h : Heap) (Q : Bool → St → Heap → Prop) : Prop :=
  Q s.x_snappy s h

def r28 (s : St) (h : Heap) (Q : St → Heap → Prop) : Prop :=
  c_laws_uvarint s.x_n h fun w2 h1 =>
  c_laws_join w2 s.x_out h1 fun w4 h3 =>
  c_spec_SnappyDecode w4 h3 fun w6 r7 h5 =>
  Q { s with x_plain := w6, x_told := r7 } h5

def r29 (s : St) (h : Heap) (Q : St → Heap → Prop) : Prop :=
  (if (s.x_told == (1 : Int)) = true then
  (c_laws_eq s.x_plain s.x_text h fun b2 h1 =>
  Q { s with t8 := b2 } h1)
  else
  (Q { s with t8 := false } h))

def r30 (s : St) (h : Heap) (Q : St → Heap → Prop) : Prop :=
  c_laws_uvarint s.x_n h fun w2 h1 =>
  c_laws_join w2 s.x_out h1 fun w4 h3 =>
  c_impl_S2Decode w4 h3 fun w6 b7 h5 =>
  Q { s with x_ok := b7, x_back := w6 } h5

def r31 (s : St) (h : Heap) (Q : St → Heap → Prop) : Prop :=
  (if s.x_ok = true then
  (c_laws_eq s.x_back s.x_text h fun b2 h1 =>
  Q { s with t8 := b2 } h1)
  else
  (Q { s with t8 := false } h))

def k22 : Stm St := (.seq (.reg r30) (.seq (.reg r31) .ret))
def k21 : Stm St := (.seq (.reg r28) (.seq (.reg r29) .ret))
def k20 : Stm St := (.seq (.test r27 k21 .skip) k22)
def k19 : Stm St := (.seq (.test r25 (.seq (.reg r26) .ret) .skip) k20)
def k18 : Stm St := (.seq (.reg r24) k19)
def k17 : Stm St := (.seq (.reg r23) k18)
def k16 : Stm St := (.seq (.reg r22) k17)
def k15 : Stm St := (.seq (.test r18 (.reg r19) .skip) (.reg r20))
def k14 : Stm St := (.seq (.reg r17) k15)
def k13 : Stm St := (.seq (.reg r16) k14)
def k12 : Stm St := (.seq (.reg r15) k13)
def k11 : Stm St := (.seq (.reg r14) k12)
def k10 : Stm St := (.seq (.test r12 (.reg r13) .skip) k11)
def k9 : Stm St := (.seq (.reg r11) k10)
def k8 : Stm St := (.seq (.test r9 (.seq (.reg r10) .ret) .skip) k9)
def k7 : Stm St := (.seq (.block 1 (.seq (.reg r8) k8)) (.reg r21))
def k6 : Stm St := (.seq (.cond (fun s => s.t47) .skip (.exit 0)) k7)
def k5 : Stm St := (.seq (.reg r7) k6)
def k4 : Stm St := (.block 0 (.loop k5))
def k3 : Stm St := (.seq (.seq (.reg r6) k4) k16)
def k2 : Stm St := (.seq (.reg r5) k3)
def k1 : Stm St := (.seq (.test r3 (.seq (.reg r4) .ret) .skip) k2)
def k0 : Stm St := (.seq (.test r1 (.seq (.reg r2) .ret) .skip) k1)

def stm : Stm St := (.seq (.reg r0) k0)

def ex : Ex → Pt St := fun _ => p0

set_option maxRecDepth 100000 in
theorem sim : Sim Pg 165 p1 (Tryd.f10.body.getD .skip) stm p0 ex :=
  (Sim.seq (Sim.reg (A := p1) (B := p1) (fun _ _ _ => by kernel_rfl))
  (Sim.seq (Sim.test (A := p1) (B := p1) (fun _ _ _ => by kernel_rfl) (Sim.seq (Sim.reg (A := p1) (B := p0) (fun _ _ _ => by kernel_rfl))
  (Sim.ret (A := p0) (E := ex) (fun _ => ⟨rfl, trivial⟩)))
  (Sim.skip (A := p1)))
  (Sim.seq (Sim.test (A := p1) (B := p1) (fun _ _ _ => by kernel_rfl) (Sim.seq (Sim.reg (A := p1) (B := p0) (fun _ _ _ => by kernel_rfl))
  (Sim.ret (A := p0) (E := ex) (fun _ => ⟨rfl, trivial⟩)))
  (Sim.skip (A := p1)))
  (Sim.seq (Sim.reg (A := p1) (B := p2) (fun _ _ _ => by kernel_rfl))
  (Sim.seq (Sim.seq (Sim.reg (A := p2) (B := p3) (fun _ _ _ => by kernel_rfl))
  (Sim.block (B := p4) (Sim.loop (A := p3) (Sim.seq (Sim.reg (A := p3) (B := p5) (fun _ _ _ => by kernel_rfl))
  (Sim.seq (Sim.cond (A := p5) (fun s => s.t47) (fun _ => rfl) (Sim.weak (B := p5) (C := p3) (Sim.skip (A := p5)) (fun _ => ⟨rfl, rfl, rfl, rfl, rfl, rfl, rfl, rfl, trivial⟩))
  (Sim.exit (A := p5) (fun _ => ⟨rfl, rfl, rfl, rfl, rfl, trivial⟩)))
  (Sim.seq (Sim.block (B := p3) (Sim.seq (Sim.reg (A := p3) (B := p6) (fun _ _ _ => by kernel_rfl))
  (Sim.seq (Sim.test (A := p6) (B := p6) (fun _ _ _ => by kernel_rfl) (Sim.seq (Sim.reg (A := p6) (B := p0) (fun _ _ _ => by kernel_rfl))
  (Sim.ret (A := p0) (E := (exAt (exAt ex 0 p4) 1 p3)) (fun _ => ⟨rfl, trivial⟩)))
  (Sim.skip (A := p6)))
  (Sim.seq (Sim.reg (A := p6) (B := p7) (fun _ _ _ => by kernel_rfl))
  (Sim.seq (Sim.test (A := p7) (B := p7) (fun _ _ _ => by kernel_rfl) (Sim.reg (A := p7) (B := p7) (fun _ _ _ => by kernel_rfl))
  (Sim.skip (A := p7)))
  (Sim.seq (Sim.reg (A := p7) (B := p8) (fun _ _ _ => by kernel_rfl))
  (Sim.seq (Sim.reg (A := p8) (B := p8) (fun _ _ _ => by kernel_rfl))
  (Sim.seq (Sim.reg (A := p8) (B := p9) (fun _ _ _ => by kernel_rfl))
  (Sim.seq (Sim.reg (A := p9) (B := p9) (fun _ _ _ => by kernel_rfl))
  (Sim.seq (Sim.test (A := p9) (B := p9) (fun _ _ _ => by kernel_rfl) (Sim.reg (A := p9) (B := p10) (fun _ _ _ => by kernel_rfl))
  (Sim.weak (B := p9) (C := p10) (Sim.skip (A := p9)) (fun _ => ⟨rfl, rfl, rfl, rfl, rfl, rfl, rfl, rfl, rfl, rfl, trivial⟩)))
  (Sim.reg (A := p10) (B := p3) (fun _ _ _ => by kernel_rfl))))))))))))
  (Sim.reg (A := p3) (B := p3) (fun _ _ _ => by kernel_rfl))))))))
  (Sim.seq (Sim.reg (A := p4) (B := p4) (fun _ _ _ => by kernel_rfl))
  (Sim.seq (Sim.reg (A := p4) (B := p11) (fun _ _ _ => by kernel_rfl))
  (Sim.seq (Sim.reg (A := p11) (B := p12) (fun _ _ _ => by kernel_rfl))
  (Sim.seq (Sim.test (A := p12) (B := p13) (fun _ _ _ => by kernel_rfl) (Sim.seq (Sim.reg (A := p13) (B := p0) (fun _ _ _ => by kernel_rfl))
  (Sim.ret (A := p0) (E := ex) (fun _ => ⟨rfl, trivial⟩)))
  (Sim.skip (A := p13)))
  (Sim.seq (Sim.test (A := p13) (B := p14) (fun _ _ _ => by kernel_rfl) (Sim.seq (Sim.reg (A := p14) (B := p15) (fun _ _ _ => by kernel_rfl))
  (Sim.seq (Sim.reg (A := p15) (B := p0) (fun _ _ _ => by kernel_rfl))
  (Sim.ret (A := p0) (E := ex) (fun _ => ⟨rfl, trivial⟩))))
  (Sim.skip (A := p14)))
  (Sim.seq (Sim.reg (A := p14) (B := p16) (fun _ _ _ => by kernel_rfl))
  (Sim.seq (Sim.reg (A := p16) (B := p0) (fun _ _ _ => by kernel_rfl))
  (Sim.ret (A := p0) (E := ex) (fun _ => ⟨rfl, trivial⟩))))))))))))))

def init (x_l : Sl) (x_end : Sl) (x_modified : Bool) (x_snappy : Bool) : St := { x_l := x_l, x_end := x_end, x_modified := x_modified, x_snappy := x_snappy, t8 := false, x_b := Sl.nil, x_text := Sl.nil, x_x := none, x_m := 0, x_least := 0, x_less := 0, x_off := 0, x_out := Sl.nil, x_n := 0, x_ok := false, x_plain := Sl.nil, x_told := 0, x_back := Sl.nil, t44 := Sl.nil, t45 := 0, t46 := 0, t47 := false }

/-- What is left of the results. -/
def res (K : Bool → Heap → Prop) (s : St) (h1 : Heap) : Prop := K s.t8 h1

/-- The call of 'pub-pemmican/laws.FnLz4Sequences'. -/
theorem calls (x_l : Sl) (x_end : Sl) (x_modified : Bool) (x_snappy : Bool) (h : Heap) (K : Bool → Heap → Prop)
    (H : stm (init x_l x_end x_modified x_snappy) h (endK (res K))) : c_laws_FnLz4Sequences x_l x_end x_modified x_snappy h K := by
  have hc : CallsH Pg 10 #[(.slice x_l.p x_l.n x_l.c), (.slice x_end.p x_end.n x_end.c), (.bool x_modified), (.bool x_snappy)] h fun v h1 => asB v fun b1 => K b1 h1 :=
    callsH_of_sim (R := p0) (fn := Tryd.f10) (c := Tryd.f10.body.getD .skip) Tryd.func10 rfl Tryd.ntmps10 Tryd.call10 sim (init x_l x_end x_modified x_snappy) (⟨rfl, rfl, rfl, rfl, trivial⟩) (Nat.le_of_ble_eq_true rfl) (fun _ => ⟨rfl, trivial⟩) rfl
      (res K) (fun _ _ => by kernel_rfl) H
  refine hc.mono ?_
  intro v hp H
  obtain ⟨b1, rfl, h1⟩ := asB_elim H
  exact ⟨_, rfl, h1⟩

end M_laws_FnLz4Sequences

end Go.Proofs.YtibleenkgmkpmaaDoor

