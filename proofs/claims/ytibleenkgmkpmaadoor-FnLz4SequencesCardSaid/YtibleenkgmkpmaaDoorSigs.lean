/- The names of the functions that the models speak of. -/
import Derived.Test.YtibleenkgmkpmaaDoorText2
import Derived.Test.YtibleenkgmkpmaaDoorProg
import Derived.KernelRfl

namespace Go.Proofs.YtibleenkgmkpmaaDoor
open Go Go.Vc Go.Proofs
/-- The rules that open statements, together. -/
theorem SS : type_of% (And.intro @st_reg <| And.intro @st_ret <| And.intro @st_exit <| And.intro @st_skip <| And.intro @st_test <| And.intro @st_block <| And.intro @st_cond <| And.intro @sq_reg <| And.intro @sq_ret <| And.intro @sq_exit <| And.intro @sq_skip <| And.intro @sq_test <| And.intro @sq_cond <| And.intro @sq_block <| And.intro @sq_seq <| And.intro @sq_loop <| And.intro @SK_norm <| And.intro @SK_exit <| And.intro @SK_ret <| And.intro @BK_norm <| And.intro @BK_ret <| And.intro @BK_same <| And.intro @BK_exit <| And.intro @LK_norm <| And.intro @LK_exit <| And.intro @LK_ret <| And.intro @endK_norm <| @endK_ret) := And.intro @st_reg <| And.intro @st_ret <| And.intro @st_exit <| And.intro @st_skip <| And.intro @st_test <| And.intro @st_block <| And.intro @st_cond <| And.intro @sq_reg <| And.intro @sq_ret <| And.intro @sq_exit <| And.intro @sq_skip <| And.intro @sq_test <| And.intro @sq_cond <| And.intro @sq_block <| And.intro @sq_seq <| And.intro @sq_loop <| And.intro @SK_norm <| And.intro @SK_exit <| And.intro @SK_ret <| And.intro @BK_norm <| And.intro @BK_ret <| And.intro @BK_same <| And.intro @BK_exit <| And.intro @LK_norm <| And.intro @LK_exit <| And.intro @LK_ret <| And.intro @endK_norm <| @endK_ret
/-- A variable of one kind is read. -/
def vI (e : Env) (i : Nat) (k : IntKind) (K : Int → Prop) : Prop := getV e i fun v => asI k v K
theorem gI {e : Env} {i : Nat} {k : IntKind} {K : Int → Prop} (H : vI e i k K) : ∃ (n : Int), e.get i = some (.int k n) ∧ K n := by
  obtain ⟨w, g, h⟩ := getV_elim H
  obtain ⟨n, rfl, h2⟩ := asI_elim h
  exact ⟨n, g, h2⟩
/-- A variable of one kind is read. -/
def vS (e : Env) (i : Nat) (K : Option Addr → Nat → Nat → Prop) : Prop := getV e i fun v => asS v K
theorem gS {e : Env} {i : Nat} {K : Option Addr → Nat → Nat → Prop} (H : vS e i K) : ∃ (p : Option Addr) (n c : Nat), e.get i = some (.slice p n c) ∧ K p n c := by
  obtain ⟨w, g, h⟩ := getV_elim H
  obtain ⟨p, n, c, rfl, h2⟩ := asS_elim h
  exact ⟨p, n, c, g, h2⟩
/-- A variable of one kind is read. -/
def vB (e : Env) (i : Nat) (K : Bool → Prop) : Prop := getV e i fun v => asB v K
theorem gB {e : Env} {i : Nat} {K : Bool → Prop} (H : vB e i K) : ∃ (b : Bool), e.get i = some (.bool b) ∧ K b := by
  obtain ⟨w, g, h⟩ := getV_elim H
  obtain ⟨b, rfl, h2⟩ := asB_elim h
  exact ⟨b, g, h2⟩
/-- A variable of one kind is read. -/
def vP (e : Env) (i : Nat) (K : Option Addr → Prop) : Prop := getV e i fun v => asP v K
theorem gP {e : Env} {i : Nat} {K : Option Addr → Prop} (H : vP e i K) : ∃ (p : Option Addr), e.get i = some (.pointer p) ∧ K p := by
  obtain ⟨w, g, h⟩ := getV_elim H
  obtain ⟨p, rfl, h2⟩ := asP_elim h
  exact ⟨p, g, h2⟩

/-- The seat's program. -/
noncomputable abbrev Pg : Program := Tryd.prog

def c_laws_FnMatchLen (x_a : Sl) (x_b : Sl) (h : Heap) (K : Bool → Heap → Prop) : Prop :=
  CallsH Pg 3 #[(.slice x_a.p x_a.n x_a.c), (.slice x_b.p x_b.n x_b.c)] h fun v h1 => ∃ r0 : Bool, v = (.bool r0) ∧ K r0 h1

def c_laws_FnS2Reads (x_b : Sl) (h : Heap) (K : Bool → Heap → Prop) : Prop :=
  CallsH Pg 4 #[(.slice x_b.p x_b.n x_b.c)] h fun v h1 => ∃ r0 : Bool, v = (.bool r0) ∧ K r0 h1

def c_laws_FnS2Any (x_l : Sl) (x_repeats : Bool) (h : Heap) (K : Bool → Heap → Prop) : Prop :=
  CallsH Pg 5 #[(.slice x_l.p x_l.n x_l.c), (.bool x_repeats)] h fun v h1 => ∃ r0 : Bool, v = (.bool r0) ∧ K r0 h1

def c_laws_FnConcatAny (x_ls : Sl) (x_repeats : Bool) (h : Heap) (K : Bool → Heap → Prop) : Prop :=
  CallsH Pg 6 #[(.slice x_ls.p x_ls.n x_ls.c), (.bool x_repeats)] h fun v h1 => ∃ r0 : Bool, v = (.bool r0) ∧ K r0 h1

def c_laws_FnEmitCopy (x_text : Sl) (x_offset : Int) (x_length : Int) (x_again : Bool) (h : Heap) (K : Bool → Heap → Prop) : Prop :=
  CallsH Pg 7 #[(.slice x_text.p x_text.n x_text.c), (.int .i64 x_offset), (.int .i64 x_length), (.bool x_again)] h fun v h1 => ∃ r0 : Bool, v = (.bool r0) ∧ K r0 h1

def c_laws_FnLz4Snappy (x_src : Sl) (x_modified : Bool) (h : Heap) (K : Bool → Heap → Prop) : Prop :=
  CallsH Pg 8 #[(.slice x_src.p x_src.n x_src.c), (.bool x_modified)] h fun v h1 => ∃ r0 : Bool, v = (.bool r0) ∧ K r0 h1

def c_laws_FnLz4Alike (x_src : Sl) (x_modified : Bool) (h : Heap) (K : Bool → Heap → Prop) : Prop :=
  CallsH Pg 9 #[(.slice x_src.p x_src.n x_src.c), (.bool x_modified)] h fun v h1 => ∃ r0 : Bool, v = (.bool r0) ∧ K r0 h1

def c_laws_FnLz4Sequences (x_l : Sl) (x_end : Sl) (x_modified : Bool) (x_snappy : Bool) (h : Heap) (K : Bool → Heap → Prop) : Prop :=
  CallsH Pg 10 #[(.slice x_l.p x_l.n x_l.c), (.slice x_end.p x_end.n x_end.c), (.bool x_modified), (.bool x_snappy)] h fun v h1 => ∃ r0 : Bool, v = (.bool r0) ∧ K r0 h1

def c_impl_S2MatchLen (x_a : Sl) (x_b : Sl) (h : Heap) (K : Int → Heap → Prop) : Prop :=
  CallsH Pg 11 #[(.slice x_a.p x_a.n x_a.c), (.slice x_b.p x_b.n x_b.c)] h fun v h1 => ∃ r0 : Int, v = (.int .i64 r0) ∧ K r0 h1

def c_spec_S2Len (x_src : Sl) (h : Heap) (K : Int → Int → Int → Heap → Prop) : Prop :=
  CallsH Pg 12 #[(.slice x_src.p x_src.n x_src.c)] h fun v h1 => ∃ r0 : Int, ∃ r1 : Int, ∃ r2 : Int, v = (.tuple #[(.int .i64 r0), (.int .i64 r1), (.int .i64 r2)]) ∧ K r0 r1 r2 h1

def c_spec_S2Decode (x_src : Sl) (h : Heap) (K : Sl → Int → Heap → Prop) : Prop :=
  CallsH Pg 13 #[(.slice x_src.p x_src.n x_src.c)] h fun v h1 => ∃ (r0_p : Option Addr) (r0_n r0_c : Nat), ∃ r1 : Int, v = (.tuple #[(.slice r0_p r0_n r0_c), (.int .i64 r1)]) ∧ K ⟨r0_p, r0_n, r0_c⟩ r1 h1

def c_impl_S2Decode (x_src : Sl) (h : Heap) (K : Sl → Bool → Heap → Prop) : Prop :=
  CallsH Pg 14 #[(.slice x_src.p x_src.n x_src.c)] h fun v h1 => ∃ (r0_p : Option Addr) (r0_n r0_c : Nat), ∃ r1 : Bool, v = (.tuple #[(.slice r0_p r0_n r0_c), (.bool r1)]) ∧ K ⟨r0_p, r0_n, r0_c⟩ r1 h1

def c_laws_eq (x_a : Sl) (x_b : Sl) (h : Heap) (K : Bool → Heap → Prop) : Prop :=
  CallsH Pg 15 #[(.slice x_a.p x_a.n x_a.c), (.slice x_b.p x_b.n x_b.c)] h fun v h1 => ∃ r0 : Bool, v = (.bool r0) ∧ K r0 h1

def c_laws_zzFits1 (x_x : Sl) (h : Heap) (K : Bool → Heap → Prop) : Prop :=
  CallsH Pg 16 #[(.slice x_x.p x_x.n x_x.c)] h fun v h1 => ∃ r0 : Bool, v = (.bool r0) ∧ K r0 h1

def c_laws_pieces (x_l : Sl) (h : Heap) (K : Bool → Heap → Prop) : Prop :=
  CallsH Pg 17 #[(.slice x_l.p x_l.n x_l.c)] h fun v h1 => ∃ r0 : Bool, v = (.bool r0) ∧ K r0 h1

def c_spec_S2Write (x_l : Sl) (x_dict : Sl) (x_first : Int) (x_repeats : Bool) (h : Heap) (K : Sl → Sl → Heap → Prop) : Prop :=
  CallsH Pg 18 #[(.slice x_l.p x_l.n x_l.c), (.slice x_dict.p x_dict.n x_dict.c), (.int .i64 x_first), (.bool x_repeats)] h fun v h1 => ∃ (r0_p : Option Addr) (r0_n r0_c : Nat), ∃ (r1_p : Option Addr) (r1_n r1_c : Nat), v = (.tuple #[(.slice r0_p r0_n r0_c), (.slice r1_p r1_n r1_c)]) ∧ K ⟨r0_p, r0_n, r0_c⟩ ⟨r1_p, r1_n, r1_c⟩ h1

def c_impl_S2BlockDecode (x_size : Int) (x_block : Sl) (h : Heap) (K : Sl → Int → Heap → Prop) : Prop :=
  CallsH Pg 19 #[(.int .i64 x_size), (.slice x_block.p x_block.n x_block.c)] h fun v h1 => ∃ (r0_p : Option Addr) (r0_n r0_c : Nat), ∃ r1 : Int, v = (.tuple #[(.slice r0_p r0_n r0_c), (.int .i64 r1)]) ∧ K ⟨r0_p, r0_n, r0_c⟩ r1 h1

def c_laws_zzFits3 (x_x : Sl) (h : Heap) (K : Bool → Heap → Prop) : Prop :=
  CallsH Pg 20 #[(.slice x_x.p x_x.n x_x.c)] h fun v h1 => ∃ r0 : Bool, v = (.bool r0) ∧ K r0 h1

def c_impl_S2Concat (x_dst : Sl) (x_blocks : Sl) (h : Heap) (K : Sl → Bool → Heap → Prop) : Prop :=
  CallsH Pg 21 #[(.slice x_dst.p x_dst.n x_dst.c), (.slice x_blocks.p x_blocks.n x_blocks.c)] h fun v h1 => ∃ (r0_p : Option Addr) (r0_n r0_c : Nat), ∃ r1 : Bool, v = (.tuple #[(.slice r0_p r0_n r0_c), (.bool r1)]) ∧ K ⟨r0_p, r0_n, r0_c⟩ r1 h1

def c_laws_copied (x_text : Sl) (x_offset : Int) (x_length : Int) (h : Heap) (K : Sl → Heap → Prop) : Prop :=
  CallsH Pg 22 #[(.slice x_text.p x_text.n x_text.c), (.int .i64 x_offset), (.int .i64 x_length)] h fun v h1 => ∃ (r0_p : Option Addr) (r0_n r0_c : Nat), v = (.slice r0_p r0_n r0_c) ∧ K ⟨r0_p, r0_n, r0_c⟩ h1

def c_laws_block (x_n : Int) (x_parts : Sl) (h : Heap) (K : Sl → Heap → Prop) : Prop :=
  CallsH Pg 23 #[(.int .i64 x_n), (.slice x_parts.p x_parts.n x_parts.c)] h fun v h1 => ∃ (r0_p : Option Addr) (r0_n r0_c : Nat), v = (.slice r0_p r0_n r0_c) ∧ K ⟨r0_p, r0_n, r0_c⟩ h1

def c_impl_S2EmitLiteral (x_lit : Sl) (h : Heap) (K : Sl → Heap → Prop) : Prop :=
  CallsH Pg 24 #[(.slice x_lit.p x_lit.n x_lit.c)] h fun v h1 => ∃ (r0_p : Option Addr) (r0_n r0_c : Nat), v = (.slice r0_p r0_n r0_c) ∧ K ⟨r0_p, r0_n, r0_c⟩ h1

def c_impl_S2EmitCopy (x_offset : Int) (x_length : Int) (x_repeat : Bool) (h : Heap) (K : Sl → Heap → Prop) : Prop :=
  CallsH Pg 25 #[(.int .i64 x_offset), (.int .i64 x_length), (.bool x_repeat)] h fun v h1 => ∃ (r0_p : Option Addr) (r0_n r0_c : Nat), v = (.slice r0_p r0_n r0_c) ∧ K ⟨r0_p, r0_n, r0_c⟩ h1

def c_spec_SnappyDecode (x_src : Sl) (h : Heap) (K : Sl → Int → Heap → Prop) : Prop :=
  CallsH Pg 26 #[(.slice x_src.p x_src.n x_src.c)] h fun v h1 => ∃ (r0_p : Option Addr) (r0_n r0_c : Nat), ∃ r1 : Int, v = (.tuple #[(.slice r0_p r0_n r0_c), (.int .i64 r1)]) ∧ K ⟨r0_p, r0_n, r0_c⟩ r1 h1

def c_laws_lz4 (x_src : Sl) (x_modified : Bool) (h : Heap) (K : Sl → Int → Heap → Prop) : Prop :=
  CallsH Pg 27 #[(.slice x_src.p x_src.n x_src.c), (.bool x_modified)] h fun v h1 => ∃ (r0_p : Option Addr) (r0_n r0_c : Nat), ∃ r1 : Int, v = (.tuple #[(.slice r0_p r0_n r0_c), (.int .i64 r1)]) ∧ K ⟨r0_p, r0_n, r0_c⟩ r1 h1

def c_laws_convert (x_src : Sl) (x_modified : Bool) (x_snappy : Bool) (h : Heap) (K : Sl → Int → Bool → Heap → Prop) : Prop :=
  CallsH Pg 28 #[(.slice x_src.p x_src.n x_src.c), (.bool x_modified), (.bool x_snappy)] h fun v h1 => ∃ (r0_p : Option Addr) (r0_n r0_c : Nat), ∃ r1 : Int, ∃ r2 : Bool, v = (.tuple #[(.slice r0_p r0_n r0_c), (.int .i64 r1), (.bool r2)]) ∧ K ⟨r0_p, r0_n, r0_c⟩ r1 r2 h1

def c_laws_join (x_a : Sl) (x_b : Sl) (h : Heap) (K : Sl → Heap → Prop) : Prop :=
  CallsH Pg 29 #[(.slice x_a.p x_a.n x_a.c), (.slice x_b.p x_b.n x_b.c)] h fun v h1 => ∃ (r0_p : Option Addr) (r0_n r0_c : Nat), v = (.slice r0_p r0_n r0_c) ∧ K ⟨r0_p, r0_n, r0_c⟩ h1

def c_laws_uvarint (x_n : Int) (h : Heap) (K : Sl → Heap → Prop) : Prop :=
  CallsH Pg 30 #[(.int .i64 x_n)] h fun v h1 => ∃ (r0_p : Option Addr) (r0_n r0_c : Nat), v = (.slice r0_p r0_n r0_c) ∧ K ⟨r0_p, r0_n, r0_c⟩ h1

def c_laws_zzFits6 (x_x : Sl) (h : Heap) (K : Bool → Heap → Prop) : Prop :=
  CallsH Pg 31 #[(.slice x_x.p x_x.n x_x.c)] h fun v h1 => ∃ r0 : Bool, v = (.bool r0) ∧ K r0 h1

def c_laws_token (x_lit : Sl) (x_low : Int) (h : Heap) (K : Sl → Heap → Prop) : Prop :=
  CallsH Pg 32 #[(.slice x_lit.p x_lit.n x_lit.c), (.int .i64 x_low)] h fun v h1 => ∃ (r0_p : Option Addr) (r0_n r0_c : Nat), v = (.slice r0_p r0_n r0_c) ∧ K ⟨r0_p, r0_n, r0_c⟩ h1

def c_laws_further (x_n : Int) (h : Heap) (K : Sl → Heap → Prop) : Prop :=
  CallsH Pg 33 #[(.int .i64 x_n)] h fun v h1 => ∃ (r0_p : Option Addr) (r0_n r0_c : Nat), v = (.slice r0_p r0_n r0_c) ∧ K ⟨r0_p, r0_n, r0_c⟩ h1

def c_ZzMatchLen (x_a : Sl) (x_b : Sl) (h : Heap) (K : Int → Heap → Prop) : Prop :=
  CallsH Pg 34 #[(.slice x_a.p x_a.n x_a.c), (.slice x_b.p x_b.n x_b.c)] h fun v h1 => ∃ r0 : Int, v = (.int .i64 r0) ∧ K r0 h1

def c_spec_decoded (x_src : Sl) (x_s : Option Addr) (x_s2 : Bool) (h : Heap) (K : Sl → Int → Heap → Prop) : Prop :=
  CallsH Pg 35 #[(.slice x_src.p x_src.n x_src.c), (.pointer x_s), (.bool x_s2)] h fun v h1 => ∃ (r0_p : Option Addr) (r0_n r0_c : Nat), ∃ r1 : Int, v = (.tuple #[(.slice r0_p r0_n r0_c), (.int .i64 r1)]) ∧ K ⟨r0_p, r0_n, r0_c⟩ r1 h1

def c_impl_told (x_b : Sl) (x_err : Value) (h : Heap) (K : Sl → Bool → Heap → Prop) : Prop :=
  CallsH Pg 36 #[(.slice x_b.p x_b.n x_b.c), x_err] h fun v h1 => ∃ (r0_p : Option Addr) (r0_n r0_c : Nat), ∃ r1 : Bool, v = (.tuple #[(.slice r0_p r0_n r0_c), (.bool r1)]) ∧ K ⟨r0_p, r0_n, r0_c⟩ r1 h1

def c_Decode (x_dst : Sl) (x_src : Sl) (h : Heap) (K : Sl → Value → Heap → Prop) : Prop :=
  CallsH Pg 37 #[(.slice x_dst.p x_dst.n x_dst.c), (.slice x_src.p x_src.n x_src.c)] h fun v h1 => ∃ (r0_p : Option Addr) (r0_n r0_c : Nat), ∃ r1 : Value, v = (.tuple #[(.slice r0_p r0_n r0_c), r1]) ∧ K ⟨r0_p, r0_n, r0_c⟩ r1 h1

def c_laws_zzFits2 (x_x_0 : Int) (x_x_1 : Sl) (x_x_2 : Int) (x_x_3 : Int) (h : Heap) (K : Bool → Heap → Prop) : Prop :=
  CallsH Pg 38 #[(.agg #[(.int .u8 x_x_0), (.slice x_x_1.p x_x_1.n x_x_1.c), (.int .u32 x_x_2), (.int .u32 x_x_3)])] h fun v h1 => ∃ r0 : Bool, v = (.bool r0) ∧ K r0 h1

def c_writer_literal (x_w : Option Addr) (x_data : Sl) (x_form : Int) (h : Heap) (K : Heap → Prop) : Prop :=
  CallsH Pg 39 #[(.pointer x_w), (.slice x_data.p x_data.n x_data.c), (.int .u32 x_form)] h fun v h1 => v = (.tuple #[]) ∧ K  h1

def c_writer_copy (x_w : Option Addr) (x_bytes : Int) (x_p_0 : Int) (x_p_1 : Sl) (x_p_2 : Int) (x_p_3 : Int) (h : Heap) (K : Heap → Prop) : Prop :=
  CallsH Pg 40 #[(.pointer x_w), (.int .i64 x_bytes), (.agg #[(.int .u8 x_p_0), (.slice x_p_1.p x_p_1.n x_p_1.c), (.int .u32 x_p_2), (.int .u32 x_p_3)])] h fun v h1 => v = (.tuple #[]) ∧ K  h1

def c_writer_repeat (x_w : Option Addr) (x_p_0 : Int) (x_p_1 : Sl) (x_p_2 : Int) (x_p_3 : Int) (h : Heap) (K : Heap → Prop) : Prop :=
  CallsH Pg 41 #[(.pointer x_w), (.agg #[(.int .u8 x_p_0), (.slice x_p_1.p x_p_1.n x_p_1.c), (.int .u32 x_p_2), (.int .u32 x_p_3)])] h fun v h1 => v = (.tuple #[]) ∧ K  h1

def c_spec_varint (x_n : Int) (h : Heap) (K : Sl → Heap → Prop) : Prop :=
  CallsH Pg 42 #[(.int .i64 x_n)] h fun v h1 => ∃ (r0_p : Option Addr) (r0_n r0_c : Nat), v = (.slice r0_p r0_n r0_c) ∧ K ⟨r0_p, r0_n, r0_c⟩ h1

def c_ZzDecode (x_dst : Sl) (x_src : Sl) (h : Heap) (K : Int → Heap → Prop) : Prop :=
  CallsH Pg 43 #[(.slice x_dst.p x_dst.n x_dst.c), (.slice x_src.p x_src.n x_src.c)] h fun v h1 => ∃ r0 : Int, v = (.int .i64 r0) ∧ K r0 h1

def c_ConcatBlocks (x_dst : Sl) (x_blocks : Sl) (h : Heap) (K : Sl → Value → Heap → Prop) : Prop :=
  CallsH Pg 44 #[(.slice x_dst.p x_dst.n x_dst.c), (.slice x_blocks.p x_blocks.n x_blocks.c)] h fun v h1 => ∃ (r0_p : Option Addr) (r0_n r0_c : Nat), ∃ r1 : Value, v = (.tuple #[(.slice r0_p r0_n r0_c), r1]) ∧ K ⟨r0_p, r0_n, r0_c⟩ r1 h1

def c_impl_copied (x_b : Sl) (h : Heap) (K : Sl → Heap → Prop) : Prop :=
  CallsH Pg 45 #[(.slice x_b.p x_b.n x_b.c)] h fun v h1 => ∃ (r0_p : Option Addr) (r0_n r0_c : Nat), v = (.slice r0_p r0_n r0_c) ∧ K ⟨r0_p, r0_n, r0_c⟩ h1

def c_ZzEmitLiteral (x_dst : Sl) (x_lit : Sl) (h : Heap) (K : Int → Heap → Prop) : Prop :=
  CallsH Pg 46 #[(.slice x_dst.p x_dst.n x_dst.c), (.slice x_lit.p x_lit.n x_lit.c)] h fun v h1 => ∃ r0 : Int, v = (.int .i64 r0) ∧ K r0 h1

def c_ZzEmitCopy (x_dst : Sl) (x_offset : Int) (x_length : Int) (h : Heap) (K : Int → Heap → Prop) : Prop :=
  CallsH Pg 47 #[(.slice x_dst.p x_dst.n x_dst.c), (.int .i64 x_offset), (.int .i64 x_length)] h fun v h1 => ∃ r0 : Int, v = (.int .i64 r0) ∧ K r0 h1

def c_ZzEmitCopyNoRepeat (x_dst : Sl) (x_offset : Int) (x_length : Int) (h : Heap) (K : Int → Heap → Prop) : Prop :=
  CallsH Pg 48 #[(.slice x_dst.p x_dst.n x_dst.c), (.int .i64 x_offset), (.int .i64 x_length)] h fun v h1 => ∃ r0 : Int, v = (.int .i64 r0) ∧ K r0 h1

def c_spec_Lz4sDecode (x_src : Sl) (h : Heap) (K : Sl → Int → Heap → Prop) : Prop :=
  CallsH Pg 49 #[(.slice x_src.p x_src.n x_src.c)] h fun v h1 => ∃ (r0_p : Option Addr) (r0_n r0_c : Nat), ∃ r1 : Int, v = (.tuple #[(.slice r0_p r0_n r0_c), (.int .i64 r1)]) ∧ K ⟨r0_p, r0_n, r0_c⟩ r1 h1

def c_spec_Lz4Decode (x_src : Sl) (h : Heap) (K : Sl → Int → Heap → Prop) : Prop :=
  CallsH Pg 50 #[(.slice x_src.p x_src.n x_src.c)] h fun v h1 => ∃ (r0_p : Option Addr) (r0_n r0_c : Nat), ∃ r1 : Int, v = (.tuple #[(.slice r0_p r0_n r0_c), (.int .i64 r1)]) ∧ K ⟨r0_p, r0_n, r0_c⟩ r1 h1

def c_impl_Lz4sConvert (x_src : Sl) (x_snappy : Bool) (h : Heap) (K : Sl → Int → Bool → Heap → Prop) : Prop :=
  CallsH Pg 51 #[(.slice x_src.p x_src.n x_src.c), (.bool x_snappy)] h fun v h1 => ∃ (r0_p : Option Addr) (r0_n r0_c : Nat), ∃ r1 : Int, ∃ r2 : Bool, v = (.tuple #[(.slice r0_p r0_n r0_c), (.int .i64 r1), (.bool r2)]) ∧ K ⟨r0_p, r0_n, r0_c⟩ r1 r2 h1

def c_impl_Lz4Convert (x_src : Sl) (x_snappy : Bool) (h : Heap) (K : Sl → Int → Bool → Heap → Prop) : Prop :=
  CallsH Pg 52 #[(.slice x_src.p x_src.n x_src.c), (.bool x_snappy)] h fun v h1 => ∃ (r0_p : Option Addr) (r0_n r0_c : Nat), ∃ r1 : Int, ∃ r2 : Bool, v = (.tuple #[(.slice r0_p r0_n r0_c), (.int .i64 r1), (.bool r2)]) ∧ K ⟨r0_p, r0_n, r0_c⟩ r1 r2 h1

def c_laws_zzFits7 (x_x_0 : Sl) (x_x_1 : Int) (x_x_2 : Int) (h : Heap) (K : Bool → Heap → Prop) : Prop :=
  CallsH Pg 53 #[(.agg #[(.slice x_x_0.p x_x_0.n x_x_0.c), (.int .u16 x_x_1), (.int .u16 x_x_2)])] h fun v h1 => ∃ r0 : Bool, v = (.bool r0) ∧ K r0 h1

def c_matchLen (x_a : Sl) (x_b : Sl) (h : Heap) (K : Int → Heap → Prop) : Prop :=
  CallsH Pg 54 #[(.slice x_a.p x_a.n x_a.c), (.slice x_b.p x_b.n x_b.c)] h fun v h1 => ∃ r0 : Int, v = (.int .i64 r0) ∧ K r0 h1

def c_state_elements (x_s : Option Addr) (x_src : Sl) (x_at : Int) (x_n : Int) (x_s2 : Bool) (h : Heap) (K : Int → Heap → Prop) : Prop :=
  CallsH Pg 55 #[(.pointer x_s), (.slice x_src.p x_src.n x_src.c), (.int .i64 x_at), (.int .i64 x_n), (.bool x_s2)] h fun v h1 => ∃ r0 : Int, v = (.int .i64 r0) ∧ K r0 h1

def c_decodedLen (x_src : Sl) (h : Heap) (K : Int → Int → Value → Heap → Prop) : Prop :=
  CallsH Pg 56 #[(.slice x_src.p x_src.n x_src.c)] h fun v h1 => ∃ r0 : Int, ∃ r1 : Int, ∃ r2 : Value, v = (.tuple #[(.int .i64 r0), (.int .i64 r1), r2]) ∧ K r0 r1 r2 h1

def c_WriteSlice (x_s : Sl) (h : Heap) (K : Heap → Prop) : Prop :=
  CallsH Pg 57 #[(.slice x_s.p x_s.n x_s.c)] h fun v h1 => v = (.tuple #[]) ∧ K  h1

def c_ReadSlice (x_s : Sl) (h : Heap) (K : Heap → Prop) : Prop :=
  CallsH Pg 58 #[(.slice x_s.p x_s.n x_s.c)] h fun v h1 => v = (.tuple #[]) ∧ K  h1

def c_s2Decode (x_dst : Sl) (x_src : Sl) (h : Heap) (K : Int → Heap → Prop) : Prop :=
  CallsH Pg 59 #[(.slice x_dst.p x_dst.n x_dst.c), (.slice x_src.p x_src.n x_src.c)] h fun v h1 => ∃ r0 : Int, v = (.int .i64 r0) ∧ K r0 h1

def c_spec_within (x_n : Int) (x_least : Int) (x_most : Int) (h : Heap) (K : Int → Heap → Prop) : Prop :=
  CallsH Pg 60 #[(.int .u32 x_n), (.int .i64 x_least), (.int .i64 x_most)] h fun v h1 => ∃ r0 : Int, v = (.int .i64 r0) ∧ K r0 h1

def c_spec_bytesOf (x_n : Int) (x_bytes : Int) (h : Heap) (K : Sl → Heap → Prop) : Prop :=
  CallsH Pg 61 #[(.int .i64 x_n), (.int .i64 x_bytes)] h fun v h1 => ∃ (r0_p : Option Addr) (r0_n r0_c : Nat), v = (.slice r0_p r0_n r0_c) ∧ K ⟨r0_p, r0_n, r0_c⟩ h1

def c_writer_back (x_w : Option Addr) (h : Heap) (K : Int → Heap → Prop) : Prop :=
  CallsH Pg 62 #[(.pointer x_w)] h fun v h1 => ∃ r0 : Int, v = (.int .i64 r0) ∧ K r0 h1

def c_writer_longest (x_w : Option Addr) (x_offset : Int) (x_most : Int) (h : Heap) (K : Int → Heap → Prop) : Prop :=
  CallsH Pg 63 #[(.pointer x_w), (.int .i64 x_offset), (.int .i64 x_most)] h fun v h1 => ∃ r0 : Int, v = (.int .i64 r0) ∧ K r0 h1

def c_state_copied (x_s : Option Addr) (x_offset : Int) (x_length : Int) (h : Heap) (K : Bool → Heap → Prop) : Prop :=
  CallsH Pg 64 #[(.pointer x_s), (.int .i64 x_offset), (.int .i64 x_length)] h fun v h1 => ∃ r0 : Bool, v = (.bool r0) ∧ K r0 h1

def c_PutUvarint (x_buf : Sl) (x_x : Int) (h : Heap) (K : Int → Heap → Prop) : Prop :=
  CallsH Pg 65 #[(.slice x_buf.p x_buf.n x_buf.c), (.int .u64 x_x)] h fun v h1 => ∃ r0 : Int, v = (.int .i64 r0) ∧ K r0 h1

def c_emitLiteral (x_dst : Sl) (x_lit : Sl) (h : Heap) (K : Int → Heap → Prop) : Prop :=
  CallsH Pg 66 #[(.slice x_dst.p x_dst.n x_dst.c), (.slice x_lit.p x_lit.n x_lit.c)] h fun v h1 => ∃ r0 : Int, v = (.int .i64 r0) ∧ K r0 h1

def c_emitCopy (x_dst : Sl) (x_offset : Int) (x_length : Int) (h : Heap) (K : Int → Heap → Prop) : Prop :=
  CallsH Pg 67 #[(.slice x_dst.p x_dst.n x_dst.c), (.int .i64 x_offset), (.int .i64 x_length)] h fun v h1 => ∃ r0 : Int, v = (.int .i64 r0) ∧ K r0 h1

def c_emitCopyNoRepeat (x_dst : Sl) (x_offset : Int) (x_length : Int) (h : Heap) (K : Int → Heap → Prop) : Prop :=
  CallsH Pg 68 #[(.slice x_dst.p x_dst.n x_dst.c), (.int .i64 x_offset), (.int .i64 x_length)] h fun v h1 => ∃ r0 : Int, v = (.int .i64 r0) ∧ K r0 h1

def c_lz4_literals (x_l : Option Addr) (x_n : Int) (h : Heap) (K : Bool → Heap → Prop) : Prop :=
  CallsH Pg 69 #[(.pointer x_l), (.int .i64 x_n)] h fun v h1 => ∃ r0 : Bool, v = (.bool r0) ∧ K r0 h1

def c_lz4_answer (x_l : Option Addr) (h : Heap) (K : Sl → Int → Heap → Prop) : Prop :=
  CallsH Pg 70 #[(.pointer x_l)] h fun v h1 => ∃ (r0_p : Option Addr) (r0_n r0_c : Nat), ∃ r1 : Int, v = (.tuple #[(.slice r0_p r0_n r0_c), (.int .i64 r1)]) ∧ K ⟨r0_p, r0_n, r0_c⟩ r1 h1

def c_lz4_match (x_l : Option Addr) (x_n : Int) (x_least : Int) (h : Heap) (K : Bool → Heap → Prop) : Prop :=
  CallsH Pg 71 #[(.pointer x_l), (.int .i64 x_n), (.int .i64 x_least)] h fun v h1 => ∃ r0 : Bool, v = (.bool r0) ∧ K r0 h1

def c_Ls2 (x_l : Option Addr) (x_dst : Sl) (x_src : Sl) (h : Heap) (K : Sl → Int → Value → Heap → Prop) : Prop :=
  CallsH Pg 72 #[(.pointer x_l), (.slice x_dst.p x_dst.n x_dst.c), (.slice x_src.p x_src.n x_src.c)] h fun v h1 => ∃ (r0_p : Option Addr) (r0_n r0_c : Nat), ∃ r1 : Int, ∃ r2 : Value, v = (.tuple #[(.slice r0_p r0_n r0_c), (.int .i64 r1), r2]) ∧ K ⟨r0_p, r0_n, r0_c⟩ r1 r2 h1

def c_LsS (x_l : Option Addr) (x_dst : Sl) (x_src : Sl) (h : Heap) (K : Sl → Int → Value → Heap → Prop) : Prop :=
  CallsH Pg 73 #[(.pointer x_l), (.slice x_dst.p x_dst.n x_dst.c), (.slice x_src.p x_src.n x_src.c)] h fun v h1 => ∃ (r0_p : Option Addr) (r0_n r0_c : Nat), ∃ r1 : Int, ∃ r2 : Value, v = (.tuple #[(.slice r0_p r0_n r0_c), (.int .i64 r1), r2]) ∧ K ⟨r0_p, r0_n, r0_c⟩ r1 r2 h1

def c_Lc2 (x_l : Option Addr) (x_dst : Sl) (x_src : Sl) (h : Heap) (K : Sl → Int → Value → Heap → Prop) : Prop :=
  CallsH Pg 74 #[(.pointer x_l), (.slice x_dst.p x_dst.n x_dst.c), (.slice x_src.p x_src.n x_src.c)] h fun v h1 => ∃ (r0_p : Option Addr) (r0_n r0_c : Nat), ∃ r1 : Int, ∃ r2 : Value, v = (.tuple #[(.slice r0_p r0_n r0_c), (.int .i64 r1), r2]) ∧ K ⟨r0_p, r0_n, r0_c⟩ r1 r2 h1

def c_LcS (x_l : Option Addr) (x_dst : Sl) (x_src : Sl) (h : Heap) (K : Sl → Int → Value → Heap → Prop) : Prop :=
  CallsH Pg 75 #[(.pointer x_l), (.slice x_dst.p x_dst.n x_dst.c), (.slice x_src.p x_src.n x_src.c)] h fun v h1 => ∃ (r0_p : Option Addr) (r0_n r0_c : Nat), ∃ r1 : Int, ∃ r2 : Value, v = (.tuple #[(.slice r0_p r0_n r0_c), (.int .i64 r1), r2]) ∧ K ⟨r0_p, r0_n, r0_c⟩ r1 r2 h1

def c_load32 (x_b : Sl) (x_i : Int) (h : Heap) (K : Int → Heap → Prop) : Prop :=
  CallsH Pg 76 #[(.slice x_b.p x_b.n x_b.c), (.int .i64 x_i)] h fun v h1 => ∃ r0 : Int, v = (.int .u32 r0) ∧ K r0 h1

def c_TrailingZeros32 (x_x : Int) (h : Heap) (K : Int → Heap → Prop) : Prop :=
  CallsH Pg 77 #[(.int .u32 x_x)] h fun v h1 => ∃ r0 : Int, v = (.int .i64 r0) ∧ K r0 h1

def c_load64 (x_b : Sl) (x_i : Int) (h : Heap) (K : Int → Heap → Prop) : Prop :=
  CallsH Pg 78 #[(.slice x_b.p x_b.n x_b.c), (.int .i64 x_i)] h fun v h1 => ∃ r0 : Int, v = (.int .u64 r0) ∧ K r0 h1

def c_TrailingZeros64 (x_x : Int) (h : Heap) (K : Int → Heap → Prop) : Prop :=
  CallsH Pg 79 #[(.int .u64 x_x)] h fun v h1 => ∃ r0 : Int, v = (.int .i64 r0) ∧ K r0 h1

def c_spec_readElement (x_src : Sl) (x_at : Int) (x_s2 : Bool) (h : Heap) (K : Bool → Int → Int → Int → Bool → Int → Bool → Heap → Prop) : Prop :=
  CallsH Pg 80 #[(.slice x_src.p x_src.n x_src.c), (.int .i64 x_at), (.bool x_s2)] h fun v h1 => ∃ r0_0 : Bool, ∃ r0_1 : Int, ∃ r0_2 : Int, ∃ r0_3 : Int, ∃ r0_4 : Bool, ∃ r0_5 : Int, ∃ r1 : Bool, v = (.tuple #[(.agg #[(.bool r0_0), (.int .i64 r0_1), (.int .i64 r0_2), (.int .i64 r0_3), (.bool r0_4), (.int .i64 r0_5)]), (.bool r1)]) ∧ K r0_0 r0_1 r0_2 r0_3 r0_4 r0_5 r1 h1

def c_Uvarint (x_buf : Sl) (h : Heap) (K : Int → Int → Heap → Prop) : Prop :=
  CallsH Pg 81 #[(.slice x_buf.p x_buf.n x_buf.c)] h fun v h1 => ∃ r0 : Int, ∃ r1 : Int, v = (.tuple #[(.int .u64 r0), (.int .i64 r1)]) ∧ K r0 r1 h1

def c_Load16 (x_b : Sl) (x_i : Int) (h : Heap) (K : Int → Heap → Prop) : Prop :=
  CallsH Pg 82 #[(.slice x_b.p x_b.n x_b.c), (.int .i64 x_i)] h fun v h1 => ∃ r0 : Int, v = (.int .u16 r0) ∧ K r0 h1

def c_Load32 (x_b : Sl) (x_i : Int) (h : Heap) (K : Int → Heap → Prop) : Prop :=
  CallsH Pg 83 #[(.slice x_b.p x_b.n x_b.c), (.int .i64 x_i)] h fun v h1 => ∃ r0 : Int, v = (.int .u32 r0) ∧ K r0 h1

def c_emitRepeat (x_dst : Sl) (x_offset : Int) (x_length : Int) (h : Heap) (K : Int → Heap → Prop) : Prop :=
  CallsH Pg 84 #[(.slice x_dst.p x_dst.n x_dst.c), (.int .i64 x_offset), (.int .i64 x_length)] h fun v h1 => ∃ r0 : Int, v = (.int .i64 r0) ∧ K r0 h1

def c_lz4_more (x_l : Option Addr) (x_n : Int) (h : Heap) (K : Int → Bool → Heap → Prop) : Prop :=
  CallsH Pg 85 #[(.pointer x_l), (.int .i64 x_n)] h fun v h1 => ∃ r0 : Int, ∃ r1 : Bool, v = (.tuple #[(.int .i64 r0), (.bool r1)]) ∧ K r0 r1 h1

def c_spec_little (x_src : Sl) (x_at : Int) (x_bytes : Int) (h : Heap) (K : Int → Heap → Prop) : Prop :=
  CallsH Pg 86 #[(.slice x_src.p x_src.n x_src.c), (.int .i64 x_at), (.int .i64 x_bytes)] h fun v h1 => ∃ r0 : Int, v = (.int .i64 r0) ∧ K r0 h1

def c_cvtLZ4sBlockAsm (x_dst : Sl) (x_src : Sl) (h : Heap) (K : Int → Int → Heap → Prop) : Prop :=
  CallsH Pg 87 #[(.slice x_dst.p x_dst.n x_dst.c), (.slice x_src.p x_src.n x_src.c)] h fun v h1 => ∃ r0 : Int, ∃ r1 : Int, v = (.tuple #[(.int .i64 r0), (.int .i64 r1)]) ∧ K r0 r1 h1

def c_New (x_text : ByteArray) (h : Heap) (K : Value → Heap → Prop) : Prop :=
  CallsH Pg 88 #[(.string x_text)] h fun v h1 => ∃ r0 : Value, v = r0 ∧ K r0 h1

def c_emitLiteralGo (x_dst : Sl) (x_lit : Sl) (h : Heap) (K : Int → Heap → Prop) : Prop :=
  CallsH Pg 89 #[(.slice x_dst.p x_dst.n x_dst.c), (.slice x_lit.p x_lit.n x_lit.c)] h fun v h1 => ∃ r0 : Int, v = (.int .i64 r0) ∧ K r0 h1

def c_littleEndian_Uint16 (x_b : Sl) (h : Heap) (K : Int → Heap → Prop) : Prop :=
  CallsH Pg 90 #[(.agg #[]), (.slice x_b.p x_b.n x_b.c)] h fun v h1 => ∃ r0 : Int, v = (.int .u16 r0) ∧ K r0 h1

def c_emitRepeat16 (x_dst : Sl) (x_offset : Int) (x_length : Int) (h : Heap) (K : Int → Heap → Prop) : Prop :=
  CallsH Pg 91 #[(.slice x_dst.p x_dst.n x_dst.c), (.int .u16 x_offset), (.int .i64 x_length)] h fun v h1 => ∃ r0 : Int, v = (.int .i64 r0) ∧ K r0 h1

def c_emitCopy16 (x_dst : Sl) (x_offset : Int) (x_length : Int) (h : Heap) (K : Int → Heap → Prop) : Prop :=
  CallsH Pg 92 #[(.slice x_dst.p x_dst.n x_dst.c), (.int .u16 x_offset), (.int .i64 x_length)] h fun v h1 => ∃ r0 : Int, v = (.int .i64 r0) ∧ K r0 h1

def c_cvtLZ4sBlockSnappyAsm (x_dst : Sl) (x_src : Sl) (h : Heap) (K : Int → Int → Heap → Prop) : Prop :=
  CallsH Pg 93 #[(.slice x_dst.p x_dst.n x_dst.c), (.slice x_src.p x_src.n x_src.c)] h fun v h1 => ∃ r0 : Int, ∃ r1 : Int, v = (.tuple #[(.int .i64 r0), (.int .i64 r1)]) ∧ K r0 r1 h1

def c_cvtLZ4BlockAsm (x_dst : Sl) (x_src : Sl) (h : Heap) (K : Int → Int → Heap → Prop) : Prop :=
  CallsH Pg 94 #[(.slice x_dst.p x_dst.n x_dst.c), (.slice x_src.p x_src.n x_src.c)] h fun v h1 => ∃ r0 : Int, ∃ r1 : Int, v = (.tuple #[(.int .i64 r0), (.int .i64 r1)]) ∧ K r0 r1 h1

def c_cvtLZ4BlockSnappyAsm (x_dst : Sl) (x_src : Sl) (h : Heap) (K : Int → Int → Heap → Prop) : Prop :=
  CallsH Pg 95 #[(.slice x_dst.p x_dst.n x_dst.c), (.slice x_src.p x_src.n x_src.c)] h fun v h1 => ∃ r0 : Int, ∃ r1 : Int, v = (.tuple #[(.int .i64 r0), (.int .i64 r1)]) ∧ K r0 r1 h1

def c_Load64 (x_b : Sl) (x_i : Int) (h : Heap) (K : Int → Heap → Prop) : Prop :=
  CallsH Pg 96 #[(.slice x_b.p x_b.n x_b.c), (.int .i64 x_i)] h fun v h1 => ∃ r0 : Int, v = (.int .u64 r0) ∧ K r0 h1

def c_spec_readLiteral (x_src : Sl) (x_at : Int) (h : Heap) (K : Bool → Int → Int → Int → Bool → Int → Bool → Heap → Prop) : Prop :=
  CallsH Pg 97 #[(.slice x_src.p x_src.n x_src.c), (.int .i64 x_at)] h fun v h1 => ∃ r0_0 : Bool, ∃ r0_1 : Int, ∃ r0_2 : Int, ∃ r0_3 : Int, ∃ r0_4 : Bool, ∃ r0_5 : Int, ∃ r1 : Bool, v = (.tuple #[(.agg #[(.bool r0_0), (.int .i64 r0_1), (.int .i64 r0_2), (.int .i64 r0_3), (.bool r0_4), (.int .i64 r0_5)]), (.bool r1)]) ∧ K r0_0 r0_1 r0_2 r0_3 r0_4 r0_5 r1 h1

def c_littleEndian_Uint32 (x_b : Sl) (h : Heap) (K : Int → Heap → Prop) : Prop :=
  CallsH Pg 98 #[(.agg #[]), (.slice x_b.p x_b.n x_b.c)] h fun v h1 => ∃ r0 : Int, v = (.int .u32 r0) ∧ K r0 h1

def c_littleEndian_Uint64 (x_b : Sl) (h : Heap) (K : Int → Heap → Prop) : Prop :=
  CallsH Pg 99 #[(.agg #[]), (.slice x_b.p x_b.n x_b.c)] h fun v h1 => ∃ r0 : Int, v = (.int .u64 r0) ∧ K r0 h1

def c_cut_vars  (h : Heap) (K : Heap → Prop) : Prop :=
  CallsH Pg 126 #[] h fun v h1 => v = (.tuple #[]) ∧ K  h1

end Go.Proofs.YtibleenkgmkpmaaDoor
