/-
  NARROWER THAN 'FOR EVERY INPUT', by the rows' own cells (each row's printed sentence says how): FnMatchLen: laid · FnS2Reads: laid · FnS2Any: laid · FnConcatAny: laid · FnEmitCopy: laid · FnLz4Snappy: laid · FnLz4Alike: laid · FnLz4Sequences: laid.
  DERIVED. THE GIVEN ROWS OF THIS SEAT. 8 by the template 'for every input the law returns true; each argument reads behind the call as it read before'; 0 by the template 'total and deterministic' (their statements: YtibleenkgmkpmaaDoorTotals.lean).
  GIVEN WITH THE SEED: the statements are not yours to turn. If you find one false, say at which input.
  Laid BY PROGRAM, IN A SANDBOX (cutbox-rows.mjs): the forced cells as the released guide's own fill.sh prints them over the translation 9b86ed654492431c… (all of the seat's roots in one cut). By AI agents, Wed Nov 11 2026. No macro, syntax, notation, axiom, sorry.
-/
import Derived.Test.YtibleenkgmkpmaaDoorChecked
import GoSem.Claim
import GoSem.ClaimJoined
import GoSem.ClaimMapViews
import Derived.JoinedTies
import Derived.KernelRfl
namespace Go.Proofs.YtibleenkgmkpmaaDoor
/- THE CELL 'sum', in the pinned program and in every row, IS THE sha256 OF THE DUMP (.gsa) THAT YtibleenkgmkpmaaDoorProg.lean LOADS. Nothing in Lean hashes anything: it is a label: what it is worth is what the hold of that sum in a sandbox is worth. -/
noncomputable def Tryd.pinned : Pinned := { name := "ytibleenkgmkpmaadoor", sum := "9b86ed654492431cf8074b34f267f6e3078b398681f43415090ee59f187178e7", checked := Tryd.checked }
namespace Rows
def none {H : Type} : Left H := { results := [], args := [] }

/- WHAT THE LISTED PACKAGE-LEVEL VARIABLES READ AS WHEN THE CALL BEGINS. Each datum BY PROGRAM (the guide's laid-datum.mjs) off the statement by which the dump's own 'gosem.cut.vars' lays the variable. In a bare row this is a premise. The card (YtibleenkgmkpmaaDoorCards.lean) ties it to the program's text. -/
def laid_math_bits_deBruijn32tab {H : Type} : DataW H := .agg [.lit (.int .u8 0), .lit (.int .u8 1), .lit (.int .u8 28), .lit (.int .u8 2), .lit (.int .u8 29), .lit (.int .u8 14), .lit (.int .u8 24), .lit (.int .u8 3), .lit (.int .u8 30), .lit (.int .u8 22), .lit (.int .u8 20), .lit (.int .u8 15), .lit (.int .u8 25), .lit (.int .u8 17), .lit (.int .u8 4), .lit (.int .u8 8), .lit (.int .u8 31), .lit (.int .u8 27), .lit (.int .u8 13), .lit (.int .u8 23), .lit (.int .u8 21), .lit (.int .u8 19), .lit (.int .u8 16), .lit (.int .u8 7), .lit (.int .u8 26), .lit (.int .u8 12), .lit (.int .u8 18), .lit (.int .u8 6), .lit (.int .u8 11), .lit (.int .u8 5), .lit (.int .u8 10), .lit (.int .u8 9)]
def laid_math_bits_deBruijn64tab {H : Type} : DataW H := .agg [.lit (.int .u8 0), .lit (.int .u8 1), .lit (.int .u8 56), .lit (.int .u8 2), .lit (.int .u8 57), .lit (.int .u8 49), .lit (.int .u8 28), .lit (.int .u8 3), .lit (.int .u8 61), .lit (.int .u8 58), .lit (.int .u8 42), .lit (.int .u8 50), .lit (.int .u8 38), .lit (.int .u8 29), .lit (.int .u8 17), .lit (.int .u8 4), .lit (.int .u8 62), .lit (.int .u8 47), .lit (.int .u8 59), .lit (.int .u8 36), .lit (.int .u8 45), .lit (.int .u8 43), .lit (.int .u8 51), .lit (.int .u8 22), .lit (.int .u8 53), .lit (.int .u8 39), .lit (.int .u8 33), .lit (.int .u8 30), .lit (.int .u8 24), .lit (.int .u8 18), .lit (.int .u8 12), .lit (.int .u8 5), .lit (.int .u8 63), .lit (.int .u8 55), .lit (.int .u8 48), .lit (.int .u8 27), .lit (.int .u8 60), .lit (.int .u8 41), .lit (.int .u8 37), .lit (.int .u8 16), .lit (.int .u8 46), .lit (.int .u8 35), .lit (.int .u8 44), .lit (.int .u8 21), .lit (.int .u8 52), .lit (.int .u8 32), .lit (.int .u8 23), .lit (.int .u8 11), .lit (.int .u8 54), .lit (.int .u8 26), .lit (.int .u8 40), .lit (.int .u8 15), .lit (.int .u8 34), .lit (.int .u8 20), .lit (.int .u8 31), .lit (.int .u8 10), .lit (.int .u8 25), .lit (.int .u8 14), .lit (.int .u8 19), .lit (.int .u8 9), .lit (.int .u8 13), .lit (.int .u8 8), .lit (.int .u8 7), .lit (.int .u8 6)]
def laid_pub_pemmican_pub_compress_s2_ErrCorrupt {H : Type} : DataW H := .iface "*errors.errorString" (.ptr (.agg [.lit (.string [115, 50, 58, 32, 99, 111, 114, 114, 117, 112, 116, 32, 105, 110, 112, 117, 116])]))
def laid_pub_pemmican_pub_compress_s2_ErrTooLarge {H : Type} : DataW H := .iface "*errors.errorString" (.ptr (.agg [.lit (.string [115, 50, 58, 32, 100, 101, 99, 111, 100, 101, 100, 32, 98, 108, 111, 99, 107, 32, 105, 115, 32, 116, 111, 111, 32, 108, 97, 114, 103, 101])]))
def laid_pub_pemmican_pub_compress_s2_ErrDstTooSmall {H : Type} : DataW H := .iface "*errors.errorString" (.ptr (.agg [.lit (.string [115, 50, 58, 32, 100, 101, 115, 116, 105, 110, 97, 116, 105, 111, 110, 32, 116, 111, 111, 32, 115, 109, 97, 108, 108])]))

/-- 'laws.FnMatchLen': WHATEVER THE INPUT: true; the input reads as it did. -/
def fnMatchLenSpec : ChangeSpec := { name := "fnMatchLen", fn := fun _ => fun
  | [d1, d2] => { results := [.lit (.bool true)], args := [d1, d2] }
  | _ => none }
def fnMatchLenRow : OpenClaim := { program := "ytibleenkgmkpmaadoor", sum := "9b86ed654492431cf8074b34f267f6e3078b398681f43415090ee59f187178e7", func := "pub-pemmican/laws.FnMatchLen", spec := "fnMatchLen", named := ["encoding/binary.LittleEndian", "math/bits.deBruijn32tab", "math/bits.deBruijn64tab"], apart := false, laid := [("math/bits.deBruijn32tab", laid_math_bits_deBruijn32tab), ("math/bits.deBruijn64tab", laid_math_bits_deBruijn64tab)] }
def FnMatchLenSaid : Prop := fnMatchLenRow.holds Tryd.pinned (OpenSpec.ofChange fnMatchLenSpec)

/-- ITS FALSE NEIGHBOUR: 'it returns false'. Refute it at one input. -/
def fnMatchLenWrong : ChangeSpec := { name := "fnMatchLen", fn := fun _ => fun
  | [d1, d2] => { results := [.lit (.bool false)], args := [d1, d2] }
  | _ => none }
def FnMatchLenWrongFalsely : Prop := fnMatchLenRow.holds Tryd.pinned (OpenSpec.ofChange fnMatchLenWrong)

/-- 'laws.FnS2Reads': WHATEVER THE INPUT: true; the input reads as it did. -/
def fnS2ReadsSpec : ChangeSpec := { name := "fnS2Reads", fn := fun _ => fun
  | [d] => { results := [.lit (.bool true)], args := [d] }
  | _ => none }
def fnS2ReadsRow : OpenClaim := { program := "ytibleenkgmkpmaadoor", sum := "9b86ed654492431cf8074b34f267f6e3078b398681f43415090ee59f187178e7", func := "pub-pemmican/laws.FnS2Reads", spec := "fnS2Reads", named := ["pub-pemmican/pub/compress/s2.ErrCorrupt", "pub-pemmican/pub/compress/s2.ErrTooLarge", "encoding/binary.LittleEndian"], apart := false, laid := [("pub-pemmican/pub/compress/s2.ErrCorrupt", laid_pub_pemmican_pub_compress_s2_ErrCorrupt), ("pub-pemmican/pub/compress/s2.ErrTooLarge", laid_pub_pemmican_pub_compress_s2_ErrTooLarge)] }
def FnS2ReadsSaid : Prop := fnS2ReadsRow.holds Tryd.pinned (OpenSpec.ofChange fnS2ReadsSpec)

/-- ITS FALSE NEIGHBOUR: 'it returns false'. Refute it at one input. -/
def fnS2ReadsWrong : ChangeSpec := { name := "fnS2Reads", fn := fun _ => fun
  | [d] => { results := [.lit (.bool false)], args := [d] }
  | _ => none }
def FnS2ReadsWrongFalsely : Prop := fnS2ReadsRow.holds Tryd.pinned (OpenSpec.ofChange fnS2ReadsWrong)

/-- 'laws.FnS2Any': WHATEVER THE INPUT: true; the input reads as it did. -/
def fnS2AnySpec : ChangeSpec := { name := "fnS2Any", fn := fun _ => fun
  | [d1, d2] => { results := [.lit (.bool true)], args := [d1, d2] }
  | _ => none }
def fnS2AnyRow : OpenClaim := { program := "ytibleenkgmkpmaadoor", sum := "9b86ed654492431cf8074b34f267f6e3078b398681f43415090ee59f187178e7", func := "pub-pemmican/laws.FnS2Any", spec := "fnS2Any", named := ["pub-pemmican/pub/compress/s2.ErrCorrupt", "pub-pemmican/pub/compress/s2.ErrTooLarge", "encoding/binary.LittleEndian"], apart := false, laid := [("pub-pemmican/pub/compress/s2.ErrCorrupt", laid_pub_pemmican_pub_compress_s2_ErrCorrupt), ("pub-pemmican/pub/compress/s2.ErrTooLarge", laid_pub_pemmican_pub_compress_s2_ErrTooLarge)] }
def FnS2AnySaid : Prop := fnS2AnyRow.holds Tryd.pinned (OpenSpec.ofChange fnS2AnySpec)

/-- ITS FALSE NEIGHBOUR: 'it returns false'. Refute it at one input. -/
def fnS2AnyWrong : ChangeSpec := { name := "fnS2Any", fn := fun _ => fun
  | [d1, d2] => { results := [.lit (.bool false)], args := [d1, d2] }
  | _ => none }
def FnS2AnyWrongFalsely : Prop := fnS2AnyRow.holds Tryd.pinned (OpenSpec.ofChange fnS2AnyWrong)

/-- 'laws.FnConcatAny': WHATEVER THE INPUT: true; the input reads as it did. -/
def fnConcatAnySpec : ChangeSpec := { name := "fnConcatAny", fn := fun _ => fun
  | [d1, d2] => { results := [.lit (.bool true)], args := [d1, d2] }
  | _ => none }
def fnConcatAnyRow : OpenClaim := { program := "ytibleenkgmkpmaadoor", sum := "9b86ed654492431cf8074b34f267f6e3078b398681f43415090ee59f187178e7", func := "pub-pemmican/laws.FnConcatAny", spec := "fnConcatAny", named := ["pub-pemmican/pub/compress/s2.ErrTooLarge", "pub-pemmican/pub/compress/s2.ErrCorrupt", "encoding/binary.LittleEndian"], apart := false, laid := [("pub-pemmican/pub/compress/s2.ErrCorrupt", laid_pub_pemmican_pub_compress_s2_ErrCorrupt), ("pub-pemmican/pub/compress/s2.ErrTooLarge", laid_pub_pemmican_pub_compress_s2_ErrTooLarge)] }
def FnConcatAnySaid : Prop := fnConcatAnyRow.holds Tryd.pinned (OpenSpec.ofChange fnConcatAnySpec)

/-- ITS FALSE NEIGHBOUR: 'it returns false'. Refute it at one input. -/
def fnConcatAnyWrong : ChangeSpec := { name := "fnConcatAny", fn := fun _ => fun
  | [d1, d2] => { results := [.lit (.bool false)], args := [d1, d2] }
  | _ => none }
def FnConcatAnyWrongFalsely : Prop := fnConcatAnyRow.holds Tryd.pinned (OpenSpec.ofChange fnConcatAnyWrong)

/-- 'laws.FnEmitCopy': WHATEVER THE INPUT: true; the input reads as it did. -/
def fnEmitCopySpec : ChangeSpec := { name := "fnEmitCopy", fn := fun _ => fun
  | [d1, d2, d3, d4] => { results := [.lit (.bool true)], args := [d1, d2, d3, d4] }
  | _ => none }
def fnEmitCopyRow : OpenClaim := { program := "ytibleenkgmkpmaadoor", sum := "9b86ed654492431cf8074b34f267f6e3078b398681f43415090ee59f187178e7", func := "pub-pemmican/laws.FnEmitCopy", spec := "fnEmitCopy", recurses := true, named := ["pub-pemmican/pub/compress/s2.ErrCorrupt", "pub-pemmican/pub/compress/s2.ErrTooLarge", "encoding/binary.LittleEndian"], apart := false, laid := [("pub-pemmican/pub/compress/s2.ErrCorrupt", laid_pub_pemmican_pub_compress_s2_ErrCorrupt), ("pub-pemmican/pub/compress/s2.ErrTooLarge", laid_pub_pemmican_pub_compress_s2_ErrTooLarge)] }
def FnEmitCopySaid : Prop := fnEmitCopyRow.holds Tryd.pinned (OpenSpec.ofChange fnEmitCopySpec)

/-- ITS FALSE NEIGHBOUR: 'it returns false'. Refute it at one input. -/
def fnEmitCopyWrong : ChangeSpec := { name := "fnEmitCopy", fn := fun _ => fun
  | [d1, d2, d3, d4] => { results := [.lit (.bool false)], args := [d1, d2, d3, d4] }
  | _ => none }
def FnEmitCopyWrongFalsely : Prop := fnEmitCopyRow.holds Tryd.pinned (OpenSpec.ofChange fnEmitCopyWrong)

/-- 'laws.FnLz4Snappy': WHATEVER THE INPUT: true; the input reads as it did. -/
def fnLz4SnappySpec : ChangeSpec := { name := "fnLz4Snappy", fn := fun _ => fun
  | [d1, d2] => { results := [.lit (.bool true)], args := [d1, d2] }
  | _ => none }
def fnLz4SnappyRow : OpenClaim := { program := "ytibleenkgmkpmaadoor", sum := "9b86ed654492431cf8074b34f267f6e3078b398681f43415090ee59f187178e7", func := "pub-pemmican/laws.FnLz4Snappy", spec := "fnLz4Snappy", unfollowed := true, recurses := true, named := ["pub-pemmican/pub/compress/s2.ErrCorrupt", "pub-pemmican/pub/compress/s2.ErrDstTooSmall", "encoding/binary.LittleEndian"], apart := false, laid := [("pub-pemmican/pub/compress/s2.ErrCorrupt", laid_pub_pemmican_pub_compress_s2_ErrCorrupt), ("pub-pemmican/pub/compress/s2.ErrDstTooSmall", laid_pub_pemmican_pub_compress_s2_ErrDstTooSmall)] }
def FnLz4SnappySaid : Prop := fnLz4SnappyRow.holds Tryd.pinned (OpenSpec.ofChange fnLz4SnappySpec)

/-- ITS FALSE NEIGHBOUR: 'it returns false'. Refute it at one input. -/
def fnLz4SnappyWrong : ChangeSpec := { name := "fnLz4Snappy", fn := fun _ => fun
  | [d1, d2] => { results := [.lit (.bool false)], args := [d1, d2] }
  | _ => none }
def FnLz4SnappyWrongFalsely : Prop := fnLz4SnappyRow.holds Tryd.pinned (OpenSpec.ofChange fnLz4SnappyWrong)

/-- 'laws.FnLz4Alike': WHATEVER THE INPUT: true; the input reads as it did. -/
def fnLz4AlikeSpec : ChangeSpec := { name := "fnLz4Alike", fn := fun _ => fun
  | [d1, d2] => { results := [.lit (.bool true)], args := [d1, d2] }
  | _ => none }
def fnLz4AlikeRow : OpenClaim := { program := "ytibleenkgmkpmaadoor", sum := "9b86ed654492431cf8074b34f267f6e3078b398681f43415090ee59f187178e7", func := "pub-pemmican/laws.FnLz4Alike", spec := "fnLz4Alike", unfollowed := true, recurses := true, named := ["pub-pemmican/pub/compress/s2.ErrCorrupt", "pub-pemmican/pub/compress/s2.ErrDstTooSmall", "encoding/binary.LittleEndian", "pub-pemmican/pub/compress/s2.ErrTooLarge"], apart := false, laid := [("pub-pemmican/pub/compress/s2.ErrCorrupt", laid_pub_pemmican_pub_compress_s2_ErrCorrupt), ("pub-pemmican/pub/compress/s2.ErrTooLarge", laid_pub_pemmican_pub_compress_s2_ErrTooLarge), ("pub-pemmican/pub/compress/s2.ErrDstTooSmall", laid_pub_pemmican_pub_compress_s2_ErrDstTooSmall)] }
def FnLz4AlikeSaid : Prop := fnLz4AlikeRow.holds Tryd.pinned (OpenSpec.ofChange fnLz4AlikeSpec)

/-- ITS FALSE NEIGHBOUR: 'it returns false'. Refute it at one input. -/
def fnLz4AlikeWrong : ChangeSpec := { name := "fnLz4Alike", fn := fun _ => fun
  | [d1, d2] => { results := [.lit (.bool false)], args := [d1, d2] }
  | _ => none }
def FnLz4AlikeWrongFalsely : Prop := fnLz4AlikeRow.holds Tryd.pinned (OpenSpec.ofChange fnLz4AlikeWrong)

/-- 'laws.FnLz4Sequences': WHATEVER THE INPUT: true; the input reads as it did. -/
def fnLz4SequencesSpec : ChangeSpec := { name := "fnLz4Sequences", fn := fun _ => fun
  | [d1, d2, d3, d4] => { results := [.lit (.bool true)], args := [d1, d2, d3, d4] }
  | _ => none }
def fnLz4SequencesRow : OpenClaim := { program := "ytibleenkgmkpmaadoor", sum := "9b86ed654492431cf8074b34f267f6e3078b398681f43415090ee59f187178e7", func := "pub-pemmican/laws.FnLz4Sequences", spec := "fnLz4Sequences", unfollowed := true, recurses := true, named := ["pub-pemmican/pub/compress/s2.ErrCorrupt", "pub-pemmican/pub/compress/s2.ErrDstTooSmall", "encoding/binary.LittleEndian", "pub-pemmican/pub/compress/s2.ErrTooLarge"], apart := false, laid := [("pub-pemmican/pub/compress/s2.ErrCorrupt", laid_pub_pemmican_pub_compress_s2_ErrCorrupt), ("pub-pemmican/pub/compress/s2.ErrTooLarge", laid_pub_pemmican_pub_compress_s2_ErrTooLarge), ("pub-pemmican/pub/compress/s2.ErrDstTooSmall", laid_pub_pemmican_pub_compress_s2_ErrDstTooSmall)] }
def FnLz4SequencesSaid : Prop := fnLz4SequencesRow.holds Tryd.pinned (OpenSpec.ofChange fnLz4SequencesSpec)

/-- ITS FALSE NEIGHBOUR: 'it returns false'. Refute it at one input. -/
def fnLz4SequencesWrong : ChangeSpec := { name := "fnLz4Sequences", fn := fun _ => fun
  | [d1, d2, d3, d4] => { results := [.lit (.bool false)], args := [d1, d2, d3, d4] }
  | _ => none }
def FnLz4SequencesWrongFalsely : Prop := fnLz4SequencesRow.holds Tryd.pinned (OpenSpec.ofChange fnLz4SequencesWrong)

/- THE SECOND FORM. 'bulk': how many values and letters a reading holds, each counted each time it is reached (what is shared counts as often as it is met; a slice's spare places count too). A statement '..UptoSaid' is the law's where the arguments, and the package variables that the reading takes, are together of bulk at most 1048576: NARROWER than '..Said'. Prove '..Said' where nothing that the law and all that it calls make is longer than what came in: it says more and counts as full. Else prove '..UptoSaid'. A law counts once. -/
mutual
def uptoBulk {H : Type} : DataW H → Nat
  | .lit (.string bytes) => bytes.length + 1
  | .lit _ => 1
  | .nil => 1
  | .ptr d => uptoBulk d + 1
  | .slice elems spare => uptoBulkAll elems + uptoBulkAll spare + 1
  | .agg parts => uptoBulkAll parts + 1
  | .iface _ d => uptoBulk d + 1
  | .map entries => uptoBulkEntries entries + 1
  | .held _ => 1
def uptoBulkAll {H : Type} : List (DataW H) → Nat
  | [] => 0
  | d :: r => uptoBulk d + uptoBulkAll r
def uptoBulkEntries {H : Type} : List (Lit × DataW H) → Nat
  | [] => 0
  | x :: r => uptoBulkEntry x + uptoBulkEntries r
def uptoBulkEntry {H : Type} : Lit × DataW H → Nat
  | (.string bytes, d) => bytes.length + uptoBulk d + 1
  | (_, d) => uptoBulk d + 1
 end
def uptoSmall : (H : Type) → List (DataW H) → Bool := fun _ ds => decide (uptoBulkAll ds ≤ 1048576)
def OpenSpec.upto (s : _root_.Go.ChangeSpec) : _root_.Go.OpenSpec := { _root_.Go.OpenSpec.ofChange s with cond := some uptoSmall }

/-- 'laws.FnMatchLen', WHERE WHAT IT READS IS OF BULK AT MOST 1048576: true; the input reads as it did. -/
def fnMatchLenUptoRow : OpenClaim := { program := "ytibleenkgmkpmaadoor", sum := "9b86ed654492431cf8074b34f267f6e3078b398681f43415090ee59f187178e7", func := "pub-pemmican/laws.FnMatchLen", spec := "fnMatchLen", named := ["encoding/binary.LittleEndian", "math/bits.deBruijn32tab", "math/bits.deBruijn64tab"], apart := false, laid := [("math/bits.deBruijn32tab", laid_math_bits_deBruijn32tab), ("math/bits.deBruijn64tab", laid_math_bits_deBruijn64tab)], narrowed := true }
def FnMatchLenUptoSaid : Prop := fnMatchLenUptoRow.holds Tryd.pinned (OpenSpec.upto fnMatchLenSpec)

/-- 'laws.FnS2Reads', WHERE WHAT IT READS IS OF BULK AT MOST 1048576: true; the input reads as it did. -/
def fnS2ReadsUptoRow : OpenClaim := { program := "ytibleenkgmkpmaadoor", sum := "9b86ed654492431cf8074b34f267f6e3078b398681f43415090ee59f187178e7", func := "pub-pemmican/laws.FnS2Reads", spec := "fnS2Reads", named := ["pub-pemmican/pub/compress/s2.ErrCorrupt", "pub-pemmican/pub/compress/s2.ErrTooLarge", "encoding/binary.LittleEndian"], apart := false, laid := [("pub-pemmican/pub/compress/s2.ErrCorrupt", laid_pub_pemmican_pub_compress_s2_ErrCorrupt), ("pub-pemmican/pub/compress/s2.ErrTooLarge", laid_pub_pemmican_pub_compress_s2_ErrTooLarge)], narrowed := true }
def FnS2ReadsUptoSaid : Prop := fnS2ReadsUptoRow.holds Tryd.pinned (OpenSpec.upto fnS2ReadsSpec)

/-- 'laws.FnS2Any', WHERE WHAT IT READS IS OF BULK AT MOST 1048576: true; the input reads as it did. -/
def fnS2AnyUptoRow : OpenClaim := { program := "ytibleenkgmkpmaadoor", sum := "9b86ed654492431cf8074b34f267f6e3078b398681f43415090ee59f187178e7", func := "pub-pemmican/laws.FnS2Any", spec := "fnS2Any", named := ["pub-pemmican/pub/compress/s2.ErrCorrupt", "pub-pemmican/pub/compress/s2.ErrTooLarge", "encoding/binary.LittleEndian"], apart := false, laid := [("pub-pemmican/pub/compress/s2.ErrCorrupt", laid_pub_pemmican_pub_compress_s2_ErrCorrupt), ("pub-pemmican/pub/compress/s2.ErrTooLarge", laid_pub_pemmican_pub_compress_s2_ErrTooLarge)], narrowed := true }
def FnS2AnyUptoSaid : Prop := fnS2AnyUptoRow.holds Tryd.pinned (OpenSpec.upto fnS2AnySpec)

/-- 'laws.FnConcatAny', WHERE WHAT IT READS IS OF BULK AT MOST 1048576: true; the input reads as it did. -/
def fnConcatAnyUptoRow : OpenClaim := { program := "ytibleenkgmkpmaadoor", sum := "9b86ed654492431cf8074b34f267f6e3078b398681f43415090ee59f187178e7", func := "pub-pemmican/laws.FnConcatAny", spec := "fnConcatAny", named := ["pub-pemmican/pub/compress/s2.ErrTooLarge", "pub-pemmican/pub/compress/s2.ErrCorrupt", "encoding/binary.LittleEndian"], apart := false, laid := [("pub-pemmican/pub/compress/s2.ErrCorrupt", laid_pub_pemmican_pub_compress_s2_ErrCorrupt), ("pub-pemmican/pub/compress/s2.ErrTooLarge", laid_pub_pemmican_pub_compress_s2_ErrTooLarge)], narrowed := true }
def FnConcatAnyUptoSaid : Prop := fnConcatAnyUptoRow.holds Tryd.pinned (OpenSpec.upto fnConcatAnySpec)

/-- 'laws.FnEmitCopy', WHERE WHAT IT READS IS OF BULK AT MOST 1048576: true; the input reads as it did. -/
def fnEmitCopyUptoRow : OpenClaim := { program := "ytibleenkgmkpmaadoor", sum := "9b86ed654492431cf8074b34f267f6e3078b398681f43415090ee59f187178e7", func := "pub-pemmican/laws.FnEmitCopy", spec := "fnEmitCopy", recurses := true, named := ["pub-pemmican/pub/compress/s2.ErrCorrupt", "pub-pemmican/pub/compress/s2.ErrTooLarge", "encoding/binary.LittleEndian"], apart := false, laid := [("pub-pemmican/pub/compress/s2.ErrCorrupt", laid_pub_pemmican_pub_compress_s2_ErrCorrupt), ("pub-pemmican/pub/compress/s2.ErrTooLarge", laid_pub_pemmican_pub_compress_s2_ErrTooLarge)], narrowed := true }
def FnEmitCopyUptoSaid : Prop := fnEmitCopyUptoRow.holds Tryd.pinned (OpenSpec.upto fnEmitCopySpec)

/-- 'laws.FnLz4Snappy', WHERE WHAT IT READS IS OF BULK AT MOST 1048576: true; the input reads as it did. -/
def fnLz4SnappyUptoRow : OpenClaim := { program := "ytibleenkgmkpmaadoor", sum := "9b86ed654492431cf8074b34f267f6e3078b398681f43415090ee59f187178e7", func := "pub-pemmican/laws.FnLz4Snappy", spec := "fnLz4Snappy", unfollowed := true, recurses := true, named := ["pub-pemmican/pub/compress/s2.ErrCorrupt", "pub-pemmican/pub/compress/s2.ErrDstTooSmall", "encoding/binary.LittleEndian"], apart := false, laid := [("pub-pemmican/pub/compress/s2.ErrCorrupt", laid_pub_pemmican_pub_compress_s2_ErrCorrupt), ("pub-pemmican/pub/compress/s2.ErrDstTooSmall", laid_pub_pemmican_pub_compress_s2_ErrDstTooSmall)], narrowed := true }
def FnLz4SnappyUptoSaid : Prop := fnLz4SnappyUptoRow.holds Tryd.pinned (OpenSpec.upto fnLz4SnappySpec)

/-- 'laws.FnLz4Alike', WHERE WHAT IT READS IS OF BULK AT MOST 1048576: true; the input reads as it did. -/
def fnLz4AlikeUptoRow : OpenClaim := { program := "ytibleenkgmkpmaadoor", sum := "9b86ed654492431cf8074b34f267f6e3078b398681f43415090ee59f187178e7", func := "pub-pemmican/laws.FnLz4Alike", spec := "fnLz4Alike", unfollowed := true, recurses := true, named := ["pub-pemmican/pub/compress/s2.ErrCorrupt", "pub-pemmican/pub/compress/s2.ErrDstTooSmall", "encoding/binary.LittleEndian", "pub-pemmican/pub/compress/s2.ErrTooLarge"], apart := false, laid := [("pub-pemmican/pub/compress/s2.ErrCorrupt", laid_pub_pemmican_pub_compress_s2_ErrCorrupt), ("pub-pemmican/pub/compress/s2.ErrTooLarge", laid_pub_pemmican_pub_compress_s2_ErrTooLarge), ("pub-pemmican/pub/compress/s2.ErrDstTooSmall", laid_pub_pemmican_pub_compress_s2_ErrDstTooSmall)], narrowed := true }
def FnLz4AlikeUptoSaid : Prop := fnLz4AlikeUptoRow.holds Tryd.pinned (OpenSpec.upto fnLz4AlikeSpec)

/-- 'laws.FnLz4Sequences', WHERE WHAT IT READS IS OF BULK AT MOST 1048576: true; the input reads as it did. -/
def fnLz4SequencesUptoRow : OpenClaim := { program := "ytibleenkgmkpmaadoor", sum := "9b86ed654492431cf8074b34f267f6e3078b398681f43415090ee59f187178e7", func := "pub-pemmican/laws.FnLz4Sequences", spec := "fnLz4Sequences", unfollowed := true, recurses := true, named := ["pub-pemmican/pub/compress/s2.ErrCorrupt", "pub-pemmican/pub/compress/s2.ErrDstTooSmall", "encoding/binary.LittleEndian", "pub-pemmican/pub/compress/s2.ErrTooLarge"], apart := false, laid := [("pub-pemmican/pub/compress/s2.ErrCorrupt", laid_pub_pemmican_pub_compress_s2_ErrCorrupt), ("pub-pemmican/pub/compress/s2.ErrTooLarge", laid_pub_pemmican_pub_compress_s2_ErrTooLarge), ("pub-pemmican/pub/compress/s2.ErrDstTooSmall", laid_pub_pemmican_pub_compress_s2_ErrDstTooSmall)], narrowed := true }
def FnLz4SequencesUptoSaid : Prop := fnLz4SequencesUptoRow.holds Tryd.pinned (OpenSpec.upto fnLz4SequencesSpec)

end Rows
end Go.Proofs.YtibleenkgmkpmaaDoor
