/-
  DERIVED. GIVEN WITH THE SEED: THE PROGRAM's TIES (one call each: nine closed facts by the kernel) AND EACH ROW's TIE, after the 31st guide's Derived/Test/Toyas{Tie, Card}.lean. No idea stands in it: it is a product of the set-up. Laid BY PROGRAM, IN A SANDBOX (cutbox-door.mjs). By AI agents, Wed Nov 11 2026. No macro, syntax, notation, axiom, sorry.
-/
import Derived.Test.YtibleenkgmkpmaaDoorRows
import Derived.LaidByTextLater
import Derived.SevenTiedAt
import Derived.LaidSub
import Derived.LaidOnce
namespace Go.Proofs.YtibleenkgmkpmaaDoor
open Go
set_option maxRecDepth 100000
theorem seatTie1 : Tryd.prog.laidByTextLater [("math/bits.deBruijn32tab", Rows.laid_math_bits_deBruijn32tab), ("math/bits.deBruijn64tab", Rows.laid_math_bits_deBruijn64tab), ("pub-pemmican/pub/compress/s2.ErrCorrupt", Rows.laid_pub_pemmican_pub_compress_s2_ErrCorrupt), ("pub-pemmican/pub/compress/s2.ErrTooLarge", Rows.laid_pub_pemmican_pub_compress_s2_ErrTooLarge), ("pub-pemmican/pub/compress/s2.ErrDstTooSmall", Rows.laid_pub_pemmican_pub_compress_s2_ErrDstTooSmall)] [.data, .data, .sentinel, .sentinel, .sentinel] true :=
  Program.laidByTextLater_by_one 76 8 65 (by kernel_rfl) (by kernel_rfl) (by kernel_rfl) (by kernel_rfl) (by kernel_rfl) (by kernel_rfl) (fun _ _ => by kernel_rfl)
theorem noOwnUnsafe : Tryd.pinned.checked.prog.headLifts.contains "ownunsafe" = false := by kernel_rfl
theorem tie : Tryd.prog.laidByTextLater [("math/bits.deBruijn32tab", Rows.laid_math_bits_deBruijn32tab), ("math/bits.deBruijn64tab", Rows.laid_math_bits_deBruijn64tab)] [.data, .data] true :=
  Program.laidByTextLater.sub seatTie1 ["math/bits.deBruijn32tab", "math/bits.deBruijn64tab"] (by kernel_rfl) (by kernel_rfl)
theorem fnMatchLen_row_tie : Rows.fnMatchLenRow.laidByTextAt .later Tryd.pinned [.data, .data] true :=
  OpenClaim.laidByTextAt_later rfl rfl tie noOwnUnsafe
theorem tie2 : Tryd.prog.laidByTextLater [("pub-pemmican/pub/compress/s2.ErrCorrupt", Rows.laid_pub_pemmican_pub_compress_s2_ErrCorrupt), ("pub-pemmican/pub/compress/s2.ErrTooLarge", Rows.laid_pub_pemmican_pub_compress_s2_ErrTooLarge)] [.sentinel, .sentinel] true :=
  Program.laidByTextLater.sub seatTie1 ["pub-pemmican/pub/compress/s2.ErrCorrupt", "pub-pemmican/pub/compress/s2.ErrTooLarge"] (by kernel_rfl) (by kernel_rfl)
theorem fnS2Reads_row_tie : Rows.fnS2ReadsRow.laidByTextAt .later Tryd.pinned [.sentinel, .sentinel] true :=
  OpenClaim.laidByTextAt_later rfl rfl tie2 noOwnUnsafe
theorem fnS2Any_row_tie : Rows.fnS2AnyRow.laidByTextAt .later Tryd.pinned [.sentinel, .sentinel] true :=
  OpenClaim.laidByTextAt_later rfl rfl tie2 noOwnUnsafe
theorem fnConcatAny_row_tie : Rows.fnConcatAnyRow.laidByTextAt .later Tryd.pinned [.sentinel, .sentinel] true :=
  OpenClaim.laidByTextAt_later rfl rfl tie2 noOwnUnsafe
theorem fnEmitCopy_row_tie : Rows.fnEmitCopyRow.laidByTextAt .later Tryd.pinned [.sentinel, .sentinel] true :=
  OpenClaim.laidByTextAt_later rfl rfl tie2 noOwnUnsafe
theorem tie3 : Tryd.prog.laidByTextLater [("pub-pemmican/pub/compress/s2.ErrCorrupt", Rows.laid_pub_pemmican_pub_compress_s2_ErrCorrupt), ("pub-pemmican/pub/compress/s2.ErrDstTooSmall", Rows.laid_pub_pemmican_pub_compress_s2_ErrDstTooSmall)] [.sentinel, .sentinel] true :=
  Program.laidByTextLater.sub seatTie1 ["pub-pemmican/pub/compress/s2.ErrCorrupt", "pub-pemmican/pub/compress/s2.ErrDstTooSmall"] (by kernel_rfl) (by kernel_rfl)
theorem fnLz4Snappy_row_tie : Rows.fnLz4SnappyRow.laidByTextAt .later Tryd.pinned [.sentinel, .sentinel] true :=
  OpenClaim.laidByTextAt_later rfl rfl tie3 noOwnUnsafe
theorem tie4 : Tryd.prog.laidByTextLater [("pub-pemmican/pub/compress/s2.ErrCorrupt", Rows.laid_pub_pemmican_pub_compress_s2_ErrCorrupt), ("pub-pemmican/pub/compress/s2.ErrTooLarge", Rows.laid_pub_pemmican_pub_compress_s2_ErrTooLarge), ("pub-pemmican/pub/compress/s2.ErrDstTooSmall", Rows.laid_pub_pemmican_pub_compress_s2_ErrDstTooSmall)] [.sentinel, .sentinel, .sentinel] true :=
  Program.laidByTextLater.sub seatTie1 ["pub-pemmican/pub/compress/s2.ErrCorrupt", "pub-pemmican/pub/compress/s2.ErrTooLarge", "pub-pemmican/pub/compress/s2.ErrDstTooSmall"] (by kernel_rfl) (by kernel_rfl)
theorem fnLz4Alike_row_tie : Rows.fnLz4AlikeRow.laidByTextAt .later Tryd.pinned [.sentinel, .sentinel, .sentinel] true :=
  OpenClaim.laidByTextAt_later rfl rfl tie4 noOwnUnsafe
theorem fnLz4Sequences_row_tie : Rows.fnLz4SequencesRow.laidByTextAt .later Tryd.pinned [.sentinel, .sentinel, .sentinel] true :=
  OpenClaim.laidByTextAt_later rfl rfl tie4 noOwnUnsafe
theorem fnMatchLenUpto_row_tie : Rows.fnMatchLenUptoRow.laidByTextAt .later Tryd.pinned [.data, .data] true :=
  OpenClaim.laidByTextAt_later rfl rfl tie noOwnUnsafe
theorem fnS2ReadsUpto_row_tie : Rows.fnS2ReadsUptoRow.laidByTextAt .later Tryd.pinned [.sentinel, .sentinel] true :=
  OpenClaim.laidByTextAt_later rfl rfl tie2 noOwnUnsafe
theorem fnS2AnyUpto_row_tie : Rows.fnS2AnyUptoRow.laidByTextAt .later Tryd.pinned [.sentinel, .sentinel] true :=
  OpenClaim.laidByTextAt_later rfl rfl tie2 noOwnUnsafe
theorem fnConcatAnyUpto_row_tie : Rows.fnConcatAnyUptoRow.laidByTextAt .later Tryd.pinned [.sentinel, .sentinel] true :=
  OpenClaim.laidByTextAt_later rfl rfl tie2 noOwnUnsafe
theorem fnEmitCopyUpto_row_tie : Rows.fnEmitCopyUptoRow.laidByTextAt .later Tryd.pinned [.sentinel, .sentinel] true :=
  OpenClaim.laidByTextAt_later rfl rfl tie2 noOwnUnsafe
theorem fnLz4SnappyUpto_row_tie : Rows.fnLz4SnappyUptoRow.laidByTextAt .later Tryd.pinned [.sentinel, .sentinel] true :=
  OpenClaim.laidByTextAt_later rfl rfl tie3 noOwnUnsafe
theorem fnLz4AlikeUpto_row_tie : Rows.fnLz4AlikeUptoRow.laidByTextAt .later Tryd.pinned [.sentinel, .sentinel, .sentinel] true :=
  OpenClaim.laidByTextAt_later rfl rfl tie4 noOwnUnsafe
theorem fnLz4SequencesUpto_row_tie : Rows.fnLz4SequencesUptoRow.laidByTextAt .later Tryd.pinned [.sentinel, .sentinel, .sentinel] true :=
  OpenClaim.laidByTextAt_later rfl rfl tie4 noOwnUnsafe
end Go.Proofs.YtibleenkgmkpmaaDoor
