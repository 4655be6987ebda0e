/-
  DERIVED. GIVEN WITH THE SEED: THE CARDS: each row of YtibleenkgmkpmaaDoorRows.lean that lists a variable, with what it lists TIED to the program's text (the seventh form; the later family's looks); each row that meets fmt, with fmt's text TOLD by the authors' own Lean function (tested against real Go, not proved from fmt's source: count such statements apart). THE CARD IS WHAT COUNTS. Prove the row's statement (the work); the ties are given (YtibleenkgmkpmaaDoorTie.lean); close each card by the builder's one call (the guide's Derived/Test/ToyasCard.lean, 'card_holds'). Laid BY PROGRAM, IN A SANDBOX (cutbox-door.mjs). By AI agents, Wed Nov 11 2026. No macro, syntax, notation, axiom, sorry.
-/
import Derived.Test.YtibleenkgmkpmaaDoorRows
import GoSem.ClaimSeven
namespace Go.Proofs.YtibleenkgmkpmaaDoor
namespace Rows

/-- THE TIED CARD OF 'laws.FnMatchLen'. -/
def fnMatchLenCard : Claim7 := { stood := { row := fnMatchLenRow, standIns := [], harness := (true, "ef3346d6ca927aa521c87d0eac07d7bf0928f520af02d1493bdedd2c35fcf722"), looks := false }, kinds := [], alts := [], laidByText := true, laidKinds := [.data, .data], laidTests := true, laidLooks := .later }
def FnMatchLenCardSaid : Prop := Claim7.holds Tryd.pinned (.plain (OpenSpec.ofChange fnMatchLenSpec)) fnMatchLenCard

/-- THE TIED CARD OF 'laws.FnS2Reads'. -/
def fnS2ReadsCard : Claim7 := { stood := { row := fnS2ReadsRow, standIns := [], harness := (true, "ef3346d6ca927aa521c87d0eac07d7bf0928f520af02d1493bdedd2c35fcf722"), looks := false }, kinds := [], alts := [], laidByText := true, laidKinds := [.sentinel, .sentinel], laidTests := true, laidLooks := .later }
def FnS2ReadsCardSaid : Prop := Claim7.holds Tryd.pinned (.plain (OpenSpec.ofChange fnS2ReadsSpec)) fnS2ReadsCard

/-- THE TIED CARD OF 'laws.FnS2Any'. -/
def fnS2AnyCard : Claim7 := { stood := { row := fnS2AnyRow, standIns := [], harness := (true, "ef3346d6ca927aa521c87d0eac07d7bf0928f520af02d1493bdedd2c35fcf722"), looks := false }, kinds := [], alts := [], laidByText := true, laidKinds := [.sentinel, .sentinel], laidTests := true, laidLooks := .later }
def FnS2AnyCardSaid : Prop := Claim7.holds Tryd.pinned (.plain (OpenSpec.ofChange fnS2AnySpec)) fnS2AnyCard

/-- THE TIED CARD OF 'laws.FnConcatAny'. -/
def fnConcatAnyCard : Claim7 := { stood := { row := fnConcatAnyRow, standIns := [], harness := (true, "ef3346d6ca927aa521c87d0eac07d7bf0928f520af02d1493bdedd2c35fcf722"), looks := false }, kinds := [], alts := [], laidByText := true, laidKinds := [.sentinel, .sentinel], laidTests := true, laidLooks := .later }
def FnConcatAnyCardSaid : Prop := Claim7.holds Tryd.pinned (.plain (OpenSpec.ofChange fnConcatAnySpec)) fnConcatAnyCard

/-- THE TIED CARD OF 'laws.FnEmitCopy'. -/
def fnEmitCopyCard : Claim7 := { stood := { row := fnEmitCopyRow, standIns := [], harness := (true, "ef3346d6ca927aa521c87d0eac07d7bf0928f520af02d1493bdedd2c35fcf722"), looks := false }, kinds := [], alts := [], laidByText := true, laidKinds := [.sentinel, .sentinel], laidTests := true, laidLooks := .later }
def FnEmitCopyCardSaid : Prop := Claim7.holds Tryd.pinned (.plain (OpenSpec.ofChange fnEmitCopySpec)) fnEmitCopyCard

/-- THE TIED CARD OF 'laws.FnLz4Snappy'. -/
def fnLz4SnappyCard : Claim7 := { stood := { row := fnLz4SnappyRow, standIns := [], harness := (true, "ef3346d6ca927aa521c87d0eac07d7bf0928f520af02d1493bdedd2c35fcf722"), looks := false }, kinds := [], alts := [], laidByText := true, laidKinds := [.sentinel, .sentinel], laidTests := true, laidLooks := .later }
def FnLz4SnappyCardSaid : Prop := Claim7.holds Tryd.pinned (.plain (OpenSpec.ofChange fnLz4SnappySpec)) fnLz4SnappyCard

/-- THE TIED CARD OF 'laws.FnLz4Alike'. -/
def fnLz4AlikeCard : Claim7 := { stood := { row := fnLz4AlikeRow, standIns := [], harness := (true, "ef3346d6ca927aa521c87d0eac07d7bf0928f520af02d1493bdedd2c35fcf722"), looks := false }, kinds := [], alts := [], laidByText := true, laidKinds := [.sentinel, .sentinel, .sentinel], laidTests := true, laidLooks := .later }
def FnLz4AlikeCardSaid : Prop := Claim7.holds Tryd.pinned (.plain (OpenSpec.ofChange fnLz4AlikeSpec)) fnLz4AlikeCard

/-- THE TIED CARD OF 'laws.FnLz4Sequences'. -/
def fnLz4SequencesCard : Claim7 := { stood := { row := fnLz4SequencesRow, standIns := [], harness := (true, "ef3346d6ca927aa521c87d0eac07d7bf0928f520af02d1493bdedd2c35fcf722"), looks := false }, kinds := [], alts := [], laidByText := true, laidKinds := [.sentinel, .sentinel, .sentinel], laidTests := true, laidLooks := .later }
def FnLz4SequencesCardSaid : Prop := Claim7.holds Tryd.pinned (.plain (OpenSpec.ofChange fnLz4SequencesSpec)) fnLz4SequencesCard

/-- THE SECOND FORM's CARD OF 'laws.FnMatchLen'. -/
def fnMatchLenUptoCard : Claim7 := { stood := { row := fnMatchLenUptoRow, standIns := [], harness := (true, "ef3346d6ca927aa521c87d0eac07d7bf0928f520af02d1493bdedd2c35fcf722"), looks := false }, kinds := [], alts := [], laidByText := true, laidKinds := [.data, .data], laidTests := true, laidLooks := .later }
def FnMatchLenUptoCardSaid : Prop := Claim7.holds Tryd.pinned (.plain (OpenSpec.upto fnMatchLenSpec)) fnMatchLenUptoCard

/-- THE SECOND FORM's CARD OF 'laws.FnS2Reads'. -/
def fnS2ReadsUptoCard : Claim7 := { stood := { row := fnS2ReadsUptoRow, standIns := [], harness := (true, "ef3346d6ca927aa521c87d0eac07d7bf0928f520af02d1493bdedd2c35fcf722"), looks := false }, kinds := [], alts := [], laidByText := true, laidKinds := [.sentinel, .sentinel], laidTests := true, laidLooks := .later }
def FnS2ReadsUptoCardSaid : Prop := Claim7.holds Tryd.pinned (.plain (OpenSpec.upto fnS2ReadsSpec)) fnS2ReadsUptoCard

/-- THE SECOND FORM's CARD OF 'laws.FnS2Any'. -/
def fnS2AnyUptoCard : Claim7 := { stood := { row := fnS2AnyUptoRow, standIns := [], harness := (true, "ef3346d6ca927aa521c87d0eac07d7bf0928f520af02d1493bdedd2c35fcf722"), looks := false }, kinds := [], alts := [], laidByText := true, laidKinds := [.sentinel, .sentinel], laidTests := true, laidLooks := .later }
def FnS2AnyUptoCardSaid : Prop := Claim7.holds Tryd.pinned (.plain (OpenSpec.upto fnS2AnySpec)) fnS2AnyUptoCard

/-- THE SECOND FORM's CARD OF 'laws.FnConcatAny'. -/
def fnConcatAnyUptoCard : Claim7 := { stood := { row := fnConcatAnyUptoRow, standIns := [], harness := (true, "ef3346d6ca927aa521c87d0eac07d7bf0928f520af02d1493bdedd2c35fcf722"), looks := false }, kinds := [], alts := [], laidByText := true, laidKinds := [.sentinel, .sentinel], laidTests := true, laidLooks := .later }
def FnConcatAnyUptoCardSaid : Prop := Claim7.holds Tryd.pinned (.plain (OpenSpec.upto fnConcatAnySpec)) fnConcatAnyUptoCard

/-- THE SECOND FORM's CARD OF 'laws.FnEmitCopy'. -/
def fnEmitCopyUptoCard : Claim7 := { stood := { row := fnEmitCopyUptoRow, standIns := [], harness := (true, "ef3346d6ca927aa521c87d0eac07d7bf0928f520af02d1493bdedd2c35fcf722"), looks := false }, kinds := [], alts := [], laidByText := true, laidKinds := [.sentinel, .sentinel], laidTests := true, laidLooks := .later }
def FnEmitCopyUptoCardSaid : Prop := Claim7.holds Tryd.pinned (.plain (OpenSpec.upto fnEmitCopySpec)) fnEmitCopyUptoCard

/-- THE SECOND FORM's CARD OF 'laws.FnLz4Snappy'. -/
def fnLz4SnappyUptoCard : Claim7 := { stood := { row := fnLz4SnappyUptoRow, standIns := [], harness := (true, "ef3346d6ca927aa521c87d0eac07d7bf0928f520af02d1493bdedd2c35fcf722"), looks := false }, kinds := [], alts := [], laidByText := true, laidKinds := [.sentinel, .sentinel], laidTests := true, laidLooks := .later }
def FnLz4SnappyUptoCardSaid : Prop := Claim7.holds Tryd.pinned (.plain (OpenSpec.upto fnLz4SnappySpec)) fnLz4SnappyUptoCard

/-- THE SECOND FORM's CARD OF 'laws.FnLz4Alike'. -/
def fnLz4AlikeUptoCard : Claim7 := { stood := { row := fnLz4AlikeUptoRow, standIns := [], harness := (true, "ef3346d6ca927aa521c87d0eac07d7bf0928f520af02d1493bdedd2c35fcf722"), looks := false }, kinds := [], alts := [], laidByText := true, laidKinds := [.sentinel, .sentinel, .sentinel], laidTests := true, laidLooks := .later }
def FnLz4AlikeUptoCardSaid : Prop := Claim7.holds Tryd.pinned (.plain (OpenSpec.upto fnLz4AlikeSpec)) fnLz4AlikeUptoCard

/-- THE SECOND FORM's CARD OF 'laws.FnLz4Sequences'. -/
def fnLz4SequencesUptoCard : Claim7 := { stood := { row := fnLz4SequencesUptoRow, standIns := [], harness := (true, "ef3346d6ca927aa521c87d0eac07d7bf0928f520af02d1493bdedd2c35fcf722"), looks := false }, kinds := [], alts := [], laidByText := true, laidKinds := [.sentinel, .sentinel, .sentinel], laidTests := true, laidLooks := .later }
def FnLz4SequencesUptoCardSaid : Prop := Claim7.holds Tryd.pinned (.plain (OpenSpec.upto fnLz4SequencesSpec)) fnLz4SequencesUptoCard
end Rows
end Go.Proofs.YtibleenkgmkpmaaDoor
