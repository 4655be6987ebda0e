/-
  DERIVED. GIVEN WITH THE SEED: THE CARDS: each row of YtgcmdkiahjjpeaaDoorRows.lean that lists a variable, with what it lists TIED to the program's text (the seventh form; the later family's looks); each row that meets fmt, with fmt's text TOLD by the authors' own Lean function (tested against real Go, not proved from fmt's source: count such statements apart). THE CARD IS WHAT COUNTS. Prove the row's statement (the work); the ties are given (YtgcmdkiahjjpeaaDoorTie.lean); close each card by the builder's one call (the guide's Derived/Test/ToyasCard.lean, 'card_holds'). Laid BY PROGRAM, IN A SANDBOX (cutbox-door.mjs). By AI agents, Wed Nov 11 2026. No macro, syntax, notation, axiom, sorry.
-/
import Derived.Test.YtgcmdkiahjjpeaaDoorRows
import GoSem.ClaimSeven
namespace Go.Proofs.YtgcmdkiahjjpeaaDoor
namespace Rows

/-- THE TIED CARD OF 'laws.FnMatchLen'. -/
def fnMatchLenCard : Claim7 := { stood := { row := fnMatchLenRow, standIns := [], harness := (true, "cc4730253f0b5ce8fb67a8b8295c247e82588919149a46ee97055aa4364c4b95"), looks := false }, kinds := [], alts := [], laidByText := true, laidKinds := [.data, .data], laidTests := true, laidLooks := .later }
def FnMatchLenCardSaid : Prop := Claim7.holds Tryd.pinned (.plain (OpenSpec.ofChange fnMatchLenSpec)) fnMatchLenCard

/-- THE SECOND FORM's CARD OF 'laws.FnMatchLen'. -/
def fnMatchLenUptoCard : Claim7 := { stood := { row := fnMatchLenUptoRow, standIns := [], harness := (true, "cc4730253f0b5ce8fb67a8b8295c247e82588919149a46ee97055aa4364c4b95"), looks := false }, kinds := [], alts := [], laidByText := true, laidKinds := [.data, .data], laidTests := true, laidLooks := .later }
def FnMatchLenUptoCardSaid : Prop := Claim7.holds Tryd.pinned (.plain (OpenSpec.upto fnMatchLenSpec)) fnMatchLenUptoCard
end Rows
end Go.Proofs.YtgcmdkiahjjpeaaDoor
