/-
  DERIVED. GIVEN WITH THE SEED: THE CARDS: each row of YtenededepjfojabDoorRows.lean that lists a variable, with what it lists TIED to the program's text (the seventh form; the later family's looks); each row that meets fmt, with fmt's text TOLD by the authors' own Lean function (tested against real Go, not proved from fmt's source: count such statements apart). THE CARD IS WHAT COUNTS. Prove the row's statement (the work); the ties are given (YtenededepjfojabDoorTie.lean); close each card by the builder's one call (the guide's Derived/Test/ToyasCard.lean, 'card_holds'). Laid BY PROGRAM, IN A SANDBOX (cutbox-door.mjs). By AI agents, Wed Nov 11 2026. No macro, syntax, notation, axiom, sorry.
-/
import Derived.Test.YtenededepjfojabDoorRows
import GoSem.ClaimSeven
namespace Go.Proofs.YtenededepjfojabDoor
namespace Rows

/-- THE TIED CARD OF 'laws.FnPrintedParts'. -/
def fnPrintedPartsCard : Claim7 := { stood := { row := fnPrintedPartsRow, standIns := [], harness := (true, "a7b42a27009860740b11b5c1a8541c00be939acddfde8901b7fa7bc1e3536079"), looks := false }, kinds := [], alts := [], laidByText := true, laidKinds := [.data, .listed, .sentinel, .pinned, .pinned, .pinned, .pinned, .pinned, .pinned], laidTests := true, laidLooks := .later }
def FnPrintedPartsCardSaid : Prop := Claim7.holds Tryd.pinned (.plain (OpenSpec.ofChange fnPrintedPartsSpec)) fnPrintedPartsCard

/-- THE SECOND FORM's CARD OF 'laws.FnPrintedParts'. -/
def fnPrintedPartsUptoCard : Claim7 := { stood := { row := fnPrintedPartsUptoRow, standIns := [], harness := (true, "a7b42a27009860740b11b5c1a8541c00be939acddfde8901b7fa7bc1e3536079"), looks := false }, kinds := [], alts := [], laidByText := true, laidKinds := [.data, .listed, .sentinel, .pinned, .pinned, .pinned, .pinned, .pinned, .pinned], laidTests := true, laidLooks := .later }
def FnPrintedPartsUptoCardSaid : Prop := Claim7.holds Tryd.pinned (.plain (OpenSpec.upto fnPrintedPartsSpec)) fnPrintedPartsUptoCard
end Rows
end Go.Proofs.YtenededepjfojabDoor
