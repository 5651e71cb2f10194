/-
  DERIVED. GIVEN WITH THE SEED: THE CARDS: each row of YtfbcpnjeonijaaaDoorRows.lean that lists a variable, with what it lists TIED to the program's text (the seventh form; the later family's looks); each row that meets fmt, with fmt's text TOLD by the authors' own Lean function (tested against real Go, not proved from fmt's source: count such statements apart). THE CARD IS WHAT COUNTS. Prove the row's statement (the work); the ties are given (YtfbcpnjeonijaaaDoorTie.lean); close each card by the builder's one call (the guide's Derived/Test/ToyasCard.lean, 'card_holds'). Laid BY PROGRAM, IN A SANDBOX (cutbox-door.mjs). By AI agents, Wed Nov 11 2026. No macro, syntax, notation, axiom, sorry.
-/
import Derived.Test.YtfbcpnjeonijaaaDoorRows
import GoSem.ClaimSeven
namespace Go.Proofs.YtfbcpnjeonijaaaDoor
namespace Rows

/-- THE TIED CARD OF 'laws.FnTimes'. -/
def fnTimesCard : Claim7 := { stood := { row := fnTimesRow, standIns := [], harness := (true, "3c4bc0e8f8232694c3dc02850c373a15bac54b9060588caa9e14ea64be2c88a0"), looks := true }, kinds := [], alts := [], laidByText := true, laidKinds := [.data, .data, .data, .sentinel, .sentinel], laidTests := true, laidLooks := .later }
def FnTimesCardSaid : Prop := Claim7.holds Tryd.pinned (.plain (OpenSpec.ofChange fnTimesSpec)) fnTimesCard

/-- THE SECOND FORM's CARD OF 'laws.FnTimes'. -/
def fnTimesUptoCard : Claim7 := { stood := { row := fnTimesUptoRow, standIns := [], harness := (true, "3c4bc0e8f8232694c3dc02850c373a15bac54b9060588caa9e14ea64be2c88a0"), looks := true }, kinds := [], alts := [], laidByText := true, laidKinds := [.data, .data, .data, .sentinel, .sentinel], laidTests := true, laidLooks := .later }
def FnTimesUptoCardSaid : Prop := Claim7.holds Tryd.pinned (.plain (OpenSpec.upto fnTimesSpec)) fnTimesUptoCard
end Rows
end Go.Proofs.YtfbcpnjeonijaaaDoor
