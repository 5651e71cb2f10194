/-
  DERIVED. GIVEN WITH THE SEED: THE CARDS: each row of YtdookfmcphmlgaaDoorRows.lean that lists a variable, with what it lists TIED to the program's text (the seventh form; the later family's looks); each row that meets fmt, with fmt's text TOLD by the authors' own Lean function (tested against real Go, not proved from fmt's source: count such statements apart). THE CARD IS WHAT COUNTS. Prove the row's statement (the work); the ties are given (YtdookfmcphmlgaaDoorTie.lean); close each card by the builder's one call (the guide's Derived/Test/ToyasCard.lean, 'card_holds'). Laid BY PROGRAM, IN A SANDBOX (cutbox-door.mjs). By AI agents, Wed Nov 11 2026. No macro, syntax, notation, axiom, sorry.
-/
import Derived.Test.YtdookfmcphmlgaaDoorRows
import GoSem.ClaimSeven
namespace Go.Proofs.YtdookfmcphmlgaaDoor
namespace Rows

/-- THE TIED CARD OF 'laws.FnReadSigned'. -/
def fnReadSignedCard : Claim7 := { stood := { row := fnReadSignedRow, standIns := [], harness := (true, "598a3e98834eff25b7b630eb4d865020d6c642918e4f49019c3dc490a0d292fc"), looks := true }, kinds := [], alts := [], laidByText := true, laidKinds := [.data, .data, .data, .sentinel, .sentinel], laidTests := true, laidLooks := .later }
def FnReadSignedCardSaid : Prop := Claim7.holds Tryd.pinned (.plain (OpenSpec.ofChange fnReadSignedSpec)) fnReadSignedCard

/-- THE TIED CARD OF 'laws.FnDurationBack'. -/
def fnDurationBackCard : Claim7 := { stood := { row := fnDurationBackRow, standIns := [], harness := (true, "598a3e98834eff25b7b630eb4d865020d6c642918e4f49019c3dc490a0d292fc"), looks := true }, kinds := [], alts := [], laidByText := true, laidKinds := [.data, .data, .data, .sentinel, .sentinel], laidTests := true, laidLooks := .later }
def FnDurationBackCardSaid : Prop := Claim7.holds Tryd.pinned (.plain (OpenSpec.ofChange fnDurationBackSpec)) fnDurationBackCard

/-- THE SECOND FORM's CARD OF 'laws.FnReadSigned'. -/
def fnReadSignedUptoCard : Claim7 := { stood := { row := fnReadSignedUptoRow, standIns := [], harness := (true, "598a3e98834eff25b7b630eb4d865020d6c642918e4f49019c3dc490a0d292fc"), looks := true }, kinds := [], alts := [], laidByText := true, laidKinds := [.data, .data, .data, .sentinel, .sentinel], laidTests := true, laidLooks := .later }
def FnReadSignedUptoCardSaid : Prop := Claim7.holds Tryd.pinned (.plain (OpenSpec.upto fnReadSignedSpec)) fnReadSignedUptoCard

/-- THE SECOND FORM's CARD OF 'laws.FnDurationBack'. -/
def fnDurationBackUptoCard : Claim7 := { stood := { row := fnDurationBackUptoRow, standIns := [], harness := (true, "598a3e98834eff25b7b630eb4d865020d6c642918e4f49019c3dc490a0d292fc"), looks := true }, kinds := [], alts := [], laidByText := true, laidKinds := [.data, .data, .data, .sentinel, .sentinel], laidTests := true, laidLooks := .later }
def FnDurationBackUptoCardSaid : Prop := Claim7.holds Tryd.pinned (.plain (OpenSpec.upto fnDurationBackSpec)) fnDurationBackUptoCard
end Rows
end Go.Proofs.YtdookfmcphmlgaaDoor
