/-
  DERIVED. GIVEN WITH THE SEED: THE CARDS: each row of YtnjghpoeokfekaaDoorRows.lean that lists a variable, with what it lists TIED to the program's text (the seventh form; the later family's looks); each row that meets fmt, with fmt's text TOLD by the authors' own Lean function (tested against real Go, not proved from fmt's source: count such statements apart). THE CARD IS WHAT COUNTS. Prove the row's statement (the work); the ties are given (YtnjghpoeokfekaaDoorTie.lean); close each card by the builder's one call (the guide's Derived/Test/ToyasCard.lean, 'card_holds'). Laid BY PROGRAM, IN A SANDBOX (cutbox-door.mjs). By AI agents, Wed Nov 11 2026. No macro, syntax, notation, axiom, sorry.
-/
import Derived.Test.YtnjghpoeokfekaaDoorRows
import GoSem.ClaimSeven
namespace Go.Proofs.YtnjghpoeokfekaaDoor
namespace Rows

/-- THE TIED CARD OF 'laws.FnReadPrint'. -/
def fnReadPrintCard : Claim7 := { stood := { row := fnReadPrintRow, standIns := [], harness := (true, "59af0250b970df0d32db5574b9fa8f5698a4f94e398658c08bd15253b29ccb63"), looks := true }, kinds := [], alts := [], laidByText := true, laidKinds := [.data, .data, .data, .sentinel, .sentinel], laidTests := true, laidLooks := .later }
def FnReadPrintCardSaid : Prop := Claim7.holds Tryd.pinned (.plain (OpenSpec.ofChange fnReadPrintSpec)) fnReadPrintCard

/-- THE TIED CARD OF 'laws.FnDotted'. -/
def fnDottedCard : Claim7 := { stood := { row := fnDottedRow, standIns := [], harness := (true, "59af0250b970df0d32db5574b9fa8f5698a4f94e398658c08bd15253b29ccb63"), looks := true }, kinds := [], alts := [], laidByText := true, laidKinds := [.data, .data, .data], laidTests := true, laidLooks := .later }
def FnDottedCardSaid : Prop := Claim7.holds Tryd.pinned (.plain (OpenSpec.ofChange fnDottedSpec)) fnDottedCard

/-- THE TIED CARD OF 'laws.FnReturns'. -/
def fnReturnsCard : Claim7 := { stood := { row := fnReturnsRow, standIns := [], harness := (true, "59af0250b970df0d32db5574b9fa8f5698a4f94e398658c08bd15253b29ccb63"), looks := true }, kinds := [], alts := [], laidByText := true, laidKinds := [.data, .data, .data], laidTests := true, laidLooks := .later }
def FnReturnsCardSaid : Prop := Claim7.holds Tryd.pinned (.plain (OpenSpec.ofChange fnReturnsSpec)) fnReturnsCard

/-- THE TIED CARD OF 'laws.FnUnescaped'. -/
def fnUnescapedCard : Claim7 := { stood := { row := fnUnescapedRow, standIns := [], harness := (true, "59af0250b970df0d32db5574b9fa8f5698a4f94e398658c08bd15253b29ccb63"), looks := true }, kinds := [], alts := [], laidByText := true, laidKinds := [.data, .data, .data], laidTests := true, laidLooks := .later }
def FnUnescapedCardSaid : Prop := Claim7.holds Tryd.pinned (.plain (OpenSpec.ofChange fnUnescapedSpec)) fnUnescapedCard

/-- THE SECOND FORM's CARD OF 'laws.FnReadPrint'. -/
def fnReadPrintUptoCard : Claim7 := { stood := { row := fnReadPrintUptoRow, standIns := [], harness := (true, "59af0250b970df0d32db5574b9fa8f5698a4f94e398658c08bd15253b29ccb63"), looks := true }, kinds := [], alts := [], laidByText := true, laidKinds := [.data, .data, .data, .sentinel, .sentinel], laidTests := true, laidLooks := .later }
def FnReadPrintUptoCardSaid : Prop := Claim7.holds Tryd.pinned (.plain (OpenSpec.upto fnReadPrintSpec)) fnReadPrintUptoCard

/-- THE SECOND FORM's CARD OF 'laws.FnDotted'. -/
def fnDottedUptoCard : Claim7 := { stood := { row := fnDottedUptoRow, standIns := [], harness := (true, "59af0250b970df0d32db5574b9fa8f5698a4f94e398658c08bd15253b29ccb63"), looks := true }, kinds := [], alts := [], laidByText := true, laidKinds := [.data, .data, .data], laidTests := true, laidLooks := .later }
def FnDottedUptoCardSaid : Prop := Claim7.holds Tryd.pinned (.plain (OpenSpec.upto fnDottedSpec)) fnDottedUptoCard

/-- THE SECOND FORM's CARD OF 'laws.FnReturns'. -/
def fnReturnsUptoCard : Claim7 := { stood := { row := fnReturnsUptoRow, standIns := [], harness := (true, "59af0250b970df0d32db5574b9fa8f5698a4f94e398658c08bd15253b29ccb63"), looks := true }, kinds := [], alts := [], laidByText := true, laidKinds := [.data, .data, .data], laidTests := true, laidLooks := .later }
def FnReturnsUptoCardSaid : Prop := Claim7.holds Tryd.pinned (.plain (OpenSpec.upto fnReturnsSpec)) fnReturnsUptoCard

/-- THE SECOND FORM's CARD OF 'laws.FnUnescaped'. -/
def fnUnescapedUptoCard : Claim7 := { stood := { row := fnUnescapedUptoRow, standIns := [], harness := (true, "59af0250b970df0d32db5574b9fa8f5698a4f94e398658c08bd15253b29ccb63"), looks := true }, kinds := [], alts := [], laidByText := true, laidKinds := [.data, .data, .data], laidTests := true, laidLooks := .later }
def FnUnescapedUptoCardSaid : Prop := Claim7.holds Tryd.pinned (.plain (OpenSpec.upto fnUnescapedSpec)) fnUnescapedUptoCard
end Rows
end Go.Proofs.YtnjghpoeokfekaaDoor
