/-
  DERIVED. GIVEN WITH THE SEED: THE CARDS: each row of YtfkapmbjnfnmmaaDoorRows.lean that lists a variable, with what it lists TIED to the program's text (the seventh form; the later family's looks); each row that meets fmt, with fmt's text TOLD by the authors' own Lean function (tested against real Go, not proved from fmt's source: count such statements apart). THE CARD IS WHAT COUNTS. Prove the row's statement (the work); the ties are given (YtfkapmbjnfnmmaaDoorTie.lean); close each card by the builder's one call (the guide's Derived/Test/ToyasCard.lean, 'card_holds'). Laid BY PROGRAM, IN A SANDBOX (cutbox-door.mjs). By AI agents, Wed Nov 11 2026. No macro, syntax, notation, axiom, sorry.
-/
import Derived.Test.YtfkapmbjnfnmmaaDoorRows
import GoSem.ClaimSeven
namespace Go.Proofs.YtfkapmbjnfnmmaaDoor
namespace Rows

/-- THE TIED CARD OF 'laws.FnMonths'. -/
def fnMonthsCard : Claim7 := { stood := { row := fnMonthsRow, standIns := [], harness := (true, "90d3ca2fe7483fc3b4e6e408baa1a812f338124d85462b2c32e01c8eae161437"), looks := true }, kinds := [], alts := [], laidByText := true, laidKinds := [.data, .pinned, .pinned], laidTests := true, laidLooks := .later }
def FnMonthsCardSaid : Prop := Claim7.holds Tryd.pinned (.plain (OpenSpec.ofChange fnMonthsSpec)) fnMonthsCard

/-- THE TIED CARD OF 'laws.FnWeekdays'. -/
def fnWeekdaysCard : Claim7 := { stood := { row := fnWeekdaysRow, standIns := [], harness := (true, "90d3ca2fe7483fc3b4e6e408baa1a812f338124d85462b2c32e01c8eae161437"), looks := true }, kinds := [], alts := [], laidByText := true, laidKinds := [.data, .pinned, .pinned], laidTests := true, laidLooks := .later }
def FnWeekdaysCardSaid : Prop := Claim7.holds Tryd.pinned (.plain (OpenSpec.ofChange fnWeekdaysSpec)) fnWeekdaysCard

/-- THE TIED CARD OF 'laws.FnWeekdaysBack'. -/
def fnWeekdaysBackCard : Claim7 := { stood := { row := fnWeekdaysBackRow, standIns := [], harness := (true, "90d3ca2fe7483fc3b4e6e408baa1a812f338124d85462b2c32e01c8eae161437"), looks := true }, kinds := [], alts := [], laidByText := true, laidKinds := [.data, .pinned, .pinned], laidTests := true, laidLooks := .later }
def FnWeekdaysBackCardSaid : Prop := Claim7.holds Tryd.pinned (.plain (OpenSpec.ofChange fnWeekdaysBackSpec)) fnWeekdaysBackCard

/-- THE TIED CARD OF 'laws.FnRangeBack'. -/
def fnRangeBackCard : Claim7 := { stood := { row := fnRangeBackRow, standIns := [], harness := (true, "90d3ca2fe7483fc3b4e6e408baa1a812f338124d85462b2c32e01c8eae161437"), looks := true }, kinds := [], alts := [], laidByText := true, laidKinds := [.data, .data, .data, .data, .pinned, .pinned], laidTests := true, laidLooks := .later }
def FnRangeBackCardSaid : Prop := Claim7.holds Tryd.pinned (.plain (OpenSpec.ofChange fnRangeBackSpec)) fnRangeBackCard

/-- THE TIED CARD OF 'laws.FnRangeBounds'. -/
def fnRangeBoundsCard : Claim7 := { stood := { row := fnRangeBoundsRow, standIns := [], harness := (true, "90d3ca2fe7483fc3b4e6e408baa1a812f338124d85462b2c32e01c8eae161437"), looks := true }, kinds := [], alts := [], laidByText := true, laidKinds := [.data, .pinned, .pinned], laidTests := true, laidLooks := .later }
def FnRangeBoundsCardSaid : Prop := Claim7.holds Tryd.pinned (.plain (OpenSpec.ofChange fnRangeBoundsSpec)) fnRangeBoundsCard

/-- THE SECOND FORM's CARD OF 'laws.FnMonths'. -/
def fnMonthsUptoCard : Claim7 := { stood := { row := fnMonthsUptoRow, standIns := [], harness := (true, "90d3ca2fe7483fc3b4e6e408baa1a812f338124d85462b2c32e01c8eae161437"), looks := true }, kinds := [], alts := [], laidByText := true, laidKinds := [.data, .pinned, .pinned], laidTests := true, laidLooks := .later }
def FnMonthsUptoCardSaid : Prop := Claim7.holds Tryd.pinned (.plain (OpenSpec.upto fnMonthsSpec)) fnMonthsUptoCard

/-- THE SECOND FORM's CARD OF 'laws.FnWeekdays'. -/
def fnWeekdaysUptoCard : Claim7 := { stood := { row := fnWeekdaysUptoRow, standIns := [], harness := (true, "90d3ca2fe7483fc3b4e6e408baa1a812f338124d85462b2c32e01c8eae161437"), looks := true }, kinds := [], alts := [], laidByText := true, laidKinds := [.data, .pinned, .pinned], laidTests := true, laidLooks := .later }
def FnWeekdaysUptoCardSaid : Prop := Claim7.holds Tryd.pinned (.plain (OpenSpec.upto fnWeekdaysSpec)) fnWeekdaysUptoCard

/-- THE SECOND FORM's CARD OF 'laws.FnWeekdaysBack'. -/
def fnWeekdaysBackUptoCard : Claim7 := { stood := { row := fnWeekdaysBackUptoRow, standIns := [], harness := (true, "90d3ca2fe7483fc3b4e6e408baa1a812f338124d85462b2c32e01c8eae161437"), looks := true }, kinds := [], alts := [], laidByText := true, laidKinds := [.data, .pinned, .pinned], laidTests := true, laidLooks := .later }
def FnWeekdaysBackUptoCardSaid : Prop := Claim7.holds Tryd.pinned (.plain (OpenSpec.upto fnWeekdaysBackSpec)) fnWeekdaysBackUptoCard

/-- THE SECOND FORM's CARD OF 'laws.FnRangeBack'. -/
def fnRangeBackUptoCard : Claim7 := { stood := { row := fnRangeBackUptoRow, standIns := [], harness := (true, "90d3ca2fe7483fc3b4e6e408baa1a812f338124d85462b2c32e01c8eae161437"), looks := true }, kinds := [], alts := [], laidByText := true, laidKinds := [.data, .data, .data, .data, .pinned, .pinned], laidTests := true, laidLooks := .later }
def FnRangeBackUptoCardSaid : Prop := Claim7.holds Tryd.pinned (.plain (OpenSpec.upto fnRangeBackSpec)) fnRangeBackUptoCard

/-- THE SECOND FORM's CARD OF 'laws.FnRangeBounds'. -/
def fnRangeBoundsUptoCard : Claim7 := { stood := { row := fnRangeBoundsUptoRow, standIns := [], harness := (true, "90d3ca2fe7483fc3b4e6e408baa1a812f338124d85462b2c32e01c8eae161437"), looks := true }, kinds := [], alts := [], laidByText := true, laidKinds := [.data, .pinned, .pinned], laidTests := true, laidLooks := .later }
def FnRangeBoundsUptoCardSaid : Prop := Claim7.holds Tryd.pinned (.plain (OpenSpec.upto fnRangeBoundsSpec)) fnRangeBoundsUptoCard
end Rows
end Go.Proofs.YtfkapmbjnfnmmaaDoor
