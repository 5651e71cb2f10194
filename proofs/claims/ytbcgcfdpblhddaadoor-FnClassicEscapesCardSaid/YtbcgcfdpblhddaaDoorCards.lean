/-
  DERIVED. GIVEN WITH THE SEED: THE CARDS: each row of YtbcgcfdpblhddaaDoorRows.lean that lists a variable, with what it lists TIED to the program's text (the seventh form; the later family's looks); each row that meets fmt, with fmt's text TOLD by the authors' own Lean function (tested against real Go, not proved from fmt's source: count such statements apart). THE CARD IS WHAT COUNTS. Prove the row's statement (the work); the ties are given (YtbcgcfdpblhddaaDoorTie.lean); close each card by the builder's one call (the guide's Derived/Test/ToyasCard.lean, 'card_holds'). Laid BY PROGRAM, IN A SANDBOX (cutbox-door.mjs). By AI agents, Wed Nov 11 2026. No macro, syntax, notation, axiom, sorry.
-/
import Derived.Test.YtbcgcfdpblhddaaDoorRows
import GoSem.ClaimSeven
namespace Go.Proofs.YtbcgcfdpblhddaaDoor
namespace Rows

/-- THE TIED CARD OF 'laws.FnClassicEscapes'. -/
def fnClassicEscapesCard : Claim7 := { stood := { row := fnClassicEscapesRow, standIns := [], harness := (true, "1fd0a87b6a2646c695041a59defea1e06ba9c324b3330021a623dd7525c44a14"), looks := true }, kinds := [], alts := [], laidByText := true, laidKinds := [.data, .pinned], laidTests := true, laidLooks := .later }
def FnClassicEscapesCardSaid : Prop := Claim7.holds Tryd.pinned (.plain (OpenSpec.ofChange fnClassicEscapesSpec)) fnClassicEscapesCard

/-- THE TIED CARD OF 'laws.FnClassic'. -/
def fnClassicCard : Claim7 := { stood := { row := fnClassicRow, standIns := [], harness := (true, "1fd0a87b6a2646c695041a59defea1e06ba9c324b3330021a623dd7525c44a14"), looks := true }, kinds := [], alts := [], laidByText := true, laidKinds := [.data, .listed, .data, .pinned], laidTests := true, laidLooks := .later }
def FnClassicCardSaid : Prop := Claim7.holds Tryd.pinned (.plain (OpenSpec.ofChange fnClassicSpec)) fnClassicCard

/-- THE TIED CARD OF 'laws.FnReadTime'. -/
def fnReadTimeCard : Claim7 := { stood := { row := fnReadTimeRow, standIns := [], harness := (true, "1fd0a87b6a2646c695041a59defea1e06ba9c324b3330021a623dd7525c44a14"), looks := true }, kinds := [], alts := [], laidByText := true, laidKinds := [.data, .data, .data, .sentinel, .sentinel], laidTests := true, laidLooks := .later }
def FnReadTimeCardSaid : Prop := Claim7.holds Tryd.pinned (.plain (OpenSpec.ofChange fnReadTimeSpec)) fnReadTimeCard

/-- THE SECOND FORM's CARD OF 'laws.FnClassicEscapes'. -/
def fnClassicEscapesUptoCard : Claim7 := { stood := { row := fnClassicEscapesUptoRow, standIns := [], harness := (true, "1fd0a87b6a2646c695041a59defea1e06ba9c324b3330021a623dd7525c44a14"), looks := true }, kinds := [], alts := [], laidByText := true, laidKinds := [.data, .pinned], laidTests := true, laidLooks := .later }
def FnClassicEscapesUptoCardSaid : Prop := Claim7.holds Tryd.pinned (.plain (OpenSpec.upto fnClassicEscapesSpec)) fnClassicEscapesUptoCard

/-- THE SECOND FORM's CARD OF 'laws.FnClassic'. -/
def fnClassicUptoCard : Claim7 := { stood := { row := fnClassicUptoRow, standIns := [], harness := (true, "1fd0a87b6a2646c695041a59defea1e06ba9c324b3330021a623dd7525c44a14"), looks := true }, kinds := [], alts := [], laidByText := true, laidKinds := [.data, .listed, .data, .pinned], laidTests := true, laidLooks := .later }
def FnClassicUptoCardSaid : Prop := Claim7.holds Tryd.pinned (.plain (OpenSpec.upto fnClassicSpec)) fnClassicUptoCard

/-- THE SECOND FORM's CARD OF 'laws.FnReadTime'. -/
def fnReadTimeUptoCard : Claim7 := { stood := { row := fnReadTimeUptoRow, standIns := [], harness := (true, "1fd0a87b6a2646c695041a59defea1e06ba9c324b3330021a623dd7525c44a14"), looks := true }, kinds := [], alts := [], laidByText := true, laidKinds := [.data, .data, .data, .sentinel, .sentinel], laidTests := true, laidLooks := .later }
def FnReadTimeUptoCardSaid : Prop := Claim7.holds Tryd.pinned (.plain (OpenSpec.upto fnReadTimeSpec)) fnReadTimeUptoCard
end Rows
end Go.Proofs.YtbcgcfdpblhddaaDoor
