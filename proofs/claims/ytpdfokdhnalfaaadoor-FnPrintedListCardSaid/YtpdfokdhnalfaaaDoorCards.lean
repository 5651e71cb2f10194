/-
  DERIVED. GIVEN WITH THE SEED: THE CARDS: each row of YtpdfokdhnalfaaaDoorRows.lean that lists a variable, with what it lists TIED to the program's text (the seventh form; the later family's looks); each row that meets fmt, with fmt's text TOLD by the authors' own Lean function (tested against real Go, not proved from fmt's source: count such statements apart). THE CARD IS WHAT COUNTS. Prove the row's statement (the work); the ties are given (YtpdfokdhnalfaaaDoorTie.lean); close each card by the builder's one call (the guide's Derived/Test/ToyasCard.lean, 'card_holds'). Laid BY PROGRAM, IN A SANDBOX (cutbox-door.mjs). By AI agents, Wed Nov 11 2026. No macro, syntax, notation, axiom, sorry.
-/
import Derived.Test.YtpdfokdhnalfaaaDoorRows
import GoSem.ClaimSeven
namespace Go.Proofs.YtpdfokdhnalfaaaDoor
namespace Rows

/-- THE TIED CARD OF 'laws.FnPrinted'. -/
def fnPrintedCard : Claim7 := { stood := { row := fnPrintedRow, standIns := [], harness := (true, "4ba313f700384775ddb16c8df2ee20b714aa5b07988cb2f262aff8fa69b6941f"), looks := false }, kinds := [], alts := [], laidByText := true, laidKinds := [.data, .listed, .pinned, .pinned, .pinned, .pinned, .pinned, .pinned], laidTests := true, laidLooks := .later }
def FnPrintedCardSaid : Prop := Claim7.holds Tryd.pinned (.plain (OpenSpec.ofChange fnPrintedSpec)) fnPrintedCard

/-- THE TIED CARD OF 'laws.FnPrintedList'. -/
def fnPrintedListCard : Claim7 := { stood := { row := fnPrintedListRow, standIns := [], harness := (true, "4ba313f700384775ddb16c8df2ee20b714aa5b07988cb2f262aff8fa69b6941f"), looks := false }, kinds := [], alts := [], laidByText := true, laidKinds := [.data, .listed, .sentinel, .pinned, .pinned, .pinned, .pinned, .pinned, .pinned], laidTests := true, laidLooks := .later }
def FnPrintedListCardSaid : Prop := Claim7.holds Tryd.pinned (.plain (OpenSpec.ofChange fnPrintedListSpec)) fnPrintedListCard

/-- THE TIED CARD OF 'laws.FnMetricText'. -/
def fnMetricTextCard : Claim7 := { stood := { row := fnMetricTextRow, standIns := [], harness := (true, "4ba313f700384775ddb16c8df2ee20b714aa5b07988cb2f262aff8fa69b6941f"), looks := false }, kinds := [], alts := [], laidByText := true, laidKinds := [.data, .pinned, .pinned, .pinned, .pinned, .pinned, .pinned], laidTests := true, laidLooks := .later }
def FnMetricTextCardSaid : Prop := Claim7.holds Tryd.pinned (.plain (OpenSpec.ofChange fnMetricTextSpec)) fnMetricTextCard

/-- THE TIED CARD OF 'laws.FnMetricTextSays'. -/
def fnMetricTextSaysCard : Claim7 := { stood := { row := fnMetricTextSaysRow, standIns := [], harness := (true, "4ba313f700384775ddb16c8df2ee20b714aa5b07988cb2f262aff8fa69b6941f"), looks := false }, kinds := [], alts := [], laidByText := true, laidKinds := [.data, .pinned, .pinned, .pinned, .pinned, .pinned, .pinned], laidTests := true, laidLooks := .later }
def FnMetricTextSaysCardSaid : Prop := Claim7.holds Tryd.pinned (.plain (OpenSpec.ofChange fnMetricTextSaysSpec)) fnMetricTextSaysCard

/-- THE TIED CARD OF 'laws.FnSetText'. -/
def fnSetTextCard : Claim7 := { stood := { row := fnSetTextRow, standIns := [], harness := (true, "4ba313f700384775ddb16c8df2ee20b714aa5b07988cb2f262aff8fa69b6941f"), looks := false }, kinds := [], alts := [], laidByText := true, laidKinds := [.data, .sentinel, .pinned, .pinned, .pinned, .pinned, .pinned, .pinned], laidTests := true, laidLooks := .later }
def FnSetTextCardSaid : Prop := Claim7.holds Tryd.pinned (.plain (OpenSpec.ofChange fnSetTextSpec)) fnSetTextCard

/-- THE SECOND FORM's CARD OF 'laws.FnPrinted'. -/
def fnPrintedUptoCard : Claim7 := { stood := { row := fnPrintedUptoRow, standIns := [], harness := (true, "4ba313f700384775ddb16c8df2ee20b714aa5b07988cb2f262aff8fa69b6941f"), looks := false }, kinds := [], alts := [], laidByText := true, laidKinds := [.data, .listed, .pinned, .pinned, .pinned, .pinned, .pinned, .pinned], laidTests := true, laidLooks := .later }
def FnPrintedUptoCardSaid : Prop := Claim7.holds Tryd.pinned (.plain (OpenSpec.upto fnPrintedSpec)) fnPrintedUptoCard

/-- THE SECOND FORM's CARD OF 'laws.FnPrintedList'. -/
def fnPrintedListUptoCard : Claim7 := { stood := { row := fnPrintedListUptoRow, standIns := [], harness := (true, "4ba313f700384775ddb16c8df2ee20b714aa5b07988cb2f262aff8fa69b6941f"), looks := false }, kinds := [], alts := [], laidByText := true, laidKinds := [.data, .listed, .sentinel, .pinned, .pinned, .pinned, .pinned, .pinned, .pinned], laidTests := true, laidLooks := .later }
def FnPrintedListUptoCardSaid : Prop := Claim7.holds Tryd.pinned (.plain (OpenSpec.upto fnPrintedListSpec)) fnPrintedListUptoCard

/-- THE SECOND FORM's CARD OF 'laws.FnMetricText'. -/
def fnMetricTextUptoCard : Claim7 := { stood := { row := fnMetricTextUptoRow, standIns := [], harness := (true, "4ba313f700384775ddb16c8df2ee20b714aa5b07988cb2f262aff8fa69b6941f"), looks := false }, kinds := [], alts := [], laidByText := true, laidKinds := [.data, .pinned, .pinned, .pinned, .pinned, .pinned, .pinned], laidTests := true, laidLooks := .later }
def FnMetricTextUptoCardSaid : Prop := Claim7.holds Tryd.pinned (.plain (OpenSpec.upto fnMetricTextSpec)) fnMetricTextUptoCard

/-- THE SECOND FORM's CARD OF 'laws.FnMetricTextSays'. -/
def fnMetricTextSaysUptoCard : Claim7 := { stood := { row := fnMetricTextSaysUptoRow, standIns := [], harness := (true, "4ba313f700384775ddb16c8df2ee20b714aa5b07988cb2f262aff8fa69b6941f"), looks := false }, kinds := [], alts := [], laidByText := true, laidKinds := [.data, .pinned, .pinned, .pinned, .pinned, .pinned, .pinned], laidTests := true, laidLooks := .later }
def FnMetricTextSaysUptoCardSaid : Prop := Claim7.holds Tryd.pinned (.plain (OpenSpec.upto fnMetricTextSaysSpec)) fnMetricTextSaysUptoCard

/-- THE SECOND FORM's CARD OF 'laws.FnSetText'. -/
def fnSetTextUptoCard : Claim7 := { stood := { row := fnSetTextUptoRow, standIns := [], harness := (true, "4ba313f700384775ddb16c8df2ee20b714aa5b07988cb2f262aff8fa69b6941f"), looks := false }, kinds := [], alts := [], laidByText := true, laidKinds := [.data, .sentinel, .pinned, .pinned, .pinned, .pinned, .pinned, .pinned], laidTests := true, laidLooks := .later }
def FnSetTextUptoCardSaid : Prop := Claim7.holds Tryd.pinned (.plain (OpenSpec.upto fnSetTextSpec)) fnSetTextUptoCard
end Rows
end Go.Proofs.YtpdfokdhnalfaaaDoor
