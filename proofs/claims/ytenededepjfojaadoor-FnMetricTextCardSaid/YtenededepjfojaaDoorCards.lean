/-
  DERIVED. GIVEN WITH THE SEED: THE CARDS: each row of YtenededepjfojaaDoorRows.lean that lists a variable, with what it lists TIED to the program's text (the seventh form; the later family's looks); each row that meets fmt, with fmt's text TOLD by the authors' own Lean function (tested against real Go, not proved from fmt's source: count such statements apart). THE CARD IS WHAT COUNTS. Prove the row's statement (the work); the ties are given (YtenededepjfojaaDoorTie.lean); close each card by the builder's one call (the guide's Derived/Test/ToyasCard.lean, 'card_holds'). Laid BY PROGRAM, IN A SANDBOX (cutbox-door.mjs). By AI agents, Wed Nov 11 2026. No macro, syntax, notation, axiom, sorry.
-/
import Derived.Test.YtenededepjfojaaDoorRows
import GoSem.ClaimSeven
namespace Go.Proofs.YtenededepjfojaaDoor
namespace Rows

/-- THE TIED CARD OF 'laws.FnMetricText'. -/
def fnMetricTextCard : Claim7 := { stood := { row := fnMetricTextRow, standIns := [], harness := (true, "78ecbd6cca9003885047302347b2a19a0269bd8d04eb98ac94a0860d2a554cb7"), looks := false }, kinds := [], alts := [], laidByText := true, laidKinds := [.data, .pinned, .pinned, .pinned, .pinned, .pinned, .pinned], laidTests := true, laidLooks := .later }
def FnMetricTextCardSaid : Prop := Claim7.holds Tryd.pinned (.plain (OpenSpec.ofChange fnMetricTextSpec)) fnMetricTextCard

/-- THE TIED CARD OF 'laws.FnMetricTextSays'. -/
def fnMetricTextSaysCard : Claim7 := { stood := { row := fnMetricTextSaysRow, standIns := [], harness := (true, "78ecbd6cca9003885047302347b2a19a0269bd8d04eb98ac94a0860d2a554cb7"), looks := false }, kinds := [], alts := [], laidByText := true, laidKinds := [.data, .pinned, .pinned, .pinned, .pinned, .pinned, .pinned], laidTests := true, laidLooks := .later }
def FnMetricTextSaysCardSaid : Prop := Claim7.holds Tryd.pinned (.plain (OpenSpec.ofChange fnMetricTextSaysSpec)) fnMetricTextSaysCard

/-- THE TIED CARD OF 'laws.FnSetText'. -/
def fnSetTextCard : Claim7 := { stood := { row := fnSetTextRow, standIns := [], harness := (true, "78ecbd6cca9003885047302347b2a19a0269bd8d04eb98ac94a0860d2a554cb7"), looks := false }, kinds := [], alts := [], laidByText := true, laidKinds := [.data, .sentinel, .pinned, .pinned, .pinned, .pinned, .pinned, .pinned], laidTests := true, laidLooks := .later }
def FnSetTextCardSaid : Prop := Claim7.holds Tryd.pinned (.plain (OpenSpec.ofChange fnSetTextSpec)) fnSetTextCard

/-- THE SECOND FORM's CARD OF 'laws.FnMetricText'. -/
def fnMetricTextUptoCard : Claim7 := { stood := { row := fnMetricTextUptoRow, standIns := [], harness := (true, "78ecbd6cca9003885047302347b2a19a0269bd8d04eb98ac94a0860d2a554cb7"), looks := false }, kinds := [], alts := [], laidByText := true, laidKinds := [.data, .pinned, .pinned, .pinned, .pinned, .pinned, .pinned], laidTests := true, laidLooks := .later }
def FnMetricTextUptoCardSaid : Prop := Claim7.holds Tryd.pinned (.plain (OpenSpec.upto fnMetricTextSpec)) fnMetricTextUptoCard

/-- THE SECOND FORM's CARD OF 'laws.FnMetricTextSays'. -/
def fnMetricTextSaysUptoCard : Claim7 := { stood := { row := fnMetricTextSaysUptoRow, standIns := [], harness := (true, "78ecbd6cca9003885047302347b2a19a0269bd8d04eb98ac94a0860d2a554cb7"), looks := false }, kinds := [], alts := [], laidByText := true, laidKinds := [.data, .pinned, .pinned, .pinned, .pinned, .pinned, .pinned], laidTests := true, laidLooks := .later }
def FnMetricTextSaysUptoCardSaid : Prop := Claim7.holds Tryd.pinned (.plain (OpenSpec.upto fnMetricTextSaysSpec)) fnMetricTextSaysUptoCard

/-- THE SECOND FORM's CARD OF 'laws.FnSetText'. -/
def fnSetTextUptoCard : Claim7 := { stood := { row := fnSetTextUptoRow, standIns := [], harness := (true, "78ecbd6cca9003885047302347b2a19a0269bd8d04eb98ac94a0860d2a554cb7"), looks := false }, kinds := [], alts := [], laidByText := true, laidKinds := [.data, .sentinel, .pinned, .pinned, .pinned, .pinned, .pinned, .pinned], laidTests := true, laidLooks := .later }
def FnSetTextUptoCardSaid : Prop := Claim7.holds Tryd.pinned (.plain (OpenSpec.upto fnSetTextSpec)) fnSetTextUptoCard
end Rows
end Go.Proofs.YtenededepjfojaaDoor
