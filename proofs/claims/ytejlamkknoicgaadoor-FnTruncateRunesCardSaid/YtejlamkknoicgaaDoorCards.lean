/-
  DERIVED. GIVEN WITH THE SEED: THE CARDS: each row of YtejlamkknoicgaaDoorRows.lean that lists a variable, with what it lists TIED to the program's text (the seventh form; the later family's looks); each row that meets fmt, with fmt's text TOLD by the authors' own Lean function (tested against real Go, not proved from fmt's source: count such statements apart). THE CARD IS WHAT COUNTS. Prove the row's statement (the work); the ties are given (YtejlamkknoicgaaDoorTie.lean); close each card by the builder's one call (the guide's Derived/Test/ToyasCard.lean, 'card_holds'). Laid BY PROGRAM, IN A SANDBOX (cutbox-door.mjs). By AI agents, Wed Nov 11 2026. No macro, syntax, notation, axiom, sorry.
-/
import Derived.Test.YtejlamkknoicgaaDoorRows
import GoSem.ClaimSeven
namespace Go.Proofs.YtejlamkknoicgaaDoor
namespace Rows

/-- THE TIED CARD OF 'laws.FnValueValid'. -/
def fnValueValidCard : Claim7 := { stood := { row := fnValueValidRow, standIns := [], harness := (true, "742f0ac3e02476c22efb302fd0b6da8f79992d7e2cb3b9271e4cedf47a39be3d"), looks := false }, kinds := [], alts := [], laidByText := true, laidKinds := [.data, .pinned], laidTests := true, laidLooks := .later }
def FnValueValidCardSaid : Prop := Claim7.holds Tryd.pinned (.plain (OpenSpec.ofChange fnValueValidSpec)) fnValueValidCard

/-- THE TIED CARD OF 'laws.FnTruncateRunes'. -/
def fnTruncateRunesCard : Claim7 := { stood := { row := fnTruncateRunesRow, standIns := [], harness := (true, "742f0ac3e02476c22efb302fd0b6da8f79992d7e2cb3b9271e4cedf47a39be3d"), looks := false }, kinds := [], alts := [], laidByText := true, laidKinds := [.data, .pinned], laidTests := true, laidLooks := .later }
def FnTruncateRunesCardSaid : Prop := Claim7.holds Tryd.pinned (.plain (OpenSpec.ofChange fnTruncateRunesSpec)) fnTruncateRunesCard

/-- THE SECOND FORM's CARD OF 'laws.FnValueValid'. -/
def fnValueValidUptoCard : Claim7 := { stood := { row := fnValueValidUptoRow, standIns := [], harness := (true, "742f0ac3e02476c22efb302fd0b6da8f79992d7e2cb3b9271e4cedf47a39be3d"), looks := false }, kinds := [], alts := [], laidByText := true, laidKinds := [.data, .pinned], laidTests := true, laidLooks := .later }
def FnValueValidUptoCardSaid : Prop := Claim7.holds Tryd.pinned (.plain (OpenSpec.upto fnValueValidSpec)) fnValueValidUptoCard

/-- THE SECOND FORM's CARD OF 'laws.FnTruncateRunes'. -/
def fnTruncateRunesUptoCard : Claim7 := { stood := { row := fnTruncateRunesUptoRow, standIns := [], harness := (true, "742f0ac3e02476c22efb302fd0b6da8f79992d7e2cb3b9271e4cedf47a39be3d"), looks := false }, kinds := [], alts := [], laidByText := true, laidKinds := [.data, .pinned], laidTests := true, laidLooks := .later }
def FnTruncateRunesUptoCardSaid : Prop := Claim7.holds Tryd.pinned (.plain (OpenSpec.upto fnTruncateRunesSpec)) fnTruncateRunesUptoCard
end Rows
end Go.Proofs.YtejlamkknoicgaaDoor
