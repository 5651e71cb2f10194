/-
  DERIVED. GIVEN WITH THE SEED: THE CARDS: each row of YthpaplpnbklojaaDoorRows.lean that lists a variable, with what it lists TIED to the program's text (the seventh form; the later family's looks); each row that meets fmt, with fmt's text TOLD by the authors' own Lean function (tested against real Go, not proved from fmt's source: count such statements apart). THE CARD IS WHAT COUNTS. Prove the row's statement (the work); the ties are given (YthpaplpnbklojaaDoorTie.lean); close each card by the builder's one call (the guide's Derived/Test/ToyasCard.lean, 'card_holds'). Laid BY PROGRAM, IN A SANDBOX (cutbox-door.mjs). By AI agents, Wed Nov 11 2026. No macro, syntax, notation, axiom, sorry.
-/
import Derived.Test.YthpaplpnbklojaaDoorRows
import GoSem.ClaimSeven
namespace Go.Proofs.YthpaplpnbklojaaDoor
namespace Rows

/-- THE TIED CARD OF 'laws.FnTruncateBegin'. -/
def fnTruncateBeginCard : Claim7 := { stood := { row := fnTruncateBeginRow, standIns := [], harness := (true, "dc1200896a2967270b7ccd4d1cb20b0d9a0f4bfee9252ed4507554c4f7ec5ebe"), looks := false }, kinds := [], alts := [], laidByText := true, laidKinds := [.data, .pinned], laidTests := true, laidLooks := .later }
def FnTruncateBeginCardSaid : Prop := Claim7.holds Tryd.pinned (.plain (OpenSpec.ofChange fnTruncateBeginSpec)) fnTruncateBeginCard

/-- THE SECOND FORM's CARD OF 'laws.FnTruncateBegin'. -/
def fnTruncateBeginUptoCard : Claim7 := { stood := { row := fnTruncateBeginUptoRow, standIns := [], harness := (true, "dc1200896a2967270b7ccd4d1cb20b0d9a0f4bfee9252ed4507554c4f7ec5ebe"), looks := false }, kinds := [], alts := [], laidByText := true, laidKinds := [.data, .pinned], laidTests := true, laidLooks := .later }
def FnTruncateBeginUptoCardSaid : Prop := Claim7.holds Tryd.pinned (.plain (OpenSpec.upto fnTruncateBeginSpec)) fnTruncateBeginUptoCard
end Rows
end Go.Proofs.YthpaplpnbklojaaDoor
