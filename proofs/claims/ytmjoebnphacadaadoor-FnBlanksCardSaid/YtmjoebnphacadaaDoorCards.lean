/-
  DERIVED. GIVEN WITH THE SEED: THE CARDS: each row of YtmjoebnphacadaaDoorRows.lean that lists a variable, with what it lists TIED to the program's text (the seventh form; the later family's looks); each row that meets fmt, with fmt's text TOLD by the authors' own Lean function (tested against real Go, not proved from fmt's source: count such statements apart). THE CARD IS WHAT COUNTS. Prove the row's statement (the work); the ties are given (YtmjoebnphacadaaDoorTie.lean); close each card by the builder's one call (the guide's Derived/Test/ToyasCard.lean, 'card_holds'). Laid BY PROGRAM, IN A SANDBOX (cutbox-door.mjs). By AI agents, Wed Nov 11 2026. No macro, syntax, notation, axiom, sorry.
-/
import Derived.Test.YtmjoebnphacadaaDoorRows
import GoSem.ClaimSeven
namespace Go.Proofs.YtmjoebnphacadaaDoor
namespace Rows

/-- THE TIED CARD OF 'laws.FnTokenSpans'. -/
def fnTokenSpansCard : Claim7 := { stood := { row := fnTokenSpansRow, standIns := [], harness := (true, "a9cce1da9c307e2aa20ba3c21ed49bf8ee524d04ca6a71b3fa23b6b3bb3a8d67"), looks := true }, kinds := [], alts := [], laidByText := true, laidKinds := [.data, .listed, .pinned], laidTests := true, laidLooks := .later }
def FnTokenSpansCardSaid : Prop := Claim7.holds Tryd.pinned (.plain (OpenSpec.ofChange fnTokenSpansSpec)) fnTokenSpansCard

/-- THE TIED CARD OF 'laws.FnParseTokens'. -/
def fnParseTokensCard : Claim7 := { stood := { row := fnParseTokensRow, standIns := [], harness := (true, "a9cce1da9c307e2aa20ba3c21ed49bf8ee524d04ca6a71b3fa23b6b3bb3a8d67"), looks := true }, kinds := [], alts := [], laidByText := true, laidKinds := [.data, .sentinel, .listed, .sentinel, .sentinel, .sentinel, .sentinel, .sentinel, .sentinel, .sentinel, .sentinel, .sentinel, .sentinel, .pinned], laidTests := true, laidLooks := .later }
def FnParseTokensCardSaid : Prop := Claim7.holds Tryd.pinned (.plain (OpenSpec.ofChange fnParseTokensSpec)) fnParseTokensCard

/-- THE TIED CARD OF 'laws.FnParseSound'. -/
def fnParseSoundCard : Claim7 := { stood := { row := fnParseSoundRow, standIns := [], harness := (true, "a9cce1da9c307e2aa20ba3c21ed49bf8ee524d04ca6a71b3fa23b6b3bb3a8d67"), looks := true }, kinds := [], alts := [], laidByText := true, laidKinds := [.data, .sentinel, .listed, .sentinel, .sentinel, .sentinel, .sentinel, .sentinel, .sentinel, .sentinel, .sentinel, .sentinel, .sentinel, .pinned], laidTests := true, laidLooks := .later }
def FnParseSoundCardSaid : Prop := Claim7.holds Tryd.pinned (.plain (OpenSpec.ofChange fnParseSoundSpec)) fnParseSoundCard

/-- THE TIED CARD OF 'laws.FnUnquoted'. -/
def fnUnquotedCard : Claim7 := { stood := { row := fnUnquotedRow, standIns := [], harness := (true, "a9cce1da9c307e2aa20ba3c21ed49bf8ee524d04ca6a71b3fa23b6b3bb3a8d67"), looks := true }, kinds := [], alts := [], laidByText := true, laidKinds := [.data, .sentinel, .listed, .sentinel, .sentinel, .sentinel, .sentinel, .sentinel, .sentinel, .sentinel, .sentinel, .sentinel, .sentinel, .pinned], laidTests := true, laidLooks := .later }
def FnUnquotedCardSaid : Prop := Claim7.holds Tryd.pinned (.plain (OpenSpec.ofChange fnUnquotedSpec)) fnUnquotedCard

/-- THE TIED CARD OF 'laws.FnBlanks'. -/
def fnBlanksCard : Claim7 := { stood := { row := fnBlanksRow, standIns := [], harness := (true, "a9cce1da9c307e2aa20ba3c21ed49bf8ee524d04ca6a71b3fa23b6b3bb3a8d67"), looks := true }, kinds := [], alts := [], laidByText := true, laidKinds := [.data, .sentinel, .listed, .sentinel, .sentinel, .sentinel, .sentinel, .sentinel, .sentinel, .sentinel, .sentinel, .sentinel, .sentinel, .pinned], laidTests := true, laidLooks := .later }
def FnBlanksCardSaid : Prop := Claim7.holds Tryd.pinned (.plain (OpenSpec.ofChange fnBlanksSpec)) fnBlanksCard

/-- THE TIED CARD OF 'laws.FnComma'. -/
def fnCommaCard : Claim7 := { stood := { row := fnCommaRow, standIns := [], harness := (true, "a9cce1da9c307e2aa20ba3c21ed49bf8ee524d04ca6a71b3fa23b6b3bb3a8d67"), looks := true }, kinds := [], alts := [], laidByText := true, laidKinds := [.data, .sentinel, .listed, .sentinel, .sentinel, .sentinel, .sentinel, .sentinel, .sentinel, .sentinel, .sentinel, .sentinel, .sentinel, .pinned], laidTests := true, laidLooks := .later }
def FnCommaCardSaid : Prop := Claim7.holds Tryd.pinned (.plain (OpenSpec.ofChange fnCommaSpec)) fnCommaCard

/-- THE SECOND FORM's CARD OF 'laws.FnTokenSpans'. -/
def fnTokenSpansUptoCard : Claim7 := { stood := { row := fnTokenSpansUptoRow, standIns := [], harness := (true, "a9cce1da9c307e2aa20ba3c21ed49bf8ee524d04ca6a71b3fa23b6b3bb3a8d67"), looks := true }, kinds := [], alts := [], laidByText := true, laidKinds := [.data, .listed, .pinned], laidTests := true, laidLooks := .later }
def FnTokenSpansUptoCardSaid : Prop := Claim7.holds Tryd.pinned (.plain (OpenSpec.upto fnTokenSpansSpec)) fnTokenSpansUptoCard

/-- THE SECOND FORM's CARD OF 'laws.FnParseTokens'. -/
def fnParseTokensUptoCard : Claim7 := { stood := { row := fnParseTokensUptoRow, standIns := [], harness := (true, "a9cce1da9c307e2aa20ba3c21ed49bf8ee524d04ca6a71b3fa23b6b3bb3a8d67"), looks := true }, kinds := [], alts := [], laidByText := true, laidKinds := [.data, .sentinel, .listed, .sentinel, .sentinel, .sentinel, .sentinel, .sentinel, .sentinel, .sentinel, .sentinel, .sentinel, .sentinel, .pinned], laidTests := true, laidLooks := .later }
def FnParseTokensUptoCardSaid : Prop := Claim7.holds Tryd.pinned (.plain (OpenSpec.upto fnParseTokensSpec)) fnParseTokensUptoCard

/-- THE SECOND FORM's CARD OF 'laws.FnParseSound'. -/
def fnParseSoundUptoCard : Claim7 := { stood := { row := fnParseSoundUptoRow, standIns := [], harness := (true, "a9cce1da9c307e2aa20ba3c21ed49bf8ee524d04ca6a71b3fa23b6b3bb3a8d67"), looks := true }, kinds := [], alts := [], laidByText := true, laidKinds := [.data, .sentinel, .listed, .sentinel, .sentinel, .sentinel, .sentinel, .sentinel, .sentinel, .sentinel, .sentinel, .sentinel, .sentinel, .pinned], laidTests := true, laidLooks := .later }
def FnParseSoundUptoCardSaid : Prop := Claim7.holds Tryd.pinned (.plain (OpenSpec.upto fnParseSoundSpec)) fnParseSoundUptoCard

/-- THE SECOND FORM's CARD OF 'laws.FnUnquoted'. -/
def fnUnquotedUptoCard : Claim7 := { stood := { row := fnUnquotedUptoRow, standIns := [], harness := (true, "a9cce1da9c307e2aa20ba3c21ed49bf8ee524d04ca6a71b3fa23b6b3bb3a8d67"), looks := true }, kinds := [], alts := [], laidByText := true, laidKinds := [.data, .sentinel, .listed, .sentinel, .sentinel, .sentinel, .sentinel, .sentinel, .sentinel, .sentinel, .sentinel, .sentinel, .sentinel, .pinned], laidTests := true, laidLooks := .later }
def FnUnquotedUptoCardSaid : Prop := Claim7.holds Tryd.pinned (.plain (OpenSpec.upto fnUnquotedSpec)) fnUnquotedUptoCard

/-- THE SECOND FORM's CARD OF 'laws.FnBlanks'. -/
def fnBlanksUptoCard : Claim7 := { stood := { row := fnBlanksUptoRow, standIns := [], harness := (true, "a9cce1da9c307e2aa20ba3c21ed49bf8ee524d04ca6a71b3fa23b6b3bb3a8d67"), looks := true }, kinds := [], alts := [], laidByText := true, laidKinds := [.data, .sentinel, .listed, .sentinel, .sentinel, .sentinel, .sentinel, .sentinel, .sentinel, .sentinel, .sentinel, .sentinel, .sentinel, .pinned], laidTests := true, laidLooks := .later }
def FnBlanksUptoCardSaid : Prop := Claim7.holds Tryd.pinned (.plain (OpenSpec.upto fnBlanksSpec)) fnBlanksUptoCard

/-- THE SECOND FORM's CARD OF 'laws.FnComma'. -/
def fnCommaUptoCard : Claim7 := { stood := { row := fnCommaUptoRow, standIns := [], harness := (true, "a9cce1da9c307e2aa20ba3c21ed49bf8ee524d04ca6a71b3fa23b6b3bb3a8d67"), looks := true }, kinds := [], alts := [], laidByText := true, laidKinds := [.data, .sentinel, .listed, .sentinel, .sentinel, .sentinel, .sentinel, .sentinel, .sentinel, .sentinel, .sentinel, .sentinel, .sentinel, .pinned], laidTests := true, laidLooks := .later }
def FnCommaUptoCardSaid : Prop := Claim7.holds Tryd.pinned (.plain (OpenSpec.upto fnCommaSpec)) fnCommaUptoCard
end Rows
end Go.Proofs.YtmjoebnphacadaaDoor
