/-
  NARROWER THAN 'FOR EVERY INPUT', by the rows' own cells (each row's printed sentence says how): FnParse: laid.
  DERIVED. THE GIVEN ROWS OF THIS SEAT. 1 by the template 'for every input the law returns true; each argument reads behind the call as it read before'; 0 by the template 'total and deterministic' (their statements: YtmjoebnphacadaaGreatDoorTotals.lean).
  GIVEN WITH THE SEED: the statements are not yours to turn. If you find one false, say at which input.
  Laid BY PROGRAM, IN A SANDBOX (cutbox-rows.mjs): the forced cells as the released guide's own fill.sh prints them over the translation b1f58ed9b84b706d… (all of the seat's roots in one cut). By AI agents, Wed Nov 11 2026. No macro, syntax, notation, axiom, sorry.
-/
import Derived.Test.YtmjoebnphacadaaGreatDoorChecked
import GoSem.PinnedTables
import GoSem.Claim
import GoSem.ClaimJoined
import GoSem.ClaimMapViews
import Derived.JoinedTies
import Derived.KernelRfl
namespace Go.Proofs.YtmjoebnphacadaaGreatDoor
/- THE CELL 'sum', in the pinned program and in every row, IS THE sha256 OF THE DUMP (.gsa) THAT YtmjoebnphacadaaGreatDoorProg.lean LOADS. Nothing in Lean hashes anything: it is a label: what it is worth is what the hold of that sum in a sandbox is worth. -/
noncomputable def Tryz.pinned : Pinned := { name := "ytmjoebnphacadaagreatdoor", sum := "b1f58ed9b84b706de955cc11f2e79d0ded0ca9ac7144452724ed25dbb67f8b1e", checked := Tryz.checked }
namespace Rows
def none {H : Type} : Left H := { results := [], args := [] }

/- WHAT THE LISTED PACKAGE-LEVEL VARIABLES READ AS WHEN THE CALL BEGINS. Each datum BY PROGRAM (the guide's laid-datum.mjs) off the statement by which the dump's own 'gosem.cut.vars' lays the variable. In a bare row this is a premise. The card (YtmjoebnphacadaaGreatDoorCards.lean) ties it to the program's text. -/
def laid_unicode_utf8_acceptRanges {H : Type} : DataW H := .agg [.agg [.lit (.int .u8 128), .lit (.int .u8 191)], .agg [.lit (.int .u8 160), .lit (.int .u8 191)], .agg [.lit (.int .u8 128), .lit (.int .u8 159)], .agg [.lit (.int .u8 144), .lit (.int .u8 191)], .agg [.lit (.int .u8 128), .lit (.int .u8 143)], .agg [.lit (.int .u8 0), .lit (.int .u8 0)], .agg [.lit (.int .u8 0), .lit (.int .u8 0)], .agg [.lit (.int .u8 0), .lit (.int .u8 0)], .agg [.lit (.int .u8 0), .lit (.int .u8 0)], .agg [.lit (.int .u8 0), .lit (.int .u8 0)], .agg [.lit (.int .u8 0), .lit (.int .u8 0)], .agg [.lit (.int .u8 0), .lit (.int .u8 0)], .agg [.lit (.int .u8 0), .lit (.int .u8 0)], .agg [.lit (.int .u8 0), .lit (.int .u8 0)], .agg [.lit (.int .u8 0), .lit (.int .u8 0)], .agg [.lit (.int .u8 0), .lit (.int .u8 0)]]
def laid_strconv_ErrSyntax {H : Type} : DataW H := .iface "*errors.errorString" (.ptr (.agg [.lit (.string [105, 110, 118, 97, 108, 105, 100, 32, 115, 121, 110, 116, 97, 120])]))
def laid_unicode_White_Space {H : Type} : DataW H := .ptr (.agg [.slice [.agg [.lit (.int .u16 9), .lit (.int .u16 13), .lit (.int .u16 1)], .agg [.lit (.int .u16 32), .lit (.int .u16 133), .lit (.int .u16 101)], .agg [.lit (.int .u16 160), .lit (.int .u16 5760), .lit (.int .u16 5600)], .agg [.lit (.int .u16 8192), .lit (.int .u16 8202), .lit (.int .u16 1)], .agg [.lit (.int .u16 8232), .lit (.int .u16 8233), .lit (.int .u16 1)], .agg [.lit (.int .u16 8239), .lit (.int .u16 8287), .lit (.int .u16 48)], .agg [.lit (.int .u16 12288), .lit (.int .u16 12288), .lit (.int .u16 1)]] [], .nil, .lit (.int .i64 2)])
def laid_pub_clamour_pub_alertmanager_matcher_parse_errEOF {H : Type} : DataW H := .iface "*errors.errorString" (.ptr (.agg [.lit (.string [101, 110, 100, 32, 111, 102, 32, 105, 110, 112, 117, 116])]))
def laid_pub_clamour_pub_alertmanager_matcher_parse_errExpectedEOF {H : Type} : DataW H := .iface "*errors.errorString" (.ptr (.agg [.lit (.string [101, 120, 112, 101, 99, 116, 101, 100, 32, 101, 110, 100, 32, 111, 102, 32, 105, 110, 112, 117, 116])]))
def laid_pub_clamour_pub_alertmanager_matcher_parse_errNoOpenBrace {H : Type} : DataW H := .iface "*errors.errorString" (.ptr (.agg [.lit (.string [101, 120, 112, 101, 99, 116, 101, 100, 32, 111, 112, 101, 110, 105, 110, 103, 32, 98, 114, 97, 99, 101])]))
def laid_pub_clamour_pub_alertmanager_matcher_parse_errNoCloseBrace {H : Type} : DataW H := .iface "*errors.errorString" (.ptr (.agg [.lit (.string [101, 120, 112, 101, 99, 116, 101, 100, 32, 99, 108, 111, 115, 101, 32, 98, 114, 97, 99, 101])]))
def laid_pub_clamour_pub_alertmanager_matcher_parse_errNoLabelName {H : Type} : DataW H := .iface "*errors.errorString" (.ptr (.agg [.lit (.string [101, 120, 112, 101, 99, 116, 101, 100, 32, 108, 97, 98, 101, 108, 32, 110, 97, 109, 101])]))
def laid_pub_clamour_pub_alertmanager_matcher_parse_errNoLabelValue {H : Type} : DataW H := .iface "*errors.errorString" (.ptr (.agg [.lit (.string [101, 120, 112, 101, 99, 116, 101, 100, 32, 108, 97, 98, 101, 108, 32, 118, 97, 108, 117, 101])]))
def laid_pub_clamour_pub_alertmanager_matcher_parse_errNoOperator {H : Type} : DataW H := .iface "*errors.errorString" (.ptr (.agg [.lit (.string [101, 120, 112, 101, 99, 116, 101, 100, 32, 97, 110, 32, 111, 112, 101, 114, 97, 116, 111, 114, 32, 115, 117, 99, 104, 32, 97, 115, 32, 39, 61, 39, 44, 32, 39, 33, 61, 39, 44, 32, 39, 61, 126, 39, 32, 111, 114, 32, 39, 33, 126, 39])]))
def laid_pub_clamour_pub_alertmanager_matcher_parse_errExpectedComma {H : Type} : DataW H := .iface "*errors.errorString" (.ptr (.agg [.lit (.string [101, 120, 112, 101, 99, 116, 101, 100, 32, 97, 32, 99, 111, 109, 109, 97])]))
def laid_pub_clamour_pub_alertmanager_matcher_parse_errExpectedCommaOrCloseBrace {H : Type} : DataW H := .iface "*errors.errorString" (.ptr (.agg [.lit (.string [101, 120, 112, 101, 99, 116, 101, 100, 32, 97, 32, 99, 111, 109, 109, 97, 32, 111, 114, 32, 99, 108, 111, 115, 101, 32, 98, 114, 97, 99, 101])]))
def laid_pub_clamour_pub_alertmanager_matcher_parse_errExpectedMatcherOrCloseBrace {H : Type} : DataW H := .iface "*errors.errorString" (.ptr (.agg [.lit (.string [101, 120, 112, 101, 99, 116, 101, 100, 32, 97, 32, 109, 97, 116, 99, 104, 101, 114, 32, 111, 114, 32, 99, 108, 111, 115, 101, 32, 98, 114, 97, 99, 101, 32, 97, 102, 116, 101, 114, 32, 99, 111, 109, 109, 97])]))
/-- One of Go's own tables, pinned by name: the form's constant. -/
def laid_unicode_utf8_first : DataW Unit := Go.Pinned.utf8First

/-- 'laws.FnParse': WHATEVER THE INPUT: true; the input reads as it did. -/
def fnParseSpec : ChangeSpec := { name := "fnParse", fn := fun _ => fun
  | [d] => { results := [.lit (.bool true)], args := [d] }
  | _ => none }
def fnParseRow : OpenClaim := { program := "ytmjoebnphacadaagreatdoor", sum := "b1f58ed9b84b706de955cc11f2e79d0ded0ca9ac7144452724ed25dbb67f8b1e", func := "pub-clamour/laws.FnParse", spec := "fnParse", inPlace := ["internal/reflectlite.TypeOf", "internal/bytealg.IndexByteString"], unfollowed := true, recurses := true, named := ["pub-clamour/pub/alertmanager/matcher/parse.errEOF", "unicode/utf8.first", "unicode/utf8.acceptRanges", "unicode.White_Space", "pub-clamour/pub/alertmanager/matcher/parse.errExpectedEOF", "pub-clamour/pub/alertmanager/matcher/parse.errNoCloseBrace", "pub-clamour/pub/alertmanager/matcher/parse.errNoOpenBrace", "pub-clamour/pub/alertmanager/matcher/parse.errNoLabelName", "pub-clamour/pub/alertmanager/matcher/parse.errNoOperator", "pub-clamour/pub/alertmanager/matcher/parse.errNoLabelValue", "strconv.ErrSyntax", "pub-clamour/pub/alertmanager/matcher/parse.errExpectedCommaOrCloseBrace", "pub-clamour/pub/alertmanager/matcher/parse.errExpectedComma", "pub-clamour/pub/alertmanager/matcher/parse.errExpectedMatcherOrCloseBrace"], apart := false, laid := [("unicode/utf8.acceptRanges", laid_unicode_utf8_acceptRanges), ("strconv.ErrSyntax", laid_strconv_ErrSyntax), ("unicode.White_Space", laid_unicode_White_Space), ("pub-clamour/pub/alertmanager/matcher/parse.errEOF", laid_pub_clamour_pub_alertmanager_matcher_parse_errEOF), ("pub-clamour/pub/alertmanager/matcher/parse.errExpectedEOF", laid_pub_clamour_pub_alertmanager_matcher_parse_errExpectedEOF), ("pub-clamour/pub/alertmanager/matcher/parse.errNoOpenBrace", laid_pub_clamour_pub_alertmanager_matcher_parse_errNoOpenBrace), ("pub-clamour/pub/alertmanager/matcher/parse.errNoCloseBrace", laid_pub_clamour_pub_alertmanager_matcher_parse_errNoCloseBrace), ("pub-clamour/pub/alertmanager/matcher/parse.errNoLabelName", laid_pub_clamour_pub_alertmanager_matcher_parse_errNoLabelName), ("pub-clamour/pub/alertmanager/matcher/parse.errNoLabelValue", laid_pub_clamour_pub_alertmanager_matcher_parse_errNoLabelValue), ("pub-clamour/pub/alertmanager/matcher/parse.errNoOperator", laid_pub_clamour_pub_alertmanager_matcher_parse_errNoOperator), ("pub-clamour/pub/alertmanager/matcher/parse.errExpectedComma", laid_pub_clamour_pub_alertmanager_matcher_parse_errExpectedComma), ("pub-clamour/pub/alertmanager/matcher/parse.errExpectedCommaOrCloseBrace", laid_pub_clamour_pub_alertmanager_matcher_parse_errExpectedCommaOrCloseBrace), ("pub-clamour/pub/alertmanager/matcher/parse.errExpectedMatcherOrCloseBrace", laid_pub_clamour_pub_alertmanager_matcher_parse_errExpectedMatcherOrCloseBrace), ("unicode/utf8.first", laid_unicode_utf8_first)] }
def FnParseSaid : Prop := fnParseRow.holds Tryz.pinned (OpenSpec.ofChange fnParseSpec)

/-- ITS FALSE NEIGHBOUR: 'it returns false'. Refute it at one input. -/
def fnParseWrong : ChangeSpec := { name := "fnParse", fn := fun _ => fun
  | [d] => { results := [.lit (.bool false)], args := [d] }
  | _ => none }
def FnParseWrongFalsely : Prop := fnParseRow.holds Tryz.pinned (OpenSpec.ofChange fnParseWrong)

/- THE SECOND FORM. 'bulk': how many values and letters a reading holds, each counted each time it is reached (what is shared counts as often as it is met; a slice's spare places count too). A statement '..UptoSaid' is the law's where the arguments, and the package variables that the reading takes, are together of bulk at most 1048576: NARROWER than '..Said'. Prove '..Said' where nothing that the law and all that it calls make is longer than what came in: it says more and counts as full. Else prove '..UptoSaid'. A law counts once. -/
mutual
def uptoBulk {H : Type} : DataW H → Nat
  | .lit (.string bytes) => bytes.length + 1
  | .lit _ => 1
  | .nil => 1
  | .ptr d => uptoBulk d + 1
  | .slice elems spare => uptoBulkAll elems + uptoBulkAll spare + 1
  | .agg parts => uptoBulkAll parts + 1
  | .iface _ d => uptoBulk d + 1
  | .map entries => uptoBulkEntries entries + 1
  | .held _ => 1
def uptoBulkAll {H : Type} : List (DataW H) → Nat
  | [] => 0
  | d :: r => uptoBulk d + uptoBulkAll r
def uptoBulkEntries {H : Type} : List (Lit × DataW H) → Nat
  | [] => 0
  | x :: r => uptoBulkEntry x + uptoBulkEntries r
def uptoBulkEntry {H : Type} : Lit × DataW H → Nat
  | (.string bytes, d) => bytes.length + uptoBulk d + 1
  | (_, d) => uptoBulk d + 1
 end
def uptoSmall : (H : Type) → List (DataW H) → Bool := fun _ ds => decide (uptoBulkAll ds ≤ 1048576)
def OpenSpec.upto (s : _root_.Go.ChangeSpec) : _root_.Go.OpenSpec := { _root_.Go.OpenSpec.ofChange s with cond := some uptoSmall }

/-- 'laws.FnParse', WHERE WHAT IT READS IS OF BULK AT MOST 1048576: true; the input reads as it did. -/
def fnParseUptoRow : OpenClaim := { program := "ytmjoebnphacadaagreatdoor", sum := "b1f58ed9b84b706de955cc11f2e79d0ded0ca9ac7144452724ed25dbb67f8b1e", func := "pub-clamour/laws.FnParse", spec := "fnParse", inPlace := ["internal/reflectlite.TypeOf", "internal/bytealg.IndexByteString"], unfollowed := true, recurses := true, named := ["pub-clamour/pub/alertmanager/matcher/parse.errEOF", "unicode/utf8.first", "unicode/utf8.acceptRanges", "unicode.White_Space", "pub-clamour/pub/alertmanager/matcher/parse.errExpectedEOF", "pub-clamour/pub/alertmanager/matcher/parse.errNoCloseBrace", "pub-clamour/pub/alertmanager/matcher/parse.errNoOpenBrace", "pub-clamour/pub/alertmanager/matcher/parse.errNoLabelName", "pub-clamour/pub/alertmanager/matcher/parse.errNoOperator", "pub-clamour/pub/alertmanager/matcher/parse.errNoLabelValue", "strconv.ErrSyntax", "pub-clamour/pub/alertmanager/matcher/parse.errExpectedCommaOrCloseBrace", "pub-clamour/pub/alertmanager/matcher/parse.errExpectedComma", "pub-clamour/pub/alertmanager/matcher/parse.errExpectedMatcherOrCloseBrace"], apart := false, laid := [("unicode/utf8.acceptRanges", laid_unicode_utf8_acceptRanges), ("strconv.ErrSyntax", laid_strconv_ErrSyntax), ("unicode.White_Space", laid_unicode_White_Space), ("pub-clamour/pub/alertmanager/matcher/parse.errEOF", laid_pub_clamour_pub_alertmanager_matcher_parse_errEOF), ("pub-clamour/pub/alertmanager/matcher/parse.errExpectedEOF", laid_pub_clamour_pub_alertmanager_matcher_parse_errExpectedEOF), ("pub-clamour/pub/alertmanager/matcher/parse.errNoOpenBrace", laid_pub_clamour_pub_alertmanager_matcher_parse_errNoOpenBrace), ("pub-clamour/pub/alertmanager/matcher/parse.errNoCloseBrace", laid_pub_clamour_pub_alertmanager_matcher_parse_errNoCloseBrace), ("pub-clamour/pub/alertmanager/matcher/parse.errNoLabelName", laid_pub_clamour_pub_alertmanager_matcher_parse_errNoLabelName), ("pub-clamour/pub/alertmanager/matcher/parse.errNoLabelValue", laid_pub_clamour_pub_alertmanager_matcher_parse_errNoLabelValue), ("pub-clamour/pub/alertmanager/matcher/parse.errNoOperator", laid_pub_clamour_pub_alertmanager_matcher_parse_errNoOperator), ("pub-clamour/pub/alertmanager/matcher/parse.errExpectedComma", laid_pub_clamour_pub_alertmanager_matcher_parse_errExpectedComma), ("pub-clamour/pub/alertmanager/matcher/parse.errExpectedCommaOrCloseBrace", laid_pub_clamour_pub_alertmanager_matcher_parse_errExpectedCommaOrCloseBrace), ("pub-clamour/pub/alertmanager/matcher/parse.errExpectedMatcherOrCloseBrace", laid_pub_clamour_pub_alertmanager_matcher_parse_errExpectedMatcherOrCloseBrace), ("unicode/utf8.first", laid_unicode_utf8_first)], narrowed := true }
def FnParseUptoSaid : Prop := fnParseUptoRow.holds Tryz.pinned (OpenSpec.upto fnParseSpec)

end Rows
end Go.Proofs.YtmjoebnphacadaaGreatDoor
