/-
  DERIVED. GIVEN WITH THE SEED: THE PROGRAM's TIES (one call each: nine closed facts by the kernel) AND EACH ROW's TIE, after the 31st guide's Derived/Test/Toyas{Tie, Card}.lean. No idea stands in it: it is a product of the set-up. Laid BY PROGRAM, IN A SANDBOX (cutbox-door.mjs). By AI agents, Wed Nov 11 2026. No macro, syntax, notation, axiom, sorry.
-/
import Derived.Test.YtmjoebnphacadaaGreatDoorRows
import Derived.LaidByTextLater
import Derived.SevenTiedAt
import Derived.LaidSub
import Derived.LaidOnce
namespace Go.Proofs.YtmjoebnphacadaaGreatDoor
open Go
set_option maxRecDepth 100000
theorem seatTie1 : Tryz.prog.laidByTextLater [("unicode/utf8.acceptRanges", Rows.laid_unicode_utf8_acceptRanges), ("strconv.ErrSyntax", Rows.laid_strconv_ErrSyntax), ("unicode.White_Space", Rows.laid_unicode_White_Space), ("pub-clamour/pub/alertmanager/matcher/parse.errEOF", Rows.laid_pub_clamour_pub_alertmanager_matcher_parse_errEOF), ("pub-clamour/pub/alertmanager/matcher/parse.errExpectedEOF", Rows.laid_pub_clamour_pub_alertmanager_matcher_parse_errExpectedEOF), ("pub-clamour/pub/alertmanager/matcher/parse.errNoOpenBrace", Rows.laid_pub_clamour_pub_alertmanager_matcher_parse_errNoOpenBrace), ("pub-clamour/pub/alertmanager/matcher/parse.errNoCloseBrace", Rows.laid_pub_clamour_pub_alertmanager_matcher_parse_errNoCloseBrace), ("pub-clamour/pub/alertmanager/matcher/parse.errNoLabelName", Rows.laid_pub_clamour_pub_alertmanager_matcher_parse_errNoLabelName), ("pub-clamour/pub/alertmanager/matcher/parse.errNoLabelValue", Rows.laid_pub_clamour_pub_alertmanager_matcher_parse_errNoLabelValue), ("pub-clamour/pub/alertmanager/matcher/parse.errNoOperator", Rows.laid_pub_clamour_pub_alertmanager_matcher_parse_errNoOperator), ("pub-clamour/pub/alertmanager/matcher/parse.errExpectedComma", Rows.laid_pub_clamour_pub_alertmanager_matcher_parse_errExpectedComma), ("pub-clamour/pub/alertmanager/matcher/parse.errExpectedCommaOrCloseBrace", Rows.laid_pub_clamour_pub_alertmanager_matcher_parse_errExpectedCommaOrCloseBrace), ("pub-clamour/pub/alertmanager/matcher/parse.errExpectedMatcherOrCloseBrace", Rows.laid_pub_clamour_pub_alertmanager_matcher_parse_errExpectedMatcherOrCloseBrace)] [.data, .sentinel, .listed, .sentinel, .sentinel, .sentinel, .sentinel, .sentinel, .sentinel, .sentinel, .sentinel, .sentinel, .sentinel] true :=
  Program.laidByTextLater_by_one 247 8 33 (by kernel_rfl) (by kernel_rfl) (by kernel_rfl) (by kernel_rfl) (by kernel_rfl) (by kernel_rfl) (fun _ _ => by kernel_rfl)
theorem pin_laid_unicode_utf8_first : Tryz.pinned.checked.prog.pinnedFits "unicode/utf8.first" = true := by kernel_rfl
theorem noOwnUnsafe : Tryz.pinned.checked.prog.headLifts.contains "ownunsafe" = false := by kernel_rfl
theorem fits1 : Tryz.pinned.checked.prog.listedFits [("unicode/utf8.acceptRanges", Rows.laid_unicode_utf8_acceptRanges), ("strconv.ErrSyntax", Rows.laid_strconv_ErrSyntax), ("unicode.White_Space", Rows.laid_unicode_White_Space), ("pub-clamour/pub/alertmanager/matcher/parse.errEOF", Rows.laid_pub_clamour_pub_alertmanager_matcher_parse_errEOF), ("pub-clamour/pub/alertmanager/matcher/parse.errExpectedEOF", Rows.laid_pub_clamour_pub_alertmanager_matcher_parse_errExpectedEOF), ("pub-clamour/pub/alertmanager/matcher/parse.errNoOpenBrace", Rows.laid_pub_clamour_pub_alertmanager_matcher_parse_errNoOpenBrace), ("pub-clamour/pub/alertmanager/matcher/parse.errNoCloseBrace", Rows.laid_pub_clamour_pub_alertmanager_matcher_parse_errNoCloseBrace), ("pub-clamour/pub/alertmanager/matcher/parse.errNoLabelName", Rows.laid_pub_clamour_pub_alertmanager_matcher_parse_errNoLabelName), ("pub-clamour/pub/alertmanager/matcher/parse.errNoLabelValue", Rows.laid_pub_clamour_pub_alertmanager_matcher_parse_errNoLabelValue), ("pub-clamour/pub/alertmanager/matcher/parse.errNoOperator", Rows.laid_pub_clamour_pub_alertmanager_matcher_parse_errNoOperator), ("pub-clamour/pub/alertmanager/matcher/parse.errExpectedComma", Rows.laid_pub_clamour_pub_alertmanager_matcher_parse_errExpectedComma), ("pub-clamour/pub/alertmanager/matcher/parse.errExpectedCommaOrCloseBrace", Rows.laid_pub_clamour_pub_alertmanager_matcher_parse_errExpectedCommaOrCloseBrace), ("pub-clamour/pub/alertmanager/matcher/parse.errExpectedMatcherOrCloseBrace", Rows.laid_pub_clamour_pub_alertmanager_matcher_parse_errExpectedMatcherOrCloseBrace), ("unicode/utf8.first", Rows.laid_unicode_utf8_first)] = true := by
  unfold Program.listedFits
  rw [noOwnUnsafe]
  kernel_rfl
theorem tie : Tryz.prog.laidByTextLater [("unicode/utf8.acceptRanges", Rows.laid_unicode_utf8_acceptRanges), ("strconv.ErrSyntax", Rows.laid_strconv_ErrSyntax), ("unicode.White_Space", Rows.laid_unicode_White_Space), ("pub-clamour/pub/alertmanager/matcher/parse.errEOF", Rows.laid_pub_clamour_pub_alertmanager_matcher_parse_errEOF), ("pub-clamour/pub/alertmanager/matcher/parse.errExpectedEOF", Rows.laid_pub_clamour_pub_alertmanager_matcher_parse_errExpectedEOF), ("pub-clamour/pub/alertmanager/matcher/parse.errNoOpenBrace", Rows.laid_pub_clamour_pub_alertmanager_matcher_parse_errNoOpenBrace), ("pub-clamour/pub/alertmanager/matcher/parse.errNoCloseBrace", Rows.laid_pub_clamour_pub_alertmanager_matcher_parse_errNoCloseBrace), ("pub-clamour/pub/alertmanager/matcher/parse.errNoLabelName", Rows.laid_pub_clamour_pub_alertmanager_matcher_parse_errNoLabelName), ("pub-clamour/pub/alertmanager/matcher/parse.errNoLabelValue", Rows.laid_pub_clamour_pub_alertmanager_matcher_parse_errNoLabelValue), ("pub-clamour/pub/alertmanager/matcher/parse.errNoOperator", Rows.laid_pub_clamour_pub_alertmanager_matcher_parse_errNoOperator), ("pub-clamour/pub/alertmanager/matcher/parse.errExpectedComma", Rows.laid_pub_clamour_pub_alertmanager_matcher_parse_errExpectedComma), ("pub-clamour/pub/alertmanager/matcher/parse.errExpectedCommaOrCloseBrace", Rows.laid_pub_clamour_pub_alertmanager_matcher_parse_errExpectedCommaOrCloseBrace), ("pub-clamour/pub/alertmanager/matcher/parse.errExpectedMatcherOrCloseBrace", Rows.laid_pub_clamour_pub_alertmanager_matcher_parse_errExpectedMatcherOrCloseBrace)] [.data, .sentinel, .listed, .sentinel, .sentinel, .sentinel, .sentinel, .sentinel, .sentinel, .sentinel, .sentinel, .sentinel, .sentinel] true :=
  Program.laidByTextLater.sub seatTie1 ["unicode/utf8.acceptRanges", "strconv.ErrSyntax", "unicode.White_Space", "pub-clamour/pub/alertmanager/matcher/parse.errEOF", "pub-clamour/pub/alertmanager/matcher/parse.errExpectedEOF", "pub-clamour/pub/alertmanager/matcher/parse.errNoOpenBrace", "pub-clamour/pub/alertmanager/matcher/parse.errNoCloseBrace", "pub-clamour/pub/alertmanager/matcher/parse.errNoLabelName", "pub-clamour/pub/alertmanager/matcher/parse.errNoLabelValue", "pub-clamour/pub/alertmanager/matcher/parse.errNoOperator", "pub-clamour/pub/alertmanager/matcher/parse.errExpectedComma", "pub-clamour/pub/alertmanager/matcher/parse.errExpectedCommaOrCloseBrace", "pub-clamour/pub/alertmanager/matcher/parse.errExpectedMatcherOrCloseBrace"] (by kernel_rfl) (by kernel_rfl)
theorem fnParse_row_tie : Rows.fnParseRow.laidByTextAt .later Tryz.pinned [.data, .sentinel, .listed, .sentinel, .sentinel, .sentinel, .sentinel, .sentinel, .sentinel, .sentinel, .sentinel, .sentinel, .sentinel, .pinned] true :=
  OpenClaim.laidByTextAt_pinned rfl rfl tie rfl rfl rfl rfl (fun y hy _e => by
    simp only [Rows.fnParseRow, List.zip_cons_cons, List.zip_nil_right, List.mem_cons, List.mem_nil_iff, or_false] at hy
    rcases hy with rfl | rfl | rfl | rfl | rfl | rfl | rfl | rfl | rfl | rfl | rfl | rfl | rfl | rfl
    · cases _e
    · cases _e
    · cases _e
    · cases _e
    · cases _e
    · cases _e
    · cases _e
    · cases _e
    · cases _e
    · cases _e
    · cases _e
    · cases _e
    · cases _e
    · exact ⟨pin_laid_unicode_utf8_first, by kernel_rfl⟩) fits1
theorem fnParseUpto_row_tie : Rows.fnParseUptoRow.laidByTextAt .later Tryz.pinned [.data, .sentinel, .listed, .sentinel, .sentinel, .sentinel, .sentinel, .sentinel, .sentinel, .sentinel, .sentinel, .sentinel, .sentinel, .pinned] true :=
  OpenClaim.laidByTextAt_pinned rfl rfl tie rfl rfl rfl rfl (fun y hy _e => by
    simp only [Rows.fnParseUptoRow, List.zip_cons_cons, List.zip_nil_right, List.mem_cons, List.mem_nil_iff, or_false] at hy
    rcases hy with rfl | rfl | rfl | rfl | rfl | rfl | rfl | rfl | rfl | rfl | rfl | rfl | rfl | rfl
    · cases _e
    · cases _e
    · cases _e
    · cases _e
    · cases _e
    · cases _e
    · cases _e
    · cases _e
    · cases _e
    · cases _e
    · cases _e
    · cases _e
    · cases _e
    · exact ⟨pin_laid_unicode_utf8_first, by kernel_rfl⟩) fits1
end Go.Proofs.YtmjoebnphacadaaGreatDoor
