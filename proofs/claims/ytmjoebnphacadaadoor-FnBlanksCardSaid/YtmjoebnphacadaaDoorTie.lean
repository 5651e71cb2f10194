/-
  DERIVED. GIVEN WITH THE SEED: THE PROGRAM's TIES (one call each: nine closed facts by the kernel) AND EACH ROW's TIE, after the 31st guide's Derived/Test/Toyas{Tie, Card}.lean. No idea stands in it: it is a product of the set-up. Laid BY PROGRAM, IN A SANDBOX (cutbox-door.mjs). By AI agents, Wed Nov 11 2026. No macro, syntax, notation, axiom, sorry.
-/
import Derived.Test.YtmjoebnphacadaaDoorRows
import Derived.LaidByTextLater
import Derived.SevenTiedAt
import Derived.LaidSub
import Derived.LaidOnce
namespace Go.Proofs.YtmjoebnphacadaaDoor
open Go
set_option maxRecDepth 100000
theorem seatTie1 : Tryd.prog.laidByTextLater [("unicode/utf8.acceptRanges", Rows.laid_unicode_utf8_acceptRanges), ("strconv.ErrSyntax", Rows.laid_strconv_ErrSyntax), ("unicode.White_Space", Rows.laid_unicode_White_Space), ("pub-clamour/pub/alertmanager/matcher/parse.errEOF", Rows.laid_pub_clamour_pub_alertmanager_matcher_parse_errEOF), ("pub-clamour/pub/alertmanager/matcher/parse.errExpectedEOF", Rows.laid_pub_clamour_pub_alertmanager_matcher_parse_errExpectedEOF), ("pub-clamour/pub/alertmanager/matcher/parse.errNoOpenBrace", Rows.laid_pub_clamour_pub_alertmanager_matcher_parse_errNoOpenBrace), ("pub-clamour/pub/alertmanager/matcher/parse.errNoCloseBrace", Rows.laid_pub_clamour_pub_alertmanager_matcher_parse_errNoCloseBrace), ("pub-clamour/pub/alertmanager/matcher/parse.errNoLabelName", Rows.laid_pub_clamour_pub_alertmanager_matcher_parse_errNoLabelName), ("pub-clamour/pub/alertmanager/matcher/parse.errNoLabelValue", Rows.laid_pub_clamour_pub_alertmanager_matcher_parse_errNoLabelValue), ("pub-clamour/pub/alertmanager/matcher/parse.errNoOperator", Rows.laid_pub_clamour_pub_alertmanager_matcher_parse_errNoOperator), ("pub-clamour/pub/alertmanager/matcher/parse.errExpectedComma", Rows.laid_pub_clamour_pub_alertmanager_matcher_parse_errExpectedComma), ("pub-clamour/pub/alertmanager/matcher/parse.errExpectedCommaOrCloseBrace", Rows.laid_pub_clamour_pub_alertmanager_matcher_parse_errExpectedCommaOrCloseBrace), ("pub-clamour/pub/alertmanager/matcher/parse.errExpectedMatcherOrCloseBrace", Rows.laid_pub_clamour_pub_alertmanager_matcher_parse_errExpectedMatcherOrCloseBrace)] [.data, .sentinel, .listed, .sentinel, .sentinel, .sentinel, .sentinel, .sentinel, .sentinel, .sentinel, .sentinel, .sentinel, .sentinel] true :=
  Program.laidByTextLater_by_one 247 8 33 (by kernel_rfl) (by kernel_rfl) (by kernel_rfl) (by kernel_rfl) (by kernel_rfl) (by kernel_rfl) (fun _ _ => by kernel_rfl)
theorem pin_laid_unicode_utf8_first : Tryd.pinned.checked.prog.pinnedFits "unicode/utf8.first" = true := by kernel_rfl
theorem noOwnUnsafe : Tryd.pinned.checked.prog.headLifts.contains "ownunsafe" = false := by kernel_rfl
theorem fits1 : Tryd.pinned.checked.prog.listedFits [("unicode/utf8.acceptRanges", Rows.laid_unicode_utf8_acceptRanges), ("unicode.White_Space", Rows.laid_unicode_White_Space), ("unicode/utf8.first", Rows.laid_unicode_utf8_first)] = true := by
  unfold Program.listedFits
  rw [noOwnUnsafe]
  kernel_rfl
theorem tie : Tryd.prog.laidByTextLater [("unicode/utf8.acceptRanges", Rows.laid_unicode_utf8_acceptRanges), ("unicode.White_Space", Rows.laid_unicode_White_Space)] [.data, .listed] true :=
  Program.laidByTextLater.sub seatTie1 ["unicode/utf8.acceptRanges", "unicode.White_Space"] (by kernel_rfl) (by kernel_rfl)
theorem fnTokenSpans_row_tie : Rows.fnTokenSpansRow.laidByTextAt .later Tryd.pinned [.data, .listed, .pinned] true :=
  OpenClaim.laidByTextAt_pinned rfl rfl tie rfl rfl rfl rfl (fun y hy _e => by
    simp only [Rows.fnTokenSpansRow, List.zip_cons_cons, List.zip_nil_right, List.mem_cons, List.mem_nil_iff, or_false] at hy
    rcases hy with rfl | rfl | rfl
    · cases _e
    · cases _e
    · exact ⟨pin_laid_unicode_utf8_first, by kernel_rfl⟩) fits1
theorem fits2 : Tryd.pinned.checked.prog.listedFits [("unicode/utf8.acceptRanges", Rows.laid_unicode_utf8_acceptRanges), ("strconv.ErrSyntax", Rows.laid_strconv_ErrSyntax), ("unicode.White_Space", Rows.laid_unicode_White_Space), ("pub-clamour/pub/alertmanager/matcher/parse.errEOF", Rows.laid_pub_clamour_pub_alertmanager_matcher_parse_errEOF), ("pub-clamour/pub/alertmanager/matcher/parse.errExpectedEOF", Rows.laid_pub_clamour_pub_alertmanager_matcher_parse_errExpectedEOF), ("pub-clamour/pub/alertmanager/matcher/parse.errNoOpenBrace", Rows.laid_pub_clamour_pub_alertmanager_matcher_parse_errNoOpenBrace), ("pub-clamour/pub/alertmanager/matcher/parse.errNoCloseBrace", Rows.laid_pub_clamour_pub_alertmanager_matcher_parse_errNoCloseBrace), ("pub-clamour/pub/alertmanager/matcher/parse.errNoLabelName", Rows.laid_pub_clamour_pub_alertmanager_matcher_parse_errNoLabelName), ("pub-clamour/pub/alertmanager/matcher/parse.errNoLabelValue", Rows.laid_pub_clamour_pub_alertmanager_matcher_parse_errNoLabelValue), ("pub-clamour/pub/alertmanager/matcher/parse.errNoOperator", Rows.laid_pub_clamour_pub_alertmanager_matcher_parse_errNoOperator), ("pub-clamour/pub/alertmanager/matcher/parse.errExpectedComma", Rows.laid_pub_clamour_pub_alertmanager_matcher_parse_errExpectedComma), ("pub-clamour/pub/alertmanager/matcher/parse.errExpectedCommaOrCloseBrace", Rows.laid_pub_clamour_pub_alertmanager_matcher_parse_errExpectedCommaOrCloseBrace), ("pub-clamour/pub/alertmanager/matcher/parse.errExpectedMatcherOrCloseBrace", Rows.laid_pub_clamour_pub_alertmanager_matcher_parse_errExpectedMatcherOrCloseBrace), ("unicode/utf8.first", Rows.laid_unicode_utf8_first)] = true := by
  unfold Program.listedFits
  rw [noOwnUnsafe]
  kernel_rfl
theorem tie2 : Tryd.prog.laidByTextLater [("unicode/utf8.acceptRanges", Rows.laid_unicode_utf8_acceptRanges), ("strconv.ErrSyntax", Rows.laid_strconv_ErrSyntax), ("unicode.White_Space", Rows.laid_unicode_White_Space), ("pub-clamour/pub/alertmanager/matcher/parse.errEOF", Rows.laid_pub_clamour_pub_alertmanager_matcher_parse_errEOF), ("pub-clamour/pub/alertmanager/matcher/parse.errExpectedEOF", Rows.laid_pub_clamour_pub_alertmanager_matcher_parse_errExpectedEOF), ("pub-clamour/pub/alertmanager/matcher/parse.errNoOpenBrace", Rows.laid_pub_clamour_pub_alertmanager_matcher_parse_errNoOpenBrace), ("pub-clamour/pub/alertmanager/matcher/parse.errNoCloseBrace", Rows.laid_pub_clamour_pub_alertmanager_matcher_parse_errNoCloseBrace), ("pub-clamour/pub/alertmanager/matcher/parse.errNoLabelName", Rows.laid_pub_clamour_pub_alertmanager_matcher_parse_errNoLabelName), ("pub-clamour/pub/alertmanager/matcher/parse.errNoLabelValue", Rows.laid_pub_clamour_pub_alertmanager_matcher_parse_errNoLabelValue), ("pub-clamour/pub/alertmanager/matcher/parse.errNoOperator", Rows.laid_pub_clamour_pub_alertmanager_matcher_parse_errNoOperator), ("pub-clamour/pub/alertmanager/matcher/parse.errExpectedComma", Rows.laid_pub_clamour_pub_alertmanager_matcher_parse_errExpectedComma), ("pub-clamour/pub/alertmanager/matcher/parse.errExpectedCommaOrCloseBrace", Rows.laid_pub_clamour_pub_alertmanager_matcher_parse_errExpectedCommaOrCloseBrace), ("pub-clamour/pub/alertmanager/matcher/parse.errExpectedMatcherOrCloseBrace", Rows.laid_pub_clamour_pub_alertmanager_matcher_parse_errExpectedMatcherOrCloseBrace)] [.data, .sentinel, .listed, .sentinel, .sentinel, .sentinel, .sentinel, .sentinel, .sentinel, .sentinel, .sentinel, .sentinel, .sentinel] true :=
  Program.laidByTextLater.sub seatTie1 ["unicode/utf8.acceptRanges", "strconv.ErrSyntax", "unicode.White_Space", "pub-clamour/pub/alertmanager/matcher/parse.errEOF", "pub-clamour/pub/alertmanager/matcher/parse.errExpectedEOF", "pub-clamour/pub/alertmanager/matcher/parse.errNoOpenBrace", "pub-clamour/pub/alertmanager/matcher/parse.errNoCloseBrace", "pub-clamour/pub/alertmanager/matcher/parse.errNoLabelName", "pub-clamour/pub/alertmanager/matcher/parse.errNoLabelValue", "pub-clamour/pub/alertmanager/matcher/parse.errNoOperator", "pub-clamour/pub/alertmanager/matcher/parse.errExpectedComma", "pub-clamour/pub/alertmanager/matcher/parse.errExpectedCommaOrCloseBrace", "pub-clamour/pub/alertmanager/matcher/parse.errExpectedMatcherOrCloseBrace"] (by kernel_rfl) (by kernel_rfl)
theorem fnParseTokens_row_tie : Rows.fnParseTokensRow.laidByTextAt .later Tryd.pinned [.data, .sentinel, .listed, .sentinel, .sentinel, .sentinel, .sentinel, .sentinel, .sentinel, .sentinel, .sentinel, .sentinel, .sentinel, .pinned] true :=
  OpenClaim.laidByTextAt_pinned rfl rfl tie2 rfl rfl rfl rfl (fun y hy _e => by
    simp only [Rows.fnParseTokensRow, List.zip_cons_cons, List.zip_nil_right, List.mem_cons, List.mem_nil_iff, or_false] at hy
    rcases hy with rfl | rfl | rfl | rfl | rfl | rfl | rfl | rfl | rfl | rfl | rfl | rfl | rfl | rfl
    · cases _e
    · cases _e
    · cases _e
    · cases _e
    · cases _e
    · cases _e
    · cases _e
    · cases _e
    · cases _e
    · cases _e
    · cases _e
    · cases _e
    · cases _e
    · exact ⟨pin_laid_unicode_utf8_first, by kernel_rfl⟩) fits2
theorem fnParseSound_row_tie : Rows.fnParseSoundRow.laidByTextAt .later Tryd.pinned [.data, .sentinel, .listed, .sentinel, .sentinel, .sentinel, .sentinel, .sentinel, .sentinel, .sentinel, .sentinel, .sentinel, .sentinel, .pinned] true :=
  OpenClaim.laidByTextAt_pinned rfl rfl tie2 rfl rfl rfl rfl (fun y hy _e => by
    simp only [Rows.fnParseSoundRow, List.zip_cons_cons, List.zip_nil_right, List.mem_cons, List.mem_nil_iff, or_false] at hy
    rcases hy with rfl | rfl | rfl | rfl | rfl | rfl | rfl | rfl | rfl | rfl | rfl | rfl | rfl | rfl
    · cases _e
    · cases _e
    · cases _e
    · cases _e
    · cases _e
    · cases _e
    · cases _e
    · cases _e
    · cases _e
    · cases _e
    · cases _e
    · cases _e
    · cases _e
    · exact ⟨pin_laid_unicode_utf8_first, by kernel_rfl⟩) fits2
theorem fnUnquoted_row_tie : Rows.fnUnquotedRow.laidByTextAt .later Tryd.pinned [.data, .sentinel, .listed, .sentinel, .sentinel, .sentinel, .sentinel, .sentinel, .sentinel, .sentinel, .sentinel, .sentinel, .sentinel, .pinned] true :=
  OpenClaim.laidByTextAt_pinned rfl rfl tie2 rfl rfl rfl rfl (fun y hy _e => by
    simp only [Rows.fnUnquotedRow, List.zip_cons_cons, List.zip_nil_right, List.mem_cons, List.mem_nil_iff, or_false] at hy
    rcases hy with rfl | rfl | rfl | rfl | rfl | rfl | rfl | rfl | rfl | rfl | rfl | rfl | rfl | rfl
    · cases _e
    · cases _e
    · cases _e
    · cases _e
    · cases _e
    · cases _e
    · cases _e
    · cases _e
    · cases _e
    · cases _e
    · cases _e
    · cases _e
    · cases _e
    · exact ⟨pin_laid_unicode_utf8_first, by kernel_rfl⟩) fits2
theorem fnBlanks_row_tie : Rows.fnBlanksRow.laidByTextAt .later Tryd.pinned [.data, .sentinel, .listed, .sentinel, .sentinel, .sentinel, .sentinel, .sentinel, .sentinel, .sentinel, .sentinel, .sentinel, .sentinel, .pinned] true :=
  OpenClaim.laidByTextAt_pinned rfl rfl tie2 rfl rfl rfl rfl (fun y hy _e => by
    simp only [Rows.fnBlanksRow, List.zip_cons_cons, List.zip_nil_right, List.mem_cons, List.mem_nil_iff, or_false] at hy
    rcases hy with rfl | rfl | rfl | rfl | rfl | rfl | rfl | rfl | rfl | rfl | rfl | rfl | rfl | rfl
    · cases _e
    · cases _e
    · cases _e
    · cases _e
    · cases _e
    · cases _e
    · cases _e
    · cases _e
    · cases _e
    · cases _e
    · cases _e
    · cases _e
    · cases _e
    · exact ⟨pin_laid_unicode_utf8_first, by kernel_rfl⟩) fits2
theorem fnComma_row_tie : Rows.fnCommaRow.laidByTextAt .later Tryd.pinned [.data, .sentinel, .listed, .sentinel, .sentinel, .sentinel, .sentinel, .sentinel, .sentinel, .sentinel, .sentinel, .sentinel, .sentinel, .pinned] true :=
  OpenClaim.laidByTextAt_pinned rfl rfl tie2 rfl rfl rfl rfl (fun y hy _e => by
    simp only [Rows.fnCommaRow, List.zip_cons_cons, List.zip_nil_right, List.mem_cons, List.mem_nil_iff, or_false] at hy
    rcases hy with rfl | rfl | rfl | rfl | rfl | rfl | rfl | rfl | rfl | rfl | rfl | rfl | rfl | rfl
    · cases _e
    · cases _e
    · cases _e
    · cases _e
    · cases _e
    · cases _e
    · cases _e
    · cases _e
    · cases _e
    · cases _e
    · cases _e
    · cases _e
    · cases _e
    · exact ⟨pin_laid_unicode_utf8_first, by kernel_rfl⟩) fits2
theorem fnTokenSpansUpto_row_tie : Rows.fnTokenSpansUptoRow.laidByTextAt .later Tryd.pinned [.data, .listed, .pinned] true :=
  OpenClaim.laidByTextAt_pinned rfl rfl tie rfl rfl rfl rfl (fun y hy _e => by
    simp only [Rows.fnTokenSpansUptoRow, List.zip_cons_cons, List.zip_nil_right, List.mem_cons, List.mem_nil_iff, or_false] at hy
    rcases hy with rfl | rfl | rfl
    · cases _e
    · cases _e
    · exact ⟨pin_laid_unicode_utf8_first, by kernel_rfl⟩) fits1
theorem fnParseTokensUpto_row_tie : Rows.fnParseTokensUptoRow.laidByTextAt .later Tryd.pinned [.data, .sentinel, .listed, .sentinel, .sentinel, .sentinel, .sentinel, .sentinel, .sentinel, .sentinel, .sentinel, .sentinel, .sentinel, .pinned] true :=
  OpenClaim.laidByTextAt_pinned rfl rfl tie2 rfl rfl rfl rfl (fun y hy _e => by
    simp only [Rows.fnParseTokensUptoRow, List.zip_cons_cons, List.zip_nil_right, List.mem_cons, List.mem_nil_iff, or_false] at hy
    rcases hy with rfl | rfl | rfl | rfl | rfl | rfl | rfl | rfl | rfl | rfl | rfl | rfl | rfl | rfl
    · cases _e
    · cases _e
    · cases _e
    · cases _e
    · cases _e
    · cases _e
    · cases _e
    · cases _e
    · cases _e
    · cases _e
    · cases _e
    · cases _e
    · cases _e
    · exact ⟨pin_laid_unicode_utf8_first, by kernel_rfl⟩) fits2
theorem fnParseSoundUpto_row_tie : Rows.fnParseSoundUptoRow.laidByTextAt .later Tryd.pinned [.data, .sentinel, .listed, .sentinel, .sentinel, .sentinel, .sentinel, .sentinel, .sentinel, .sentinel, .sentinel, .sentinel, .sentinel, .pinned] true :=
  OpenClaim.laidByTextAt_pinned rfl rfl tie2 rfl rfl rfl rfl (fun y hy _e => by
    simp only [Rows.fnParseSoundUptoRow, List.zip_cons_cons, List.zip_nil_right, List.mem_cons, List.mem_nil_iff, or_false] at hy
    rcases hy with rfl | rfl | rfl | rfl | rfl | rfl | rfl | rfl | rfl | rfl | rfl | rfl | rfl | rfl
    · cases _e
    · cases _e
    · cases _e
    · cases _e
    · cases _e
    · cases _e
    · cases _e
    · cases _e
    · cases _e
    · cases _e
    · cases _e
    · cases _e
    · cases _e
    · exact ⟨pin_laid_unicode_utf8_first, by kernel_rfl⟩) fits2
theorem fnUnquotedUpto_row_tie : Rows.fnUnquotedUptoRow.laidByTextAt .later Tryd.pinned [.data, .sentinel, .listed, .sentinel, .sentinel, .sentinel, .sentinel, .sentinel, .sentinel, .sentinel, .sentinel, .sentinel, .sentinel, .pinned] true :=
  OpenClaim.laidByTextAt_pinned rfl rfl tie2 rfl rfl rfl rfl (fun y hy _e => by
    simp only [Rows.fnUnquotedUptoRow, List.zip_cons_cons, List.zip_nil_right, List.mem_cons, List.mem_nil_iff, or_false] at hy
    rcases hy with rfl | rfl | rfl | rfl | rfl | rfl | rfl | rfl | rfl | rfl | rfl | rfl | rfl | rfl
    · cases _e
    · cases _e
    · cases _e
    · cases _e
    · cases _e
    · cases _e
    · cases _e
    · cases _e
    · cases _e
    · cases _e
    · cases _e
    · cases _e
    · cases _e
    · exact ⟨pin_laid_unicode_utf8_first, by kernel_rfl⟩) fits2
theorem fnBlanksUpto_row_tie : Rows.fnBlanksUptoRow.laidByTextAt .later Tryd.pinned [.data, .sentinel, .listed, .sentinel, .sentinel, .sentinel, .sentinel, .sentinel, .sentinel, .sentinel, .sentinel, .sentinel, .sentinel, .pinned] true :=
  OpenClaim.laidByTextAt_pinned rfl rfl tie2 rfl rfl rfl rfl (fun y hy _e => by
    simp only [Rows.fnBlanksUptoRow, List.zip_cons_cons, List.zip_nil_right, List.mem_cons, List.mem_nil_iff, or_false] at hy
    rcases hy with rfl | rfl | rfl | rfl | rfl | rfl | rfl | rfl | rfl | rfl | rfl | rfl | rfl | rfl
    · cases _e
    · cases _e
    · cases _e
    · cases _e
    · cases _e
    · cases _e
    · cases _e
    · cases _e
    · cases _e
    · cases _e
    · cases _e
    · cases _e
    · cases _e
    · exact ⟨pin_laid_unicode_utf8_first, by kernel_rfl⟩) fits2
theorem fnCommaUpto_row_tie : Rows.fnCommaUptoRow.laidByTextAt .later Tryd.pinned [.data, .sentinel, .listed, .sentinel, .sentinel, .sentinel, .sentinel, .sentinel, .sentinel, .sentinel, .sentinel, .sentinel, .sentinel, .pinned] true :=
  OpenClaim.laidByTextAt_pinned rfl rfl tie2 rfl rfl rfl rfl (fun y hy _e => by
    simp only [Rows.fnCommaUptoRow, List.zip_cons_cons, List.zip_nil_right, List.mem_cons, List.mem_nil_iff, or_false] at hy
    rcases hy with rfl | rfl | rfl | rfl | rfl | rfl | rfl | rfl | rfl | rfl | rfl | rfl | rfl | rfl
    · cases _e
    · cases _e
    · cases _e
    · cases _e
    · cases _e
    · cases _e
    · cases _e
    · cases _e
    · cases _e
    · cases _e
    · cases _e
    · cases _e
    · cases _e
    · exact ⟨pin_laid_unicode_utf8_first, by kernel_rfl⟩) fits2
end Go.Proofs.YtmjoebnphacadaaDoor
