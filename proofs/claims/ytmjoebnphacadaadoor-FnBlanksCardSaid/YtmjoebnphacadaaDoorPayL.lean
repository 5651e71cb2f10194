/- From what a row lists to what the lexer's walks ask: LT. -/
import Derived.Test.YtmjoebnphacadaaDoorMa
import Derived.Lib.LaidU8
import Derived.PinnedBridge
set_option linter.unusedVariables false
set_option linter.unusedSimpArgs false
namespace Go.Proofs.YtmjoebnphacadaaDoor.Lex
open Go.RowKit Go.Lib
theorem LT_of_reads {w : World} (h1 : VarReads Tryd.prog w "unicode/utf8.first" Go.Pinned.utf8First) (h2 : VarReads Tryd.prog w "unicode/utf8.acceptRanges" acceptData) (h3 : VarReads Tryd.prog w "unicode.White_Space" whiteData) : LT w := by
  rw [Pinned.utf8First_eq] at h1
  exact ⟨utf8Tabs_of_reads (ρ := Tryd.lays260_ren) Tryd.lays260 ⟨by kernel_rfl, by kernel_rfl, by kernel_rfl, by kernel_rfl, by kernel_rfl, by kernel_rfl, by kernel_rfl⟩ h1 h2,
    whiteTab_of_reads (ρ := Tryd.lays199_ren) Tryd.lays199 ⟨by kernel_rfl, by kernel_rfl, by kernel_rfl, by kernel_rfl, by kernel_rfl, by kernel_rfl, by kernel_rfl, by kernel_rfl⟩ h3⟩
end Go.Proofs.YtmjoebnphacadaaDoor.Lex
