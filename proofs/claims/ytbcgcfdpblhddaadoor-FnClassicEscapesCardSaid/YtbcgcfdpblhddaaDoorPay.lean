/- From what a row lists to what the walks of the old reader ask: UT. -/
import Derived.Test.YtbcgcfdpblhddaaDoorCw2
import Derived.Test.YtbcgcfdpblhddaaDoorShelf
import Derived.Lib.LaidU8
import Derived.PinnedBridge
set_option linter.unusedVariables false
set_option linter.unusedSimpArgs false
namespace Go.Proofs.YtbcgcfdpblhddaaDoor.Cl
open Go.RowKit Go.Lib
theorem UT_of_reads {w : World} (h1 : VarReads Tryd.prog w "unicode/utf8.first" Go.Pinned.utf8First) (h2 : VarReads Tryd.prog w "unicode/utf8.acceptRanges" acceptData) : UT w := by
  rw [Pinned.utf8First_eq] at h1
  exact utf8Tabs_of_reads (ρ := Tryd.lays260_ren) Tryd.lays260 ⟨by kernel_rfl, by kernel_rfl, by kernel_rfl, by kernel_rfl, by kernel_rfl, by kernel_rfl, by kernel_rfl⟩ h1 h2
end Go.Proofs.YtbcgcfdpblhddaaDoor.Cl
