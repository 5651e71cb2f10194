/- From what a row lists to what the walks ask: PT. -/
import Derived.Test.YtenededepjfojabDoorRes
import Derived.Lib.LaidU8
import Derived.Lib.LaidPrint
import Derived.PinnedBridge
set_option linter.unusedVariables false
set_option linter.unusedSimpArgs false
namespace Go.Proofs.YtenededepjfojabDoor.Door
open Go.RowKit Go.Lib
theorem PT_of_reads {w : World} (h1 : VarReads Tryd.prog w "unicode/utf8.first" Go.Pinned.utf8First) (h2 : VarReads Tryd.prog w "unicode/utf8.acceptRanges" acceptData) (h3 : VarReads Tryd.prog w "unicode.White_Space" whiteData)
    (h4 : VarReads Tryd.prog w "strconv.isPrint16" Go.Pinned.isPrint16) (h5 : VarReads Tryd.prog w "strconv.isNotPrint16" Go.Pinned.isNotPrint16) (h6 : VarReads Tryd.prog w "strconv.isPrint32" Go.Pinned.isPrint32) (h7 : VarReads Tryd.prog w "strconv.isNotPrint32" Go.Pinned.isNotPrint32) : PT w := by
  rw [Pinned.utf8First_eq] at h1
  rw [Pinned.isPrint16_eq] at h4
  rw [Pinned.isNotPrint16_eq] at h5
  rw [Pinned.isPrint32_eq] at h6
  rw [Pinned.isNotPrint32_eq] at h7
  exact ⟨printTabs_of_reads (ρ := Tryd.lays339_ren) Tryd.lays339 ⟨by kernel_rfl, by kernel_rfl, by kernel_rfl, by kernel_rfl, by kernel_rfl, by kernel_rfl, by kernel_rfl, by kernel_rfl, by kernel_rfl, by kernel_rfl⟩ h4 h5 h6 h7,
    utf8Tabs_of_reads (ρ := Tryd.lays260_ren) Tryd.lays260 ⟨by kernel_rfl, by kernel_rfl, by kernel_rfl, by kernel_rfl, by kernel_rfl, by kernel_rfl, by kernel_rfl⟩ h1 h2,
    whiteTab_of_reads (ρ := Tryd.lays199_ren) Tryd.lays199 ⟨by kernel_rfl, by kernel_rfl, by kernel_rfl, by kernel_rfl, by kernel_rfl, by kernel_rfl, by kernel_rfl, by kernel_rfl⟩ h3⟩
end Go.Proofs.YtenededepjfojabDoor.Door
