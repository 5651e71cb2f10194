/- What the walks of this seat ask of the world: PQ. -/
import Derived.Test.YtenededepjfojaaDoorShelf
import Derived.Test.YtenededepjfojaaDoorQb
import Derived.Test.YtenededepjfojaaDoorWMore
import Derived.Lib.LaidU8
import Derived.Lib.LaidPrint
import Derived.PinnedBridge
set_option linter.unusedVariables false
set_option linter.unusedSimpArgs false
namespace Go.Proofs.YtenededepjfojaaDoor.Door
open Go.RowKit Go.Lib Go.Proofs.YtenededepjfojaaDoorW.PrintWords Go.Proofs.YtenededepjfojaaDoorW.PrintLast
/-- What the walks of this seat ask of the world: the library's tables as Go lays them. -/
def PQ (w : World) : Prop := Lib.PrintTabsAt 4 5 6 7 Lib.goPrintTabs w ∧ Lib.Utf8Tabs 2 3 w
theorem PQ.below {w w' : World} (h : PQ w) (hb : Below w.heap.size w w') : PQ w' := ⟨printTabs_below h.1 hb, Utf8Tabs_below h.2 hb⟩
theorem PQ_of_reads {w : World} (h1 : VarReads Tryd.prog w "unicode/utf8.first" Go.Pinned.utf8First) (h2 : VarReads Tryd.prog w "unicode/utf8.acceptRanges" acceptData)
    (h4 : VarReads Tryd.prog w "strconv.isPrint16" Go.Pinned.isPrint16) (h5 : VarReads Tryd.prog w "strconv.isNotPrint16" Go.Pinned.isNotPrint16) (h6 : VarReads Tryd.prog w "strconv.isPrint32" Go.Pinned.isPrint32) (h7 : VarReads Tryd.prog w "strconv.isNotPrint32" Go.Pinned.isNotPrint32) : PQ w := by
  rw [Pinned.utf8First_eq] at h1
  rw [Pinned.isPrint16_eq] at h4
  rw [Pinned.isNotPrint16_eq] at h5
  rw [Pinned.isPrint32_eq] at h6
  rw [Pinned.isNotPrint32_eq] at h7
  exact ⟨printTabs_of_reads (ρ := Tryd.lays339_ren) Tryd.lays339 ⟨by kernel_rfl, by kernel_rfl, by kernel_rfl, by kernel_rfl, by kernel_rfl, by kernel_rfl, by kernel_rfl, by kernel_rfl, by kernel_rfl, by kernel_rfl⟩ h4 h5 h6 h7,
    utf8Tabs_of_reads (ρ := Tryd.lays260_ren) Tryd.lays260 ⟨by kernel_rfl, by kernel_rfl, by kernel_rfl, by kernel_rfl, by kernel_rfl, by kernel_rfl, by kernel_rfl⟩ h1 h2⟩
theorem quote_calls (s : ByteArray) (w : World) (hs : s.size ≤ 2147483647) (hT : PQ w) : Calls Tryd.prog 25 #[.string s] w fun e w' => e = .returned (.string (quoteB s)) ∧ Below w.heap.size w w' :=
  Tryd.strconv_Quote Lib.goPrintTabs s w (by omega) hT.1 hT.2
end Go.Proofs.YtenededepjfojaaDoor.Door
