/- utf8.ValidString of the shelf at this seat's dump, in plain words. -/
import Derived.Shelf.Unicode.ValidAny
import Derived.Lib.LaidU8
import Derived.PinnedBridge
import Derived.Test.YtbcgcfdpblhddaaDoorShelf
set_option linter.unusedVariables false
set_option linter.unusedSimpArgs false
namespace Go.Proofs
open Go.RowKit Go.Shelf Go.Lib
def Tryd.laysV_ren : Go.Shelf.Ren := ⟨fun | 196 => 30 | 259 => 51 | n => n, fun | 0 => 0 | 3 => 3 | 4 => 4 | 5 => 5 | 9 => 9 | 12 => 12 | 46 => 97 | 53 => 109 | 119 => 93 | 138 => 95 | 139 => 96 | n => n, fun | 3 => 0 | 4 => 1 | n => n⟩
theorem Tryd.laysV : Go.Proofs.Lays.n196 Tryd.prog Tryd.laysV_ren := {
  mixed := by kernel_rfl
  f196 := Tryd.func30.trans (congrArg some (by kernel_rfl))
  f259 := Tryd.func51.trans (congrArg some (by kernel_rfl))
  t0 := Tryd.underlying0
  a0 := Tryd.isAgg0
  z0 := Tryd.sizeOf0
  v0 := Tryd.zeroValue0
  t3 := Tryd.underlying3
  a3 := Tryd.isAgg3
  z3 := Tryd.sizeOf3
  v3 := Tryd.zeroValue3
  t4 := Tryd.underlying4
  a4 := Tryd.isAgg4
  z4 := Tryd.sizeOf4
  v4 := Tryd.zeroValue4
  t5 := Tryd.underlying5
  a5 := Tryd.isAgg5
  z5 := Tryd.sizeOf5
  v5 := Tryd.zeroValue5
  t9 := Tryd.underlying9
  a9 := Tryd.isAgg9
  z9 := Tryd.sizeOf9
  v9 := Tryd.zeroValue9
  t12 := Tryd.underlying12
  a12 := Tryd.isAgg12
  z12 := Tryd.sizeOf12
  v12 := Tryd.zeroValue12
  t46 := Tryd.underlying97
  a46 := Tryd.isAgg97
  z46 := Tryd.sizeOf97
  v46 := Tryd.zeroValue97
  t53 := Tryd.underlying109
  a53 := Tryd.isAgg109
  z53 := Tryd.sizeOf109
  v53 := Tryd.zeroValue109
  t119 := Tryd.underlying93
  a119 := Tryd.isAgg93
  z119 := Tryd.sizeOf93
  t138 := Tryd.underlying95
  a138 := Tryd.isAgg95
  z138 := Tryd.sizeOf95
  v138 := Tryd.zeroValue95
  t139 := Tryd.underlying96
  a139 := Tryd.isAgg96
  z139 := Tryd.sizeOf96
  v139 := Tryd.zeroValue96
  g3 := by kernel_rfl
  g4 := by kernel_rfl }
/-- What the walks ask of the world: the two tables of unicode/utf8 as Go lays them. -/
def Tryd.Tabs (w : World) : Prop := Lib.Utf8Tabs 0 1 w
theorem Tryd.utf8_ValidString (s : ByteArray) (w : World) (hs : s.size ≤ 9223372036854775807) (hT : Tryd.Tabs w) :
    Calls Tryd.prog 30 #[.string s] w fun e w' => e = .returned (.bool (Lib.validD s.data.toList)) ∧ Below w.heap.size w w' := Any.utf8_ValidString Tryd.laysV s w hs hT
end Go.Proofs
