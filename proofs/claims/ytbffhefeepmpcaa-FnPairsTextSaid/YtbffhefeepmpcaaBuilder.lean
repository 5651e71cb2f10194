/- The strings.Builder of the shelf at this program. -/
import Derived.Shelf.Strings.Builder1
import Derived.Shelf.Strings.BuilderF
import Derived.Shelf.Strings.BuilderK
import Derived.Shelf.Strings.BuilderRune
import Derived.Test.YtbffhefeepmpcaaProg
namespace Go.Proofs
open Go Go.Shelf Go.RowKit
def Try.laysB_ren : Go.Shelf.Ren := ⟨fun | 156 => 78 | 165 => 90 | 166 => 75 | 168 => 76 | 169 => 77 | 240 => 88 | 241 => 93 | 242 => 89 | 276 => 91 | 277 => 94 | 278 => 92 | n => n, fun | 0 => 0 | 3 => 3 | 4 => 4 | 5 => 5 | 9 => 9 | 20 => 20 | 21 => 21 | 31 => 22 | 37 => 44 | 46 => 141 | 51 => 144 | 70 => 121 | 72 => 123 | 75 => 125 | 76 => 126 | 80 => 84 | 127 => 138 | 164 => 142 | n => n, fun | n => n⟩
theorem Try.laysB166 : Go.Proofs.Lays.n166 Try.prog Try.laysB_ren := {
  mixed := by kernel_rfl
  f166 := Try.func75.trans (congrArg some (by kernel_rfl))
  f240 := Try.func88.trans (congrArg some (by kernel_rfl))
  f276 := Try.func91.trans (congrArg some (by kernel_rfl))
  t0 := Try.underlying0
  a0 := Try.isAgg0
  z0 := Try.sizeOf0
  v0 := Try.zeroValue0
  t3 := Try.underlying3
  a3 := Try.isAgg3
  z3 := Try.sizeOf3
  v3 := Try.zeroValue3
  t4 := Try.underlying4
  a4 := Try.isAgg4
  z4 := Try.sizeOf4
  v4 := Try.zeroValue4
  t9 := Try.underlying9
  a9 := Try.isAgg9
  z9 := Try.sizeOf9
  v9 := Try.zeroValue9
  t20 := Try.underlying20
  a20 := Try.isAgg20
  z20 := Try.sizeOf20
  v20 := Try.zeroValue20
  t37 := Try.underlying44
  a37 := Try.isAgg44
  z37 := Try.sizeOf44
  v37 := Try.zeroValue44
  t70 := Try.underlying121
  a70 := Try.isAgg121
  z70 := Try.sizeOf121
  v70 := Try.zeroValue121
  t72 := Try.underlying123
  a72 := Try.isAgg123
  z72 := Try.sizeOf123
  v72 := Try.zeroValue123
  t75 := Try.underlying125
  a75 := Try.isAgg125
  z75 := Try.sizeOf125
  v75 := Try.zeroValue125
  t164 := Try.underlying142
  a164 := Try.isAgg142
  z164 := Try.sizeOf142
  v164 := Try.zeroValue142 }
theorem Try.laysB168 : Go.Proofs.Lays.n168 Try.prog Try.laysB_ren := {
  mixed := by kernel_rfl
  f168 := Try.func76.trans (congrArg some (by kernel_rfl))
  f240 := Try.func88.trans (congrArg some (by kernel_rfl))
  f242 := Try.func89.trans (congrArg some (by kernel_rfl))
  f276 := Try.func91.trans (congrArg some (by kernel_rfl))
  f278 := Try.func92.trans (congrArg some (by kernel_rfl))
  t0 := Try.underlying0
  a0 := Try.isAgg0
  z0 := Try.sizeOf0
  v0 := Try.zeroValue0
  t3 := Try.underlying3
  a3 := Try.isAgg3
  z3 := Try.sizeOf3
  v3 := Try.zeroValue3
  t4 := Try.underlying4
  a4 := Try.isAgg4
  z4 := Try.sizeOf4
  v4 := Try.zeroValue4
  t5 := Try.underlying5
  a5 := Try.isAgg5
  z5 := Try.sizeOf5
  v5 := Try.zeroValue5
  t9 := Try.underlying9
  a9 := Try.isAgg9
  z9 := Try.sizeOf9
  v9 := Try.zeroValue9
  t20 := Try.underlying20
  a20 := Try.isAgg20
  z20 := Try.sizeOf20
  v20 := Try.zeroValue20
  t21 := Try.underlying21
  a21 := Try.isAgg21
  z21 := Try.sizeOf21
  v21 := Try.zeroValue21
  t37 := Try.underlying44
  a37 := Try.isAgg44
  z37 := Try.sizeOf44
  v37 := Try.zeroValue44
  t46 := Try.underlying141
  a46 := Try.isAgg141
  z46 := Try.sizeOf141
  v46 := Try.zeroValue141
  t51 := Try.underlying144
  a51 := Try.isAgg144
  z51 := Try.sizeOf144
  v51 := Try.zeroValue144
  t70 := Try.underlying121
  a70 := Try.isAgg121
  z70 := Try.sizeOf121
  v70 := Try.zeroValue121
  t72 := Try.underlying123
  a72 := Try.isAgg123
  z72 := Try.sizeOf123
  v72 := Try.zeroValue123
  t75 := Try.underlying125
  a75 := Try.isAgg125
  z75 := Try.sizeOf125
  v75 := Try.zeroValue125
  t164 := Try.underlying142
  a164 := Try.isAgg142
  z164 := Try.sizeOf142
  v164 := Try.zeroValue142 }
theorem Try.laysB169 : Go.Proofs.Lays.n169 Try.prog Try.laysB_ren := {
  mixed := by kernel_rfl
  f169 := Try.func77.trans (congrArg some (by kernel_rfl))
  t0 := Try.underlying0
  a0 := Try.isAgg0
  z0 := Try.sizeOf0
  v0 := Try.zeroValue0
  t3 := Try.underlying3
  a3 := Try.isAgg3
  z3 := Try.sizeOf3
  v3 := Try.zeroValue3
  t9 := Try.underlying9
  a9 := Try.isAgg9
  z9 := Try.sizeOf9
  v9 := Try.zeroValue9
  t37 := Try.underlying44
  a37 := Try.isAgg44
  z37 := Try.sizeOf44
  v37 := Try.zeroValue44
  t70 := Try.underlying121
  a70 := Try.isAgg121
  z70 := Try.sizeOf121
  v70 := Try.zeroValue121
  t72 := Try.underlying123
  a72 := Try.isAgg123
  z72 := Try.sizeOf123
  v72 := Try.zeroValue123
  t127 := Try.underlying138
  a127 := Try.isAgg138
  z127 := Try.sizeOf138
  v127 := Try.zeroValue138 }
theorem Try.Builder_ExtraB : Builder.Extra Try.prog Try.laysB_ren := {
  sizeBuilder := by kernel_rfl
  liesBuilder := by kernel_rfl
  t5 := Try.underlying5
  a5 := Try.isAgg5
  z5 := Try.sizeOf5
  v5 := Try.zeroValue5
  infoByte := by kernel_rfl
  cellsByte := by kernel_rfl
  sizeByte := by kernel_rfl
  neB5 := by decide }
theorem Try.sbWriteString (B b : Nat) (bs : List Value) (s : ByteArray) (w : World) (h : Lib.IsBuilderF 123 5 B b bs w) (hlen : bs.length + s.size ≤ 140737488355328) (hBw : B ≤ w.heap.size) :
    Calls Try.prog 75 #[.pointer (some ⟨b, 0, none⟩), .string s] w fun e w' => e = .returned (.tuple #[.int .i64 s.size, .nilIface]) ∧ (Lib.BuilderAtF 123 5 B b (.pointer (some ⟨b, 0, none⟩)) (bs ++ Lib.strCells s) w' ∧ Below B w w' ∧ Lib.OthersKept 5 (some b) w w') := Any.Builder_WriteString_k Try.laysB166 Try.Builder_ExtraB B b bs s w h hlen hBw
theorem Try.sbWriteRune (B b : Nat) (bs : List Value) (r : Int) (hr0 : -2147483648 ≤ r) (hr1 : r ≤ 2147483647) (w : World) (h : Lib.IsBuilderF 123 5 B b bs w) (hlen : bs.length + 4 ≤ 140737488355328) (hBw : B ≤ w.heap.size) :
    Calls Try.prog 76 #[.pointer (some ⟨b, 0, none⟩), .int .i32 r] w fun e w' => e = .returned (.tuple #[.int .i64 (Lib.runeCells r).length, .nilIface]) ∧ (Lib.BuilderAtF 123 5 B b (.pointer (some ⟨b, 0, none⟩)) (bs ++ Lib.runeCells r) w' ∧ Below B w w' ∧ Lib.OthersKept 5 (some b) w w') := Any.Builder_WriteRune_k Try.laysB168 Try.Builder_ExtraB B b bs r hr0 hr1 w h hlen hBw
theorem Try.sbString (B b : Nat) (l : List UInt8) (w : World) (h : Lib.IsBuilderF 123 5 B b (Lib.byteCells l) w) (hBw : B ≤ w.heap.size) :
    Calls Try.prog 77 #[.pointer (some ⟨b, 0, none⟩)] w fun e w' => e = .returned (.string ⟨l.toArray⟩) ∧ (Lib.IsBuilderF 123 5 B b (Lib.byteCells l) w' ∧ Below B w w' ∧ Lib.OthersKept 5 (some b) w w') := Any.Builder_String_any_k Try.laysB169 Try.Builder_ExtraB B b l w h hBw
end Go.Proofs
