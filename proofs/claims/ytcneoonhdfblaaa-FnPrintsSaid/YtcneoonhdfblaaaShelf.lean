/-
  DERIVED: THE SHELF's CONTRACTS AT THIS DUMP, IN PLAIN WORDS (tools/lay-plain.mjs out of 'TryShelf.lean', which tools/lay-shelf.mjs wrote): THE SAME DECLARATIONS UNDER THE SAME NAMES: 'import', 'namespace', 'open', 'def', 'theorem' AND NOTHING ELSE: no command of the shelf's: FOR A HAND-IN. Each laying: the table of numbers ('.._ren') and one theorem, a field a fact of the dump's own or the kernel's comparison; each contract: ONE APPLICATION.
-/
import Derived.Shelf.Small.Bits
import Derived.Shelf.Strconv.Itoa0
import Derived.Shelf.Sort.Plain
import Derived.Ground.GgtProg
import Derived.Shelf.GgSortMore.Iface
import Derived.Shelf.GgSortMore.IfaceD
import Derived.Shelf.GgSortMore.IfacePart
import Derived.Shelf.GgSortMore.IfacePdq
import Derived.Shelf.GgSortMore.SortSort
import Derived.Shelf.Slices.In.SortNone
import Derived.Shelf.Slices.In.SortNone2
import Derived.Ground.GgsProg
import Derived.Shelf.SlSortFunc.Xorshift
import Derived.Shelf.SlSortIface.SiftDown
import Derived.Shelf.SlSortIface.HeapSort
import Derived.Shelf.SlSortIface.PartialInsertion
import Derived.Test.YtcneoonhdfblaaaProg
namespace Go.Proofs
open Go.Shelf
def Try.lays128_ren : Go.Shelf.Ren := ⟨fun | 128 => 40 | n => n, fun | 51 => 84 | 3 => 3 | 4 => 4 | 46 => 72 | 5 => 5 | 9 => 9 | n => n, fun | n => n⟩
theorem Try.lays128 : Go.Proofs.Lays.n128 Try.prog Try.lays128_ren := {
  mixed := by kernel_rfl
  f128 := Try.func40.trans (congrArg some (by kernel_rfl))
  t3 := Try.underlying3
  a3 := Try.isAgg3
  z3 := Try.sizeOf3
  v3 := Try.zeroValue3
  t4 := Try.underlying4
  a4 := Try.isAgg4
  z4 := Try.sizeOf4
  v4 := Try.zeroValue4
  t5 := Try.underlying5
  a5 := Try.isAgg5
  z5 := Try.sizeOf5
  v5 := Try.zeroValue5
  t9 := Try.underlying9
  a9 := Try.isAgg9
  z9 := Try.sizeOf9
  v9 := Try.zeroValue9
  t46 := Try.underlying72
  a46 := Try.isAgg72
  z46 := Try.sizeOf72
  v46 := Try.zeroValue72
  t51 := Try.underlying84
  a51 := Try.isAgg84
  z51 := Try.sizeOf84
  v51 := Try.zeroValue84 }
/-- bits.Len32: "Len32 returns the minimum number of bits required to represent x; the result is 0 for x == 0.": IT RETURNS 'Lib.bitLen x'; the world is as it was. ('h0', 'h1': x is a uint32.) (LAID: no walk: one application.) -/
theorem Try.bits_Len32 (x : Int) (w : World) (h0 : 0 ≤ x) (h1 : x ≤ 4294967295) :
    Calls Try.prog 40 #[.int .u32 x] w fun e w' => e = .returned (.int .i64 (Lib.bitLen x.toNat)) ∧ w' = w := Any.bits_Len32 Try.lays128 x w h0 h1
def Try.lays125_ren : Go.Shelf.Ren := ⟨fun | 125 => 32 | 128 => 40 | 129 => 41 | n => n, fun | 46 => 72 | 3 => 3 | 51 => 84 | 53 => 24 | 4 => 4 | 5 => 5 | 9 => 9 | n => n, fun | n => n⟩
theorem Try.lays125 : Go.Proofs.Lays.n125 Try.prog Try.lays125_ren := {
  mixed := by kernel_rfl
  f125 := Try.func32.trans (congrArg some (by kernel_rfl))
  f128 := Try.func40.trans (congrArg some (by kernel_rfl))
  f129 := Try.func41.trans (congrArg some (by kernel_rfl))
  t3 := Try.underlying3
  a3 := Try.isAgg3
  z3 := Try.sizeOf3
  v3 := Try.zeroValue3
  t4 := Try.underlying4
  a4 := Try.isAgg4
  z4 := Try.sizeOf4
  v4 := Try.zeroValue4
  t5 := Try.underlying5
  a5 := Try.isAgg5
  z5 := Try.sizeOf5
  v5 := Try.zeroValue5
  t9 := Try.underlying9
  a9 := Try.isAgg9
  z9 := Try.sizeOf9
  v9 := Try.zeroValue9
  t46 := Try.underlying72
  a46 := Try.isAgg72
  z46 := Try.sizeOf72
  v46 := Try.zeroValue72
  t51 := Try.underlying84
  a51 := Try.isAgg84
  z51 := Try.sizeOf84
  v51 := Try.zeroValue84
  t53 := Try.underlying24
  a53 := Try.isAgg24
  z53 := Try.sizeOf24
  v53 := Try.zeroValue24 }
/-- bits.Len: "Len returns the minimum number of bits required to represent x; the result is 0 for x == 0.": IT RETURNS 'Lib.bitLen x'; the world is as it was. (A uint has 64 bits in the model.) ITS CALLEE bits.Len64 IS MET BY ITS OWN CONTRACT OFF THE SHELF (lay that first). (LAID: no walk: one application.) -/
theorem Try.bits_Len (x : Int) (w : World) (h0 : 0 ≤ x) (h1 : x ≤ 18446744073709551615) :
    Calls Try.prog 32 #[.int .u64 x] w fun e w' => e = .returned (.int .i64 (Lib.bitLen x.toNat)) ∧ w' = w := Any.bits_Len Try.lays125 x w h0 h1
def Try.lays129_ren : Go.Shelf.Ren := ⟨fun | 129 => 41 | n => n, fun | 53 => 24 | 3 => 3 | 4 => 4 | 46 => 72 | 5 => 5 | 9 => 9 | n => n, fun | n => n⟩
theorem Try.lays129 : Go.Proofs.Lays.n129 Try.prog Try.lays129_ren := {
  mixed := by kernel_rfl
  f129 := Try.func41.trans (congrArg some (by kernel_rfl))
  t3 := Try.underlying3
  a3 := Try.isAgg3
  z3 := Try.sizeOf3
  v3 := Try.zeroValue3
  t4 := Try.underlying4
  a4 := Try.isAgg4
  z4 := Try.sizeOf4
  v4 := Try.zeroValue4
  t5 := Try.underlying5
  a5 := Try.isAgg5
  z5 := Try.sizeOf5
  v5 := Try.zeroValue5
  t9 := Try.underlying9
  a9 := Try.isAgg9
  z9 := Try.sizeOf9
  v9 := Try.zeroValue9
  t46 := Try.underlying72
  a46 := Try.isAgg72
  z46 := Try.sizeOf72
  v46 := Try.zeroValue72
  t53 := Try.underlying24
  a53 := Try.isAgg24
  z53 := Try.sizeOf24
  v53 := Try.zeroValue24 }
/-- bits.Len64: "Len64 returns the minimum number of bits required to represent x; the result is 0 for x == 0.": IT RETURNS 'Lib.bitLen x'; the world is as it was. ('h0', 'h1': x is a uint64.) (LAID: no walk: one application.) -/
theorem Try.bits_Len64 (x : Int) (w : World) (h0 : 0 ≤ x) (h1 : x ≤ 18446744073709551615) :
    Calls Try.prog 41 #[.int .u64 x] w fun e w' => e = .returned (.int .i64 (Lib.bitLen x.toNat)) ∧ w' = w := Any.bits_Len64 Try.lays129 x w h0 h1
def Try.lays190_ren : Go.Shelf.Ren := ⟨fun | 190 => 50 | 125 => 32 | 258 => 57 | 128 => 40 | 129 => 41 | 302 => 59 | 303 => 60 | 304 => 61 | 305 => 62 | 306 => 63 | 307 => 64 | 308 => 65 | 309 => 66 | 310 => 67 | 333 => 68 | 329 => 69 | 330 => 70 | 334 => 71 | 335 => 72 | 336 => 73 | 344 => 74 | n => n, fun | 31 => 33 | 9 => 9 | 3 => 3 | 46 => 72 | 0 => 0 | 51 => 84 | 53 => 24 | 4 => 4 | 183 => 107 | 182 => 106 | 131 => 93 | 5 => 5 | 218 => 113 | 222 => 99 | 228 => 117 | 229 => 103 | n => n, fun | n => n⟩
theorem Try.lays190 : Go.Proofs.Lays.n190 Try.prog Try.lays190_ren := {
  mixed := by kernel_rfl
  f125 := Try.func32.trans (congrArg some (by kernel_rfl))
  f128 := Try.func40.trans (congrArg some (by kernel_rfl))
  f129 := Try.func41.trans (congrArg some (by kernel_rfl))
  f190 := Try.func50.trans (congrArg some (by kernel_rfl))
  f258 := Try.func57.trans (congrArg some (by kernel_rfl))
  f302 := Try.func59.trans (congrArg some (by kernel_rfl))
  f303 := Try.func60.trans (congrArg some (by kernel_rfl))
  f304 := Try.func61.trans (congrArg some (by kernel_rfl))
  f305 := Try.func62.trans (congrArg some (by kernel_rfl))
  f306 := Try.func63.trans (congrArg some (by kernel_rfl))
  f307 := Try.func64.trans (congrArg some (by kernel_rfl))
  f308 := Try.func65.trans (congrArg some (by kernel_rfl))
  f309 := Try.func66.trans (congrArg some (by kernel_rfl))
  f310 := Try.func67.trans (congrArg some (by kernel_rfl))
  f329 := Try.func69.trans (congrArg some (by kernel_rfl))
  f330 := Try.func70.trans (congrArg some (by kernel_rfl))
  f333 := Try.func68.trans (congrArg some (by kernel_rfl))
  f334 := Try.func71.trans (congrArg some (by kernel_rfl))
  f335 := Try.func72.trans (congrArg some (by kernel_rfl))
  f336 := Try.func73.trans (congrArg some (by kernel_rfl))
  f344 := Try.func74.trans (congrArg some (by kernel_rfl))
  t0 := Try.underlying0
  a0 := Try.isAgg0
  z0 := Try.sizeOf0
  v0 := Try.zeroValue0
  t3 := Try.underlying3
  a3 := Try.isAgg3
  z3 := Try.sizeOf3
  v3 := Try.zeroValue3
  t4 := Try.underlying4
  a4 := Try.isAgg4
  z4 := Try.sizeOf4
  v4 := Try.zeroValue4
  t5 := Try.underlying5
  a5 := Try.isAgg5
  z5 := Try.sizeOf5
  v5 := Try.zeroValue5
  t9 := Try.underlying9
  a9 := Try.isAgg9
  z9 := Try.sizeOf9
  v9 := Try.zeroValue9
  t31 := Try.underlying33
  a31 := Try.isAgg33
  z31 := Try.sizeOf33
  v31 := Try.zeroValue33
  t46 := Try.underlying72
  a46 := Try.isAgg72
  z46 := Try.sizeOf72
  v46 := Try.zeroValue72
  t51 := Try.underlying84
  a51 := Try.isAgg84
  z51 := Try.sizeOf84
  v51 := Try.zeroValue84
  t53 := Try.underlying24
  a53 := Try.isAgg24
  z53 := Try.sizeOf24
  v53 := Try.zeroValue24
  t131 := Try.underlying93
  a131 := Try.isAgg93
  z131 := Try.sizeOf93
  v131 := Try.zeroValue93
  t182 := Try.underlying106
  a182 := Try.isAgg106
  z182 := Try.sizeOf106
  v182 := Try.zeroValue106
  t183 := Try.underlying107
  a183 := Try.isAgg107
  z183 := Try.sizeOf107
  v183 := Try.zeroValue107
  t218 := Try.underlying113
  a218 := Try.isAgg113
  z218 := Try.sizeOf113
  v218 := Try.zeroValue113
  t222 := Try.underlying99
  a222 := Try.isAgg99
  z222 := Try.sizeOf99
  v222 := Try.zeroValue99
  t228 := Try.underlying117
  a228 := Try.isAgg117
  z228 := Try.sizeOf117
  v228 := Try.zeroValue117
  t229 := Try.underlying103
  a229 := Try.isAgg103
  z229 := Try.sizeOf103
  v229 := Try.zeroValue103 }
open Go.Sort Go.RowKit in
theorem Try.slices_Sort_string (blk off cap : Nat) (ss : List (List UInt8)) (w : World) (hH : Holds encStr w blk off ss.toArray) (hblk : blk < w.heap.size) (hsz : ss.length < 4611686018427387904) :
    Calls Try.prog 50 #[.slice (some ⟨blk, off, none⟩) ss.length cap] w fun e w' =>
      e = .returned (.tuple #[]) ∧ ∃ n os, w' = grow (putRow encStr (Sort.ahead w n) blk off (ss.mergeSort fun x y => decide (x ≤ y)).toArray) os := Any.slices_Sort_string Try.lays190 blk off cap ss w hH hblk hsz
def Try.lays192_ren : Go.Shelf.Ren := ⟨fun | 192 => 34 | 190 => 50 | 125 => 32 | 258 => 57 | 128 => 40 | 129 => 41 | 302 => 59 | 303 => 60 | 304 => 61 | 305 => 62 | 306 => 63 | 307 => 64 | 308 => 65 | 309 => 66 | 310 => 67 | 333 => 68 | 329 => 69 | 330 => 70 | 334 => 71 | 335 => 72 | 336 => 73 | 344 => 74 | n => n, fun | 31 => 33 | 0 => 0 | 9 => 9 | 3 => 3 | 46 => 72 | 51 => 84 | 53 => 24 | 4 => 4 | 183 => 107 | 182 => 106 | 131 => 93 | 5 => 5 | 218 => 113 | 222 => 99 | 228 => 117 | 229 => 103 | n => n, fun | n => n⟩
theorem Try.lays192 : Go.Proofs.Lays.n192 Try.prog Try.lays192_ren := {
  mixed := by kernel_rfl
  f125 := Try.func32.trans (congrArg some (by kernel_rfl))
  f128 := Try.func40.trans (congrArg some (by kernel_rfl))
  f129 := Try.func41.trans (congrArg some (by kernel_rfl))
  f190 := Try.func50.trans (congrArg some (by kernel_rfl))
  f192 := Try.func34.trans (congrArg some (by kernel_rfl))
  f258 := Try.func57.trans (congrArg some (by kernel_rfl))
  f302 := Try.func59.trans (congrArg some (by kernel_rfl))
  f303 := Try.func60.trans (congrArg some (by kernel_rfl))
  f304 := Try.func61.trans (congrArg some (by kernel_rfl))
  f305 := Try.func62.trans (congrArg some (by kernel_rfl))
  f306 := Try.func63.trans (congrArg some (by kernel_rfl))
  f307 := Try.func64.trans (congrArg some (by kernel_rfl))
  f308 := Try.func65.trans (congrArg some (by kernel_rfl))
  f309 := Try.func66.trans (congrArg some (by kernel_rfl))
  f310 := Try.func67.trans (congrArg some (by kernel_rfl))
  f329 := Try.func69.trans (congrArg some (by kernel_rfl))
  f330 := Try.func70.trans (congrArg some (by kernel_rfl))
  f333 := Try.func68.trans (congrArg some (by kernel_rfl))
  f334 := Try.func71.trans (congrArg some (by kernel_rfl))
  f335 := Try.func72.trans (congrArg some (by kernel_rfl))
  f336 := Try.func73.trans (congrArg some (by kernel_rfl))
  f344 := Try.func74.trans (congrArg some (by kernel_rfl))
  t0 := Try.underlying0
  a0 := Try.isAgg0
  z0 := Try.sizeOf0
  v0 := Try.zeroValue0
  t3 := Try.underlying3
  a3 := Try.isAgg3
  z3 := Try.sizeOf3
  v3 := Try.zeroValue3
  t4 := Try.underlying4
  a4 := Try.isAgg4
  z4 := Try.sizeOf4
  v4 := Try.zeroValue4
  t5 := Try.underlying5
  a5 := Try.isAgg5
  z5 := Try.sizeOf5
  v5 := Try.zeroValue5
  t9 := Try.underlying9
  a9 := Try.isAgg9
  z9 := Try.sizeOf9
  v9 := Try.zeroValue9
  t31 := Try.underlying33
  a31 := Try.isAgg33
  z31 := Try.sizeOf33
  v31 := Try.zeroValue33
  t46 := Try.underlying72
  a46 := Try.isAgg72
  z46 := Try.sizeOf72
  v46 := Try.zeroValue72
  t51 := Try.underlying84
  a51 := Try.isAgg84
  z51 := Try.sizeOf84
  v51 := Try.zeroValue84
  t53 := Try.underlying24
  a53 := Try.isAgg24
  z53 := Try.sizeOf24
  v53 := Try.zeroValue24
  t131 := Try.underlying93
  a131 := Try.isAgg93
  z131 := Try.sizeOf93
  v131 := Try.zeroValue93
  t182 := Try.underlying106
  a182 := Try.isAgg106
  z182 := Try.sizeOf106
  v182 := Try.zeroValue106
  t183 := Try.underlying107
  a183 := Try.isAgg107
  z183 := Try.sizeOf107
  v183 := Try.zeroValue107
  t218 := Try.underlying113
  a218 := Try.isAgg113
  z218 := Try.sizeOf113
  v218 := Try.zeroValue113
  t222 := Try.underlying99
  a222 := Try.isAgg99
  z222 := Try.sizeOf99
  v222 := Try.zeroValue99
  t228 := Try.underlying117
  a228 := Try.isAgg117
  z228 := Try.sizeOf117
  v228 := Try.zeroValue117
  t229 := Try.underlying103
  a229 := Try.isAgg103
  z229 := Try.sizeOf103
  v229 := Try.zeroValue103 }
open Go.Sort Go.RowKit in
theorem Try.sort_Strings (blk off cap : Nat) (ss : List (List UInt8)) (w : World) (hH : Holds encStr w blk off ss.toArray) (hblk : blk < w.heap.size) (hsz : ss.length < 4611686018427387904) :
    Calls Try.prog 34 #[.slice (some ⟨blk, off, none⟩) ss.length cap] w fun e w' =>
      e = .returned (.tuple #[]) ∧ ∃ n os, w' = grow (putRow encStr (Sort.ahead w n) blk off (ss.mergeSort fun x y => decide (x ≤ y)).toArray) os := Any.sort_Strings Try.lays192 blk off cap ss w hH hblk hsz
def Try.laysGt33_ren : Go.Shelf.Ren := ⟨fun | 33 => 42 | n => n, fun | 45 => 69 | 3 => 3 | 4 => 4 | 0 => 0 | 43 => 70 | 26 => 91 | 38 => 95 | n => n, fun | n => n⟩
theorem Try.laysGt33 : Go.Proofs.LaysGt.n33 Try.prog Try.laysGt33_ren := {
  mixed := by kernel_rfl
  f33 := Try.func42.trans (congrArg some (by kernel_rfl))
  t0 := Try.underlying0
  a0 := Try.isAgg0
  z0 := Try.sizeOf0
  v0 := Try.zeroValue0
  i0 := by kernel_rfl
  t3 := Try.underlying3
  a3 := Try.isAgg3
  z3 := Try.sizeOf3
  v3 := Try.zeroValue3
  i3 := by kernel_rfl
  t4 := Try.underlying4
  a4 := Try.isAgg4
  z4 := Try.sizeOf4
  v4 := Try.zeroValue4
  i4 := by kernel_rfl
  t26 := Try.underlying91
  a26 := Try.isAgg91
  z26 := Try.sizeOf91
  v26 := Try.zeroValue91
  i26 := by kernel_rfl
  t38 := Try.underlying95
  a38 := Try.isAgg95
  z38 := Try.sizeOf95
  v38 := Try.zeroValue95
  i38 := by kernel_rfl
  t43 := Try.underlying70
  a43 := Try.isAgg70
  z43 := Try.sizeOf70
  v43 := Try.zeroValue70
  i43 := by kernel_rfl
  t45 := Try.underlying69
  a45 := Try.isAgg69
  z45 := Try.sizeOf69
  v45 := Try.zeroValue69
  i45 := by kernel_rfl }
open Go.RowKit Go.Lib Go.Sort in
theorem Try.insertionSort_iface {α : Type} [Inhabited α] (T : TypeId) (rv : Value) (gl gs : Nat) (rL : Reaches Try.prog T rv "Less" gl) (rS : Reaches Try.prog T rv "Swap" gs) (enc : α → Value) (lt : α → α → Bool) (blk off a b : Nat) (d : Array α) (w : World) (hless : LessM Try.prog gl rv enc lt blk off d.size w) (hswap : SwapM Try.prog gs rv enc blk off d.size) (hH : Holds enc w blk off d) (hab : a ≤ b) (hb : b ≤ d.size) (hsz : d.size < 4611686018427387904) :
    Calls Try.prog 42 #[.iface T rv, .int .i64 a, .int .i64 b] w fun e w' =>
      e = .returned (.tuple #[]) ∧ ∃ n, w' = putRow enc (Sort.ahead w n) blk off (Sort.insertionSort lt d a b) := Any.insertionSort_iface Try.laysGt33 T rv gl gs rL rS enc lt blk off a b d w hless hswap hH hab hb hsz
open Go.RowKit Go.Lib Go.Sort in
/-- sort.insertionSort, from a world to a 'sortWorld' of it. (LAID: no walk: one application.) -/
theorem Try.insertionSort_iface_w {α : Type} [Inhabited α] (T : TypeId) (rv : Value) (gl gs : Nat) (rL : Reaches Try.prog T rv "Less" gl) (rS : Reaches Try.prog T rv "Swap" gs) (enc : α → Value) (lt : α → α → Bool) (blk off a b : Nat) (d : Array α) (w : World) (hless : LessM Try.prog gl rv enc lt blk off d.size w) (hswap : SwapM Try.prog gs rv enc blk off d.size) (hH : Holds enc w blk off d) (hab : a ≤ b) (hb : b ≤ d.size) (hsz : d.size < 4611686018427387904) :
    Calls Try.prog 42 #[.iface T rv, .int .i64 a, .int .i64 b] w fun e w' => e = .returned (.tuple #[]) ∧ ∃ n os, w' = sortWorld enc w blk off n (Sort.insertionSort lt d a b) os := Any.insertionSort_iface_w Try.laysGt33 T rv gl gs rL rS enc lt blk off a b d w hless hswap hH hab hb hsz
def Try.laysGt37_ren : Go.Shelf.Ren := ⟨fun | 37 => 46 | n => n, fun | 45 => 69 | 3 => 3 | 4 => 4 | 0 => 0 | 43 => 70 | 26 => 91 | 38 => 95 | n => n, fun | n => n⟩
theorem Try.laysGt37 : Go.Proofs.LaysGt.n37 Try.prog Try.laysGt37_ren := {
  mixed := by kernel_rfl
  f37 := Try.func46.trans (congrArg some (by kernel_rfl))
  t0 := Try.underlying0
  a0 := Try.isAgg0
  z0 := Try.sizeOf0
  v0 := Try.zeroValue0
  i0 := by kernel_rfl
  t3 := Try.underlying3
  a3 := Try.isAgg3
  z3 := Try.sizeOf3
  v3 := Try.zeroValue3
  i3 := by kernel_rfl
  t4 := Try.underlying4
  a4 := Try.isAgg4
  z4 := Try.sizeOf4
  v4 := Try.zeroValue4
  i4 := by kernel_rfl
  t26 := Try.underlying91
  a26 := Try.isAgg91
  z26 := Try.sizeOf91
  v26 := Try.zeroValue91
  i26 := by kernel_rfl
  t38 := Try.underlying95
  a38 := Try.isAgg95
  z38 := Try.sizeOf95
  v38 := Try.zeroValue95
  i38 := by kernel_rfl
  t43 := Try.underlying70
  a43 := Try.isAgg70
  z43 := Try.sizeOf70
  v43 := Try.zeroValue70
  i43 := by kernel_rfl
  t45 := Try.underlying69
  a45 := Try.isAgg69
  z45 := Try.sizeOf69
  v45 := Try.zeroValue69
  i45 := by kernel_rfl }
open Go.RowKit Go.Lib Go.Sort in
theorem Try.reverseRange_iface {α : Type} [Inhabited α] (T : TypeId) (rv : Value) (gs : Nat) (rS : Reaches Try.prog T rv "Swap" gs) (enc : α → Value) (blk off a b : Nat) (d : Array α) (w : World) (hswap : SwapM Try.prog gs rv enc blk off d.size) (hH : Holds enc w blk off d) (hab : a ≤ b) (hb : b ≤ d.size) (hsz : d.size < 4611686018427387904) :
    Calls Try.prog 46 #[.iface T rv, .int .i64 a, .int .i64 b] w fun e w' => e = .returned (.tuple #[]) ∧ ∃ n, w' = putRow enc (Sort.ahead w n) blk off (reverseRange d a b) := Any.reverseRange_iface Try.laysGt37 T rv gs rS enc blk off a b d w hswap hH hab hb hsz
open Go.RowKit Go.Lib Go.Sort in
theorem Try.reverseRange_iface_w {α : Type} [Inhabited α] (T : TypeId) (rv : Value) (gs : Nat) (rS : Reaches Try.prog T rv "Swap" gs) (enc : α → Value) (blk off a b : Nat) (d : Array α) (w : World) (hswap : SwapM Try.prog gs rv enc blk off d.size) (hH : Holds enc w blk off d) (hab : a ≤ b) (hb : b ≤ d.size) (hsz : d.size < 4611686018427387904) :
    Calls Try.prog 46 #[.iface T rv, .int .i64 a, .int .i64 b] w fun e w' => e = .returned (.tuple #[]) ∧ ∃ n os, w' = sortWorld enc w blk off n (reverseRange d a b) os := Any.reverseRange_iface_w Try.laysGt37 T rv gs rS enc blk off a b d w hswap hH hab hb hsz
def Try.laysGt50_ren : Go.Shelf.Ren := ⟨fun | 50 => 58 | n => n, fun | 45 => 69 | 3 => 3 | 71 => 99 | 4 => 4 | 0 => 0 | 43 => 70 | 26 => 91 | 38 => 95 | n => n, fun | n => n⟩
theorem Try.laysGt50 : Go.Proofs.LaysGt.n50 Try.prog Try.laysGt50_ren := {
  mixed := by kernel_rfl
  f50 := Try.func58.trans (congrArg some (by kernel_rfl))
  t0 := Try.underlying0
  a0 := Try.isAgg0
  z0 := Try.sizeOf0
  v0 := Try.zeroValue0
  i0 := by kernel_rfl
  t3 := Try.underlying3
  a3 := Try.isAgg3
  z3 := Try.sizeOf3
  v3 := Try.zeroValue3
  i3 := by kernel_rfl
  t4 := Try.underlying4
  a4 := Try.isAgg4
  z4 := Try.sizeOf4
  v4 := Try.zeroValue4
  i4 := by kernel_rfl
  t26 := Try.underlying91
  a26 := Try.isAgg91
  z26 := Try.sizeOf91
  v26 := Try.zeroValue91
  i26 := by kernel_rfl
  t38 := Try.underlying95
  a38 := Try.isAgg95
  z38 := Try.sizeOf95
  v38 := Try.zeroValue95
  i38 := by kernel_rfl
  t43 := Try.underlying70
  a43 := Try.isAgg70
  z43 := Try.sizeOf70
  v43 := Try.zeroValue70
  i43 := by kernel_rfl
  t45 := Try.underlying69
  a45 := Try.isAgg69
  z45 := Try.sizeOf69
  v45 := Try.zeroValue69
  i45 := by kernel_rfl
  t71 := Try.underlying99
  a71 := Try.isAgg99
  z71 := Try.sizeOf99
  v71 := Try.zeroValue99
  i71 := by kernel_rfl }
open Go.RowKit Go.Lib Go.Sort in
theorem Try.order2_iface {α : Type} [Inhabited α] (T : TypeId) (rv : Value) (gl : Nat) (rL : Reaches Try.prog T rv "Less" gl) (enc : α → Value) (lt : α → α → Bool) (blk off : Nat) (w0 W : World) (d : Array α) (a b cb co s : Nat) (hL : LessM Try.prog gl rv enc lt blk off d.size w0) (hW : SW enc w0 blk off d W) (ha : a < d.size) (hb : b < d.size) (hS : Holds (Value.int .i64) W cb co (one s)) (hs : s < 4611686018427387904) :
    Calls Try.prog 58 #[.iface T rv, .int .i64 a, .int .i64 b, .pointer (some ⟨cb, co, none⟩)] W fun e w' =>
      e = .returned (.tuple #[.int .i64 (order2 lt d a b s).1, .int .i64 (order2 lt d a b s).2.1]) ∧ ∃ n os, w' = sortWorld (Value.int .i64) W cb co n (one (order2 lt d a b s).2.2) os := Any.order2_iface Try.laysGt50 T rv gl rL enc lt blk off w0 W d a b cb co s hL hW ha hb hS hs
def Try.laysGt47_ren : Go.Shelf.Ren := ⟨fun | 47 => 56 | 50 => 58 | n => n, fun | 45 => 69 | 3 => 3 | 71 => 99 | 74 => 103 | 4 => 4 | 0 => 0 | 43 => 70 | 26 => 91 | 38 => 95 | n => n, fun | n => n⟩
theorem Try.laysGt47 : Go.Proofs.LaysGt.n47 Try.prog Try.laysGt47_ren := {
  mixed := by kernel_rfl
  f47 := Try.func56.trans (congrArg some (by kernel_rfl))
  f50 := Try.func58.trans (congrArg some (by kernel_rfl))
  t0 := Try.underlying0
  a0 := Try.isAgg0
  z0 := Try.sizeOf0
  v0 := Try.zeroValue0
  i0 := by kernel_rfl
  t3 := Try.underlying3
  a3 := Try.isAgg3
  z3 := Try.sizeOf3
  v3 := Try.zeroValue3
  i3 := by kernel_rfl
  t4 := Try.underlying4
  a4 := Try.isAgg4
  z4 := Try.sizeOf4
  v4 := Try.zeroValue4
  i4 := by kernel_rfl
  t26 := Try.underlying91
  a26 := Try.isAgg91
  z26 := Try.sizeOf91
  v26 := Try.zeroValue91
  i26 := by kernel_rfl
  t38 := Try.underlying95
  a38 := Try.isAgg95
  z38 := Try.sizeOf95
  v38 := Try.zeroValue95
  i38 := by kernel_rfl
  t43 := Try.underlying70
  a43 := Try.isAgg70
  z43 := Try.sizeOf70
  v43 := Try.zeroValue70
  i43 := by kernel_rfl
  t45 := Try.underlying69
  a45 := Try.isAgg69
  z45 := Try.sizeOf69
  v45 := Try.zeroValue69
  i45 := by kernel_rfl
  t71 := Try.underlying99
  a71 := Try.isAgg99
  z71 := Try.sizeOf99
  v71 := Try.zeroValue99
  i71 := by kernel_rfl
  t74 := Try.underlying103
  a74 := Try.isAgg103
  z74 := Try.sizeOf103
  v74 := Try.zeroValue103
  i74 := by kernel_rfl }
open Go.RowKit Go.Lib Go.Sort in
theorem Try.median_iface {α : Type} [Inhabited α] (T : TypeId) (rv : Value) (gl : Nat) (rL : Reaches Try.prog T rv "Less" gl) (enc : α → Value) (lt : α → α → Bool) (blk off : Nat) (w0 W : World) (d : Array α) (a b c cb co s : Nat) (hL : LessM Try.prog gl rv enc lt blk off d.size w0) (hW : SW enc w0 blk off d W) (ha : a < d.size) (hb : b < d.size) (hc : c < d.size) (hS : Holds (Value.int .i64) W cb co (one s)) (hcb0 : w0.heap.size ≤ cb) (hcb : cb < W.heap.size) (hs : s + 3 < 4611686018427387904) :
    Calls Try.prog 56 #[.iface T rv, .int .i64 a, .int .i64 b, .int .i64 c, .pointer (some ⟨cb, co, none⟩)] W fun e w' =>
      e = .returned (.int .i64 (median lt d a b c s).1) ∧ ∃ n os, w' = sortWorld (Value.int .i64) W cb co n (one (median lt d a b c s).2) os := Any.median_iface Try.laysGt47 T rv gl rL enc lt blk off w0 W d a b c cb co s hL hW ha hb hc hS hcb0 hcb hs
def Try.laysGt46_ren : Go.Shelf.Ren := ⟨fun | 46 => 55 | 47 => 56 | 50 => 58 | n => n, fun | 45 => 69 | 3 => 3 | 71 => 99 | 74 => 103 | 4 => 4 | 0 => 0 | 43 => 70 | 26 => 91 | 38 => 95 | n => n, fun | n => n⟩
theorem Try.laysGt46 : Go.Proofs.LaysGt.n46 Try.prog Try.laysGt46_ren := {
  mixed := by kernel_rfl
  f46 := Try.func55.trans (congrArg some (by kernel_rfl))
  f47 := Try.func56.trans (congrArg some (by kernel_rfl))
  f50 := Try.func58.trans (congrArg some (by kernel_rfl))
  t0 := Try.underlying0
  a0 := Try.isAgg0
  z0 := Try.sizeOf0
  v0 := Try.zeroValue0
  i0 := by kernel_rfl
  t3 := Try.underlying3
  a3 := Try.isAgg3
  z3 := Try.sizeOf3
  v3 := Try.zeroValue3
  i3 := by kernel_rfl
  t4 := Try.underlying4
  a4 := Try.isAgg4
  z4 := Try.sizeOf4
  v4 := Try.zeroValue4
  i4 := by kernel_rfl
  t26 := Try.underlying91
  a26 := Try.isAgg91
  z26 := Try.sizeOf91
  v26 := Try.zeroValue91
  i26 := by kernel_rfl
  t38 := Try.underlying95
  a38 := Try.isAgg95
  z38 := Try.sizeOf95
  v38 := Try.zeroValue95
  i38 := by kernel_rfl
  t43 := Try.underlying70
  a43 := Try.isAgg70
  z43 := Try.sizeOf70
  v43 := Try.zeroValue70
  i43 := by kernel_rfl
  t45 := Try.underlying69
  a45 := Try.isAgg69
  z45 := Try.sizeOf69
  v45 := Try.zeroValue69
  i45 := by kernel_rfl
  t71 := Try.underlying99
  a71 := Try.isAgg99
  z71 := Try.sizeOf99
  v71 := Try.zeroValue99
  i71 := by kernel_rfl
  t74 := Try.underlying103
  a74 := Try.isAgg103
  z74 := Try.sizeOf103
  v74 := Try.zeroValue103
  i74 := by kernel_rfl }
open Go.RowKit Go.Lib Go.Sort in
theorem Try.medianAdjacent_iface {α : Type} [Inhabited α] (T : TypeId) (rv : Value) (gl : Nat) (rL : Reaches Try.prog T rv "Less" gl) (enc : α → Value) (lt : α → α → Bool) (blk off : Nat) (w0 W : World) (d : Array α) (a cb co s : Nat) (hL : LessM Try.prog gl rv enc lt blk off d.size w0) (hW : SW enc w0 blk off d W) (ha1 : 1 ≤ a) (ha2 : a + 1 < d.size) (hsz : d.size < 4611686018427387904) (hS : Holds (Value.int .i64) W cb co (one s)) (hcb0 : w0.heap.size ≤ cb) (hcb : cb < W.heap.size) (hs : s + 3 < 4611686018427387904) :
    Calls Try.prog 55 #[.iface T rv, .int .i64 a, .pointer (some ⟨cb, co, none⟩)] W fun e w' =>
      e = .returned (.int .i64 (medianAdjacent lt d a s).1) ∧ ∃ n os, w' = sortWorld (Value.int .i64) W cb co n (one (medianAdjacent lt d a s).2) os := Any.medianAdjacent_iface Try.laysGt46 T rv gl rL enc lt blk off w0 W d a cb co s hL hW ha1 ha2 hsz hS hcb0 hcb hs
def Try.laysGt36_ren : Go.Shelf.Ren := ⟨fun | 36 => 45 | 46 => 55 | 47 => 56 | 50 => 58 | n => n, fun | 45 => 69 | 3 => 3 | 60 => 87 | 0 => 0 | 4 => 4 | 71 => 99 | 74 => 103 | 43 => 70 | 26 => 91 | 38 => 95 | n => n, fun | n => n⟩
theorem Try.laysGt36 : Go.Proofs.LaysGt.n36 Try.prog Try.laysGt36_ren := {
  mixed := by kernel_rfl
  f36 := Try.func45.trans (congrArg some (by kernel_rfl))
  f46 := Try.func55.trans (congrArg some (by kernel_rfl))
  f47 := Try.func56.trans (congrArg some (by kernel_rfl))
  f50 := Try.func58.trans (congrArg some (by kernel_rfl))
  t0 := Try.underlying0
  a0 := Try.isAgg0
  z0 := Try.sizeOf0
  v0 := Try.zeroValue0
  i0 := by kernel_rfl
  t3 := Try.underlying3
  a3 := Try.isAgg3
  z3 := Try.sizeOf3
  v3 := Try.zeroValue3
  i3 := by kernel_rfl
  t4 := Try.underlying4
  a4 := Try.isAgg4
  z4 := Try.sizeOf4
  v4 := Try.zeroValue4
  i4 := by kernel_rfl
  t26 := Try.underlying91
  a26 := Try.isAgg91
  z26 := Try.sizeOf91
  v26 := Try.zeroValue91
  i26 := by kernel_rfl
  t38 := Try.underlying95
  a38 := Try.isAgg95
  z38 := Try.sizeOf95
  v38 := Try.zeroValue95
  i38 := by kernel_rfl
  t43 := Try.underlying70
  a43 := Try.isAgg70
  z43 := Try.sizeOf70
  v43 := Try.zeroValue70
  i43 := by kernel_rfl
  t45 := Try.underlying69
  a45 := Try.isAgg69
  z45 := Try.sizeOf69
  v45 := Try.zeroValue69
  i45 := by kernel_rfl
  t60 := Try.underlying87
  a60 := Try.isAgg87
  z60 := Try.sizeOf87
  v60 := Try.zeroValue87
  i60 := by kernel_rfl
  t71 := Try.underlying99
  a71 := Try.isAgg99
  z71 := Try.sizeOf99
  v71 := Try.zeroValue99
  i71 := by kernel_rfl
  t74 := Try.underlying103
  a74 := Try.isAgg103
  z74 := Try.sizeOf103
  v74 := Try.zeroValue103
  i74 := by kernel_rfl }
open Go.RowKit Go.Lib Go.Sort in
/-- sort.choosePivot (zsortinterface.go): THE LIBRARY's OWN TEXT COMPUTES 'Sort.choosePivot lt d a b'; the row is not turned; W is grown. (Derived/Shelf/GgSortFunc/Pivot.lean's text, turned by program.) (LAID: no walk: one application.) -/
theorem Try.choosePivot_iface {α : Type} [Inhabited α] (T : TypeId) (rv : Value) (gl : Nat) (rL : Reaches Try.prog T rv "Less" gl) (enc : α → Value) (lt : α → α → Bool) (blk off a b : Nat) (W : World) (d : Array α) (hless : LessM Try.prog gl rv enc lt blk off d.size W) (hH : Holds enc W blk off d) (hab : a < b) (hb : b ≤ d.size) (hsz : d.size < 4611686018427387904) :
    Calls Try.prog 45 #[.iface T rv, .int .i64 a, .int .i64 b] W fun e w' =>
      e = .returned (.tuple #[.int .i64 (choosePivot lt d a b).1, .int .i64 (hintCode (choosePivot lt d a b).2)]) ∧ ∃ n os, w' = grow (Sort.ahead W n) os := Any.choosePivot_iface Try.laysGt36 T rv gl rL enc lt blk off a b W d hless hH hab hb hsz
def Try.laysGt39_ren : Go.Shelf.Ren := ⟨fun | 39 => 48 | n => n, fun | 45 => 69 | 3 => 3 | 0 => 0 | 4 => 4 | 43 => 70 | 26 => 91 | 38 => 95 | n => n, fun | n => n⟩
theorem Try.laysGt39 : Go.Proofs.LaysGt.n39 Try.prog Try.laysGt39_ren := {
  mixed := by kernel_rfl
  f39 := Try.func48.trans (congrArg some (by kernel_rfl))
  t0 := Try.underlying0
  a0 := Try.isAgg0
  z0 := Try.sizeOf0
  v0 := Try.zeroValue0
  i0 := by kernel_rfl
  t3 := Try.underlying3
  a3 := Try.isAgg3
  z3 := Try.sizeOf3
  v3 := Try.zeroValue3
  i3 := by kernel_rfl
  t4 := Try.underlying4
  a4 := Try.isAgg4
  z4 := Try.sizeOf4
  v4 := Try.zeroValue4
  i4 := by kernel_rfl
  t26 := Try.underlying91
  a26 := Try.isAgg91
  z26 := Try.sizeOf91
  v26 := Try.zeroValue91
  i26 := by kernel_rfl
  t38 := Try.underlying95
  a38 := Try.isAgg95
  z38 := Try.sizeOf95
  v38 := Try.zeroValue95
  i38 := by kernel_rfl
  t43 := Try.underlying70
  a43 := Try.isAgg70
  z43 := Try.sizeOf70
  v43 := Try.zeroValue70
  i43 := by kernel_rfl
  t45 := Try.underlying69
  a45 := Try.isAgg69
  z45 := Try.sizeOf69
  v45 := Try.zeroValue69
  i45 := by kernel_rfl }
open Go.RowKit Go.Lib Go.Sort in
theorem Try.partitionEqual_iface {α : Type} [Inhabited α] (T : TypeId) (rv : Value) (gl gs : Nat) (rL : Reaches Try.prog T rv "Less" gl) (rS : Reaches Try.prog T rv "Swap" gs) (enc : α → Value) (lt : α → α → Bool) (blk off a b pivot : Nat) (d : Array α) (W : World) (hless : LessM Try.prog gl rv enc lt blk off d.size W) (hswap : SwapM Try.prog gs rv enc blk off d.size) (hH : Holds enc W blk off d) (hap : a ≤ pivot) (hpb : pivot < b) (hb : b ≤ d.size) (hsz : d.size < 4611686018427387904) :
    Calls Try.prog 48 #[.iface T rv, .int .i64 a, .int .i64 b, .int .i64 pivot] W fun e w' =>
      e = .returned (.int .i64 (Sort.partitionEqual lt d a b pivot).1) ∧ ∃ n, w' = (putRow enc W blk off (Sort.partitionEqual lt d a b pivot).2).drewN n := Any.partitionEqual_iface Try.laysGt39 T rv gl gs rL rS enc lt blk off a b pivot d W hless hswap hH hap hpb hb hsz
def Try.laysGt40_ren : Go.Shelf.Ren := ⟨fun | 40 => 49 | n => n, fun | 45 => 69 | 3 => 3 | 4 => 4 | 0 => 0 | 43 => 70 | 26 => 91 | 38 => 95 | n => n, fun | n => n⟩
theorem Try.laysGt40 : Go.Proofs.LaysGt.n40 Try.prog Try.laysGt40_ren := {
  mixed := by kernel_rfl
  f40 := Try.func49.trans (congrArg some (by kernel_rfl))
  t0 := Try.underlying0
  a0 := Try.isAgg0
  z0 := Try.sizeOf0
  v0 := Try.zeroValue0
  i0 := by kernel_rfl
  t3 := Try.underlying3
  a3 := Try.isAgg3
  z3 := Try.sizeOf3
  v3 := Try.zeroValue3
  i3 := by kernel_rfl
  t4 := Try.underlying4
  a4 := Try.isAgg4
  z4 := Try.sizeOf4
  v4 := Try.zeroValue4
  i4 := by kernel_rfl
  t26 := Try.underlying91
  a26 := Try.isAgg91
  z26 := Try.sizeOf91
  v26 := Try.zeroValue91
  i26 := by kernel_rfl
  t38 := Try.underlying95
  a38 := Try.isAgg95
  z38 := Try.sizeOf95
  v38 := Try.zeroValue95
  i38 := by kernel_rfl
  t43 := Try.underlying70
  a43 := Try.isAgg70
  z43 := Try.sizeOf70
  v43 := Try.zeroValue70
  i43 := by kernel_rfl
  t45 := Try.underlying69
  a45 := Try.isAgg69
  z45 := Try.sizeOf69
  v45 := Try.zeroValue69
  i45 := by kernel_rfl }
open Go.RowKit Go.Lib Go.Sort in
theorem Try.partition_iface {α : Type} [Inhabited α] (T : TypeId) (rv : Value) (gl gs : Nat) (rL : Reaches Try.prog T rv "Less" gl) (rS : Reaches Try.prog T rv "Swap" gs) (enc : α → Value) (lt : α → α → Bool) (blk off a b pivot : Nat) (d : Array α) (W : World) (hless : LessM Try.prog gl rv enc lt blk off d.size W) (hswap : SwapM Try.prog gs rv enc blk off d.size) (hH : Holds enc W blk off d) (hap : a ≤ pivot) (hpb : pivot < b) (hb : b ≤ d.size) (hsz : d.size < 4611686018427387904) :
    Calls Try.prog 49 #[.iface T rv, .int .i64 a, .int .i64 b, .int .i64 pivot] W fun e w' =>
      e = .returned (.tuple #[.int .i64 (Sort.partition lt d a b pivot).1, .bool (Sort.partition lt d a b pivot).2.1]) ∧ ∃ n, w' = (putRow enc W blk off (Sort.partition lt d a b pivot).2.2).drewN n := Any.partition_iface Try.laysGt40 T rv gl gs rL rS enc lt blk off a b pivot d W hless hswap hH hap hpb hb hsz
open Go.RowKit Go.Lib Go.Sort in
theorem Try.partitionEqual_iface_w {α : Type} [Inhabited α] (T : TypeId) (rv : Value) (gl gs : Nat) (rL : Reaches Try.prog T rv "Less" gl) (rS : Reaches Try.prog T rv "Swap" gs) (enc : α → Value) (lt : α → α → Bool) (blk off a b pivot : Nat) (d : Array α) (W : World) (hless : LessM Try.prog gl rv enc lt blk off d.size W) (hswap : SwapM Try.prog gs rv enc blk off d.size) (hH : Holds enc W blk off d) (hap : a ≤ pivot) (hpb : pivot < b) (hb : b ≤ d.size) (hsz : d.size < 4611686018427387904) :
    Calls Try.prog 48 #[.iface T rv, .int .i64 a, .int .i64 b, .int .i64 pivot] W fun e w' => e = .returned (.int .i64 (Sort.partitionEqual lt d a b pivot).1) ∧ ∃ n os, w' = sortWorld enc W blk off n (Sort.partitionEqual lt d a b pivot).2 os := Any.partitionEqual_iface_w Try.laysGt39 T rv gl gs rL rS enc lt blk off a b pivot d W hless hswap hH hap hpb hb hsz
open Go.RowKit Go.Lib Go.Sort in
theorem Try.partition_iface_w {α : Type} [Inhabited α] (T : TypeId) (rv : Value) (gl gs : Nat) (rL : Reaches Try.prog T rv "Less" gl) (rS : Reaches Try.prog T rv "Swap" gs) (enc : α → Value) (lt : α → α → Bool) (blk off a b pivot : Nat) (d : Array α) (W : World) (hless : LessM Try.prog gl rv enc lt blk off d.size W) (hswap : SwapM Try.prog gs rv enc blk off d.size) (hH : Holds enc W blk off d) (hap : a ≤ pivot) (hpb : pivot < b) (hb : b ≤ d.size) (hsz : d.size < 4611686018427387904) :
    Calls Try.prog 49 #[.iface T rv, .int .i64 a, .int .i64 b, .int .i64 pivot] W fun e w' => e = .returned (.tuple #[.int .i64 (Sort.partition lt d a b pivot).1, .bool (Sort.partition lt d a b pivot).2.1]) ∧ ∃ n os, w' = sortWorld enc W blk off n (Sort.partition lt d a b pivot).2.2 os := Any.partition_iface_w Try.laysGt40 T rv gl gs rL rS enc lt blk off a b pivot d W hless hswap hH hap hpb hb hsz
def Try.laysGt18_ren : Go.Shelf.Ren := ⟨fun | 18 => 33 | 33 => 42 | 34 => 43 | 35 => 44 | 36 => 45 | 37 => 46 | 38 => 47 | 39 => 48 | 40 => 49 | 43 => 52 | 44 => 53 | 45 => 54 | 46 => 55 | 47 => 56 | 17 => 32 | 50 => 58 | 31 => 40 | 32 => 41 | n => n, fun | 45 => 69 | 3 => 3 | 4 => 4 | 0 => 0 | 61 => 88 | 60 => 87 | 65 => 93 | 67 => 96 | 47 => 72 | 58 => 24 | 71 => 99 | 73 => 102 | 74 => 103 | 56 => 84 | 5 => 5 | 9 => 9 | 43 => 70 | 26 => 91 | 38 => 95 | n => n, fun | n => n⟩
theorem Try.laysGt18 : Go.Proofs.LaysGt.n18 Try.prog Try.laysGt18_ren := {
  mixed := by kernel_rfl
  f17 := Try.func32.trans (congrArg some (by kernel_rfl))
  f18 := Try.func33.trans (congrArg some (by kernel_rfl))
  f31 := Try.func40.trans (congrArg some (by kernel_rfl))
  f32 := Try.func41.trans (congrArg some (by kernel_rfl))
  f33 := Try.func42.trans (congrArg some (by kernel_rfl))
  f34 := Try.func43.trans (congrArg some (by kernel_rfl))
  f35 := Try.func44.trans (congrArg some (by kernel_rfl))
  f36 := Try.func45.trans (congrArg some (by kernel_rfl))
  f37 := Try.func46.trans (congrArg some (by kernel_rfl))
  f38 := Try.func47.trans (congrArg some (by kernel_rfl))
  f39 := Try.func48.trans (congrArg some (by kernel_rfl))
  f40 := Try.func49.trans (congrArg some (by kernel_rfl))
  f43 := Try.func52.trans (congrArg some (by kernel_rfl))
  f44 := Try.func53.trans (congrArg some (by kernel_rfl))
  f45 := Try.func54.trans (congrArg some (by kernel_rfl))
  f46 := Try.func55.trans (congrArg some (by kernel_rfl))
  f47 := Try.func56.trans (congrArg some (by kernel_rfl))
  f50 := Try.func58.trans (congrArg some (by kernel_rfl))
  t0 := Try.underlying0
  a0 := Try.isAgg0
  z0 := Try.sizeOf0
  v0 := Try.zeroValue0
  i0 := by kernel_rfl
  t3 := Try.underlying3
  a3 := Try.isAgg3
  z3 := Try.sizeOf3
  v3 := Try.zeroValue3
  i3 := by kernel_rfl
  t4 := Try.underlying4
  a4 := Try.isAgg4
  z4 := Try.sizeOf4
  v4 := Try.zeroValue4
  i4 := by kernel_rfl
  t5 := Try.underlying5
  a5 := Try.isAgg5
  z5 := Try.sizeOf5
  v5 := Try.zeroValue5
  i5 := by kernel_rfl
  t9 := Try.underlying9
  a9 := Try.isAgg9
  z9 := Try.sizeOf9
  v9 := Try.zeroValue9
  i9 := by kernel_rfl
  t26 := Try.underlying91
  a26 := Try.isAgg91
  z26 := Try.sizeOf91
  v26 := Try.zeroValue91
  i26 := by kernel_rfl
  t38 := Try.underlying95
  a38 := Try.isAgg95
  z38 := Try.sizeOf95
  v38 := Try.zeroValue95
  i38 := by kernel_rfl
  t43 := Try.underlying70
  a43 := Try.isAgg70
  z43 := Try.sizeOf70
  v43 := Try.zeroValue70
  i43 := by kernel_rfl
  t45 := Try.underlying69
  a45 := Try.isAgg69
  z45 := Try.sizeOf69
  v45 := Try.zeroValue69
  i45 := by kernel_rfl
  t47 := Try.underlying72
  a47 := Try.isAgg72
  z47 := Try.sizeOf72
  v47 := Try.zeroValue72
  i47 := by kernel_rfl
  t56 := Try.underlying84
  a56 := Try.isAgg84
  z56 := Try.sizeOf84
  v56 := Try.zeroValue84
  i56 := by kernel_rfl
  t58 := Try.underlying24
  a58 := Try.isAgg24
  z58 := Try.sizeOf24
  v58 := Try.zeroValue24
  i58 := by kernel_rfl
  t60 := Try.underlying87
  a60 := Try.isAgg87
  z60 := Try.sizeOf87
  v60 := Try.zeroValue87
  i60 := by kernel_rfl
  t61 := Try.underlying88
  a61 := Try.isAgg88
  z61 := Try.sizeOf88
  v61 := Try.zeroValue88
  i61 := by kernel_rfl
  t65 := Try.underlying93
  a65 := Try.isAgg93
  z65 := Try.sizeOf93
  v65 := Try.zeroValue93
  i65 := by kernel_rfl
  t67 := Try.underlying96
  a67 := Try.isAgg96
  z67 := Try.sizeOf96
  v67 := Try.zeroValue96
  i67 := by kernel_rfl
  t71 := Try.underlying99
  a71 := Try.isAgg99
  z71 := Try.sizeOf99
  v71 := Try.zeroValue99
  i71 := by kernel_rfl
  t73 := Try.underlying102
  a73 := Try.isAgg102
  z73 := Try.sizeOf102
  v73 := Try.zeroValue102
  i73 := by kernel_rfl
  t74 := Try.underlying103
  a74 := Try.isAgg103
  z74 := Try.sizeOf103
  v74 := Try.zeroValue103
  i74 := by kernel_rfl }
open Go.RowKit Go.Lib Go.Sort in
theorem Try.pdqsort_iface {α : Type} [Inhabited α] (T : TypeId) (rv : Value) (gl gs : Nat) (rL : Reaches Try.prog T rv "Less" gl) (rS : Reaches Try.prog T rv "Swap" gs) (enc : α → Value) (lt : α → α → Bool) (hO : SWO lt) (C : IfaceThree Try.prog Try.laysGt18_ren T rv gl gs enc lt) :
    ∀ (N blk off a b limit : Nat) (d : Array α) (w : World), b - a < N → LessM Try.prog gl rv enc lt blk off d.size w → SwapM Try.prog gs rv enc blk off d.size → Holds enc w blk off d → blk < w.heap.size → a ≤ b → b ≤ d.size → d.size < 4611686018427387904 → limit < 4611686018427387904 → Below lt a b d →
    Calls Try.prog 33 #[.iface T rv, .int .i64 a, .int .i64 b, .int .i64 limit] w fun e w' => e = .returned (.tuple #[]) ∧ At enc w blk off (pdq lt d a b limit true true) w' := Any.pdqsort_iface Try.laysGt18 T rv gl gs rL rS enc lt hO C
def Try.laysGt11_ren : Go.Shelf.Ren := ⟨fun | 11 => 20 | 17 => 32 | 18 => 33 | 31 => 40 | 32 => 41 | 33 => 42 | 34 => 43 | 35 => 44 | 36 => 45 | 37 => 46 | 38 => 47 | 39 => 48 | 40 => 49 | 43 => 52 | 44 => 53 | 45 => 54 | 46 => 55 | 47 => 56 | 50 => 58 | n => n, fun | 45 => 69 | 3 => 3 | 4 => 4 | 47 => 72 | 0 => 0 | 56 => 84 | 58 => 24 | 61 => 88 | 60 => 87 | 65 => 93 | 5 => 5 | 9 => 9 | 67 => 96 | 71 => 99 | 73 => 102 | 74 => 103 | 43 => 70 | 26 => 91 | 38 => 95 | n => n, fun | n => n⟩
theorem Try.laysGt11 : Go.Proofs.LaysGt.n11 Try.prog Try.laysGt11_ren := {
  mixed := by kernel_rfl
  f11 := Try.func20.trans (congrArg some (by kernel_rfl))
  f17 := Try.func32.trans (congrArg some (by kernel_rfl))
  f18 := Try.func33.trans (congrArg some (by kernel_rfl))
  f31 := Try.func40.trans (congrArg some (by kernel_rfl))
  f32 := Try.func41.trans (congrArg some (by kernel_rfl))
  f33 := Try.func42.trans (congrArg some (by kernel_rfl))
  f34 := Try.func43.trans (congrArg some (by kernel_rfl))
  f35 := Try.func44.trans (congrArg some (by kernel_rfl))
  f36 := Try.func45.trans (congrArg some (by kernel_rfl))
  f37 := Try.func46.trans (congrArg some (by kernel_rfl))
  f38 := Try.func47.trans (congrArg some (by kernel_rfl))
  f39 := Try.func48.trans (congrArg some (by kernel_rfl))
  f40 := Try.func49.trans (congrArg some (by kernel_rfl))
  f43 := Try.func52.trans (congrArg some (by kernel_rfl))
  f44 := Try.func53.trans (congrArg some (by kernel_rfl))
  f45 := Try.func54.trans (congrArg some (by kernel_rfl))
  f46 := Try.func55.trans (congrArg some (by kernel_rfl))
  f47 := Try.func56.trans (congrArg some (by kernel_rfl))
  f50 := Try.func58.trans (congrArg some (by kernel_rfl))
  t0 := Try.underlying0
  a0 := Try.isAgg0
  z0 := Try.sizeOf0
  v0 := Try.zeroValue0
  i0 := by kernel_rfl
  t3 := Try.underlying3
  a3 := Try.isAgg3
  z3 := Try.sizeOf3
  v3 := Try.zeroValue3
  i3 := by kernel_rfl
  t4 := Try.underlying4
  a4 := Try.isAgg4
  z4 := Try.sizeOf4
  v4 := Try.zeroValue4
  i4 := by kernel_rfl
  t5 := Try.underlying5
  a5 := Try.isAgg5
  z5 := Try.sizeOf5
  v5 := Try.zeroValue5
  i5 := by kernel_rfl
  t9 := Try.underlying9
  a9 := Try.isAgg9
  z9 := Try.sizeOf9
  v9 := Try.zeroValue9
  i9 := by kernel_rfl
  t26 := Try.underlying91
  a26 := Try.isAgg91
  z26 := Try.sizeOf91
  v26 := Try.zeroValue91
  i26 := by kernel_rfl
  t38 := Try.underlying95
  a38 := Try.isAgg95
  z38 := Try.sizeOf95
  v38 := Try.zeroValue95
  i38 := by kernel_rfl
  t43 := Try.underlying70
  a43 := Try.isAgg70
  z43 := Try.sizeOf70
  v43 := Try.zeroValue70
  i43 := by kernel_rfl
  t45 := Try.underlying69
  a45 := Try.isAgg69
  z45 := Try.sizeOf69
  v45 := Try.zeroValue69
  i45 := by kernel_rfl
  t47 := Try.underlying72
  a47 := Try.isAgg72
  z47 := Try.sizeOf72
  v47 := Try.zeroValue72
  i47 := by kernel_rfl
  t56 := Try.underlying84
  a56 := Try.isAgg84
  z56 := Try.sizeOf84
  v56 := Try.zeroValue84
  i56 := by kernel_rfl
  t58 := Try.underlying24
  a58 := Try.isAgg24
  z58 := Try.sizeOf24
  v58 := Try.zeroValue24
  i58 := by kernel_rfl
  t60 := Try.underlying87
  a60 := Try.isAgg87
  z60 := Try.sizeOf87
  v60 := Try.zeroValue87
  i60 := by kernel_rfl
  t61 := Try.underlying88
  a61 := Try.isAgg88
  z61 := Try.sizeOf88
  v61 := Try.zeroValue88
  i61 := by kernel_rfl
  t65 := Try.underlying93
  a65 := Try.isAgg93
  z65 := Try.sizeOf93
  v65 := Try.zeroValue93
  i65 := by kernel_rfl
  t67 := Try.underlying96
  a67 := Try.isAgg96
  z67 := Try.sizeOf96
  v67 := Try.zeroValue96
  i67 := by kernel_rfl
  t71 := Try.underlying99
  a71 := Try.isAgg99
  z71 := Try.sizeOf99
  v71 := Try.zeroValue99
  i71 := by kernel_rfl
  t73 := Try.underlying102
  a73 := Try.isAgg102
  z73 := Try.sizeOf102
  v73 := Try.zeroValue102
  i73 := by kernel_rfl
  t74 := Try.underlying103
  a74 := Try.isAgg103
  z74 := Try.sizeOf103
  v74 := Try.zeroValue103
  i74 := by kernel_rfl }
open Go.RowKit Go.Lib Go.Sort in
theorem Try.sort_Sort_tiny {α : Type} [Inhabited α] (T : TypeId) (rv : Value) (gn : Nat) (rN : Reaches Try.prog T rv "Len" gn) (n : Nat) (hn : n ≤ 1) (w : World) (hlen : LenM Try.prog gn rv n w) :
    Calls Try.prog 20 #[.iface T rv] w fun e w' => e = .returned (.tuple #[]) ∧ ∃ q, w' = w.drewN q := Any.sort_Sort_tiny Try.laysGt11 T rv gn rN n hn w hlen
open Go.RowKit Go.Lib Go.Sort in
/-- **sort.Sort: WHAT THE ROW HOLDS, TO THE ELEMENT.** (LAID: no walk: one application.) -/
theorem Try.sort_Sort_eq {α : Type} [Inhabited α] (T : TypeId) (rv : Value) (gn gl gs : Nat) (rN : Reaches Try.prog T rv "Len" gn) (rL : Reaches Try.prog T rv "Less" gl) (rS : Reaches Try.prog T rv "Swap" gs) (enc : α → Value) (lt : α → α → Bool) (hO : SWO lt) (blk off : Nat) (d : Array α) (h2 : 2 ≤ d.size) (hsz : d.size < 4611686018427387904) (w : World) (hlen : LenM Try.prog gn rv d.size w) (hless : LessM Try.prog gl rv enc lt blk off d.size w) (hswap : SwapM Try.prog gs rv enc blk off d.size) (hH : Holds enc w blk off d) (hblk : blk < w.heap.size) :
    Calls Try.prog 20 #[.iface T rv] w fun e w' => e = .returned (.tuple #[]) ∧ ∃ n os, w' = grow (putRow enc (Sort.ahead w n) blk off (pdq lt d 0 d.size (Lib.bitLen d.size) true true)) os := Any.sort_Sort_eq Try.laysGt11 T rv gn gl gs rN rL rS enc lt hO blk off d h2 hsz w hlen hless hswap hH hblk
open Go.RowKit Go.Lib Go.Sort in
/-- **sort.Sort, IN THE DOCUMENTATION's OWN TERMS ("Sort sorts data in ascending order as determined by the Less method. .. The sort is not guaranteed to be stable"): A PERMUTATION OF WHAT THE ROW HELD, SORTED BY 'lt'.** (LAID: no walk: one application.) -/
theorem Try.sort_Sort_sorted {α : Type} [Inhabited α] (T : TypeId) (rv : Value) (gn gl gs : Nat) (rN : Reaches Try.prog T rv "Len" gn) (rL : Reaches Try.prog T rv "Less" gl) (rS : Reaches Try.prog T rv "Swap" gs) (enc : α → Value) (lt : α → α → Bool) (hO : SWO lt) (blk off : Nat) (d : Array α) (h2 : 2 ≤ d.size) (hsz : d.size < 4611686018427387904) (w : World) (hlen : LenM Try.prog gn rv d.size w) (hless : LessM Try.prog gl rv enc lt blk off d.size w) (hswap : SwapM Try.prog gs rv enc blk off d.size) (hH : Holds enc w blk off d) (hblk : blk < w.heap.size) :
    Calls Try.prog 20 #[.iface T rv] w fun e w' => e = .returned (.tuple #[]) ∧ ∃ d' n os, PermIn 0 d.size d d' ∧ SortedIn lt 0 d.size d' ∧ w' = grow (putRow enc (Sort.ahead w n) blk off d') os := Any.sort_Sort_sorted Try.laysGt11 T rv gn gl gs rN rL rS enc lt hO blk off d h2 hsz w hlen hless hswap hH hblk
open Go.RowKit Go.Sort in
/-- .. and plain. (LAID: no walk: one application.) -/
theorem Try.slices_Sort_string_none (p : Option Addr) (cap : Nat) (w : World) :
    Calls Try.prog 50 #[.slice p 0 cap] w fun e w' => e = .returned (.tuple #[]) ∧ w' = w := Any.slices_Sort_string_none Try.lays190 p cap w
open Go.RowKit Go.Sort in
/-- .. and plain. (LAID: no walk: one application.) -/
theorem Try.sort_Strings_none (p : Option Addr) (cap : Nat) (w : World) :
    Calls Try.prog 34 #[.slice p 0 cap] w fun e w' => e = .returned (.tuple #[]) ∧ w' = w := Any.sort_Strings_none Try.lays192 p cap w
def Try.laysGg36_ren : Go.Shelf.Ren := ⟨fun | 36 => 54 | n => n, fun | 66 => 102 | 51 => 24 | 0 => 0 | 60 => 96 | 41 => 72 | n => n, fun | n => n⟩
theorem Try.laysGg36 : Go.Proofs.LaysGg.n36 Try.prog Try.laysGg36_ren := {
  mixed := by kernel_rfl
  f36 := Try.func54.trans (congrArg some (by kernel_rfl))
  t0 := Try.underlying0
  a0 := Try.isAgg0
  z0 := Try.sizeOf0
  v0 := Try.zeroValue0
  i0 := by kernel_rfl
  t41 := Try.underlying72
  a41 := Try.isAgg72
  z41 := Try.sizeOf72
  v41 := Try.zeroValue72
  i41 := by kernel_rfl
  t51 := Try.underlying24
  a51 := Try.isAgg24
  z51 := Try.sizeOf24
  v51 := Try.zeroValue24
  i51 := by kernel_rfl
  t60 := Try.underlying96
  a60 := Try.isAgg96
  z60 := Try.sizeOf96
  v60 := Try.zeroValue96
  i60 := by kernel_rfl
  t66 := Try.underlying102
  a66 := Try.isAgg102
  z66 := Try.sizeOf102
  v66 := Try.zeroValue102
  i66 := by kernel_rfl }
open Go.RowKit Go.Lib Go.Sort in
/-- '*r ^= *r << 13; *r ^= *r >> 7; *r ^= *r << 17; return uint64(*r)': the cell holds 'xorNextN X' and that is handed back; three draws; nothing else turns. (LAID: no walk: one application.) -/
theorem Try.xorshift_Next (rb ro X : Nat) (hX : X < 18446744073709551616) (w : World) (hc : w.cell? ⟨rb, ro, none⟩ = some (.int .u64 X)) (hf : w.frozen? ⟨rb, ro, none⟩ = false) :
    Calls Try.prog 54 #[.pointer (some ⟨rb, ro, none⟩)] w fun e w' => e = .returned (.int .u64 (xorNextN X : Nat)) ∧ w' = (w.setCell ⟨rb, ro, none⟩ (.int .u64 (xorNextN X : Nat))).drewN 3 := Any.xorshift_Next Try.laysGg36 rb ro X hX w hc hf
def Try.laysGg35_ren : Go.Shelf.Ren := ⟨fun | 35 => 53 | 13 => 32 | 24 => 40 | 25 => 41 | n => n, fun | 3 => 3 | 41 => 72 | 49 => 84 | 51 => 24 | 4 => 4 | 5 => 5 | 9 => 9 | n => n, fun | n => n⟩
theorem Try.laysGg35 : Go.Proofs.LaysGg.n35 Try.prog Try.laysGg35_ren := {
  mixed := by kernel_rfl
  f13 := Try.func32.trans (congrArg some (by kernel_rfl))
  f24 := Try.func40.trans (congrArg some (by kernel_rfl))
  f25 := Try.func41.trans (congrArg some (by kernel_rfl))
  f35 := Try.func53.trans (congrArg some (by kernel_rfl))
  t3 := Try.underlying3
  a3 := Try.isAgg3
  z3 := Try.sizeOf3
  v3 := Try.zeroValue3
  i3 := by kernel_rfl
  t4 := Try.underlying4
  a4 := Try.isAgg4
  z4 := Try.sizeOf4
  v4 := Try.zeroValue4
  i4 := by kernel_rfl
  t5 := Try.underlying5
  a5 := Try.isAgg5
  z5 := Try.sizeOf5
  v5 := Try.zeroValue5
  i5 := by kernel_rfl
  t9 := Try.underlying9
  a9 := Try.isAgg9
  z9 := Try.sizeOf9
  v9 := Try.zeroValue9
  i9 := by kernel_rfl
  t41 := Try.underlying72
  a41 := Try.isAgg72
  z41 := Try.sizeOf72
  v41 := Try.zeroValue72
  i41 := by kernel_rfl
  t49 := Try.underlying84
  a49 := Try.isAgg84
  z49 := Try.sizeOf84
  v49 := Try.zeroValue84
  i49 := by kernel_rfl
  t51 := Try.underlying24
  a51 := Try.isAgg24
  z51 := Try.sizeOf24
  v51 := Try.zeroValue24
  i51 := by kernel_rfl }
open Go.RowKit Go.Lib Go.Sort in
/-- 'return 1 << bits.Len(uint(length))'. (LAID: no walk: one application.) -/
theorem Try.nextPowerOfTwo (n : Nat) (hn : n < 4611686018427387904) (w : World) :
    Calls Try.prog 53 #[.int .i64 n] w fun e w' => e = .returned (.int .u64 ((1 <<< bitsLen n : Nat) : Int)) ∧ w' = w := Any.nextPowerOfTwo Try.laysGg35 n hn w
def Try.laysGt43_ren : Go.Shelf.Ren := ⟨fun | 43 => 52 | n => n, fun | 45 => 69 | 3 => 3 | 4 => 4 | 0 => 0 | 43 => 70 | 26 => 91 | 38 => 95 | n => n, fun | n => n⟩
theorem Try.laysGt43 : Go.Proofs.LaysGt.n43 Try.prog Try.laysGt43_ren := {
  mixed := by kernel_rfl
  f43 := Try.func52.trans (congrArg some (by kernel_rfl))
  t0 := Try.underlying0
  a0 := Try.isAgg0
  z0 := Try.sizeOf0
  v0 := Try.zeroValue0
  i0 := by kernel_rfl
  t3 := Try.underlying3
  a3 := Try.isAgg3
  z3 := Try.sizeOf3
  v3 := Try.zeroValue3
  i3 := by kernel_rfl
  t4 := Try.underlying4
  a4 := Try.isAgg4
  z4 := Try.sizeOf4
  v4 := Try.zeroValue4
  i4 := by kernel_rfl
  t26 := Try.underlying91
  a26 := Try.isAgg91
  z26 := Try.sizeOf91
  v26 := Try.zeroValue91
  i26 := by kernel_rfl
  t38 := Try.underlying95
  a38 := Try.isAgg95
  z38 := Try.sizeOf95
  v38 := Try.zeroValue95
  i38 := by kernel_rfl
  t43 := Try.underlying70
  a43 := Try.isAgg70
  z43 := Try.sizeOf70
  v43 := Try.zeroValue70
  i43 := by kernel_rfl
  t45 := Try.underlying69
  a45 := Try.isAgg69
  z45 := Try.sizeOf69
  v45 := Try.zeroValue69
  i45 := by kernel_rfl }
open Go.RowKit Go.Lib Go.Sort in
theorem Try.siftDown_iface {α : Type} [Inhabited α] (T : TypeId) (rv : Value) (gl gs : Nat) (rL : Reaches Try.prog T rv "Less" gl) (rS : Reaches Try.prog T rv "Swap" gs) (enc : α → Value) (lt : α → α → Bool) (blk off lo hi first : Nat) (d : Array α) (w : World) (hless : LessM Try.prog gl rv enc lt blk off d.size w) (hswap : SwapM Try.prog gs rv enc blk off d.size) (hH : Holds enc w blk off d) (hlo : lo ≤ hi) (hb : first + hi ≤ d.size) (hsz : d.size < 4611686018427387904) :
    Calls Try.prog 52 #[.iface T rv, .int .i64 lo, .int .i64 hi, .int .i64 first] w fun e w' =>
      e = .returned (.tuple #[]) ∧ ∃ n, w' = putRow enc (Sort.ahead w n) blk off (siftDown lt hi first lo d) := Any.siftDown_iface Try.laysGt43 T rv gl gs rL rS enc lt blk off lo hi first d w hless hswap hH hlo hb hsz
open Go.RowKit Go.Lib Go.Sort in
/-- sort.siftDown, from a world to a 'sortWorld' of it. (LAID: no walk: one application.) -/
theorem Try.siftDown_iface_w {α : Type} [Inhabited α] (T : TypeId) (rv : Value) (gl gs : Nat) (rL : Reaches Try.prog T rv "Less" gl) (rS : Reaches Try.prog T rv "Swap" gs) (enc : α → Value) (lt : α → α → Bool) (blk off lo hi first : Nat) (d : Array α) (w : World) (hless : LessM Try.prog gl rv enc lt blk off d.size w) (hswap : SwapM Try.prog gs rv enc blk off d.size) (hH : Holds enc w blk off d) (hlo : lo ≤ hi) (hb : first + hi ≤ d.size) (hsz : d.size < 4611686018427387904) :
    Calls Try.prog 52 #[.iface T rv, .int .i64 lo, .int .i64 hi, .int .i64 first] w fun e w' => e = .returned (.tuple #[]) ∧ ∃ n os, w' = sortWorld enc w blk off n (siftDown lt hi first lo d) os := Any.siftDown_iface_w Try.laysGt43 T rv gl gs rL rS enc lt blk off lo hi first d w hless hswap hH hlo hb hsz
def Try.laysGt34_ren : Go.Shelf.Ren := ⟨fun | 34 => 43 | 43 => 52 | n => n, fun | 45 => 69 | 3 => 3 | 4 => 4 | 0 => 0 | 43 => 70 | 26 => 91 | 38 => 95 | n => n, fun | n => n⟩
theorem Try.laysGt34 : Go.Proofs.LaysGt.n34 Try.prog Try.laysGt34_ren := {
  mixed := by kernel_rfl
  f34 := Try.func43.trans (congrArg some (by kernel_rfl))
  f43 := Try.func52.trans (congrArg some (by kernel_rfl))
  t0 := Try.underlying0
  a0 := Try.isAgg0
  z0 := Try.sizeOf0
  v0 := Try.zeroValue0
  i0 := by kernel_rfl
  t3 := Try.underlying3
  a3 := Try.isAgg3
  z3 := Try.sizeOf3
  v3 := Try.zeroValue3
  i3 := by kernel_rfl
  t4 := Try.underlying4
  a4 := Try.isAgg4
  z4 := Try.sizeOf4
  v4 := Try.zeroValue4
  i4 := by kernel_rfl
  t26 := Try.underlying91
  a26 := Try.isAgg91
  z26 := Try.sizeOf91
  v26 := Try.zeroValue91
  i26 := by kernel_rfl
  t38 := Try.underlying95
  a38 := Try.isAgg95
  z38 := Try.sizeOf95
  v38 := Try.zeroValue95
  i38 := by kernel_rfl
  t43 := Try.underlying70
  a43 := Try.isAgg70
  z43 := Try.sizeOf70
  v43 := Try.zeroValue70
  i43 := by kernel_rfl
  t45 := Try.underlying69
  a45 := Try.isAgg69
  z45 := Try.sizeOf69
  v45 := Try.zeroValue69
  i45 := by kernel_rfl }
open Go.RowKit Go.Lib Go.Sort in
theorem Try.heapSort_iface_w {α : Type} [Inhabited α] (T : TypeId) (rv : Value) (gl gs : Nat) (rL : Reaches Try.prog T rv "Less" gl) (rS : Reaches Try.prog T rv "Swap" gs) (enc : α → Value) (lt : α → α → Bool) (blk off a b : Nat) (d : Array α) (w : World) (hless : LessM Try.prog gl rv enc lt blk off d.size w) (hswap : SwapM Try.prog gs rv enc blk off d.size) (hH : Holds enc w blk off d) (hblk : blk < w.heap.size) (hab : a ≤ b) (hb : b ≤ d.size) (hsz : d.size < 4611686018427387904) :
    Calls Try.prog 43 #[.iface T rv, .int .i64 a, .int .i64 b] w fun e w' => e = .returned (.tuple #[]) ∧ ∃ n os, w' = sortWorld enc w blk off n (heapSort lt d a b) os := Any.heapSort_iface_w Try.laysGt34 T rv gl gs rL rS enc lt blk off a b d w hless hswap hH hblk hab hb hsz
def Try.laysGt38_ren : Go.Shelf.Ren := ⟨fun | 38 => 47 | n => n, fun | 45 => 69 | 3 => 3 | 4 => 4 | 0 => 0 | 43 => 70 | 26 => 91 | 38 => 95 | n => n, fun | n => n⟩
theorem Try.laysGt38 : Go.Proofs.LaysGt.n38 Try.prog Try.laysGt38_ren := {
  mixed := by kernel_rfl
  f38 := Try.func47.trans (congrArg some (by kernel_rfl))
  t0 := Try.underlying0
  a0 := Try.isAgg0
  z0 := Try.sizeOf0
  v0 := Try.zeroValue0
  i0 := by kernel_rfl
  t3 := Try.underlying3
  a3 := Try.isAgg3
  z3 := Try.sizeOf3
  v3 := Try.zeroValue3
  i3 := by kernel_rfl
  t4 := Try.underlying4
  a4 := Try.isAgg4
  z4 := Try.sizeOf4
  v4 := Try.zeroValue4
  i4 := by kernel_rfl
  t26 := Try.underlying91
  a26 := Try.isAgg91
  z26 := Try.sizeOf91
  v26 := Try.zeroValue91
  i26 := by kernel_rfl
  t38 := Try.underlying95
  a38 := Try.isAgg95
  z38 := Try.sizeOf95
  v38 := Try.zeroValue95
  i38 := by kernel_rfl
  t43 := Try.underlying70
  a43 := Try.isAgg70
  z43 := Try.sizeOf70
  v43 := Try.zeroValue70
  i43 := by kernel_rfl
  t45 := Try.underlying69
  a45 := Try.isAgg69
  z45 := Try.sizeOf69
  v45 := Try.zeroValue69
  i45 := by kernel_rfl }
open Go.RowKit Go.Lib Go.Sort in
theorem Try.partialInsertionSort_iface {α : Type} [Inhabited α] (T : TypeId) (rv : Value) (gl gs : Nat) (rL : Reaches Try.prog T rv "Less" gl) (rS : Reaches Try.prog T rv "Swap" gs) (enc : α → Value) (lt : α → α → Bool) (blk off a b : Nat) (d : Array α) (w : World) (hless : LessM Try.prog gl rv enc lt blk off d.size w) (hswap : SwapM Try.prog gs rv enc blk off d.size) (hH : Holds enc w blk off d) (hab : a < b) (hb : b ≤ d.size) (hsz : d.size < 4611686018427387904) :
    Calls Try.prog 47 #[.iface T rv, .int .i64 a, .int .i64 b] w fun e w' =>
      e = .returned (.bool (Sort.partialInsertionSort lt d a b).2) ∧ ∃ n, w' = putRow enc (Sort.ahead w n) blk off (Sort.partialInsertionSort lt d a b).1 := Any.partialInsertionSort_iface Try.laysGt38 T rv gl gs rL rS enc lt blk off a b d w hless hswap hH hab hb hsz
open Go.RowKit Go.Lib Go.Sort in
/-- sort.partialInsertionSort, from a world to a 'sortWorld' of it. (LAID: no walk: one application.) -/
theorem Try.partialInsertionSort_iface_w {α : Type} [Inhabited α] (T : TypeId) (rv : Value) (gl gs : Nat) (rL : Reaches Try.prog T rv "Less" gl) (rS : Reaches Try.prog T rv "Swap" gs) (enc : α → Value) (lt : α → α → Bool) (blk off a b : Nat) (d : Array α) (w : World) (hless : LessM Try.prog gl rv enc lt blk off d.size w) (hswap : SwapM Try.prog gs rv enc blk off d.size) (hH : Holds enc w blk off d) (hab : a < b) (hb : b ≤ d.size) (hsz : d.size < 4611686018427387904) :
    Calls Try.prog 47 #[.iface T rv, .int .i64 a, .int .i64 b] w fun e w' => e = .returned (.bool (Sort.partialInsertionSort lt d a b).2) ∧ ∃ n os, w' = sortWorld enc w blk off n (Sort.partialInsertionSort lt d a b).1 os := Any.partialInsertionSort_iface_w Try.laysGt38 T rv gl gs rL rS enc lt blk off a b d w hless hswap hH hab hb hsz
end Go.Proofs
