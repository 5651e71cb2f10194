/-
  DERIVED: THE SHELF's CONTRACTS AT THIS DUMP, IN PLAIN WORDS (tools/lay-plain.mjs out of 'TryShelf.lean', which tools/lay-shelf.mjs wrote): THE SAME DECLARATIONS UNDER THE SAME NAMES: 'import', 'namespace', 'open', 'def', 'theorem' AND NOTHING ELSE: no command of the shelf's: FOR A HAND-IN. Each laying: the table of numbers ('.._ren') and one theorem, a field a fact of the dump's own or the kernel's comparison; each contract: ONE APPLICATION.
-/
import Derived.Shelf.Small.Bits
import Derived.Shelf.Strconv.Itoa0
import Derived.Ground.GgtProg
import Derived.Shelf.GgSortMore.Iface
import Derived.Shelf.GgSortMore.IfaceD
import Derived.Shelf.GgSortMore.IfacePart
import Derived.Shelf.GgSortMore.IfacePdq
import Derived.Shelf.GgSortMore.SortSort
import Derived.Ground.GgsProg
import Derived.Shelf.SlSortFunc.Xorshift
import Derived.Shelf.SlSortIface.SiftDown
import Derived.Shelf.SlSortIface.HeapSort
import Derived.Shelf.SlSortIface.PartialInsertion
import Derived.Test.YthjameohenmeiaaProg
namespace Go.Proofs
open Go.Shelf
def Try.lays128_ren : Go.Shelf.Ren := ⟨fun | 128 => 43 | n => n, fun | 51 => 84 | 3 => 3 | 4 => 4 | 46 => 69 | 5 => 5 | 9 => 9 | n => n, fun | n => n⟩
theorem Try.lays128 : Go.Proofs.Lays.n128 Try.prog Try.lays128_ren := {
  mixed := by kernel_rfl
  f128 := Try.func43.trans (congrArg some (by kernel_rfl))
  t3 := Try.underlying3
  a3 := Try.isAgg3
  z3 := Try.sizeOf3
  v3 := Try.zeroValue3
  t4 := Try.underlying4
  a4 := Try.isAgg4
  z4 := Try.sizeOf4
  v4 := Try.zeroValue4
  t5 := Try.underlying5
  a5 := Try.isAgg5
  z5 := Try.sizeOf5
  v5 := Try.zeroValue5
  t9 := Try.underlying9
  a9 := Try.isAgg9
  z9 := Try.sizeOf9
  v9 := Try.zeroValue9
  t46 := Try.underlying69
  a46 := Try.isAgg69
  z46 := Try.sizeOf69
  v46 := Try.zeroValue69
  t51 := Try.underlying84
  a51 := Try.isAgg84
  z51 := Try.sizeOf84
  v51 := Try.zeroValue84 }
/-- bits.Len32: "Len32 returns the minimum number of bits required to represent x; the result is 0 for x == 0.": IT RETURNS 'Lib.bitLen x'; the world is as it was. ('h0', 'h1': x is a uint32.) (LAID: no walk: one application.) -/
theorem Try.bits_Len32 (x : Int) (w : World) (h0 : 0 ≤ x) (h1 : x ≤ 4294967295) :
    Calls Try.prog 43 #[.int .u32 x] w fun e w' => e = .returned (.int .i64 (Lib.bitLen x.toNat)) ∧ w' = w := Any.bits_Len32 Try.lays128 x w h0 h1
def Try.lays125_ren : Go.Shelf.Ren := ⟨fun | 125 => 31 | 128 => 43 | 129 => 44 | n => n, fun | 46 => 69 | 3 => 3 | 51 => 84 | 53 => 54 | 4 => 4 | 5 => 5 | 9 => 9 | n => n, fun | n => n⟩
theorem Try.lays125 : Go.Proofs.Lays.n125 Try.prog Try.lays125_ren := {
  mixed := by kernel_rfl
  f125 := Try.func31.trans (congrArg some (by kernel_rfl))
  f128 := Try.func43.trans (congrArg some (by kernel_rfl))
  f129 := Try.func44.trans (congrArg some (by kernel_rfl))
  t3 := Try.underlying3
  a3 := Try.isAgg3
  z3 := Try.sizeOf3
  v3 := Try.zeroValue3
  t4 := Try.underlying4
  a4 := Try.isAgg4
  z4 := Try.sizeOf4
  v4 := Try.zeroValue4
  t5 := Try.underlying5
  a5 := Try.isAgg5
  z5 := Try.sizeOf5
  v5 := Try.zeroValue5
  t9 := Try.underlying9
  a9 := Try.isAgg9
  z9 := Try.sizeOf9
  v9 := Try.zeroValue9
  t46 := Try.underlying69
  a46 := Try.isAgg69
  z46 := Try.sizeOf69
  v46 := Try.zeroValue69
  t51 := Try.underlying84
  a51 := Try.isAgg84
  z51 := Try.sizeOf84
  v51 := Try.zeroValue84
  t53 := Try.underlying54
  a53 := Try.isAgg54
  z53 := Try.sizeOf54
  v53 := Try.zeroValue54 }
/-- bits.Len: "Len returns the minimum number of bits required to represent x; the result is 0 for x == 0.": IT RETURNS 'Lib.bitLen x'; the world is as it was. (A uint has 64 bits in the model.) ITS CALLEE bits.Len64 IS MET BY ITS OWN CONTRACT OFF THE SHELF (lay that first). (LAID: no walk: one application.) -/
theorem Try.bits_Len (x : Int) (w : World) (h0 : 0 ≤ x) (h1 : x ≤ 18446744073709551615) :
    Calls Try.prog 31 #[.int .u64 x] w fun e w' => e = .returned (.int .i64 (Lib.bitLen x.toNat)) ∧ w' = w := Any.bits_Len Try.lays125 x w h0 h1
def Try.lays129_ren : Go.Shelf.Ren := ⟨fun | 129 => 44 | n => n, fun | 53 => 54 | 3 => 3 | 4 => 4 | 46 => 69 | 5 => 5 | 9 => 9 | n => n, fun | n => n⟩
theorem Try.lays129 : Go.Proofs.Lays.n129 Try.prog Try.lays129_ren := {
  mixed := by kernel_rfl
  f129 := Try.func44.trans (congrArg some (by kernel_rfl))
  t3 := Try.underlying3
  a3 := Try.isAgg3
  z3 := Try.sizeOf3
  v3 := Try.zeroValue3
  t4 := Try.underlying4
  a4 := Try.isAgg4
  z4 := Try.sizeOf4
  v4 := Try.zeroValue4
  t5 := Try.underlying5
  a5 := Try.isAgg5
  z5 := Try.sizeOf5
  v5 := Try.zeroValue5
  t9 := Try.underlying9
  a9 := Try.isAgg9
  z9 := Try.sizeOf9
  v9 := Try.zeroValue9
  t46 := Try.underlying69
  a46 := Try.isAgg69
  z46 := Try.sizeOf69
  v46 := Try.zeroValue69
  t53 := Try.underlying54
  a53 := Try.isAgg54
  z53 := Try.sizeOf54
  v53 := Try.zeroValue54 }
/-- bits.Len64: "Len64 returns the minimum number of bits required to represent x; the result is 0 for x == 0.": IT RETURNS 'Lib.bitLen x'; the world is as it was. ('h0', 'h1': x is a uint64.) (LAID: no walk: one application.) -/
theorem Try.bits_Len64 (x : Int) (w : World) (h0 : 0 ≤ x) (h1 : x ≤ 18446744073709551615) :
    Calls Try.prog 44 #[.int .u64 x] w fun e w' => e = .returned (.int .i64 (Lib.bitLen x.toNat)) ∧ w' = w := Any.bits_Len64 Try.lays129 x w h0 h1
def Try.laysGt33_ren : Go.Shelf.Ren := ⟨fun | 33 => 45 | n => n, fun | 45 => 66 | 3 => 3 | 4 => 4 | 0 => 0 | 43 => 67 | 26 => 91 | 38 => 99 | n => n, fun | n => n⟩
theorem Try.laysGt33 : Go.Proofs.LaysGt.n33 Try.prog Try.laysGt33_ren := {
  mixed := by kernel_rfl
  f33 := Try.func45.trans (congrArg some (by kernel_rfl))
  t0 := Try.underlying0
  a0 := Try.isAgg0
  z0 := Try.sizeOf0
  v0 := Try.zeroValue0
  i0 := by kernel_rfl
  t3 := Try.underlying3
  a3 := Try.isAgg3
  z3 := Try.sizeOf3
  v3 := Try.zeroValue3
  i3 := by kernel_rfl
  t4 := Try.underlying4
  a4 := Try.isAgg4
  z4 := Try.sizeOf4
  v4 := Try.zeroValue4
  i4 := by kernel_rfl
  t26 := Try.underlying91
  a26 := Try.isAgg91
  z26 := Try.sizeOf91
  v26 := Try.zeroValue91
  i26 := by kernel_rfl
  t38 := Try.underlying99
  a38 := Try.isAgg99
  z38 := Try.sizeOf99
  v38 := Try.zeroValue99
  i38 := by kernel_rfl
  t43 := Try.underlying67
  a43 := Try.isAgg67
  z43 := Try.sizeOf67
  v43 := Try.zeroValue67
  i43 := by kernel_rfl
  t45 := Try.underlying66
  a45 := Try.isAgg66
  z45 := Try.sizeOf66
  v45 := Try.zeroValue66
  i45 := by kernel_rfl }
open Go.RowKit Go.Lib Go.Sort in
theorem Try.insertionSort_iface {α : Type} [Inhabited α] (T : TypeId) (rv : Value) (gl gs : Nat) (rL : Reaches Try.prog T rv "Less" gl) (rS : Reaches Try.prog T rv "Swap" gs) (enc : α → Value) (lt : α → α → Bool) (blk off a b : Nat) (d : Array α) (w : World) (hless : LessM Try.prog gl rv enc lt blk off d.size w) (hswap : SwapM Try.prog gs rv enc blk off d.size) (hH : Holds enc w blk off d) (hab : a ≤ b) (hb : b ≤ d.size) (hsz : d.size < 4611686018427387904) :
    Calls Try.prog 45 #[.iface T rv, .int .i64 a, .int .i64 b] w fun e w' =>
      e = .returned (.tuple #[]) ∧ ∃ n, w' = putRow enc (Sort.ahead w n) blk off (Sort.insertionSort lt d a b) := Any.insertionSort_iface Try.laysGt33 T rv gl gs rL rS enc lt blk off a b d w hless hswap hH hab hb hsz
open Go.RowKit Go.Lib Go.Sort in
/-- sort.insertionSort, from a world to a 'sortWorld' of it. (LAID: no walk: one application.) -/
theorem Try.insertionSort_iface_w {α : Type} [Inhabited α] (T : TypeId) (rv : Value) (gl gs : Nat) (rL : Reaches Try.prog T rv "Less" gl) (rS : Reaches Try.prog T rv "Swap" gs) (enc : α → Value) (lt : α → α → Bool) (blk off a b : Nat) (d : Array α) (w : World) (hless : LessM Try.prog gl rv enc lt blk off d.size w) (hswap : SwapM Try.prog gs rv enc blk off d.size) (hH : Holds enc w blk off d) (hab : a ≤ b) (hb : b ≤ d.size) (hsz : d.size < 4611686018427387904) :
    Calls Try.prog 45 #[.iface T rv, .int .i64 a, .int .i64 b] w fun e w' => e = .returned (.tuple #[]) ∧ ∃ n os, w' = sortWorld enc w blk off n (Sort.insertionSort lt d a b) os := Any.insertionSort_iface_w Try.laysGt33 T rv gl gs rL rS enc lt blk off a b d w hless hswap hH hab hb hsz
def Try.laysGt37_ren : Go.Shelf.Ren := ⟨fun | 37 => 49 | n => n, fun | 45 => 66 | 3 => 3 | 4 => 4 | 0 => 0 | 43 => 67 | 26 => 91 | 38 => 99 | n => n, fun | n => n⟩
theorem Try.laysGt37 : Go.Proofs.LaysGt.n37 Try.prog Try.laysGt37_ren := {
  mixed := by kernel_rfl
  f37 := Try.func49.trans (congrArg some (by kernel_rfl))
  t0 := Try.underlying0
  a0 := Try.isAgg0
  z0 := Try.sizeOf0
  v0 := Try.zeroValue0
  i0 := by kernel_rfl
  t3 := Try.underlying3
  a3 := Try.isAgg3
  z3 := Try.sizeOf3
  v3 := Try.zeroValue3
  i3 := by kernel_rfl
  t4 := Try.underlying4
  a4 := Try.isAgg4
  z4 := Try.sizeOf4
  v4 := Try.zeroValue4
  i4 := by kernel_rfl
  t26 := Try.underlying91
  a26 := Try.isAgg91
  z26 := Try.sizeOf91
  v26 := Try.zeroValue91
  i26 := by kernel_rfl
  t38 := Try.underlying99
  a38 := Try.isAgg99
  z38 := Try.sizeOf99
  v38 := Try.zeroValue99
  i38 := by kernel_rfl
  t43 := Try.underlying67
  a43 := Try.isAgg67
  z43 := Try.sizeOf67
  v43 := Try.zeroValue67
  i43 := by kernel_rfl
  t45 := Try.underlying66
  a45 := Try.isAgg66
  z45 := Try.sizeOf66
  v45 := Try.zeroValue66
  i45 := by kernel_rfl }
open Go.RowKit Go.Lib Go.Sort in
theorem Try.reverseRange_iface {α : Type} [Inhabited α] (T : TypeId) (rv : Value) (gs : Nat) (rS : Reaches Try.prog T rv "Swap" gs) (enc : α → Value) (blk off a b : Nat) (d : Array α) (w : World) (hswap : SwapM Try.prog gs rv enc blk off d.size) (hH : Holds enc w blk off d) (hab : a ≤ b) (hb : b ≤ d.size) (hsz : d.size < 4611686018427387904) :
    Calls Try.prog 49 #[.iface T rv, .int .i64 a, .int .i64 b] w fun e w' => e = .returned (.tuple #[]) ∧ ∃ n, w' = putRow enc (Sort.ahead w n) blk off (reverseRange d a b) := Any.reverseRange_iface Try.laysGt37 T rv gs rS enc blk off a b d w hswap hH hab hb hsz
open Go.RowKit Go.Lib Go.Sort in
theorem Try.reverseRange_iface_w {α : Type} [Inhabited α] (T : TypeId) (rv : Value) (gs : Nat) (rS : Reaches Try.prog T rv "Swap" gs) (enc : α → Value) (blk off a b : Nat) (d : Array α) (w : World) (hswap : SwapM Try.prog gs rv enc blk off d.size) (hH : Holds enc w blk off d) (hab : a ≤ b) (hb : b ≤ d.size) (hsz : d.size < 4611686018427387904) :
    Calls Try.prog 49 #[.iface T rv, .int .i64 a, .int .i64 b] w fun e w' => e = .returned (.tuple #[]) ∧ ∃ n os, w' = sortWorld enc w blk off n (reverseRange d a b) os := Any.reverseRange_iface_w Try.laysGt37 T rv gs rS enc blk off a b d w hswap hH hab hb hsz
def Try.laysGt50_ren : Go.Shelf.Ren := ⟨fun | 50 => 60 | n => n, fun | 45 => 66 | 3 => 3 | 71 => 104 | 4 => 4 | 0 => 0 | 43 => 67 | 26 => 91 | 38 => 99 | n => n, fun | n => n⟩
theorem Try.laysGt50 : Go.Proofs.LaysGt.n50 Try.prog Try.laysGt50_ren := {
  mixed := by kernel_rfl
  f50 := Try.func60.trans (congrArg some (by kernel_rfl))
  t0 := Try.underlying0
  a0 := Try.isAgg0
  z0 := Try.sizeOf0
  v0 := Try.zeroValue0
  i0 := by kernel_rfl
  t3 := Try.underlying3
  a3 := Try.isAgg3
  z3 := Try.sizeOf3
  v3 := Try.zeroValue3
  i3 := by kernel_rfl
  t4 := Try.underlying4
  a4 := Try.isAgg4
  z4 := Try.sizeOf4
  v4 := Try.zeroValue4
  i4 := by kernel_rfl
  t26 := Try.underlying91
  a26 := Try.isAgg91
  z26 := Try.sizeOf91
  v26 := Try.zeroValue91
  i26 := by kernel_rfl
  t38 := Try.underlying99
  a38 := Try.isAgg99
  z38 := Try.sizeOf99
  v38 := Try.zeroValue99
  i38 := by kernel_rfl
  t43 := Try.underlying67
  a43 := Try.isAgg67
  z43 := Try.sizeOf67
  v43 := Try.zeroValue67
  i43 := by kernel_rfl
  t45 := Try.underlying66
  a45 := Try.isAgg66
  z45 := Try.sizeOf66
  v45 := Try.zeroValue66
  i45 := by kernel_rfl
  t71 := Try.underlying104
  a71 := Try.isAgg104
  z71 := Try.sizeOf104
  v71 := Try.zeroValue104
  i71 := by kernel_rfl }
open Go.RowKit Go.Lib Go.Sort in
theorem Try.order2_iface {α : Type} [Inhabited α] (T : TypeId) (rv : Value) (gl : Nat) (rL : Reaches Try.prog T rv "Less" gl) (enc : α → Value) (lt : α → α → Bool) (blk off : Nat) (w0 W : World) (d : Array α) (a b cb co s : Nat) (hL : LessM Try.prog gl rv enc lt blk off d.size w0) (hW : SW enc w0 blk off d W) (ha : a < d.size) (hb : b < d.size) (hS : Holds (Value.int .i64) W cb co (one s)) (hs : s < 4611686018427387904) :
    Calls Try.prog 60 #[.iface T rv, .int .i64 a, .int .i64 b, .pointer (some ⟨cb, co, none⟩)] W fun e w' =>
      e = .returned (.tuple #[.int .i64 (order2 lt d a b s).1, .int .i64 (order2 lt d a b s).2.1]) ∧ ∃ n os, w' = sortWorld (Value.int .i64) W cb co n (one (order2 lt d a b s).2.2) os := Any.order2_iface Try.laysGt50 T rv gl rL enc lt blk off w0 W d a b cb co s hL hW ha hb hS hs
def Try.laysGt47_ren : Go.Shelf.Ren := ⟨fun | 47 => 59 | 50 => 60 | n => n, fun | 45 => 66 | 3 => 3 | 71 => 104 | 74 => 107 | 4 => 4 | 0 => 0 | 43 => 67 | 26 => 91 | 38 => 99 | n => n, fun | n => n⟩
theorem Try.laysGt47 : Go.Proofs.LaysGt.n47 Try.prog Try.laysGt47_ren := {
  mixed := by kernel_rfl
  f47 := Try.func59.trans (congrArg some (by kernel_rfl))
  f50 := Try.func60.trans (congrArg some (by kernel_rfl))
  t0 := Try.underlying0
  a0 := Try.isAgg0
  z0 := Try.sizeOf0
  v0 := Try.zeroValue0
  i0 := by kernel_rfl
  t3 := Try.underlying3
  a3 := Try.isAgg3
  z3 := Try.sizeOf3
  v3 := Try.zeroValue3
  i3 := by kernel_rfl
  t4 := Try.underlying4
  a4 := Try.isAgg4
  z4 := Try.sizeOf4
  v4 := Try.zeroValue4
  i4 := by kernel_rfl
  t26 := Try.underlying91
  a26 := Try.isAgg91
  z26 := Try.sizeOf91
  v26 := Try.zeroValue91
  i26 := by kernel_rfl
  t38 := Try.underlying99
  a38 := Try.isAgg99
  z38 := Try.sizeOf99
  v38 := Try.zeroValue99
  i38 := by kernel_rfl
  t43 := Try.underlying67
  a43 := Try.isAgg67
  z43 := Try.sizeOf67
  v43 := Try.zeroValue67
  i43 := by kernel_rfl
  t45 := Try.underlying66
  a45 := Try.isAgg66
  z45 := Try.sizeOf66
  v45 := Try.zeroValue66
  i45 := by kernel_rfl
  t71 := Try.underlying104
  a71 := Try.isAgg104
  z71 := Try.sizeOf104
  v71 := Try.zeroValue104
  i71 := by kernel_rfl
  t74 := Try.underlying107
  a74 := Try.isAgg107
  z74 := Try.sizeOf107
  v74 := Try.zeroValue107
  i74 := by kernel_rfl }
open Go.RowKit Go.Lib Go.Sort in
theorem Try.median_iface {α : Type} [Inhabited α] (T : TypeId) (rv : Value) (gl : Nat) (rL : Reaches Try.prog T rv "Less" gl) (enc : α → Value) (lt : α → α → Bool) (blk off : Nat) (w0 W : World) (d : Array α) (a b c cb co s : Nat) (hL : LessM Try.prog gl rv enc lt blk off d.size w0) (hW : SW enc w0 blk off d W) (ha : a < d.size) (hb : b < d.size) (hc : c < d.size) (hS : Holds (Value.int .i64) W cb co (one s)) (hcb0 : w0.heap.size ≤ cb) (hcb : cb < W.heap.size) (hs : s + 3 < 4611686018427387904) :
    Calls Try.prog 59 #[.iface T rv, .int .i64 a, .int .i64 b, .int .i64 c, .pointer (some ⟨cb, co, none⟩)] W fun e w' =>
      e = .returned (.int .i64 (median lt d a b c s).1) ∧ ∃ n os, w' = sortWorld (Value.int .i64) W cb co n (one (median lt d a b c s).2) os := Any.median_iface Try.laysGt47 T rv gl rL enc lt blk off w0 W d a b c cb co s hL hW ha hb hc hS hcb0 hcb hs
def Try.laysGt46_ren : Go.Shelf.Ren := ⟨fun | 46 => 58 | 47 => 59 | 50 => 60 | n => n, fun | 45 => 66 | 3 => 3 | 71 => 104 | 74 => 107 | 4 => 4 | 0 => 0 | 43 => 67 | 26 => 91 | 38 => 99 | n => n, fun | n => n⟩
theorem Try.laysGt46 : Go.Proofs.LaysGt.n46 Try.prog Try.laysGt46_ren := {
  mixed := by kernel_rfl
  f46 := Try.func58.trans (congrArg some (by kernel_rfl))
  f47 := Try.func59.trans (congrArg some (by kernel_rfl))
  f50 := Try.func60.trans (congrArg some (by kernel_rfl))
  t0 := Try.underlying0
  a0 := Try.isAgg0
  z0 := Try.sizeOf0
  v0 := Try.zeroValue0
  i0 := by kernel_rfl
  t3 := Try.underlying3
  a3 := Try.isAgg3
  z3 := Try.sizeOf3
  v3 := Try.zeroValue3
  i3 := by kernel_rfl
  t4 := Try.underlying4
  a4 := Try.isAgg4
  z4 := Try.sizeOf4
  v4 := Try.zeroValue4
  i4 := by kernel_rfl
  t26 := Try.underlying91
  a26 := Try.isAgg91
  z26 := Try.sizeOf91
  v26 := Try.zeroValue91
  i26 := by kernel_rfl
  t38 := Try.underlying99
  a38 := Try.isAgg99
  z38 := Try.sizeOf99
  v38 := Try.zeroValue99
  i38 := by kernel_rfl
  t43 := Try.underlying67
  a43 := Try.isAgg67
  z43 := Try.sizeOf67
  v43 := Try.zeroValue67
  i43 := by kernel_rfl
  t45 := Try.underlying66
  a45 := Try.isAgg66
  z45 := Try.sizeOf66
  v45 := Try.zeroValue66
  i45 := by kernel_rfl
  t71 := Try.underlying104
  a71 := Try.isAgg104
  z71 := Try.sizeOf104
  v71 := Try.zeroValue104
  i71 := by kernel_rfl
  t74 := Try.underlying107
  a74 := Try.isAgg107
  z74 := Try.sizeOf107
  v74 := Try.zeroValue107
  i74 := by kernel_rfl }
open Go.RowKit Go.Lib Go.Sort in
theorem Try.medianAdjacent_iface {α : Type} [Inhabited α] (T : TypeId) (rv : Value) (gl : Nat) (rL : Reaches Try.prog T rv "Less" gl) (enc : α → Value) (lt : α → α → Bool) (blk off : Nat) (w0 W : World) (d : Array α) (a cb co s : Nat) (hL : LessM Try.prog gl rv enc lt blk off d.size w0) (hW : SW enc w0 blk off d W) (ha1 : 1 ≤ a) (ha2 : a + 1 < d.size) (hsz : d.size < 4611686018427387904) (hS : Holds (Value.int .i64) W cb co (one s)) (hcb0 : w0.heap.size ≤ cb) (hcb : cb < W.heap.size) (hs : s + 3 < 4611686018427387904) :
    Calls Try.prog 58 #[.iface T rv, .int .i64 a, .pointer (some ⟨cb, co, none⟩)] W fun e w' =>
      e = .returned (.int .i64 (medianAdjacent lt d a s).1) ∧ ∃ n os, w' = sortWorld (Value.int .i64) W cb co n (one (medianAdjacent lt d a s).2) os := Any.medianAdjacent_iface Try.laysGt46 T rv gl rL enc lt blk off w0 W d a cb co s hL hW ha1 ha2 hsz hS hcb0 hcb hs
def Try.laysGt36_ren : Go.Shelf.Ren := ⟨fun | 36 => 48 | 46 => 58 | 47 => 59 | 50 => 60 | n => n, fun | 45 => 66 | 3 => 3 | 60 => 87 | 0 => 0 | 4 => 4 | 71 => 104 | 74 => 107 | 43 => 67 | 26 => 91 | 38 => 99 | n => n, fun | n => n⟩
theorem Try.laysGt36 : Go.Proofs.LaysGt.n36 Try.prog Try.laysGt36_ren := {
  mixed := by kernel_rfl
  f36 := Try.func48.trans (congrArg some (by kernel_rfl))
  f46 := Try.func58.trans (congrArg some (by kernel_rfl))
  f47 := Try.func59.trans (congrArg some (by kernel_rfl))
  f50 := Try.func60.trans (congrArg some (by kernel_rfl))
  t0 := Try.underlying0
  a0 := Try.isAgg0
  z0 := Try.sizeOf0
  v0 := Try.zeroValue0
  i0 := by kernel_rfl
  t3 := Try.underlying3
  a3 := Try.isAgg3
  z3 := Try.sizeOf3
  v3 := Try.zeroValue3
  i3 := by kernel_rfl
  t4 := Try.underlying4
  a4 := Try.isAgg4
  z4 := Try.sizeOf4
  v4 := Try.zeroValue4
  i4 := by kernel_rfl
  t26 := Try.underlying91
  a26 := Try.isAgg91
  z26 := Try.sizeOf91
  v26 := Try.zeroValue91
  i26 := by kernel_rfl
  t38 := Try.underlying99
  a38 := Try.isAgg99
  z38 := Try.sizeOf99
  v38 := Try.zeroValue99
  i38 := by kernel_rfl
  t43 := Try.underlying67
  a43 := Try.isAgg67
  z43 := Try.sizeOf67
  v43 := Try.zeroValue67
  i43 := by kernel_rfl
  t45 := Try.underlying66
  a45 := Try.isAgg66
  z45 := Try.sizeOf66
  v45 := Try.zeroValue66
  i45 := by kernel_rfl
  t60 := Try.underlying87
  a60 := Try.isAgg87
  z60 := Try.sizeOf87
  v60 := Try.zeroValue87
  i60 := by kernel_rfl
  t71 := Try.underlying104
  a71 := Try.isAgg104
  z71 := Try.sizeOf104
  v71 := Try.zeroValue104
  i71 := by kernel_rfl
  t74 := Try.underlying107
  a74 := Try.isAgg107
  z74 := Try.sizeOf107
  v74 := Try.zeroValue107
  i74 := by kernel_rfl }
open Go.RowKit Go.Lib Go.Sort in
/-- sort.choosePivot (zsortinterface.go): THE LIBRARY's OWN TEXT COMPUTES 'Sort.choosePivot lt d a b'; the row is not turned; W is grown. (Derived/Shelf/GgSortFunc/Pivot.lean's text, turned by program.) (LAID: no walk: one application.) -/
theorem Try.choosePivot_iface {α : Type} [Inhabited α] (T : TypeId) (rv : Value) (gl : Nat) (rL : Reaches Try.prog T rv "Less" gl) (enc : α → Value) (lt : α → α → Bool) (blk off a b : Nat) (W : World) (d : Array α) (hless : LessM Try.prog gl rv enc lt blk off d.size W) (hH : Holds enc W blk off d) (hab : a < b) (hb : b ≤ d.size) (hsz : d.size < 4611686018427387904) :
    Calls Try.prog 48 #[.iface T rv, .int .i64 a, .int .i64 b] W fun e w' =>
      e = .returned (.tuple #[.int .i64 (choosePivot lt d a b).1, .int .i64 (hintCode (choosePivot lt d a b).2)]) ∧ ∃ n os, w' = grow (Sort.ahead W n) os := Any.choosePivot_iface Try.laysGt36 T rv gl rL enc lt blk off a b W d hless hH hab hb hsz
def Try.laysGt39_ren : Go.Shelf.Ren := ⟨fun | 39 => 51 | n => n, fun | 45 => 66 | 3 => 3 | 0 => 0 | 4 => 4 | 43 => 67 | 26 => 91 | 38 => 99 | n => n, fun | n => n⟩
theorem Try.laysGt39 : Go.Proofs.LaysGt.n39 Try.prog Try.laysGt39_ren := {
  mixed := by kernel_rfl
  f39 := Try.func51.trans (congrArg some (by kernel_rfl))
  t0 := Try.underlying0
  a0 := Try.isAgg0
  z0 := Try.sizeOf0
  v0 := Try.zeroValue0
  i0 := by kernel_rfl
  t3 := Try.underlying3
  a3 := Try.isAgg3
  z3 := Try.sizeOf3
  v3 := Try.zeroValue3
  i3 := by kernel_rfl
  t4 := Try.underlying4
  a4 := Try.isAgg4
  z4 := Try.sizeOf4
  v4 := Try.zeroValue4
  i4 := by kernel_rfl
  t26 := Try.underlying91
  a26 := Try.isAgg91
  z26 := Try.sizeOf91
  v26 := Try.zeroValue91
  i26 := by kernel_rfl
  t38 := Try.underlying99
  a38 := Try.isAgg99
  z38 := Try.sizeOf99
  v38 := Try.zeroValue99
  i38 := by kernel_rfl
  t43 := Try.underlying67
  a43 := Try.isAgg67
  z43 := Try.sizeOf67
  v43 := Try.zeroValue67
  i43 := by kernel_rfl
  t45 := Try.underlying66
  a45 := Try.isAgg66
  z45 := Try.sizeOf66
  v45 := Try.zeroValue66
  i45 := by kernel_rfl }
open Go.RowKit Go.Lib Go.Sort in
theorem Try.partitionEqual_iface {α : Type} [Inhabited α] (T : TypeId) (rv : Value) (gl gs : Nat) (rL : Reaches Try.prog T rv "Less" gl) (rS : Reaches Try.prog T rv "Swap" gs) (enc : α → Value) (lt : α → α → Bool) (blk off a b pivot : Nat) (d : Array α) (W : World) (hless : LessM Try.prog gl rv enc lt blk off d.size W) (hswap : SwapM Try.prog gs rv enc blk off d.size) (hH : Holds enc W blk off d) (hap : a ≤ pivot) (hpb : pivot < b) (hb : b ≤ d.size) (hsz : d.size < 4611686018427387904) :
    Calls Try.prog 51 #[.iface T rv, .int .i64 a, .int .i64 b, .int .i64 pivot] W fun e w' =>
      e = .returned (.int .i64 (Sort.partitionEqual lt d a b pivot).1) ∧ ∃ n, w' = (putRow enc W blk off (Sort.partitionEqual lt d a b pivot).2).drewN n := Any.partitionEqual_iface Try.laysGt39 T rv gl gs rL rS enc lt blk off a b pivot d W hless hswap hH hap hpb hb hsz
def Try.laysGt40_ren : Go.Shelf.Ren := ⟨fun | 40 => 52 | n => n, fun | 45 => 66 | 3 => 3 | 4 => 4 | 0 => 0 | 43 => 67 | 26 => 91 | 38 => 99 | n => n, fun | n => n⟩
theorem Try.laysGt40 : Go.Proofs.LaysGt.n40 Try.prog Try.laysGt40_ren := {
  mixed := by kernel_rfl
  f40 := Try.func52.trans (congrArg some (by kernel_rfl))
  t0 := Try.underlying0
  a0 := Try.isAgg0
  z0 := Try.sizeOf0
  v0 := Try.zeroValue0
  i0 := by kernel_rfl
  t3 := Try.underlying3
  a3 := Try.isAgg3
  z3 := Try.sizeOf3
  v3 := Try.zeroValue3
  i3 := by kernel_rfl
  t4 := Try.underlying4
  a4 := Try.isAgg4
  z4 := Try.sizeOf4
  v4 := Try.zeroValue4
  i4 := by kernel_rfl
  t26 := Try.underlying91
  a26 := Try.isAgg91
  z26 := Try.sizeOf91
  v26 := Try.zeroValue91
  i26 := by kernel_rfl
  t38 := Try.underlying99
  a38 := Try.isAgg99
  z38 := Try.sizeOf99
  v38 := Try.zeroValue99
  i38 := by kernel_rfl
  t43 := Try.underlying67
  a43 := Try.isAgg67
  z43 := Try.sizeOf67
  v43 := Try.zeroValue67
  i43 := by kernel_rfl
  t45 := Try.underlying66
  a45 := Try.isAgg66
  z45 := Try.sizeOf66
  v45 := Try.zeroValue66
  i45 := by kernel_rfl }
open Go.RowKit Go.Lib Go.Sort in
theorem Try.partition_iface {α : Type} [Inhabited α] (T : TypeId) (rv : Value) (gl gs : Nat) (rL : Reaches Try.prog T rv "Less" gl) (rS : Reaches Try.prog T rv "Swap" gs) (enc : α → Value) (lt : α → α → Bool) (blk off a b pivot : Nat) (d : Array α) (W : World) (hless : LessM Try.prog gl rv enc lt blk off d.size W) (hswap : SwapM Try.prog gs rv enc blk off d.size) (hH : Holds enc W blk off d) (hap : a ≤ pivot) (hpb : pivot < b) (hb : b ≤ d.size) (hsz : d.size < 4611686018427387904) :
    Calls Try.prog 52 #[.iface T rv, .int .i64 a, .int .i64 b, .int .i64 pivot] W fun e w' =>
      e = .returned (.tuple #[.int .i64 (Sort.partition lt d a b pivot).1, .bool (Sort.partition lt d a b pivot).2.1]) ∧ ∃ n, w' = (putRow enc W blk off (Sort.partition lt d a b pivot).2.2).drewN n := Any.partition_iface Try.laysGt40 T rv gl gs rL rS enc lt blk off a b pivot d W hless hswap hH hap hpb hb hsz
open Go.RowKit Go.Lib Go.Sort in
theorem Try.partitionEqual_iface_w {α : Type} [Inhabited α] (T : TypeId) (rv : Value) (gl gs : Nat) (rL : Reaches Try.prog T rv "Less" gl) (rS : Reaches Try.prog T rv "Swap" gs) (enc : α → Value) (lt : α → α → Bool) (blk off a b pivot : Nat) (d : Array α) (W : World) (hless : LessM Try.prog gl rv enc lt blk off d.size W) (hswap : SwapM Try.prog gs rv enc blk off d.size) (hH : Holds enc W blk off d) (hap : a ≤ pivot) (hpb : pivot < b) (hb : b ≤ d.size) (hsz : d.size < 4611686018427387904) :
    Calls Try.prog 51 #[.iface T rv, .int .i64 a, .int .i64 b, .int .i64 pivot] W fun e w' => e = .returned (.int .i64 (Sort.partitionEqual lt d a b pivot).1) ∧ ∃ n os, w' = sortWorld enc W blk off n (Sort.partitionEqual lt d a b pivot).2 os := Any.partitionEqual_iface_w Try.laysGt39 T rv gl gs rL rS enc lt blk off a b pivot d W hless hswap hH hap hpb hb hsz
open Go.RowKit Go.Lib Go.Sort in
theorem Try.partition_iface_w {α : Type} [Inhabited α] (T : TypeId) (rv : Value) (gl gs : Nat) (rL : Reaches Try.prog T rv "Less" gl) (rS : Reaches Try.prog T rv "Swap" gs) (enc : α → Value) (lt : α → α → Bool) (blk off a b pivot : Nat) (d : Array α) (W : World) (hless : LessM Try.prog gl rv enc lt blk off d.size W) (hswap : SwapM Try.prog gs rv enc blk off d.size) (hH : Holds enc W blk off d) (hap : a ≤ pivot) (hpb : pivot < b) (hb : b ≤ d.size) (hsz : d.size < 4611686018427387904) :
    Calls Try.prog 52 #[.iface T rv, .int .i64 a, .int .i64 b, .int .i64 pivot] W fun e w' => e = .returned (.tuple #[.int .i64 (Sort.partition lt d a b pivot).1, .bool (Sort.partition lt d a b pivot).2.1]) ∧ ∃ n os, w' = sortWorld enc W blk off n (Sort.partition lt d a b pivot).2.2 os := Any.partition_iface_w Try.laysGt40 T rv gl gs rL rS enc lt blk off a b pivot d W hless hswap hH hap hpb hb hsz
def Try.laysGt18_ren : Go.Shelf.Ren := ⟨fun | 18 => 32 | 33 => 45 | 34 => 46 | 35 => 47 | 36 => 48 | 37 => 49 | 38 => 50 | 39 => 51 | 40 => 52 | 43 => 55 | 44 => 56 | 45 => 57 | 46 => 58 | 47 => 59 | 17 => 31 | 50 => 60 | 31 => 43 | 32 => 44 | n => n, fun | 45 => 66 | 3 => 3 | 4 => 4 | 0 => 0 | 61 => 88 | 60 => 87 | 65 => 93 | 67 => 100 | 47 => 69 | 58 => 54 | 71 => 104 | 73 => 106 | 74 => 107 | 56 => 84 | 5 => 5 | 9 => 9 | 43 => 67 | 26 => 91 | 38 => 99 | n => n, fun | n => n⟩
theorem Try.laysGt18 : Go.Proofs.LaysGt.n18 Try.prog Try.laysGt18_ren := {
  mixed := by kernel_rfl
  f17 := Try.func31.trans (congrArg some (by kernel_rfl))
  f18 := Try.func32.trans (congrArg some (by kernel_rfl))
  f31 := Try.func43.trans (congrArg some (by kernel_rfl))
  f32 := Try.func44.trans (congrArg some (by kernel_rfl))
  f33 := Try.func45.trans (congrArg some (by kernel_rfl))
  f34 := Try.func46.trans (congrArg some (by kernel_rfl))
  f35 := Try.func47.trans (congrArg some (by kernel_rfl))
  f36 := Try.func48.trans (congrArg some (by kernel_rfl))
  f37 := Try.func49.trans (congrArg some (by kernel_rfl))
  f38 := Try.func50.trans (congrArg some (by kernel_rfl))
  f39 := Try.func51.trans (congrArg some (by kernel_rfl))
  f40 := Try.func52.trans (congrArg some (by kernel_rfl))
  f43 := Try.func55.trans (congrArg some (by kernel_rfl))
  f44 := Try.func56.trans (congrArg some (by kernel_rfl))
  f45 := Try.func57.trans (congrArg some (by kernel_rfl))
  f46 := Try.func58.trans (congrArg some (by kernel_rfl))
  f47 := Try.func59.trans (congrArg some (by kernel_rfl))
  f50 := Try.func60.trans (congrArg some (by kernel_rfl))
  t0 := Try.underlying0
  a0 := Try.isAgg0
  z0 := Try.sizeOf0
  v0 := Try.zeroValue0
  i0 := by kernel_rfl
  t3 := Try.underlying3
  a3 := Try.isAgg3
  z3 := Try.sizeOf3
  v3 := Try.zeroValue3
  i3 := by kernel_rfl
  t4 := Try.underlying4
  a4 := Try.isAgg4
  z4 := Try.sizeOf4
  v4 := Try.zeroValue4
  i4 := by kernel_rfl
  t5 := Try.underlying5
  a5 := Try.isAgg5
  z5 := Try.sizeOf5
  v5 := Try.zeroValue5
  i5 := by kernel_rfl
  t9 := Try.underlying9
  a9 := Try.isAgg9
  z9 := Try.sizeOf9
  v9 := Try.zeroValue9
  i9 := by kernel_rfl
  t26 := Try.underlying91
  a26 := Try.isAgg91
  z26 := Try.sizeOf91
  v26 := Try.zeroValue91
  i26 := by kernel_rfl
  t38 := Try.underlying99
  a38 := Try.isAgg99
  z38 := Try.sizeOf99
  v38 := Try.zeroValue99
  i38 := by kernel_rfl
  t43 := Try.underlying67
  a43 := Try.isAgg67
  z43 := Try.sizeOf67
  v43 := Try.zeroValue67
  i43 := by kernel_rfl
  t45 := Try.underlying66
  a45 := Try.isAgg66
  z45 := Try.sizeOf66
  v45 := Try.zeroValue66
  i45 := by kernel_rfl
  t47 := Try.underlying69
  a47 := Try.isAgg69
  z47 := Try.sizeOf69
  v47 := Try.zeroValue69
  i47 := by kernel_rfl
  t56 := Try.underlying84
  a56 := Try.isAgg84
  z56 := Try.sizeOf84
  v56 := Try.zeroValue84
  i56 := by kernel_rfl
  t58 := Try.underlying54
  a58 := Try.isAgg54
  z58 := Try.sizeOf54
  v58 := Try.zeroValue54
  i58 := by kernel_rfl
  t60 := Try.underlying87
  a60 := Try.isAgg87
  z60 := Try.sizeOf87
  v60 := Try.zeroValue87
  i60 := by kernel_rfl
  t61 := Try.underlying88
  a61 := Try.isAgg88
  z61 := Try.sizeOf88
  v61 := Try.zeroValue88
  i61 := by kernel_rfl
  t65 := Try.underlying93
  a65 := Try.isAgg93
  z65 := Try.sizeOf93
  v65 := Try.zeroValue93
  i65 := by kernel_rfl
  t67 := Try.underlying100
  a67 := Try.isAgg100
  z67 := Try.sizeOf100
  v67 := Try.zeroValue100
  i67 := by kernel_rfl
  t71 := Try.underlying104
  a71 := Try.isAgg104
  z71 := Try.sizeOf104
  v71 := Try.zeroValue104
  i71 := by kernel_rfl
  t73 := Try.underlying106
  a73 := Try.isAgg106
  z73 := Try.sizeOf106
  v73 := Try.zeroValue106
  i73 := by kernel_rfl
  t74 := Try.underlying107
  a74 := Try.isAgg107
  z74 := Try.sizeOf107
  v74 := Try.zeroValue107
  i74 := by kernel_rfl }
open Go.RowKit Go.Lib Go.Sort in
theorem Try.pdqsort_iface {α : Type} [Inhabited α] (T : TypeId) (rv : Value) (gl gs : Nat) (rL : Reaches Try.prog T rv "Less" gl) (rS : Reaches Try.prog T rv "Swap" gs) (enc : α → Value) (lt : α → α → Bool) (hO : SWO lt) (C : IfaceThree Try.prog Try.laysGt18_ren T rv gl gs enc lt) :
    ∀ (N blk off a b limit : Nat) (d : Array α) (w : World), b - a < N → LessM Try.prog gl rv enc lt blk off d.size w → SwapM Try.prog gs rv enc blk off d.size → Holds enc w blk off d → blk < w.heap.size → a ≤ b → b ≤ d.size → d.size < 4611686018427387904 → limit < 4611686018427387904 → Below lt a b d →
    Calls Try.prog 32 #[.iface T rv, .int .i64 a, .int .i64 b, .int .i64 limit] w fun e w' => e = .returned (.tuple #[]) ∧ At enc w blk off (pdq lt d a b limit true true) w' := Any.pdqsort_iface Try.laysGt18 T rv gl gs rL rS enc lt hO C
def Try.laysGt11_ren : Go.Shelf.Ren := ⟨fun | 11 => 24 | 17 => 31 | 18 => 32 | 31 => 43 | 32 => 44 | 33 => 45 | 34 => 46 | 35 => 47 | 36 => 48 | 37 => 49 | 38 => 50 | 39 => 51 | 40 => 52 | 43 => 55 | 44 => 56 | 45 => 57 | 46 => 58 | 47 => 59 | 50 => 60 | n => n, fun | 45 => 66 | 3 => 3 | 4 => 4 | 47 => 69 | 0 => 0 | 56 => 84 | 58 => 54 | 61 => 88 | 60 => 87 | 65 => 93 | 5 => 5 | 9 => 9 | 67 => 100 | 71 => 104 | 73 => 106 | 74 => 107 | 43 => 67 | 26 => 91 | 38 => 99 | n => n, fun | n => n⟩
theorem Try.laysGt11 : Go.Proofs.LaysGt.n11 Try.prog Try.laysGt11_ren := {
  mixed := by kernel_rfl
  f11 := Try.func24.trans (congrArg some (by kernel_rfl))
  f17 := Try.func31.trans (congrArg some (by kernel_rfl))
  f18 := Try.func32.trans (congrArg some (by kernel_rfl))
  f31 := Try.func43.trans (congrArg some (by kernel_rfl))
  f32 := Try.func44.trans (congrArg some (by kernel_rfl))
  f33 := Try.func45.trans (congrArg some (by kernel_rfl))
  f34 := Try.func46.trans (congrArg some (by kernel_rfl))
  f35 := Try.func47.trans (congrArg some (by kernel_rfl))
  f36 := Try.func48.trans (congrArg some (by kernel_rfl))
  f37 := Try.func49.trans (congrArg some (by kernel_rfl))
  f38 := Try.func50.trans (congrArg some (by kernel_rfl))
  f39 := Try.func51.trans (congrArg some (by kernel_rfl))
  f40 := Try.func52.trans (congrArg some (by kernel_rfl))
  f43 := Try.func55.trans (congrArg some (by kernel_rfl))
  f44 := Try.func56.trans (congrArg some (by kernel_rfl))
  f45 := Try.func57.trans (congrArg some (by kernel_rfl))
  f46 := Try.func58.trans (congrArg some (by kernel_rfl))
  f47 := Try.func59.trans (congrArg some (by kernel_rfl))
  f50 := Try.func60.trans (congrArg some (by kernel_rfl))
  t0 := Try.underlying0
  a0 := Try.isAgg0
  z0 := Try.sizeOf0
  v0 := Try.zeroValue0
  i0 := by kernel_rfl
  t3 := Try.underlying3
  a3 := Try.isAgg3
  z3 := Try.sizeOf3
  v3 := Try.zeroValue3
  i3 := by kernel_rfl
  t4 := Try.underlying4
  a4 := Try.isAgg4
  z4 := Try.sizeOf4
  v4 := Try.zeroValue4
  i4 := by kernel_rfl
  t5 := Try.underlying5
  a5 := Try.isAgg5
  z5 := Try.sizeOf5
  v5 := Try.zeroValue5
  i5 := by kernel_rfl
  t9 := Try.underlying9
  a9 := Try.isAgg9
  z9 := Try.sizeOf9
  v9 := Try.zeroValue9
  i9 := by kernel_rfl
  t26 := Try.underlying91
  a26 := Try.isAgg91
  z26 := Try.sizeOf91
  v26 := Try.zeroValue91
  i26 := by kernel_rfl
  t38 := Try.underlying99
  a38 := Try.isAgg99
  z38 := Try.sizeOf99
  v38 := Try.zeroValue99
  i38 := by kernel_rfl
  t43 := Try.underlying67
  a43 := Try.isAgg67
  z43 := Try.sizeOf67
  v43 := Try.zeroValue67
  i43 := by kernel_rfl
  t45 := Try.underlying66
  a45 := Try.isAgg66
  z45 := Try.sizeOf66
  v45 := Try.zeroValue66
  i45 := by kernel_rfl
  t47 := Try.underlying69
  a47 := Try.isAgg69
  z47 := Try.sizeOf69
  v47 := Try.zeroValue69
  i47 := by kernel_rfl
  t56 := Try.underlying84
  a56 := Try.isAgg84
  z56 := Try.sizeOf84
  v56 := Try.zeroValue84
  i56 := by kernel_rfl
  t58 := Try.underlying54
  a58 := Try.isAgg54
  z58 := Try.sizeOf54
  v58 := Try.zeroValue54
  i58 := by kernel_rfl
  t60 := Try.underlying87
  a60 := Try.isAgg87
  z60 := Try.sizeOf87
  v60 := Try.zeroValue87
  i60 := by kernel_rfl
  t61 := Try.underlying88
  a61 := Try.isAgg88
  z61 := Try.sizeOf88
  v61 := Try.zeroValue88
  i61 := by kernel_rfl
  t65 := Try.underlying93
  a65 := Try.isAgg93
  z65 := Try.sizeOf93
  v65 := Try.zeroValue93
  i65 := by kernel_rfl
  t67 := Try.underlying100
  a67 := Try.isAgg100
  z67 := Try.sizeOf100
  v67 := Try.zeroValue100
  i67 := by kernel_rfl
  t71 := Try.underlying104
  a71 := Try.isAgg104
  z71 := Try.sizeOf104
  v71 := Try.zeroValue104
  i71 := by kernel_rfl
  t73 := Try.underlying106
  a73 := Try.isAgg106
  z73 := Try.sizeOf106
  v73 := Try.zeroValue106
  i73 := by kernel_rfl
  t74 := Try.underlying107
  a74 := Try.isAgg107
  z74 := Try.sizeOf107
  v74 := Try.zeroValue107
  i74 := by kernel_rfl }
open Go.RowKit Go.Lib Go.Sort in
theorem Try.sort_Sort_tiny {α : Type} [Inhabited α] (T : TypeId) (rv : Value) (gn : Nat) (rN : Reaches Try.prog T rv "Len" gn) (n : Nat) (hn : n ≤ 1) (w : World) (hlen : LenM Try.prog gn rv n w) :
    Calls Try.prog 24 #[.iface T rv] w fun e w' => e = .returned (.tuple #[]) ∧ ∃ q, w' = w.drewN q := Any.sort_Sort_tiny Try.laysGt11 T rv gn rN n hn w hlen
open Go.RowKit Go.Lib Go.Sort in
/-- **sort.Sort: WHAT THE ROW HOLDS, TO THE ELEMENT.** (LAID: no walk: one application.) -/
theorem Try.sort_Sort_eq {α : Type} [Inhabited α] (T : TypeId) (rv : Value) (gn gl gs : Nat) (rN : Reaches Try.prog T rv "Len" gn) (rL : Reaches Try.prog T rv "Less" gl) (rS : Reaches Try.prog T rv "Swap" gs) (enc : α → Value) (lt : α → α → Bool) (hO : SWO lt) (blk off : Nat) (d : Array α) (h2 : 2 ≤ d.size) (hsz : d.size < 4611686018427387904) (w : World) (hlen : LenM Try.prog gn rv d.size w) (hless : LessM Try.prog gl rv enc lt blk off d.size w) (hswap : SwapM Try.prog gs rv enc blk off d.size) (hH : Holds enc w blk off d) (hblk : blk < w.heap.size) :
    Calls Try.prog 24 #[.iface T rv] w fun e w' => e = .returned (.tuple #[]) ∧ ∃ n os, w' = grow (putRow enc (Sort.ahead w n) blk off (pdq lt d 0 d.size (Lib.bitLen d.size) true true)) os := Any.sort_Sort_eq Try.laysGt11 T rv gn gl gs rN rL rS enc lt hO blk off d h2 hsz w hlen hless hswap hH hblk
open Go.RowKit Go.Lib Go.Sort in
/-- **sort.Sort, IN THE DOCUMENTATION's OWN TERMS ("Sort sorts data in ascending order as determined by the Less method. .. The sort is not guaranteed to be stable"): A PERMUTATION OF WHAT THE ROW HELD, SORTED BY 'lt'.** (LAID: no walk: one application.) -/
theorem Try.sort_Sort_sorted {α : Type} [Inhabited α] (T : TypeId) (rv : Value) (gn gl gs : Nat) (rN : Reaches Try.prog T rv "Len" gn) (rL : Reaches Try.prog T rv "Less" gl) (rS : Reaches Try.prog T rv "Swap" gs) (enc : α → Value) (lt : α → α → Bool) (hO : SWO lt) (blk off : Nat) (d : Array α) (h2 : 2 ≤ d.size) (hsz : d.size < 4611686018427387904) (w : World) (hlen : LenM Try.prog gn rv d.size w) (hless : LessM Try.prog gl rv enc lt blk off d.size w) (hswap : SwapM Try.prog gs rv enc blk off d.size) (hH : Holds enc w blk off d) (hblk : blk < w.heap.size) :
    Calls Try.prog 24 #[.iface T rv] w fun e w' => e = .returned (.tuple #[]) ∧ ∃ d' n os, PermIn 0 d.size d d' ∧ SortedIn lt 0 d.size d' ∧ w' = grow (putRow enc (Sort.ahead w n) blk off d') os := Any.sort_Sort_sorted Try.laysGt11 T rv gn gl gs rN rL rS enc lt hO blk off d h2 hsz w hlen hless hswap hH hblk
def Try.laysGg36_ren : Go.Shelf.Ren := ⟨fun | 36 => 57 | n => n, fun | 66 => 106 | 51 => 54 | 0 => 0 | 60 => 100 | 41 => 69 | n => n, fun | n => n⟩
theorem Try.laysGg36 : Go.Proofs.LaysGg.n36 Try.prog Try.laysGg36_ren := {
  mixed := by kernel_rfl
  f36 := Try.func57.trans (congrArg some (by kernel_rfl))
  t0 := Try.underlying0
  a0 := Try.isAgg0
  z0 := Try.sizeOf0
  v0 := Try.zeroValue0
  i0 := by kernel_rfl
  t41 := Try.underlying69
  a41 := Try.isAgg69
  z41 := Try.sizeOf69
  v41 := Try.zeroValue69
  i41 := by kernel_rfl
  t51 := Try.underlying54
  a51 := Try.isAgg54
  z51 := Try.sizeOf54
  v51 := Try.zeroValue54
  i51 := by kernel_rfl
  t60 := Try.underlying100
  a60 := Try.isAgg100
  z60 := Try.sizeOf100
  v60 := Try.zeroValue100
  i60 := by kernel_rfl
  t66 := Try.underlying106
  a66 := Try.isAgg106
  z66 := Try.sizeOf106
  v66 := Try.zeroValue106
  i66 := by kernel_rfl }
open Go.RowKit Go.Lib Go.Sort in
/-- '*r ^= *r << 13; *r ^= *r >> 7; *r ^= *r << 17; return uint64(*r)': the cell holds 'xorNextN X' and that is handed back; three draws; nothing else turns. (LAID: no walk: one application.) -/
theorem Try.xorshift_Next (rb ro X : Nat) (hX : X < 18446744073709551616) (w : World) (hc : w.cell? ⟨rb, ro, none⟩ = some (.int .u64 X)) (hf : w.frozen? ⟨rb, ro, none⟩ = false) :
    Calls Try.prog 57 #[.pointer (some ⟨rb, ro, none⟩)] w fun e w' => e = .returned (.int .u64 (xorNextN X : Nat)) ∧ w' = (w.setCell ⟨rb, ro, none⟩ (.int .u64 (xorNextN X : Nat))).drewN 3 := Any.xorshift_Next Try.laysGg36 rb ro X hX w hc hf
def Try.laysGg35_ren : Go.Shelf.Ren := ⟨fun | 35 => 56 | 13 => 31 | 24 => 43 | 25 => 44 | n => n, fun | 3 => 3 | 41 => 69 | 49 => 84 | 51 => 54 | 4 => 4 | 5 => 5 | 9 => 9 | n => n, fun | n => n⟩
theorem Try.laysGg35 : Go.Proofs.LaysGg.n35 Try.prog Try.laysGg35_ren := {
  mixed := by kernel_rfl
  f13 := Try.func31.trans (congrArg some (by kernel_rfl))
  f24 := Try.func43.trans (congrArg some (by kernel_rfl))
  f25 := Try.func44.trans (congrArg some (by kernel_rfl))
  f35 := Try.func56.trans (congrArg some (by kernel_rfl))
  t3 := Try.underlying3
  a3 := Try.isAgg3
  z3 := Try.sizeOf3
  v3 := Try.zeroValue3
  i3 := by kernel_rfl
  t4 := Try.underlying4
  a4 := Try.isAgg4
  z4 := Try.sizeOf4
  v4 := Try.zeroValue4
  i4 := by kernel_rfl
  t5 := Try.underlying5
  a5 := Try.isAgg5
  z5 := Try.sizeOf5
  v5 := Try.zeroValue5
  i5 := by kernel_rfl
  t9 := Try.underlying9
  a9 := Try.isAgg9
  z9 := Try.sizeOf9
  v9 := Try.zeroValue9
  i9 := by kernel_rfl
  t41 := Try.underlying69
  a41 := Try.isAgg69
  z41 := Try.sizeOf69
  v41 := Try.zeroValue69
  i41 := by kernel_rfl
  t49 := Try.underlying84
  a49 := Try.isAgg84
  z49 := Try.sizeOf84
  v49 := Try.zeroValue84
  i49 := by kernel_rfl
  t51 := Try.underlying54
  a51 := Try.isAgg54
  z51 := Try.sizeOf54
  v51 := Try.zeroValue54
  i51 := by kernel_rfl }
open Go.RowKit Go.Lib Go.Sort in
/-- 'return 1 << bits.Len(uint(length))'. (LAID: no walk: one application.) -/
theorem Try.nextPowerOfTwo (n : Nat) (hn : n < 4611686018427387904) (w : World) :
    Calls Try.prog 56 #[.int .i64 n] w fun e w' => e = .returned (.int .u64 ((1 <<< bitsLen n : Nat) : Int)) ∧ w' = w := Any.nextPowerOfTwo Try.laysGg35 n hn w
def Try.laysGt43_ren : Go.Shelf.Ren := ⟨fun | 43 => 55 | n => n, fun | 45 => 66 | 3 => 3 | 4 => 4 | 0 => 0 | 43 => 67 | 26 => 91 | 38 => 99 | n => n, fun | n => n⟩
theorem Try.laysGt43 : Go.Proofs.LaysGt.n43 Try.prog Try.laysGt43_ren := {
  mixed := by kernel_rfl
  f43 := Try.func55.trans (congrArg some (by kernel_rfl))
  t0 := Try.underlying0
  a0 := Try.isAgg0
  z0 := Try.sizeOf0
  v0 := Try.zeroValue0
  i0 := by kernel_rfl
  t3 := Try.underlying3
  a3 := Try.isAgg3
  z3 := Try.sizeOf3
  v3 := Try.zeroValue3
  i3 := by kernel_rfl
  t4 := Try.underlying4
  a4 := Try.isAgg4
  z4 := Try.sizeOf4
  v4 := Try.zeroValue4
  i4 := by kernel_rfl
  t26 := Try.underlying91
  a26 := Try.isAgg91
  z26 := Try.sizeOf91
  v26 := Try.zeroValue91
  i26 := by kernel_rfl
  t38 := Try.underlying99
  a38 := Try.isAgg99
  z38 := Try.sizeOf99
  v38 := Try.zeroValue99
  i38 := by kernel_rfl
  t43 := Try.underlying67
  a43 := Try.isAgg67
  z43 := Try.sizeOf67
  v43 := Try.zeroValue67
  i43 := by kernel_rfl
  t45 := Try.underlying66
  a45 := Try.isAgg66
  z45 := Try.sizeOf66
  v45 := Try.zeroValue66
  i45 := by kernel_rfl }
open Go.RowKit Go.Lib Go.Sort in
theorem Try.siftDown_iface {α : Type} [Inhabited α] (T : TypeId) (rv : Value) (gl gs : Nat) (rL : Reaches Try.prog T rv "Less" gl) (rS : Reaches Try.prog T rv "Swap" gs) (enc : α → Value) (lt : α → α → Bool) (blk off lo hi first : Nat) (d : Array α) (w : World) (hless : LessM Try.prog gl rv enc lt blk off d.size w) (hswap : SwapM Try.prog gs rv enc blk off d.size) (hH : Holds enc w blk off d) (hlo : lo ≤ hi) (hb : first + hi ≤ d.size) (hsz : d.size < 4611686018427387904) :
    Calls Try.prog 55 #[.iface T rv, .int .i64 lo, .int .i64 hi, .int .i64 first] w fun e w' =>
      e = .returned (.tuple #[]) ∧ ∃ n, w' = putRow enc (Sort.ahead w n) blk off (siftDown lt hi first lo d) := Any.siftDown_iface Try.laysGt43 T rv gl gs rL rS enc lt blk off lo hi first d w hless hswap hH hlo hb hsz
open Go.RowKit Go.Lib Go.Sort in
/-- sort.siftDown, from a world to a 'sortWorld' of it. (LAID: no walk: one application.) -/
theorem Try.siftDown_iface_w {α : Type} [Inhabited α] (T : TypeId) (rv : Value) (gl gs : Nat) (rL : Reaches Try.prog T rv "Less" gl) (rS : Reaches Try.prog T rv "Swap" gs) (enc : α → Value) (lt : α → α → Bool) (blk off lo hi first : Nat) (d : Array α) (w : World) (hless : LessM Try.prog gl rv enc lt blk off d.size w) (hswap : SwapM Try.prog gs rv enc blk off d.size) (hH : Holds enc w blk off d) (hlo : lo ≤ hi) (hb : first + hi ≤ d.size) (hsz : d.size < 4611686018427387904) :
    Calls Try.prog 55 #[.iface T rv, .int .i64 lo, .int .i64 hi, .int .i64 first] w fun e w' => e = .returned (.tuple #[]) ∧ ∃ n os, w' = sortWorld enc w blk off n (siftDown lt hi first lo d) os := Any.siftDown_iface_w Try.laysGt43 T rv gl gs rL rS enc lt blk off lo hi first d w hless hswap hH hlo hb hsz
def Try.laysGt34_ren : Go.Shelf.Ren := ⟨fun | 34 => 46 | 43 => 55 | n => n, fun | 45 => 66 | 3 => 3 | 4 => 4 | 0 => 0 | 43 => 67 | 26 => 91 | 38 => 99 | n => n, fun | n => n⟩
theorem Try.laysGt34 : Go.Proofs.LaysGt.n34 Try.prog Try.laysGt34_ren := {
  mixed := by kernel_rfl
  f34 := Try.func46.trans (congrArg some (by kernel_rfl))
  f43 := Try.func55.trans (congrArg some (by kernel_rfl))
  t0 := Try.underlying0
  a0 := Try.isAgg0
  z0 := Try.sizeOf0
  v0 := Try.zeroValue0
  i0 := by kernel_rfl
  t3 := Try.underlying3
  a3 := Try.isAgg3
  z3 := Try.sizeOf3
  v3 := Try.zeroValue3
  i3 := by kernel_rfl
  t4 := Try.underlying4
  a4 := Try.isAgg4
  z4 := Try.sizeOf4
  v4 := Try.zeroValue4
  i4 := by kernel_rfl
  t26 := Try.underlying91
  a26 := Try.isAgg91
  z26 := Try.sizeOf91
  v26 := Try.zeroValue91
  i26 := by kernel_rfl
  t38 := Try.underlying99
  a38 := Try.isAgg99
  z38 := Try.sizeOf99
  v38 := Try.zeroValue99
  i38 := by kernel_rfl
  t43 := Try.underlying67
  a43 := Try.isAgg67
  z43 := Try.sizeOf67
  v43 := Try.zeroValue67
  i43 := by kernel_rfl
  t45 := Try.underlying66
  a45 := Try.isAgg66
  z45 := Try.sizeOf66
  v45 := Try.zeroValue66
  i45 := by kernel_rfl }
open Go.RowKit Go.Lib Go.Sort in
theorem Try.heapSort_iface_w {α : Type} [Inhabited α] (T : TypeId) (rv : Value) (gl gs : Nat) (rL : Reaches Try.prog T rv "Less" gl) (rS : Reaches Try.prog T rv "Swap" gs) (enc : α → Value) (lt : α → α → Bool) (blk off a b : Nat) (d : Array α) (w : World) (hless : LessM Try.prog gl rv enc lt blk off d.size w) (hswap : SwapM Try.prog gs rv enc blk off d.size) (hH : Holds enc w blk off d) (hblk : blk < w.heap.size) (hab : a ≤ b) (hb : b ≤ d.size) (hsz : d.size < 4611686018427387904) :
    Calls Try.prog 46 #[.iface T rv, .int .i64 a, .int .i64 b] w fun e w' => e = .returned (.tuple #[]) ∧ ∃ n os, w' = sortWorld enc w blk off n (heapSort lt d a b) os := Any.heapSort_iface_w Try.laysGt34 T rv gl gs rL rS enc lt blk off a b d w hless hswap hH hblk hab hb hsz
def Try.laysGt38_ren : Go.Shelf.Ren := ⟨fun | 38 => 50 | n => n, fun | 45 => 66 | 3 => 3 | 4 => 4 | 0 => 0 | 43 => 67 | 26 => 91 | 38 => 99 | n => n, fun | n => n⟩
theorem Try.laysGt38 : Go.Proofs.LaysGt.n38 Try.prog Try.laysGt38_ren := {
  mixed := by kernel_rfl
  f38 := Try.func50.trans (congrArg some (by kernel_rfl))
  t0 := Try.underlying0
  a0 := Try.isAgg0
  z0 := Try.sizeOf0
  v0 := Try.zeroValue0
  i0 := by kernel_rfl
  t3 := Try.underlying3
  a3 := Try.isAgg3
  z3 := Try.sizeOf3
  v3 := Try.zeroValue3
  i3 := by kernel_rfl
  t4 := Try.underlying4
  a4 := Try.isAgg4
  z4 := Try.sizeOf4
  v4 := Try.zeroValue4
  i4 := by kernel_rfl
  t26 := Try.underlying91
  a26 := Try.isAgg91
  z26 := Try.sizeOf91
  v26 := Try.zeroValue91
  i26 := by kernel_rfl
  t38 := Try.underlying99
  a38 := Try.isAgg99
  z38 := Try.sizeOf99
  v38 := Try.zeroValue99
  i38 := by kernel_rfl
  t43 := Try.underlying67
  a43 := Try.isAgg67
  z43 := Try.sizeOf67
  v43 := Try.zeroValue67
  i43 := by kernel_rfl
  t45 := Try.underlying66
  a45 := Try.isAgg66
  z45 := Try.sizeOf66
  v45 := Try.zeroValue66
  i45 := by kernel_rfl }
open Go.RowKit Go.Lib Go.Sort in
theorem Try.partialInsertionSort_iface {α : Type} [Inhabited α] (T : TypeId) (rv : Value) (gl gs : Nat) (rL : Reaches Try.prog T rv "Less" gl) (rS : Reaches Try.prog T rv "Swap" gs) (enc : α → Value) (lt : α → α → Bool) (blk off a b : Nat) (d : Array α) (w : World) (hless : LessM Try.prog gl rv enc lt blk off d.size w) (hswap : SwapM Try.prog gs rv enc blk off d.size) (hH : Holds enc w blk off d) (hab : a < b) (hb : b ≤ d.size) (hsz : d.size < 4611686018427387904) :
    Calls Try.prog 50 #[.iface T rv, .int .i64 a, .int .i64 b] w fun e w' =>
      e = .returned (.bool (Sort.partialInsertionSort lt d a b).2) ∧ ∃ n, w' = putRow enc (Sort.ahead w n) blk off (Sort.partialInsertionSort lt d a b).1 := Any.partialInsertionSort_iface Try.laysGt38 T rv gl gs rL rS enc lt blk off a b d w hless hswap hH hab hb hsz
open Go.RowKit Go.Lib Go.Sort in
/-- sort.partialInsertionSort, from a world to a 'sortWorld' of it. (LAID: no walk: one application.) -/
theorem Try.partialInsertionSort_iface_w {α : Type} [Inhabited α] (T : TypeId) (rv : Value) (gl gs : Nat) (rL : Reaches Try.prog T rv "Less" gl) (rS : Reaches Try.prog T rv "Swap" gs) (enc : α → Value) (lt : α → α → Bool) (blk off a b : Nat) (d : Array α) (w : World) (hless : LessM Try.prog gl rv enc lt blk off d.size w) (hswap : SwapM Try.prog gs rv enc blk off d.size) (hH : Holds enc w blk off d) (hab : a < b) (hb : b ≤ d.size) (hsz : d.size < 4611686018427387904) :
    Calls Try.prog 50 #[.iface T rv, .int .i64 a, .int .i64 b] w fun e w' => e = .returned (.bool (Sort.partialInsertionSort lt d a b).2) ∧ ∃ n os, w' = sortWorld enc w blk off n (Sort.partialInsertionSort lt d a b).1 os := Any.partialInsertionSort_iface_w Try.laysGt38 T rv gl gs rL rS enc lt blk off a b d w hless hswap hH hab hb hsz
end Go.Proofs
