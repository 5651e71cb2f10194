/- utf8.ValidString of the shelf at this seat's dump, in plain words; and what the listed tables say of the world. -/
import Derived.Shelf.Unicode.ValidAny
import Derived.Lib.LaidU8
import Derived.PinnedBridge
import Derived.Test.YthpaplpnbklojaaDoorProg
set_option linter.unusedVariables false
set_option linter.unusedSimpArgs false
namespace Go.Proofs
open Go.RowKit Go.Shelf Go.Lib
def Tryd.laysV_ren : Go.Shelf.Ren := ⟨fun | 196 => 8 | 259 => 12 | n => n, fun | 0 => 0 | 3 => 3 | 4 => 4 | 5 => 5 | 9 => 9 | 12 => 12 | 46 => 33 | 53 => 35 | 119 => 29 | 138 => 31 | 139 => 32 | n => n, fun | 3 => 0 | 4 => 1 | n => n⟩
theorem Tryd.laysV : Go.Proofs.Lays.n196 Tryd.prog Tryd.laysV_ren := {
  mixed := by kernel_rfl
  f196 := Tryd.func8.trans (congrArg some (by kernel_rfl))
  f259 := Tryd.func12.trans (congrArg some (by kernel_rfl))
  t0 := Tryd.underlying0
  a0 := Tryd.isAgg0
  z0 := Tryd.sizeOf0
  v0 := Tryd.zeroValue0
  t3 := Tryd.underlying3
  a3 := Tryd.isAgg3
  z3 := Tryd.sizeOf3
  v3 := Tryd.zeroValue3
  t4 := Tryd.underlying4
  a4 := Tryd.isAgg4
  z4 := Tryd.sizeOf4
  v4 := Tryd.zeroValue4
  t5 := Tryd.underlying5
  a5 := Tryd.isAgg5
  z5 := Tryd.sizeOf5
  v5 := Tryd.zeroValue5
  t9 := Tryd.underlying9
  a9 := Tryd.isAgg9
  z9 := Tryd.sizeOf9
  v9 := Tryd.zeroValue9
  t12 := Tryd.underlying12
  a12 := Tryd.isAgg12
  z12 := Tryd.sizeOf12
  v12 := Tryd.zeroValue12
  t46 := Tryd.underlying33
  a46 := Tryd.isAgg33
  z46 := Tryd.sizeOf33
  v46 := Tryd.zeroValue33
  t53 := Tryd.underlying35
  a53 := Tryd.isAgg35
  z53 := Tryd.sizeOf35
  v53 := Tryd.zeroValue35
  t119 := Tryd.underlying29
  a119 := Tryd.isAgg29
  z119 := Tryd.sizeOf29
  t138 := Tryd.underlying31
  a138 := Tryd.isAgg31
  z138 := Tryd.sizeOf31
  v138 := Tryd.zeroValue31
  t139 := Tryd.underlying32
  a139 := Tryd.isAgg32
  z139 := Tryd.sizeOf32
  v139 := Tryd.zeroValue32
  g3 := by kernel_rfl
  g4 := by kernel_rfl }
/-- What the walks ask of the world: the two tables of unicode/utf8 as Go lays them. -/
def Tryd.Tabs (w : World) : Prop := Lib.Utf8Tabs 0 1 w
theorem Tryd.utf8_ValidString (s : ByteArray) (w : World) (hs : s.size ≤ 9223372036854775807) (hT : Tryd.Tabs w) :
    Calls Tryd.prog 8 #[.string s] w fun e w' => e = .returned (.bool (Lib.validD s.data.toList)) ∧ Below w.heap.size w w' := Any.utf8_ValidString Tryd.laysV s w hs hT
theorem Tryd.Tabs.below {w w' : World} (h : Tryd.Tabs w) (hb : Below w.heap.size w w') : Tryd.Tabs w' := by
  refine ⟨fun c hc => ?_, fun i hi => ?_⟩
  · have := h.1 c hc
    exact (hb.cell (World.block_lt_of_cell? w _ this)).trans this
  · obtain ⟨h1, h2⟩ := h.2 i hi
    exact ⟨(hb.cell (World.block_lt_of_cell? w _ h1)).trans h1, (hb.cell (World.block_lt_of_cell? w _ h2)).trans h2⟩
theorem Tryd.globFirst : Tryd.prog.globalNamed "unicode/utf8.first" = some 0 := by kernel_rfl
theorem Tryd.globAccept : Tryd.prog.globalNamed "unicode/utf8.acceptRanges" = some 1 := by kernel_rfl
theorem Tryd.typFirst : (Tryd.prog.globals[0]?).map (·.type) = some 29 := by kernel_rfl
theorem Tryd.typAccept : (Tryd.prog.globals[1]?).map (·.type) = some 32 := by kernel_rfl
theorem Tryd.cellsByte : Tryd.prog.cellsOf 5 = 1 := by kernel_rfl
theorem Tryd.cellsFirst : Tryd.prog.cellsOf 29 = 256 := by kernel_rfl
theorem Tryd.cellsRange : Tryd.prog.cellsOf 31 = 2 := by kernel_rfl
/-- From what a row lists to what the walks ask. -/
theorem Tryd.tabs_of_reads {w : World} (h1 : VarReads Tryd.prog w "unicode/utf8.first" firstData) (h2 : VarReads Tryd.prog w "unicode/utf8.acceptRanges" acceptData) : Tryd.Tabs w := by
  constructor
  · intro c hc
    obtain ⟨g, t, cs, fuel, p, hg, hty, hvar, hd⟩ := h1
    have eg := Option.some.inj (Tryd.globFirst.symm.trans hg)
    subst eg
    have et := Option.some.inj (Tryd.typFirst.symm.trans hty)
    subst et
    have hcs := cells_of_tab Tryd.underlying29 Tryd.underlying5 Tryd.cellsByte Tryd.cellsFirst hd
    rw [World.var?_cell hg hvar c, ← Array.getElem?_toList, hcs]
    simp [firstTab, hc]
  · intro i hi
    obtain ⟨g, t, cs, fuel, p, hg, hty, hvar, hd⟩ := h2
    have eg := Option.some.inj (Tryd.globAccept.symm.trans hg)
    subst eg
    have et := Option.some.inj (Tryd.typAccept.symm.trans hty)
    subst et
    obtain ⟨f', d, q, hdi, he⟩ := array_elem Tryd.underlying32 hd i hi
    have hd' : d = .agg ([(accLo i : Int), (accHi i : Int)].map fun z => .lit (.int .u8 z)) := by
      simp only [List.getElem?_map, List.getElem?_range hi, Option.map_some, Option.some.injEq] at hdi
      exact hdi.symm
    rw [hd', Tryd.cellsRange] at he
    have hcs := ints_of_struct Tryd.underlying31 (fun j f hj => by
      rcases j with _ | _ | j
      · simp at hj; subst hj; exact ⟨Tryd.underlying5, rfl, Tryd.cellsByte⟩
      · simp at hj; subst hj; exact ⟨Tryd.underlying5, rfl, Tryd.cellsByte⟩
      · simp at hj) (by rw [Tryd.cellsRange]; rfl) he
    have at0 := congrArg (fun l : List Value => l[0]?) hcs
    have at1 := congrArg (fun l : List Value => l[1]?) hcs
    simp only [List.getElem?_take, List.getElem?_drop] at at0 at1
    refine ⟨?_, ?_⟩
    · rw [World.var?_cell hg hvar (2 * i), ← Array.getElem?_toList]
      simpa [Nat.mul_comm] using at0
    · rw [World.var?_cell hg hvar (2 * i + 1), ← Array.getElem?_toList]
      simpa [Nat.mul_comm] using at1
end Go.Proofs
