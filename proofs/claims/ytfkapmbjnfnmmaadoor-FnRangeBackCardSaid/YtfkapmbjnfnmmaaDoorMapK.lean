/- A map laid anew, entry by entry, and lookups in it; the laws serve keys of any plain kind. -/
import Derived.Test.YtfkapmbjnfnmmaaDoorDays
import Derived.MapKept
import Derived.Lib.ConvBytes
import Derived.Lib.AtoiErrMem
import Derived.Lib.Strings
import Derived.Laws.IdiomStrings
import Derived.Below
import Derived.WalkKit
import Derived.ProofKit
import Derived.Carry
import Derived.Laws.Entries
import Derived.Test.YtfkapmbjnfnmmaaDoorWMore
namespace Go.Proofs.YtfkapmbjnfnmmaaDoor.MapK
open Go.RowKit Go.Proofs.YtfkapmbjnfnmmaaDoorW.PrintWords Go.Proofs.YtfkapmbjnfnmmaaDoorW.PrintLast
set_option linter.unusedVariables false
set_option linter.unusedSimpArgs false
section
variable {P : Program}
theorem run_putK {t k e : TypeId} (ht : P.underlying t = some (.map k e)) {kt : TypeDesc} (hk : P.underlying k = some kt) (W : World) (r : Nat) (hr : r = W.heap.size) (es : Array MapEntry) (c : Nat) (key : Value) (hkey : Go.MapKept.IsKey kt key) (v : Value)
    (hn : Instr.findNow kt key es.toList 0 = some none) :
    (Instr.mapUpdate t (.map (some r)) key v).run P (W.alloc (.map es c)) = .ok () (W.alloc (.map (es.push { key := key, val := v, born := c }) (c + 1))) := by
  subst hr
  have hh : (W.alloc (.map es c)).heap[W.heap.size]? = some (.map es c) := by
    show (W.heap.push (.map es c))[W.heap.size]? = _
    simp
  have hs : ∀ o : Obj, { W.alloc (.map es c) with heap := (W.alloc (.map es c)).heap.setIfInBounds W.heap.size o } = W.alloc o := fun o => by
    simp only [World.alloc]
    congr 1
    apply Array.ext'
    simp [Array.setIfInBounds, Array.toList_push]
  have hck : (Instr.checkKey false 10000 k key).run P (W.alloc (.map es c)) = .ok () (W.alloc (.map es c)) := Go.MapKept.run_checkKey hk hkey false 9999
  have hg : (getObj W.heap.size).run P (W.alloc (.map es c)) = .ok (.map es c) (W.alloc (.map es c)) := Go.MapKept.run_getObj_map hh
  have hfk : (Instr.findKey k key es.toList).run P (W.alloc (.map es c)) = .ok none (W.alloc (.map es c)) := by
    simp [Instr.findKey, run_underlying hk, hn]
  have hso := fun o => Go.MapKept.run_setObj_map (P := P) o hh
  simp only [hs] at hso
  unfold Instr.mapUpdate
  rw [Sem.run_bind, run_underlying ht]
  simp only [Result.andThen]
  rw [Sem.run_bind, hg]
  simp only [Result.andThen]
  rw [Sem.run_bind, hck]
  simp only [Result.andThen]
  rw [Sem.run_bind, hfk]
  simp only [Result.andThen]
  exact hso _
theorem run_findK {t k e : TypeId} (ht : P.underlying t = some (.map k e)) {kt : TypeDesc} (hk : P.underlying k = some kt) (W : World) (r : Nat) (hr : r = W.heap.size) (es : Array MapEntry) (c : Nat) (key : Value) (hkey : Go.MapKept.IsKey kt key) (i : Nat) (v : Value)
    (hn : Instr.findNow kt key es.toList 0 = some (some (i, v))) :
    (Instr.lookup t (.map (some r)) key true).run P (W.alloc (.map es c)) = .ok (.tuple #[v, .bool true]) (W.alloc (.map es c)) := by
  subst hr
  have hh : (W.alloc (.map es c)).heap[W.heap.size]? = some (.map es c) := by
    show (W.heap.push (.map es c))[W.heap.size]? = _
    simp
  have hck : (Instr.checkKey es.isEmpty 10000 k key).run P (W.alloc (.map es c)) = .ok () (W.alloc (.map es c)) := Go.MapKept.run_checkKey hk hkey _ 9999
  have hg : (getObj W.heap.size).run P (W.alloc (.map es c)) = .ok (.map es c) (W.alloc (.map es c)) := Go.MapKept.run_getObj_map hh
  have hfk : (Instr.findKey k key es.toList).run P (W.alloc (.map es c)) = .ok (some (i, v)) (W.alloc (.map es c)) := by
    simp [Instr.findKey, run_underlying hk, hn]
  unfold Instr.lookup
  simp [run_underlying ht, hg, hck, hfk, Result.andThen, Sem.run_bind]
theorem run_missK {t k e : TypeId} (ht : P.underlying t = some (.map k e)) {kt : TypeDesc} (hk : P.underlying k = some kt) (W : World) (r : Nat) (hr : r = W.heap.size) (es : Array MapEntry) (c : Nat) (key : Value) (hkey : Go.MapKept.IsKey kt key) (z : Value)
    (hz : ∀ w, (zeroValue e).run P w = .ok z w)
    (hn : Instr.findNow kt key es.toList 0 = some none) :
    (Instr.lookup t (.map (some r)) key true).run P (W.alloc (.map es c)) = .ok (.tuple #[z, .bool false]) (W.alloc (.map es c)) := by
  subst hr
  have hh : (W.alloc (.map es c)).heap[W.heap.size]? = some (.map es c) := by
    show (W.heap.push (.map es c))[W.heap.size]? = _
    simp
  have hck : (Instr.checkKey es.isEmpty 10000 k key).run P (W.alloc (.map es c)) = .ok () (W.alloc (.map es c)) := Go.MapKept.run_checkKey hk hkey _ 9999
  have hg : (getObj W.heap.size).run P (W.alloc (.map es c)) = .ok (.map es c) (W.alloc (.map es c)) := Go.MapKept.run_getObj_map hh
  have hfk : (Instr.findKey k key es.toList).run P (W.alloc (.map es c)) = .ok none (W.alloc (.map es c)) := by
    simp [Instr.findKey, run_underlying hk, hn]
  unfold Instr.lookup
  simp [run_underlying ht, hg, hck, hfk, hz, Result.andThen, Sem.run_bind]
end
/-- Block B holds the bytes L from its begin on, and they may be written. -/
def BRow (w : World) (B : Nat) (L : List UInt8) : Prop := ∀ j, j < L.length → w.cell? ⟨B, j, none⟩ = some (.int .u8 (L.getD j 0).toNat) ∧ w.frozen? ⟨B, j, none⟩ = false
theorem BRow.made (w : World) (e : TypeId) (s : ByteArray) : BRow (Lib.bytesWorld w e s) w.heap.size s.data.toList := by
  intro j hj
  have hz : s.data.toList.length = s.size := by rw [Array.length_toList]; rfl
  refine ⟨Lib.bytesWorld_cell w e s j (by omega), ?_⟩
  unfold World.frozen?
  rw [Lib.bytesWorld_at_new]
  have hc : s.size ≤ (Lib.bytesCells w e s).size := by
    unfold Lib.bytesCells
    rw [Array.size_append, Array.size_map]
    show s.data.size ≤ _
    omega
  show (decide ((Lib.bytesCells w e s).size ≤ j) && decide (j < (Lib.bytesCells w e s).size + 1)) = false
  rw [decide_eq_false (by omega), Bool.false_and]
theorem BRow.below {w w' : World} {B base : Nat} {L : List UInt8} (h : BRow w B L) (hb : Below base w w') (hB : B < base) : BRow w' B L :=
  fun j hj => ⟨(hb.cell hB).trans (h j hj).1, (hb.frozen hB).trans (h j hj).2⟩
theorem BRow.back {w : World} {B cap : Nat} {L : List UInt8} (h : BRow w B L) (src dst e : TypeId) (hs : Tryd.prog.underlying src = some (.slice e)) (he : Tryd.prog.underlying e = some (.int .u8)) (hd : Tryd.prog.underlying dst = some .string) :
    (convert src dst (.slice (some ⟨B, 0, none⟩) L.length cap)).run Tryd.prog w = .ok (.string ⟨L.toArray⟩) w := by
  refine run_convert_bytes_back w src dst e ⟨B, 0, none⟩ cap L hs he hd (fun j hj => ?_)
  have h1 := (h j hj).1
  have : (⟨B, 0, none⟩ : Addr).add j = ⟨B, j, none⟩ := by unfold Addr.add; split <;> simp_all
  rw [this, h1]
  simp [List.getD, hj]
def invEnts : Array MapEntry := #[{ key := .int .i64 0, val := .string (Days.dayB 0), born := 0 }, { key := .int .i64 1, val := .string (Days.dayB 1), born := 1 }, { key := .int .i64 2, val := .string (Days.dayB 2), born := 2 }, { key := .int .i64 3, val := .string (Days.dayB 3), born := 3 }, { key := .int .i64 4, val := .string (Days.dayB 4), born := 4 }, { key := .int .i64 5, val := .string (Days.dayB 5), born := 5 }, { key := .int .i64 6, val := .string (Days.dayB 6), born := 6 }]
def dayEnts : Array MapEntry := #[{ key := .string (Days.dayB 0), val := .int .i64 0, born := 0 }, { key := .string (Days.dayB 1), val := .int .i64 1, born := 1 }, { key := .string (Days.dayB 2), val := .int .i64 2, born := 2 }, { key := .string (Days.dayB 3), val := .int .i64 3, born := 3 }, { key := .string (Days.dayB 4), val := .int .i64 4, born := 4 }, { key := .string (Days.dayB 5), val := .int .i64 5, born := 5 }, { key := .string (Days.dayB 6), val := .int .i64 6, born := 6 }]
theorem day_size (n : Nat) : (Days.dayB n).size ≤ 9 := by
  match n with
  | 0 | 1 | 2 | 3 | 4 | 5 => decide
  | k + 6 => exact (show (Days.dayB 6).size ≤ 9 by decide)
theorem inv_find {n : Nat} (h : n ≤ 6) : Instr.findNow (.int .i64) (.int .i64 (n : Int)) invEnts.toList 0 = some (some (n, .string (Days.dayB n))) := by
  rcases Days.seven h with rfl | rfl | rfl | rfl | rfl | rfl | rfl <;> rfl
theorem day_find {n : Nat} (h : n ≤ 6) : Instr.findNow .string (.string (Days.dayB n)) dayEnts.toList 0 = some (some (n, .int .i64 (n : Int))) := by
  rcases Days.seven h with rfl | rfl | rfl | rfl | rfl | rfl | rfl <;> rfl
set_option maxRecDepth 100000 in
theorem days_inv (w : World) : Calls Tryd.prog 39 #[] w fun e w' => e = .returned (.map (some w.heap.size)) ∧ w' = w.alloc (.map invEnts 7) := by
  have P1 := Aside0.mk (fun W r hr es c (n : Int) v hn => @run_putK Tryd.prog _ _ _ Tryd.underlying64 _ Tryd.underlying3 W r hr es c (.int .i64 n) rfl v hn)
  go_enter Tryd.func39, Tryd.ntmps39
  go_wp2_with (first | (rw [run_makeMap]; skip) | (rw [P1.out _ _ (by simp) _ _ _ _ rfl]; skip))
  go_ret
  exact ⟨rfl, rfl⟩
set_option maxRecDepth 100000 in
theorem days_map (w : World) : Calls Tryd.prog 112 #[] w fun e w' => e = .returned (.map (some w.heap.size)) ∧ w' = w.alloc (.map dayEnts 7) := by
  have P1 := Aside0.mk (fun W r hr es c (n : ByteArray) v hn => @run_putK Tryd.prog _ _ _ Tryd.underlying144 _ Tryd.underlying9 W r hr es c (.string n) trivial v hn)
  go_enter Tryd.func112, Tryd.ntmps112
  go_wp2_with (first | (rw [run_makeMap]; skip) | (rw [P1.out _ _ (by simp) _ _ _ _ rfl]; skip))
  go_ret
  exact ⟨rfl, rfl⟩
theorem inv_look {n : Nat} (h : n ≤ 6) (W : World) (r : Nat) (hr : r = W.heap.size) : (Instr.lookup 64 (.map (some r)) (.int .i64 (n : Int)) true).run Tryd.prog (W.alloc (.map invEnts 7)) = .ok (.tuple #[.string (Days.dayB n), .bool true]) (W.alloc (.map invEnts 7)) :=
  @run_findK Tryd.prog _ _ _ Tryd.underlying64 _ Tryd.underlying3 W r hr invEnts 7 (.int .i64 (n : Int)) rfl n _ (inv_find h)
theorem day_look {n : Nat} (h : n ≤ 6) (W : World) (r : Nat) (hr : r = W.heap.size) : (Instr.lookup 144 (.map (some r)) (.string (Days.dayB n)) true).run Tryd.prog (W.alloc (.map dayEnts 7)) = .ok (.tuple #[.int .i64 (n : Int), .bool true]) (W.alloc (.map dayEnts 7)) :=
  @run_findK Tryd.prog _ _ _ Tryd.underlying144 _ Tryd.underlying9 W r hr dayEnts 7 (.string (Days.dayB n)) trivial n _ (day_find h)
theorem run_findH {P : Program} {t k e : TypeId} (ht : P.underlying t = some (.map k e)) {kt : TypeDesc} (hk : P.underlying k = some kt) (W : World) (r : Nat) (es : Array MapEntry) (c : Nat) (hh : W.heap[r]? = some (.map es c)) (key : Value) (hkey : Go.MapKept.IsKey kt key) (i : Nat) (v : Value)
    (hn : Instr.findNow kt key es.toList 0 = some (some (i, v))) :
    (Instr.lookup t (.map (some r)) key true).run P W = .ok (.tuple #[v, .bool true]) W := by
  have hck : (Instr.checkKey es.isEmpty 10000 k key).run P W = .ok () W := Go.MapKept.run_checkKey hk hkey _ 9999
  have hg : (getObj r).run P W = .ok (.map es c) W := Go.MapKept.run_getObj_map hh
  have hfk : (Instr.findKey k key es.toList).run P W = .ok (some (i, v)) W := by
    simp [Instr.findKey, run_underlying hk, hn]
  unfold Instr.lookup
  simp [run_underlying ht, hg, hck, hfk, Result.andThen, Sem.run_bind]
theorem new_map (W : World) (es : Array MapEntry) (c r : Nat) (hr : r = W.heap.size) : (W.alloc (.map es c)).heap[r]? = some (.map es c) := by
  subst hr
  show (W.heap.push (.map es c))[W.heap.size]? = _
  simp
theorem new_mapD (W : World) (es : Array MapEntry) (c r : Nat) (hr : r = W.heap.size) : (W.alloc (.map es c)).drew.heap[r]? = some (.map es c) := new_map W es c r hr
theorem inv_lookD {n : Nat} (h : n ≤ 6) (W : World) (r : Nat) (hr : r = W.heap.size) : (Instr.lookup 64 (.map (some r)) (.int .i64 (n : Int)) true).run Tryd.prog (W.alloc (.map invEnts 7)).drew = .ok (.tuple #[.string (Days.dayB n), .bool true]) (W.alloc (.map invEnts 7)).drew := by
  have hf := inv_find h
  generalize invEnts = es at *
  generalize Days.dayB n = B at *
  exact run_findH (P := Tryd.prog) Tryd.underlying64 Tryd.underlying3 _ r es 7 (new_mapD W es 7 r hr) (.int .i64 (n : Int)) rfl n (.string B) hf
theorem drew_heap (w : World) : w.drew.heap = w.heap := rfl
theorem new_mapD2 (W : World) (es : Array MapEntry) (c r : Nat) (hr : r = W.heap.size) : (W.alloc (.map es c)).drew.drew.heap[r]? = some (.map es c) := by
  rw [drew_heap, drew_heap]
  exact new_map W es c r hr
theorem inv_lookD2 {n : Nat} (h : n ≤ 6) (W : World) (r : Nat) (hr : r = W.heap.size) : (Instr.lookup 64 (.map (some r)) (.int .i64 (n : Int)) true).run Tryd.prog (W.alloc (.map invEnts 7)).drew.drew = .ok (.tuple #[.string (Days.dayB n), .bool true]) (W.alloc (.map invEnts 7)).drew.drew := by
  have hf := inv_find h
  generalize invEnts = es at *
  generalize Days.dayB n = B at *
  exact run_findH (P := Tryd.prog) Tryd.underlying64 Tryd.underlying3 _ r es 7 (new_mapD2 W es 7 r hr) (.int .i64 (n : Int)) rfl n (.string B) hf
theorem BRow.at_ (W : World) (e : TypeId) (s : ByteArray) (v : Nat) (hv : v = W.heap.size) : BRow (Lib.bytesWorld W e s) v s.data.toList := by subst hv; exact BRow.made W e s
end Go.Proofs.YtfkapmbjnfnmmaaDoor.MapK
