/- (labels.MatchType).String: a map laid anew of four entries, and one lookup. The laws serve keys of any plain kind. -/
import Derived.Test.YtenededepjfojabDoorProg
import Derived.MapKept
import Derived.Below
import Derived.WalkKit
import Derived.ProofKit
import Derived.Carry
import Derived.Laws.Entries
import Derived.Test.YtenededepjfojabDoorWMore
namespace Go.Proofs.YtenededepjfojabDoor.Door
open Go.RowKit Go.Proofs.YtenededepjfojabDoorW.PrintWords Go.Proofs.YtenededepjfojabDoorW.PrintLast
set_option linter.unusedVariables false
set_option linter.unusedSimpArgs false
section
variable {P : Program}
theorem run_putK {t k e : TypeId} (ht : P.underlying t = some (.map k e)) {kt : TypeDesc} (hk : P.underlying k = some kt) (W : World) (r : Nat) (hr : r = W.heap.size) (es : Array MapEntry) (c : Nat) (key : Value) (hkey : Go.MapKept.IsKey kt key) (v : Value)
    (hn : Instr.findNow kt key es.toList 0 = some none) :
    (Instr.mapUpdate t (.map (some r)) key v).run P (W.alloc (.map es c)) = .ok () (W.alloc (.map (es.push { key := key, val := v, born := c }) (c + 1))) := by
  subst hr
  have hh : (W.alloc (.map es c)).heap[W.heap.size]? = some (.map es c) := by
    show (W.heap.push (.map es c))[W.heap.size]? = _
    simp
  have hs : ∀ o : Obj, { W.alloc (.map es c) with heap := (W.alloc (.map es c)).heap.setIfInBounds W.heap.size o } = W.alloc o := fun o => by
    simp only [World.alloc]
    congr 1
    apply Array.ext'
    simp [Array.setIfInBounds, Array.toList_push]
  have hck : (Instr.checkKey false 10000 k key).run P (W.alloc (.map es c)) = .ok () (W.alloc (.map es c)) := Go.MapKept.run_checkKey hk hkey false 9999
  have hg : (getObj W.heap.size).run P (W.alloc (.map es c)) = .ok (.map es c) (W.alloc (.map es c)) := Go.MapKept.run_getObj_map hh
  have hfk : (Instr.findKey k key es.toList).run P (W.alloc (.map es c)) = .ok none (W.alloc (.map es c)) := by
    simp [Instr.findKey, run_underlying hk, hn]
  have hso := fun o => Go.MapKept.run_setObj_map (P := P) o hh
  simp only [hs] at hso
  unfold Instr.mapUpdate
  rw [Sem.run_bind, run_underlying ht]
  simp only [Result.andThen]
  rw [Sem.run_bind, hg]
  simp only [Result.andThen]
  rw [Sem.run_bind, hck]
  simp only [Result.andThen]
  rw [Sem.run_bind, hfk]
  simp only [Result.andThen]
  exact hso _
theorem run_findK {t k e : TypeId} (ht : P.underlying t = some (.map k e)) {kt : TypeDesc} (hk : P.underlying k = some kt) (W : World) (r : Nat) (hr : r = W.heap.size) (es : Array MapEntry) (c : Nat) (key : Value) (hkey : Go.MapKept.IsKey kt key) (i : Nat) (v : Value)
    (hn : Instr.findNow kt key es.toList 0 = some (some (i, v))) :
    (Instr.lookup t (.map (some r)) key true).run P (W.alloc (.map es c)) = .ok (.tuple #[v, .bool true]) (W.alloc (.map es c)) := by
  subst hr
  have hh : (W.alloc (.map es c)).heap[W.heap.size]? = some (.map es c) := by
    show (W.heap.push (.map es c))[W.heap.size]? = _
    simp
  have hck : (Instr.checkKey es.isEmpty 10000 k key).run P (W.alloc (.map es c)) = .ok () (W.alloc (.map es c)) := Go.MapKept.run_checkKey hk hkey _ 9999
  have hg : (getObj W.heap.size).run P (W.alloc (.map es c)) = .ok (.map es c) (W.alloc (.map es c)) := Go.MapKept.run_getObj_map hh
  have hfk : (Instr.findKey k key es.toList).run P (W.alloc (.map es c)) = .ok (some (i, v)) (W.alloc (.map es c)) := by
    simp [Instr.findKey, run_underlying hk, hn]
  unfold Instr.lookup
  simp [run_underlying ht, hg, hck, hfk, Result.andThen, Sem.run_bind]
theorem run_missK {t k e : TypeId} (ht : P.underlying t = some (.map k e)) {kt : TypeDesc} (hk : P.underlying k = some kt) (W : World) (r : Nat) (hr : r = W.heap.size) (es : Array MapEntry) (c : Nat) (key : Value) (hkey : Go.MapKept.IsKey kt key) (z : Value)
    (hz : ∀ w, (zeroValue e).run P w = .ok z w)
    (hn : Instr.findNow kt key es.toList 0 = some none) :
    (Instr.lookup t (.map (some r)) key true).run P (W.alloc (.map es c)) = .ok (.tuple #[z, .bool false]) (W.alloc (.map es c)) := by
  subst hr
  have hh : (W.alloc (.map es c)).heap[W.heap.size]? = some (.map es c) := by
    show (W.heap.push (.map es c))[W.heap.size]? = _
    simp
  have hck : (Instr.checkKey es.isEmpty 10000 k key).run P (W.alloc (.map es c)) = .ok () (W.alloc (.map es c)) := Go.MapKept.run_checkKey hk hkey _ 9999
  have hg : (getObj W.heap.size).run P (W.alloc (.map es c)) = .ok (.map es c) (W.alloc (.map es c)) := Go.MapKept.run_getObj_map hh
  have hfk : (Instr.findKey k key es.toList).run P (W.alloc (.map es c)) = .ok none (W.alloc (.map es c)) := by
    simp [Instr.findKey, run_underlying hk, hn]
  unfold Instr.lookup
  simp [run_underlying ht, hg, hck, hfk, hz, Result.andThen, Sem.run_bind]
end
def opText (t : Nat) : ByteArray := match t with
  | 0 => ⟨#[61]⟩
  | 1 => ⟨#[33, 61]⟩
  | 2 => ⟨#[61, 126]⟩
  | _ => ⟨#[33, 126]⟩
def opEnts : Array MapEntry := #[{ key := .int .i64 0, val := .string ⟨#[61]⟩, born := 0 }, { key := .int .i64 1, val := .string ⟨#[33, 61]⟩, born := 1 }, { key := .int .i64 2, val := .string ⟨#[61, 126]⟩, born := 2 }, { key := .int .i64 3, val := .string ⟨#[33, 126]⟩, born := 3 }]
set_option maxRecDepth 100000 in
theorem type_text (t : Nat) (ht : t < 4) (w : World) :
    Calls Tryd.prog 20 #[.int .i64 (t : Int)] w fun e w' => e = .returned (.string (opText t)) ∧ Below w.heap.size w w' := by
  have P1 := Aside0.mk (fun W r hr es c (n : Int) v hn => @run_putK Tryd.prog _ _ _ Tryd.underlying62 _ Tryd.underlying49 W r hr es c (.int .i64 n) rfl v hn)
  have P2 := Aside0.mk (@run_findK Tryd.prog _ _ _ Tryd.underlying62 _ Tryd.underlying49)
  have hf : Instr.findNow (.int .i64) (.int .i64 (t : Int)) opEnts.toList 0 = some (some (t, .string (opText t))) := by
    have : t = 0 ∨ t = 1 ∨ t = 2 ∨ t = 3 := by omega
    rcases this with rfl | rfl | rfl | rfl <;> rfl
  have HF := Aside0.mk (fun W r hr => P2.out W r hr opEnts 4 (.int .i64 (t : Int)) rfl t (.string (opText t)) hf)
  clear hf
  unfold opEnts at HF
  obtain ⟨T, hT⟩ : ∃ T, opText t = T := ⟨_, rfl⟩
  rw [hT] at HF ⊢
  clear hT
  go_enter Tryd.func20, Tryd.ntmps20
  go_wp2_with (first | (rw [run_makeMap]; skip) | (rw [P1.out _ _ (by simp) _ _ _ _ rfl]; skip) | (rw [HF.out _ _ (by simp)]; skip))
  go_ret
  exact ⟨rfl, below_alloc (Below.refl _ _) _⟩
end Go.Proofs.YtenededepjfojabDoor.Door
