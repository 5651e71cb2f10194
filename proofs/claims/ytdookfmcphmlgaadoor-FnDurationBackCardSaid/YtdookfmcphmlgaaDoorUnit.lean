/- model.unitMap: a map laid anew of seven entries, and one lookup. -/
import Derived.Test.YtdookfmcphmlgaaDoorProg
import Derived.Test.YtdookfmcphmlgaaDoorQx1
import Derived.Test.YtdookfmcphmlgaaDoorLib
import Derived.MapKept
import Derived.Below
import Derived.WalkKit
import Derived.ProofKit
import Derived.Carry
import Derived.Laws.Entries
namespace Go.Proofs.YtdookfmcphmlgaaDoor.Door
open Go.RowKit Go.Proofs.YtdookfmcphmlgaaDoor.Q Go.Proofs.YtdookfmcphmlgaaDoor.Pure Go.Proofs.YtdookfmcphmlgaaDoorW.PrintWords Go.Proofs.YtdookfmcphmlgaaDoorW.PrintLast
set_option linter.unusedVariables false
set_option linter.unusedSimpArgs false
section
variable {P : Program}
theorem run_put {t k e : TypeId} (ht : P.underlying t = some (.map k e)) (hk : P.underlying k = some .string) (W : World) (r : Nat) (hr : r = W.heap.size) (es : Array MapEntry) (c : Nat) (key : ByteArray) (v : Value)
    (hn : Instr.findNow .string (.string key) es.toList 0 = some none) :
    (Instr.mapUpdate t (.map (some r)) (.string key) v).run P (W.alloc (.map es c)) = .ok () (W.alloc (.map (es.push { key := .string key, val := v, born := c }) (c + 1))) := by
  subst hr
  have hh : (W.alloc (.map es c)).heap[W.heap.size]? = some (.map es c) := by
    show (W.heap.push (.map es c))[W.heap.size]? = _
    simp
  have hs : ∀ o : Obj, { W.alloc (.map es c) with heap := (W.alloc (.map es c)).heap.setIfInBounds W.heap.size o } = W.alloc o := fun o => by
    simp only [World.alloc]
    congr 1
    apply Array.ext'
    simp [Array.setIfInBounds, Array.toList_push]
  have hck : (Instr.checkKey false 10000 k (.string key)).run P (W.alloc (.map es c)) = .ok () (W.alloc (.map es c)) := Go.MapKept.run_checkKey hk (show Go.MapKept.IsKey .string (.string key) from trivial) false 9999
  have hg : (getObj W.heap.size).run P (W.alloc (.map es c)) = .ok (.map es c) (W.alloc (.map es c)) := Go.MapKept.run_getObj_map hh
  have hfk : (Instr.findKey k (.string key) es.toList).run P (W.alloc (.map es c)) = .ok none (W.alloc (.map es c)) := by
    simp [Instr.findKey, run_underlying hk, hn]
  have hso := fun o => Go.MapKept.run_setObj_map (P := P) o hh
  simp only [hs] at hso
  unfold Instr.mapUpdate
  rw [Sem.run_bind, run_underlying ht]
  simp only [Result.andThen]
  rw [Sem.run_bind, hg]
  simp only [Result.andThen]
  rw [Sem.run_bind, hck]
  simp only [Result.andThen]
  rw [Sem.run_bind, hfk]
  simp only [Result.andThen]
  exact hso _
theorem run_find {t k e : TypeId} (ht : P.underlying t = some (.map k e)) (hk : P.underlying k = some .string) (W : World) (r : Nat) (hr : r = W.heap.size) (es : Array MapEntry) (c : Nat) (key : ByteArray) (i : Nat) (v : Value)
    (hn : Instr.findNow .string (.string key) es.toList 0 = some (some (i, v))) :
    (Instr.lookup t (.map (some r)) (.string key) true).run P (W.alloc (.map es c)) = .ok (.tuple #[v, .bool true]) (W.alloc (.map es c)) := by
  subst hr
  have hh : (W.alloc (.map es c)).heap[W.heap.size]? = some (.map es c) := by
    show (W.heap.push (.map es c))[W.heap.size]? = _
    simp
  have hck : (Instr.checkKey es.isEmpty 10000 k (.string key)).run P (W.alloc (.map es c)) = .ok () (W.alloc (.map es c)) := Go.MapKept.run_checkKey hk (show Go.MapKept.IsKey .string (.string key) from trivial) _ 9999
  have hg : (getObj W.heap.size).run P (W.alloc (.map es c)) = .ok (.map es c) (W.alloc (.map es c)) := Go.MapKept.run_getObj_map hh
  have hfk : (Instr.findKey k (.string key) es.toList).run P (W.alloc (.map es c)) = .ok (some (i, v)) (W.alloc (.map es c)) := by
    simp [Instr.findKey, run_underlying hk, hn]
  unfold Instr.lookup
  simp [run_underlying ht, hg, hck, hfk, Result.andThen, Sem.run_bind]
theorem run_miss {t k e : TypeId} (ht : P.underlying t = some (.map k e)) (hk : P.underlying k = some .string) (W : World) (r : Nat) (hr : r = W.heap.size) (es : Array MapEntry) (c : Nat) (key : ByteArray) (z : Value)
    (hz : ∀ w, (zeroValue e).run P w = .ok z w)
    (hn : Instr.findNow .string (.string key) es.toList 0 = some none) :
    (Instr.lookup t (.map (some r)) (.string key) true).run P (W.alloc (.map es c)) = .ok (.tuple #[z, .bool false]) (W.alloc (.map es c)) := by
  subst hr
  have hh : (W.alloc (.map es c)).heap[W.heap.size]? = some (.map es c) := by
    show (W.heap.push (.map es c))[W.heap.size]? = _
    simp
  have hck : (Instr.checkKey es.isEmpty 10000 k (.string key)).run P (W.alloc (.map es c)) = .ok () (W.alloc (.map es c)) := Go.MapKept.run_checkKey hk (show Go.MapKept.IsKey .string (.string key) from trivial) _ 9999
  have hg : (getObj W.heap.size).run P (W.alloc (.map es c)) = .ok (.map es c) (W.alloc (.map es c)) := Go.MapKept.run_getObj_map hh
  have hfk : (Instr.findKey k (.string key) es.toList).run P (W.alloc (.map es c)) = .ok none (W.alloc (.map es c)) := by
    simp [Instr.findKey, run_underlying hk, hn]
  unfold Instr.lookup
  simp [run_underlying ht, hg, hck, hfk, hz, Result.andThen, Sem.run_bind]
end
def unitTab : List (ByteArray × Int × Int) := [(⟨#[109, 115]⟩, 7, 1000000), (⟨#[115]⟩, 6, 1000000000), (⟨#[109]⟩, 5, 60000000000), (⟨#[104]⟩, 4, 3600000000000), (⟨#[100]⟩, 3, 86400000000000), (⟨#[119]⟩, 2, 604800000000000), (⟨#[121]⟩, 1, 31536000000000000)]
def unitIn : List (ByteArray × Int × Int) → ByteArray → Option (Int × Int)
  | [], _ => none
  | x :: r, u => if u = x.1 then some x.2 else unitIn r u
def unitOf (u : ByteArray) : Option (Int × Int) := unitIn unitTab u
def entsOf : List (ByteArray × Int × Int) → Nat → List MapEntry
  | [], _ => []
  | x :: r, n => { key := .string x.1, val := .agg #[.int .i64 x.2.1, .int .u64 x.2.2], born := n } :: entsOf r (n + 1)
theorem ba_beq (a b : ByteArray) : (a == b) = decide (a = b) := by
  by_cases h : a = b
  · subst h
    rw [decide_eq_true rfl]
    show (a.data == a.data) = true
    exact beq_self_eq_true _
  · rw [decide_eq_false h]
    cases e : (a == b) with
    | false => rfl
    | true =>
      have e' : (a.data == b.data) = true := e
      exact absurd (ByteArray.ext (eq_of_beq e')) h
theorem find_ents (u : ByteArray) : ∀ (l : List (ByteArray × Int × Int)) (n i : Nat),
    (∃ j p m, unitIn l u = some (p, m) ∧ Instr.findNow .string (.string u) (entsOf l n) i = some (some (j, .agg #[.int .i64 p, .int .u64 m]))) ∨ (unitIn l u = none ∧ Instr.findNow .string (.string u) (entsOf l n) i = some none)
  | [], n, i => .inr ⟨rfl, rfl⟩
  | x :: r, n, i => by
    unfold unitIn entsOf Instr.findNow
    by_cases h : u = x.1
    · rw [if_pos h]
      have hs : Instr.sameNow .string (.string u) (.string x.1) = some true := by rw [h]; simp [Instr.sameNow, ba_beq]
      simp only [hs]
      exact .inl ⟨i, x.2.1, x.2.2, rfl, rfl⟩
    · rw [if_neg h]
      have hs : Instr.sameNow .string (.string u) (.string x.1) = some false := by simp [Instr.sameNow, ba_beq, h]
      simp only [hs]
      exact find_ents u r (n + 1) (i + 1)
def unitRes (u : ByteArray) : Value := match unitOf u with
  | some (p, m) => .tuple #[.agg #[.int .i64 p, .int .u64 m], .bool true]
  | none => .tuple #[.agg #[.int .i64 0, .int .u64 0], .bool false]
theorem model_unitMap (u : ByteArray) (w : World) :
    Calls Tryd.prog 15 #[.string u] w fun e w' => e = .returned (unitRes u) ∧ Below w.heap.size w w' := by
  have P1 := Aside0.mk (@run_put Tryd.prog _ _ _ Tryd.underlying49 Tryd.underlying9)
  have P2 := Aside0.mk (@run_find Tryd.prog _ _ _ Tryd.underlying49 Tryd.underlying9)
  have P3 := Aside0.mk (@run_miss Tryd.prog _ _ _ Tryd.underlying49 Tryd.underlying9)
  rcases find_ents u unitTab 0 0 with ⟨j, p, m, hu, hf⟩ | ⟨hu, hf⟩
  · have hr : unitRes u = .tuple #[.agg #[.int .i64 p, .int .u64 m], .bool true] := by unfold unitRes unitOf; rw [hu]
    rw [hr]
    have HF := Aside0.mk (fun W r hr => P2.out W r hr #[{ key := .string ⟨#[109, 115]⟩, val := .agg #[.int .i64 7, .int .u64 1000000], born := 0 }, { key := .string ⟨#[115]⟩, val := .agg #[.int .i64 6, .int .u64 1000000000], born := 1 }, { key := .string ⟨#[109]⟩, val := .agg #[.int .i64 5, .int .u64 60000000000], born := 2 }, { key := .string ⟨#[104]⟩, val := .agg #[.int .i64 4, .int .u64 3600000000000], born := 3 }, { key := .string ⟨#[100]⟩, val := .agg #[.int .i64 3, .int .u64 86400000000000], born := 4 }, { key := .string ⟨#[119]⟩, val := .agg #[.int .i64 2, .int .u64 604800000000000], born := 5 }, { key := .string ⟨#[121]⟩, val := .agg #[.int .i64 1, .int .u64 31536000000000000], born := 6 }] 7 u j (.agg #[.int .i64 p, .int .u64 m]) hf)
    clear hf hr hu
    go_enter Tryd.func15, Tryd.ntmps15
    go_wp2_with (first | (rw [run_makeMap]; skip) | (rw [P1.out _ _ (by simp) _ _ _ _ rfl]; skip) | (rw [HF.out _ _ (by simp)]; skip))
    refine bodyPost_ret (v := .tuple #[.agg #[.int .i64 p, .int .u64 m], .bool true]) ?_ rfl ?_
    · simp [results]
      go_simp
    · exact ⟨rfl, below_alloc (below_alloc (below_alloc (Below.refl _ _) _) _) _⟩
  · have hr : unitRes u = .tuple #[.agg #[.int .i64 0, .int .u64 0], .bool false] := by unfold unitRes unitOf; rw [hu]
    rw [hr]
    have HF := Aside0.mk (fun W r hr => P3.out W r hr #[{ key := .string ⟨#[109, 115]⟩, val := .agg #[.int .i64 7, .int .u64 1000000], born := 0 }, { key := .string ⟨#[115]⟩, val := .agg #[.int .i64 6, .int .u64 1000000000], born := 1 }, { key := .string ⟨#[109]⟩, val := .agg #[.int .i64 5, .int .u64 60000000000], born := 2 }, { key := .string ⟨#[104]⟩, val := .agg #[.int .i64 4, .int .u64 3600000000000], born := 3 }, { key := .string ⟨#[100]⟩, val := .agg #[.int .i64 3, .int .u64 86400000000000], born := 4 }, { key := .string ⟨#[119]⟩, val := .agg #[.int .i64 2, .int .u64 604800000000000], born := 5 }, { key := .string ⟨#[121]⟩, val := .agg #[.int .i64 1, .int .u64 31536000000000000], born := 6 }] 7 u (.agg #[.int .i64 0, .int .u64 0]) (fun w => Tryd.zeroValue39 w) hf)
    clear hf hr hu
    go_enter Tryd.func15, Tryd.ntmps15
    go_wp2_with (first | (rw [run_makeMap]; skip) | (rw [P1.out _ _ (by simp) _ _ _ _ rfl]; skip) | (rw [HF.out _ _ (by simp)]; skip))
    refine bodyPost_ret (v := .tuple #[.agg #[.int .i64 0, .int .u64 0], .bool false]) ?_ rfl ?_
    · simp [results]
      go_simp
    · exact ⟨rfl, below_alloc (below_alloc (below_alloc (Below.refl _ _) _) _) _⟩
end Go.Proofs.YtdookfmcphmlgaaDoor.Door
