/- Sets of texts (maps to struct{}) in memory: what a store and a look-up make of them. -/
import Derived.Test.YtcneoonhdfblaaaMaps
import Derived.Maps.OwnSet
import Derived.Maps.Views
set_option linter.unusedVariables false
set_option linter.unusedSimpArgs false
namespace Go.Proofs.Ytcneoonhdfblaaa.MapsS
open Go.RowKit Go.Maps Go.WideShapes Go.WideMaps Go.Proofs.YtcneoonhdfblaaaW.PrintWords Go.Proofs.Ytcneoonhdfblaaa.Pure
/-- Is a text one of these? -/
def inL (s : ByteArray) (ks : List ByteArray) : Bool := ks.any fun k => decide (s = k)
theorem inL_iff {s : ByteArray} {ks : List ByteArray} : inL s ks = true ↔ s ∈ ks := by
  unfold inL
  rw [List.any_eq_true]
  exact ⟨fun ⟨k, hk, e⟩ => by rw [of_decide_eq_true e]; exact hk, fun h => ⟨s, h, decide_eq_true rfl⟩⟩
theorem inL_app (s : ByteArray) (a b : List ByteArray) : inL s (a ++ b) = (inL s a || inL s b) := List.any_append
theorem inL_one (s k : ByteArray) : inL s [k] = decide (s = k) := by simp [inL]
section
variable {P : Program} {t k e : TypeId} {w w' : World} {b n : Nat} {ks : List ByteArray}
/-- Block b is a set of at most n texts, and these are those of ks. -/
def IsUS (P : Program) (k : TypeId) (w : World) (b n : Nat) (ks : List ByteArray) : Prop :=
  ∃ D : DataW Unit, w.ownsMap P k (unitElem (H := Unit)) b n D ∧ IsMap D ∧ ∀ s : ByteArray, has D (keyL s) = inL s ks
theorem key_lit (s : ByteArray) : WideAt.IsKeyLit (keyL s) := trivial
theorem IsUS.made (w : World) (P : Program) (k : TypeId) : IsUS P k (w.alloc (.map #[] 0)) w.heap.size 0 [] :=
  ⟨.map [], World.ownsMap_made w P k _, isMap_empty, fun s => rfl⟩
theorem IsUS.lt (h : IsUS P k w b n ks) : b < w.heap.size := by obtain ⟨D, h, _⟩ := h; exact h.lt
theorem IsUS.kept (h : IsUS P k w b n ks) {row : Option Nat} (hg : w.grownBy w' row) (hne : some b ≠ row) : IsUS P k w' b n ks := by obtain ⟨D, h, h2⟩ := h; exact ⟨D, h.kept hg hne, h2⟩
theorem IsUS.below (h : IsUS P k w b n ks) (hb : Below w.heap.size w w') : IsUS P k w' b n ks := h.kept (grown_of_below hb none) (by simp)
theorem IsUS.alloc (h : IsUS P k w b n ks) (o : Obj) : IsUS P k (w.alloc o) b n ks := by obtain ⟨D, h, h2⟩ := h; exact ⟨D, h.alloc o, h2⟩
theorem IsUS.mono (h : IsUS P k w b n ks) {j : Nat} (hj : n ≤ j) : IsUS P k w b j ks := by obtain ⟨D, h, h2⟩ := h; exact ⟨D, h.mono hj, h2⟩
theorem IsUS.store (ht : P.underlying t = some (.map k e)) (hk : P.underlying k = some .string) (h : IsUS P k w b n ks) (hn : n < maxLen) {key : ByteArray} (h1 : key.size ≤ maxLen) :
    ∃ w', (Instr.mapUpdate t (.map (some b)) (.string key) (.agg #[])).run P w = .ok () w' ∧ IsUS P k w' b (n + 1) (ks ++ [key]) ∧ w.grownBy w' (some b) := by
  obtain ⟨D, ho, hm, hh⟩ := h
  obtain ⟨w', hr, ho', hg⟩ := ho.update (string_keyed hk) ht hn (key := .string key) (keyOf_string_mk hk h1) (unitElem_mk (H := Unit))
  refine ⟨w', hr, ⟨_, ho', hm.put _ _, fun s => ?_⟩, hg⟩
  by_cases e : s = key
  · subst e
    have := has_put_same hm (key_lit s) (.agg [])
    rw [show (Lit.string s.data.toList) = keyL s from rfl, this, inL_app, inL_one, decide_eq_true rfl, Bool.or_true]
  · have hne : keyL s ≠ keyL key := fun h => e (keyL_inj h)
    rw [show (Lit.string key.data.toList) = keyL key from rfl, has_put_other hne, hh s, inL_app, inL_one, decide_eq_false e, Bool.or_false]
theorem wpList_store_us {ops : Array Oper} {rest : List Oper} {o : Oper} {a : Act} {Q : Exit → Act → World → Prop}
    (hg : o.guard = none) (mo x v : Operand) (hop : o.op = Op.mapUpdate t mo x v) (ht : P.underlying t = some (.map k e)) (hk : P.underlying k = some .string)
    (hm : a.eval mo = .map (some b)) (h : IsUS P k w b n ks) (hn : n < maxLen) {key : ByteArray} (hx : a.eval x = .string key) (hv : a.eval v = .agg #[]) (h1 : key.size ≤ maxLen)
    (hK : ∀ w', IsUS P k w' b (n + 1) (ks ++ [key]) → w.grownBy w' (some b) → wpList P ops Q rest (a.put o.dst undef) w') : wpList P ops Q (o :: rest) a w := by
  refine wpList_plain hg fun K' hK' => ?_
  obtain ⟨w', hrun, r1, r2⟩ := h.store ht hk hn h1
  unfold Oper.wp
  simp [execOp, hop, hm, hx, hv, hrun, Result.andThen]
  exact hK' _ _ (hK w' r1 r2)
theorem IsUS.look_ok_run (ht : P.underlying t = some (.map k e)) (hk : P.underlying k = some .string) (hz : (zeroValue e).run P w = .ok (.agg #[]) w) (h : IsUS P k w b n ks) {key : ByteArray} (h1 : key.size ≤ maxLen) :
    (Instr.lookup t (.map (some b)) (.string key) true).run P w = .ok (.tuple #[.agg #[], .bool (inL key ks)]) w := by
  obtain ⟨D, ho, hm, hh⟩ := h
  obtain ⟨v, ps, hr, hv⟩ := ho.look_ok (string_keyed hk) ht hz (unitElem_mk (H := Unit)) (key := .string key) (keyOf_string_mk hk h1)
  obtain ⟨rfl, _⟩ := unitElem_inv hv
  rw [hr, show (Lit.string key.data.toList) = keyL key from rfl, hh key]
end
end Go.Proofs.Ytcneoonhdfblaaa.MapsS
