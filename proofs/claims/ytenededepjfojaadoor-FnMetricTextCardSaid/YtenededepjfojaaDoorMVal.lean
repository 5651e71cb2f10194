/- Sets of labels over plain lists: the set that pairs make, the value of a name, whether there is one; texts put in their order. -/
import Derived.Test.YtenededepjfojaaDoorFits1
import Derived.Test.YtenededepjfojaaDoorFitsZ
import Derived.Test.YtenededepjfojaaDoorSpecSet
import Derived.Test.YtenededepjfojaaDoorQx1
set_option linter.unusedVariables false
set_option linter.unusedSimpArgs false
namespace Go.Proofs.YtenededepjfojaaDoor.Pure
open Go.RowKit Go.Proofs.YtenededepjfojaaDoor.Q Go.Proofs.YtenededepjfojaaDoor.MapsS Go.Proofs.YtenededepjfojaaDoorW.PrintWords Go.Proofs.YtenededepjfojaaDoorW.PrintLast
def prI (p : S26) : ByteArray × ByteArray := (p.f0, p.f1)
theorem setL_fill (l : List S26) : setL l = fill (l.map prI) [] := by
  unfold setL fill
  rw [List.foldl_map]
  rfl
theorem setL_rises (l : List S26) : Rises (setL l) := by rw [setL_fill]; exact rises_fill _ List.Pairwise.nil
theorem specSet_pairs (l : List S26) (hl : l.length ≤ 4000000000) : Ev (fun k => spec_Set.f k (l.map toSP)) ((setL l).map unS) := by
  have h := specSet_ev (l.map toSP) (by rw [List.length_map]; exact hl)
  rw [List.map_map] at h
  rw [setL_fill]
  exact h
/-! ### texts in their order -/
def LeB (a b : ByteArray) : Prop := a.data.toList ≤ b.data.toList
theorem sortB_eq {l r : List ByteArray} (hp : l.Perm r) (hs : l.Pairwise LeB) : l = sortB r := by
  refine List.Perm.eq_of_pairwise (le := fun x y => decide (x.data.toList ≤ y.data.toList) = true) (fun a b _ _ h1 h2 => ba_ext (List.le_antisymm (of_decide_eq_true h1) (of_decide_eq_true h2))) (hs.imp fun {a b} (h : LeB a b) => decide_eq_true (show a.data.toList ≤ b.data.toList from h)) ?_ (hp.trans (sortB_perm r).symm)
  exact List.pairwise_mergeSort (le := fun x y : ByteArray => decide (x.data.toList ≤ y.data.toList)) (fun a b c h1 h2 => decide_eq_true (List.le_trans (of_decide_eq_true h1) (of_decide_eq_true h2))) (fun a b => by rcases List.le_total a.data.toList b.data.toList with h | h <;> simp [h]) r
theorem less_iff (a b : ByteArray) : Op.bytesLess a.toList b.toList = decide (a.data.toList < b.data.toList) := by rw [less_eq, Go.Lib.toList_data, Go.Lib.toList_data]
/-- A text takes its place ahead of the first one that is not less. -/
def insB (t : ByteArray) : List ByteArray → List ByteArray
  | [] => [t]
  | x :: r => if Op.bytesLess x.toList t.toList = true then x :: insB t r else t :: x :: r
theorem insB_perm (t : ByteArray) : ∀ l, (insB t l).Perm (t :: l)
  | [] => List.Perm.refl _
  | x :: r => by
    unfold insB
    split
    · exact ((insB_perm t r).cons x).trans (List.Perm.swap t x r)
    · exact List.Perm.refl _
theorem insB_sorted (t : ByteArray) : ∀ {l : List ByteArray}, l.Pairwise LeB → (insB t l).Pairwise LeB
  | [], _ => List.pairwise_singleton _ _
  | x :: r, h => by
    obtain ⟨h1, h2⟩ := List.pairwise_cons.1 h
    unfold insB
    split
    · rename_i hl
      rw [less_iff] at hl
      refine List.pairwise_cons.2 ⟨fun q hq => ?_, insB_sorted t h2⟩
      rcases List.mem_cons.1 ((insB_perm t r).mem_iff.1 hq) with rfl | hq
      · exact List.le_of_lt (of_decide_eq_true hl)
      · exact h1 q hq
    · rename_i hl
      rw [less_iff] at hl
      have hx : LeB t x := List.not_lt.1 (fun e => hl (decide_eq_true e))
      refine List.pairwise_cons.2 ⟨fun q hq => ?_, h⟩
      rcases List.mem_cons.1 hq with rfl | hq
      · exact hx
      · exact List.le_trans hx (h1 q hq)
def insAll (l out : List ByteArray) : List ByteArray := l.foldl (fun o t => insB t o) out
theorem insAll_spec : ∀ (l : List ByteArray) {out : List ByteArray}, out.Pairwise LeB → (insAll l out).Pairwise LeB ∧ (insAll l out).Perm (out ++ l)
  | [], out, h => ⟨h, by rw [List.append_nil]; exact List.Perm.refl _⟩
  | t :: l, out, h => by
    obtain ⟨h1, h2⟩ := insAll_spec l (insB_sorted t h)
    refine ⟨h1, h2.trans ?_⟩
    refine ((insB_perm t out).append_right l).trans ?_
    rw [List.cons_append]
    exact List.perm_middle.symm
theorem insAll_sort (l : List ByteArray) : insAll l [] = sortB l := by
  obtain ⟨h1, h2⟩ := insAll_spec l (out := []) List.Pairwise.nil
  exact sortB_eq (by simpa using h2) h1
theorem insAll_len (l : List ByteArray) : (insAll l []).length = l.length := by
  have := (insAll_spec l (out := []) List.Pairwise.nil).2.length_eq
  simpa using this
/-! ### the value of a name -/
def lastOf (k : ByteArray) (l : List (ByteArray × ByteArray)) (v : ByteArray) : ByteArray := l.foldl (fun v p => if p.1 = k then p.2 else v) v
theorem lastOf_cons (k : ByteArray) (x : ByteArray × ByteArray) (r : List (ByteArray × ByteArray)) (v : ByteArray) : lastOf k (x :: r) v = lastOf k r (if x.1 = k then x.2 else v) := rfl
theorem lastOf_eq (k : ByteArray) : ∀ (l : List (ByteArray × ByteArray)) (v : ByteArray), lastOf k l v = (lastV k l).getD v
  | [], _ => rfl
  | x :: r, v => by
    rw [lastOf_cons, lastOf_eq k r, lastV_cons]
    cases lastV k r with
    | some u => rfl
    | none => by_cases e : k = x.1 <;> simp [e, eq_comm]
theorem look_set (s : List S26) (k : ByteArray) : MapsS.look k (setL s) = lastV k (s.map prI) := by
  rw [setL_fill, look_fill]
  cases lastV k (s.map prI) <;> rfl
def valS (s : List S26) (k : ByteArray) : ByteArray := lastOf k (s.map prI) ⟨#[]⟩
theorem valS_look (s : List S26) (k : ByteArray) : valS s k = (MapsS.look k (setL s)).getD ⟨#[]⟩ := by
  unfold valS
  rw [look_set, lastOf_eq]
end Go.Proofs.YtenededepjfojaaDoor.Pure
