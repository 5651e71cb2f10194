/- Sets of labels as pairs, over plain lists (seat b). -/
import Derived.Test.YtbffcmiabcmjcaaQx1
import Derived.Test.YtbffcmiabcmjcaaQx2
import Derived.Test.YtbffcmiabcmjcaaFits1
import Derived.Test.YtbffcmiabcmjcaaSpecSet
set_option linter.unusedVariables false
set_option linter.unusedSimpArgs false
namespace Go.Proofs.Ytbffcmiabcmjcaa.Pure
open Go.RowKit Go.Proofs.Ytbffcmiabcmjcaa.Q Go.Proofs.Ytbffcmiabcmjcaa.MapsS Go.Proofs.YtbffcmiabcmjcaaW.PrintWords Go.Proofs.YtbffcmiabcmjcaaW.PrintLast
abbrev PairI := S26
def prI (p : PairI) : ByteArray × ByteArray := (p.f0, p.f1)
theorem setL_fill (l : List PairI) : setL l = fill (l.map prI) [] := by
  unfold setL fill
  rw [List.foldl_map]
  rfl
theorem specSet_pairs (l : List PairI) (hl : l.length ≤ 4000000000) : Ev (fun k => spec_Set.f k (l.map toSP)) ((setL l).map unS) := by
  have h := specSet_ev (l.map toSP) (by rw [List.length_map]; exact hl)
  rw [List.map_map] at h
  rw [setL_fill]
  exact h
theorem eqP_same : ∀ m : SM, eqP (m.map toPI) (m.map unS) = true
  | [] => rfl
  | p :: r => by
    have ih := eqP_same r
    rw [List.map_cons, List.map_cons]
    unfold eqP neP
    simp only [toPI, unS, beq_self_eq_true, Bool.and_self, Bool.not_true, Bool.false_eq_true, if_false]
    exact ih
theorem eqPairs_same (m : SM) (hl : m.length ≤ maxLen) : laws_eqPairs.f (m.map toPI) (m.map unS) = some true := by
  unfold laws_eqPairs.f
  rw [if_pos (by rw [List.length_map]; exact hl), eqP_same]
theorem less9_of {l : List PairI} (h : l.length ≤ 1000000000) (hk : ∀ y ∈ l, okS26 y) : less9 l = true := by
  unfold less9
  rw [Bool.and_eq_true]
  refine ⟨decide_eq_true h, List.all_eq_true.2 fun p hp => ?_⟩
  obtain ⟨h1, h2⟩ := hk p hp
  simp [small2, h1, h2]
end Go.Proofs.Ytbffcmiabcmjcaa.Pure
