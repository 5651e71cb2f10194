/- The law FnSortedPairs over plain lists. -/
import Derived.Test.YtbffcmiabcmjcaaQx4
import Derived.Test.YtbffcmiabcmjcaaKvP
set_option linter.unusedVariables false
set_option linter.unusedSimpArgs false
namespace Go.Proofs.Ytbffcmiabcmjcaa.Pure
open Go.RowKit Go.Proofs.Ytbffcmiabcmjcaa.Q Go.Proofs.Ytbffcmiabcmjcaa.MapsS Go.Proofs.YtbffcmiabcmjcaaW.PrintWords Go.Proofs.YtbffcmiabcmjcaaW.PrintLast
theorem FnSortedPairs : laws_FnSortedPairs.Pure := by
  intro l ⟨hl, hk⟩
  refine Ev.rounds ?_
  unfold laws_FnSortedPairs.f
  refine Ev.bind (zzFits1_ev l hl) ?_
  cases hz : (if (l.length : Int) > 2147483647 then false else l.all fits2)
  · simp only [Bool.false_eq_true, if_false]
    exact Ev.now _
  simp only [if_true, laws_much.f]
  by_cases h1 : (l.length : Int) > 300
  · simp only [decide_eq_true h1, Option.bind_some, if_true]
    exact Ev.now _
  simp only [decide_eq_false h1, Bool.false_eq_true, if_false, Option.bind_some, sorted_eq (less9_of (by omega) hk)]
  refine Ev.bind (pairs_ev l (by omega)) (Ev.bind (specSorted_ev l (by omega)) ?_)
  rw [eqPairs_same _ (by rw [kvOrder_len]; have := setK_le l; unfold maxLen; omega)]
  exact Ev.now _
end Go.Proofs.Ytbffcmiabcmjcaa.Pure
