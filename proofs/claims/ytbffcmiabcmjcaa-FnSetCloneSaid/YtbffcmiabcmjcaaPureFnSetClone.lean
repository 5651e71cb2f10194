/- The law FnSetClone over plain lists. -/
import Derived.Test.YtbffcmiabcmjcaaQx4
import Derived.Test.YtbffcmiabcmjcaaSetsB
set_option linter.unusedVariables false
set_option linter.unusedSimpArgs false
namespace Go.Proofs.Ytbffcmiabcmjcaa.Pure
open Go.RowKit Go.Proofs.Ytbffcmiabcmjcaa.Q Go.Proofs.Ytbffcmiabcmjcaa.MapsS Go.Proofs.YtbffcmiabcmjcaaW.PrintWords Go.Proofs.YtbffcmiabcmjcaaW.PrintLast
theorem clone_eq {l : List PairI} (h : less9 l = true) : impl_SetClone.f l = some ((setL l).map toPI) := by
  unfold impl_SetClone.f
  rw [if_pos h]
theorem FnSetClone : laws_FnSetClone.Pure := by
  intro l ⟨hl, hk⟩
  refine Ev.rounds ?_
  unfold laws_FnSetClone.f
  refine Ev.bind (zzFits1_ev l hl) ?_
  cases hz : (if (l.length : Int) > 2147483647 then false else l.all fits2)
  · simp only [Bool.false_eq_true, if_false]
    exact Ev.now _
  simp only [if_true]
  have e0 : impl_SetClone.f [(⟨(⟨#[97]⟩ : ByteArray), (⟨#[]⟩ : ByteArray)⟩ : PairI)] = some ((setL [(⟨(⟨#[97]⟩ : ByteArray), (⟨#[]⟩ : ByteArray)⟩ : PairI)]).map toPI) := clone_eq (by decide +kernel)
  have e1 : (((setL [(⟨(⟨#[97]⟩ : ByteArray), (⟨#[]⟩ : ByteArray)⟩ : PairI)]).map toPI).length : Int) = 1 := by rw [List.length_map]; rfl
  simp only [e0, Option.bind_some, e1, if_true, laws_much.f]
  by_cases h1 : (l.length : Int) > 300
  · simp only [decide_eq_true h1, if_true]
    exact Ev.now _
  simp only [decide_eq_false h1, Bool.false_eq_true, if_false]
  simp only [clone_eq (less9_of (by omega) hk), Option.bind_some]
  refine Ev.bind (pairs_ev l (by omega)) (Ev.bind (specSet_pairs l (by omega)) ?_)
  rw [eqPairs_same (setL l) (by have := setL_le l; unfold maxLen; omega)]
  exact Ev.now _
end Go.Proofs.Ytbffcmiabcmjcaa.Pure
