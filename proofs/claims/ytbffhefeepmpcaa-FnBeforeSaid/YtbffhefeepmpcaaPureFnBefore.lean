/- The law FnBefore over plain lists: matchers are ordered by name, then by value, then by type. -/
import Derived.Test.YtbffhefeepmpcaaQx23
import Derived.Test.YtbffhefeepmpcaaFits3
import Derived.Test.YtbffhefeepmpcaaValues
set_option linter.unusedVariables false
set_option linter.unusedSimpArgs false
namespace Go.Proofs.Ytbffhefeepmpcaa.Pure
open Go.RowKit Go.Proofs.Ytbffhefeepmpcaa.Q Go.Proofs.YtbffhefeepmpcaaW.PrintWords Go.Proofs.YtbffhefeepmpcaaW.PrintLast
def before1 (x y : S37) : Bool :=
  if x.f1.toList = y.f1.toList then (if x.f2.toList = y.f2.toList then decide (x.f0 < y.f0) else Op.bytesLess x.f2.toList y.f2.toList) else Op.bytesLess x.f1.toList y.f1.toList
theorem before_eq (x y : S37) : laws_before.f x.f0 x.f1 x.f2 y.f0 y.f1 y.f2 = some (before1 x y) := by
  unfold laws_before.f before1
  repeat' split
  all_goals rfl
theorem less_before (x y : S37) : lessM (toMat x) (toMat y) = before1 x y := by
  unfold lessM before1 toMat
  simp only
  by_cases h1 : x.f1.toList = y.f1.toList
  · rw [if_neg (by rw [h1, less_irrefl]; simp), if_pos (by simp [h1]), if_pos h1]
    by_cases h2 : x.f2.toList = y.f2.toList
    · rw [if_neg (by rw [h2, less_irrefl]; simp), if_pos (by simp [h2]), if_pos h2]
    · rw [if_neg h2]
      cases hb : Op.bytesLess x.f2.toList y.f2.toList
      · rw [if_neg (by simp), if_neg (by simpa using h2)]
      · rw [if_pos rfl]
  · rw [if_neg h1]
    cases hb : Op.bytesLess x.f1.toList y.f1.toList
    · rw [if_neg (by simp), if_neg (by simpa using h1)]
    · rw [if_pos rfl]
theorem order_eq (x y : S37) : ∃ t, spec_Order.f x.f0 x.f1 x.f2 y.f0 y.f1 y.f2 = some t ∧ decide (t < 0) = before1 x y := by
  have sg : ∀ b : Bool, ∃ t, spec_sign.f b = some t ∧ decide (t < 0) = b := fun b => by cases b <;> exact ⟨_, rfl, by decide⟩
  unfold spec_Order.f before1
  by_cases h1 : x.f1.toList = y.f1.toList
  · rw [if_pos h1, if_pos h1]
    by_cases h2 : x.f2.toList = y.f2.toList
    · rw [if_pos h2, if_pos h2]
      by_cases h3 : x.f0 = y.f0
      · rw [if_pos h3]
        refine ⟨0, rfl, ?_⟩
        rw [h3]
        simp
      · rw [if_neg h3]
        obtain ⟨t, e, h⟩ := sg (decide (x.f0 < y.f0))
        exact ⟨t, by rw [e]; rfl, h⟩
    · rw [if_neg h2, if_neg h2]
      obtain ⟨t, e, h⟩ := sg (Op.bytesLess x.f2.toList y.f2.toList)
      exact ⟨t, by rw [e]; rfl, h⟩
  · rw [if_neg h1, if_neg h1]
    obtain ⟨t, e, h⟩ := sg (Op.bytesLess x.f1.toList y.f1.toList)
    exact ⟨t, by rw [e]; rfl, h⟩
theorem typed_ev (l : List S37) (hl : l.length ≤ maxLen) : ∃ b, Ev (fun k => laws_typed.f k l) b ∧ (b = true → l.length ≤ 2000) := by
  unfold laws_typed.f
  cases hv : (l.all plainType && decide ((l.length : Int) ≤ 10000))
  · refine ⟨false, Ev.bind (values_ev l hl) ?_, fun h => by cases h⟩
    rw [hv]
    exact Ev.now _
  · refine ⟨decide ((l.length : Int) ≤ 2000), Ev.bind (values_ev l hl) ?_, fun h => by have := of_decide_eq_true h; omega⟩
    rw [hv]
    exact Ev.now _
theorem j0_true (l : List S37) (i j : Int) : Ev (fun k => laws_FnBefore.j0 k l i j true) true := ev_succ (fun k => by simp only [laws_FnBefore.j0]; rfl)
theorem FnBefore : laws_FnBefore.Pure := by
  intro l i j ⟨hl, _⟩ hi hj
  refine Ev.rounds ?_
  unfold laws_FnBefore.f
  refine Ev.bind (zzFits3_ev l hl) ?_
  cases hz : (if (l.length : Int) > 2147483647 then false else l.all fits4)
  · simp only [Bool.false_eq_true, if_false]
    exact Ev.now _
  have hn := fits3_len hz
  simp only [if_true]
  rw [show impl_Before.f _ 0 1 = some true from by decide +kernel]
  simp only [Option.bind_some, if_true]
  obtain ⟨b, hb, hb2⟩ := typed_ev l hl
  refine Ev.bind hb ?_
  cases b
  · simp only [Bool.false_eq_true, if_false]
    exact j0_true l i j
  simp only [if_true]
  by_cases h1 : i < 0
  · simp only [if_pos h1]; exact j0_true l i j
  by_cases h2 : j < 0
  · simp only [if_neg h1, if_pos h2]; exact j0_true l i j
  by_cases h3 : i ≥ (l.length : Int)
  · simp only [if_neg h1, if_neg h2, if_pos h3]; exact j0_true l i j
  simp only [if_neg h1, if_neg h2, if_neg h3]
  by_cases h4 : j ≥ (l.length : Int)
  · rw [decide_eq_true h4]; exact j0_true l i j
  rw [decide_eq_false h4]
  refine ev_succ (fun k => ?_)
  obtain ⟨t, ht, hlt⟩ := order_eq (rd_T37 l i) (rd_T37 l j)
  have hI : impl_Before.f l i j = some (before1 (rd_T37 l i) (rd_T37 l j)) := by
    unfold impl_Before.f
    rw [if_pos (by omega), if_pos ⟨by omega, by omega, by omega, by omega⟩, less_before]
  simp only [laws_FnBefore.j0]
  rw [if_neg (by simp), hI, Option.bind_some, if_pos (by omega), if_pos (by omega), if_pos (by omega), if_pos (by omega), before_eq, Option.bind_some, if_pos (by simp), Option.bind_some, ht, Option.bind_some, hlt]
  simp
end Go.Proofs.Ytbffhefeepmpcaa.Pure
