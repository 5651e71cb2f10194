/- values over plain lists: all matchers compare values, and there are not too many. -/
import Derived.Test.YtbffhefeepmpcaaQx5
import Derived.Test.YtbffhefeepmpcaaLib
set_option linter.unusedVariables false
set_option linter.unusedSimpArgs false
namespace Go.Proofs.Ytbffhefeepmpcaa.Pure
open Go.RowKit Go.Proofs.Ytbffhefeepmpcaa.Q Go.Proofs.YtbffhefeepmpcaaW.PrintWords Go.Proofs.YtbffhefeepmpcaaW.PrintLast
def plainType (x : S37) : Bool := decide (x.f0 = 0) || decide (x.f0 = 1)
theorem values_ev (l : List S37) (hl : l.length ≤ maxLen) : Ev (fun k => laws_values.f k l) (l.all plainType && decide ((l.length : Int) ≤ 10000)) := by
  unfold laws_values.f
  refine ev_all_end l z37 plainType _ (L := fun k i => laws_values.l0 k l l (l.length : Int) i) (fun k => ?_) (fun i hi b hb => ?_)
  · simp only [laws_values.l0]
    rw [if_neg (by omega)]
  · refine Ev.step (fun k => ?_) (f := fun k => if plainType (l.getD i z37) = true then laws_values.l0 k l l (l.length : Int) ((i + 1 : Nat) : Int) else some false) ?_
    · show laws_values.l0 (k + 1) l l (l.length : Int) (i : Int) = _
      simp only [laws_values.l0]
      rw [if_pos (by omega), if_pos (by omega), if_pos (by omega), wrap_next hi hl]
      rw [show rd_T37 l (i : Int) = l.getD i z37 from rfl]
      generalize l.getD i z37 = x
      unfold plainType
      by_cases h0 : x.f0 = 0
      · simp [h0]
      · by_cases h1 : x.f0 = 1 <;> simp [h0, h1]
    · cases hf : plainType (l.getD i z37)
      · simp only [Bool.false_eq_true, if_false]
        exact Ev.now _
      · simp only [if_true]
        exact hb
end Go.Proofs.Ytbffhefeepmpcaa.Pure
