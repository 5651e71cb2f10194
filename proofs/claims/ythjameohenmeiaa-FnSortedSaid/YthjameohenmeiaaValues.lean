/- values over plain lists: all matchers compare values, and there are not too many. -/
import Derived.Test.YthjameohenmeiaaQx4
import Derived.Test.YthjameohenmeiaaLib
set_option linter.unusedVariables false
set_option linter.unusedSimpArgs false
namespace Go.Proofs.Ythjameohenmeiaa.Pure
open Go.RowKit Go.Proofs.Ythjameohenmeiaa.Q Go.Proofs.YthjameohenmeiaaW.PrintWords Go.Proofs.YthjameohenmeiaaW.PrintLast
def plainType (x : S32) : Bool := decide (x.f0 = 0) || decide (x.f0 = 1)
theorem values_ev (l : List S32) (hl : l.length ≤ maxLen) : Ev (fun k => laws_values.f k l) (l.all plainType && decide ((l.length : Int) ≤ 10000)) := by
  unfold laws_values.f
  refine ev_all_end l z32 plainType _ (L := fun k i => laws_values.l0 k l l (l.length : Int) i) (fun k => ?_) (fun i hi b hb => ?_)
  · simp only [laws_values.l0]
    rw [if_neg (by omega)]
  · refine Ev.step (fun k => ?_) (f := fun k => if plainType (l.getD i z32) = true then laws_values.l0 k l l (l.length : Int) ((i + 1 : Nat) : Int) else some false) ?_
    · show laws_values.l0 (k + 1) l l (l.length : Int) (i : Int) = _
      simp only [laws_values.l0]
      rw [if_pos (by omega), if_pos (by omega), if_pos (by omega), wrap_next hi hl]
      rw [show rd_T32 l (i : Int) = l.getD i z32 from rfl]
      generalize l.getD i z32 = x
      unfold plainType
      by_cases h0 : x.f0 = 0
      · simp [h0]
      · by_cases h1 : x.f0 = 1 <;> simp [h0, h1]
    · cases hf : plainType (l.getD i z32)
      · simp only [Bool.false_eq_true, if_false]
        exact Ev.now _
      · simp only [if_true]
        exact hb
end Go.Proofs.Ythjameohenmeiaa.Pure
