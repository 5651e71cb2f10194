/- The law FnMetricTextSays over plain lists. -/
import Derived.Test.YtenededepjfojaaDoorQx11
import Derived.Test.YtenededepjfojaaDoorMSpec
import Derived.Test.YtenededepjfojaaDoorMOwn
set_option linter.unusedVariables false
set_option linter.unusedSimpArgs false
namespace Go.Proofs.YtenededepjfojaaDoor.Pure
open Go.RowKit Go.Proofs.YtenededepjfojaaDoor.Q Go.Proofs.YtenededepjfojaaDoor.MapsS Go.Proofs.YtenededepjfojaaDoor.Door Go.Proofs.YtenededepjfojaaDoorW.PrintWords Go.Proofs.YtenededepjfojaaDoorW.PrintLast
theorem FnMetricTextSays : laws_FnMetricTextSays.Pure := by
  intro l ⟨hl, hw⟩
  refine Ev.rounds ?_
  unfold laws_FnMetricTextSays.f
  refine Ev.bind (zzFits1_ev l hl) ?_
  by_cases hb : (l.length : Int) > 2147483647
  · simp only [if_pos hb, Bool.false_eq_true, if_false]
    exact Ev.now _
  simp only [if_neg hb]
  cases hf : l.all fits2 with
  | false =>
    simp only [Bool.false_eq_true, if_false]
    exact Ev.now _
  | true =>
  simp only [if_true]
  rw [metric_ab]
  simp only [Option.bind_some, if_pos metric_ab_toList]
  unfold laws_much.f
  simp only [Option.bind_some]
  by_cases h1 : (l.length : Int) > 300
  · simp only [decide_eq_true h1, if_true]
    exact Ev.now _
  simp only [decide_eq_false h1, Bool.false_eq_true, if_false]
  refine Ev.bind (pairs_ev l (by omega)) ?_
  obtain ⟨r, hr, hc⟩ := specMetric_ev l (by omega) (fits31 hf)
  refine Ev.bind hr ?_
  by_cases hq : r.2 = 1
  · simp only [if_pos hq, hc hq]
    rw [implMetric l (by omega) (fits31 hf)]
    simp only [Option.bind_some, beq_self_eq_true]
    exact Ev.now _
  · simp only [if_neg hq]
    exact Ev.now _
end Go.Proofs.YtenededepjfojaaDoor.Pure
