/- The law FnWeekdaysBack over plain numbers. -/
import Derived.Test.YtfkapmbjnfnmmaaDoorQx3
import Derived.Test.YtfkapmbjnfnmmaaDoorDays
set_option linter.unusedVariables false
set_option linter.unusedSimpArgs false
namespace Go.Proofs.YtfkapmbjnfnmmaaDoor.Pure
open Go.RowKit Go.Proofs.YtfkapmbjnfnmmaaDoor.Q Go.Proofs.YtfkapmbjnfnmmaaDoorW.PrintWords Go.Proofs.YtfkapmbjnfnmmaaDoorW.PrintLast
def backG (x y : Int) : Option Bool := (impl_WeekdayText.f x y).bind fun bt114 => ((impl_Weekdays.f bt114.1).bind fun bt116 => (if bt114.2 = true then ((spec_WeekdayText.f x y).bind fun t119 => (if bt114.1.toList = t119.toList then (if bt116.2.2 = true then (if bt116.1 = x then (some (bt116.2.1 == y)) else (some false)) else (some false)) else (some false))) else (some false)))
theorem backG_ok : ∀ b e : Fin 7, b.val ≤ e.val → backG (b.val : Int) (e.val : Int) = some true := by decide +kernel
theorem mod7 {a : Int} (h : (Lit.int .u8 a).wf = true) : ∃ b : Fin 7, wrap64 (Int.tmod a 7) = (b.val : Int) := by
  have h0 : 0 ≤ a := by
    simp only [Lit.wf, Bool.and_eq_true, decide_eq_true_eq] at h
    exact h.1
  have h1 := Int.tmod_nonneg 7 h0
  have h2 := Int.tmod_lt_of_pos a (show (0 : Int) < 7 by omega)
  refine ⟨⟨(Int.tmod a 7).toNat, by omega⟩, ?_⟩
  show wrap64 (Int.tmod a 7) = (((Int.tmod a 7).toNat : Nat) : Int)
  unfold wrap64
  omega
theorem back_eq (a0 a1 : Int) : laws_FnWeekdaysBack.f a0 a1 = if (wrap64 (Int.tmod a0 7)) > (wrap64 (Int.tmod a1 7)) then backG (wrap64 (Int.tmod a1 7)) (wrap64 (Int.tmod a0 7)) else backG (wrap64 (Int.tmod a0 7)) (wrap64 (Int.tmod a1 7)) := rfl
theorem FnWeekdaysBack : laws_FnWeekdaysBack.Pure := by
  intro a0 a1 h0 h1
  obtain ⟨b, hb⟩ := mod7 h0
  obtain ⟨e, he⟩ := mod7 h1
  rw [back_eq, hb, he]
  by_cases hc : (b.val : Int) > (e.val : Int)
  · rw [if_pos hc]
    exact backG_ok e b (by omega)
  · rw [if_neg hc]
    exact backG_ok b e (by omega)
end Go.Proofs.YtfkapmbjnfnmmaaDoor.Pure
