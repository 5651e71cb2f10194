/- The law FnPrinted over plain texts. -/
import Derived.Test.YtpdfokdhnalfaaaDoorQx4
import Derived.Test.YtpdfokdhnalfaaaDoorPM
set_option linter.unusedVariables false
set_option linter.unusedSimpArgs false
namespace Go.Proofs.YtpdfokdhnalfaaaDoor.Pure
open Go.RowKit Go.Proofs.YtpdfokdhnalfaaaDoor.Q Go.Proofs.YtpdfokdhnalfaaaDoor.Door Go.Proofs.YtpdfokdhnalfaaaDoorW.PrintWords Go.Proofs.YtpdfokdhnalfaaaDoorW.PrintLast
theorem printed_ab : (pmB 0 (⟨#[97]⟩ : ByteArray) (⟨#[98]⟩ : ByteArray)).toList = ([97, 61, 34, 98, 34] : List UInt8) := by rw [Go.Lib.toList_data]; decide +kernel
theorem FnPrinted : laws_FnPrinted.Pure := by
  intro t n v ht hn0 hv0
  refine Ev.rounds ?_
  have hb := wf_i64 ht
  have hskip : ∀ a b c, Ev (fun k => laws_FnPrinted.j0 k true a b c) true := fun a b c => ev_succ fun k => by simp only [laws_FnPrinted.j0]; rw [if_pos trivial]
  unfold laws_FnPrinted.f laws_zzFits4.f
  by_cases h1 : (n.size : Int) > 2147483647
  · simp only [if_pos h1, Option.bind_some, Bool.false_eq_true, if_false]
    exact Ev.now _
  by_cases h2 : (v.size : Int) > 2147483647
  · simp only [if_neg h1, if_pos h2, Option.bind_some, Bool.false_eq_true, if_false]
    exact Ev.now _
  simp only [if_neg h1, if_neg h2, Option.bind_some, if_true]
  refine Ev.bind (f := fun k t160 => if t160.toList = ([97, 61, 34, 98, 34] : List UInt8) then (if (n.size : Int) > 5000 then (laws_FnPrinted.j0 k true t n v) else (laws_FnPrinted.j0 k (decide ((v.size : Int) > 5000)) t n v)) else (some false)) (mtext_ev 0 (⟨#[97]⟩ : ByteArray) (⟨#[98]⟩ : ByteArray) (by decide) (by decide) (by decide) (by decide) (by decide)) ?_
  simp only [if_pos printed_ab]
  by_cases h3 : (n.size : Int) > 5000
  · simp only [if_pos h3]
    exact hskip _ _ _
  simp only [if_neg h3]
  by_cases h4 : (v.size : Int) > 5000
  · simp only [decide_eq_true h4]
    exact hskip _ _ _
  simp only [decide_eq_false h4]
  obtain ⟨r, hr, hc⟩ := specPM_ev t n v (by omega) (by omega) hb.1
  refine Ev.step (fun k => by simp only [laws_FnPrinted.j0, Bool.false_eq_true, if_false]) (Ev.bind (f := fun k bt161 => if bt161.2 = 1 then ((impl_PrintMatcher.f k t n v).bind fun t163 => (some (t163.toList == bt161.1.toList))) else (some true)) hr ?_)
  rcases hc with ⟨e1, ⟨q1, q2, q3, q4, q5⟩, e2⟩ | ⟨e1, _⟩
  · simp only [if_pos e1, e2]
    obtain ⟨t, rfl⟩ : ∃ m : Nat, t = (m : Int) := ⟨t.toNat, by omega⟩
    refine Ev.bind (mtext_ev t n v (by omega) (by omega) (by omega) q1 q2) ?_
    simp only [Int.toNat_natCast, beq_self_eq_true]
    exact Ev.now _
  · simp only [if_neg e1]
    exact Ev.now _
end Go.Proofs.YtpdfokdhnalfaaaDoor.Pure
