/- The law FnMatchAll over plain lists. -/
import Derived.Test.YtbffhefeepmpcaaFitsAll
set_option linter.unusedVariables false
set_option linter.unusedSimpArgs false
namespace Go.Proofs.Ytbffhefeepmpcaa.Pure
open Go.RowKit Go.Proofs.Ytbffhefeepmpcaa.Q Go.Proofs.Ytbffhefeepmpcaa.MapsS Go.Proofs.YtbffhefeepmpcaaW.PrintWords Go.Proofs.YtbffhefeepmpcaaW.PrintLast
theorem matchAll_eq {l : List MatIn} {s : SetIn} (hl : l.length ≤ 2147483647) (hp : l.all plainType = true) (hk : ∀ y ∈ l, okS37 y) (hs : lessMax s = true) : impl_MatchAll.f l s = some (l.all (matchQ s)) := by
  unfold impl_MatchAll.f
  rw [if_pos ⟨by unfold less44; rw [okM0_all hp hk, decide_eq_true (by omega : l.length ≤ 17592186044416), decide_eq_true (by unfold maxLen; omega : l.length ≤ maxLen)]; rfl, hs⟩, (all_q hp).2]
theorem matchNone {s : SetIn} (hs : lessMax s = true) : impl_MatchAll.f [] s = some true := matchAll_eq (l := []) (Nat.zero_le _) rfl (fun y hy => by cases hy) hs
theorem FnMatchAll : laws_FnMatchAll.Pure := by
  intro l s ⟨hl, hkl⟩ ⟨hs, hks⟩
  refine Ev.rounds ?_
  have done0 : Ev (fun k => laws_FnMatchAll.j0 k l s true) true := ev_succ (fun k => by simp only [laws_FnMatchAll.j0]; rfl)
  unfold laws_FnMatchAll.f
  refine Ev.bind (zzFits3_ev l hl) ?_
  cases hz : (if (l.length : Int) > 2147483647 then false else l.all fits4)
  · simpa only [Bool.false_eq_true, if_false] using done0
  simp only [if_true]
  refine Ev.bind (zzFits1_ev s hs) ?_
  cases hy : (if (s.length : Int) > 2147483647 then false else s.all fits2)
  · exact done0
  have nl := fits3_len hz
  obtain ⟨ns, _⟩ := fits1_len hy
  have ms := lessMax_of ns hks
  have done1 : Ev (fun k => laws_FnMatchAll.j1 k l s true) true := ev_succ (fun k => by simp only [laws_FnMatchAll.j1, matchNone ms]; rfl)
  refine Ev.step (f := fun k => (laws_values.f k l).bind fun t301 => (if t301 = true then (laws_FnMatchAll.j1 k l s (decide ((s.length : Int) > 10000))) else (laws_FnMatchAll.j1 k l s true))) (fun k => by simp only [laws_FnMatchAll.j0, Bool.not_true, Bool.false_eq_true, if_false]) ?_
  refine Ev.bind (values_ev l hl) ?_
  cases hv : (l.all plainType && decide ((l.length : Int) ≤ 10000))
  · simpa only [Bool.false_eq_true, if_false] using done1
  simp only [if_true]
  rw [Bool.and_eq_true] at hv
  obtain ⟨hp, -⟩ := hv
  by_cases h1 : (s.length : Int) > 10000
  · rw [decide_eq_true h1]
    exact done1
  rw [decide_eq_false h1]
  have e1 := matchAll_eq nl hp hkl ms
  obtain ⟨e2, -⟩ := all_q (s := s) hp
  refine Ev.step (f := fun k => (laws_fits.f k l s).bind fun t304 => (if (l.all (matchQ s) == t304) = true then ((laws_matchers.f k l).bind fun t306 => ((laws_pairs.f k s).bind fun t309 => ((spec_MatchAll.f k t306 t309).bind fun t312 => (if (l.all (matchQ s) == (t312 == 1)) = true then some true else (some false))))) else (some false))) (fun k => by simp only [laws_FnMatchAll.j1, Bool.false_eq_true, if_false, e1, matchNone ms, Option.bind_some]) ?_
  refine Ev.bind (fits_ev l s (by omega) (by omega)) ?_
  rw [e2]
  simp only [beq_self_eq_true, if_true]
  refine Ev.bind (matchers_ev l (by omega)) (Ev.bind (pairs_ev s (by omega)) (Ev.bind (specMatchAll_ev l s (by omega) (by omega) hp) ?_))
  cases l.all (matchQ s) <;> exact Ev.now _
end Go.Proofs.Ytbffhefeepmpcaa.Pure
