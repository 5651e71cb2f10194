/- The law FnResolved over plain numbers. -/
import Derived.Test.YtbffhefeepmpcaaQx19
import Derived.Test.YtbffhefeepmpcaaLib
set_option linter.unusedVariables false
set_option linter.unusedSimpArgs false
namespace Go.Proofs.Ytbffhefeepmpcaa.Pure
open Go.RowKit Go.Proofs.Ytbffhefeepmpcaa.Q Go.Proofs.YtbffhefeepmpcaaW.PrintWords Go.Proofs.YtbffhefeepmpcaaW.PrintLast
def firing (now e : Int) : Bool := !decide (e ≠ 0 ∧ e ≤ now)
theorem resolved_eq {e now : Int} (h1 : 0 ≤ e) (h2 : e < 9223372036854775808) (h3 : 0 ≤ now) (h4 : now < 9223372036854775808) : impl_Resolved.f e now = some (!firing now e) := by
  unfold impl_Resolved.f firing
  rw [if_pos ⟨h1, h2, h3, h4⟩, Bool.not_not]
theorem res_step (now e : Int) (hnow : 0 ≤ now) (hn2 : now < 9223372036854775808) (he : 0 ≤ e) (he2 : e < 9223372036854775808) :
    (e = 0 ∧ firing now e = true) ∨ (0 < e ∧ e < now ∧ firing now e = false) ∨ (0 < e ∧ e = now ∧ firing now e = false) ∨ (0 < e ∧ now < e ∧ firing now e = true) := by
  unfold firing
  by_cases h0 : e = 0
  · exact .inl ⟨h0, by simp [h0]⟩
  · by_cases h1 : e < now
    · exact .inr (.inl ⟨by omega, h1, by simp [h0]; omega⟩)
    · by_cases h2 : e = now
      · exact .inr (.inr (.inl ⟨by omega, h2, by simp [h0]; omega⟩))
      · exact .inr (.inr (.inr ⟨by omega, by omega, by simp; omega⟩))
theorem res_l0 (l : List Int) (now : Int) (hnow : 0 ≤ now) (hn2 : now < 9223372036854775808) (hl : l.length ≤ 1000) (hx : ∀ x ∈ l, x < 9223372036854775808) :
    ∀ (d i : Nat), i + d = l.length → (∀ x ∈ l.take i, 0 ≤ x) → Ev (fun k => laws_FnResolved.l0 k l now ((l.take i).any (firing now)) l (l.length : Int) (i : Int)) true
  | 0, i, hd, hp => by
    have ei : i = l.length := by omega
    subst ei
    rw [List.take_of_length_le (Nat.le_refl _)] at hp ⊢
    have e1 : impl_AlertsFiring.f l now = some (l.any (firing now)) := by
      unfold impl_AlertsFiring.f
      rw [if_pos ⟨⟨List.all_eq_true.2 fun x hm => by simp only [in63, Bool.and_eq_true, decide_eq_true_eq]; exact ⟨hp x hm, hx x hm⟩, by omega, by unfold maxLen; omega⟩, by simp only [in63, Bool.and_eq_true, decide_eq_true_eq]; exact ⟨hnow, hn2⟩⟩]
      rfl
    refine ev_succ fun k => ?_
    simp only [laws_FnResolved.l0, e1, Option.bind_some]
    rw [if_neg (by omega)]
    simp
  | d + 1, i, hd, hp => by
    have hi : i < l.length := by omega
    have hw := wrap_next (n := l.length) hi (by unfold maxLen; omega)
    have hc : l.take (i + 1) = l.take i ++ [l[i]] := List.take_succ_eq_append_getElem hi
    have hr : rd l (i : Int) = l[i] := by simp [rd, hi]
    have hxi := hx l[i] (List.getElem_mem hi)
    by_cases hneg : l[i] < 0
    · refine ev_succ fun k => ?_
      simp only [laws_FnResolved.l0]
      rw [if_pos (by omega), if_pos (by omega), if_pos (by omega), hr, if_pos hneg]
    have hp' : ∀ x ∈ l.take (i + 1), 0 ≤ x := by
      intro x hx'
      rw [hc] at hx'
      rcases List.mem_append.1 hx' with h | h
      · exact hp x h
      · rw [List.mem_singleton.1 h]
        omega
    have R := res_l0 l now hnow hn2 hl hx d (i + 1) (by omega) hp'
    have ha : (l.take (i + 1)).any (firing now) = ((l.take i).any (firing now) || firing now l[i]) := by rw [hc, List.any_append]; simp
    rw [ha] at R
    refine Ev.step (fun k => ?_) R
    have e2 := resolved_eq (e := l[i]) (by omega) hxi hnow hn2
    simp only [laws_FnResolved.l0]
    rw [if_pos (by omega : (i : Int) < (l.length : Int)), if_pos (by omega : 0 ≤ (i : Int)), if_pos (by omega : (i : Int) < (l.length : Int)), hr, if_neg hneg, e2, hw]
    simp only [Option.bind_some]
    generalize (l.take i).any (firing now) = q
    have hs := res_step now l[i] hnow hn2 (by omega) hxi
    generalize firing now l[i] = f at *
    generalize l[i] = e at *
    rcases hs with ⟨rfl, rfl⟩ | ⟨h1, h2, rfl⟩ | ⟨h1, h2, rfl⟩ | ⟨h1, h2, rfl⟩
    · have n1 : ¬ (0 : Int) > now := by omega
      cases q <;> simp [n1]
    · have n1 : ¬ e > now := by omega
      have n0 : ¬ e = 0 := by omega
      cases q <;> simp [n0, n1, h1, h2]
    · subst h2
      have n0 : ¬ e = 0 := by omega
      cases q <;> simp [n0, h1]
    · have n1 : ¬ e < now := by omega
      have n0 : ¬ e = 0 := by omega
      cases q <;> simp [n0, n1, h1, h2]
theorem FnResolved : laws_FnResolved.Pure := by
  intro l now hl _ hx hn
  obtain ⟨w1, w2⟩ := wf_i64 hn
  refine Ev.rounds ?_
  unfold laws_FnResolved.f
  by_cases h0 : (l.length : Int) > 2147483647
  · simp only [if_pos h0]
    exact Ev.now _
  simp only [if_neg h0]
  have e1 : impl_Resolved.f 5 6 = some true := by unfold impl_Resolved.f; decide
  have e2 : impl_Resolved.f 5 4 = some false := by unfold impl_Resolved.f; decide
  have e3 : impl_Resolved.f 0 6 = some false := by unfold impl_Resolved.f; decide
  simp only [e1, e2, e3, Option.bind_some, if_true, Bool.false_eq_true, if_false]
  by_cases h1 : (l.length : Int) > 1000
  · simp only [if_pos h1]
    exact ev_succ fun k => by simp only [laws_FnResolved.j0, if_true, if_pos h1]
  simp only [if_neg h1]
  by_cases h2 : now < 0
  · rw [decide_eq_true h2]
    exact ev_succ fun k => by simp only [laws_FnResolved.j0, if_true, if_neg h1, decide_eq_true h2]
  rw [decide_eq_false h2]
  refine Ev.step (f := fun k => laws_FnResolved.l0 k l now false l (l.length : Int) 0) (fun k => by simp only [laws_FnResolved.j0, Bool.false_eq_true, if_false]) ?_
  exact res_l0 l now (by omega) (by omega) (by omega) (fun x hm => by have := (wf_i64 (hx x hm)).2; omega) l.length 0 (by omega) (fun x hm => by simp at hm)
end Go.Proofs.Ytbffhefeepmpcaa.Pure
