/- The reference's text of a metric, over plain lists. -/
import Derived.Test.YtenededepjfojaaDoorMVal
import Derived.Test.YtenededepjfojaaDoorQuo
import Derived.Test.YtenededepjfojaaDoorQx10
set_option linter.unusedVariables false
set_option linter.unusedSimpArgs false
namespace Go.Proofs.YtenededepjfojaaDoor.Pure
open Go.RowKit Go.Proofs.YtenededepjfojaaDoor.Q Go.Proofs.YtenededepjfojaaDoor.MapsS Go.Proofs.YtenededepjfojaaDoor.Door Go.Proofs.YtenededepjfojaaDoorW.PrintWords Go.Proofs.YtenededepjfojaaDoorW.PrintLast
theorem specValue_ev (s : List S26) (hs : s.length ≤ 4000000000) (name : ByteArray) : Ev (fun k => spec_Value.f k (s.map toSP) name) (valS s name) := by
  unfold spec_Value.f
  have el : ((s.map toSP).length : Int) = (s.length : Int) := by simp
  rw [el]
  have g := ev_up (L := fun k i => spec_Value.l0 k (s.map toSP) name (lastOf name ((s.map prI).take i) ⟨#[]⟩) (s.length : Int) (i : Int)) (fun _ => valS s name) s.length (ev_succ fun k => by
      simp only [spec_Value.l0]
      rw [if_neg (by omega), List.take_of_length_le (by rw [List.length_map]; exact Nat.le_refl _)]
      rfl) (fun i hi g => by
    refine Ev.step (fun k => ?_) g
    show spec_Value.l0 (k + 1) _ _ _ _ _ = _
    have h' : i < (s.map toSP).length := by simpa using hi
    have h2 : i < (s.map prI).length := by simpa using hi
    have e1 : lastOf name ((s.map prI).take (i + 1)) ⟨#[]⟩ = if s[i].f0 = name then s[i].f1 else lastOf name ((s.map prI).take i) ⟨#[]⟩ := by
      rw [List.take_succ_eq_append_getElem h2]
      unfold lastOf
      rw [List.foldl_append]
      simp [prI]
    simp only [spec_Value.l0]
    rw [if_pos (by omega), if_pos (by omega), if_pos (by omega), get_pr h', wrap_next (n := s.length) hi (by unfold maxLen; omega), e1]
    simp only [List.getElem_map]
    show (if s[i].f0.toList = name.toList then _ else _) = _
    by_cases c : s[i].f0 = name
    · rw [if_pos c, if_pos (by rw [c])]
      rfl
    · rw [if_neg c, if_neg (fun e => c (ba_ext' e))]) s.length 0 (by omega)
  exact g
theorem specHas_ev (s : List S26) (hs : s.length ≤ 4000000000) (name : ByteArray) : Ev (fun k => spec_Has.f k (s.map toSP) name) (MapsS.look name (setL s)).isSome := by
  have hls : ∀ (l : List (ByteArray × ByteArray)), (lastV name l).isSome = l.any fun p => decide (p.1 = name) := by
    intro l
    induction l with
    | nil => rfl
    | cons x r ih =>
      rw [lastV_cons, List.any_cons, ← ih]
      cases lastV name r with
      | some v => simp
      | none => by_cases e : name = x.1 <;> simp [e, eq_comm]
  unfold spec_Has.f
  have el : ((s.map toSP).length : Int) = (s.length : Int) := by simp
  rw [el, look_set, hls]
  have g := ev_up (L := fun k i => spec_Has.l0 k (s.map toSP) name (s.length : Int) (i : Int)) (fun i => ((s.map prI).drop i).any fun p => decide (p.1 = name)) s.length (ev_succ fun k => by
      simp only [spec_Has.l0]
      rw [if_neg (by omega), List.drop_of_length_le (by rw [List.length_map]; exact Nat.le_refl _)]
      rfl) (fun i hi g => by
    have h' : i < (s.map toSP).length := by simpa using hi
    have h2 : i < (s.map prI).length := by simpa using hi
    have e0 : (s.map prI)[i] = (s[i].f0, s[i].f1) := by simp [prI]
    rw [List.drop_eq_getElem_cons h2, List.any_cons, e0]
    by_cases c : s[i].f0 = name
    · rw [decide_eq_true c, Bool.true_or]
      refine ev_succ fun k => ?_
      simp only [spec_Has.l0]
      rw [if_pos (by omega), if_pos (by omega), if_pos (by omega), get_pr h']
      simp only [List.getElem_map]
      show (if s[i].f0.toList = name.toList then _ else _) = _
      rw [if_pos (by rw [c])]
    · rw [decide_eq_false c, Bool.false_or]
      refine Ev.step (fun k => ?_) g
      show spec_Has.l0 (k + 1) _ _ _ _ = _
      simp only [spec_Has.l0]
      rw [if_pos (by omega), if_pos (by omega), if_pos (by omega), get_pr h', wrap_next (n := s.length) hi (by unfold maxLen; omega)]
      simp only [List.getElem_map]
      show (if s[i].f0.toList = name.toList then _ else _) = _
      rw [if_neg (fun e => c (ba_ext' e))]) s.length 0 (by omega)
  exact g
end Go.Proofs.YtenededepjfojaaDoor.Pure
