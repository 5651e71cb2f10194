/- Sets of labels over plain lists: the set that pairs make, the value of a name, whether there is one: the reference's way. -/
import Derived.Test.YtcneoonhdfblaaaFits1
import Derived.Test.YtcneoonhdfblaaaFitsZ
import Derived.Test.YtcneoonhdfblaaaSpecSet
import Derived.Test.YtcneoonhdfblaaaQx4
import Derived.Test.YtcneoonhdfblaaaQx4
import Derived.Test.YtcneoonhdfblaaaQx6
set_option linter.unusedVariables false
set_option linter.unusedSimpArgs false
namespace Go.Proofs.Ytcneoonhdfblaaa.Pure
open Go.RowKit Go.Proofs.Ytcneoonhdfblaaa.Q Go.Proofs.Ytcneoonhdfblaaa.MapsS Go.Proofs.YtcneoonhdfblaaaW.PrintWords Go.Proofs.YtcneoonhdfblaaaW.PrintLast
def prI (p : S32) : ByteArray × ByteArray := (p.f0, p.f1)
theorem setL_fill (l : List S32) : setL l = fill (l.map prI) [] := by
  unfold setL fill
  rw [List.foldl_map]
  rfl
theorem setL_rises (l : List S32) : Rises (setL l) := by rw [setL_fill]; exact rises_fill _ List.Pairwise.nil
theorem specSet_pairs (l : List S32) (hl : l.length ≤ 4000000000) : Ev (fun k => spec_Set.f k (l.map toSP)) ((setL l).map unS) := by
  have h := specSet_ev (l.map toSP) (by rw [List.length_map]; exact hl)
  rw [List.map_map] at h
  rw [setL_fill]
  exact h
def lastOf (k : ByteArray) (l : List (ByteArray × ByteArray)) (v : ByteArray) : ByteArray := l.foldl (fun v p => if p.1 = k then p.2 else v) v
theorem lastOf_cons (k : ByteArray) (x : ByteArray × ByteArray) (r : List (ByteArray × ByteArray)) (v : ByteArray) : lastOf k (x :: r) v = lastOf k r (if x.1 = k then x.2 else v) := rfl
theorem lastOf_eq (k : ByteArray) : ∀ (l : List (ByteArray × ByteArray)) (v : ByteArray), lastOf k l v = (lastV k l).getD v
  | [], _ => rfl
  | x :: r, v => by
    rw [lastOf_cons, lastOf_eq k r, lastV_cons]
    cases lastV k r with
    | some u => rfl
    | none => by_cases e : k = x.1 <;> simp [e, eq_comm]
theorem look_set (s : List S32) (k : ByteArray) : MapsS.look k (setL s) = lastV k (s.map prI) := by
  rw [setL_fill, look_fill]
  cases lastV k (s.map prI) <;> rfl
def valS (s : List S32) (k : ByteArray) : ByteArray := lastOf k (s.map prI) ⟨#[]⟩
theorem valS_look (s : List S32) (k : ByteArray) : valS s k = (MapsS.look k (setL s)).getD ⟨#[]⟩ := by
  unfold valS
  rw [look_set, lastOf_eq]
theorem specValue_ev (s : List S32) (hs : s.length ≤ 4000000000) (name : ByteArray) : Ev (fun k => spec_Value.f k (s.map toSP) name) (valS s name) := by
  unfold spec_Value.f
  have el : ((s.map toSP).length : Int) = (s.length : Int) := by simp
  rw [el]
  have g := ev_up (L := fun k i => spec_Value.l0 k (s.map toSP) name (lastOf name ((s.map prI).take i) ⟨#[]⟩) (s.length : Int) (i : Int)) (fun _ => valS s name) s.length (ev_succ fun k => by
      simp only [spec_Value.l0]
      rw [if_neg (by omega), List.take_of_length_le (by rw [List.length_map]; exact Nat.le_refl _)]
      rfl) (fun i hi g => by
    refine Ev.step (fun k => ?_) g
    show spec_Value.l0 (k + 1) _ _ _ _ _ = _
    have h' : i < (s.map toSP).length := by simpa using hi
    have h2 : i < (s.map prI).length := by simpa using hi
    have e1 : lastOf name ((s.map prI).take (i + 1)) ⟨#[]⟩ = if s[i].f0 = name then s[i].f1 else lastOf name ((s.map prI).take i) ⟨#[]⟩ := by
      rw [List.take_succ_eq_append_getElem h2]
      unfold lastOf
      rw [List.foldl_append]
      simp [prI]
    simp only [spec_Value.l0]
    rw [if_pos (by omega), if_pos (by omega), if_pos (by omega), get_pr h', wrap_next (n := s.length) hi (by unfold maxLen; omega), e1]
    simp only [List.getElem_map]
    show (if s[i].f0.toList = name.toList then _ else _) = _
    by_cases c : s[i].f0 = name
    · rw [if_pos c, if_pos (by rw [c])]
      rfl
    · rw [if_neg c, if_neg (fun e => c (ba_ext' e))]) s.length 0 (by omega)
  exact g
theorem specHas_ev (s : List S32) (hs : s.length ≤ 4000000000) (name : ByteArray) : Ev (fun k => spec_Has.f k (s.map toSP) name) (MapsS.look name (setL s)).isSome := by
  have hls : ∀ (l : List (ByteArray × ByteArray)), (lastV name l).isSome = l.any fun p => decide (p.1 = name) := by
    intro l
    induction l with
    | nil => rfl
    | cons x r ih =>
      rw [lastV_cons, List.any_cons, ← ih]
      cases lastV name r with
      | some v => simp
      | none => by_cases e : name = x.1 <;> simp [e, eq_comm]
  unfold spec_Has.f
  have el : ((s.map toSP).length : Int) = (s.length : Int) := by simp
  rw [el, look_set, hls]
  have g := ev_up (L := fun k i => spec_Has.l0 k (s.map toSP) name (s.length : Int) (i : Int)) (fun i => ((s.map prI).drop i).any fun p => decide (p.1 = name)) s.length (ev_succ fun k => by
      simp only [spec_Has.l0]
      rw [if_neg (by omega), List.drop_of_length_le (by rw [List.length_map]; exact Nat.le_refl _)]
      rfl) (fun i hi g => by
    have h' : i < (s.map toSP).length := by simpa using hi
    have h2 : i < (s.map prI).length := by simpa using hi
    have e0 : (s.map prI)[i] = (s[i].f0, s[i].f1) := by simp [prI]
    rw [List.drop_eq_getElem_cons h2, List.any_cons, e0]
    by_cases c : s[i].f0 = name
    · rw [decide_eq_true c, Bool.true_or]
      refine ev_succ fun k => ?_
      simp only [spec_Has.l0]
      rw [if_pos (by omega), if_pos (by omega), if_pos (by omega), get_pr h']
      simp only [List.getElem_map]
      show (if s[i].f0.toList = name.toList then _ else _) = _
      rw [if_pos (by rw [c])]
    · rw [decide_eq_false c, Bool.false_or]
      refine Ev.step (fun k => ?_) g
      show spec_Has.l0 (k + 1) _ _ _ _ = _
      simp only [spec_Has.l0]
      rw [if_pos (by omega), if_pos (by omega), if_pos (by omega), get_pr h', wrap_next (n := s.length) hi (by unfold maxLen; omega)]
      simp only [List.getElem_map]
      show (if s[i].f0.toList = name.toList then _ else _) = _
      rw [if_neg (fun e => c (ba_ext' e))]) s.length 0 (by omega)
  exact g
end Go.Proofs.Ytcneoonhdfblaaa.Pure
