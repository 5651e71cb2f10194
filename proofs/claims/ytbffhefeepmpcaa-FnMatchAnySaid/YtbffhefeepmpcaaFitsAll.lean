/- Matchers against a set of labels, over plain lists: the value of a name is the one that came last. -/
import Derived.Test.YtbffhefeepmpcaaQx15
import Derived.Test.YtbffhefeepmpcaaFits1
import Derived.Test.YtbffhefeepmpcaaFits3
import Derived.Test.YtbffhefeepmpcaaValues
import Derived.Test.YtbffhefeepmpcaaPureFnSetEqual
set_option maxRecDepth 100000
set_option linter.unusedVariables false
set_option linter.unusedSimpArgs false
namespace Go.Proofs.Ytbffhefeepmpcaa.Pure
open Go.RowKit Go.Proofs.Ytbffhefeepmpcaa.Q Go.Proofs.Ytbffhefeepmpcaa.MapsS Go.Proofs.YtbffhefeepmpcaaW.PrintWords Go.Proofs.YtbffhefeepmpcaaW.PrintLast
abbrev SetIn := List S48
theorem get_P {l : List S48} {i : Nat} (h : i < l.length) : rd_T48 l (i : Int) = l[i] := by
  simp [rd_T48, h]
abbrev MatIn := S37
def lastOf (k : ByteArray) (l : List (ByteArray × ByteArray)) (v : ByteArray) : ByteArray := l.foldl (fun v p => if p.1 = k then p.2 else v) v
theorem lastOf_cons (k : ByteArray) (x : ByteArray × ByteArray) (r : List (ByteArray × ByteArray)) (v : ByteArray) : lastOf k (x :: r) v = lastOf k r (if x.1 = k then x.2 else v) := rfl
theorem lastOf_eq (k : ByteArray) : ∀ (l : List (ByteArray × ByteArray)) (v : ByteArray), lastOf k l v = (lastV k l).getD v
  | [], _ => rfl
  | x :: r, v => by
    rw [lastOf_cons, lastOf_eq k r, lastV_cons]
    cases lastV k r with
    | some u => rfl
    | none => by_cases e : k = x.1 <;> simp [e, eq_comm]
def valS (s : SetIn) (k : ByteArray) : ByteArray := lastOf k (s.map prI) ⟨#[]⟩
theorem valOf_setL (s : SetIn) (k : ByteArray) : Q.valOf (setL s) k = valS s k := by
  unfold Q.valOf valS
  rw [setL_fill, look_fill, lastOf_eq]
  cases lastV k (s.map prI) <;> rfl
theorem val_loop {α : Type} (l : List (ByteArray × ByteArray)) (name e : ByteArray) {L : Nat → ByteArray → Int → Option α} {R : α} (hend : Ev (fun k => L k (lastOf name l e) (l.length : Int)) R)
    (hstep : ∀ k (i : Nat) (h : i < l.length) v, L (k + 1) v (i : Int) = if l[i].1.toList = name.toList then L k l[i].2 ((i + 1 : Nat) : Int) else L k v ((i + 1 : Nat) : Int)) : Ev (fun k => L k e 0) R := by
  have h := ev_up (L := fun k i => L k (lastOf name (l.take i) e) (i : Int)) (fun _ => R) l.length (by
      rw [List.take_of_length_le (Nat.le_refl _)]
      exact hend) (fun i hi h => by
    refine Ev.step (fun k => ?_) h
    show L (k + 1) _ (i : Int) = _
    rw [hstep k i hi]
    rw [List.take_succ_eq_append_getElem hi]
    have e1 : lastOf name (l.take i ++ [l[i]]) e = if l[i].1 = name then l[i].2 else lastOf name (l.take i) e := by unfold lastOf; rw [List.foldl_append]; rfl
    rw [e1]
    by_cases c : l[i].1 = name
    · rw [if_pos c, if_pos (by rw [c])]
    · rw [if_neg c, if_neg (fun e => c (ba_ext' e))]) l.length 0 (by omega)
  exact h
theorem specValue_ev (s : SetIn) (hs : s.length ≤ 4000000000) (name : ByteArray) : Ev (fun k => spec_Value.f k (s.map toSP) name) (valS s name) := by
  unfold spec_Value.f valS
  have el : ((s.map toSP).length : Int) = ((s.map prI).length : Int) := by simp
  rw [el]
  refine val_loop (s.map prI) name _ (L := fun k v i => spec_Value.l0 k (s.map toSP) name v ((s.map prI).length : Int) i) (ev_succ fun k => ?_) (fun k i h v => ?_)
  · simp only [spec_Value.l0]
    rw [if_neg (by omega)]
  · have hi : i < s.length := by simpa using h
    have h' : i < (s.map toSP).length := by simpa using hi
    simp only [spec_Value.l0]
    rw [if_pos (by omega), if_pos (by omega), if_pos (by omega), get_pr h', wrap_next (n := s.length) hi (by unfold maxLen; omega)]
    simp only [List.getElem_map]
    rfl
def fitsQ (s : SetIn) (m : MatIn) : Bool := !(((valS s m.f1).toList == m.f2.toList) != (m.f0 == 0))
theorem fits_ev (l : List MatIn) (s : SetIn) (hl : l.length ≤ 4000000000) (hs : s.length ≤ 4000000000) : Ev (fun k => laws_fits.f k l s) (l.all (fitsQ s)) := by
  unfold laws_fits.f
  refine ev_all l z37 (fitsQ s) (L := fun k i => laws_fits.l0 k s l (l.length : Int) i) (fun k => ?_) (fun i hi b hb => ?_)
  · simp only [laws_fits.l0]
    rw [if_neg (by omega)]
  · refine Ev.step (f := fun k => laws_fits.l1 k s (⟨#[]⟩ : ByteArray) l (l.length : Int) (i : Int) s (s.length : Int) 0 (l.getD i z37).f0 (l.getD i z37).f1 (l.getD i z37).f2) (fun k => ?_) ?_
    · show laws_fits.l0 (k + 1) s l (l.length : Int) (i : Int) = _
      simp only [laws_fits.l0]
      rw [if_pos (by omega), if_pos (by omega), if_pos (by omega)]
      rfl
    · generalize l.getD i z37 = m at *
      have el : (s.length : Int) = ((s.map prI).length : Int) := by simp
      rw [el]
      refine val_loop (s.map prI) m.f1 _ (L := fun k v j => laws_fits.l1 k s v l (l.length : Int) (i : Int) s ((s.map prI).length : Int) j m.f0 m.f1 m.f2) ?_ (fun k j h v => ?_)
      · refine Ev.step (f := fun k => if fitsQ s m = true then laws_fits.l0 k s l (l.length : Int) ((i + 1 : Nat) : Int) else some false) (fun k => ?_) ?_
        · simp only [laws_fits.l1]
          rw [if_neg (by omega), wrap_next hi (by unfold maxLen; omega)]
          show (if ((valS s m.f1).toList == m.f2.toList) != (m.f0 == 0) then some false else _) = _
          unfold fitsQ
          cases (((valS s m.f1).toList == m.f2.toList) != (m.f0 == 0)) <;> rfl
        · cases hf : fitsQ s m
          · simp only [Bool.false_eq_true, if_false]
            exact Ev.now _
          · simp only [if_true]
            exact hb
      · have hj : j < s.length := by simpa using h
        simp only [laws_fits.l1]
        rw [if_pos (by omega), if_pos (by omega), if_pos (by omega), get_P hj, wrap_next (n := s.length) hj (by unfold maxLen; omega)]
        simp only [List.getElem_map]
        rfl
def toSM (m : MatIn) : S40 := ⟨m.f0, m.f1, m.f2⟩
theorem get_SM {l : List MatIn} {i : Nat} (h : i < l.length) : rd_T40 (l.map toSM) (i : Int) = toSM l[i] := by
  simp [rd_T40, h]
theorem get_M {l : List MatIn} {i : Nat} (h : i < l.length) : rd_T37 l (i : Int) = l[i] := by
  simp [rd_T37, h]
theorem matchers_ev (l : List MatIn) (hl : l.length ≤ 3000000000) : Ev (fun k => laws_matchers.f k l) (l.map toSM) := by
  unfold laws_matchers.f
  have g := ev_up (L := fun k i => laws_matchers.l0 k ((l.take i).map toSM) l (l.length : Int) (i : Int)) (fun _ => l.map toSM) l.length (ev_succ fun k => by
      simp only [laws_matchers.l0]
      rw [if_neg (by omega), List.take_of_length_le (Nat.le_refl _)]) (fun i hi g => by
    refine Ev.step (fun k => ?_) g
    show laws_matchers.l0 (k + 1) _ _ _ _ = _
    simp only [laws_matchers.l0, List.length_map]
    rw [if_pos (by omega), if_pos (by omega), if_pos (by omega), if_pos (by rw [List.length_take]; omega), get_M hi, wrap_next hi (by unfold maxLen; omega), List.take_succ_eq_append_getElem hi, List.map_append]
    rfl) l.length 0 (by omega)
  exact g
def matchQ (s : SetIn) (m : MatIn) : Bool := (m.f2.toList == (valS s m.f1).toList) == (m.f0 == 0)
theorem matchValue_eq (k : Nat) (m : MatIn) (hm : plainType m = true) (v : ByteArray) : spec_MatchValue.f (k + 1) (toSM m).f0 (toSM m).f1 (toSM m).f2 v = some (if ((m.f2.toList == v.toList) == (m.f0 == 0)) = true then 1 else 0) := by
  obtain ⟨m0, m1, m2⟩ := m
  unfold plainType at hm
  simp only [Bool.or_eq_true, decide_eq_true_eq] at hm
  unfold spec_MatchValue.f
  rcases hm with rfl | rfl
  · simp only [toSM, spec_MatchValue.j0]
    by_cases h : m2.toList = v.toList <;> simp [h]
  · simp only [toSM, spec_MatchValue.j0]
    by_cases h : m2.toList = v.toList <;> simp [h]
theorem specMatchAll_ev (l : List MatIn) (s : SetIn) (hl : l.length ≤ 4000000000) (hs : s.length ≤ 4000000000) (hp : l.all plainType = true) : Ev (fun k => spec_MatchAll.f k (l.map toSM) (s.map toSP)) (if l.all (matchQ s) = true then 1 else 0) := by
  unfold spec_MatchAll.f
  rw [List.length_map]
  have g := ev_up (L := fun k i => spec_MatchAll.l0 k (l.map toSM) (s.map toSP) 1 (l.length : Int) (i : Int)) (fun i => if (l.drop i).all (matchQ s) = true then 1 else 0) l.length (ev_succ fun k => by
      simp only [spec_MatchAll.l0]
      rw [if_neg (by omega), List.drop_of_length_le (Nat.le_refl _)]
      rfl) (fun i hi g => by
    have hm := List.all_eq_true.1 hp l[i] (List.getElem_mem hi)
    have hd : (l.drop i).all (matchQ s) = (matchQ s l[i] && (l.drop (i + 1)).all (matchQ s)) := by rw [List.drop_eq_getElem_cons hi, List.all_cons]
    refine Ev.step (f := fun k => (spec_Value.f k (s.map toSP) l[i].f1).bind fun t => (spec_MatchValue.f k (toSM l[i]).f0 (toSM l[i]).f1 (toSM l[i]).f2 t).bind fun u => if u = 0 then some 0 else if u = 2 then spec_MatchAll.l0 k (l.map toSM) (s.map toSP) 2 (l.length : Int) ((i + 1 : Nat) : Int) else spec_MatchAll.l0 k (l.map toSM) (s.map toSP) 1 (l.length : Int) ((i + 1 : Nat) : Int)) (fun k => ?_) ?_
    · simp only [spec_MatchAll.l0, List.length_map]
      rw [if_pos (by omega), if_pos (by omega), if_pos (by omega), get_SM hi, wrap_next hi (by unfold maxLen; omega)]
      rfl
    · refine Ev.bind (specValue_ev s hs _) ?_
      refine Ev.bind (a := if matchQ s l[i] = true then 1 else 0) (ev_succ fun k => matchValue_eq k l[i] hm _) ?_
      rw [hd]
      cases hq : matchQ s l[i]
      · simp only [Bool.false_eq_true, if_false, if_true, Bool.false_and]
        exact Ev.now _
      · simp only [if_true, Bool.true_and]
        exact g) l.length 0 (by omega)
  exact g
theorem match_q {s : SetIn} {m : MatIn} (hm : plainType m = true) : fitsQ s m = matchQ s m ∧ matchV (toMat m) (valS s m.f1) = matchQ s m := by
  unfold plainType at hm
  simp only [Bool.or_eq_true, decide_eq_true_eq] at hm
  have hc : ((valS s m.f1).toList == m.f2.toList) = (m.f2.toList == (valS s m.f1).toList) := BEq.comm
  unfold fitsQ matchQ matchV toMat
  simp only [hc]
  generalize (m.f2.toList == (valS s m.f1).toList) = q
  rcases hm with e | e <;> rw [e] <;> cases q <;> decide
theorem all_q {s : SetIn} : ∀ {l : List MatIn}, l.all plainType = true → l.all (fitsQ s) = l.all (matchQ s) ∧ msOk (l.map toMat) (setL s) = l.all (matchQ s)
  | [], _ => ⟨rfl, rfl⟩
  | m :: r, h => by
    rw [List.all_cons, Bool.and_eq_true] at h
    obtain ⟨h1, h2⟩ := all_q (s := s) h.2
    obtain ⟨g1, g2⟩ := match_q (s := s) h.1
    refine ⟨by rw [List.all_cons, List.all_cons, h1, g1], ?_⟩
    unfold msOk at h2 ⊢
    rw [List.map_cons, List.all_cons, List.all_cons, h2]
    have e := valOf_setL s m.f1
    rw [← g2, ← e]
    rfl
theorem okM0_all {l : List MatIn} (h : l.all plainType = true) (hk : ∀ y ∈ l, okS37 y) : l.all okM0 = true := by
  refine List.all_eq_true.2 fun m hm => ?_
  have h1 := List.all_eq_true.1 h m hm
  have h2 := (hk m hm).2.1
  unfold okM0
  unfold plainType at h1
  rw [h1, decide_eq_true h2]
  rfl
end Go.Proofs.Ytbffhefeepmpcaa.Pure
