/- The law FnSetEqual over plain lists: two sets of labels are equal just if they have the same names with the same values. -/
import Derived.Test.YtbffhefeepmpcaaQx10
import Derived.Test.YtbffhefeepmpcaaFits1
import Derived.Test.YtbffhefeepmpcaaSpecSet
set_option linter.unusedVariables false
set_option linter.unusedSimpArgs false
namespace Go.Proofs.Ytbffhefeepmpcaa.Pure
open Go.RowKit Go.Proofs.Ytbffhefeepmpcaa.Q Go.Proofs.Ytbffhefeepmpcaa.MapsS Go.Proofs.YtbffhefeepmpcaaW.PrintWords Go.Proofs.YtbffhefeepmpcaaW.PrintLast
def prI (p : S48) : ByteArray × ByteArray := (p.f0, p.f1)
theorem setL_fill (l : List S48) : setL l = fill (l.map prI) [] := by
  unfold setL fill
  rw [List.foldl_map]
  rfl
theorem specSet_pairs (l : List S48) (hl : l.length ≤ 4000000000) : Ev (fun k => spec_Set.f k (l.map toSP)) ((setL l).map unS) := by
  have h := specSet_ev (l.map toSP) (by rw [List.length_map]; exact hl)
  rw [List.map_map] at h
  rw [setL_fill]
  exact h
/-- Two lists of labels, compared one by one. -/
def sameFrom (a b : SM) (i : Nat) : Bool := decide (a.drop i = b.drop i)
theorem pair_neq (p q : ByteArray × ByteArray) : (!((unS p).f0.toList == (unS q).f0.toList) || !((unS p).f1.toList == (unS q).f1.toList)) = !decide (p = q) := by
  by_cases h : p = q
  · simp [h]
  · rw [decide_eq_false h]
    by_cases h0 : p.1 = q.1
    · have h1 : ¬ p.2 = q.2 := fun e => h (Prod.ext h0 e)
      have : ((unS p).f1.toList == (unS q).f1.toList) = false := beq_eq_false_iff_ne.2 fun e => h1 (ba_ext' e)
      rw [this]
      simp
    · have : ((unS p).f0.toList == (unS q).f0.toList) = false := beq_eq_false_iff_ne.2 fun e => h0 (ba_ext' e)
      rw [this]
      simp
theorem eq_loop {a b : SM} (hab : a.length = b.length) (hl : a.length ≤ maxLen) {L : Nat → Int → Option Bool} (hend : ∀ k, L (k + 1) (a.length : Int) = some true)
    (hstep : ∀ k (i : Nat) (h : i < a.length), L (k + 1) (i : Int) = if (!((unS a[i]).f0.toList == (unS (b[i]'(hab ▸ h))).f0.toList) || !((unS a[i]).f1.toList == (unS (b[i]'(hab ▸ h))).f1.toList)) = true then some false else L k ((i + 1 : Nat) : Int)) : Ev (fun k => L k 0) (decide (a = b)) := by
  have h := ev_up (L := fun k i => L k (i : Int)) (fun i => decide (a.drop i = b.drop i)) a.length (by
      rw [List.drop_of_length_le (Nat.le_refl _), List.drop_of_length_le (by omega)]
      exact ev_succ hend) (fun i hi h => by
    have e1 : a.drop i = a[i] :: a.drop (i + 1) := List.drop_eq_getElem_cons hi
    have e2 : b.drop i = (b[i]'(hab ▸ hi)) :: b.drop (i + 1) := List.drop_eq_getElem_cons (hab ▸ hi)
    refine Ev.step (fun k => hstep k i hi) ?_
    rw [pair_neq]
    by_cases hq : a[i] = b[i]'(hab ▸ hi)
    · rw [e1, e2, hq]
      simp only [decide_true, Bool.not_true, Bool.false_eq_true, if_false, List.cons.injEq, true_and]
      exact h
    · rw [e1, e2]
      simp only [decide_eq_false hq, Bool.not_false, if_true, List.cons.injEq, hq, false_and, decide_false]
      exact Ev.now _) a.length 0 (by omega)
  simpa using h
theorem setL_len (l : List S48) : (setL l).length ≤ l.length := by
  rw [setL_fill]
  have h : ∀ (r : List (ByteArray × ByteArray)) (m : SM), (fill r m).length ≤ m.length + r.length := by
    intro r
    induction r with
    | nil => intro m; exact Nat.le_refl _
    | cons x r ih =>
      intro m
      rw [fill_cons]
      have := ih (ins x.1 x.2 m)
      have := len_ins x.1 x.2 m
      simp
      omega
  have := h (l.map prI) []
  simpa using this
theorem eqSets_ev (a b : List S48) (ha : a.length ≤ 4000000000) (hb : b.length ≤ 4000000000) : Ev (fun k => laws_eqSets.f k a b) (decide (setL a = setL b)) := by
  unfold laws_eqSets.f
  refine Ev.bind (pairs_ev a ha) (Ev.bind (specSet_pairs a ha) (Ev.bind (pairs_ev b hb) (Ev.bind (specSet_pairs b hb) ?_)))
  simp only [List.length_map]
  by_cases hlen : (setL a).length = (setL b).length
  · simp only [if_pos (show ((setL a).length : Int) = ((setL b).length : Int) by omega)]
    refine eq_loop (a := setL a) (b := setL b) hlen (by have := setL_len a; unfold maxLen; omega) (L := fun k i => laws_eqSets.l0 k ((setL a).map unS) ((setL b).map unS) ((setL a).length : Int) i) (fun k => ?_) (fun k i h => ?_)
    · simp only [laws_eqSets.l0]
      rw [if_neg (by omega)]
    · show laws_eqSets.l0 (k + 1) _ _ _ (i : Int) = _
      simp only [laws_eqSets.l0, List.length_map]
      rw [if_pos (by omega), if_pos (by omega), if_pos (by omega), if_pos (by omega), get_un h, get_un (hlen ▸ h), wrap_next h (by have := setL_len a; unfold maxLen; omega)]
  · simp only [if_neg (show ¬ ((setL a).length : Int) = ((setL b).length : Int) by omega)]
    rw [decide_eq_false (fun e => hlen (by rw [e]))]
    exact Ev.now _
theorem specEq_ev (a b : List S48) (ha : a.length ≤ 4000000000) (hb : b.length ≤ 4000000000) : Ev (fun k => spec_SetEqual.f k (a.map toSP) (b.map toSP)) (decide (setL a = setL b)) := by
  unfold spec_SetEqual.f
  refine Ev.bind (specSet_pairs a ha) (Ev.bind (specSet_pairs b hb) ?_)
  simp only [List.length_map]
  by_cases hlen : (setL a).length = (setL b).length
  · simp only [if_pos (show ((setL a).length : Int) = ((setL b).length : Int) by omega)]
    refine eq_loop (a := setL a) (b := setL b) hlen (by have := setL_len a; unfold maxLen; omega) (L := fun k i => spec_SetEqual.l0 k ((setL a).map unS) ((setL b).map unS) ((setL a).length : Int) i) (fun k => ?_) (fun k i h => ?_)
    · simp only [spec_SetEqual.l0]
      rw [if_neg (by omega)]
    · show spec_SetEqual.l0 (k + 1) _ _ _ (i : Int) = _
      simp only [spec_SetEqual.l0, List.length_map]
      rw [if_pos (by omega), if_pos (by omega), if_pos (by omega), if_pos (by omega), get_un h, get_un (hlen ▸ h), wrap_next h (by have := setL_len a; unfold maxLen; omega)]
  · simp only [if_neg (show ¬ ((setL a).length : Int) = ((setL b).length : Int) by omega)]
    rw [decide_eq_false (fun e => hlen (by rw [e]))]
    exact Ev.now _
theorem lessMax_of {l : List S48} (h : l.length ≤ 2147483647) (hk : ∀ y ∈ l, okS48 y) : lessMax l = true := by
  unfold lessMax
  rw [Bool.and_eq_true]
  refine ⟨decide_eq_true (by unfold maxLen; omega), List.all_eq_true.2 fun p hp => ?_⟩
  obtain ⟨h1, h2⟩ := hk p hp
  simp [small2, h1, h2]
theorem FnSetEqual : laws_FnSetEqual.Pure := by
  intro a b ⟨ha, hka⟩ ⟨hb, hkb⟩
  refine Ev.rounds ?_
  have done0 : Ev (fun k => laws_FnSetEqual.j0 k a b true) true := ev_succ (fun k => by simp only [laws_FnSetEqual.j0]; rfl)
  have done1 : Ev (fun k => laws_FnSetEqual.j1 k a b true) true := ev_succ (fun k => by simp only [laws_FnSetEqual.j1]; rfl)
  unfold laws_FnSetEqual.f
  refine Ev.bind (zzFits1_ev a ha) ?_
  cases hz : (if (a.length : Int) > 2147483647 then false else a.all fits2)
  · simpa only [Bool.false_eq_true, if_false] using done0
  simp only [if_true]
  refine Ev.bind (zzFits1_ev b hb) ?_
  cases hy : (if (b.length : Int) > 2147483647 then false else b.all fits2)
  · exact done0
  obtain ⟨na, _⟩ := fits1_len hz
  obtain ⟨nb, _⟩ := fits1_len hy
  refine Ev.step (f := fun k => (laws_much.f a).bind fun t => if t = true then laws_FnSetEqual.j1 k a b true else (laws_much.f b).bind fun t246 => laws_FnSetEqual.j1 k a b t246) (fun k => by simp only [laws_FnSetEqual.j0]; rfl) ?_
  simp only [laws_much.f, Option.bind_some]
  by_cases h1 : (a.length : Int) > 300
  · simp only [decide_eq_true h1, if_true]
    exact done1
  simp only [decide_eq_false h1, Bool.false_eq_true, if_false]
  by_cases h2 : (b.length : Int) > 300
  · simp only [decide_eq_true h2]
    exact done1
  simp only [decide_eq_false h2]
  have la := lessMax_of na hka
  have lb := lessMax_of nb hkb
  have e1 : impl_SetEqual.f a b = some (decide (setL a = setL b)) := by unfold impl_SetEqual.f; rw [if_pos ⟨la, lb⟩]
  have e2 : impl_SetEqual.f a a = some true := by unfold impl_SetEqual.f; rw [if_pos ⟨la, la⟩]; simp
  refine Ev.step (f := fun k => (impl_SetEqual.f a b).bind fun t247 => (laws_eqSets.f k a b).bind fun t248 => if (t247 == t248) = true then (impl_SetEqual.f a b).bind fun t249 => (laws_pairs.f k a).bind fun t250 => (laws_pairs.f k b).bind fun t253 => (spec_SetEqual.f k t250 t253).bind fun t256 => if (t249 == t256) = true then (impl_SetEqual.f a a).bind fun t257 => some t257 else some false else some false) (fun k => by simp only [laws_FnSetEqual.j1, Bool.false_eq_true, if_false]) ?_
  simp only [e1, e2, Option.bind_some]
  refine Ev.bind (eqSets_ev a b (by omega) (by omega)) ?_
  simp only [beq_self_eq_true, if_true]
  refine Ev.bind (pairs_ev a (by omega)) (Ev.bind (pairs_ev b (by omega)) (Ev.bind (specEq_ev a b (by omega) (by omega)) ?_))
  simp only [beq_self_eq_true, if_true]
  exact Ev.now _
end Go.Proofs.Ytbffhefeepmpcaa.Pure
