/- The law FnMatchAny over plain lists. -/
import Derived.Test.YtbffhefeepmpcaaQx17
import Derived.Test.YtbffhefeepmpcaaPureFnMatchAll
set_option linter.unusedVariables false
set_option linter.unusedSimpArgs false
namespace Go.Proofs.Ytbffhefeepmpcaa.Pure
open Go.RowKit Go.Proofs.Ytbffhefeepmpcaa.Q Go.Proofs.Ytbffhefeepmpcaa.MapsS Go.Proofs.YtbffhefeepmpcaaW.PrintWords Go.Proofs.YtbffhefeepmpcaaW.PrintLast
def fit3 (l : List MatIn) : Bool := if (l.length : Int) > 2147483647 then false else l.all fits4
theorem zzFits5_ev (l : List (List MatIn)) (hl : l.length ≤ maxLen) (hk : ∀ x ∈ l, x.length ≤ maxLen) : Ev (fun k => laws_zzFits5.f k l) (if (l.length : Int) > 2147483647 then false else l.all fit3) := by
  unfold laws_zzFits5.f
  by_cases h : (l.length : Int) > 2147483647
  · simp only [if_pos h]
    exact Ev.now _
  · simp only [if_neg h]
    refine ev_all l [] fit3 (L := fun k i => laws_zzFits5.l0 k l (l.length : Int) i) (fun k => ?_) (fun i hi b hb => ?_)
    · simp only [laws_zzFits5.l0]
      rw [if_neg (by omega)]
    · have hx := hk (l.getD i []) (by rw [List.getD_eq_getElem?_getD, List.getElem?_eq_getElem hi]; exact List.getElem_mem hi)
      refine Ev.step (fun k => ?_) (f := fun k => (laws_zzFits3.f k (l.getD i [])).bind fun t => if t = true then laws_zzFits5.l0 k l (l.length : Int) ((i + 1 : Nat) : Int) else some false) ?_
      · show laws_zzFits5.l0 (k + 1) l (l.length : Int) (i : Int) = _
        simp only [laws_zzFits5.l0]
        rw [if_pos (by omega), if_pos (by omega), if_pos (by omega), wrap_next hi hl]
        rfl
      · refine Ev.bind (zzFits3_ev _ hx) ?_
        change Ev (fun k => if fit3 (l.getD i []) = true then _ else _) _
        cases hf : fit3 (l.getD i [])
        · simp only [Bool.false_eq_true, if_false]
          exact Ev.now _
        · simp only [if_true]
          exact hb
/-- A list whose matchers compare values, and there are not too many. -/
def okL (x : List MatIn) : Bool := x.all plainType && decide ((x.length : Int) ≤ 10000)
def anyQ (s : SetIn) (l : List (List MatIn)) : Bool := l.any fun x => x.all (matchQ s)
def toLL (l : List (List MatIn)) := l.map fun x => x.map toSM
theorem get_LL {l : List (List MatIn)} {i : Nat} (h : i < l.length) : (toLL l).getD i [] = (l[i]).map toSM := by
  simp [toLL, h]
theorem specMatchAny_ev (l : List (List MatIn)) (s : SetIn) (hl : l.length ≤ 4000000000) (hs : s.length ≤ 4000000000) (hp : ∀ x ∈ l, okL x = true) : Ev (fun k => spec_MatchAny.f k (toLL l) (s.map toSP)) (if (l.length : Int) = 0 then 2 else if anyQ s l = true then 1 else 0) := by
  unfold spec_MatchAny.f
  have el : (toLL l).length = l.length := List.length_map ..
  rw [el]
  by_cases h0 : (l.length : Int) = 0
  · simp only [if_pos h0]
    exact Ev.now _
  simp only [if_neg h0]
  have g := ev_up (L := fun k i => spec_MatchAny.l0 k (toLL l) (s.map toSP) 0 (l.length : Int) (i : Int)) (fun i => if anyQ s (l.drop i) = true then 1 else 0) l.length (ev_succ fun k => by
      simp only [spec_MatchAny.l0]
      rw [if_neg (by omega), List.drop_of_length_le (Nat.le_refl _)]
      rfl) (fun i hi g => by
    have hm := hp l[i] (List.getElem_mem hi)
    unfold okL at hm
    rw [Bool.and_eq_true] at hm
    have hn := of_decide_eq_true hm.2
    have hd : anyQ s (l.drop i) = (l[i].all (matchQ s) || anyQ s (l.drop (i + 1))) := by rw [List.drop_eq_getElem_cons hi]; unfold anyQ; rw [List.any_cons]
    refine Ev.step (f := fun k => (spec_MatchAll.f k (l[i].map toSM) (s.map toSP)).bind fun t => if t = 1 then some 1 else if t = 2 then spec_MatchAny.l0 k (toLL l) (s.map toSP) 2 (l.length : Int) ((i + 1 : Nat) : Int) else spec_MatchAny.l0 k (toLL l) (s.map toSP) 0 (l.length : Int) ((i + 1 : Nat) : Int)) (fun k => ?_) ?_
    · simp only [spec_MatchAny.l0, el]
      rw [if_pos (by omega), if_pos (by omega), if_pos (by omega), wrap_next hi (by unfold maxLen; omega)]
      rw [show rd_L13 (toLL l) (i : Int) = (l[i]).map toSM from get_LL hi]
    · refine Ev.bind (specMatchAll_ev l[i] s (by omega) hs hm.1) ?_
      rw [hd]
      cases hq : l[i].all (matchQ s)
      · simp only [Bool.false_eq_true, if_false, Bool.false_or]
        exact g
      · simp only [if_true, Bool.true_or]
        exact Ev.now _) l.length 0 (by omega)
  exact g
theorem matchAny_eq {l : List (List MatIn)} {s : SetIn} (hl : l.length ≤ 2147483647) (hp : ∀ x ∈ l, okL x = true) (hk : ∀ y ∈ l, ∀ m ∈ y, okS37 m) (hs : lessMax s = true) : impl_MatchAny.f l s = some (anyQ s l) := by
  have e1 : lessLists l = true := by
    unfold lessLists
    rw [decide_eq_true (by omega : l.length ≤ 17592186044416), decide_eq_true (by unfold maxLen; omega : l.length ≤ maxLen)]
    refine List.all_eq_true.2 fun x hx => ?_
    have h1 := hp x hx
    unfold okL at h1
    rw [Bool.and_eq_true] at h1
    have hn := of_decide_eq_true h1.2
    unfold less44
    rw [okM0_all h1.1 (hk x hx), decide_eq_true (by omega : x.length ≤ 17592186044416), decide_eq_true (by unfold maxLen; omega : x.length ≤ maxLen)]
    rfl
  unfold impl_MatchAny.f
  rw [if_pos ⟨e1, hs⟩]
  congr 1
  unfold anyQ
  rw [List.any_map]
  clear e1 hl hk
  induction l with
  | nil => rfl
  | cons x r ih =>
    have h1 := hp x List.mem_cons_self
    unfold okL at h1
    rw [Bool.and_eq_true] at h1
    rw [List.any_cons, List.any_cons, ih (fun y hy => hp y (List.mem_cons_of_mem _ hy)), ← (all_q (s := s) h1.1).2]
    rfl
theorem any_l0 (l : List (List MatIn)) (s : SetIn) (hl : l.length ≤ 2147483647) (hs : s.length ≤ 2147483647) (hx : ∀ x ∈ l, x.length ≤ maxLen) (hk : ∀ y ∈ l, ∀ m ∈ y, okS37 m) (hm : lessMax s = true) :
    ∀ (d i : Nat), i + d = l.length → (∀ x ∈ l.take i, okL x = true) → Ev (fun k => laws_FnMatchAny.l0 k l s (anyQ s (l.take i)) (toLL (l.take i)) l (l.length : Int) (i : Int)) true
  | 0, i, hd, hp => by
    have ei : i = l.length := by omega
    subst ei
    rw [List.take_of_length_le (Nat.le_refl _)] at hp ⊢
    refine Ev.step (f := fun k => (laws_pairs.f k s).bind fun t325 => (spec_MatchAny.f k (toLL l) t325).bind fun t328 => if t328 = 2 then some true else some (anyQ s l == (t328 == 1))) (fun k => ?_) ?_
    · simp only [laws_FnMatchAny.l0, matchAny_eq hl hp hk hm, Option.bind_some, beq_self_eq_true, if_true]
      rw [if_neg (by omega)]
    · refine Ev.bind (pairs_ev s (by omega)) (Ev.bind (specMatchAny_ev l s (by omega) (by omega) hp) ?_)
      by_cases h0 : (l.length : Int) = 0
      · simp only [if_pos h0, if_true]
        exact Ev.now _
      · simp only [if_neg h0]
        cases anyQ s l <;> exact Ev.now _
  | d + 1, i, hd, hp => by
    have hi : i < l.length := by omega
    have hxi := hx l[i] (List.getElem_mem hi)
    have hw := wrap_next (n := l.length) hi (by unfold maxLen; omega)
    have hc : l.take (i + 1) = l.take i ++ [l[i]] := List.take_succ_eq_append_getElem hi
    have hany : anyQ s (l.take (i + 1)) = (anyQ s (l.take i) || l[i].all (matchQ s)) := by rw [hc]; unfold anyQ; rw [List.any_append]; simp
    have hto : toLL (l.take (i + 1)) = toLL (l.take i) ++ [(l[i]).map toSM] := by rw [hc]; unfold toLL; rw [List.map_append]; rfl
    have hlen : (toLL (l.take i)).length < 5864062014805 := by unfold toLL; rw [List.length_map, List.length_take]; omega
    have done3 : Ev (fun k => laws_FnMatchAny.j3 k l s (anyQ s (l.take i)) (toLL (l.take i)) l[i] l (l.length : Int) (i : Int) true) true := ev_succ (fun k => by simp only [laws_FnMatchAny.j3]; rfl)
    refine Ev.step (f := fun k => (laws_values.f k l[i]).bind fun t331 => (if t331 = true then (if (l.length : Int) > 1000 then (laws_FnMatchAny.j3 k l s (anyQ s (l.take i)) (toLL (l.take i)) l[i] l (l.length : Int) (i : Int) true) else (laws_FnMatchAny.j3 k l s (anyQ s (l.take i)) (toLL (l.take i)) l[i] l (l.length : Int) (i : Int) (decide ((s.length : Int) > 10000)))) else (laws_FnMatchAny.j3 k l s (anyQ s (l.take i)) (toLL (l.take i)) l[i] l (l.length : Int) (i : Int) true))) (fun k => ?_) ?_
    · simp only [laws_FnMatchAny.l0]
      rw [if_pos (by omega), if_pos (by omega), if_pos (by omega)]
      rw [show rd_L4 l (i : Int) = l[i] by simp [rd_L4, hi]]
    · refine Ev.bind (values_ev _ hxi) ?_
      change Ev (fun k => if okL l[i] = true then _ else _) _
      cases hv : okL l[i]
      · simpa only [Bool.false_eq_true, if_false] using done3
      simp only [if_true]
      by_cases h1 : (l.length : Int) > 1000
      · simp only [if_pos h1]
        exact done3
      simp only [if_neg h1]
      by_cases h2 : (s.length : Int) > 10000
      · simp only [decide_eq_true h2]
        exact done3
      simp only [decide_eq_false h2]
      have hp' : ∀ x ∈ l.take (i + 1), okL x = true := by
        intro x hx'
        rw [hc] at hx'
        rcases List.mem_append.1 hx' with h | h
        · exact hp x h
        · rw [List.mem_singleton.1 h]
          exact hv
      have R := any_l0 l s hl hs hx hk hm d (i + 1) (by omega) hp'
      rw [hany, hto] at R
      unfold okL at hv
      rw [Bool.and_eq_true] at hv
      have hn := of_decide_eq_true hv.2
      cases ha : anyQ s (l.take i)
      · rw [ha, Bool.false_or] at R
        refine Ev.step (f := fun k => (laws_fits.f k l[i] s).bind fun t338 => (laws_matchers.f k l[i]).bind fun t339 => (laws_FnMatchAny.l0 k l s t338 (toLL (l.take i) ++ [t339]) l (l.length : Int) ((i + 1 : Nat) : Int))) (fun k => ?_) ?_
        · simp only [laws_FnMatchAny.j3, Bool.false_eq_true, if_false, if_pos hlen, hw]
        · refine Ev.bind (fits_ev l[i] s (by omega) (by omega)) (Ev.bind (matchers_ev l[i] (by omega)) ?_)
          rw [(all_q (s := s) hv.1).1]
          exact R
      · rw [ha, Bool.true_or] at R
        refine Ev.step (f := fun k => (laws_matchers.f k l[i]).bind fun t332 => (laws_FnMatchAny.l0 k l s true (toLL (l.take i) ++ [t332]) l (l.length : Int) ((i + 1 : Nat) : Int))) (fun k => ?_) ?_
        · simp only [laws_FnMatchAny.j3, Bool.false_eq_true, if_false, if_true, if_pos hlen, hw]
        · exact Ev.bind (matchers_ev l[i] (by omega)) R
theorem FnMatchAny : laws_FnMatchAny.Pure := by
  intro l s ⟨hl, hkl⟩ ⟨hs, hks⟩
  refine Ev.rounds ?_
  have done0 : Ev (fun k => laws_FnMatchAny.j0 k l s true) true := ev_succ (fun k => by simp only [laws_FnMatchAny.j0]; rfl)
  have hx := fun x (h : x ∈ l) => (hkl x h).1
  have hk := fun x (h : x ∈ l) => (hkl x h).2
  unfold laws_FnMatchAny.f
  refine Ev.bind (zzFits5_ev l hl hx) ?_
  cases hz : (if (l.length : Int) > 2147483647 then false else l.all fit3)
  · simpa only [Bool.false_eq_true, if_false] using done0
  simp only [if_true]
  refine Ev.bind (zzFits1_ev s hs) ?_
  cases hy : (if (s.length : Int) > 2147483647 then false else s.all fits2)
  · exact done0
  have nl : l.length ≤ 2147483647 := by
    split at hz
    · cases hz
    · omega
  obtain ⟨ns, _⟩ := fits1_len hy
  have ms := lessMax_of ns hks
  have e1 : impl_MatchAny.f [[]] s = some true := matchAny_eq (l := [[]]) (by simp) (fun x hx => by rw [List.mem_singleton.1 hx]; rfl) (fun x hx m hm => by rw [List.mem_singleton.1 hx] at hm; cases hm) ms
  have e2 : impl_MatchAny.f [] s = some false := matchAny_eq (l := []) (by simp) (fun x hx => by cases hx) (fun x hx => by cases hx) ms
  refine Ev.step (f := fun k => laws_FnMatchAny.j1 k l s false) (fun k => by simp only [laws_FnMatchAny.j0, Bool.not_true, Bool.false_eq_true, if_false, e1, e2, Option.bind_some, if_true]) ?_
  refine Ev.step (f := fun k => laws_FnMatchAny.l0 k l s false [] l (l.length : Int) 0) (fun k => by simp only [laws_FnMatchAny.j1, Bool.false_eq_true, if_false]) ?_
  exact any_l0 l s nl ns hx hk ms l.length 0 (by omega) (fun x hx => by simp at hx)
end Go.Proofs.Ytbffhefeepmpcaa.Pure
