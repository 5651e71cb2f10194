/- The law FnWithoutMore over plain lists. -/
import Derived.Test.YtbffcmiabcmjcaaQx5
import Derived.Test.YtbffcmiabcmjcaaQx3
import Derived.Test.YtbffcmiabcmjcaaQx4
import Derived.Test.YtbffcmiabcmjcaaQx4
import Derived.Test.YtbffcmiabcmjcaaKvP
set_option linter.unusedVariables false
set_option linter.unusedSimpArgs false
namespace Go.Proofs.Ytbffcmiabcmjcaa.Pure
open Go.RowKit Go.Proofs.Ytbffcmiabcmjcaa.Q Go.Proofs.Ytbffcmiabcmjcaa.MapsS Go.Proofs.YtbffcmiabcmjcaaW.PrintWords Go.Proofs.YtbffcmiabcmjcaaW.PrintLast
theorem zzFits6_ev (l : List ByteArray) (hl : l.length ≤ maxLen) : ∃ b, Ev (fun k => laws_zzFits6.f k l) b := by
  unfold laws_zzFits6.f
  by_cases h : (l.length : Int) > 2147483647
  · exact ⟨false, ev_ite_pos h (Ev.now _)⟩
  · refine ⟨_, ev_ite_neg h (ev_all l ByteArray.empty (fun s => !decide ((s.size : Int) > 2147483647)) (L := fun k i => laws_zzFits6.l0 k l (l.length : Int) i) (fun k => ?_) (fun i hi b hb => ?_))⟩
    · simp only [laws_zzFits6.l0]
      rw [if_neg (by omega)]
    · by_cases hs : ((l.getD i ByteArray.empty).size : Int) > 2147483647
      · rw [decide_eq_true hs]
        refine ev_succ (fun k => ?_)
        simp only [laws_zzFits6.l0]
        rw [if_pos (by omega), if_pos (by omega), if_pos (by omega), show rdOf ByteArray.empty l (i : Int) = l.getD i ByteArray.empty from rfl, if_pos hs]
        rfl
      · rw [decide_eq_false hs]
        refine Ev.step (fun k => ?_) hb
        simp only [laws_zzFits6.l0]
        rw [if_pos (by omega), if_pos (by omega), if_pos (by omega), show rdOf ByteArray.empty l (i : Int) = l.getD i ByteArray.empty from rfl, if_neg hs, wrap_next hi hl]
theorem without_eq {l : List PairI} {names : List ByteArray} (h : less9K l = true) (h' : namesOk names = true) : impl_Without.f l names = some ((kvOrder (without names (setK l))).map toPK) := by
  unfold impl_Without.f
  rw [if_pos ⟨h, h'⟩]
theorem namesOk_of {l : List ByteArray} (h : l.length ≤ 1000000000) (hk : ∀ y ∈ l, y.size ≤ maxLen) : namesOk l = true := by
  unfold namesOk
  rw [Bool.and_eq_true]
  exact ⟨decide_eq_true h, List.all_eq_true.2 fun s hs => decide_eq_true (hk s hs)⟩
/-- A set that comes of a list of labels of a law's. -/
def Fine (m : SM) : Prop := Rises m ∧ m.length ≤ 300 ∧ ∀ p ∈ m, okS26 (toPK p)
theorem fine_setK {l : List PairI} (h : l.length ≤ 300) (hk : ∀ y ∈ l, okS26 y) : Fine (setK l) := ⟨setK_rises l, Nat.le_trans (setK_le l) h, fun p hp => hk _ (mem_setK hp)⟩
theorem fine_without {m : SM} (h : Fine m) (l1 : List ByteArray) : Fine (without l1 m) := ⟨without_rises h.1, Nat.le_trans (without_le l1 m) h.2.1, fun p hp => h.2.2 p (List.mem_filter.1 hp).1⟩
theorem less9_fine {m : SM} (h : Fine m) : less9K ((kvOrder m).map toPK) = true := less9_of (by rw [List.length_map, kvOrder_len]; have := h.2.1; omega) (fun y hy => by
  obtain ⟨p, hp, rfl⟩ := List.mem_map.1 hy
  exact h.2.2 p (kvOrder_mem hp))
theorem setK_order {m : SM} (h : Rises m) : setK ((kvOrder m).map toPK) = m := setK_perm h (List.Perm.refl _)
theorem without_app (a b : List ByteArray) (m : SM) : without (a ++ b) m = without b (without a m) := by
  unfold without
  rw [List.filter_filter]
  congr 1
  funext p
  rw [inL_app]
  cases inL p.1 a <;> cases inL p.1 b <;> rfl
theorem without_nil (m : SM) : without [] m = m := by
  unfold without
  exact List.filter_eq_self.2 fun p _ => rfl
theorem pairs_fine {m : SM} (h : Fine m) : Ev (fun k => laws_pairs.f k ((kvOrder m).map toPK)) ((kvOrder m).map unS) := by
  have e := pairs_ev ((kvOrder m).map toPK) (by rw [List.length_map, kvOrder_len]; have := h.2.1; omega)
  rw [List.map_map] at e
  exact e
theorem has_ev (m : SM) (hl : m.length ≤ 4000000000) (n : ByteArray) (h : ∀ p ∈ m, ¬ p.1 = n) : Ev (fun k => spec_Has.f k (m.map unS) n) false := by
  have h := ev_up (L := fun k i => spec_Has.l0 k (m.map unS) n ((m.map unS).length : Int) (i : Int)) (fun _ => false) m.length (ev_succ (fun k => by
      simp only [spec_Has.l0]
      rw [if_neg (by rw [List.length_map]; omega)])) (fun i hi hh => by
    refine Ev.step (fun k => ?_) hh
    show spec_Has.l0 (k + 1) _ n ((m.map unS).length : Int) (i : Int) = _
    simp only [spec_Has.l0]
    rw [get_un hi, if_pos (by rw [List.length_map]; omega), if_pos (by omega), if_pos (by rw [List.length_map]; omega), if_neg (show ¬ (unS m[i]).f0.toList = n.toList from fun e => h _ (List.getElem_mem hi) (ba_ext' e)), wrap_next hi (by unfold maxLen; omega)]) m.length 0 (by omega)
  simpa [spec_Has.f] using h
theorem rdB {l : List ByteArray} {i : Nat} (h : i < l.length) : rdOf ByteArray.empty l (i : Int) = l[i] := by
  show l.getD i ByteArray.empty = _
  rw [List.getD_eq_getElem?_getD, List.getElem?_eq_getElem h]
  rfl
theorem more_ev (l : List PairI) (a b : List ByteArray) (hl : l.length ≤ 300) (hk : ∀ y ∈ l, okS26 y) (ha : a.length ≤ 300) (hb : b.length ≤ 300) (ka : ∀ y ∈ a, y.size ≤ maxLen) (kb : ∀ y ∈ b, y.size ≤ maxLen) : Ev (fun k => laws_FnWithoutMore.j1 k l a b false) true := by
  have f0 := fine_setK hl hk
  have f1 := fine_without f0 a
  have f2 := fine_without f1 b
  have w1 := without_eq (less9_of (by omega) hk) (namesOk_of (by omega) ka)
  have w2 := without_eq (less9_fine f1) (namesOk_of (by omega) kb)
  rw [setK_order f1.1] at w2
  have w3 := without_eq (l := l) (names := a ++ b) (less9_of (by omega) hk) (namesOk_of (by rw [List.length_append]; omega) (fun y hy => (List.mem_append.1 hy).elim (ka y) (kb y)))
  rw [without_app] at w3
  have w4 := without_eq (l := l) (names := []) (less9_of (by omega) hk) (namesOk_of (Nat.zero_le _) (fun y hy => by cases hy))
  rw [without_nil] at w4
  have hg : ∀ n ∈ a, ∀ p ∈ kvOrder (without b (without a (setK l))), ¬ p.1 = n := by
    intro n hn p hp e
    have h1 := (List.mem_filter.1 (List.mem_filter.1 (kvOrder_mem hp)).1).2
    have h2 : inL p.1 a = true := inL_iff.2 (by rw [e]; exact hn)
    rw [h2] at h1
    cases h1
  generalize hX : (kvOrder (without b (without a (setK l)))).map toPK = X at *
  have hend : ∀ i : Nat, a.length ≤ i → Ev (fun k => laws_FnWithoutMore.l0 k l X X a (a.length : Int) (i : Int)) true := fun i hi => by
    refine Ev.step (f := fun k => (laws_pairs.f k X).bind fun t217 => (laws_eqPairs.f X t217).bind fun t220 => if t220 = true then ((impl_Without.f l []).bind fun t221 => (laws_pairs.f k l).bind fun t224 => (spec_SortedPairs.f k t224).bind fun t227 => (laws_eqPairs.f t221 t227).bind fun t230 => some t230) else some false) (fun k => ?_) ?_
    · simp only [laws_FnWithoutMore.l0]
      rw [if_neg (by omega)]
    · refine Ev.bind (by rw [← hX]; exact pairs_fine f2) ?_
      rw [← hX, eqPairs_same _ (by rw [kvOrder_len]; have := f2.2.1; unfold maxLen; omega)]
      simp only [Option.bind_some, if_true, w4]
      refine Ev.bind (pairs_ev l (by omega)) (Ev.bind (specSorted_ev l (by omega)) ?_)
      rw [eqPairs_same _ (by rw [kvOrder_len]; have := f0.2.1; unfold maxLen; omega)]
      exact Ev.now _
  have h := ev_up (L := fun k i => laws_FnWithoutMore.l0 k l X X a (a.length : Int) (i : Int)) (fun _ => true) a.length (hend _ (Nat.le_refl _)) (fun i hi h => by
    refine Ev.step (f := fun k => (laws_pairs.f k X).bind fun t213 => (spec_Has.f k t213 a[i]).bind fun t216 => if t216 = true then some false else laws_FnWithoutMore.l0 k l X X a (a.length : Int) ((i + 1 : Nat) : Int)) (fun k => ?_) ?_
    · show laws_FnWithoutMore.l0 (k + 1) l X X a (a.length : Int) (i : Int) = _
      simp only [laws_FnWithoutMore.l0]
      rw [if_pos (by omega), if_pos (by omega), if_pos (by omega), rdB hi, wrap_next hi (by unfold maxLen; omega)]
    · refine Ev.bind (by rw [← hX]; exact pairs_fine f2) ?_
      refine Ev.bind (has_ev _ (by rw [kvOrder_len]; have := f2.2.1; omega) a[i] (hg _ (List.getElem_mem hi))) ?_
      simp only [Bool.false_eq_true, if_false]
      exact h) a.length 0 (by omega)
  refine Ev.step (fun k => ?_) h
  simp only [laws_FnWithoutMore.j1, Bool.false_eq_true, if_false, w1, w2, Option.bind_some, List.nil_append, List.length_nil]
  rw [if_pos (by omega), if_pos (by omega), w3]
  rfl
theorem FnWithoutMore : laws_FnWithoutMore.Pure := by
  intro l a b ⟨hl, hk⟩ ⟨ha, ka⟩ ⟨hb, kb⟩
  refine Ev.rounds ?_
  have done0 : Ev (fun k => laws_FnWithoutMore.j0 k l a b true) true := ev_succ (fun k => by simp only [laws_FnWithoutMore.j0]; rfl)
  have done1 : Ev (fun k => laws_FnWithoutMore.j1 k l a b true) true := ev_succ (fun k => by simp only [laws_FnWithoutMore.j1]; rfl)
  unfold laws_FnWithoutMore.f
  refine Ev.bind (zzFits1_ev l hl) ?_
  cases (if (l.length : Int) > 2147483647 then false else l.all fits2)
  · simpa only [Bool.false_eq_true, if_false] using done0
  simp only [if_true]
  obtain ⟨c, hc⟩ := zzFits6_ev a ha
  refine Ev.bind hc ?_
  cases c
  · simpa only [Bool.false_eq_true, if_false] using done0
  simp only [if_true]
  obtain ⟨c, hc⟩ := zzFits6_ev b hb
  refine Ev.bind hc ?_
  cases c
  · exact done0
  have e0 : impl_Without.f [(⟨(⟨#[97]⟩ : ByteArray), (⟨#[98]⟩ : ByteArray)⟩ : PairI)] ([] : List ByteArray) = some ((kvOrder (setK [(⟨(⟨#[97]⟩ : ByteArray), (⟨#[98]⟩ : ByteArray)⟩ : PairI)])).map toPK) := by
    rw [without_eq (by decide +kernel) (by decide +kernel), without_nil]
  have e1 : (((kvOrder (setK [(⟨(⟨#[97]⟩ : ByteArray), (⟨#[98]⟩ : ByteArray)⟩ : PairI)])).map toPK).length : Int) = 1 := by rw [List.length_map, kvOrder_len]; rfl
  have S : Ev (fun k => laws_FnWithoutMore.j1 k l a b (decide ((l.length : Int) > 300 ∨ (a.length : Int) > 300 ∨ (b.length : Int) > 300))) true := by
    by_cases h : (l.length : Int) > 300 ∨ (a.length : Int) > 300 ∨ (b.length : Int) > 300
    · rw [decide_eq_true h]
      exact done1
    · rw [decide_eq_false h]
      exact more_ev l a b (by omega) hk (by omega) (by omega) ka kb
  refine Ev.step (fun k => ?_) S
  simp only [laws_FnWithoutMore.j0, Bool.not_true, Bool.false_eq_true, if_false, e0, Option.bind_some, e1, if_true, laws_much.f]
  by_cases h1 : (l.length : Int) > 300
  · simp [h1]
  · by_cases h2 : (a.length : Int) > 300
    · simp [h1, h2]
    · by_cases h3 : (b.length : Int) > 300 <;> simp [h1, h2, h3]
end Go.Proofs.Ytbffcmiabcmjcaa.Pure
