/- The law FnFiring over plain lists. -/
import Derived.Test.YthjameohenmeiaaQx3
import Derived.Test.YthjameohenmeiaaQx2
import Derived.Test.YthjameohenmeiaaQx2
import Derived.Test.YthjameohenmeiaaQx2
import Derived.Test.YthjameohenmeiaaQx2
import Derived.Test.YthjameohenmeiaaQx1
import Derived.Test.YthjameohenmeiaaLib
set_option linter.unusedVariables false
set_option linter.unusedSimpArgs false
namespace Go.Proofs.Ythjameohenmeiaa.Pure
open Go.RowKit Go.Proofs.Ythjameohenmeiaa.Q Go.Proofs.YthjameohenmeiaaW.PrintWords Go.Proofs.YthjameohenmeiaaW.PrintLast
theorem zzFits6_ev (l : List ByteArray) (hl : l.length ≤ maxLen) : ∃ b, Ev (fun k => laws_zzFits6.f k l) b := by
  unfold laws_zzFits6.f
  by_cases h : (l.length : Int) > 2147483647
  · exact ⟨false, ev_ite_pos h (Ev.now _)⟩
  · refine ⟨_, ev_ite_neg h (ev_all l ByteArray.empty (fun s => !decide ((s.size : Int) > 2147483647)) (L := fun k i => laws_zzFits6.l0 k l (l.length : Int) i) (fun k => ?_) (fun i hi b hb => ?_))⟩
    · simp only [laws_zzFits6.l0]
      rw [if_neg (by omega)]
    · by_cases hs : ((l.getD i ByteArray.empty).size : Int) > 2147483647
      · rw [decide_eq_true hs]
        refine ev_succ (fun k => ?_)
        simp only [laws_zzFits6.l0]
        rw [if_pos (by omega), if_pos (by omega), if_pos (by omega), show rdOf ByteArray.empty l (i : Int) = l.getD i ByteArray.empty from rfl, if_pos hs]
        rfl
      · rw [decide_eq_false hs]
        refine Ev.step (fun k => ?_) hb
        simp only [laws_zzFits6.l0]
        rw [if_pos (by omega), if_pos (by omega), if_pos (by omega), show rdOf ByteArray.empty l (i : Int) = l.getD i ByteArray.empty from rfl, if_neg hs, wrap_next hi hl]
def kept (l : List ByteArray) (K : ByteArray) : List Int := ((alsOf l).filter (isK K)).map fun p => (p.2 : Int)
theorem eqInts_ev (a : List Int) (hl : a.length ≤ maxLen) : Ev (fun k => laws_eqInts.f k a a) true := by
  unfold laws_eqInts.f
  refine ev_ite_pos rfl ?_
  have h := ev_up (L := fun k i => laws_eqInts.l0 k a a (a.length : Int) (i : Int)) (fun _ => true) a.length (ev_succ (fun k => by
      simp only [laws_eqInts.l0]
      rw [if_neg (by omega)])) (fun i hi h => by
    refine Ev.step (fun k => ?_) h
    show laws_eqInts.l0 (k + 1) a a (a.length : Int) (i : Int) = _
    simp only [laws_eqInts.l0]
    rw [if_pos (by omega), if_pos (by omega), if_pos (by omega), if_pos (by omega), if_pos trivial, wrap_next hi hl]) a.length 0 (by omega)
  exact h
theorem specKept_ev (l : List ByteArray) (K : ByteArray) (hl : l.length ≤ 1000000000) : Ev (fun k => spec_Kept.f k l K) (kept l K) := by
  unfold spec_Kept.f
  have h := ev_up (L := fun k i => spec_Kept.l0 k l K ((((alsOf l).take i).filter (isK K)).map fun p => (p.2 : Int)) (l.length : Int) (i : Int)) (fun _ => kept l K) l.length (ev_succ (fun k => by
      simp only [spec_Kept.l0]
      rw [if_neg (by omega), List.take_of_length_le (by rw [alsOf_len]; exact Nat.le_refl _)]
      rfl)) (fun i hi h => by
    refine Ev.step (fun k => ?_) h
    show spec_Kept.l0 (k + 1) l K _ (l.length : Int) (i : Int) = _
    have er : rdOf ByteArray.empty l (i : Int) = l[i] := by
      show l.getD i ByteArray.empty = _
      rw [List.getD_eq_getElem?_getD, List.getElem?_eq_getElem hi]
      rfl
    have hf : (((alsOf l).take i).filter (isK K)).length ≤ i := Nat.le_trans (List.length_filter_le _ _) (by rw [List.length_take]; omega)
    simp only [spec_Kept.l0]
    rw [if_pos (by omega), if_pos (by omega), if_pos (by omega), er, wrap_next hi (by unfold maxLen; omega), alsOf_take l i hi, List.filter_append]
    by_cases hs : l[i] = K
    · have hk : isK K (l[i], i) = true := decide_eq_true hs
      rw [if_pos (show l[i].toList = K.toList by rw [hs]), if_pos (by rw [List.length_map]; omega)]
      simp [hk]
    · have hk : isK K (l[i], i) = false := decide_eq_false hs
      rw [if_neg (show ¬ l[i].toList = K.toList from fun e => hs (ba_of_toList e))]
      simp [hk]) l.length 0 (by omega)
  simpa using h
theorem firing_eq {l : List ByteArray} (h : l.length ≤ 1000000000) : impl_Firing.f l = some (kept l firB) := by
  unfold impl_Firing.f
  rw [if_pos h]
  rfl
theorem ended_eq {l : List ByteArray} (h : l.length ≤ 1000000000) : impl_Ended.f l = some (kept l resB) := by
  unfold impl_Ended.f
  rw [if_pos h]
  rfl
theorem kept_le (l : List ByteArray) (K : ByteArray) : (kept l K).length ≤ l.length := by
  unfold kept
  rw [List.length_map]
  exact Nat.le_trans (List.length_filter_le _ _) (by rw [alsOf_len]; exact Nat.le_refl _)
theorem FnFiring : laws_FnFiring.Pure := by
  intro l ⟨hl, hk⟩
  refine Ev.rounds ?_
  unfold laws_FnFiring.f
  obtain ⟨c, hc⟩ := zzFits6_ev l hl
  refine Ev.bind hc ?_
  cases c
  · simp only [Bool.false_eq_true, if_false]
    exact Ev.now _
  simp only [if_true]
  by_cases h1 : (l.length : Int) > 10000
  · simp only [if_pos h1]
    exact Ev.now _
  simp only [if_neg h1]
  have e1 : impl_Firing.f [(⟨#[102, 105, 114, 105, 110, 103]⟩ : ByteArray), (⟨#[114, 101, 115, 111, 108, 118, 101, 100]⟩ : ByteArray)] = some [0] := by
    rw [firing_eq (by decide)]
    exact congrArg some (by decide +kernel)
  have e2 : impl_Ended.f [(⟨#[102, 105, 114, 105, 110, 103]⟩ : ByteArray), (⟨#[114, 101, 115, 111, 108, 118, 101, 100]⟩ : ByteArray)] = some [1] := by
    rw [ended_eq (by decide)]
    exact congrArg some (by decide +kernel)
  simp only [e1, e2, Option.bind_some, firing_eq (l := l) (by omega), ended_eq (l := l) (by omega)]
  refine Ev.bind (eqInts_ev [0] (by decide)) ?_
  simp only [if_true]
  refine Ev.bind (eqInts_ev [1] (by decide)) ?_
  simp only [if_true]
  refine Ev.bind (specKept_ev l firB (by omega)) ?_
  refine Ev.bind (eqInts_ev _ (by have := kept_le l firB; unfold maxLen; omega)) ?_
  simp only [if_true]
  refine Ev.bind (specKept_ev l resB (by omega)) ?_
  refine Ev.bind (eqInts_ev _ (by have := kept_le l resB; unfold maxLen; omega)) ?_
  exact Ev.now _
end Go.Proofs.Ythjameohenmeiaa.Pure
