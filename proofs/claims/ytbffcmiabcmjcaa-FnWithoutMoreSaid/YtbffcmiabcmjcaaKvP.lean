/- Sets handed out by their names, alertname first: the code's and the reference's, over plain lists. -/
import Derived.Test.YtbffcmiabcmjcaaQx4
import Derived.Test.YtbffcmiabcmjcaaQx3
import Derived.Test.YtbffcmiabcmjcaaQx1
import Derived.Test.YtbffcmiabcmjcaaQx3
import Derived.Test.YtbffcmiabcmjcaaFits1
import Derived.Test.YtbffcmiabcmjcaaSpecSet
import Derived.Test.YtbffcmiabcmjcaaKvL
set_option linter.unusedVariables false
set_option linter.unusedSimpArgs false
namespace Go.Proofs.Ytbffcmiabcmjcaa.Pure
open Go.RowKit Go.Proofs.Ytbffcmiabcmjcaa.Q Go.Proofs.Ytbffcmiabcmjcaa.MapsS Go.Proofs.YtbffcmiabcmjcaaW.PrintWords Go.Proofs.YtbffcmiabcmjcaaW.PrintLast
abbrev PairI := S26
def prI (p : PairI) : ByteArray × ByteArray := (p.f0, p.f1)
theorem setK_fill (l : List PairI) : setK l = fill (l.map prI) [] := by
  unfold setK fill
  rw [List.foldl_map]
  rfl
theorem setK_rises (l : List PairI) : Rises (setK l) := by rw [setK_fill]; exact rises_fill _ List.Pairwise.nil
theorem specSet_pairs (l : List PairI) (hl : l.length ≤ 4000000000) : Ev (fun k => spec_Set.f k (l.map toSP)) ((setK l).map unS) := by
  have h := specSet_ev (l.map toSP) (by rw [List.length_map]; exact hl)
  rw [List.map_map] at h
  rw [setK_fill]
  exact h
theorem eqP_same : ∀ m : SM, eqP (m.map toPK) (m.map unS) = true
  | [] => rfl
  | p :: r => by
    have ih := eqP_same r
    rw [List.map_cons, List.map_cons]
    unfold eqP neP
    simp only [toPK, unS, beq_self_eq_true, Bool.and_self, Bool.not_true, Bool.false_eq_true, if_false]
    exact ih
theorem eqPairs_same (m : SM) (hl : m.length ≤ maxLen) : laws_eqPairs.f (m.map toPK) (m.map unS) = some true := by
  unfold laws_eqPairs.f
  rw [if_pos (by rw [List.length_map]; exact hl), eqP_same]
theorem less9_of {l : List PairI} (h : l.length ≤ 1000000000) (hk : ∀ y ∈ l, okS26 y) : less9K l = true := by
  unfold less9K
  rw [Bool.and_eq_true]
  refine ⟨decide_eq_true h, List.all_eq_true.2 fun p hp => ?_⟩
  obtain ⟨h1, h2⟩ := hk p hp
  simp [small2K, h1, h2]
theorem isAn_iff (k : ByteArray) : (k.toList = ([97, 108, 101, 114, 116, 110, 97, 109, 101] : List UInt8)) ↔ isAn k = true := by
  rw [← anB_toList]
  unfold isAn
  rw [decide_eq_true_iff]
  exact ⟨fun h => ba_ext' h, fun h => by rw [h]⟩
theorem specSorted_loop (m : SM) (hl : m.length ≤ 4000000000) : Ev (fun k => spec_SortedPairs.l0 k (m.map unS) [] [] ((m.map unS).length : Int) 0) ((kvOrder m).map unS) := by
  have h := ev_up (L := fun k i => spec_SortedPairs.l0 k (m.map unS) (((m.take i).filter fun p => isAn p.1).map unS) (((m.take i).filter fun p => !isAn p.1).map unS) ((m.map unS).length : Int) (i : Int)) (fun _ => (kvOrder m).map unS) m.length (ev_succ (fun k => by
      simp only [spec_SortedPairs.l0]
      have h1 : (m.filter fun p => isAn p.1).length ≤ m.length := List.length_filter_le _ _
      have h2 : (m.filter fun p => !isAn p.1).length ≤ m.length := List.length_filter_le _ _
      rw [if_neg (by rw [List.length_map]; omega), List.take_of_length_le (Nat.le_refl _), if_pos (by rw [List.length_map, List.length_map]; omega), ← List.map_append]
      rfl)) (fun i hi h => by
    refine Ev.step (fun k => ?_) h
    show spec_SortedPairs.l0 (k + 1) _ _ _ ((m.map unS).length : Int) (i : Int) = _
    have h1 : ((m.take i).filter fun p => isAn p.1).length ≤ i := Nat.le_trans (List.length_filter_le _ _) (by rw [List.length_take]; omega)
    have h2 : ((m.take i).filter fun p => !isAn p.1).length ≤ i := Nat.le_trans (List.length_filter_le _ _) (by rw [List.length_take]; omega)
    simp only [spec_SortedPairs.l0]
    rw [get_un hi, if_pos (by rw [List.length_map]; omega), if_pos (by omega), if_pos (by rw [List.length_map]; omega), wrap_next hi (by unfold maxLen; omega), List.take_succ_eq_append_getElem hi, List.filter_append, List.filter_append]
    by_cases hA : isAn m[i].1 = true
    · rw [if_pos (show (unS m[i]).f0.toList = ([97, 108, 101, 114, 116, 110, 97, 109, 101] : List UInt8) from (isAn_iff m[i].1).2 hA), if_pos (by rw [List.length_map]; omega)]
      simp [hA, unS]
    · rw [if_neg (show ¬ (unS m[i]).f0.toList = ([97, 108, 101, 114, 116, 110, 97, 109, 101] : List UInt8) from fun e => hA ((isAn_iff m[i].1).1 e)), if_pos (by rw [List.length_map]; omega)]
      have hA' : isAn m[i].1 = false := by simpa using hA
      simp [hA', unS]) m.length 0 (by omega)
  simpa using h
theorem specSorted_ev (l : List PairI) (hl : l.length ≤ 4000000000) : Ev (fun k => spec_SortedPairs.f k (l.map toSP)) ((kvOrder (setK l)).map unS) := by
  unfold spec_SortedPairs.f
  exact Ev.bind (specSet_pairs l hl) (specSorted_loop (setK l) (Nat.le_trans (setK_le l) hl))
theorem kvOrder_perm (m : SM) : (kvOrder m).Perm m := by
  unfold kvOrder
  exact List.filter_append_perm _ _
theorem setK_perm {m : SM} (hm : Rises m) {x : List PairI} (hp : x.Perm ((kvOrder m).map toPK)) : setK x = m := by
  rw [setK_fill]
  refine fill_perm hm ?_
  have h := hp.map prI
  rw [List.map_map] at h
  have e : (kvOrder m).map (prI ∘ toPK) = kvOrder m := List.map_id _
  rw [e] at h
  exact h.trans (kvOrder_perm m)
theorem mem_fill' : ∀ {r m : SM} {q : ByteArray × ByteArray}, q ∈ fill r m → q ∈ r ∨ q ∈ m
  | [], _, _, h => .inr h
  | x :: r, m, q, h => by
    rw [fill_cons] at h
    rcases mem_fill' h with h | h
    · exact .inl (List.mem_cons_of_mem _ h)
    · rcases mem_ins h with e | h
      · exact .inl (by rw [e]; exact List.mem_cons_self)
      · exact .inr h
theorem mem_setK {l : List PairI} {p : ByteArray × ByteArray} (h : p ∈ setK l) : toPK p ∈ l := by
  rw [setK_fill] at h
  rcases mem_fill' h with h | h
  · obtain ⟨y, hy, rfl⟩ := List.mem_map.1 h
    exact hy
  · cases h
end Go.Proofs.Ytbffcmiabcmjcaa.Pure
