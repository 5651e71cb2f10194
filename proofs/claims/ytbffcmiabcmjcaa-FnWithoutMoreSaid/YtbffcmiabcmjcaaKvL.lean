/- Sets of texts, handed out by their names, alertname first: plain lists. -/
import Derived.Test.YtbffcmiabcmjcaaMaps
import Derived.Test.YtbffcmiabcmjcaaSetsPure
import Derived.Test.YtbffcmiabcmjcaaLSet
import Derived.Test.YtbffcmiabcmjcaaOrderS
set_option linter.unusedVariables false
set_option linter.unusedSimpArgs false
namespace Go.Proofs.Ytbffcmiabcmjcaa.Q
open Go.RowKit Go.Proofs.YtbffcmiabcmjcaaW.PrintWords
def anB : ByteArray := ⟨#[97, 108, 101, 114, 116, 110, 97, 109, 101]⟩
def isAn (k : ByteArray) : Bool := decide (k = anB)
/-- Names, those that are alertname first. -/
def kvKeys (l : List ByteArray) : List ByteArray := l.filter isAn ++ l.filter (fun k => !isAn k)
def kvOrder (m : MapsS.SM) : MapsS.SM := m.filter (fun p => isAn p.1) ++ m.filter (fun p => !isAn p.1)
theorem kvOrder_names (m : MapsS.SM) : (kvOrder m).map (·.1) = kvKeys (m.map (·.1)) := by
  unfold kvOrder kvKeys
  rw [List.map_append, List.filter_map, List.filter_map]
  rfl
theorem kvOrder_mem {m : MapsS.SM} {p : ByteArray × ByteArray} (h : p ∈ kvOrder m) : p ∈ m := by
  rcases List.mem_append.1 h with h | h
  · exact (List.mem_filter.1 h).1
  · exact (List.mem_filter.1 h).1
theorem kvOrder_len (m : MapsS.SM) : (kvOrder m).length = m.length := by
  unfold kvOrder
  rw [List.length_append]
  have h := List.length_eq_countP_add_countP (l := m) (fun p => isAn p.1)
  rw [List.countP_eq_length_filter, List.countP_eq_length_filter] at h
  have e : (fun p : ByteArray × ByteArray => decide ¬isAn p.1 = true) = fun p => !isAn p.1 := by
    funext p
    cases isAn p.1 <;> rfl
  rw [e] at h
  omega
theorem sortB_sorted (l : List ByteArray) : (sortB l).Pairwise fun x y => decide (x.data.toList ≤ y.data.toList) = true :=
  List.pairwise_mergeSort (le := fun x y : ByteArray => decide (x.data.toList ≤ y.data.toList)) (fun a b c h1 h2 => decide_eq_true (List.le_trans (of_decide_eq_true h1) (of_decide_eq_true h2))) (fun a b => by rcases List.le_total a.data.toList b.data.toList with h | h <;> simp [h]) l
theorem sortB_unique {a b : List ByteArray} (h : a.Perm b) (hb : b.Pairwise fun x y => decide (x.data.toList ≤ y.data.toList) = true) : sortB a = b :=
  List.Perm.eq_of_pairwise (le := fun x y => decide (x.data.toList ≤ y.data.toList) = true) (fun x y _ _ h1 h2 => MapsS.ba_ext (List.le_antisymm (of_decide_eq_true h1) (of_decide_eq_true h2))) (sortB_sorted a) hb ((sortB_perm a).trans h)
theorem sortB_congr {a b : List ByteArray} (h : a.Perm b) : sortB a = sortB b := sortB_unique (h.trans (sortB_perm b).symm) (sortB_sorted b)
theorem sortB_up (l : List ByteArray) : MapsS.Up (sortB l) := by
  refine List.Pairwise.imp (fun {p q} hpq => ?_) (sortB_sorted l)
  have h := of_decide_eq_true hpq
  rw [Pure.less_eq, ← Lib.toList_data, ← Lib.toList_data] at *
  exact decide_eq_false (List.not_lt.2 h)
theorem rises_le {m : MapsS.SM} (h : MapsS.Rises m) : (m.map (·.1)).Pairwise fun x y => decide (x.data.toList ≤ y.data.toList) = true := by
  rw [List.pairwise_map]
  refine List.Pairwise.imp (fun {p q} hpq => ?_) h
  rw [Pure.less_eq] at hpq
  have := of_decide_eq_true hpq
  rw [Lib.toList_data, Lib.toList_data] at this
  exact decide_eq_true (List.le_of_lt this)
/-- The first ones of a list of names in any order. -/
theorem kv_first {a b : List ByteArray} (h : a.Perm b) : a.filter isAn = b.filter isAn := by
  have h1 : ∀ l : List ByteArray, l.filter isAn = List.replicate (l.filter isAn).length anB := by
    intro l
    refine List.eq_replicate_iff.2 ⟨rfl, fun k hk => ?_⟩
    exact of_decide_eq_true (List.mem_filter.1 hk).2
  rw [h1 a, h1 b, (h.filter isAn).length_eq]
theorem kv_done {a : List ByteArray} {m : MapsS.SM} (hm : MapsS.Rises m) (h : a.Perm (m.map (·.1))) : a.filter isAn ++ sortB (a.filter fun k => !isAn k) = kvKeys (m.map (·.1)) := by
  unfold kvKeys
  rw [kv_first h, sortB_unique (h.filter _) ((rises_le hm).filter _)]
theorem kv_push_an {l : List ByteArray} (h : anB ∉ l) : kvKeys (l ++ [anB]) = [anB] ++ kvKeys l ∧ ((l ++ [anB]).filter isAn).length = 1 ∧ (l.filter isAn).length = 0 := by
  have e : l.filter isAn = [] := List.filter_eq_nil_iff.2 fun k hk hi => h (by rw [← of_decide_eq_true hi]; exact hk)
  have e1 : [anB].filter isAn = [anB] := by simp [isAn]
  have e2 : [anB].filter (fun k => !isAn k) = [] := by simp [isAn]
  unfold kvKeys
  rw [List.filter_append, List.filter_append, e, e1, e2]
  simp
theorem kv_push {l : List ByteArray} {x : ByteArray} (h : ¬ x = anB) : kvKeys (l ++ [x]) = kvKeys l ++ [x] ∧ ((l ++ [x]).filter isAn).length = (l.filter isAn).length := by
  have e1 : [x].filter isAn = [] := by simp [isAn, h]
  have e2 : [x].filter (fun k => !isAn k) = [x] := by simp [isAn, h]
  unfold kvKeys
  rw [List.filter_append, List.filter_append, e1, e2]
  simp
theorem not_named {m seen : MapsS.SM} (hm : MapsS.Rises m) (hs : ∀ p ∈ seen, p ∈ m) {x c : ByteArray} (h : (x, c) ∈ m) (hn : (x, c) ∉ seen) : x ∉ seen.map (·.1) := by
  intro hx
  obtain ⟨p, hp, e⟩ := List.mem_map.1 hx
  have h1 := (MapsS.look_mem hm).2 h
  have h2 := (MapsS.look_mem hm).2 (show (x, p.2) ∈ m by rw [← e]; exact hs p hp)
  rw [h1] at h2
  refine hn ?_
  have : p = (x, c) := Prod.ext e (Option.some.inj h2).symm
  rw [← this]
  exact hp
end Go.Proofs.Ytbffcmiabcmjcaa.Q
