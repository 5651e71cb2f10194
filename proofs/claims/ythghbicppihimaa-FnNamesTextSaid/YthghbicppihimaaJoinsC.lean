/- Texts joined with a separator, over plain lists. -/
import Derived.Test.YthghbicppihimaaQx1
import Derived.Test.YthghbicppihimaaQx1
import Derived.Test.YthghbicppihimaaQx2
import Derived.Test.YthghbicppihimaaQx1
import Derived.Test.YthghbicppihimaaQx1
import Derived.Test.YthghbicppihimaaLib
set_option linter.unusedVariables false
set_option linter.unusedSimpArgs false
namespace Go.Proofs.Ythghbicppihimaa.Pure
open Go.RowKit Go.Proofs.Ythghbicppihimaa.Q Go.Proofs.YthghbicppihimaaW.PrintWords Go.Proofs.YthghbicppihimaaW.PrintLast
abbrev bl (b : ByteArray) : List UInt8 := b.data.toList
theorem ba_of {a b : ByteArray} (h : bl a = bl b) : a = b := ByteArray.ext (Array.toList_inj.1 h)
theorem bl_append (a b : ByteArray) : bl (a ++ b) = bl a ++ bl b := by simp [bl, ByteArray.data_append]
theorem bl_joined (l : List ByteArray) (s : ByteArray) : bl (joined l s) = Go.Lib.join (l.map bl) (bl s) := by simp [joined, bl]
theorem joined_snoc (l : List ByteArray) (x s : ByteArray) (h : l ≠ []) : joined (l ++ [x]) s = (joined l s ++ s) ++ x := by
  apply ba_of
  rw [bl_append, bl_append, bl_joined, bl_joined]
  obtain ⟨y, r, rfl⟩ := List.exists_cons_of_ne_nil h
  rw [List.cons_append, List.map_cons, List.map_cons, Go.Lib.join_cons, Go.Lib.join_cons, List.map_append, List.map_cons, List.map_nil]
  simp [Go.Lib.joinTail, List.append_assoc]
theorem joined_one (x s : ByteArray) : joined [x] s = (⟨#[]⟩ : ByteArray) ++ x := by
  apply ba_of
  rw [bl_append, bl_joined, List.map_cons, List.map_nil, Go.Lib.join_one]
  rfl
theorem size_bl (b : ByteArray) : b.size = (bl b).length := rfl
def sizes (l : List ByteArray) : Nat := (l.map ByteArray.size).sum
theorem sizes_cons (x : ByteArray) (r : List ByteArray) : sizes (x :: r) = x.size + sizes r := by unfold sizes; rw [List.map_cons, List.sum_cons]
theorem tail_len (s : List UInt8) : ∀ r : List ByteArray, (Go.Lib.joinTail s (r.map bl)).length = r.length * s.length + sizes r
  | [] => by simp [Go.Lib.joinTail, sizes]
  | x :: r => by
    have ih := tail_len s r
    have e : Go.Lib.joinTail s ((x :: r).map bl) = (s ++ bl x) ++ Go.Lib.joinTail s (r.map bl) := by simp [Go.Lib.joinTail]
    rw [e, List.length_append, List.length_append, ih, List.length_cons, Nat.add_mul]
    have : sizes (x :: r) = (bl x).length + sizes r := by simp [sizes, bl]
    rw [this]
    omega
theorem join_len (l : List ByteArray) (s : ByteArray) : (Go.Lib.join (l.map bl) (bl s)).length ≤ l.length * s.size + sizes l := by
  cases l with
  | nil => simp [Go.Lib.join_nil]
  | cons x r =>
    rw [List.map_cons, Go.Lib.join_cons, List.length_append, tail_len, List.length_cons, Nat.add_mul, size_bl s]
    have : sizes (x :: r) = (bl x).length + sizes r := by simp [sizes, bl]
    rw [this]
    omega
theorem sizes_take (l : List ByteArray) (i : Nat) : sizes (l.take i) ≤ sizes l := by
  have h : sizes l = sizes (l.take i) + sizes (l.drop i) := by
    unfold sizes
    rw [← List.sum_append, ← List.map_append, List.take_append_drop]
  omega
theorem joined_take (l : List ByteArray) (s : ByteArray) (i : Nat) : (joined (l.take i) s).size ≤ l.length * s.size + sizes l := by
  rw [size_bl, bl_joined]
  have h1 := join_len (l.take i) s
  have h2 := sizes_take l i
  have h3 : (l.take i).length * s.size ≤ l.length * s.size := Nat.mul_le_mul_right _ (by rw [List.length_take]; omega)
  omega
theorem rdOf_get {l : List ByteArray} {i : Nat} (h : i < l.length) : rdOf ByteArray.empty l (i : Int) = l[i] := by simp [rdOf, h]
theorem lawsJoined_ev (l : List ByteArray) (s : ByteArray) (hl : l.length ≤ maxLen) (hb : l.length * s.size + sizes l ≤ 4611686018427387904) : Ev (fun k => laws_joined.f k l s) (joined l s) := by
  unfold laws_joined.f
  have g := ev_up (L := fun k i => laws_joined.l0 k s (joined (l.take i) s) l (l.length : Int) (i : Int)) (fun _ => joined l s) l.length (ev_succ fun k => by
      simp only [laws_joined.l0]
      rw [if_neg (by omega), List.take_of_length_le (Nat.le_refl _)]) (fun i hi g => by
    refine Ev.step (fun k => ?_) g
    show laws_joined.l0 (k + 1) _ _ _ _ _ = _
    have hw := wrap_next hi hl
    have hc : l.take (i + 1) = l.take i ++ [l[i]] := List.take_succ_eq_append_getElem hi
    have b1 := joined_take l s i
    have b2 := joined_take l s (i + 1)
    have hs : s.size ≤ l.length * s.size := Nat.le_mul_of_pos_left _ (by omega)
    simp only [laws_joined.l0]
    rw [rdOf_get hi]
    by_cases h0 : i = 0
    · subst h0
      rw [hc, List.take_zero, List.nil_append, joined_one] at b2
      rw [ByteArray.size_append] at b2
      rw [if_pos (by omega), if_pos (by omega), if_pos (by omega), if_neg (by omega), if_pos (by rw [List.take_zero]; simp only [joined, Go.Lib.join_nil, List.map_nil]; exact Nat.le_trans b2 (by omega)), hw, hc, List.take_zero, List.nil_append, joined_one]
      rfl
    · have hne : l.take i ≠ [] := by
        intro e
        have := congrArg List.length e
        rw [List.length_take, List.length_nil] at this
        omega
      rw [hc, joined_snoc _ _ _ hne, ByteArray.size_append, ByteArray.size_append] at b2
      rw [if_pos (by omega), if_pos (by omega), if_pos (by omega), if_pos (by omega), if_pos (by omega), if_pos (by rw [ByteArray.size_append]; omega), hw, hc, joined_snoc _ _ _ hne]) l.length 0 (by omega)
  exact g
theorem labelNames_ev (l : List ByteArray) (hl : l.length ≤ 4000000000) : Ev (fun k => impl_labelNames.f k l) l := by
  unfold impl_labelNames.f
  have g := ev_up (L := fun k i => impl_labelNames.l0 k (l.take i) l (l.length : Int) (i : Int)) (fun _ => l) l.length (ev_succ fun k => by
      simp only [impl_labelNames.l0]
      rw [if_neg (by omega), List.take_of_length_le (Nat.le_refl _)]) (fun i hi g => by
    refine Ev.step (fun k => ?_) g
    show impl_labelNames.l0 (k + 1) _ _ _ _ = _
    simp only [impl_labelNames.l0]
    rw [if_pos (by omega), if_pos (by omega), if_pos (by omega), if_pos (by rw [List.length_take]; omega), rdOf_get hi, wrap_next hi (by unfold maxLen; omega), List.take_succ_eq_append_getElem hi]) l.length 0 (by omega)
  exact g
theorem zzFits6_ev (l : List ByteArray) (hl : l.length ≤ maxLen) : ∃ b, Ev (fun k => laws_zzFits6.f k l) b := by
  unfold laws_zzFits6.f
  by_cases h : (l.length : Int) > 2147483647
  · exact ⟨false, by simp only [if_pos h]; exact Ev.now _⟩
  · refine ⟨l.all fun x => !decide ((x.size : Int) > 2147483647), ?_⟩
    simp only [if_neg h]
    refine ev_all l ByteArray.empty (fun x => !decide ((x.size : Int) > 2147483647)) (L := fun k i => laws_zzFits6.l0 k l (l.length : Int) i) (fun k => ?_) (fun i hi b hb => ?_)
    · simp only [laws_zzFits6.l0]
      rw [if_neg (by omega)]
    · by_cases hz : ((l.getD i ByteArray.empty).size : Int) > 2147483647
      · simp only [decide_eq_true hz, Bool.not_true, Bool.false_eq_true, if_false]
        refine ev_succ fun k => ?_
        show laws_zzFits6.l0 (k + 1) l (l.length : Int) (i : Int) = _
        simp only [laws_zzFits6.l0]
        rw [if_pos (by omega), if_pos (by omega), if_pos (by omega)]
        exact if_pos hz
      · simp only [decide_eq_false hz, Bool.not_false, if_true]
        refine Ev.step (fun k => ?_) hb
        show laws_zzFits6.l0 (k + 1) l (l.length : Int) (i : Int) = _
        simp only [laws_zzFits6.l0]
        rw [if_pos (by omega), if_pos (by omega), if_pos (by omega), wrap_next hi hl]
        exact if_neg hz
theorem slight_l0 (l : List ByteArray) (hl : l.length ≤ maxLen) (hx : ∀ x ∈ l, x.size ≤ maxLen) : ∀ (d i n : Nat), i + d = l.length → n ≤ 262144 → ∃ b, Ev (fun k => laws_slight.l0 k (n : Int) l (l.length : Int) (i : Int)) b ∧ (b = true → n + sizes (l.drop i) ≤ 262144)
  | 0, i, n, hd, hn => ⟨true, ev_succ fun k => by simp only [laws_slight.l0]; rw [if_neg (by omega)], fun _ => by rw [List.drop_of_length_le (by omega)]; simpa [sizes] using hn⟩
  | d + 1, i, n, hd, hn => by
    have hi : i < l.length := by omega
    have hw := wrap_next hi hl
    have hxi := hx l[i] (List.getElem_mem hi)
    unfold maxLen at hxi
    have e1 : wrap64 (262144 - (n : Int)) = 262144 - (n : Int) := by simp only [wrap64]; omega
    by_cases hb : (l[i].size : Int) > 262144 - (n : Int)
    · refine ⟨false, ev_succ fun k => ?_, fun h => by cases h⟩
      simp only [laws_slight.l0]
      rw [if_pos (by omega), if_pos (by omega), if_pos (by omega), rdOf_get hi, e1, if_pos hb]
    · obtain ⟨b, hB, hR⟩ := slight_l0 l hl hx d (i + 1) (n + l[i].size) (by omega) (by omega)
      refine ⟨b, Ev.step (fun k => ?_) hB, fun h => ?_⟩
      · have e2 : wrap64 ((n : Int) + (l[i].size : Int)) = ((n + l[i].size : Nat) : Int) := by simp only [wrap64]; omega
        simp only [laws_slight.l0]
        rw [if_pos (by omega), if_pos (by omega), if_pos (by omega), rdOf_get hi, e1, if_neg hb, e2, hw]
      · have := hR h
        rw [List.drop_eq_getElem_cons hi]
        have e3 := sizes_cons l[i] (l.drop (i + 1))
        omega
theorem slight_ev (l : List ByteArray) (s : ByteArray) (hl : l.length ≤ maxLen) (hx : ∀ x ∈ l, x.size ≤ maxLen) : ∃ b, Ev (fun k => laws_slight.f k l s) b ∧ (b = true → l.length ≤ 10000 ∧ l.length * s.size + sizes l ≤ 262144) := by
  have done : Ev (fun k => laws_slight.j0 k l s true) false := ev_succ fun k => by simp only [laws_slight.j0]; rfl
  unfold laws_slight.f
  by_cases h1 : (l.length : Int) > 10000
  · exact ⟨false, by simpa only [if_pos h1] using done, fun h => by cases h⟩
  by_cases h2 : (s.size : Int) > 262144
  · exact ⟨false, by simpa only [if_neg h1, if_pos h2] using done, fun h => by cases h⟩
  have hm : l.length * s.size ≤ 10000 * 262144 := Nat.mul_le_mul (by omega) (by omega)
  have e1 : wrap64 ((l.length : Int) * (s.size : Int)) = ((l.length * s.size : Nat) : Int) := by
    rw [← Int.natCast_mul]
    generalize l.length * s.size = q at *
    simp only [wrap64]
    omega
  simp only [if_neg h1, if_neg h2]
  by_cases h3 : ((l.length * s.size : Nat) : Int) > 262144
  · exact ⟨false, by rw [e1]; simpa only [decide_eq_true h3] using done, fun h => by cases h⟩
  · obtain ⟨b, hB, hR⟩ := slight_l0 l hl hx l.length 0 (l.length * s.size) (by omega) (by omega)
    refine ⟨b, ?_, fun h => ⟨by omega, hR h⟩⟩
    rw [e1, decide_eq_false h3]
    refine Ev.step (fun k => ?_) hB
    simp only [laws_slight.j0, Bool.false_eq_true, if_false, e1]
    rfl
end Go.Proofs.Ythghbicppihimaa.Pure
