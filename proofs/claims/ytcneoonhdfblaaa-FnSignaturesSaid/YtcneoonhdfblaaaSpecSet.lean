/- The reference's set of labels, over plain lists. -/
import Derived.Test.YtcneoonhdfblaaaQx3
import Derived.Test.YtcneoonhdfblaaaSetsPure
set_option linter.unusedVariables false
set_option linter.unusedSimpArgs false
namespace Go.Proofs.Ytcneoonhdfblaaa.Pure
open Go.RowKit Go.Proofs.Ytcneoonhdfblaaa.Q Go.Proofs.Ytcneoonhdfblaaa.MapsS Go.Proofs.YtcneoonhdfblaaaW.PrintWords Go.Proofs.YtcneoonhdfblaaaW.PrintLast
def prS (p : S37) : ByteArray × ByteArray := (p.f0, p.f1)
def unS (p : ByteArray × ByteArray) : S37 := ⟨p.1, p.2⟩
theorem get_un {m : SM} {a : Nat} (h : a < m.length) : rd_T37 (m.map unS) (a : Int) = unS (m[a]) := by
  show (m.map unS).getD a z37 = _
  rw [List.getD_eq_getElem?_getD, List.getElem?_map, List.getElem?_eq_getElem h]
  rfl
theorem get_pr {l : List S37} {i : Nat} (h : i < l.length) : rd_T37 l (i : Int) = l[i] := by
  show l.getD i z37 = _
  rw [List.getD_eq_getElem?_getD, List.getElem?_eq_getElem h]
  rfl
theorem set_l2 (l : List S37) (out : SM) (i : Nat) (hi : i < l.length) (hl : l.length ≤ 4000000000) (ho : out.length ≤ i) (R : List S37) :
    ∀ (d a : Nat), a + d = out.length → Ev (fun k => spec_Set.l0 k l ((out.take a ++ insS (prS l[i]) (out.drop a)).map unS) (l.length : Int) ((i + 1 : Nat) : Int)) R →
      Ev (fun k => spec_Set.l2 k l (out.map unS) (i : Int) (a : Int) (l.length : Int) (i : Int)) R
  | 0, a, h, hR => by
    refine Ev.step (fun k => ?_) hR
    simp only [spec_Set.l2, Option.bind_some, List.length_map, List.length_nil, List.length_append, List.length_take, List.length_cons, List.length_drop, Int.toNat_natCast, List.nil_append]
    rw [if_neg (by omega), if_pos (by omega), if_pos (by omega), if_pos (by omega), if_pos (by omega), if_pos (by omega), if_pos (by omega), if_pos (by omega), wrap_next hi (by unfold maxLen; omega), get_pr hi]
    congr 1
    rw [List.drop_of_length_le (by omega : out.length ≤ a), List.map_append, ← List.map_take, List.drop_of_length_le (by rw [List.length_map]; omega), List.append_nil]
    rfl
  | d + 1, a, h, hR => by
    have ha : a < out.length := by omega
    have hd : out.drop a = out[a] :: out.drop (a + 1) := List.drop_eq_getElem_cons ha
    rw [hd] at hR
    unfold insS at hR
    by_cases hb : Op.bytesLess out[a].1.toList (prS l[i]).1.toList = true
    · rw [if_pos hb] at hR
      refine Ev.step (fun k => ?_) (set_l2 l out i hi hl ho R d (a + 1) (by omega) ?_)
      · simp only [spec_Set.l2, List.length_map]
        rw [if_pos (by omega), if_pos (by omega), if_pos (by omega), if_pos (by omega), get_un ha, get_pr hi, if_pos (show Op.bytesLess (unS out[a]).f0.toList l[i].f0.toList = true from hb), wrap_next ha (by unfold maxLen; omega)]
      · rw [List.take_succ_eq_append_getElem ha, List.append_assoc]
        exact hR
    · rw [if_neg hb] at hR
      refine Ev.step (fun k => ?_) hR
      simp only [spec_Set.l2, Option.bind_some, List.length_map, List.length_nil, List.length_append, List.length_take, List.length_cons, List.length_drop, Int.toNat_natCast, List.nil_append]
      rw [if_pos (by omega), if_pos (by omega), if_pos (by omega), if_pos (by omega), get_un ha, get_pr hi, if_neg (show ¬ Op.bytesLess (unS out[a]).f0.toList l[i].f0.toList = true from hb), if_pos (by omega), if_pos (by omega), if_pos (by omega), if_pos (by omega), wrap_next hi (by unfold maxLen; omega)]
      congr 1
      rw [List.map_append, ← List.map_take, ← List.map_drop, hd]
      simp [unS, prS]
theorem set_l1 (l : List S37) (out : SM) (i : Nat) (hi : i < l.length) (hl : l.length ≤ 4000000000) (R : List S37) :
    ∀ (d j : Nat) (b : Bool), j + d = l.length →
      (if (b && ((l.drop j).map prS).all fun q => q.1.toList != (prS l[i]).1.toList) = true then Ev (fun k => spec_Set.l2 k l (out.map unS) (i : Int) 0 (l.length : Int) (i : Int)) R
        else Ev (fun k => spec_Set.l0 k l (out.map unS) (l.length : Int) ((i + 1 : Nat) : Int)) R) →
      Ev (fun k => spec_Set.l1 k l (out.map unS) (i : Int) b (j : Int) (l.length : Int) (i : Int)) R
  | 0, j, b, h, hR => by
    rw [List.drop_of_length_le (by omega)] at hR
    cases b with
    | true =>
      rw [if_pos (by simp)] at hR
      refine Ev.step (fun k => ?_) hR
      simp only [spec_Set.l1]
      rw [if_neg (by omega), if_pos trivial]
    | false =>
      rw [if_neg (by simp)] at hR
      refine Ev.step (fun k => ?_) hR
      simp only [spec_Set.l1]
      rw [if_neg (by omega), if_neg (by simp), wrap_next hi (by unfold maxLen; omega)]
  | d + 1, j, b, h, hR => by
    have hj : j < l.length := by omega
    have hd : l.drop j = l[j] :: l.drop (j + 1) := List.drop_eq_getElem_cons hj
    rw [hd, List.map_cons, List.all_cons] at hR
    cases b with
    | true =>
      refine Ev.step (fun k => ?_) (set_l1 l out i hi hl R d (j + 1) ((prS l[j]).1.toList != (prS l[i]).1.toList) (by omega) (by simpa only [Bool.true_and] using hR))
      simp only [spec_Set.l1]
      rw [if_pos (by omega), if_pos trivial, if_pos (by omega), if_pos (by omega), if_pos (by omega), get_pr hj, get_pr hi, wrap_next hj (by unfold maxLen; omega)]
      rfl
    | false =>
      refine Ev.step (fun k => ?_) (set_l1 l out i hi hl R d (j + 1) false (by omega) (by simpa only [Bool.false_and] using hR))
      simp only [spec_Set.l1]
      rw [if_pos (by omega), if_neg (by simp), wrap_next hj (by unfold maxLen; omega)]
theorem set_l0 (l : List S37) (hl : l.length ≤ 4000000000) : ∀ (d i : Nat) (out : SM), i + d = l.length → out.length ≤ i →
    Ev (fun k => spec_Set.l0 k l (out.map unS) (l.length : Int) (i : Int)) ((refSet ((l.drop i).map prS) out).map unS)
  | 0, i, out, h, _ => by
    rw [List.drop_of_length_le (by omega)]
    refine ev_succ (fun k => ?_)
    simp only [spec_Set.l0]
    rw [if_neg (by omega)]
    rfl
  | d + 1, i, out, h, ho => by
    have hi : i < l.length := by omega
    have hd : l.drop i = l[i] :: l.drop (i + 1) := List.drop_eq_getElem_cons hi
    refine Ev.step (f := fun k => spec_Set.l1 k l (out.map unS) (i : Int) true ((i + 1 : Nat) : Int) (l.length : Int) (i : Int)) (fun k => ?_) (set_l1 l out i hi hl _ _ (i + 1) true (by omega : i + 1 + d = l.length) ?_)
    · simp only [spec_Set.l0]
      rw [if_pos (by omega), wrap_next hi (by unfold maxLen; omega)]
    · rw [hd, List.map_cons]
      unfold refSet
      simp only [Bool.true_and]
      split
      · rename_i hc
        refine set_l2 l out i hi hl ho _ out.length 0 (by omega) ?_
        have := set_l0 l hl d (i + 1) (insS (prS l[i]) out) (by omega) (by rw [len_insS]; omega)
        simpa using this
      · exact set_l0 l hl d (i + 1) out (by omega) (by omega)
theorem specSet_ev (l : List S37) (hl : l.length ≤ 4000000000) : Ev (fun k => spec_Set.f k l) ((fill (l.map prS) []).map unS) := by
  have h := set_l0 l hl l.length 0 [] (by omega) (by simp)
  rw [List.drop_zero, refSet_eq] at h
  exact h
end Go.Proofs.Ytcneoonhdfblaaa.Pure
