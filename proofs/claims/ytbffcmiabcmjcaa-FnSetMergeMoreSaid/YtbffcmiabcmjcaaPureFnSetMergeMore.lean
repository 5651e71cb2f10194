/- The law FnSetMergeMore over plain lists. -/
import Derived.Test.YtbffcmiabcmjcaaQx2
import Derived.Test.YtbffcmiabcmjcaaQx2
import Derived.Test.YtbffcmiabcmjcaaQx1
import Derived.Test.YtbffcmiabcmjcaaSetsC
import Derived.Test.YtbffcmiabcmjcaaFitsZ
set_option linter.unusedVariables false
set_option linter.unusedSimpArgs false
namespace Go.Proofs.Ytbffcmiabcmjcaa.Pure
open Go.RowKit Go.Proofs.Ytbffcmiabcmjcaa.Q Go.Proofs.Ytbffcmiabcmjcaa.MapsS Go.Proofs.YtbffcmiabcmjcaaW.PrintWords Go.Proofs.YtbffcmiabcmjcaaW.PrintLast
/-- A set as it comes about here: rising, not too great, its texts within bounds. -/
def Good (n : Nat) (m : SM) : Prop := Rises m ∧ m.length ≤ n ∧ ∀ p ∈ m, p.1.size ≤ maxLen ∧ p.2.size ≤ maxLen
theorem mem_fill : ∀ {r m : SM} {q : ByteArray × ByteArray}, q ∈ fill r m → q ∈ r ∨ q ∈ m
  | [], _, _, h => .inr h
  | x :: r, m, q, h => by
    rw [fill_cons] at h
    rcases mem_fill h with h | h
    · exact .inl (List.mem_cons_of_mem _ h)
    · rcases mem_ins h with e | h
      · exact .inl (by rw [e]; exact List.mem_cons_self)
      · exact .inr h
theorem good_setL {l : List PairI} {n : Nat} (h : l.length ≤ n) (hk : ∀ y ∈ l, okS26 y) : Good n (setL l) := by
  refine ⟨by rw [setL_fill]; exact rises_fill _ List.Pairwise.nil, Nat.le_trans (setL_le l) h, fun p hp => ?_⟩
  rw [setL_fill] at hp
  rcases mem_fill hp with h | h
  · obtain ⟨y, hy, rfl⟩ := List.mem_map.1 h
    exact hk y hy
  · cases h
theorem good_fill {n k : Nat} {a b : SM} (ha : Good n a) (hb : Good k b) : Good (n + k) (fill b a) := by
  refine ⟨rises_fill b ha.1, by have := fill_le b a; have := ha.2.1; have := hb.2.1; omega, fun p hp => ?_⟩
  rcases mem_fill hp with h | h
  · exact hb.2.2 p h
  · exact ha.2.2 p h
theorem setL_toPI {m : SM} (h : Rises m) : setL (m.map toPI) = m := by
  rw [setL_fill, List.map_map]
  have e : m.map (prI ∘ toPI) = m := List.map_id _
  rw [e]
  exact fill_perm h (List.Perm.refl m)
theorem look_merge {a b : SM} (hb : Rises b) (k : ByteArray) : MapsS.look k (fill b a) = (match MapsS.look k b with | some v => some v | none => MapsS.look k a) := by
  rw [look_fill, lastV_perm hb (List.Perm.refl b)]
  cases MapsS.look k b <;> rfl
theorem merge_assoc {a b c : SM} (ha : Rises a) (hb : Rises b) (hc : Rises c) : fill c (fill b a) = fill (fill c b) a := by
  refine sm_ext (rises_fill c (rises_fill b ha)) (rises_fill _ ha) fun k => ?_
  rw [look_merge hc, look_merge hb, look_merge (rises_fill c hb), look_merge hc]
  cases MapsS.look k c <;> rfl
theorem merge_self {a : SM} (ha : Rises a) : fill a a = a := by
  refine sm_ext (rises_fill a ha) ha fun k => ?_
  rw [look_merge ha]
  cases MapsS.look k a <;> rfl
theorem less9_toPI {n : Nat} {m : SM} (h : Good n m) (hn : n ≤ 400000000) : less9 (m.map toPI) = true := by
  refine less9_of (by rw [List.length_map]; have := h.2.1; omega) fun y hy => ?_
  obtain ⟨p, hp, rfl⟩ := List.mem_map.1 hy
  exact h.2.2 p hp
theorem merge_eq {l0 l1 : List PairI} (n0 : l0.length ≤ 400000000) (n1 : l1.length ≤ 400000000) (h0 : less9 l0 = true) (h1 : less9 l1 = true) : impl_SetMerge.f l0 l1 = some ((fill (setL l1) (setL l0)).map toPI) := by
  unfold impl_SetMerge.f
  rw [if_pos ⟨⟨n0, n1⟩, h0, h1⟩]
theorem lessMax9 {l : List PairI} (n0 : l.length ≤ 400000000) (h : less9 l = true) : lessMax l = true := by
  unfold less9 at h
  rw [Bool.and_eq_true] at h
  unfold lessMax
  rw [h.2, decide_eq_true (by unfold maxLen; omega)]
  rfl
theorem equal_eq {l0 l1 : List PairI} (n0 : l0.length ≤ 400000000) (n1 : l1.length ≤ 400000000) (h0 : less9 l0 = true) (h1 : less9 l1 = true) (e : setL l0 = setL l1) : impl_SetEqual.f l0 l1 = some true := by
  unfold impl_SetEqual.f
  rw [if_pos ⟨lessMax9 n0 h0, lessMax9 n1 h1⟩, decide_eq_true e]
theorem lenM {n : Nat} {m : SM} (h : Good n m) (hn : n ≤ 400000000) : (m.map toPI).length ≤ 400000000 := by rw [List.length_map]; have := h.2.1; omega
theorem more_j1 (a b c : List PairI) (na : a.length ≤ 300) (nb : b.length ≤ 300) (nc : c.length ≤ 300) (ka : ∀ y ∈ a, okS26 y) (kb : ∀ y ∈ b, okS26 y) (kc : ∀ y ∈ c, okS26 y) (k : Nat) : laws_FnSetMergeMore.j1 (k + 1) a b c false = some true := by
  have ga := good_setL na ka
  have gb := good_setL nb kb
  have gc := good_setL nc kc
  have la := less9_of (l := a) (by omega) ka
  have lb := less9_of (l := b) (by omega) kb
  have lc := less9_of (l := c) (by omega) kc
  have ln : less9 ([] : List PairI) = true := rfl
  have gab := good_fill ga gb
  have gbc := good_fill gb gc
  have gabc := good_fill gab gc
  have gabc' := good_fill ga gbc
  have gaa := good_fill ga ga
  have e1 := merge_eq (by omega) (by omega) la lb
  have e2 := merge_eq (lenM gab (by omega)) (by omega) (less9_toPI gab (by omega)) lc
  rw [setL_toPI gab.1] at e2
  have e3 := merge_eq (by omega) (by omega) lb lc
  have e4 := merge_eq (l0 := a) (by omega) (lenM gbc (by omega)) la (less9_toPI gbc (by omega))
  rw [setL_toPI gbc.1] at e4
  have e5 := equal_eq (lenM gabc (by omega)) (lenM gabc' (by omega)) (less9_toPI gabc (by omega)) (less9_toPI gabc' (by omega)) (by rw [setL_toPI gabc.1, setL_toPI gabc'.1, merge_assoc ga.1 gb.1 gc.1])
  have e6 := merge_eq (by omega) (by omega) la la
  have e7 := equal_eq (lenM gaa (by omega)) (by omega) (less9_toPI gaa (by omega)) la (by rw [setL_toPI gaa.1, merge_self ga.1])
  have e8 := merge_eq (l1 := []) (by omega) (Nat.zero_le _) la ln
  have e9 : impl_SetEqual.f ((fill (setL []) (setL a)).map toPI) a = some true := equal_eq (lenM ga (by omega)) (by omega) (less9_toPI ga (by omega)) la (setL_toPI ga.1)
  have e10 := merge_eq (l0 := []) (Nat.zero_le _) (by omega) ln la
  have ef : fill (setL a) (setL []) = setL a := fill_perm ga.1 (List.Perm.refl _)
  rw [ef] at e10
  have e11 := equal_eq (lenM ga (by omega)) (by omega) (less9_toPI ga (by omega)) la (setL_toPI ga.1)
  simp only [laws_FnSetMergeMore.j1, Bool.false_eq_true, if_false, e1, e2, e3, e4, e5, e6, e7, e8, e9, e10, e11, Option.bind_some, if_true]
theorem FnSetMergeMore : laws_FnSetMergeMore.Pure := by
  intro a b c ⟨ha, ka⟩ ⟨hb, kb⟩ ⟨hc, kc⟩
  refine Ev.rounds ?_
  have done0 : Ev (fun k => laws_FnSetMergeMore.j0 k a b c true) true := ev_succ (fun k => by simp only [laws_FnSetMergeMore.j0]; rfl)
  have done1 : Ev (fun k => laws_FnSetMergeMore.j1 k a b c true) true := ev_succ (fun k => by simp only [laws_FnSetMergeMore.j1]; rfl)
  unfold laws_FnSetMergeMore.f
  refine Ev.bind (zzFits1_ev a ha) ?_
  cases (if (a.length : Int) > 2147483647 then false else a.all fits2)
  · simpa only [Bool.false_eq_true, if_false] using done0
  simp only [if_true]
  refine Ev.bind (zzFits1_ev b hb) ?_
  cases (if (b.length : Int) > 2147483647 then false else b.all fits2)
  · simpa only [Bool.false_eq_true, if_false] using done0
  simp only [if_true]
  refine Ev.bind (zzFits1_ev c hc) ?_
  cases (if (c.length : Int) > 2147483647 then false else c.all fits2)
  · exact done0
  have e0 : impl_SetMerge.f [(⟨(⟨#[97]⟩ : ByteArray), (⟨#[]⟩ : ByteArray)⟩ : PairI)] [(⟨(⟨#[98]⟩ : ByteArray), (⟨#[]⟩ : ByteArray)⟩ : PairI)] = some ((fill (setL [(⟨(⟨#[98]⟩ : ByteArray), (⟨#[]⟩ : ByteArray)⟩ : PairI)]) (setL [(⟨(⟨#[97]⟩ : ByteArray), (⟨#[]⟩ : ByteArray)⟩ : PairI)])).map toPI) := merge_eq (by simp) (by simp) (by decide +kernel) (by decide +kernel)
  have e1 : ((((fill (setL [(⟨(⟨#[98]⟩ : ByteArray), (⟨#[]⟩ : ByteArray)⟩ : PairI)]) (setL [(⟨(⟨#[97]⟩ : ByteArray), (⟨#[]⟩ : ByteArray)⟩ : PairI)])).map toPI).length : Nat) : Int) = 2 := by rw [List.length_map]; decide +kernel
  have S : Ev (fun k => laws_FnSetMergeMore.j1 k a b c (decide ((a.length : Int) > 300 ∨ (b.length : Int) > 300 ∨ (c.length : Int) > 300))) true := by
    by_cases h : (a.length : Int) > 300 ∨ (b.length : Int) > 300 ∨ (c.length : Int) > 300
    · rw [decide_eq_true h]
      exact done1
    · rw [decide_eq_false h]
      exact ev_succ fun k => more_j1 a b c (by omega) (by omega) (by omega) ka kb kc k
  refine Ev.step (fun k => ?_) S
  simp only [laws_FnSetMergeMore.j0, Bool.not_true, Bool.false_eq_true, if_false, e0, Option.bind_some, e1, if_true, laws_much.f]
  by_cases h1 : (a.length : Int) > 300
  · simp [h1]
  · by_cases h2 : (b.length : Int) > 300
    · simp [h1, h2]
    · by_cases h3 : (c.length : Int) > 300 <;> simp [h1, h2, h3]
end Go.Proofs.Ytbffcmiabcmjcaa.Pure
