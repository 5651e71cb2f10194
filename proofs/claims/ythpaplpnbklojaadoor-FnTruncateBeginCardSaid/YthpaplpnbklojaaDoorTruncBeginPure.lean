/- What is left of a cut text: the plain laws. -/
import Derived.Test.YthpaplpnbklojaaDoorTruncB
import Derived.Test.YthpaplpnbklojaaDoorBegins
set_option linter.unusedVariables false
set_option linter.unusedSimpArgs false
namespace Go.Proofs.YthpaplpnbklojaaDoor.Door
open Go.RowKit Go.Shelf Go.Lib Go.Proofs.YthpaplpnbklojaaDoor.Q Go.Proofs.YthpaplpnbklojaaDoor.Pure Go.Proofs.YthpaplpnbklojaaDoorW.PrintWords Go.Proofs.YthpaplpnbklojaaDoorW.PrintLast
theorem bg_le : ∀ (n : Nat) (a b : List UInt8), a.length ≤ n → bg a b ≤ a.length
  | n, a, b, h => by
    by_cases hne : a = []
    · rw [hne]; exact Nat.le_refl _
    · have hp := clen_pos a hne
      cases n with
      | zero => omega
      | succ n =>
        have ih := bg_le n (a.drop (clen a)) (b.drop (clen a)) (by rw [List.length_drop]; omega)
        rw [List.length_drop] at ih
        rw [bg_step a b hne]
        split <;> omega
theorem bg_self : ∀ (n : Nat) (a : List UInt8), a.length ≤ n → bg a a = a.length
  | n, a, h => by
    by_cases hne : a = []
    · rw [hne]; rfl
    · have hp := clen_pos a hne
      cases n with
      | zero => omega
      | succ n =>
        have ih := bg_self n (a.drop (clen a)) (by rw [List.length_drop]; omega)
        rw [List.length_drop] at ih
        rw [bg_step a a hne, if_pos ⟨by omega, rfl⟩]
        omega
theorem bg_cut : ∀ (m : Nat) (l x : List UInt8), validD l = true → bg (cutL m l ++ x) l = (cutL m l).length + bg x (l.drop (cutL m l).length)
  | 0, l, x, _ => by simp [cutL]
  | m + 1, l, x, hv => by
    unfold cutL
    by_cases hne : l = []
    · rw [if_pos hne, hne]
      simp
    · rw [if_neg hne, List.append_assoc]
      obtain ⟨hg, hv'⟩ := valid_good l hne hv
      obtain ⟨p1, p2⟩ := clen_pos l hne
      obtain ⟨a, b, c⟩ := clen_more l (cutL m (l.drop (clen l)) ++ x) hne hg
      have ih := bg_cut m (l.drop (clen l)) x hv'
      have hlen : (l.take (clen l)).length = clen l := by rw [List.length_take]; omega
      rw [bg_step _ _ c, a, if_pos ⟨by omega, List.take_left' hlen⟩, List.drop_left' hlen, ih, List.length_append, hlen, List.drop_drop]
      omega
theorem bg_mark (b : List UInt8) : bg [226, 128, 166] b = 0 ∨ bg [226, 128, 166] b = 3 := by
  have hc : clen [226, 128, 166] = 3 := by decide +kernel
  rw [bg_step _ _ (by simp), hc]
  split
  · right; rfl
  · left; rfl
theorem begin_facts (s : ByteArray) (n : Int) (hs : s.size ≤ 2147483647) (hv : validD s.data.toList = true) (h0 : 4 ≤ n) (h1 : n ≤ 1048576) :
    (truncS s n).size ≤ 2147483647 ∧ validD (truncS s n).data.toList = true ∧ bg (truncS s n).data.toList s.data.toList ≤ (truncS s n).size ∧
      (count ((truncS s n).extract (bg (truncS s n).data.toList s.data.toList) (truncS s n).size).data.toList : Int) ≤ 1 := by
  have hlen : s.data.toList.length ≤ s.size := by rw [size_length]; exact Nat.le_refl _
  have hle : bg (truncS s n).data.toList s.data.toList ≤ (truncS s n).size := by
    have := bg_le _ (truncS s n).data.toList s.data.toList (Nat.le_refl _)
    rw [size_length] at this
    exact this
  rw [extract_list]
  unfold truncS at hle ⊢
  by_cases hA : (count s.data.toList : Int) ≤ n
  · rw [if_pos hA] at hle ⊢
    refine ⟨hs, hv, hle, ?_⟩
    rw [bg_self _ _ (Nat.le_refl _), List.drop_of_length_le (Nat.le_refl _)]
    decide
  · rw [if_neg hA, if_neg (show ¬ n ≤ 3 by omega)] at hle ⊢
    have e : (runesBytes ((rns s.size s.data.toList).take (n - 1).toNat) ++ (⟨#[226, 128, 166]⟩ : ByteArray)).data.toList = cutL (n - 1).toNat s.data.toList ++ [226, 128, 166] := by
      rw [ByteArray.data_append, Array.toList_append, cut_bytes _ _ _ hlen hv]
    refine ⟨?_, ?_, hle, ?_⟩
    · have h2 := runesBytes_size_le (List.take (n - 1).toNat (rns s.size s.data.toList))
      have h3 : (List.take (n - 1).toNat (rns s.size s.data.toList)).length ≤ (n - 1).toNat := by rw [List.length_take]; exact Nat.min_le_left _ _
      rw [ByteArray.size_append]
      show _ + 3 ≤ _
      omega
    · rw [e, (cut_facts _ _ _ hv).2, mark_valid]
    · rw [e, bg_cut _ _ _ hv]
      rcases bg_mark (s.data.toList.drop (cutL (n - 1).toNat s.data.toList).length) with h | h
      · rw [h, Nat.add_zero, List.drop_left, mark_count]
        decide
      · rw [h, List.drop_of_length_le (by rw [List.length_append]; exact Nat.le_refl _)]
        decide
theorem bytes_facts (s u : ByteArray) (n : Int) (hs : s.size ≤ 2147483647) (hv : validD s.data.toList = true) (h1 : n ≤ 1048576)
    (h : u = s ∨ ∃ j : Nat, (j : Int) ≤ n ∧ u = runesBytes ((rns s.size s.data.toList).take j) ++ ⟨#[226, 128, 166]⟩) :
    u.size ≤ 2147483647 ∧ validD u.data.toList = true ∧ bg u.data.toList s.data.toList ≤ u.size ∧ (u.size : Int) - (bg u.data.toList s.data.toList : Int) ≤ 3 := by
  have hlen : s.data.toList.length ≤ s.size := by rw [size_length]; exact Nat.le_refl _
  have hle : bg u.data.toList s.data.toList ≤ u.size := by
    have := bg_le _ u.data.toList s.data.toList (Nat.le_refl _)
    rw [size_length] at this
    exact this
  rcases h with rfl | ⟨j, hj, rfl⟩
  · refine ⟨hs, hv, hle, ?_⟩
    rw [bg_self _ _ (Nat.le_refl _), size_length]
    omega
  · have e : (runesBytes ((rns s.size s.data.toList).take j) ++ (⟨#[226, 128, 166]⟩ : ByteArray)).data.toList = cutL j s.data.toList ++ [226, 128, 166] := by
      rw [ByteArray.data_append, Array.toList_append, cut_bytes _ _ _ hlen hv]
    refine ⟨?_, ?_, hle, ?_⟩
    · have h2 := runesBytes_size_le (List.take j (rns s.size s.data.toList))
      have h3 : (List.take j (rns s.size s.data.toList)).length ≤ j := by rw [List.length_take]; exact Nat.min_le_left _ _
      rw [ByteArray.size_append]
      show _ + 3 ≤ _
      omega
    · rw [e, (cut_facts _ _ _ hv).2, mark_valid]
    · rw [← size_length, e, bg_cut _ _ _ hv, List.length_append]
      simp only [List.length_cons, List.length_nil]
      omega
theorem abS : truncS ⟨#[97, 98, 99, 100, 101, 102]⟩ 5 = ⟨#[97, 98, 99, 100, 226, 128, 166]⟩ := by decide +kernel
theorem abB : truncB ⟨#[97, 98, 99, 100, 101, 102]⟩ 5 = true := by decide +kernel
theorem abV : validD (⟨#[97, 98, 99, 100, 226, 128, 166]⟩ : ByteArray).data.toList = true := by decide +kernel
theorem abC : count (⟨#[97, 98, 99, 100, 226, 128, 166]⟩ : ByteArray).data.toList = 5 := by decide +kernel
theorem abG : bg (⟨#[97, 98, 99, 100, 226, 128, 166]⟩ : ByteArray).data.toList (⟨#[97, 98, 99, 100, 101, 102]⟩ : ByteArray).data.toList = 4 := by decide +kernel
end Go.Proofs.YthpaplpnbklojaaDoor.Door
