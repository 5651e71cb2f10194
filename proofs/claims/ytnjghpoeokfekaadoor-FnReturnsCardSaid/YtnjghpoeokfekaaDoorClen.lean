/- The size of a text's first character, and what it says of the text's being UTF-8. -/
import Derived.Test.YtnjghpoeokfekaaDoorRunes
set_option linter.unusedVariables false
set_option linter.unusedSimpArgs false
namespace Go.Proofs.YtnjghpoeokfekaaDoor.Pure
open Go.RowKit Go.Lib Go.Proofs.YtnjghpoeokfekaaDoor.Q Go.Proofs.YtnjghpoeokfekaaDoorW.PrintWords Go.Proofs.YtnjghpoeokfekaaDoorW.PrintLast
theorem check_bound {n b1 b2 b3 sz lo hi k : Nat} (h : checkN n b1 b2 b3 sz lo hi = some k) : 2 ≤ k ∧ k ≤ n := by
  unfold checkN at h
  repeat' split at h
  all_goals first | (cases h; done) | (injection h with h; omega)
/-- What the size of the first character says. -/
theorem clen_cases (l : List UInt8) (hne : l ≠ []) :
    ((l.getD 0 0).toNat < 128 ∧ clen l = 1 ∧ validD l = validD (l.drop 1)) ∨ (128 ≤ (l.getD 0 0).toNat ∧ clen l = 1 ∧ validD l = false) ∨
      (128 ≤ (l.getD 0 0).toNat ∧ 2 ≤ clen l ∧ clen l ≤ l.length ∧ validD l = validD (l.drop (clen l))) := by
  by_cases h0 : (l.getD 0 0).toNat < 128
  · left
    refine ⟨h0, by unfold clen; rw [if_pos h0], ?_⟩
    cases l with
    | nil => exact absurd rfl hne
    | cons b t => exact validD_cons b t h0
  · right
    have hv := validD_lead l hne (by omega)
    have hc : clen l = sizeOr (checkN l.length (l.getD 1 0).toNat (l.getD 2 0).toNat (l.getD 3 0).toNat (firstT (l.getD 0 0).toNat % 8) (accLo (firstT (l.getD 0 0).toNat / 16)) (accHi (firstT (l.getD 0 0).toNat / 16))) := by
      unfold clen; rw [if_neg h0]
    cases hk : checkN l.length (l.getD 1 0).toNat (l.getD 2 0).toNat (l.getD 3 0).toNat (firstT (l.getD 0 0).toNat % 8) (accLo (firstT (l.getD 0 0).toNat / 16)) (accHi (firstT (l.getD 0 0).toNat / 16)) with
    | none =>
      rw [hk] at hv hc
      exact .inl ⟨by omega, hc, hv⟩
    | some k =>
      rw [hk] at hv hc
      have hb := check_bound hk
      have hc' : clen l = k := hc
      exact .inr ⟨by omega, by omega, by omega, by rw [hc']; exact hv⟩
theorem clen_pos (l : List UInt8) (hne : l ≠ []) : 1 ≤ clen l ∧ clen l ≤ l.length := by
  have : 0 < l.length := List.length_pos_iff.2 hne
  rcases clen_cases l hne with ⟨_, h, _⟩ | ⟨_, h, _⟩ | ⟨_, h1, h2, _⟩ <;> omega
theorem extract_list (s : ByteArray) (n : Nat) : (s.extract n s.size).data.toList = s.data.toList.drop n := by
  have hz : s.data.toList.length = s.size := size_length s
  rw [ByteArray.data_extract, Array.toList_extract, List.extract_eq_take_drop, List.take_of_length_le (by rw [List.length_drop, hz]; omega)]
theorem extract_size (s : ByteArray) (n : Nat) : (s.extract n s.size).size = s.size - n := by
  rw [← size_length, extract_list, List.length_drop, size_length]
end Go.Proofs.YtnjghpoeokfekaaDoor.Pure
