/- Whether a text of printing ASCII has a reserved sign. Plain Lean. -/
import Derived.Test.YtpdfokdhnalfaaaDoorRes
import Derived.Test.YtpdfokdhnalfaaaDoorQuo
set_option linter.unusedVariables false
set_option linter.unusedSimpArgs false
namespace Go.Proofs.YtpdfokdhnalfaaaDoor.Pure
open Go.RowKit Go.Lib Go.Proofs.YtpdfokdhnalfaaaDoor.Door
/-- A sign that the reference calls reserved. -/
def rsv (c : UInt8) : Bool := c = 123 || c = 125 || c = 33 || c = 61 || c = 126 || c = 44 || c = 92 || c = 34 || c = 39 || c = 96 || c = 32 || (decide (9 ≤ c.toNat) && decide (c.toNat ≤ 13))
set_option maxRecDepth 100000 in
theorem resR_all : ∀ n < 128, resR ((n : Nat) : Int) = rsv (UInt8.ofNat n) := by decide +kernel
theorem resR_asc {c : UInt8} (h : c.toNat < 128) : resR (c.toNat : Int) = rsv c := by rw [resR_all _ h, UInt8.ofNat_toNat]
theorem idx_from (s : ByteArray) (ha : s.data.toList.all asc = true) : ∀ (f pos : Nat), s.size ≤ pos + f → (0 ≤ idxFuncFrom (fun r => resR (r : Int)) true s f pos ↔ (s.data.toList.drop pos).any rsv = true)
  | 0, pos, hf => by
    rw [List.drop_of_length_le (by have : s.data.toList.length = s.size := rfl; omega)]
    simp [idxFuncFrom]
  | f + 1, pos, hf => by
    unfold idxFuncFrom
    by_cases hp : pos < s.size
    · rw [if_pos hp]
      have hll : pos < s.data.toList.length := hp
      have hc : s.data.toList[pos] = s[pos] := rfl
      have hA : asc s[pos] = true := by rw [← hc]; exact List.all_eq_true.1 ha _ (List.getElem_mem hll)
      have h128 := asc_lt hA
      rw [decode_ascii s pos hp h128, List.drop_eq_getElem_cons hll, List.any_cons, hc]
      simp only
      rw [resR_asc h128]
      cases hr : rsv s[pos] with
      | true => simp
      | false =>
        rw [if_neg (by simp), idx_from s ha f (pos + 1) (by omega)]
        simp
    · rw [if_neg hp, List.drop_of_length_le (by have : s.data.toList.length = s.size := rfl; omega)]
      simp
theorem conB_asc (s : ByteArray) (h : s.data.toList.all asc = true) : conB s = s.data.toList.any rsv := by
  unfold conB
  rw [Bool.eq_iff_iff, decide_eq_true_eq]
  have := idx_from s h s.size 0 (by omega)
  rw [List.drop_zero] at this
  exact this
end Go.Proofs.YtpdfokdhnalfaaaDoor.Pure
