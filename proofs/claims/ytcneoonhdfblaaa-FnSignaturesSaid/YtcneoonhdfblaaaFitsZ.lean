/- zzFits1 over plain lists of labels. -/
import Derived.Test.YtcneoonhdfblaaaQx1
import Derived.Test.YtcneoonhdfblaaaLib
set_option linter.unusedVariables false
set_option linter.unusedSimpArgs false
namespace Go.Proofs.Ytcneoonhdfblaaa.Pure
open Go.RowKit Go.Proofs.Ytcneoonhdfblaaa.Q Go.Proofs.YtcneoonhdfblaaaW.PrintWords Go.Proofs.YtcneoonhdfblaaaW.PrintLast
def fits2 (x : S32) : Bool := if (x.f0.size : Int) > 2147483647 then false else if (x.f1.size : Int) > 2147483647 then false else true
theorem zzFits2_eq (x : S32) : laws_zzFits2.f x.f0 x.f1 = some (fits2 x) := by
  unfold laws_zzFits2.f fits2
  repeat' split
  all_goals rfl
theorem zzFits1_ev (l : List S32) (hl : l.length ≤ maxLen) : Ev (fun k => laws_zzFits1.f k l) (if (l.length : Int) > 2147483647 then false else l.all fits2) := by
  unfold laws_zzFits1.f
  by_cases h : (l.length : Int) > 2147483647
  · simp only [if_pos h]
    exact Ev.now _
  · simp only [if_neg h]
    refine ev_all l z32 fits2 (L := fun k i => laws_zzFits1.l0 k l (l.length : Int) i) (fun k => ?_) (fun i hi b hb => ?_)
    · simp only [laws_zzFits1.l0]
      rw [if_neg (by omega)]
    · refine Ev.step (fun k => ?_) (f := fun k => if fits2 (l.getD i z32) = true then laws_zzFits1.l0 k l (l.length : Int) ((i + 1 : Nat) : Int) else some false) ?_
      · show laws_zzFits1.l0 (k + 1) l (l.length : Int) (i : Int) = _
        simp only [laws_zzFits1.l0]
        rw [if_pos (by omega), if_pos (by omega), if_pos (by omega), zzFits2_eq, Option.bind_some, wrap_next hi hl]
        rfl
      · cases hf : fits2 (l.getD i z32)
        · simp only [Bool.false_eq_true, if_false]
          exact Ev.now _
        · simp only [if_true]
          exact hb
theorem fits1_len {l : List S32} (h : (if (l.length : Int) > 2147483647 then false else l.all fits2) = true) : l.length ≤ 2147483647 ∧ l.all fits2 = true := by
  split at h
  · cases h
  · exact ⟨by omega, h⟩
end Go.Proofs.Ytcneoonhdfblaaa.Pure
