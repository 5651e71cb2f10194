/- zzFits3 over plain lists: no text of a matcher is too long. -/
import Derived.Test.YtenededepjfojabDoorQx1
import Derived.Test.YtenededepjfojabDoorLib
set_option linter.unusedVariables false
set_option linter.unusedSimpArgs false
namespace Go.Proofs.YtenededepjfojabDoor.Pure
open Go.RowKit Go.Proofs.YtenededepjfojabDoor.Q Go.Proofs.YtenededepjfojabDoorW.PrintWords Go.Proofs.YtenededepjfojabDoorW.PrintLast
def fits4 (x : S26) : Bool := if (x.f1.size : Int) > 2147483647 then false else if (x.f2.size : Int) > 2147483647 then false else true
theorem zzFits4_eq (x : S26) : laws_zzFits4.f x.f0 x.f1 x.f2 = some (fits4 x) := by
  unfold laws_zzFits4.f fits4
  repeat' split
  all_goals rfl
theorem zzFits3_ev (l : List S26) (hl : l.length ≤ maxLen) : Ev (fun k => laws_zzFits3.f k l) (if (l.length : Int) > 2147483647 then false else l.all fits4) := by
  unfold laws_zzFits3.f
  by_cases h : (l.length : Int) > 2147483647
  · simp only [if_pos h]
    exact Ev.now _
  · simp only [if_neg h]
    refine ev_all l z26 fits4 (L := fun k i => laws_zzFits3.l0 k l (l.length : Int) i) (fun k => ?_) (fun i hi b hb => ?_)
    · simp only [laws_zzFits3.l0]
      rw [if_neg (by omega)]
    · refine Ev.step (fun k => ?_) (f := fun k => if fits4 (l.getD i z26) = true then laws_zzFits3.l0 k l (l.length : Int) ((i + 1 : Nat) : Int) else some false) ?_
      · show laws_zzFits3.l0 (k + 1) l (l.length : Int) (i : Int) = _
        simp only [laws_zzFits3.l0]
        rw [if_pos (by omega), if_pos (by omega), if_pos (by omega), zzFits4_eq, Option.bind_some, wrap_next hi hl]
        rfl
      · cases hf : fits4 (l.getD i z26)
        · simp only [Bool.false_eq_true, if_false]
          exact Ev.now _
        · simp only [if_true]
          exact hb
theorem fits3_len {l : List S26} (h : (if (l.length : Int) > 2147483647 then false else l.all fits4) = true) : l.length ≤ 2147483647 := by
  split at h
  · cases h
  · omega
end Go.Proofs.YtenededepjfojabDoor.Pure
