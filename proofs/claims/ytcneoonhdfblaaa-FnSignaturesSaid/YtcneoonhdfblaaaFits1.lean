/- pairs over plain lists of labels. -/
import Derived.Test.YtcneoonhdfblaaaQx4
import Derived.Test.YtcneoonhdfblaaaFitsZ
set_option linter.unusedVariables false
set_option linter.unusedSimpArgs false
namespace Go.Proofs.Ytcneoonhdfblaaa.Pure
open Go.RowKit Go.Proofs.Ytcneoonhdfblaaa.Q Go.Proofs.YtcneoonhdfblaaaW.PrintWords Go.Proofs.YtcneoonhdfblaaaW.PrintLast
def toSP (p : S32) : S37 := ⟨p.f0, p.f1⟩
theorem pairs_ev (l : List S32) (hl : l.length ≤ 4000000000) : Ev (fun k => laws_pairs.f k l) (l.map toSP) := by
  have h := ev_up (L := fun k i => laws_pairs.l0 k ((l.take i).map toSP) l (l.length : Int) (i : Int)) (fun _ => l.map toSP) l.length (ev_succ (fun k => by
      simp only [laws_pairs.l0]
      rw [if_neg (by omega), List.take_of_length_le (Nat.le_refl _)])) (fun i hi h => by
    refine Ev.step (fun k => ?_) h
    show laws_pairs.l0 (k + 1) _ l (l.length : Int) (i : Int) = _
    simp only [laws_pairs.l0]
    rw [if_pos (by omega), if_pos (by omega), if_pos (by omega), if_pos (by rw [List.length_map, List.length_take]; omega), wrap_next hi (by unfold maxLen; omega), List.take_succ_eq_append_getElem hi, List.map_append]
    congr 2
    show [_] = [toSP l[i]]
    have e : rd_T32 l (i : Int) = l[i] := by
      show l.getD i z32 = _
      rw [List.getD_eq_getElem?_getD, List.getElem?_eq_getElem hi]
      rfl
    rw [e]
    rfl) l.length 0 (by omega)
  simpa [laws_pairs.f] using h
end Go.Proofs.Ytcneoonhdfblaaa.Pure
