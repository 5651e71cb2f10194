/- Sets of labels as pairs, over plain lists: what sets alone want (seat b). -/
import Derived.Test.YtbffcmiabcmjcaaQx1
import Derived.Test.YtbffcmiabcmjcaaSetsPure
set_option linter.unusedVariables false
set_option linter.unusedSimpArgs false
namespace Go.Proofs.Ytbffcmiabcmjcaa.Pure
open Go.RowKit Go.Proofs.Ytbffcmiabcmjcaa.Q Go.Proofs.Ytbffcmiabcmjcaa.MapsS Go.Proofs.YtbffcmiabcmjcaaW.PrintWords Go.Proofs.YtbffcmiabcmjcaaW.PrintLast
abbrev PairI := S26
def prI (p : PairI) : ByteArray × ByteArray := (p.f0, p.f1)
theorem setL_fill (l : List PairI) : setL l = fill (l.map prI) [] := by
  unfold setL fill
  rw [List.foldl_map]
  rfl
theorem less9_of {l : List PairI} (h : l.length ≤ 1000000000) (hk : ∀ y ∈ l, okS26 y) : less9 l = true := by
  unfold less9
  rw [Bool.and_eq_true]
  refine ⟨decide_eq_true h, List.all_eq_true.2 fun p hp => ?_⟩
  obtain ⟨h1, h2⟩ := hk p hp
  simp [small2, h1, h2]
end Go.Proofs.Ytbffcmiabcmjcaa.Pure
