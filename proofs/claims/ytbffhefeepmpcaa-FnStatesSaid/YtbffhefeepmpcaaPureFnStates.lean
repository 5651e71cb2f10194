/- The law FnStates over plain numbers: suppressed above active above unprocessed. -/
import Derived.Test.YtbffhefeepmpcaaQx2
import Derived.Test.YtbffhefeepmpcaaLib
namespace Go.Proofs.Ytbffhefeepmpcaa.Pure
open Go.RowKit Go.Proofs.Ytbffhefeepmpcaa.Q Go.Proofs.YtbffhefeepmpcaaW.PrintWords Go.Proofs.YtbffhefeepmpcaaW.PrintLast

theorem third {a : Int} (h : 0 ≤ a ∧ a ≤ 255) : wrap64 (Int.tmod a 3) = 0 ∨ wrap64 (Int.tmod a 3) = 1 ∨ wrap64 (Int.tmod a 3) = 2 := by
  rw [Int.tmod_eq_emod_of_nonneg h.1]
  unfold wrap64
  omega

theorem FnStates : laws_FnStates.Pure := by
  intro a b ha hb
  refine ⟨2, ?_⟩
  unfold laws_FnStates.f
  rcases third (wf_u8 ha) with h | h | h <;> rcases third (wf_u8 hb) with g | g | g <;> simp only [h, g] <;> decide +kernel
end Go.Proofs.Ytbffhefeepmpcaa.Pure
