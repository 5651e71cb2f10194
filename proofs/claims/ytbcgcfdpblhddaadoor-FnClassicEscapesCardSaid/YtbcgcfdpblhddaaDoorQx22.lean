-- printed by this project's own program wip/tools/mkprint.py (the kit's print.py with hand-proved contracts put in)
import Derived.Test.YtbcgcfdpblhddaaDoorCw3
import Derived.Test.YtbcgcfdpblhddaaDoorQx0
namespace Go.Proofs.YtbcgcfdpblhddaaDoor.Q
open Go.RowKit Go.Proofs.YtbcgcfdpblhddaaDoorW.PrintWords Go.Proofs.YtbcgcfdpblhddaaDoorW.PrintLast Go.Proofs.YtbcgcfdpblhddaaDoorW.PrintMore
attribute [local go_sem] max2_int min2_int max_two min_two max_three min_three max_four min_four   -- for this text's walks alone
set_option linter.unusedVariables false
set_option linter.unusedSimpArgs false

/-! ### impl_ClassicMatcher: function 6 -/
-- a contract that was proved by hand
def impl_ClassicMatcher.f (a0 : ByteArray) : Option (Int × ByteArray × ByteArray × Bool) := if a0.size ≤ 1000000 then some ((Go.Proofs.YtbcgcfdpblhddaaDoor.Cl.coF a0).1.f0, (Go.Proofs.YtbcgcfdpblhddaaDoor.Cl.coF a0).1.f1, (Go.Proofs.YtbcgcfdpblhddaaDoor.Cl.coF a0).1.f2, (Go.Proofs.YtbcgcfdpblhddaaDoor.Cl.coF a0).2) else none
theorem impl_ClassicMatcher.calls (a0 : ByteArray) (r1 : Int) (r2 : ByteArray) (r3 : ByteArray) (r4 : Bool) (w : World) (hT_ : Go.Proofs.YtbcgcfdpblhddaaDoor.Cl.UT w) (h : impl_ClassicMatcher.f a0 = some (r1, r2, r3, r4)) :
    Calls Tryd.prog 6 #[.string a0] w fun e w' => e = .returned (.tuple #[.agg #[.int .i64 r1, .string r2, .string r3], .bool r4]) ∧ Below w.heap.size w w' := by
  unfold impl_ClassicMatcher.f at h
  split at h
  · rename_i hs
    have hq := Option.some.inj h
    have := Go.Proofs.YtbcgcfdpblhddaaDoor.Cl.classicMatcher_calls hT_ hs
    simp only [Prod.mk.injEq] at hq
    obtain ⟨rfl, rfl, rfl, rfl⟩ := hq
    exact this
  · exact nomatch h


end Go.Proofs.YtbcgcfdpblhddaaDoor.Q
