-- printed by this project's own program wip/tools/mkprint.py (the kit's print.py with hand-proved contracts put in)
import Derived.Test.YtmjoebnphacadaaDoorMc
import Derived.Test.YtmjoebnphacadaaDoorQx0
namespace Go.Proofs.YtmjoebnphacadaaDoor.Q
open Go.RowKit Go.Proofs.YtmjoebnphacadaaDoorW.PrintWords Go.Proofs.YtmjoebnphacadaaDoorW.PrintLast Go.Proofs.YtmjoebnphacadaaDoorW.PrintMore
attribute [local go_sem] max2_int min2_int max_two min_two max_three min_three max_four min_four   -- for this text's walks alone
set_option linter.unusedVariables false
set_option linter.unusedSimpArgs false

/-! ### impl_ParseMatcher: function 18 -/
-- a contract that was proved by hand
noncomputable def impl_ParseMatcher.f (a0 : ByteArray) : Option (Int × ByteArray × ByteArray × Bool) := if a0.size ≤ 1000000 then some ((Go.Proofs.YtmjoebnphacadaaDoor.Lex.poF a0).1.f0, (Go.Proofs.YtmjoebnphacadaaDoor.Lex.poF a0).1.f1, (Go.Proofs.YtmjoebnphacadaaDoor.Lex.poF a0).1.f2, (Go.Proofs.YtmjoebnphacadaaDoor.Lex.poF a0).2) else none
theorem impl_ParseMatcher.calls (a0 : ByteArray) (r1 : Int) (r2 : ByteArray) (r3 : ByteArray) (r4 : Bool) (w : World) (hT_ : Go.Proofs.YtmjoebnphacadaaDoor.Lex.ETx w) (h : impl_ParseMatcher.f a0 = some (r1, r2, r3, r4)) :
    Calls Tryd.prog 18 #[.string a0] w fun e w' => e = .returned (.tuple #[.agg #[.int .i64 r1, .string r2, .string r3], .bool r4]) ∧ Below w.heap.size w w' := by
  unfold impl_ParseMatcher.f at h
  split at h
  · rename_i hs
    obtain ⟨ea, hT⟩ := hT_
    have hq := Option.some.inj h
    have := Go.Proofs.YtmjoebnphacadaaDoor.Lex.parseMatcher_calls hT hs
    simp only [Prod.mk.injEq] at hq
    obtain ⟨rfl, rfl, rfl, rfl⟩ := hq
    exact this
  · exact nomatch h


end Go.Proofs.YtmjoebnphacadaaDoor.Q
