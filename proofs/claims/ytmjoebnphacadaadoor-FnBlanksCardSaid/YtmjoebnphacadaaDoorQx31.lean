-- printed by this project's own program wip/tools/mkprint.py (the kit's print.py with hand-proved contracts put in)
import Derived.Test.YtmjoebnphacadaaDoorMc
import Derived.Test.YtmjoebnphacadaaDoorQx0
namespace Go.Proofs.YtmjoebnphacadaaDoor.Q
open Go.RowKit Go.Proofs.YtmjoebnphacadaaDoorW.PrintWords Go.Proofs.YtmjoebnphacadaaDoorW.PrintLast Go.Proofs.YtmjoebnphacadaaDoorW.PrintMore
attribute [local go_sem] max2_int min2_int max_two min_two max_three min_three max_four min_four   -- for this text's walks alone
set_option linter.unusedVariables false
set_option linter.unusedSimpArgs false

/-! ### impl_ParseMatchers: function 15 -/
-- a contract that was proved by hand
noncomputable def impl_ParseMatchers.f (a0 : ByteArray) : Option (List S35 × Bool) := if a0.size ≤ 1000000 then some (Go.Proofs.YtmjoebnphacadaaDoor.Lex.pmF a0) else none
theorem impl_ParseMatchers.calls (a0 : ByteArray) (r1 : List S35) (r2 : Bool) (w : World) (hT_ : Go.Proofs.YtmjoebnphacadaaDoor.Lex.ETx w) (h : impl_ParseMatchers.f a0 = some (r1, r2)) :
    Calls Tryd.prog 15 #[.string a0] w fun e w' => ∃ v0_ : Value, e = .returned (.tuple #[v0_, .bool r2]) ∧ Kd.R k35 35 w' w.heap.size (fun _ => True) v0_ r1 ∧ Below w.heap.size w w' := by
  unfold impl_ParseMatchers.f at h
  split at h
  · rename_i hs
    obtain ⟨ea, hT⟩ := hT_
    have hq := Option.some.inj h
    have := Go.Proofs.YtmjoebnphacadaaDoor.Lex.parseMatchers_calls hT hs
    rw [hq] at this
    exact this
  · exact nomatch h


end Go.Proofs.YtmjoebnphacadaaDoor.Q
