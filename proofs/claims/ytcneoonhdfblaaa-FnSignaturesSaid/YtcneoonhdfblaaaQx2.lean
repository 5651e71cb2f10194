-- printed by this project's own program wip/tools/mkprint.py (the kit's print.py with hand-proved contracts put in)
import Derived.Test.YtcneoonhdfblaaaQx0
namespace Go.Proofs.Ytcneoonhdfblaaa.Q
open Go.RowKit Go.Proofs.YtcneoonhdfblaaaW.PrintWords Go.Proofs.YtcneoonhdfblaaaW.PrintLast Go.Proofs.YtcneoonhdfblaaaW.PrintMore
attribute [local go_sem] max2_int min2_int max_two min_two max_three min_three max_four min_four   -- for this text's walks alone
set_option linter.unusedVariables false
set_option linter.unusedSimpArgs false

/-! ### laws_much: function 12 -/
def laws_much.f (l0 : List (S32)) : Option (Bool) := some (decide ((l0.length : Int) > 300))
set_option maxHeartbeats 8000000 in
set_option maxRecDepth 100000 in
theorem laws_much.calls (A0 : Option Addr) (c0 : Nat) (l0 : List (S32)) (r : Bool) (w : World) (hr0 : Kd.C k32 w A0 l0.length l0) (hc0 : l0.length ≤ c0) (h : laws_much.f l0 = some r) :
    Calls Try.prog 12 #[.slice A0 l0.length c0] w fun e w' => e = .returned (.bool r) ∧ Drawn0 w w' := by
  have HR0 := Aside0.mk hr0
  have HC0 := Aside0.mk hc0
  clear hr0 hc0
  have H : (some (decide ((l0.length : Int) > 300))) = some r := h
  clear h
  obtain rfl := Option.some.inj H
  go_enter Try.func12, Try.ntmps12
  go_wp2
  go_ret
  exact ⟨by first | rfl | (simp; done) | (simp [*]; done), by repeat (first | exact Drawn0.refl _ | apply Drawn0.step)⟩

end Go.Proofs.Ytcneoonhdfblaaa.Q
