-- printed by this project's own program wip/tools/mkprint.py (the kit's print.py with hand-proved contracts put in)
import Derived.Test.YtbffhefeepmpcaaQx0
import Derived.Test.YtbffhefeepmpcaaQx28
import Derived.Test.YtbffhefeepmpcaaQx39
namespace Go.Proofs.Ytbffhefeepmpcaa.Q
open Go.RowKit Go.Proofs.YtbffhefeepmpcaaW.PrintWords Go.Proofs.YtbffhefeepmpcaaW.PrintLast Go.Proofs.YtbffhefeepmpcaaW.PrintMore
attribute [local go_sem] max2_int min2_int max_two min_two max_three min_three max_four min_four   -- for this text's walks alone
set_option linter.unusedVariables false
set_option linter.unusedSimpArgs false

/-! ### impl_SetFastPrint: function 28 -/
-- a contract that was proved by hand
def impl_SetFastPrint.f (l0 : List S48) : Option Int := if lessMax l0 = true then some (fastFp (setL l0)) else none
set_option maxHeartbeats 1600000 in
set_option maxRecDepth 100000 in
theorem impl_SetFastPrint.calls (A0 : Option Addr) (c0 : Nat) (l0 : List S48) (r : Int) (w : World) (hr0 : Kd.C k48 w A0 l0.length l0) (hc0 : l0.length ≤ c0) (h : impl_SetFastPrint.f l0 = some r) :
    Calls Try.prog 28 #[.slice A0 l0.length c0] w fun e w' => e = .returned (.int .u64 r) ∧ Below w.heap.size w w' := by
  unfold impl_SetFastPrint.f at h
  split at h
  · rename_i hl
    simp only [lessMax, Bool.and_eq_true, decide_eq_true_eq] at hl
    obtain ⟨h1, h2⟩ := hl
    have HQ := Aside0.mk (Option.some.inj h)
    clear h
    have C0 := Aside0.mk (impl_labelSet.calls A0 c0 l0 w hr0 hc0 h1 h2)
    clear hr0 hc0 h1 h2
    go_enter Try.func28, Try.ntmps28
    go_wp2_with fail
    refine C0.out.mono ?_
    rintro e w1 ⟨b, rfl, hb, hM, hB⟩
    have HM := Aside0.mk hM
    have HB := Aside0.mk hB
    clear hM hB hb
    have HE := model_labelSetToFastFingerprint.calls b _ _ w1 HM.out
    rw [HQ.out] at HE
    have HE' := Aside0.mk HE
    clear HE
    go_wp2_with (first | (go_at_call 70; refine HE'.out.mono ?_; rintro e w3 ⟨rfl, hB3⟩; have HB3 := Aside0.mk (below_step HB.out hB3); clear hB3) | go_in)
    go_ret
    exact ⟨rfl, HB3.out⟩
  · cases h


end Go.Proofs.Ytbffhefeepmpcaa.Q
