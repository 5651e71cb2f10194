-- printed by this project's own program wip/tools/mkprint.py (the kit's print.py with hand-proved contracts put in)
import Derived.Test.YtbffhefeepmpcaaQx0
import Derived.Test.YtbffhefeepmpcaaQx28
import Derived.Test.YtbffhefeepmpcaaQx29
namespace Go.Proofs.Ytbffhefeepmpcaa.Q
open Go.RowKit Go.Proofs.YtbffhefeepmpcaaW.PrintWords Go.Proofs.YtbffhefeepmpcaaW.PrintLast Go.Proofs.YtbffhefeepmpcaaW.PrintMore
attribute [local go_sem] max2_int min2_int max_two min_two max_three min_three max_four min_four   -- for this text's walks alone
set_option linter.unusedVariables false
set_option linter.unusedSimpArgs false

/-! ### impl_SetEqual: function 17 -/
-- a contract that was proved by hand
def impl_SetEqual.f (l0 l1 : List S48) : Option Bool := if lessMax l0 = true ∧ lessMax l1 = true then some (decide (setL l0 = setL l1)) else none
set_option maxHeartbeats 1600000 in
set_option maxRecDepth 100000 in
theorem impl_SetEqual.calls (A0 : Option Addr) (c0 : Nat) (l0 : List S48) (A1 : Option Addr) (c1 : Nat) (l1 : List S48) (r : Bool) (w : World) (hr0 : Kd.C k48 w A0 l0.length l0) (hc0 : l0.length ≤ c0) (hr1 : Kd.C k48 w A1 l1.length l1) (hc1 : l1.length ≤ c1) (h : impl_SetEqual.f l0 l1 = some r) :
    Calls Try.prog 17 #[.slice A0 l0.length c0, .slice A1 l1.length c1] w fun e w' => e = .returned (.bool r) ∧ Below w.heap.size w w' := by
  unfold impl_SetEqual.f at h
  split at h
  · rename_i hl
    simp only [lessMax, Bool.and_eq_true, decide_eq_true_eq] at hl
    obtain ⟨⟨h1, h2⟩, h3, h4⟩ := hl
    have hq := Option.some.inj h
    clear h
    have HQ := Aside0.mk hq
    clear hq
    have C0 := Aside0.mk (impl_labelSet.calls A0 c0 l0 w hr0 hc0 h1 h2)
    have R1 := Aside0.mk hr1
    have X1 := Aside0.mk hc1
    have X2 := Aside0.mk h3
    have X3 := Aside0.mk h4
    clear hr0 hc0 h1 h2 hr1 hc1 h3 h4
    go_enter Try.func17, Try.ntmps17
    go_wp2_with fail
    refine C0.out.mono ?_
    rintro e w1 ⟨b, rfl, hb, hM, hB⟩
    have HM := Aside0.mk hM
    have HB := Aside0.mk hB
    clear hM hB hb
    go_wp2_with fail
    refine (impl_labelSet.calls A1 c1 l1 w1 (Kd.C_below R1.out HB.out) X1.out X2.out X3.out).mono ?_
    rintro e w2 ⟨b', rfl, hb', hM', hB'⟩
    have HM2 := Aside0.mk (HM.out.below hB')
    have HM' := Aside0.mk hM'
    have HB2 := Aside0.mk (below_step HB.out hB')
    clear hM' hB' hb' HM HB
    go_wp2_with fail
    have HE := model_LabelSet_Equal.calls b _ b' _ _ _ w2 HM2.out HM'.out
    rw [HQ.out] at HE
    refine HE.mono ?_
    clear HE
    rintro e w3 ⟨rfl, hB3⟩
    have HB3 := Aside0.mk (below_step HB2.out hB3)
    clear hB3
    go_wp2
    go_ret
    exact ⟨rfl, HB3.out⟩
  · cases h


end Go.Proofs.Ytbffhefeepmpcaa.Q
