-- printed by this project's own program wip/tools/mkprint.py (the kit's print.py with hand-proved contracts put in)
import Derived.Test.YtbcgcfdpblhddaaDoorQx0
import Derived.Test.YtbcgcfdpblhddaaDoorQx6
namespace Go.Proofs.YtbcgcfdpblhddaaDoor.Q
open Go.RowKit Go.Proofs.YtbcgcfdpblhddaaDoorW.PrintWords Go.Proofs.YtbcgcfdpblhddaaDoorW.PrintLast Go.Proofs.YtbcgcfdpblhddaaDoorW.PrintMore
attribute [local go_sem] max2_int min2_int max_two min_two max_three min_three max_four min_four   -- for this text's walks alone
set_option linter.unusedVariables false
set_option linter.unusedSimpArgs false

/-! ### stringslite_CutPrefix: function 50 -/
def stringslite_CutPrefix.f (a0 : ByteArray) (a1 : ByteArray) : Option (ByteArray × Bool) := (stringslite_HasPrefix.f a0 a1).bind fun t113 => (if t113 = true then (if 0 ≤ (a1.size : Int) then (if (a1.size : Int) ≤ (a0.size : Int) then (some (a0.extract ((a1.size : Int) : Int).toNat a0.size, true)) else (none)) else (none)) else (some (a0, false)))
set_option maxHeartbeats 8000000 in
set_option maxRecDepth 100000 in
theorem stringslite_CutPrefix.calls (a0 : ByteArray) (a1 : ByteArray) (r1 : ByteArray) (r2 : Bool) (w : World) (h : stringslite_CutPrefix.f a0 a1 = some (r1, r2)) :
    Calls Tryd.prog 50 #[.string a0, .string a1] w fun e w' => e = .returned (.tuple #[.string r1, .bool r2]) ∧ Drawn0 w w' := by
  have H : ((stringslite_HasPrefix.f a0 a1).bind fun t113 => (if t113 = true then (if 0 ≤ (a1.size : Int) then (if (a1.size : Int) ≤ (a0.size : Int) then (some (a0.extract ((a1.size : Int) : Int).toNat a0.size, true)) else (none)) else (none)) else (some (a0, false)))) = some (r1, r2) := h
  clear h
  replace H := Option.bind_eq_some_iff.mp H
  obtain ⟨t113, A30, H⟩ := H
  replace H : (if t113 = true then (if 0 ≤ (a1.size : Int) then (if (a1.size : Int) ≤ (a0.size : Int) then (some (a0.extract ((a1.size : Int) : Int).toNat a0.size, true)) else (none)) else (none)) else (some (a0, false))) = some (r1, r2) := H
  have A3 := Aside0.mk A30
  clear A30
  by_cases c4 : t113 = true
  · subst c4
    have H1 : (if 0 ≤ (a1.size : Int) then (if (a1.size : Int) ≤ (a0.size : Int) then (some (a0.extract ((a1.size : Int) : Int).toNat a0.size, true)) else (none)) else (none)) = some (r1, r2) := by rw [if_pos rfl] at H; exact H
    clear H
    have H := H1
    clear H1
    by_cases c5 : 0 ≤ (a1.size : Int)
    · rw [if_pos c5] at H
      have c5b0 := eq_true c5
      have c5b1 : decide (0 ≤ (a1.size : Int)) = true := decide_eq_true c5
      clear c5
      by_cases c6 : (a1.size : Int) ≤ (a0.size : Int)
      · rw [if_pos c6] at H
        have c6b0 := eq_true c6
        have c6b1 : decide ((a1.size : Int) ≤ (a0.size : Int)) = true := decide_eq_true c6
        clear c6
        simp only [Option.some.injEq, Prod.mk.injEq] at H
        obtain ⟨rfl, rfl⟩ := H
        go_enter Tryd.func50, Tryd.ntmps50
        go_wp2_with (first | ((with_reducible refine gate_callee (f := 70) rfl ?_); refine goesL_ (some 8) rfl rfl Tryd.func70 (by kernel_rfl) rfl #[.string a0, .string a1] rfl (by (try simp only [List.map_toArray, List.map_cons, List.map_nil]); first | done | rfl | (simp only [List.length_drop, List.length_take]; rfl)) ?_; (with_reducible refine (stringslite_HasPrefix.calls a0 a1 true _ A3.out).mono ?_); rintro e w' ⟨rfl, ⟨nd, rfl⟩⟩; refine ⟨_, rfl, ?_⟩))
        go_ret2
        exact ⟨by first | rfl | (simp; done) | (simp [*]; done), by repeat (first | exact Drawn0.refl _ | apply Drawn0.step)⟩
      · rw [if_neg c6] at H
        exact absurd H (by simp)
    · rw [if_neg c5] at H
      exact absurd H (by simp)
  · replace c4 := Bool.eq_false_iff.mpr c4
    subst c4
    have H1 : (some (a0, false)) = some (r1, r2) := by rw [if_neg (show ¬ (false = true) by decide)] at H; exact H
    clear H
    have H := H1
    clear H1
    simp only [Option.some.injEq, Prod.mk.injEq] at H
    obtain ⟨rfl, rfl⟩ := H
    go_enter Tryd.func50, Tryd.ntmps50
    go_wp2_with (first | ((with_reducible refine gate_callee (f := 70) rfl ?_); refine goesL_ (some 8) rfl rfl Tryd.func70 (by kernel_rfl) rfl #[.string a0, .string a1] rfl (by (try simp only [List.map_toArray, List.map_cons, List.map_nil]); first | done | rfl | (simp only [List.length_drop, List.length_take]; rfl)) ?_; (with_reducible refine (stringslite_HasPrefix.calls a0 a1 false _ A3.out).mono ?_); rintro e w' ⟨rfl, ⟨nd, rfl⟩⟩; refine ⟨_, rfl, ?_⟩))
    go_ret2
    exact ⟨by first | rfl | (simp; done) | (simp [*]; done), by repeat (first | exact Drawn0.refl _ | apply Drawn0.step)⟩

end Go.Proofs.YtbcgcfdpblhddaaDoor.Q
