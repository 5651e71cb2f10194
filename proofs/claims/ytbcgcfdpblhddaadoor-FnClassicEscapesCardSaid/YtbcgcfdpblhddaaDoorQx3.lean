-- printed by this project's own program wip/tools/mkprint.py (the kit's print.py with hand-proved contracts put in)
import Derived.Test.YtbcgcfdpblhddaaDoorQx0
namespace Go.Proofs.YtbcgcfdpblhddaaDoor.Q
open Go.RowKit Go.Proofs.YtbcgcfdpblhddaaDoorW.PrintWords Go.Proofs.YtbcgcfdpblhddaaDoorW.PrintLast Go.Proofs.YtbcgcfdpblhddaaDoorW.PrintMore
attribute [local go_sem] max2_int min2_int max_two min_two max_three min_three max_four min_four   -- for this text's walks alone
set_option linter.unusedVariables false
set_option linter.unusedSimpArgs false

/-! ### labels_zzNameByte: function 49 -/
def labels_zzNameByte.f (a0 : Int) (a1 : Bool) : Option (Bool) := if a0 ≥ 97 then (if a0 ≤ 122 then (some true) else (if a0 ≥ 65 then (if a0 ≤ 90 then (some true) else (if a0 = 95 then (some true) else (if a0 = 58 then (some true) else (if a1 = true then (some false) else (if a0 ≥ 48 then (some (decide (a0 ≤ 57))) else (some false)))))) else (if a0 = 95 then (some true) else (if a0 = 58 then (some true) else (if a1 = true then (some false) else (if a0 ≥ 48 then (some (decide (a0 ≤ 57))) else (some false))))))) else (if a0 ≥ 65 then (if a0 ≤ 90 then (some true) else (if a0 = 95 then (some true) else (if a0 = 58 then (some true) else (if a1 = true then (some false) else (if a0 ≥ 48 then (some (decide (a0 ≤ 57))) else (some false)))))) else (if a0 = 95 then (some true) else (if a0 = 58 then (some true) else (if a1 = true then (some false) else (if a0 ≥ 48 then (some (decide (a0 ≤ 57))) else (some false))))))
set_option maxHeartbeats 8000000 in
set_option maxRecDepth 100000 in
theorem labels_zzNameByte.calls (a0 : Int) (a1 : Bool) (r : Bool) (w : World) (h : labels_zzNameByte.f a0 a1 = some r) :
    Calls Tryd.prog 49 #[.int .u8 a0, .bool a1] w fun e w' => e = .returned (.bool r) ∧ Drawn0 w w' := by
  have H : (if a0 ≥ 97 then (if a0 ≤ 122 then (some true) else (if a0 ≥ 65 then (if a0 ≤ 90 then (some true) else (if a0 = 95 then (some true) else (if a0 = 58 then (some true) else (if a1 = true then (some false) else (if a0 ≥ 48 then (some (decide (a0 ≤ 57))) else (some false)))))) else (if a0 = 95 then (some true) else (if a0 = 58 then (some true) else (if a1 = true then (some false) else (if a0 ≥ 48 then (some (decide (a0 ≤ 57))) else (some false))))))) else (if a0 ≥ 65 then (if a0 ≤ 90 then (some true) else (if a0 = 95 then (some true) else (if a0 = 58 then (some true) else (if a1 = true then (some false) else (if a0 ≥ 48 then (some (decide (a0 ≤ 57))) else (some false)))))) else (if a0 = 95 then (some true) else (if a0 = 58 then (some true) else (if a1 = true then (some false) else (if a0 ≥ 48 then (some (decide (a0 ≤ 57))) else (some false))))))) = some r := h
  clear h
  by_cases c3 : a0 ≥ 97
  · rw [if_pos c3] at H
    have c3b0 : decide (97 ≤ a0) = true := decide_eq_true c3
    clear c3
    by_cases c4 : a0 ≤ 122
    · rw [if_pos c4] at H
      have c4b0 : decide (a0 ≤ 122) = true := decide_eq_true c4
      clear c4
      obtain rfl := Option.some.inj H
      go_enter Tryd.func49, Tryd.ntmps49
      go_wp2
      go_ret
      exact ⟨by first | rfl | (simp; done) | (simp [*]; done), by repeat (first | exact Drawn0.refl _ | apply Drawn0.step)⟩
    · rw [if_neg c4] at H
      have c4b0 : decide (a0 ≤ 122) = false := decide_eq_false c4
      clear c4
      by_cases c5 : a0 ≥ 65
      · rw [if_pos c5] at H
        have c5b0 : decide (65 ≤ a0) = true := decide_eq_true c5
        clear c5
        by_cases c6 : a0 ≤ 90
        · rw [if_pos c6] at H
          have c6b0 : decide (a0 ≤ 90) = true := decide_eq_true c6
          clear c6
          obtain rfl := Option.some.inj H
          go_enter Tryd.func49, Tryd.ntmps49
          go_wp2
          go_ret
          exact ⟨by first | rfl | (simp; done) | (simp [*]; done), by repeat (first | exact Drawn0.refl _ | apply Drawn0.step)⟩
        · rw [if_neg c6] at H
          have c6b0 : decide (a0 ≤ 90) = false := decide_eq_false c6
          clear c6
          by_cases c7 : a0 = 95
          · rw [if_pos c7] at H
            have c7b0 : (a0 == 95) = true := beq_iff_eq.mpr c7
            have c7b1 : (a0 != 95) = false := bne_eq_false_iff_eq.mpr c7
            clear c7
            obtain rfl := Option.some.inj H
            go_enter Tryd.func49, Tryd.ntmps49
            go_wp2
            go_ret
            exact ⟨by first | rfl | (simp; done) | (simp [*]; done), by repeat (first | exact Drawn0.refl _ | apply Drawn0.step)⟩
          · rw [if_neg c7] at H
            have c7b0 : (a0 == 95) = false := beq_eq_false_iff_ne.mpr c7
            have c7b1 : (a0 != 95) = true := bne_iff_ne.mpr c7
            by_cases c8 : a0 = 58
            · rw [if_pos c8] at H
              have c8b0 : (a0 == 58) = true := beq_iff_eq.mpr c8
              have c8b1 : (a0 != 58) = false := bne_eq_false_iff_eq.mpr c8
              clear c8
              obtain rfl := Option.some.inj H
              go_enter Tryd.func49, Tryd.ntmps49
              go_wp2
              go_ret
              exact ⟨by first | rfl | (simp; done) | (simp [*]; done), by repeat (first | exact Drawn0.refl _ | apply Drawn0.step)⟩
            · rw [if_neg c8] at H
              have c8b0 : (a0 == 58) = false := beq_eq_false_iff_ne.mpr c8
              have c8b1 : (a0 != 58) = true := bne_iff_ne.mpr c8
              by_cases c9 : a1 = true
              · subst c9
                have H1 : (some false) = some r := by rw [if_pos rfl] at H; exact H
                clear H
                have H := H1
                clear H1
                obtain rfl := Option.some.inj H
                go_enter Tryd.func49, Tryd.ntmps49
                go_wp2
                go_ret
                exact ⟨by first | rfl | (simp; done) | (simp [*]; done), by repeat (first | exact Drawn0.refl _ | apply Drawn0.step)⟩
              · replace c9 := Bool.eq_false_iff.mpr c9
                subst c9
                have H1 : (if a0 ≥ 48 then (some (decide (a0 ≤ 57))) else (some false)) = some r := by rw [if_neg (show ¬ (false = true) by decide)] at H; exact H
                clear H
                have H := H1
                clear H1
                by_cases c10 : a0 ≥ 48
                · rw [if_pos c10] at H
                  have c10b0 : decide (48 ≤ a0) = true := decide_eq_true c10
                  clear c10
                  obtain rfl := Option.some.inj H
                  go_enter Tryd.func49, Tryd.ntmps49
                  go_wp2
                  go_ret
                  exact ⟨by first | rfl | (simp; done) | (simp [*]; done), by repeat (first | exact Drawn0.refl _ | apply Drawn0.step)⟩
                · rw [if_neg c10] at H
                  have c10b0 : decide (48 ≤ a0) = false := decide_eq_false c10
                  clear c10
                  obtain rfl := Option.some.inj H
                  go_enter Tryd.func49, Tryd.ntmps49
                  go_wp2
                  go_ret
                  exact ⟨by first | rfl | (simp; done) | (simp [*]; done), by repeat (first | exact Drawn0.refl _ | apply Drawn0.step)⟩
      · rw [if_neg c5] at H
        have c5b0 : decide (65 ≤ a0) = false := decide_eq_false c5
        clear c5
        by_cases c11 : a0 = 95
        · rw [if_pos c11] at H
          have c11b0 : (a0 == 95) = true := beq_iff_eq.mpr c11
          have c11b1 : (a0 != 95) = false := bne_eq_false_iff_eq.mpr c11
          clear c11
          obtain rfl := Option.some.inj H
          go_enter Tryd.func49, Tryd.ntmps49
          go_wp2
          go_ret
          exact ⟨by first | rfl | (simp; done) | (simp [*]; done), by repeat (first | exact Drawn0.refl _ | apply Drawn0.step)⟩
        · rw [if_neg c11] at H
          have c11b0 : (a0 == 95) = false := beq_eq_false_iff_ne.mpr c11
          have c11b1 : (a0 != 95) = true := bne_iff_ne.mpr c11
          by_cases c12 : a0 = 58
          · rw [if_pos c12] at H
            have c12b0 : (a0 == 58) = true := beq_iff_eq.mpr c12
            have c12b1 : (a0 != 58) = false := bne_eq_false_iff_eq.mpr c12
            clear c12
            obtain rfl := Option.some.inj H
            go_enter Tryd.func49, Tryd.ntmps49
            go_wp2
            go_ret
            exact ⟨by first | rfl | (simp; done) | (simp [*]; done), by repeat (first | exact Drawn0.refl _ | apply Drawn0.step)⟩
          · rw [if_neg c12] at H
            have c12b0 : (a0 == 58) = false := beq_eq_false_iff_ne.mpr c12
            have c12b1 : (a0 != 58) = true := bne_iff_ne.mpr c12
            by_cases c13 : a1 = true
            · subst c13
              have H1 : (some false) = some r := by rw [if_pos rfl] at H; exact H
              clear H
              have H := H1
              clear H1
              obtain rfl := Option.some.inj H
              go_enter Tryd.func49, Tryd.ntmps49
              go_wp2
              go_ret
              exact ⟨by first | rfl | (simp; done) | (simp [*]; done), by repeat (first | exact Drawn0.refl _ | apply Drawn0.step)⟩
            · replace c13 := Bool.eq_false_iff.mpr c13
              subst c13
              have H1 : (if a0 ≥ 48 then (some (decide (a0 ≤ 57))) else (some false)) = some r := by rw [if_neg (show ¬ (false = true) by decide)] at H; exact H
              clear H
              have H := H1
              clear H1
              by_cases c14 : a0 ≥ 48
              · rw [if_pos c14] at H
                have c14b0 : decide (48 ≤ a0) = true := decide_eq_true c14
                clear c14
                obtain rfl := Option.some.inj H
                go_enter Tryd.func49, Tryd.ntmps49
                go_wp2
                go_ret
                exact ⟨by first | rfl | (simp; done) | (simp [*]; done), by repeat (first | exact Drawn0.refl _ | apply Drawn0.step)⟩
              · rw [if_neg c14] at H
                have c14b0 : decide (48 ≤ a0) = false := decide_eq_false c14
                clear c14
                obtain rfl := Option.some.inj H
                go_enter Tryd.func49, Tryd.ntmps49
                go_wp2
                go_ret
                exact ⟨by first | rfl | (simp; done) | (simp [*]; done), by repeat (first | exact Drawn0.refl _ | apply Drawn0.step)⟩
  · rw [if_neg c3] at H
    have c3b0 : decide (97 ≤ a0) = false := decide_eq_false c3
    clear c3
    by_cases c15 : a0 ≥ 65
    · rw [if_pos c15] at H
      have c15b0 : decide (65 ≤ a0) = true := decide_eq_true c15
      clear c15
      by_cases c16 : a0 ≤ 90
      · rw [if_pos c16] at H
        have c16b0 : decide (a0 ≤ 90) = true := decide_eq_true c16
        clear c16
        obtain rfl := Option.some.inj H
        go_enter Tryd.func49, Tryd.ntmps49
        go_wp2
        go_ret
        exact ⟨by first | rfl | (simp; done) | (simp [*]; done), by repeat (first | exact Drawn0.refl _ | apply Drawn0.step)⟩
      · rw [if_neg c16] at H
        have c16b0 : decide (a0 ≤ 90) = false := decide_eq_false c16
        clear c16
        by_cases c17 : a0 = 95
        · rw [if_pos c17] at H
          have c17b0 : (a0 == 95) = true := beq_iff_eq.mpr c17
          have c17b1 : (a0 != 95) = false := bne_eq_false_iff_eq.mpr c17
          clear c17
          obtain rfl := Option.some.inj H
          go_enter Tryd.func49, Tryd.ntmps49
          go_wp2
          go_ret
          exact ⟨by first | rfl | (simp; done) | (simp [*]; done), by repeat (first | exact Drawn0.refl _ | apply Drawn0.step)⟩
        · rw [if_neg c17] at H
          have c17b0 : (a0 == 95) = false := beq_eq_false_iff_ne.mpr c17
          have c17b1 : (a0 != 95) = true := bne_iff_ne.mpr c17
          by_cases c18 : a0 = 58
          · rw [if_pos c18] at H
            have c18b0 : (a0 == 58) = true := beq_iff_eq.mpr c18
            have c18b1 : (a0 != 58) = false := bne_eq_false_iff_eq.mpr c18
            clear c18
            obtain rfl := Option.some.inj H
            go_enter Tryd.func49, Tryd.ntmps49
            go_wp2
            go_ret
            exact ⟨by first | rfl | (simp; done) | (simp [*]; done), by repeat (first | exact Drawn0.refl _ | apply Drawn0.step)⟩
          · rw [if_neg c18] at H
            have c18b0 : (a0 == 58) = false := beq_eq_false_iff_ne.mpr c18
            have c18b1 : (a0 != 58) = true := bne_iff_ne.mpr c18
            by_cases c19 : a1 = true
            · subst c19
              have H1 : (some false) = some r := by rw [if_pos rfl] at H; exact H
              clear H
              have H := H1
              clear H1
              obtain rfl := Option.some.inj H
              go_enter Tryd.func49, Tryd.ntmps49
              go_wp2
              go_ret
              exact ⟨by first | rfl | (simp; done) | (simp [*]; done), by repeat (first | exact Drawn0.refl _ | apply Drawn0.step)⟩
            · replace c19 := Bool.eq_false_iff.mpr c19
              subst c19
              have H1 : (if a0 ≥ 48 then (some (decide (a0 ≤ 57))) else (some false)) = some r := by rw [if_neg (show ¬ (false = true) by decide)] at H; exact H
              clear H
              have H := H1
              clear H1
              by_cases c20 : a0 ≥ 48
              · rw [if_pos c20] at H
                have c20b0 : decide (48 ≤ a0) = true := decide_eq_true c20
                clear c20
                obtain rfl := Option.some.inj H
                go_enter Tryd.func49, Tryd.ntmps49
                go_wp2
                go_ret
                exact ⟨by first | rfl | (simp; done) | (simp [*]; done), by repeat (first | exact Drawn0.refl _ | apply Drawn0.step)⟩
              · rw [if_neg c20] at H
                have c20b0 : decide (48 ≤ a0) = false := decide_eq_false c20
                clear c20
                obtain rfl := Option.some.inj H
                go_enter Tryd.func49, Tryd.ntmps49
                go_wp2
                go_ret
                exact ⟨by first | rfl | (simp; done) | (simp [*]; done), by repeat (first | exact Drawn0.refl _ | apply Drawn0.step)⟩
    · rw [if_neg c15] at H
      have c15b0 : decide (65 ≤ a0) = false := decide_eq_false c15
      clear c15
      by_cases c21 : a0 = 95
      · rw [if_pos c21] at H
        have c21b0 : (a0 == 95) = true := beq_iff_eq.mpr c21
        have c21b1 : (a0 != 95) = false := bne_eq_false_iff_eq.mpr c21
        clear c21
        obtain rfl := Option.some.inj H
        go_enter Tryd.func49, Tryd.ntmps49
        go_wp2
        go_ret
        exact ⟨by first | rfl | (simp; done) | (simp [*]; done), by repeat (first | exact Drawn0.refl _ | apply Drawn0.step)⟩
      · rw [if_neg c21] at H
        have c21b0 : (a0 == 95) = false := beq_eq_false_iff_ne.mpr c21
        have c21b1 : (a0 != 95) = true := bne_iff_ne.mpr c21
        by_cases c22 : a0 = 58
        · rw [if_pos c22] at H
          have c22b0 : (a0 == 58) = true := beq_iff_eq.mpr c22
          have c22b1 : (a0 != 58) = false := bne_eq_false_iff_eq.mpr c22
          clear c22
          obtain rfl := Option.some.inj H
          go_enter Tryd.func49, Tryd.ntmps49
          go_wp2
          go_ret
          exact ⟨by first | rfl | (simp; done) | (simp [*]; done), by repeat (first | exact Drawn0.refl _ | apply Drawn0.step)⟩
        · rw [if_neg c22] at H
          have c22b0 : (a0 == 58) = false := beq_eq_false_iff_ne.mpr c22
          have c22b1 : (a0 != 58) = true := bne_iff_ne.mpr c22
          by_cases c23 : a1 = true
          · subst c23
            have H1 : (some false) = some r := by rw [if_pos rfl] at H; exact H
            clear H
            have H := H1
            clear H1
            obtain rfl := Option.some.inj H
            go_enter Tryd.func49, Tryd.ntmps49
            go_wp2
            go_ret
            exact ⟨by first | rfl | (simp; done) | (simp [*]; done), by repeat (first | exact Drawn0.refl _ | apply Drawn0.step)⟩
          · replace c23 := Bool.eq_false_iff.mpr c23
            subst c23
            have H1 : (if a0 ≥ 48 then (some (decide (a0 ≤ 57))) else (some false)) = some r := by rw [if_neg (show ¬ (false = true) by decide)] at H; exact H
            clear H
            have H := H1
            clear H1
            by_cases c24 : a0 ≥ 48
            · rw [if_pos c24] at H
              have c24b0 : decide (48 ≤ a0) = true := decide_eq_true c24
              clear c24
              obtain rfl := Option.some.inj H
              go_enter Tryd.func49, Tryd.ntmps49
              go_wp2
              go_ret
              exact ⟨by first | rfl | (simp; done) | (simp [*]; done), by repeat (first | exact Drawn0.refl _ | apply Drawn0.step)⟩
            · rw [if_neg c24] at H
              have c24b0 : decide (48 ≤ a0) = false := decide_eq_false c24
              clear c24
              obtain rfl := Option.some.inj H
              go_enter Tryd.func49, Tryd.ntmps49
              go_wp2
              go_ret
              exact ⟨by first | rfl | (simp; done) | (simp [*]; done), by repeat (first | exact Drawn0.refl _ | apply Drawn0.step)⟩

end Go.Proofs.YtbcgcfdpblhddaaDoor.Q
