-- printed by this project's own program wip/tools/mkprint.py (the kit's print.py with hand-proved contracts put in)
import Derived.Test.YtenededepjfojaaDoorQx0
namespace Go.Proofs.YtenededepjfojaaDoor.Q
open Go.RowKit Go.Proofs.YtenededepjfojaaDoorW.PrintWords Go.Proofs.YtenededepjfojaaDoorW.PrintLast Go.Proofs.YtenededepjfojaaDoorW.PrintMore
attribute [local go_sem] max2_int min2_int max_two min_two max_three min_three max_four min_four   -- for this text's walks alone
set_option linter.unusedVariables false
set_option linter.unusedSimpArgs false

/-! ### laws_legacy: function 11 -/
def laws_legacy.l0 : Nat → ByteArray → Bool → Int → Option (Bool)
  | 0, _, _, _ => none
  | k + 1, x0, x1, x5 => if x5 < (x0.size : Int) then (if 0 ≤ x5 then (if (bt x0 x5) ≥ 97 then (if (bt x0 x5) ≤ 122 then (laws_legacy.l0 k x0 x1 (wrap64 (x5 + 1))) else (if (bt x0 x5) ≥ 65 then (if (bt x0 x5) ≤ 90 then (laws_legacy.l0 k x0 x1 (wrap64 (x5 + 1))) else (if (bt x0 x5) = 95 then (laws_legacy.l0 k x0 x1 (wrap64 (x5 + 1))) else (if (bt x0 x5) = 58 then (if x1 = true then (laws_legacy.l0 k x0 x1 (wrap64 (x5 + 1))) else (if x5 > 0 then (if (bt x0 x5) ≥ 48 then (if (bt x0 x5) ≤ 57 then (laws_legacy.l0 k x0 x1 (wrap64 (x5 + 1))) else (some false)) else (some false)) else (some false))) else (if x5 > 0 then (if (bt x0 x5) ≥ 48 then (if (bt x0 x5) ≤ 57 then (laws_legacy.l0 k x0 x1 (wrap64 (x5 + 1))) else (some false)) else (some false)) else (some false))))) else (if (bt x0 x5) = 95 then (laws_legacy.l0 k x0 x1 (wrap64 (x5 + 1))) else (if (bt x0 x5) = 58 then (if x1 = true then (laws_legacy.l0 k x0 x1 (wrap64 (x5 + 1))) else (if x5 > 0 then (if (bt x0 x5) ≥ 48 then (if (bt x0 x5) ≤ 57 then (laws_legacy.l0 k x0 x1 (wrap64 (x5 + 1))) else (some false)) else (some false)) else (some false))) else (if x5 > 0 then (if (bt x0 x5) ≥ 48 then (if (bt x0 x5) ≤ 57 then (laws_legacy.l0 k x0 x1 (wrap64 (x5 + 1))) else (some false)) else (some false)) else (some false)))))) else (if (bt x0 x5) ≥ 65 then (if (bt x0 x5) ≤ 90 then (laws_legacy.l0 k x0 x1 (wrap64 (x5 + 1))) else (if (bt x0 x5) = 95 then (laws_legacy.l0 k x0 x1 (wrap64 (x5 + 1))) else (if (bt x0 x5) = 58 then (if x1 = true then (laws_legacy.l0 k x0 x1 (wrap64 (x5 + 1))) else (if x5 > 0 then (if (bt x0 x5) ≥ 48 then (if (bt x0 x5) ≤ 57 then (laws_legacy.l0 k x0 x1 (wrap64 (x5 + 1))) else (some false)) else (some false)) else (some false))) else (if x5 > 0 then (if (bt x0 x5) ≥ 48 then (if (bt x0 x5) ≤ 57 then (laws_legacy.l0 k x0 x1 (wrap64 (x5 + 1))) else (some false)) else (some false)) else (some false))))) else (if (bt x0 x5) = 95 then (laws_legacy.l0 k x0 x1 (wrap64 (x5 + 1))) else (if (bt x0 x5) = 58 then (if x1 = true then (laws_legacy.l0 k x0 x1 (wrap64 (x5 + 1))) else (if x5 > 0 then (if (bt x0 x5) ≥ 48 then (if (bt x0 x5) ≤ 57 then (laws_legacy.l0 k x0 x1 (wrap64 (x5 + 1))) else (some false)) else (some false)) else (some false))) else (if x5 > 0 then (if (bt x0 x5) ≥ 48 then (if (bt x0 x5) ≤ 57 then (laws_legacy.l0 k x0 x1 (wrap64 (x5 + 1))) else (some false)) else (some false)) else (some false)))))) else (none)) else (some (x0.toList != ([] : List UInt8)))
def laws_legacy.f (k : Nat) (a0 : ByteArray) (a1 : Bool) : Option (Bool) := laws_legacy.l0 k a0 a1 0
theorem laws_legacy.mono_l : ∀ k, (∀ y0 y1 y2, LeO (laws_legacy.l0 k y0 y1 y2) (laws_legacy.l0 (k + 1) y0 y1 y2))
  | 0 => fun _ _ _ r h => by simp [laws_legacy.l0] at h
  | k + 1 => by
    have ih0 := laws_legacy.mono_l k
    · intro y0 y1 y2
      unfold laws_legacy.l0
      repeat' first
      | (with_reducible exact ih0 _ _ _)
      | (with_reducible exact LeO.refl _)
      | (with_reducible exact LeO.none _)
      | (with_reducible refine LeO.ite ?_ ?_)
      | (with_reducible refine LeO.bind ?_ (fun _ => ?_))
      | exact ih0 _ _ _
      | exact LeO.none _
      | refine LeO.ite ?_ ?_
      | refine LeO.bind ?_ (fun _ => ?_)
theorem laws_legacy.mono : ∀ a0 a1 k, LeO (laws_legacy.f k a0 a1) (laws_legacy.f (k + 1) a0 a1) := by
  intro a0 a1 k
  have ih0 := laws_legacy.mono_l k
  unfold laws_legacy.f
  repeat' first
      | (with_reducible exact ih0 _ _ _)
      | (with_reducible exact LeO.refl _)
      | (with_reducible exact LeO.none _)
      | (with_reducible refine LeO.ite ?_ ?_)
      | (with_reducible refine LeO.bind ?_ (fun _ => ?_))
      | exact ih0 _ _ _
      | exact LeO.none _
      | refine LeO.ite ?_ ?_
      | refine LeO.bind ?_ (fun _ => ?_)
set_option maxHeartbeats 8000000 in
set_option maxRecDepth 100000 in
theorem laws_legacy.calls (k : Nat) (a0 : ByteArray) (a1 : Bool) (r : Bool) (w : World) (h : laws_legacy.f k a0 a1 = some r) :
    Calls Tryd.prog 11 #[.string a0, .bool a1] w fun e w' => e = .returned (.bool r) ∧ Drawn0 w w' := by
  have H : (laws_legacy.l0 k a0 a1 0) = some r := h
  clear h
  have H' := Aside0.mk H
  clear H
  go_enter Tryd.func11, Tryd.ntmps11
  go_wp2
  go_loopg [5] k (fun kq v5 w' => ∃ (x5_1 : Int), v5 = .int .i64 x5_1 ∧ Aside0 (laws_legacy.l0 kq a0 a1 x5_1 = some r) ∧ Aside0 (kq ≤ k) ∧ Drawn0 w w')
  case atStart => exact ⟨(0), (by first | rfl | (simp; done) | (simp [*]; done)), H', ⟨Nat.le_refl _⟩, by repeat (first | exact Drawn0.refl _ | apply Drawn0.step)⟩
  case round =>
    clear H'
    try clear c1
    try clear p2
    obtain ⟨x5_1, rfl, HA, HK1, ⟨m1, rfl⟩⟩ := hrel
    cases gk with
    | zero => exact absurd HA.out (by simp [laws_legacy.l0])
    | succ k1 =>
      have H := HA.out
      clear HA
      simp only [laws_legacy.l0] at H
      by_cases c3 : x5_1 < (a0.size : Int)
      · rw [if_pos c3] at H
        have c3b0 : decide (x5_1 < (a0.size : Int)) = true := decide_eq_true c3
        clear c3
        by_cases c4 : 0 ≤ x5_1
        · rw [if_pos c4] at H
          have c4b0 : decide (0 ≤ x5_1) = true := decide_eq_true c4
          clear c4
          by_cases c6 : (bt a0 x5_1) ≥ 97
          · rw [if_pos c6] at H
            have c6b0 : decide (97 ≤ (bt a0 x5_1)) = true := decide_eq_true c6
            clear c6
            by_cases c7 : (bt a0 x5_1) ≤ 122
            · rw [if_pos c7] at H
              have c7b0 : decide ((bt a0 x5_1) ≤ 122) = true := decide_eq_true c7
              clear c7
              have H' := Aside0.mk H
              clear H
              have p5 : 0 ≤ (x5_1 : Int) := of_decide_eq_true (by first | (with_reducible assumption) | assumption)
              have q5 : x5_1 < (a0.size : Int) := of_decide_eq_true (by first | (with_reducible assumption) | assumption)
              have hx5 := bt_at a0 x5_1
              replace p5 := eq_true p5
              replace q5 := eq_true q5
              go_wp2
              go_roundg k1
              case measure => have := HK1.out; omega
              case rel => exact ⟨(wrap64 (x5_1 + 1)), (by first | rfl | (simp; done) | (simp [*]; done)), H', ⟨by have := HK1.out; omega⟩, by repeat (first | exact Drawn0.refl _ | apply Drawn0.step)⟩
            · rw [if_neg c7] at H
              have c7b0 : decide ((bt a0 x5_1) ≤ 122) = false := decide_eq_false c7
              clear c7
              by_cases c8 : (bt a0 x5_1) ≥ 65
              · rw [if_pos c8] at H
                have c8b0 : decide (65 ≤ (bt a0 x5_1)) = true := decide_eq_true c8
                clear c8
                by_cases c9 : (bt a0 x5_1) ≤ 90
                · rw [if_pos c9] at H
                  have c9b0 : decide ((bt a0 x5_1) ≤ 90) = true := decide_eq_true c9
                  clear c9
                  have H' := Aside0.mk H
                  clear H
                  have p5 : 0 ≤ (x5_1 : Int) := of_decide_eq_true (by first | (with_reducible assumption) | assumption)
                  have q5 : x5_1 < (a0.size : Int) := of_decide_eq_true (by first | (with_reducible assumption) | assumption)
                  have hx5 := bt_at a0 x5_1
                  replace p5 := eq_true p5
                  replace q5 := eq_true q5
                  go_wp2
                  go_roundg k1
                  case measure => have := HK1.out; omega
                  case rel => exact ⟨(wrap64 (x5_1 + 1)), (by first | rfl | (simp; done) | (simp [*]; done)), H', ⟨by have := HK1.out; omega⟩, by repeat (first | exact Drawn0.refl _ | apply Drawn0.step)⟩
                · rw [if_neg c9] at H
                  have c9b0 : decide ((bt a0 x5_1) ≤ 90) = false := decide_eq_false c9
                  clear c9
                  by_cases c10 : (bt a0 x5_1) = 95
                  · rw [if_pos c10] at H
                    have c10b0 : ((bt a0 x5_1) == 95) = true := beq_iff_eq.mpr c10
                    have c10b1 : ((bt a0 x5_1) != 95) = false := bne_eq_false_iff_eq.mpr c10
                    clear c10
                    have H' := Aside0.mk H
                    clear H
                    have p5 : 0 ≤ (x5_1 : Int) := of_decide_eq_true (by first | (with_reducible assumption) | assumption)
                    have q5 : x5_1 < (a0.size : Int) := of_decide_eq_true (by first | (with_reducible assumption) | assumption)
                    have hx5 := bt_at a0 x5_1
                    replace p5 := eq_true p5
                    replace q5 := eq_true q5
                    go_wp2
                    go_roundg k1
                    case measure => have := HK1.out; omega
                    case rel => exact ⟨(wrap64 (x5_1 + 1)), (by first | rfl | (simp; done) | (simp [*]; done)), H', ⟨by have := HK1.out; omega⟩, by repeat (first | exact Drawn0.refl _ | apply Drawn0.step)⟩
                  · rw [if_neg c10] at H
                    have c10b0 : ((bt a0 x5_1) == 95) = false := beq_eq_false_iff_ne.mpr c10
                    have c10b1 : ((bt a0 x5_1) != 95) = true := bne_iff_ne.mpr c10
                    by_cases c11 : (bt a0 x5_1) = 58
                    · rw [if_pos c11] at H
                      have c11b0 : ((bt a0 x5_1) == 58) = true := beq_iff_eq.mpr c11
                      have c11b1 : ((bt a0 x5_1) != 58) = false := bne_eq_false_iff_eq.mpr c11
                      clear c11
                      by_cases c12 : a1 = true
                      · subst c12
                        have H1 : (laws_legacy.l0 k1 a0 true (wrap64 (x5_1 + 1))) = some r := by rw [if_pos rfl] at H; exact H
                        clear H
                        have H := H1
                        clear H1
                        have H' := Aside0.mk H
                        clear H
                        have p5 : 0 ≤ (x5_1 : Int) := of_decide_eq_true (by first | (with_reducible assumption) | assumption)
                        have q5 : x5_1 < (a0.size : Int) := of_decide_eq_true (by first | (with_reducible assumption) | assumption)
                        have hx5 := bt_at a0 x5_1
                        replace p5 := eq_true p5
                        replace q5 := eq_true q5
                        go_wp2
                        go_roundg k1
                        case measure => have := HK1.out; omega
                        case rel => exact ⟨(wrap64 (x5_1 + 1)), (by first | rfl | (simp; done) | (simp [*]; done)), H', ⟨by have := HK1.out; omega⟩, by repeat (first | exact Drawn0.refl _ | apply Drawn0.step)⟩
                      · replace c12 := Bool.eq_false_iff.mpr c12
                        subst c12
                        have H1 : (if x5_1 > 0 then (if (bt a0 x5_1) ≥ 48 then (if (bt a0 x5_1) ≤ 57 then (laws_legacy.l0 k1 a0 false (wrap64 (x5_1 + 1))) else (some false)) else (some false)) else (some false)) = some r := by rw [if_neg (show ¬ (false = true) by decide)] at H; exact H
                        clear H
                        have H := H1
                        clear H1
                        by_cases c13 : x5_1 > 0
                        · rw [if_pos c13] at H
                          have c13b0 : decide (0 < x5_1) = true := decide_eq_true c13
                          clear c13
                          by_cases c14 : (bt a0 x5_1) ≥ 48
                          · rw [if_pos c14] at H
                            have c14b0 : decide (48 ≤ (bt a0 x5_1)) = true := decide_eq_true c14
                            clear c14
                            by_cases c15 : (bt a0 x5_1) ≤ 57
                            · rw [if_pos c15] at H
                              have c15b0 : decide ((bt a0 x5_1) ≤ 57) = true := decide_eq_true c15
                              clear c15
                              have H' := Aside0.mk H
                              clear H
                              have p5 : 0 ≤ (x5_1 : Int) := of_decide_eq_true (by first | (with_reducible assumption) | assumption)
                              have q5 : x5_1 < (a0.size : Int) := of_decide_eq_true (by first | (with_reducible assumption) | assumption)
                              have hx5 := bt_at a0 x5_1
                              replace p5 := eq_true p5
                              replace q5 := eq_true q5
                              go_wp2
                              go_roundg k1
                              case measure => have := HK1.out; omega
                              case rel => exact ⟨(wrap64 (x5_1 + 1)), (by first | rfl | (simp; done) | (simp [*]; done)), H', ⟨by have := HK1.out; omega⟩, by repeat (first | exact Drawn0.refl _ | apply Drawn0.step)⟩
                            · rw [if_neg c15] at H
                              have c15b0 : decide ((bt a0 x5_1) ≤ 57) = false := decide_eq_false c15
                              clear c15
                              obtain rfl := Option.some.inj H
                              have p5 : 0 ≤ (x5_1 : Int) := of_decide_eq_true (by first | (with_reducible assumption) | assumption)
                              have q5 : x5_1 < (a0.size : Int) := of_decide_eq_true (by first | (with_reducible assumption) | assumption)
                              have hx5 := bt_at a0 x5_1
                              replace p5 := eq_true p5
                              replace q5 := eq_true q5
                              go_wp2
                              go_ret
                              exact ⟨by first | rfl | (simp; done) | (simp [*]; done) | (generalize ByteArray.toList _ = l_; cases l_ <;> rfl), by repeat (first | exact Drawn0.refl _ | apply Drawn0.step)⟩
                          · rw [if_neg c14] at H
                            have c14b0 : decide (48 ≤ (bt a0 x5_1)) = false := decide_eq_false c14
                            clear c14
                            obtain rfl := Option.some.inj H
                            have p5 : 0 ≤ (x5_1 : Int) := of_decide_eq_true (by first | (with_reducible assumption) | assumption)
                            have q5 : x5_1 < (a0.size : Int) := of_decide_eq_true (by first | (with_reducible assumption) | assumption)
                            have hx5 := bt_at a0 x5_1
                            replace p5 := eq_true p5
                            replace q5 := eq_true q5
                            go_wp2
                            go_ret
                            exact ⟨by first | rfl | (simp; done) | (simp [*]; done) | (generalize ByteArray.toList _ = l_; cases l_ <;> rfl), by repeat (first | exact Drawn0.refl _ | apply Drawn0.step)⟩
                        · rw [if_neg c13] at H
                          have c13b0 : decide (0 < x5_1) = false := decide_eq_false c13
                          clear c13
                          obtain rfl := Option.some.inj H
                          have p5 : 0 ≤ (x5_1 : Int) := of_decide_eq_true (by first | (with_reducible assumption) | assumption)
                          have q5 : x5_1 < (a0.size : Int) := of_decide_eq_true (by first | (with_reducible assumption) | assumption)
                          have hx5 := bt_at a0 x5_1
                          replace p5 := eq_true p5
                          replace q5 := eq_true q5
                          go_wp2
                          go_ret
                          exact ⟨by first | rfl | (simp; done) | (simp [*]; done) | (generalize ByteArray.toList _ = l_; cases l_ <;> rfl), by repeat (first | exact Drawn0.refl _ | apply Drawn0.step)⟩
                    · rw [if_neg c11] at H
                      have c11b0 : ((bt a0 x5_1) == 58) = false := beq_eq_false_iff_ne.mpr c11
                      have c11b1 : ((bt a0 x5_1) != 58) = true := bne_iff_ne.mpr c11
                      by_cases c16 : x5_1 > 0
                      · rw [if_pos c16] at H
                        have c16b0 : decide (0 < x5_1) = true := decide_eq_true c16
                        clear c16
                        by_cases c17 : (bt a0 x5_1) ≥ 48
                        · rw [if_pos c17] at H
                          have c17b0 : decide (48 ≤ (bt a0 x5_1)) = true := decide_eq_true c17
                          clear c17
                          by_cases c18 : (bt a0 x5_1) ≤ 57
                          · rw [if_pos c18] at H
                            have c18b0 : decide ((bt a0 x5_1) ≤ 57) = true := decide_eq_true c18
                            clear c18
                            have H' := Aside0.mk H
                            clear H
                            have p5 : 0 ≤ (x5_1 : Int) := of_decide_eq_true (by first | (with_reducible assumption) | assumption)
                            have q5 : x5_1 < (a0.size : Int) := of_decide_eq_true (by first | (with_reducible assumption) | assumption)
                            have hx5 := bt_at a0 x5_1
                            replace p5 := eq_true p5
                            replace q5 := eq_true q5
                            go_wp2
                            go_roundg k1
                            case measure => have := HK1.out; omega
                            case rel => exact ⟨(wrap64 (x5_1 + 1)), (by first | rfl | (simp; done) | (simp [*]; done)), H', ⟨by have := HK1.out; omega⟩, by repeat (first | exact Drawn0.refl _ | apply Drawn0.step)⟩
                          · rw [if_neg c18] at H
                            have c18b0 : decide ((bt a0 x5_1) ≤ 57) = false := decide_eq_false c18
                            clear c18
                            obtain rfl := Option.some.inj H
                            have p5 : 0 ≤ (x5_1 : Int) := of_decide_eq_true (by first | (with_reducible assumption) | assumption)
                            have q5 : x5_1 < (a0.size : Int) := of_decide_eq_true (by first | (with_reducible assumption) | assumption)
                            have hx5 := bt_at a0 x5_1
                            replace p5 := eq_true p5
                            replace q5 := eq_true q5
                            go_wp2
                            go_ret
                            exact ⟨by first | rfl | (simp; done) | (simp [*]; done) | (generalize ByteArray.toList _ = l_; cases l_ <;> rfl), by repeat (first | exact Drawn0.refl _ | apply Drawn0.step)⟩
                        · rw [if_neg c17] at H
                          have c17b0 : decide (48 ≤ (bt a0 x5_1)) = false := decide_eq_false c17
                          clear c17
                          obtain rfl := Option.some.inj H
                          have p5 : 0 ≤ (x5_1 : Int) := of_decide_eq_true (by first | (with_reducible assumption) | assumption)
                          have q5 : x5_1 < (a0.size : Int) := of_decide_eq_true (by first | (with_reducible assumption) | assumption)
                          have hx5 := bt_at a0 x5_1
                          replace p5 := eq_true p5
                          replace q5 := eq_true q5
                          go_wp2
                          go_ret
                          exact ⟨by first | rfl | (simp; done) | (simp [*]; done) | (generalize ByteArray.toList _ = l_; cases l_ <;> rfl), by repeat (first | exact Drawn0.refl _ | apply Drawn0.step)⟩
                      · rw [if_neg c16] at H
                        have c16b0 : decide (0 < x5_1) = false := decide_eq_false c16
                        clear c16
                        obtain rfl := Option.some.inj H
                        have p5 : 0 ≤ (x5_1 : Int) := of_decide_eq_true (by first | (with_reducible assumption) | assumption)
                        have q5 : x5_1 < (a0.size : Int) := of_decide_eq_true (by first | (with_reducible assumption) | assumption)
                        have hx5 := bt_at a0 x5_1
                        replace p5 := eq_true p5
                        replace q5 := eq_true q5
                        go_wp2
                        go_ret
                        exact ⟨by first | rfl | (simp; done) | (simp [*]; done) | (generalize ByteArray.toList _ = l_; cases l_ <;> rfl), by repeat (first | exact Drawn0.refl _ | apply Drawn0.step)⟩
              · rw [if_neg c8] at H
                have c8b0 : decide (65 ≤ (bt a0 x5_1)) = false := decide_eq_false c8
                clear c8
                by_cases c19 : (bt a0 x5_1) = 95
                · rw [if_pos c19] at H
                  have c19b0 : ((bt a0 x5_1) == 95) = true := beq_iff_eq.mpr c19
                  have c19b1 : ((bt a0 x5_1) != 95) = false := bne_eq_false_iff_eq.mpr c19
                  clear c19
                  have H' := Aside0.mk H
                  clear H
                  have p5 : 0 ≤ (x5_1 : Int) := of_decide_eq_true (by first | (with_reducible assumption) | assumption)
                  have q5 : x5_1 < (a0.size : Int) := of_decide_eq_true (by first | (with_reducible assumption) | assumption)
                  have hx5 := bt_at a0 x5_1
                  replace p5 := eq_true p5
                  replace q5 := eq_true q5
                  go_wp2
                  go_roundg k1
                  case measure => have := HK1.out; omega
                  case rel => exact ⟨(wrap64 (x5_1 + 1)), (by first | rfl | (simp; done) | (simp [*]; done)), H', ⟨by have := HK1.out; omega⟩, by repeat (first | exact Drawn0.refl _ | apply Drawn0.step)⟩
                · rw [if_neg c19] at H
                  have c19b0 : ((bt a0 x5_1) == 95) = false := beq_eq_false_iff_ne.mpr c19
                  have c19b1 : ((bt a0 x5_1) != 95) = true := bne_iff_ne.mpr c19
                  by_cases c20 : (bt a0 x5_1) = 58
                  · rw [if_pos c20] at H
                    have c20b0 : ((bt a0 x5_1) == 58) = true := beq_iff_eq.mpr c20
                    have c20b1 : ((bt a0 x5_1) != 58) = false := bne_eq_false_iff_eq.mpr c20
                    clear c20
                    by_cases c21 : a1 = true
                    · subst c21
                      have H1 : (laws_legacy.l0 k1 a0 true (wrap64 (x5_1 + 1))) = some r := by rw [if_pos rfl] at H; exact H
                      clear H
                      have H := H1
                      clear H1
                      have H' := Aside0.mk H
                      clear H
                      have p5 : 0 ≤ (x5_1 : Int) := of_decide_eq_true (by first | (with_reducible assumption) | assumption)
                      have q5 : x5_1 < (a0.size : Int) := of_decide_eq_true (by first | (with_reducible assumption) | assumption)
                      have hx5 := bt_at a0 x5_1
                      replace p5 := eq_true p5
                      replace q5 := eq_true q5
                      go_wp2
                      go_roundg k1
                      case measure => have := HK1.out; omega
                      case rel => exact ⟨(wrap64 (x5_1 + 1)), (by first | rfl | (simp; done) | (simp [*]; done)), H', ⟨by have := HK1.out; omega⟩, by repeat (first | exact Drawn0.refl _ | apply Drawn0.step)⟩
                    · replace c21 := Bool.eq_false_iff.mpr c21
                      subst c21
                      have H1 : (if x5_1 > 0 then (if (bt a0 x5_1) ≥ 48 then (if (bt a0 x5_1) ≤ 57 then (laws_legacy.l0 k1 a0 false (wrap64 (x5_1 + 1))) else (some false)) else (some false)) else (some false)) = some r := by rw [if_neg (show ¬ (false = true) by decide)] at H; exact H
                      clear H
                      have H := H1
                      clear H1
                      by_cases c22 : x5_1 > 0
                      · rw [if_pos c22] at H
                        have c22b0 : decide (0 < x5_1) = true := decide_eq_true c22
                        clear c22
                        by_cases c23 : (bt a0 x5_1) ≥ 48
                        · rw [if_pos c23] at H
                          have c23b0 : decide (48 ≤ (bt a0 x5_1)) = true := decide_eq_true c23
                          clear c23
                          by_cases c24 : (bt a0 x5_1) ≤ 57
                          · rw [if_pos c24] at H
                            have c24b0 : decide ((bt a0 x5_1) ≤ 57) = true := decide_eq_true c24
                            clear c24
                            have H' := Aside0.mk H
                            clear H
                            have p5 : 0 ≤ (x5_1 : Int) := of_decide_eq_true (by first | (with_reducible assumption) | assumption)
                            have q5 : x5_1 < (a0.size : Int) := of_decide_eq_true (by first | (with_reducible assumption) | assumption)
                            have hx5 := bt_at a0 x5_1
                            replace p5 := eq_true p5
                            replace q5 := eq_true q5
                            go_wp2
                            go_roundg k1
                            case measure => have := HK1.out; omega
                            case rel => exact ⟨(wrap64 (x5_1 + 1)), (by first | rfl | (simp; done) | (simp [*]; done)), H', ⟨by have := HK1.out; omega⟩, by repeat (first | exact Drawn0.refl _ | apply Drawn0.step)⟩
                          · rw [if_neg c24] at H
                            have c24b0 : decide ((bt a0 x5_1) ≤ 57) = false := decide_eq_false c24
                            clear c24
                            obtain rfl := Option.some.inj H
                            have p5 : 0 ≤ (x5_1 : Int) := of_decide_eq_true (by first | (with_reducible assumption) | assumption)
                            have q5 : x5_1 < (a0.size : Int) := of_decide_eq_true (by first | (with_reducible assumption) | assumption)
                            have hx5 := bt_at a0 x5_1
                            replace p5 := eq_true p5
                            replace q5 := eq_true q5
                            go_wp2
                            go_ret
                            exact ⟨by first | rfl | (simp; done) | (simp [*]; done) | (generalize ByteArray.toList _ = l_; cases l_ <;> rfl), by repeat (first | exact Drawn0.refl _ | apply Drawn0.step)⟩
                        · rw [if_neg c23] at H
                          have c23b0 : decide (48 ≤ (bt a0 x5_1)) = false := decide_eq_false c23
                          clear c23
                          obtain rfl := Option.some.inj H
                          have p5 : 0 ≤ (x5_1 : Int) := of_decide_eq_true (by first | (with_reducible assumption) | assumption)
                          have q5 : x5_1 < (a0.size : Int) := of_decide_eq_true (by first | (with_reducible assumption) | assumption)
                          have hx5 := bt_at a0 x5_1
                          replace p5 := eq_true p5
                          replace q5 := eq_true q5
                          go_wp2
                          go_ret
                          exact ⟨by first | rfl | (simp; done) | (simp [*]; done) | (generalize ByteArray.toList _ = l_; cases l_ <;> rfl), by repeat (first | exact Drawn0.refl _ | apply Drawn0.step)⟩
                      · rw [if_neg c22] at H
                        have c22b0 : decide (0 < x5_1) = false := decide_eq_false c22
                        clear c22
                        obtain rfl := Option.some.inj H
                        have p5 : 0 ≤ (x5_1 : Int) := of_decide_eq_true (by first | (with_reducible assumption) | assumption)
                        have q5 : x5_1 < (a0.size : Int) := of_decide_eq_true (by first | (with_reducible assumption) | assumption)
                        have hx5 := bt_at a0 x5_1
                        replace p5 := eq_true p5
                        replace q5 := eq_true q5
                        go_wp2
                        go_ret
                        exact ⟨by first | rfl | (simp; done) | (simp [*]; done) | (generalize ByteArray.toList _ = l_; cases l_ <;> rfl), by repeat (first | exact Drawn0.refl _ | apply Drawn0.step)⟩
                  · rw [if_neg c20] at H
                    have c20b0 : ((bt a0 x5_1) == 58) = false := beq_eq_false_iff_ne.mpr c20
                    have c20b1 : ((bt a0 x5_1) != 58) = true := bne_iff_ne.mpr c20
                    by_cases c25 : x5_1 > 0
                    · rw [if_pos c25] at H
                      have c25b0 : decide (0 < x5_1) = true := decide_eq_true c25
                      clear c25
                      by_cases c26 : (bt a0 x5_1) ≥ 48
                      · rw [if_pos c26] at H
                        have c26b0 : decide (48 ≤ (bt a0 x5_1)) = true := decide_eq_true c26
                        clear c26
                        by_cases c27 : (bt a0 x5_1) ≤ 57
                        · rw [if_pos c27] at H
                          have c27b0 : decide ((bt a0 x5_1) ≤ 57) = true := decide_eq_true c27
                          clear c27
                          have H' := Aside0.mk H
                          clear H
                          have p5 : 0 ≤ (x5_1 : Int) := of_decide_eq_true (by first | (with_reducible assumption) | assumption)
                          have q5 : x5_1 < (a0.size : Int) := of_decide_eq_true (by first | (with_reducible assumption) | assumption)
                          have hx5 := bt_at a0 x5_1
                          replace p5 := eq_true p5
                          replace q5 := eq_true q5
                          go_wp2
                          go_roundg k1
                          case measure => have := HK1.out; omega
                          case rel => exact ⟨(wrap64 (x5_1 + 1)), (by first | rfl | (simp; done) | (simp [*]; done)), H', ⟨by have := HK1.out; omega⟩, by repeat (first | exact Drawn0.refl _ | apply Drawn0.step)⟩
                        · rw [if_neg c27] at H
                          have c27b0 : decide ((bt a0 x5_1) ≤ 57) = false := decide_eq_false c27
                          clear c27
                          obtain rfl := Option.some.inj H
                          have p5 : 0 ≤ (x5_1 : Int) := of_decide_eq_true (by first | (with_reducible assumption) | assumption)
                          have q5 : x5_1 < (a0.size : Int) := of_decide_eq_true (by first | (with_reducible assumption) | assumption)
                          have hx5 := bt_at a0 x5_1
                          replace p5 := eq_true p5
                          replace q5 := eq_true q5
                          go_wp2
                          go_ret
                          exact ⟨by first | rfl | (simp; done) | (simp [*]; done) | (generalize ByteArray.toList _ = l_; cases l_ <;> rfl), by repeat (first | exact Drawn0.refl _ | apply Drawn0.step)⟩
                      · rw [if_neg c26] at H
                        have c26b0 : decide (48 ≤ (bt a0 x5_1)) = false := decide_eq_false c26
                        clear c26
                        obtain rfl := Option.some.inj H
                        have p5 : 0 ≤ (x5_1 : Int) := of_decide_eq_true (by first | (with_reducible assumption) | assumption)
                        have q5 : x5_1 < (a0.size : Int) := of_decide_eq_true (by first | (with_reducible assumption) | assumption)
                        have hx5 := bt_at a0 x5_1
                        replace p5 := eq_true p5
                        replace q5 := eq_true q5
                        go_wp2
                        go_ret
                        exact ⟨by first | rfl | (simp; done) | (simp [*]; done) | (generalize ByteArray.toList _ = l_; cases l_ <;> rfl), by repeat (first | exact Drawn0.refl _ | apply Drawn0.step)⟩
                    · rw [if_neg c25] at H
                      have c25b0 : decide (0 < x5_1) = false := decide_eq_false c25
                      clear c25
                      obtain rfl := Option.some.inj H
                      have p5 : 0 ≤ (x5_1 : Int) := of_decide_eq_true (by first | (with_reducible assumption) | assumption)
                      have q5 : x5_1 < (a0.size : Int) := of_decide_eq_true (by first | (with_reducible assumption) | assumption)
                      have hx5 := bt_at a0 x5_1
                      replace p5 := eq_true p5
                      replace q5 := eq_true q5
                      go_wp2
                      go_ret
                      exact ⟨by first | rfl | (simp; done) | (simp [*]; done) | (generalize ByteArray.toList _ = l_; cases l_ <;> rfl), by repeat (first | exact Drawn0.refl _ | apply Drawn0.step)⟩
          · rw [if_neg c6] at H
            have c6b0 : decide (97 ≤ (bt a0 x5_1)) = false := decide_eq_false c6
            clear c6
            by_cases c28 : (bt a0 x5_1) ≥ 65
            · rw [if_pos c28] at H
              have c28b0 : decide (65 ≤ (bt a0 x5_1)) = true := decide_eq_true c28
              clear c28
              by_cases c29 : (bt a0 x5_1) ≤ 90
              · rw [if_pos c29] at H
                have c29b0 : decide ((bt a0 x5_1) ≤ 90) = true := decide_eq_true c29
                clear c29
                have H' := Aside0.mk H
                clear H
                have p5 : 0 ≤ (x5_1 : Int) := of_decide_eq_true (by first | (with_reducible assumption) | assumption)
                have q5 : x5_1 < (a0.size : Int) := of_decide_eq_true (by first | (with_reducible assumption) | assumption)
                have hx5 := bt_at a0 x5_1
                replace p5 := eq_true p5
                replace q5 := eq_true q5
                go_wp2
                go_roundg k1
                case measure => have := HK1.out; omega
                case rel => exact ⟨(wrap64 (x5_1 + 1)), (by first | rfl | (simp; done) | (simp [*]; done)), H', ⟨by have := HK1.out; omega⟩, by repeat (first | exact Drawn0.refl _ | apply Drawn0.step)⟩
              · rw [if_neg c29] at H
                have c29b0 : decide ((bt a0 x5_1) ≤ 90) = false := decide_eq_false c29
                clear c29
                by_cases c30 : (bt a0 x5_1) = 95
                · rw [if_pos c30] at H
                  have c30b0 : ((bt a0 x5_1) == 95) = true := beq_iff_eq.mpr c30
                  have c30b1 : ((bt a0 x5_1) != 95) = false := bne_eq_false_iff_eq.mpr c30
                  clear c30
                  have H' := Aside0.mk H
                  clear H
                  have p5 : 0 ≤ (x5_1 : Int) := of_decide_eq_true (by first | (with_reducible assumption) | assumption)
                  have q5 : x5_1 < (a0.size : Int) := of_decide_eq_true (by first | (with_reducible assumption) | assumption)
                  have hx5 := bt_at a0 x5_1
                  replace p5 := eq_true p5
                  replace q5 := eq_true q5
                  go_wp2
                  go_roundg k1
                  case measure => have := HK1.out; omega
                  case rel => exact ⟨(wrap64 (x5_1 + 1)), (by first | rfl | (simp; done) | (simp [*]; done)), H', ⟨by have := HK1.out; omega⟩, by repeat (first | exact Drawn0.refl _ | apply Drawn0.step)⟩
                · rw [if_neg c30] at H
                  have c30b0 : ((bt a0 x5_1) == 95) = false := beq_eq_false_iff_ne.mpr c30
                  have c30b1 : ((bt a0 x5_1) != 95) = true := bne_iff_ne.mpr c30
                  by_cases c31 : (bt a0 x5_1) = 58
                  · rw [if_pos c31] at H
                    have c31b0 : ((bt a0 x5_1) == 58) = true := beq_iff_eq.mpr c31
                    have c31b1 : ((bt a0 x5_1) != 58) = false := bne_eq_false_iff_eq.mpr c31
                    clear c31
                    by_cases c32 : a1 = true
                    · subst c32
                      have H1 : (laws_legacy.l0 k1 a0 true (wrap64 (x5_1 + 1))) = some r := by rw [if_pos rfl] at H; exact H
                      clear H
                      have H := H1
                      clear H1
                      have H' := Aside0.mk H
                      clear H
                      have p5 : 0 ≤ (x5_1 : Int) := of_decide_eq_true (by first | (with_reducible assumption) | assumption)
                      have q5 : x5_1 < (a0.size : Int) := of_decide_eq_true (by first | (with_reducible assumption) | assumption)
                      have hx5 := bt_at a0 x5_1
                      replace p5 := eq_true p5
                      replace q5 := eq_true q5
                      go_wp2
                      go_roundg k1
                      case measure => have := HK1.out; omega
                      case rel => exact ⟨(wrap64 (x5_1 + 1)), (by first | rfl | (simp; done) | (simp [*]; done)), H', ⟨by have := HK1.out; omega⟩, by repeat (first | exact Drawn0.refl _ | apply Drawn0.step)⟩
                    · replace c32 := Bool.eq_false_iff.mpr c32
                      subst c32
                      have H1 : (if x5_1 > 0 then (if (bt a0 x5_1) ≥ 48 then (if (bt a0 x5_1) ≤ 57 then (laws_legacy.l0 k1 a0 false (wrap64 (x5_1 + 1))) else (some false)) else (some false)) else (some false)) = some r := by rw [if_neg (show ¬ (false = true) by decide)] at H; exact H
                      clear H
                      have H := H1
                      clear H1
                      by_cases c33 : x5_1 > 0
                      · rw [if_pos c33] at H
                        have c33b0 : decide (0 < x5_1) = true := decide_eq_true c33
                        clear c33
                        by_cases c34 : (bt a0 x5_1) ≥ 48
                        · rw [if_pos c34] at H
                          have c34b0 : decide (48 ≤ (bt a0 x5_1)) = true := decide_eq_true c34
                          clear c34
                          by_cases c35 : (bt a0 x5_1) ≤ 57
                          · rw [if_pos c35] at H
                            have c35b0 : decide ((bt a0 x5_1) ≤ 57) = true := decide_eq_true c35
                            clear c35
                            have H' := Aside0.mk H
                            clear H
                            have p5 : 0 ≤ (x5_1 : Int) := of_decide_eq_true (by first | (with_reducible assumption) | assumption)
                            have q5 : x5_1 < (a0.size : Int) := of_decide_eq_true (by first | (with_reducible assumption) | assumption)
                            have hx5 := bt_at a0 x5_1
                            replace p5 := eq_true p5
                            replace q5 := eq_true q5
                            go_wp2
                            go_roundg k1
                            case measure => have := HK1.out; omega
                            case rel => exact ⟨(wrap64 (x5_1 + 1)), (by first | rfl | (simp; done) | (simp [*]; done)), H', ⟨by have := HK1.out; omega⟩, by repeat (first | exact Drawn0.refl _ | apply Drawn0.step)⟩
                          · rw [if_neg c35] at H
                            have c35b0 : decide ((bt a0 x5_1) ≤ 57) = false := decide_eq_false c35
                            clear c35
                            obtain rfl := Option.some.inj H
                            have p5 : 0 ≤ (x5_1 : Int) := of_decide_eq_true (by first | (with_reducible assumption) | assumption)
                            have q5 : x5_1 < (a0.size : Int) := of_decide_eq_true (by first | (with_reducible assumption) | assumption)
                            have hx5 := bt_at a0 x5_1
                            replace p5 := eq_true p5
                            replace q5 := eq_true q5
                            go_wp2
                            go_ret
                            exact ⟨by first | rfl | (simp; done) | (simp [*]; done) | (generalize ByteArray.toList _ = l_; cases l_ <;> rfl), by repeat (first | exact Drawn0.refl _ | apply Drawn0.step)⟩
                        · rw [if_neg c34] at H
                          have c34b0 : decide (48 ≤ (bt a0 x5_1)) = false := decide_eq_false c34
                          clear c34
                          obtain rfl := Option.some.inj H
                          have p5 : 0 ≤ (x5_1 : Int) := of_decide_eq_true (by first | (with_reducible assumption) | assumption)
                          have q5 : x5_1 < (a0.size : Int) := of_decide_eq_true (by first | (with_reducible assumption) | assumption)
                          have hx5 := bt_at a0 x5_1
                          replace p5 := eq_true p5
                          replace q5 := eq_true q5
                          go_wp2
                          go_ret
                          exact ⟨by first | rfl | (simp; done) | (simp [*]; done) | (generalize ByteArray.toList _ = l_; cases l_ <;> rfl), by repeat (first | exact Drawn0.refl _ | apply Drawn0.step)⟩
                      · rw [if_neg c33] at H
                        have c33b0 : decide (0 < x5_1) = false := decide_eq_false c33
                        clear c33
                        obtain rfl := Option.some.inj H
                        have p5 : 0 ≤ (x5_1 : Int) := of_decide_eq_true (by first | (with_reducible assumption) | assumption)
                        have q5 : x5_1 < (a0.size : Int) := of_decide_eq_true (by first | (with_reducible assumption) | assumption)
                        have hx5 := bt_at a0 x5_1
                        replace p5 := eq_true p5
                        replace q5 := eq_true q5
                        go_wp2
                        go_ret
                        exact ⟨by first | rfl | (simp; done) | (simp [*]; done) | (generalize ByteArray.toList _ = l_; cases l_ <;> rfl), by repeat (first | exact Drawn0.refl _ | apply Drawn0.step)⟩
                  · rw [if_neg c31] at H
                    have c31b0 : ((bt a0 x5_1) == 58) = false := beq_eq_false_iff_ne.mpr c31
                    have c31b1 : ((bt a0 x5_1) != 58) = true := bne_iff_ne.mpr c31
                    by_cases c36 : x5_1 > 0
                    · rw [if_pos c36] at H
                      have c36b0 : decide (0 < x5_1) = true := decide_eq_true c36
                      clear c36
                      by_cases c37 : (bt a0 x5_1) ≥ 48
                      · rw [if_pos c37] at H
                        have c37b0 : decide (48 ≤ (bt a0 x5_1)) = true := decide_eq_true c37
                        clear c37
                        by_cases c38 : (bt a0 x5_1) ≤ 57
                        · rw [if_pos c38] at H
                          have c38b0 : decide ((bt a0 x5_1) ≤ 57) = true := decide_eq_true c38
                          clear c38
                          have H' := Aside0.mk H
                          clear H
                          have p5 : 0 ≤ (x5_1 : Int) := of_decide_eq_true (by first | (with_reducible assumption) | assumption)
                          have q5 : x5_1 < (a0.size : Int) := of_decide_eq_true (by first | (with_reducible assumption) | assumption)
                          have hx5 := bt_at a0 x5_1
                          replace p5 := eq_true p5
                          replace q5 := eq_true q5
                          go_wp2
                          go_roundg k1
                          case measure => have := HK1.out; omega
                          case rel => exact ⟨(wrap64 (x5_1 + 1)), (by first | rfl | (simp; done) | (simp [*]; done)), H', ⟨by have := HK1.out; omega⟩, by repeat (first | exact Drawn0.refl _ | apply Drawn0.step)⟩
                        · rw [if_neg c38] at H
                          have c38b0 : decide ((bt a0 x5_1) ≤ 57) = false := decide_eq_false c38
                          clear c38
                          obtain rfl := Option.some.inj H
                          have p5 : 0 ≤ (x5_1 : Int) := of_decide_eq_true (by first | (with_reducible assumption) | assumption)
                          have q5 : x5_1 < (a0.size : Int) := of_decide_eq_true (by first | (with_reducible assumption) | assumption)
                          have hx5 := bt_at a0 x5_1
                          replace p5 := eq_true p5
                          replace q5 := eq_true q5
                          go_wp2
                          go_ret
                          exact ⟨by first | rfl | (simp; done) | (simp [*]; done) | (generalize ByteArray.toList _ = l_; cases l_ <;> rfl), by repeat (first | exact Drawn0.refl _ | apply Drawn0.step)⟩
                      · rw [if_neg c37] at H
                        have c37b0 : decide (48 ≤ (bt a0 x5_1)) = false := decide_eq_false c37
                        clear c37
                        obtain rfl := Option.some.inj H
                        have p5 : 0 ≤ (x5_1 : Int) := of_decide_eq_true (by first | (with_reducible assumption) | assumption)
                        have q5 : x5_1 < (a0.size : Int) := of_decide_eq_true (by first | (with_reducible assumption) | assumption)
                        have hx5 := bt_at a0 x5_1
                        replace p5 := eq_true p5
                        replace q5 := eq_true q5
                        go_wp2
                        go_ret
                        exact ⟨by first | rfl | (simp; done) | (simp [*]; done) | (generalize ByteArray.toList _ = l_; cases l_ <;> rfl), by repeat (first | exact Drawn0.refl _ | apply Drawn0.step)⟩
                    · rw [if_neg c36] at H
                      have c36b0 : decide (0 < x5_1) = false := decide_eq_false c36
                      clear c36
                      obtain rfl := Option.some.inj H
                      have p5 : 0 ≤ (x5_1 : Int) := of_decide_eq_true (by first | (with_reducible assumption) | assumption)
                      have q5 : x5_1 < (a0.size : Int) := of_decide_eq_true (by first | (with_reducible assumption) | assumption)
                      have hx5 := bt_at a0 x5_1
                      replace p5 := eq_true p5
                      replace q5 := eq_true q5
                      go_wp2
                      go_ret
                      exact ⟨by first | rfl | (simp; done) | (simp [*]; done) | (generalize ByteArray.toList _ = l_; cases l_ <;> rfl), by repeat (first | exact Drawn0.refl _ | apply Drawn0.step)⟩
            · rw [if_neg c28] at H
              have c28b0 : decide (65 ≤ (bt a0 x5_1)) = false := decide_eq_false c28
              clear c28
              by_cases c39 : (bt a0 x5_1) = 95
              · rw [if_pos c39] at H
                have c39b0 : ((bt a0 x5_1) == 95) = true := beq_iff_eq.mpr c39
                have c39b1 : ((bt a0 x5_1) != 95) = false := bne_eq_false_iff_eq.mpr c39
                clear c39
                have H' := Aside0.mk H
                clear H
                have p5 : 0 ≤ (x5_1 : Int) := of_decide_eq_true (by first | (with_reducible assumption) | assumption)
                have q5 : x5_1 < (a0.size : Int) := of_decide_eq_true (by first | (with_reducible assumption) | assumption)
                have hx5 := bt_at a0 x5_1
                replace p5 := eq_true p5
                replace q5 := eq_true q5
                go_wp2
                go_roundg k1
                case measure => have := HK1.out; omega
                case rel => exact ⟨(wrap64 (x5_1 + 1)), (by first | rfl | (simp; done) | (simp [*]; done)), H', ⟨by have := HK1.out; omega⟩, by repeat (first | exact Drawn0.refl _ | apply Drawn0.step)⟩
              · rw [if_neg c39] at H
                have c39b0 : ((bt a0 x5_1) == 95) = false := beq_eq_false_iff_ne.mpr c39
                have c39b1 : ((bt a0 x5_1) != 95) = true := bne_iff_ne.mpr c39
                by_cases c40 : (bt a0 x5_1) = 58
                · rw [if_pos c40] at H
                  have c40b0 : ((bt a0 x5_1) == 58) = true := beq_iff_eq.mpr c40
                  have c40b1 : ((bt a0 x5_1) != 58) = false := bne_eq_false_iff_eq.mpr c40
                  clear c40
                  by_cases c41 : a1 = true
                  · subst c41
                    have H1 : (laws_legacy.l0 k1 a0 true (wrap64 (x5_1 + 1))) = some r := by rw [if_pos rfl] at H; exact H
                    clear H
                    have H := H1
                    clear H1
                    have H' := Aside0.mk H
                    clear H
                    have p5 : 0 ≤ (x5_1 : Int) := of_decide_eq_true (by first | (with_reducible assumption) | assumption)
                    have q5 : x5_1 < (a0.size : Int) := of_decide_eq_true (by first | (with_reducible assumption) | assumption)
                    have hx5 := bt_at a0 x5_1
                    replace p5 := eq_true p5
                    replace q5 := eq_true q5
                    go_wp2
                    go_roundg k1
                    case measure => have := HK1.out; omega
                    case rel => exact ⟨(wrap64 (x5_1 + 1)), (by first | rfl | (simp; done) | (simp [*]; done)), H', ⟨by have := HK1.out; omega⟩, by repeat (first | exact Drawn0.refl _ | apply Drawn0.step)⟩
                  · replace c41 := Bool.eq_false_iff.mpr c41
                    subst c41
                    have H1 : (if x5_1 > 0 then (if (bt a0 x5_1) ≥ 48 then (if (bt a0 x5_1) ≤ 57 then (laws_legacy.l0 k1 a0 false (wrap64 (x5_1 + 1))) else (some false)) else (some false)) else (some false)) = some r := by rw [if_neg (show ¬ (false = true) by decide)] at H; exact H
                    clear H
                    have H := H1
                    clear H1
                    by_cases c42 : x5_1 > 0
                    · rw [if_pos c42] at H
                      have c42b0 : decide (0 < x5_1) = true := decide_eq_true c42
                      clear c42
                      by_cases c43 : (bt a0 x5_1) ≥ 48
                      · rw [if_pos c43] at H
                        have c43b0 : decide (48 ≤ (bt a0 x5_1)) = true := decide_eq_true c43
                        clear c43
                        by_cases c44 : (bt a0 x5_1) ≤ 57
                        · rw [if_pos c44] at H
                          have c44b0 : decide ((bt a0 x5_1) ≤ 57) = true := decide_eq_true c44
                          clear c44
                          have H' := Aside0.mk H
                          clear H
                          have p5 : 0 ≤ (x5_1 : Int) := of_decide_eq_true (by first | (with_reducible assumption) | assumption)
                          have q5 : x5_1 < (a0.size : Int) := of_decide_eq_true (by first | (with_reducible assumption) | assumption)
                          have hx5 := bt_at a0 x5_1
                          replace p5 := eq_true p5
                          replace q5 := eq_true q5
                          go_wp2
                          go_roundg k1
                          case measure => have := HK1.out; omega
                          case rel => exact ⟨(wrap64 (x5_1 + 1)), (by first | rfl | (simp; done) | (simp [*]; done)), H', ⟨by have := HK1.out; omega⟩, by repeat (first | exact Drawn0.refl _ | apply Drawn0.step)⟩
                        · rw [if_neg c44] at H
                          have c44b0 : decide ((bt a0 x5_1) ≤ 57) = false := decide_eq_false c44
                          clear c44
                          obtain rfl := Option.some.inj H
                          have p5 : 0 ≤ (x5_1 : Int) := of_decide_eq_true (by first | (with_reducible assumption) | assumption)
                          have q5 : x5_1 < (a0.size : Int) := of_decide_eq_true (by first | (with_reducible assumption) | assumption)
                          have hx5 := bt_at a0 x5_1
                          replace p5 := eq_true p5
                          replace q5 := eq_true q5
                          go_wp2
                          go_ret
                          exact ⟨by first | rfl | (simp; done) | (simp [*]; done) | (generalize ByteArray.toList _ = l_; cases l_ <;> rfl), by repeat (first | exact Drawn0.refl _ | apply Drawn0.step)⟩
                      · rw [if_neg c43] at H
                        have c43b0 : decide (48 ≤ (bt a0 x5_1)) = false := decide_eq_false c43
                        clear c43
                        obtain rfl := Option.some.inj H
                        have p5 : 0 ≤ (x5_1 : Int) := of_decide_eq_true (by first | (with_reducible assumption) | assumption)
                        have q5 : x5_1 < (a0.size : Int) := of_decide_eq_true (by first | (with_reducible assumption) | assumption)
                        have hx5 := bt_at a0 x5_1
                        replace p5 := eq_true p5
                        replace q5 := eq_true q5
                        go_wp2
                        go_ret
                        exact ⟨by first | rfl | (simp; done) | (simp [*]; done) | (generalize ByteArray.toList _ = l_; cases l_ <;> rfl), by repeat (first | exact Drawn0.refl _ | apply Drawn0.step)⟩
                    · rw [if_neg c42] at H
                      have c42b0 : decide (0 < x5_1) = false := decide_eq_false c42
                      clear c42
                      obtain rfl := Option.some.inj H
                      have p5 : 0 ≤ (x5_1 : Int) := of_decide_eq_true (by first | (with_reducible assumption) | assumption)
                      have q5 : x5_1 < (a0.size : Int) := of_decide_eq_true (by first | (with_reducible assumption) | assumption)
                      have hx5 := bt_at a0 x5_1
                      replace p5 := eq_true p5
                      replace q5 := eq_true q5
                      go_wp2
                      go_ret
                      exact ⟨by first | rfl | (simp; done) | (simp [*]; done) | (generalize ByteArray.toList _ = l_; cases l_ <;> rfl), by repeat (first | exact Drawn0.refl _ | apply Drawn0.step)⟩
                · rw [if_neg c40] at H
                  have c40b0 : ((bt a0 x5_1) == 58) = false := beq_eq_false_iff_ne.mpr c40
                  have c40b1 : ((bt a0 x5_1) != 58) = true := bne_iff_ne.mpr c40
                  by_cases c45 : x5_1 > 0
                  · rw [if_pos c45] at H
                    have c45b0 : decide (0 < x5_1) = true := decide_eq_true c45
                    clear c45
                    by_cases c46 : (bt a0 x5_1) ≥ 48
                    · rw [if_pos c46] at H
                      have c46b0 : decide (48 ≤ (bt a0 x5_1)) = true := decide_eq_true c46
                      clear c46
                      by_cases c47 : (bt a0 x5_1) ≤ 57
                      · rw [if_pos c47] at H
                        have c47b0 : decide ((bt a0 x5_1) ≤ 57) = true := decide_eq_true c47
                        clear c47
                        have H' := Aside0.mk H
                        clear H
                        have p5 : 0 ≤ (x5_1 : Int) := of_decide_eq_true (by first | (with_reducible assumption) | assumption)
                        have q5 : x5_1 < (a0.size : Int) := of_decide_eq_true (by first | (with_reducible assumption) | assumption)
                        have hx5 := bt_at a0 x5_1
                        replace p5 := eq_true p5
                        replace q5 := eq_true q5
                        go_wp2
                        go_roundg k1
                        case measure => have := HK1.out; omega
                        case rel => exact ⟨(wrap64 (x5_1 + 1)), (by first | rfl | (simp; done) | (simp [*]; done)), H', ⟨by have := HK1.out; omega⟩, by repeat (first | exact Drawn0.refl _ | apply Drawn0.step)⟩
                      · rw [if_neg c47] at H
                        have c47b0 : decide ((bt a0 x5_1) ≤ 57) = false := decide_eq_false c47
                        clear c47
                        obtain rfl := Option.some.inj H
                        have p5 : 0 ≤ (x5_1 : Int) := of_decide_eq_true (by first | (with_reducible assumption) | assumption)
                        have q5 : x5_1 < (a0.size : Int) := of_decide_eq_true (by first | (with_reducible assumption) | assumption)
                        have hx5 := bt_at a0 x5_1
                        replace p5 := eq_true p5
                        replace q5 := eq_true q5
                        go_wp2
                        go_ret
                        exact ⟨by first | rfl | (simp; done) | (simp [*]; done) | (generalize ByteArray.toList _ = l_; cases l_ <;> rfl), by repeat (first | exact Drawn0.refl _ | apply Drawn0.step)⟩
                    · rw [if_neg c46] at H
                      have c46b0 : decide (48 ≤ (bt a0 x5_1)) = false := decide_eq_false c46
                      clear c46
                      obtain rfl := Option.some.inj H
                      have p5 : 0 ≤ (x5_1 : Int) := of_decide_eq_true (by first | (with_reducible assumption) | assumption)
                      have q5 : x5_1 < (a0.size : Int) := of_decide_eq_true (by first | (with_reducible assumption) | assumption)
                      have hx5 := bt_at a0 x5_1
                      replace p5 := eq_true p5
                      replace q5 := eq_true q5
                      go_wp2
                      go_ret
                      exact ⟨by first | rfl | (simp; done) | (simp [*]; done) | (generalize ByteArray.toList _ = l_; cases l_ <;> rfl), by repeat (first | exact Drawn0.refl _ | apply Drawn0.step)⟩
                  · rw [if_neg c45] at H
                    have c45b0 : decide (0 < x5_1) = false := decide_eq_false c45
                    clear c45
                    obtain rfl := Option.some.inj H
                    have p5 : 0 ≤ (x5_1 : Int) := of_decide_eq_true (by first | (with_reducible assumption) | assumption)
                    have q5 : x5_1 < (a0.size : Int) := of_decide_eq_true (by first | (with_reducible assumption) | assumption)
                    have hx5 := bt_at a0 x5_1
                    replace p5 := eq_true p5
                    replace q5 := eq_true q5
                    go_wp2
                    go_ret
                    exact ⟨by first | rfl | (simp; done) | (simp [*]; done) | (generalize ByteArray.toList _ = l_; cases l_ <;> rfl), by repeat (first | exact Drawn0.refl _ | apply Drawn0.step)⟩
        · rw [if_neg c4] at H
          exact absurd H (by simp)
      · rw [if_neg c3] at H
        have c3b0 : decide (x5_1 < (a0.size : Int)) = false := decide_eq_false c3
        clear c3
        obtain rfl := Option.some.inj H
        go_wp2
        go_ret
        exact ⟨by first | rfl | (simp; done) | (simp [*]; done) | (generalize ByteArray.toList _ = l_; cases l_ <;> rfl), by repeat (first | exact Drawn0.refl _ | apply Drawn0.step)⟩

end Go.Proofs.YtenededepjfojaaDoor.Q
