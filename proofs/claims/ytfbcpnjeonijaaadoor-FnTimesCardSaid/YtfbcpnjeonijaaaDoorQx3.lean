-- printed by this project's own program wip/tools/mkprint.py (the kit's print.py with hand-proved contracts put in)
import Derived.Test.YtfbcpnjeonijaaaDoorQx0
namespace Go.Proofs.YtfbcpnjeonijaaaDoor.Q
open Go.RowKit Go.Proofs.YtfbcpnjeonijaaaDoorW.PrintWords Go.Proofs.YtfbcpnjeonijaaaDoorW.PrintLast Go.Proofs.YtfbcpnjeonijaaaDoorW.PrintMore
attribute [local go_sem] max2_int min2_int max_two min_two max_three min_three max_four min_four   -- for this text's walks alone
set_option linter.unusedVariables false
set_option linter.unusedSimpArgs false

/-! ### spec_minute: function 9 -/
mutual
def spec_minute.j0 : Nat → ByteArray → Bool → Option (Int × Int)
  | 0, _, _ => none
  | k + 1, x0, x16 => if x16 = true then (spec_minute.l0 k x0 0) else (spec_minute.l1 k x0 0)
def spec_minute.l0 : Nat → ByteArray → Int → Option (Int × Int)
  | 0, _, _ => none
  | k + 1, x0, x5 => if x5 < 5 then (if x5 = 2 then (spec_minute.l0 k x0 (wrap64 (x5 + 1))) else (if 0 ≤ x5 then (if x5 < (x0.size : Int) then (if (bt x0 x5) < 48 then (some (0, 0)) else (if (bt x0 x5) > 57 then (some (0, 0)) else (spec_minute.l0 k x0 (wrap64 (x5 + 1))))) else (none)) else (none))) else (if 0 < (x0.size : Int) then (if 1 < (x0.size : Int) then (if 3 < (x0.size : Int) then (if 4 < (x0.size : Int) then (if (((((bt x0 3) - 48) % 256) * 10) + (((bt x0 4) - 48) % 256)) > 59 then (some (0, 0)) else (if ((60 * (((((bt x0 0) - 48) % 256) * 10) + (((bt x0 1) - 48) % 256))) + (((((bt x0 3) - 48) % 256) * 10) + (((bt x0 4) - 48) % 256))) > 1440 then (some (0, 0)) else (some ((60 * (((((bt x0 0) - 48) % 256) * 10) + (((bt x0 1) - 48) % 256))) + (((((bt x0 3) - 48) % 256) * 10) + (((bt x0 4) - 48) % 256)), 1)))) else (none)) else (none)) else (none)) else (none))
def spec_minute.l1 : Nat → ByteArray → Int → Option (Int × Int)
  | 0, _, _ => none
  | k + 1, x0, x8 => if x8 < (x0.size : Int) then (if 0 ≤ x8 then (if (bt x0 x8) < 97 then (if (bt x0 x8) < 65 then (some (0, 2)) else (if (bt x0 x8) > 90 then (some (0, 2)) else (spec_minute.l1 k x0 (wrap64 (x8 + 1))))) else (if (bt x0 x8) > 122 then (if (bt x0 x8) < 65 then (some (0, 2)) else (if (bt x0 x8) > 90 then (some (0, 2)) else (spec_minute.l1 k x0 (wrap64 (x8 + 1))))) else (spec_minute.l1 k x0 (wrap64 (x8 + 1))))) else (none)) else (some (0, 0))
end
def spec_minute.f (k : Nat) (a0 : ByteArray) : Option (Int × Int) := if (a0.size : Int) = 5 then (if 2 < (a0.size : Int) then (spec_minute.j0 k a0 ((bt a0 2) == 58)) else (none)) else (spec_minute.j0 k a0 false)
theorem spec_minute.mono_l : ∀ k, (∀ y0 y1, LeO (spec_minute.j0 k y0 y1) (spec_minute.j0 (k + 1) y0 y1)) ∧ (∀ y0 y1, LeO (spec_minute.l0 k y0 y1) (spec_minute.l0 (k + 1) y0 y1)) ∧ (∀ y0 y1, LeO (spec_minute.l1 k y0 y1) (spec_minute.l1 (k + 1) y0 y1))
  | 0 => ⟨fun _ _ r h => by simp [spec_minute.j0] at h, fun _ _ r h => by simp [spec_minute.l0] at h, fun _ _ r h => by simp [spec_minute.l1] at h⟩
  | k + 1 => by
    obtain ⟨ih0, ih1, ih2⟩ := spec_minute.mono_l k
    refine ⟨?_, ?_, ?_⟩
    · intro y0 y1
      unfold spec_minute.j0
      repeat' first
      | (with_reducible exact ih0 _ _)
      | (with_reducible exact ih1 _ _)
      | (with_reducible exact ih2 _ _)
      | (with_reducible exact LeO.refl _)
      | (with_reducible exact LeO.none _)
      | (with_reducible refine LeO.ite ?_ ?_)
      | (with_reducible refine LeO.bind ?_ (fun _ => ?_))
      | exact ih0 _ _
      | exact ih1 _ _
      | exact ih2 _ _
      | exact LeO.none _
      | refine LeO.ite ?_ ?_
      | refine LeO.bind ?_ (fun _ => ?_)
    · intro y0 y1
      unfold spec_minute.l0
      repeat' first
      | (with_reducible exact ih0 _ _)
      | (with_reducible exact ih1 _ _)
      | (with_reducible exact ih2 _ _)
      | (with_reducible exact LeO.refl _)
      | (with_reducible exact LeO.none _)
      | (with_reducible refine LeO.ite ?_ ?_)
      | (with_reducible refine LeO.bind ?_ (fun _ => ?_))
      | exact ih0 _ _
      | exact ih1 _ _
      | exact ih2 _ _
      | exact LeO.none _
      | refine LeO.ite ?_ ?_
      | refine LeO.bind ?_ (fun _ => ?_)
    · intro y0 y1
      unfold spec_minute.l1
      repeat' first
      | (with_reducible exact ih0 _ _)
      | (with_reducible exact ih1 _ _)
      | (with_reducible exact ih2 _ _)
      | (with_reducible exact LeO.refl _)
      | (with_reducible exact LeO.none _)
      | (with_reducible refine LeO.ite ?_ ?_)
      | (with_reducible refine LeO.bind ?_ (fun _ => ?_))
      | exact ih0 _ _
      | exact ih1 _ _
      | exact ih2 _ _
      | exact LeO.none _
      | refine LeO.ite ?_ ?_
      | refine LeO.bind ?_ (fun _ => ?_)
theorem spec_minute.mono : ∀ a0 k, LeO (spec_minute.f k a0) (spec_minute.f (k + 1) a0) := by
  intro a0 k
  obtain ⟨ih0, ih1, ih2⟩ := spec_minute.mono_l k
  unfold spec_minute.f
  repeat' first
      | (with_reducible exact ih0 _ _)
      | (with_reducible exact ih1 _ _)
      | (with_reducible exact ih2 _ _)
      | (with_reducible exact LeO.refl _)
      | (with_reducible exact LeO.none _)
      | (with_reducible refine LeO.ite ?_ ?_)
      | (with_reducible refine LeO.bind ?_ (fun _ => ?_))
      | exact ih0 _ _
      | exact ih1 _ _
      | exact ih2 _ _
      | exact LeO.none _
      | refine LeO.ite ?_ ?_
      | refine LeO.bind ?_ (fun _ => ?_)
set_option maxHeartbeats 8000000 in
set_option maxRecDepth 100000 in
theorem spec_minute.calls (k : Nat) (a0 : ByteArray) (r1 : Int) (r2 : Int) (w : World) (h : spec_minute.f k a0 = some (r1, r2)) :
    Calls Tryd.prog 9 #[.string a0] w fun e w' => e = .returned (.tuple #[.int .i64 r1, .int .i64 r2]) ∧ Drawn0 w w' := by
  have H : (if (a0.size : Int) = 5 then (if 2 < (a0.size : Int) then (spec_minute.j0 k a0 ((bt a0 2) == 58)) else (none)) else (spec_minute.j0 k a0 false)) = some (r1, r2) := h
  clear h
  have HC2 := Aside0.mk H
  clear H
  go_enter Tryd.func9, Tryd.ntmps9
  go_upto_region 1 with (fail)
  repeat (go_quiet (fail); go_upto_region 1 with (fail))
  go_cut [16] (fun v16 wc => ∃ (kq : Nat) (x16_1 : Bool), v16 = .bool x16_1 ∧ Aside0 (spec_minute.j0 kq a0 x16_1 = some (r1, r2)) ∧ Aside0 (kq ≤ k) ∧ Drawn0 w wc)
  case first =>
    have H := HC2.out
    clear HC2
    by_cases c3 : (a0.size : Int) = 5
    · rw [if_pos c3] at H
      have c3b0 : ((a0.size : Int) == 5) = true := beq_iff_eq.mpr c3
      have c3b1 : ((a0.size : Int) != 5) = false := bne_eq_false_iff_eq.mpr c3
      clear c3
      (first | rw [c3b0] | (simp only [i64_w, i32_w]; rw [c3b0]) | skip)
      by_cases c4 : 2 < (a0.size : Int)
      · rw [if_pos c4] at H
        have c4b0 : decide (2 < (a0.size : Int)) = true := decide_eq_true c4
        have c4b1 : decide (2 < a0.size) = true := decide_eq_true (by omega)
        clear c4
        have H' := Aside0.mk H
        clear H
        have p5 : 0 ≤ (2 : Int) := (by omega)
        have q5 : 2 < a0.size := (by have : (2 : Int) < (a0.size : Int) := of_decide_eq_true (by first | (with_reducible assumption) | assumption); omega)
        have hx5 : ∀ h : 2 < a0.size, ((a0[2]'h).toNat : Int) = bt a0 2 := bt_at a0 2
        clear p5
        have qi5 : (2 < (a0.size : Int)) = True := eq_true (of_decide_eq_true (by first | (with_reducible assumption) | assumption))
        replace q5 := eq_true q5
        go_wp2
        repeat (go_quiet (fail); try go_wp2)
        go_meet
        case rel => exact ⟨_, (((bt a0 2) == 58)), (by first | rfl | (simp; done) | (simp [*]; done)), H', ⟨by first | omega | exact Nat.le_refl _⟩, by repeat (first | exact Drawn0.refl _ | apply Drawn0.step)⟩
      · rw [if_neg c4] at H
        exact absurd H (by simp)
    · rw [if_neg c3] at H
      have c3b0 : ((a0.size : Int) == 5) = false := beq_eq_false_iff_ne.mpr c3
      have c3b1 : ((a0.size : Int) != 5) = true := bne_iff_ne.mpr c3
      (first | rw [c3b0] | (simp only [i64_w, i32_w]; rw [c3b0]) | skip)
      have H' := Aside0.mk H
      clear H
      go_wp2
      repeat (go_quiet (fail); try go_wp2)
      go_meet
      case rel => exact ⟨_, (false), (by first | rfl | (simp; done) | (simp [*]; done)), H', ⟨by first | omega | exact Nat.le_refl _⟩, by repeat (first | exact Drawn0.refl _ | apply Drawn0.step)⟩
  case rest =>
    clear HC2
    try clear p2
    try clear c3
    try clear c3b0
    try clear c3b1
    try clear c4
    try clear c4b0
    try clear c4b1
    try clear p5
    try clear q5
    try clear hx5
    try clear qi5
    try clear p5
    try clear q5
    obtain ⟨kq, x16_1, rfl, HA, HJ1, ⟨mc1, rfl⟩⟩ := hcut
    cases kq with
    | zero => exact absurd HA.out (by simp [spec_minute.j0])
    | succ kj1 =>
      have H := HA.out
      clear HA
      simp only [spec_minute.j0] at H
      by_cases c6 : x16_1 = true
      · subst c6
        have H1 : (spec_minute.l0 kj1 a0 0) = some (r1, r2) := by rw [if_pos rfl] at H; exact H
        clear H
        have H := H1
        clear H1
        have H' := Aside0.mk H
        clear H
        go_wp2
        repeat (go_quiet (fail); try go_wp2)
        go_loopg [5] kj1 (fun kq v5 w' => ∃ (x5_2 : Int), v5 = .int .i64 x5_2 ∧ Aside0 (spec_minute.l0 kq a0 x5_2 = some (r1, r2)) ∧ Aside0 (kq ≤ kj1) ∧ Drawn0 w w')
        case atStart => exact ⟨(0), (by first | rfl | (simp; done) | (simp [*]; done)), H', ⟨Nat.le_refl _⟩, by repeat (first | exact Drawn0.refl _ | apply Drawn0.step)⟩
        case round =>
          clear H'
          try clear c1
          try clear p2
          try clear c3
          try clear c3b0
          try clear c3b1
          try clear c4
          try clear c4b0
          try clear c4b1
          try clear p5
          try clear q5
          try clear hx5
          try clear qi5
          try clear c6
          try clear p2
          try clear p5
          try clear q5
          obtain ⟨x5_2, rfl, HA, HK2, ⟨m2, rfl⟩⟩ := hrel
          cases gk with
          | zero => exact absurd HA.out (by simp [spec_minute.l0])
          | succ k2 =>
            have H := HA.out
            clear HA
            simp only [spec_minute.l0] at H
            by_cases c7 : x5_2 < 5
            · rw [if_pos c7] at H
              have c7b0 : decide (x5_2 < 5) = true := decide_eq_true c7
              clear c7
              by_cases c8 : x5_2 = 2
              · rw [if_pos c8] at H
                have c8b0 : (x5_2 == 2) = true := beq_iff_eq.mpr c8
                have c8b1 : (x5_2 != 2) = false := bne_eq_false_iff_eq.mpr c8
                clear c8
                have H' := Aside0.mk H
                clear H
                go_wp2
                repeat (go_quiet (fail); try go_wp2)
                go_roundg k2
                case measure => have := HJ1.out; have := HK2.out; omega
                case rel => exact ⟨(wrap64 (x5_2 + 1)), (by first | rfl | (simp; done) | (simp [*]; done)), H', ⟨by have := HJ1.out; have := HK2.out; omega⟩, by repeat (first | exact Drawn0.refl _ | apply Drawn0.step)⟩
              · rw [if_neg c8] at H
                have c8b0 : (x5_2 == 2) = false := beq_eq_false_iff_ne.mpr c8
                have c8b1 : (x5_2 != 2) = true := bne_iff_ne.mpr c8
                by_cases c9 : 0 ≤ x5_2
                · rw [if_pos c9] at H
                  have c9b0 : decide (0 ≤ x5_2) = true := decide_eq_true c9
                  clear c9
                  by_cases c10 : x5_2 < (a0.size : Int)
                  · rw [if_pos c10] at H
                    have c10b0 : decide (x5_2 < (a0.size : Int)) = true := decide_eq_true c10
                    clear c10
                    by_cases c12 : (bt a0 x5_2) < 48
                    · rw [if_pos c12] at H
                      have c12b0 : decide ((bt a0 x5_2) < 48) = true := decide_eq_true c12
                      clear c12
                      simp only [Option.some.injEq, Prod.mk.injEq] at H
                      obtain ⟨rfl, rfl⟩ := H
                      have p11 : 0 ≤ (x5_2 : Int) := of_decide_eq_true (by first | (with_reducible assumption) | assumption)
                      have q11 : x5_2 < (a0.size : Int) := of_decide_eq_true (by first | (with_reducible assumption) | assumption)
                      have hx11 := bt_at a0 x5_2
                      replace p11 := eq_true p11
                      replace q11 := eq_true q11
                      go_wp2
                      repeat (go_quiet (fail); try go_wp2)
                      go_ret2
                      exact ⟨by first | rfl | (simp; done) | (simp [*]; done), by repeat (first | exact Drawn0.refl _ | apply Drawn0.step)⟩
                    · rw [if_neg c12] at H
                      have c12b0 : decide ((bt a0 x5_2) < 48) = false := decide_eq_false c12
                      clear c12
                      by_cases c14 : (bt a0 x5_2) > 57
                      · rw [if_pos c14] at H
                        have c14b0 : decide (57 < (bt a0 x5_2)) = true := decide_eq_true c14
                        clear c14
                        simp only [Option.some.injEq, Prod.mk.injEq] at H
                        obtain ⟨rfl, rfl⟩ := H
                        have p11 : 0 ≤ (x5_2 : Int) := of_decide_eq_true (by first | (with_reducible assumption) | assumption)
                        have q11 : x5_2 < (a0.size : Int) := of_decide_eq_true (by first | (with_reducible assumption) | assumption)
                        have hx11 := bt_at a0 x5_2
                        replace p11 := eq_true p11
                        replace q11 := eq_true q11
                        have p13 : 0 ≤ (x5_2 : Int) := of_decide_eq_true (by first | (with_reducible assumption) | assumption)
                        have q13 : x5_2 < (a0.size : Int) := of_decide_eq_true (by first | (with_reducible assumption) | assumption)
                        have hx13 := bt_at a0 x5_2
                        replace p13 := eq_true p13
                        replace q13 := eq_true q13
                        go_wp2
                        repeat (go_quiet (fail); try go_wp2)
                        go_ret2
                        exact ⟨by first | rfl | (simp; done) | (simp [*]; done), by repeat (first | exact Drawn0.refl _ | apply Drawn0.step)⟩
                      · rw [if_neg c14] at H
                        have c14b0 : decide (57 < (bt a0 x5_2)) = false := decide_eq_false c14
                        clear c14
                        have H' := Aside0.mk H
                        clear H
                        have p11 : 0 ≤ (x5_2 : Int) := of_decide_eq_true (by first | (with_reducible assumption) | assumption)
                        have q11 : x5_2 < (a0.size : Int) := of_decide_eq_true (by first | (with_reducible assumption) | assumption)
                        have hx11 := bt_at a0 x5_2
                        replace p11 := eq_true p11
                        replace q11 := eq_true q11
                        have p13 : 0 ≤ (x5_2 : Int) := of_decide_eq_true (by first | (with_reducible assumption) | assumption)
                        have q13 : x5_2 < (a0.size : Int) := of_decide_eq_true (by first | (with_reducible assumption) | assumption)
                        have hx13 := bt_at a0 x5_2
                        replace p13 := eq_true p13
                        replace q13 := eq_true q13
                        go_wp2
                        repeat (go_quiet (fail); try go_wp2)
                        go_roundg k2
                        case measure => have := HJ1.out; have := HK2.out; omega
                        case rel => exact ⟨(wrap64 (x5_2 + 1)), (by first | rfl | (simp; done) | (simp [*]; done)), H', ⟨by have := HJ1.out; have := HK2.out; omega⟩, by repeat (first | exact Drawn0.refl _ | apply Drawn0.step)⟩
                  · rw [if_neg c10] at H
                    exact absurd H (by simp)
                · rw [if_neg c9] at H
                  exact absurd H (by simp)
            · rw [if_neg c7] at H
              have c7b0 : decide (x5_2 < 5) = false := decide_eq_false c7
              clear c7
              by_cases c15 : 0 < (a0.size : Int)
              · rw [if_pos c15] at H
                have c15b0 : decide (0 < (a0.size : Int)) = true := decide_eq_true c15
                have c15b1 : decide (0 < a0.size) = true := decide_eq_true (by omega)
                clear c15
                by_cases c17 : 1 < (a0.size : Int)
                · rw [if_pos c17] at H
                  have c17b0 : decide (1 < (a0.size : Int)) = true := decide_eq_true c17
                  have c17b1 : decide (1 < a0.size) = true := decide_eq_true (by omega)
                  clear c17
                  by_cases c19 : 3 < (a0.size : Int)
                  · rw [if_pos c19] at H
                    have c19b0 : decide (3 < (a0.size : Int)) = true := decide_eq_true c19
                    have c19b1 : decide (3 < a0.size) = true := decide_eq_true (by omega)
                    clear c19
                    by_cases c21 : 4 < (a0.size : Int)
                    · rw [if_pos c21] at H
                      have c21b0 : decide (4 < (a0.size : Int)) = true := decide_eq_true c21
                      have c21b1 : decide (4 < a0.size) = true := decide_eq_true (by omega)
                      clear c21
                      by_cases c23 : (((((bt a0 3) - 48) % 256) * 10) + (((bt a0 4) - 48) % 256)) > 59
                      · rw [if_pos c23] at H
                        have c23b0 : decide (59 < (((((bt a0 3) - 48) % 256) * 10) + (((bt a0 4) - 48) % 256))) = true := decide_eq_true c23
                        clear c23
                        simp only [Option.some.injEq, Prod.mk.injEq] at H
                        obtain ⟨rfl, rfl⟩ := H
                        have p16 : 0 ≤ (0 : Int) := (by omega)
                        have q16 : 0 < a0.size := (by have : (0 : Int) < (a0.size : Int) := of_decide_eq_true (by first | (with_reducible assumption) | assumption); omega)
                        have hx16 : ∀ h : 0 < a0.size, ((a0[0]'h).toNat : Int) = bt a0 0 := bt_at a0 0
                        clear p16
                        have qi16 : (0 < (a0.size : Int)) = True := eq_true (of_decide_eq_true (by first | (with_reducible assumption) | assumption))
                        replace q16 := eq_true q16
                        have p18 : 0 ≤ (1 : Int) := (by omega)
                        have q18 : 1 < a0.size := (by have : (1 : Int) < (a0.size : Int) := of_decide_eq_true (by first | (with_reducible assumption) | assumption); omega)
                        have hx18 : ∀ h : 1 < a0.size, ((a0[1]'h).toNat : Int) = bt a0 1 := bt_at a0 1
                        clear p18
                        have qi18 : (1 < (a0.size : Int)) = True := eq_true (of_decide_eq_true (by first | (with_reducible assumption) | assumption))
                        replace q18 := eq_true q18
                        have p20 : 0 ≤ (3 : Int) := (by omega)
                        have q20 : 3 < a0.size := (by have : (3 : Int) < (a0.size : Int) := of_decide_eq_true (by first | (with_reducible assumption) | assumption); omega)
                        have hx20 : ∀ h : 3 < a0.size, ((a0[3]'h).toNat : Int) = bt a0 3 := bt_at a0 3
                        clear p20
                        have qi20 : (3 < (a0.size : Int)) = True := eq_true (of_decide_eq_true (by first | (with_reducible assumption) | assumption))
                        replace q20 := eq_true q20
                        have p22 : 0 ≤ (4 : Int) := (by omega)
                        have q22 : 4 < a0.size := (by have : (4 : Int) < (a0.size : Int) := of_decide_eq_true (by first | (with_reducible assumption) | assumption); omega)
                        have hx22 : ∀ h : 4 < a0.size, ((a0[4]'h).toNat : Int) = bt a0 4 := bt_at a0 4
                        clear p22
                        have qi22 : (4 < (a0.size : Int)) = True := eq_true (of_decide_eq_true (by first | (with_reducible assumption) | assumption))
                        replace q22 := eq_true q22
                        go_wp2
                        repeat (go_quiet (fail); try go_wp2)
                        go_ret2
                        exact ⟨by first | rfl | (simp; done) | (simp [*]; done), by repeat (first | exact Drawn0.refl _ | apply Drawn0.step)⟩
                      · rw [if_neg c23] at H
                        have c23b0 : decide (59 < (((((bt a0 3) - 48) % 256) * 10) + (((bt a0 4) - 48) % 256))) = false := decide_eq_false c23
                        clear c23
                        by_cases c24 : ((60 * (((((bt a0 0) - 48) % 256) * 10) + (((bt a0 1) - 48) % 256))) + (((((bt a0 3) - 48) % 256) * 10) + (((bt a0 4) - 48) % 256))) > 1440
                        · rw [if_pos c24] at H
                          have c24b0 : decide (1440 < ((60 * (((((bt a0 0) - 48) % 256) * 10) + (((bt a0 1) - 48) % 256))) + (((((bt a0 3) - 48) % 256) * 10) + (((bt a0 4) - 48) % 256)))) = true := decide_eq_true c24
                          clear c24
                          simp only [Option.some.injEq, Prod.mk.injEq] at H
                          obtain ⟨rfl, rfl⟩ := H
                          have p16 : 0 ≤ (0 : Int) := (by omega)
                          have q16 : 0 < a0.size := (by have : (0 : Int) < (a0.size : Int) := of_decide_eq_true (by first | (with_reducible assumption) | assumption); omega)
                          have hx16 : ∀ h : 0 < a0.size, ((a0[0]'h).toNat : Int) = bt a0 0 := bt_at a0 0
                          clear p16
                          have qi16 : (0 < (a0.size : Int)) = True := eq_true (of_decide_eq_true (by first | (with_reducible assumption) | assumption))
                          replace q16 := eq_true q16
                          have p18 : 0 ≤ (1 : Int) := (by omega)
                          have q18 : 1 < a0.size := (by have : (1 : Int) < (a0.size : Int) := of_decide_eq_true (by first | (with_reducible assumption) | assumption); omega)
                          have hx18 : ∀ h : 1 < a0.size, ((a0[1]'h).toNat : Int) = bt a0 1 := bt_at a0 1
                          clear p18
                          have qi18 : (1 < (a0.size : Int)) = True := eq_true (of_decide_eq_true (by first | (with_reducible assumption) | assumption))
                          replace q18 := eq_true q18
                          have p20 : 0 ≤ (3 : Int) := (by omega)
                          have q20 : 3 < a0.size := (by have : (3 : Int) < (a0.size : Int) := of_decide_eq_true (by first | (with_reducible assumption) | assumption); omega)
                          have hx20 : ∀ h : 3 < a0.size, ((a0[3]'h).toNat : Int) = bt a0 3 := bt_at a0 3
                          clear p20
                          have qi20 : (3 < (a0.size : Int)) = True := eq_true (of_decide_eq_true (by first | (with_reducible assumption) | assumption))
                          replace q20 := eq_true q20
                          have p22 : 0 ≤ (4 : Int) := (by omega)
                          have q22 : 4 < a0.size := (by have : (4 : Int) < (a0.size : Int) := of_decide_eq_true (by first | (with_reducible assumption) | assumption); omega)
                          have hx22 : ∀ h : 4 < a0.size, ((a0[4]'h).toNat : Int) = bt a0 4 := bt_at a0 4
                          clear p22
                          have qi22 : (4 < (a0.size : Int)) = True := eq_true (of_decide_eq_true (by first | (with_reducible assumption) | assumption))
                          replace q22 := eq_true q22
                          go_wp2
                          repeat (go_quiet (fail); try go_wp2)
                          go_ret2
                          exact ⟨by first | rfl | (simp; done) | (simp [*]; done), by repeat (first | exact Drawn0.refl _ | apply Drawn0.step)⟩
                        · rw [if_neg c24] at H
                          have c24b0 : decide (1440 < ((60 * (((((bt a0 0) - 48) % 256) * 10) + (((bt a0 1) - 48) % 256))) + (((((bt a0 3) - 48) % 256) * 10) + (((bt a0 4) - 48) % 256)))) = false := decide_eq_false c24
                          clear c24
                          simp only [Option.some.injEq, Prod.mk.injEq] at H
                          obtain ⟨rfl, rfl⟩ := H
                          have p16 : 0 ≤ (0 : Int) := (by omega)
                          have q16 : 0 < a0.size := (by have : (0 : Int) < (a0.size : Int) := of_decide_eq_true (by first | (with_reducible assumption) | assumption); omega)
                          have hx16 : ∀ h : 0 < a0.size, ((a0[0]'h).toNat : Int) = bt a0 0 := bt_at a0 0
                          clear p16
                          have qi16 : (0 < (a0.size : Int)) = True := eq_true (of_decide_eq_true (by first | (with_reducible assumption) | assumption))
                          replace q16 := eq_true q16
                          have p18 : 0 ≤ (1 : Int) := (by omega)
                          have q18 : 1 < a0.size := (by have : (1 : Int) < (a0.size : Int) := of_decide_eq_true (by first | (with_reducible assumption) | assumption); omega)
                          have hx18 : ∀ h : 1 < a0.size, ((a0[1]'h).toNat : Int) = bt a0 1 := bt_at a0 1
                          clear p18
                          have qi18 : (1 < (a0.size : Int)) = True := eq_true (of_decide_eq_true (by first | (with_reducible assumption) | assumption))
                          replace q18 := eq_true q18
                          have p20 : 0 ≤ (3 : Int) := (by omega)
                          have q20 : 3 < a0.size := (by have : (3 : Int) < (a0.size : Int) := of_decide_eq_true (by first | (with_reducible assumption) | assumption); omega)
                          have hx20 : ∀ h : 3 < a0.size, ((a0[3]'h).toNat : Int) = bt a0 3 := bt_at a0 3
                          clear p20
                          have qi20 : (3 < (a0.size : Int)) = True := eq_true (of_decide_eq_true (by first | (with_reducible assumption) | assumption))
                          replace q20 := eq_true q20
                          have p22 : 0 ≤ (4 : Int) := (by omega)
                          have q22 : 4 < a0.size := (by have : (4 : Int) < (a0.size : Int) := of_decide_eq_true (by first | (with_reducible assumption) | assumption); omega)
                          have hx22 : ∀ h : 4 < a0.size, ((a0[4]'h).toNat : Int) = bt a0 4 := bt_at a0 4
                          clear p22
                          have qi22 : (4 < (a0.size : Int)) = True := eq_true (of_decide_eq_true (by first | (with_reducible assumption) | assumption))
                          replace q22 := eq_true q22
                          go_wp2
                          repeat (go_quiet (fail); try go_wp2)
                          go_ret2
                          exact ⟨by first | rfl | (simp; done) | (simp [*]; done), by repeat (first | exact Drawn0.refl _ | apply Drawn0.step)⟩
                    · rw [if_neg c21] at H
                      exact absurd H (by simp)
                  · rw [if_neg c19] at H
                    exact absurd H (by simp)
                · rw [if_neg c17] at H
                  exact absurd H (by simp)
              · rw [if_neg c15] at H
                exact absurd H (by simp)
      · replace c6 := Bool.eq_false_iff.mpr c6
        subst c6
        have H1 : (spec_minute.l1 kj1 a0 0) = some (r1, r2) := by rw [if_neg (show ¬ (false = true) by decide)] at H; exact H
        clear H
        have H := H1
        clear H1
        have H' := Aside0.mk H
        clear H
        go_wp2
        repeat (go_quiet (fail); try go_wp2)
        go_loopg [8] kj1 (fun kq v8 w' => ∃ (x8_2 : Int), v8 = .int .i64 x8_2 ∧ Aside0 (spec_minute.l1 kq a0 x8_2 = some (r1, r2)) ∧ Aside0 (kq ≤ kj1) ∧ Drawn0 w w')
        case atStart => exact ⟨(0), (by first | rfl | (simp; done) | (simp [*]; done)), H', ⟨Nat.le_refl _⟩, by repeat (first | exact Drawn0.refl _ | apply Drawn0.step)⟩
        case round =>
          clear H'
          try clear c1
          try clear p1
          try clear q1
          try clear hx1
          try clear qi1
          try clear c2
          try clear p2
          try clear q2
          try clear hx2
          try clear qi2
          try clear c3
          try clear c3b0
          try clear c3b1
          try clear c4
          try clear c4b0
          try clear c4b1
          try clear p5
          try clear q5
          try clear hx5
          try clear qi5
          try clear c6
          try clear p6
          try clear c7
          try clear c7b0
          try clear c8
          try clear c8b0
          try clear c8b1
          try clear c9
          try clear c9b0
          try clear c10
          try clear c10b0
          try clear p11
          try clear q11
          try clear hx11
          try clear c12
          try clear c12b0
          try clear p13
          try clear q13
          try clear hx13
          try clear c14
          try clear c14b0
          try clear c15
          try clear c15b0
          try clear c15b1
          try clear p16
          try clear q16
          try clear hx16
          try clear qi16
          try clear c17
          try clear c17b0
          try clear c17b1
          try clear p18
          try clear q18
          try clear hx18
          try clear qi18
          try clear c19
          try clear c19b0
          try clear c19b1
          try clear p20
          try clear q20
          try clear hx20
          try clear qi20
          try clear c21
          try clear c21b0
          try clear c21b1
          try clear p22
          try clear q22
          try clear hx22
          try clear qi22
          try clear c23
          try clear c23b0
          try clear c24
          try clear c24b0
          try clear p11
          try clear p13
          try clear p16
          try clear p18
          try clear p2
          try clear p20
          try clear p22
          try clear p5
          try clear q11
          try clear q13
          try clear q16
          try clear q18
          try clear q20
          try clear q22
          try clear q5
          obtain ⟨x8_2, rfl, HA, HK2, ⟨m2, rfl⟩⟩ := hrel
          cases gk with
          | zero => exact absurd HA.out (by simp [spec_minute.l1])
          | succ k2 =>
            have H := HA.out
            clear HA
            simp only [spec_minute.l1] at H
            by_cases c25 : x8_2 < (a0.size : Int)
            · rw [if_pos c25] at H
              have c25b0 : decide (x8_2 < (a0.size : Int)) = true := decide_eq_true c25
              clear c25
              by_cases c26 : 0 ≤ x8_2
              · rw [if_pos c26] at H
                have c26b0 : decide (0 ≤ x8_2) = true := decide_eq_true c26
                clear c26
                by_cases c28 : (bt a0 x8_2) < 97
                · rw [if_pos c28] at H
                  have c28b0 : decide ((bt a0 x8_2) < 97) = true := decide_eq_true c28
                  clear c28
                  by_cases c30 : (bt a0 x8_2) < 65
                  · rw [if_pos c30] at H
                    have c30b0 : decide ((bt a0 x8_2) < 65) = true := decide_eq_true c30
                    clear c30
                    simp only [Option.some.injEq, Prod.mk.injEq] at H
                    obtain ⟨rfl, rfl⟩ := H
                    have p27 : 0 ≤ (x8_2 : Int) := of_decide_eq_true (by first | (with_reducible assumption) | assumption)
                    have q27 : x8_2 < (a0.size : Int) := of_decide_eq_true (by first | (with_reducible assumption) | assumption)
                    have hx27 := bt_at a0 x8_2
                    replace p27 := eq_true p27
                    replace q27 := eq_true q27
                    have p29 : 0 ≤ (x8_2 : Int) := of_decide_eq_true (by first | (with_reducible assumption) | assumption)
                    have q29 : x8_2 < (a0.size : Int) := of_decide_eq_true (by first | (with_reducible assumption) | assumption)
                    have hx29 := bt_at a0 x8_2
                    replace p29 := eq_true p29
                    replace q29 := eq_true q29
                    go_wp2
                    repeat (go_quiet (fail); try go_wp2)
                    go_ret2
                    exact ⟨by first | rfl | (simp; done) | (simp [*]; done), by repeat (first | exact Drawn0.refl _ | apply Drawn0.step)⟩
                  · rw [if_neg c30] at H
                    have c30b0 : decide ((bt a0 x8_2) < 65) = false := decide_eq_false c30
                    clear c30
                    by_cases c32 : (bt a0 x8_2) > 90
                    · rw [if_pos c32] at H
                      have c32b0 : decide (90 < (bt a0 x8_2)) = true := decide_eq_true c32
                      clear c32
                      simp only [Option.some.injEq, Prod.mk.injEq] at H
                      obtain ⟨rfl, rfl⟩ := H
                      have p27 : 0 ≤ (x8_2 : Int) := of_decide_eq_true (by first | (with_reducible assumption) | assumption)
                      have q27 : x8_2 < (a0.size : Int) := of_decide_eq_true (by first | (with_reducible assumption) | assumption)
                      have hx27 := bt_at a0 x8_2
                      replace p27 := eq_true p27
                      replace q27 := eq_true q27
                      have p29 : 0 ≤ (x8_2 : Int) := of_decide_eq_true (by first | (with_reducible assumption) | assumption)
                      have q29 : x8_2 < (a0.size : Int) := of_decide_eq_true (by first | (with_reducible assumption) | assumption)
                      have hx29 := bt_at a0 x8_2
                      replace p29 := eq_true p29
                      replace q29 := eq_true q29
                      have p31 : 0 ≤ (x8_2 : Int) := of_decide_eq_true (by first | (with_reducible assumption) | assumption)
                      have q31 : x8_2 < (a0.size : Int) := of_decide_eq_true (by first | (with_reducible assumption) | assumption)
                      have hx31 := bt_at a0 x8_2
                      replace p31 := eq_true p31
                      replace q31 := eq_true q31
                      go_wp2
                      repeat (go_quiet (fail); try go_wp2)
                      go_ret2
                      exact ⟨by first | rfl | (simp; done) | (simp [*]; done), by repeat (first | exact Drawn0.refl _ | apply Drawn0.step)⟩
                    · rw [if_neg c32] at H
                      have c32b0 : decide (90 < (bt a0 x8_2)) = false := decide_eq_false c32
                      clear c32
                      have H' := Aside0.mk H
                      clear H
                      have p27 : 0 ≤ (x8_2 : Int) := of_decide_eq_true (by first | (with_reducible assumption) | assumption)
                      have q27 : x8_2 < (a0.size : Int) := of_decide_eq_true (by first | (with_reducible assumption) | assumption)
                      have hx27 := bt_at a0 x8_2
                      replace p27 := eq_true p27
                      replace q27 := eq_true q27
                      have p29 : 0 ≤ (x8_2 : Int) := of_decide_eq_true (by first | (with_reducible assumption) | assumption)
                      have q29 : x8_2 < (a0.size : Int) := of_decide_eq_true (by first | (with_reducible assumption) | assumption)
                      have hx29 := bt_at a0 x8_2
                      replace p29 := eq_true p29
                      replace q29 := eq_true q29
                      have p31 : 0 ≤ (x8_2 : Int) := of_decide_eq_true (by first | (with_reducible assumption) | assumption)
                      have q31 : x8_2 < (a0.size : Int) := of_decide_eq_true (by first | (with_reducible assumption) | assumption)
                      have hx31 := bt_at a0 x8_2
                      replace p31 := eq_true p31
                      replace q31 := eq_true q31
                      go_wp2
                      repeat (go_quiet (fail); try go_wp2)
                      go_roundg k2
                      case measure => have := HJ1.out; have := HK2.out; omega
                      case rel => exact ⟨(wrap64 (x8_2 + 1)), (by first | rfl | (simp; done) | (simp [*]; done)), H', ⟨by have := HJ1.out; have := HK2.out; omega⟩, by repeat (first | exact Drawn0.refl _ | apply Drawn0.step)⟩
                · rw [if_neg c28] at H
                  have c28b0 : decide ((bt a0 x8_2) < 97) = false := decide_eq_false c28
                  clear c28
                  by_cases c34 : (bt a0 x8_2) > 122
                  · rw [if_pos c34] at H
                    have c34b0 : decide (122 < (bt a0 x8_2)) = true := decide_eq_true c34
                    clear c34
                    by_cases c36 : (bt a0 x8_2) < 65
                    · rw [if_pos c36] at H
                      have c36b0 : decide ((bt a0 x8_2) < 65) = true := decide_eq_true c36
                      clear c36
                      simp only [Option.some.injEq, Prod.mk.injEq] at H
                      obtain ⟨rfl, rfl⟩ := H
                      have p27 : 0 ≤ (x8_2 : Int) := of_decide_eq_true (by first | (with_reducible assumption) | assumption)
                      have q27 : x8_2 < (a0.size : Int) := of_decide_eq_true (by first | (with_reducible assumption) | assumption)
                      have hx27 := bt_at a0 x8_2
                      replace p27 := eq_true p27
                      replace q27 := eq_true q27
                      have p33 : 0 ≤ (x8_2 : Int) := of_decide_eq_true (by first | (with_reducible assumption) | assumption)
                      have q33 : x8_2 < (a0.size : Int) := of_decide_eq_true (by first | (with_reducible assumption) | assumption)
                      have hx33 := bt_at a0 x8_2
                      replace p33 := eq_true p33
                      replace q33 := eq_true q33
                      have p35 : 0 ≤ (x8_2 : Int) := of_decide_eq_true (by first | (with_reducible assumption) | assumption)
                      have q35 : x8_2 < (a0.size : Int) := of_decide_eq_true (by first | (with_reducible assumption) | assumption)
                      have hx35 := bt_at a0 x8_2
                      replace p35 := eq_true p35
                      replace q35 := eq_true q35
                      go_wp2
                      repeat (go_quiet (fail); try go_wp2)
                      go_ret2
                      exact ⟨by first | rfl | (simp; done) | (simp [*]; done), by repeat (first | exact Drawn0.refl _ | apply Drawn0.step)⟩
                    · rw [if_neg c36] at H
                      have c36b0 : decide ((bt a0 x8_2) < 65) = false := decide_eq_false c36
                      clear c36
                      by_cases c38 : (bt a0 x8_2) > 90
                      · rw [if_pos c38] at H
                        have c38b0 : decide (90 < (bt a0 x8_2)) = true := decide_eq_true c38
                        clear c38
                        simp only [Option.some.injEq, Prod.mk.injEq] at H
                        obtain ⟨rfl, rfl⟩ := H
                        have p27 : 0 ≤ (x8_2 : Int) := of_decide_eq_true (by first | (with_reducible assumption) | assumption)
                        have q27 : x8_2 < (a0.size : Int) := of_decide_eq_true (by first | (with_reducible assumption) | assumption)
                        have hx27 := bt_at a0 x8_2
                        replace p27 := eq_true p27
                        replace q27 := eq_true q27
                        have p33 : 0 ≤ (x8_2 : Int) := of_decide_eq_true (by first | (with_reducible assumption) | assumption)
                        have q33 : x8_2 < (a0.size : Int) := of_decide_eq_true (by first | (with_reducible assumption) | assumption)
                        have hx33 := bt_at a0 x8_2
                        replace p33 := eq_true p33
                        replace q33 := eq_true q33
                        have p35 : 0 ≤ (x8_2 : Int) := of_decide_eq_true (by first | (with_reducible assumption) | assumption)
                        have q35 : x8_2 < (a0.size : Int) := of_decide_eq_true (by first | (with_reducible assumption) | assumption)
                        have hx35 := bt_at a0 x8_2
                        replace p35 := eq_true p35
                        replace q35 := eq_true q35
                        have p37 : 0 ≤ (x8_2 : Int) := of_decide_eq_true (by first | (with_reducible assumption) | assumption)
                        have q37 : x8_2 < (a0.size : Int) := of_decide_eq_true (by first | (with_reducible assumption) | assumption)
                        have hx37 := bt_at a0 x8_2
                        replace p37 := eq_true p37
                        replace q37 := eq_true q37
                        go_wp2
                        repeat (go_quiet (fail); try go_wp2)
                        go_ret2
                        exact ⟨by first | rfl | (simp; done) | (simp [*]; done), by repeat (first | exact Drawn0.refl _ | apply Drawn0.step)⟩
                      · rw [if_neg c38] at H
                        have c38b0 : decide (90 < (bt a0 x8_2)) = false := decide_eq_false c38
                        clear c38
                        have H' := Aside0.mk H
                        clear H
                        have p27 : 0 ≤ (x8_2 : Int) := of_decide_eq_true (by first | (with_reducible assumption) | assumption)
                        have q27 : x8_2 < (a0.size : Int) := of_decide_eq_true (by first | (with_reducible assumption) | assumption)
                        have hx27 := bt_at a0 x8_2
                        replace p27 := eq_true p27
                        replace q27 := eq_true q27
                        have p33 : 0 ≤ (x8_2 : Int) := of_decide_eq_true (by first | (with_reducible assumption) | assumption)
                        have q33 : x8_2 < (a0.size : Int) := of_decide_eq_true (by first | (with_reducible assumption) | assumption)
                        have hx33 := bt_at a0 x8_2
                        replace p33 := eq_true p33
                        replace q33 := eq_true q33
                        have p35 : 0 ≤ (x8_2 : Int) := of_decide_eq_true (by first | (with_reducible assumption) | assumption)
                        have q35 : x8_2 < (a0.size : Int) := of_decide_eq_true (by first | (with_reducible assumption) | assumption)
                        have hx35 := bt_at a0 x8_2
                        replace p35 := eq_true p35
                        replace q35 := eq_true q35
                        have p37 : 0 ≤ (x8_2 : Int) := of_decide_eq_true (by first | (with_reducible assumption) | assumption)
                        have q37 : x8_2 < (a0.size : Int) := of_decide_eq_true (by first | (with_reducible assumption) | assumption)
                        have hx37 := bt_at a0 x8_2
                        replace p37 := eq_true p37
                        replace q37 := eq_true q37
                        go_wp2
                        repeat (go_quiet (fail); try go_wp2)
                        go_roundg k2
                        case measure => have := HJ1.out; have := HK2.out; omega
                        case rel => exact ⟨(wrap64 (x8_2 + 1)), (by first | rfl | (simp; done) | (simp [*]; done)), H', ⟨by have := HJ1.out; have := HK2.out; omega⟩, by repeat (first | exact Drawn0.refl _ | apply Drawn0.step)⟩
                  · rw [if_neg c34] at H
                    have c34b0 : decide (122 < (bt a0 x8_2)) = false := decide_eq_false c34
                    clear c34
                    have H' := Aside0.mk H
                    clear H
                    have p27 : 0 ≤ (x8_2 : Int) := of_decide_eq_true (by first | (with_reducible assumption) | assumption)
                    have q27 : x8_2 < (a0.size : Int) := of_decide_eq_true (by first | (with_reducible assumption) | assumption)
                    have hx27 := bt_at a0 x8_2
                    replace p27 := eq_true p27
                    replace q27 := eq_true q27
                    have p33 : 0 ≤ (x8_2 : Int) := of_decide_eq_true (by first | (with_reducible assumption) | assumption)
                    have q33 : x8_2 < (a0.size : Int) := of_decide_eq_true (by first | (with_reducible assumption) | assumption)
                    have hx33 := bt_at a0 x8_2
                    replace p33 := eq_true p33
                    replace q33 := eq_true q33
                    go_wp2
                    repeat (go_quiet (fail); try go_wp2)
                    go_roundg k2
                    case measure => have := HJ1.out; have := HK2.out; omega
                    case rel => exact ⟨(wrap64 (x8_2 + 1)), (by first | rfl | (simp; done) | (simp [*]; done)), H', ⟨by have := HJ1.out; have := HK2.out; omega⟩, by repeat (first | exact Drawn0.refl _ | apply Drawn0.step)⟩
              · rw [if_neg c26] at H
                exact absurd H (by simp)
            · rw [if_neg c25] at H
              have c25b0 : decide (x8_2 < (a0.size : Int)) = false := decide_eq_false c25
              clear c25
              simp only [Option.some.injEq, Prod.mk.injEq] at H
              obtain ⟨rfl, rfl⟩ := H
              go_wp2
              repeat (go_quiet (fail); try go_wp2)
              go_ret2
              exact ⟨by first | rfl | (simp; done) | (simp [*]; done), by repeat (first | exact Drawn0.refl _ | apply Drawn0.step)⟩

/-! ### spec_both: function 10 -/
def spec_both.j0 : Nat → Int → Int → Bool → Option (Int)
  | 0, _, _, _ => none
  | k + 1, x0, x1, x10 => if x10 = true then (some 0) else (if x0 = 2 then (some 2) else (if x1 = 2 then (some 2) else (some 1)))
def spec_both.f (k : Nat) (a0 : Int) (a1 : Int) : Option (Int) := if a0 = 0 then (spec_both.j0 k a0 a1 true) else (spec_both.j0 k a0 a1 (a1 == 0))
theorem spec_both.mono_l : ∀ k, (∀ y0 y1 y2, LeO (spec_both.j0 k y0 y1 y2) (spec_both.j0 (k + 1) y0 y1 y2))
  | 0 => fun _ _ _ r h => by simp [spec_both.j0] at h
  | k + 1 => by
    have ih0 := spec_both.mono_l k
    · intro y0 y1 y2
      unfold spec_both.j0
      repeat' first
      | (with_reducible exact ih0 _ _ _)
      | (with_reducible exact LeO.refl _)
      | (with_reducible exact LeO.none _)
      | (with_reducible refine LeO.ite ?_ ?_)
      | (with_reducible refine LeO.bind ?_ (fun _ => ?_))
      | exact ih0 _ _ _
      | exact LeO.none _
      | refine LeO.ite ?_ ?_
      | refine LeO.bind ?_ (fun _ => ?_)
theorem spec_both.mono : ∀ a0 a1 k, LeO (spec_both.f k a0 a1) (spec_both.f (k + 1) a0 a1) := by
  intro a0 a1 k
  have ih0 := spec_both.mono_l k
  unfold spec_both.f
  repeat' first
      | (with_reducible exact ih0 _ _ _)
      | (with_reducible exact LeO.refl _)
      | (with_reducible exact LeO.none _)
      | (with_reducible refine LeO.ite ?_ ?_)
      | (with_reducible refine LeO.bind ?_ (fun _ => ?_))
      | exact ih0 _ _ _
      | exact LeO.none _
      | refine LeO.ite ?_ ?_
      | refine LeO.bind ?_ (fun _ => ?_)
set_option maxHeartbeats 8000000 in
set_option maxRecDepth 100000 in
theorem spec_both.calls (k : Nat) (a0 : Int) (a1 : Int) (r : Int) (w : World) (h : spec_both.f k a0 a1 = some r) :
    Calls Tryd.prog 10 #[.int .i64 a0, .int .i64 a1] w fun e w' => e = .returned (.int .i64 r) ∧ Drawn0 w w' := by
  have H : (if a0 = 0 then (spec_both.j0 k a0 a1 true) else (spec_both.j0 k a0 a1 (a1 == 0))) = some r := h
  clear h
  have HC3 := Aside0.mk H
  clear H
  go_enter Tryd.func10, Tryd.ntmps10
  go_upto_region 1 with (fail)
  go_cut [10] (fun v10 wc => ∃ (kq : Nat) (x10_2 : Bool), v10 = .bool x10_2 ∧ Aside0 (spec_both.j0 kq a0 a1 x10_2 = some r) ∧ Aside0 (kq ≤ k) ∧ Drawn0 w wc)
  case first =>
    have H := HC3.out
    clear HC3
    by_cases c4 : a0 = 0
    · rw [if_pos c4] at H
      have c4b0 : (a0 == 0) = true := beq_iff_eq.mpr c4
      have c4b1 : (a0 != 0) = false := bne_eq_false_iff_eq.mpr c4
      clear c4
      (first | rw [c4b0] | (simp only [i64_w, i32_w]; rw [c4b0]) | skip)
      have H' := Aside0.mk H
      clear H
      go_wp2
      go_meet
      case rel => exact ⟨_, (true), (by first | rfl | (simp; done) | (simp [*]; done)), H', ⟨by first | omega | exact Nat.le_refl _⟩, by repeat (first | exact Drawn0.refl _ | apply Drawn0.step)⟩
    · rw [if_neg c4] at H
      have c4b0 : (a0 == 0) = false := beq_eq_false_iff_ne.mpr c4
      have c4b1 : (a0 != 0) = true := bne_iff_ne.mpr c4
      (first | rw [c4b0] | (simp only [i64_w, i32_w]; rw [c4b0]) | skip)
      have H' := Aside0.mk H
      clear H
      go_wp2
      go_meet
      case rel => exact ⟨_, ((a1 == 0)), (by first | rfl | (simp; done) | (simp [*]; done)), H', ⟨by first | omega | exact Nat.le_refl _⟩, by repeat (first | exact Drawn0.refl _ | apply Drawn0.step)⟩
  case rest =>
    clear HC3
    try clear c1
    try clear p2
    try clear c4
    try clear c4b0
    try clear c4b1
    obtain ⟨kq, x10_2, rfl, HA, HJ2, ⟨mc2, rfl⟩⟩ := hcut
    cases kq with
    | zero => exact absurd HA.out (by simp [spec_both.j0])
    | succ kj2 =>
      have H := HA.out
      clear HA
      simp only [spec_both.j0] at H
      by_cases c5 : x10_2 = true
      · subst c5
        have H1 : (some 0) = some r := by rw [if_pos rfl] at H; exact H
        clear H
        have H := H1
        clear H1
        obtain rfl := Option.some.inj H
        go_wp2
        go_ret
        exact ⟨by first | rfl | (simp; done) | (simp [*]; done), by repeat (first | exact Drawn0.refl _ | apply Drawn0.step)⟩
      · replace c5 := Bool.eq_false_iff.mpr c5
        subst c5
        have H1 : (if a0 = 2 then (some 2) else (if a1 = 2 then (some 2) else (some 1))) = some r := by rw [if_neg (show ¬ (false = true) by decide)] at H; exact H
        clear H
        have H := H1
        clear H1
        by_cases c6 : a0 = 2
        · rw [if_pos c6] at H
          have c6b0 : (a0 == 2) = true := beq_iff_eq.mpr c6
          have c6b1 : (a0 != 2) = false := bne_eq_false_iff_eq.mpr c6
          clear c6
          obtain rfl := Option.some.inj H
          go_wp2
          go_ret
          exact ⟨by first | rfl | (simp; done) | (simp [*]; done), by repeat (first | exact Drawn0.refl _ | apply Drawn0.step)⟩
        · rw [if_neg c6] at H
          have c6b0 : (a0 == 2) = false := beq_eq_false_iff_ne.mpr c6
          have c6b1 : (a0 != 2) = true := bne_iff_ne.mpr c6
          by_cases c7 : a1 = 2
          · rw [if_pos c7] at H
            have c7b0 : (a1 == 2) = true := beq_iff_eq.mpr c7
            have c7b1 : (a1 != 2) = false := bne_eq_false_iff_eq.mpr c7
            clear c7
            obtain rfl := Option.some.inj H
            go_wp2
            go_ret
            exact ⟨by first | rfl | (simp; done) | (simp [*]; done), by repeat (first | exact Drawn0.refl _ | apply Drawn0.step)⟩
          · rw [if_neg c7] at H
            have c7b0 : (a1 == 2) = false := beq_eq_false_iff_ne.mpr c7
            have c7b1 : (a1 != 2) = true := bne_iff_ne.mpr c7
            obtain rfl := Option.some.inj H
            go_wp2
            go_ret
            exact ⟨by first | rfl | (simp; done) | (simp [*]; done), by repeat (first | exact Drawn0.refl _ | apply Drawn0.step)⟩

end Go.Proofs.YtfbcpnjeonijaaaDoor.Q
