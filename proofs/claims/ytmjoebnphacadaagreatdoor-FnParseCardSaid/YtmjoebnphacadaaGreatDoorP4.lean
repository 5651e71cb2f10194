/- Joined by wip/tools/pack.py: what the claim uses of Qx9 Qx10 Qx11 Qx12 Qx13 Qx14 Qx15 Qx16 Qx17 Qx18 Qx19 Spm Qx24. No conditions beyond each theorem's own. -/
import Derived.Test.YtmjoebnphacadaaGreatDoorP0
import Derived.Test.YtmjoebnphacadaaGreatDoorP3
-- printed by this project's own program wip/tools/mkprint.py (the kit's print.py with hand-proved contracts put in)
namespace Go.Proofs.YtmjoebnphacadaaGreatDoor.Q
open Go.RowKit Go.Proofs.YtmjoebnphacadaaGreatDoorW.PrintWords Go.Proofs.YtmjoebnphacadaaGreatDoorW.PrintLast Go.Proofs.YtmjoebnphacadaaGreatDoorW.PrintMore
attribute [local go_sem] max2_int min2_int max_two min_two max_three min_three max_four min_four   -- for this text's walks alone
set_option linter.unusedVariables false
set_option linter.unusedSimpArgs false
/-! ### spec_runeLen: function 28 -/
mutual
noncomputable def spec_runeLen.j3 : Nat → ByteArray → Int → Int → Int → Option (Int)
  | 0, _, _, _, _ => none
  | k + 1, x0, x4, x5, x6 => if x4 > (x0.size : Int) then (some 1) else (spec_runeLen.l0 k x0 x4 x5 x6 1)
noncomputable def spec_runeLen.l0 : Nat → ByteArray → Int → Int → Int → Int → Option (Int)
  | 0, _, _, _, _, _ => none
  | k + 1, x0, x4, x5, x6, x7 => if x7 < x4 then (if 0 ≤ x7 then (if x7 < (x0.size : Int) then (if (bt x0 x7) < x5 then (some 1) else (if (bt x0 x7) > x6 then (some 1) else (spec_runeLen.l0 k x0 x4 128 191 (wrap64 (x7 + 1))))) else (none)) else (none)) else (some x4)
noncomputable def spec_runeLen.j0 : Nat → ByteArray → Int → Int → Int → Int → Bool → Option (Int)
  | 0, _, _, _, _, _, _ => none
  | k + 1, x0, x3, x4, x5, x6, x10 => if x10 = true then (spec_runeLen.j3 k x0 2 x5 x6) else (if x3 ≥ 224 then (spec_runeLen.j1 k x0 x3 x4 x5 x6 (decide (x3 ≤ 239))) else (spec_runeLen.j1 k x0 x3 x4 x5 x6 false))
noncomputable def spec_runeLen.j1 : Nat → ByteArray → Int → Int → Int → Int → Bool → Option (Int)
  | 0, _, _, _, _, _, _ => none
  | k + 1, x0, x3, x4, x5, x6, x17 => if x17 = true then (if x3 = 224 then (if x3 = 237 then (spec_runeLen.j3 k x0 3 160 159) else (spec_runeLen.j3 k x0 3 160 x6)) else (if x3 = 237 then (spec_runeLen.j3 k x0 3 x5 159) else (spec_runeLen.j3 k x0 3 x5 x6))) else (if x3 ≥ 240 then (spec_runeLen.j2 k x0 x3 x4 x5 x6 (decide (x3 ≤ 244))) else (spec_runeLen.j2 k x0 x3 x4 x5 x6 false))
noncomputable def spec_runeLen.j2 : Nat → ByteArray → Int → Int → Int → Int → Bool → Option (Int)
  | 0, _, _, _, _, _, _ => none
  | k + 1, x0, x3, x4, x5, x6, x28 => if x28 = true then (if x3 = 240 then (if x3 = 244 then (spec_runeLen.j3 k x0 4 144 143) else (spec_runeLen.j3 k x0 4 144 x6)) else (if x3 = 244 then (spec_runeLen.j3 k x0 4 x5 143) else (spec_runeLen.j3 k x0 4 x5 x6))) else (spec_runeLen.j3 k x0 x4 x5 x6)
end
noncomputable def spec_runeLen.f (k : Nat) (a0 : ByteArray) : Option (Int) := if 0 < (a0.size : Int) then (if (bt a0 0) ≥ 194 then (spec_runeLen.j0 k a0 (bt a0 0) 1 128 191 (decide ((bt a0 0) ≤ 223))) else (spec_runeLen.j0 k a0 (bt a0 0) 1 128 191 false)) else (none)
theorem spec_runeLen.mono_l : ∀ k, (∀ y0 y1 y2 y3, LeO (spec_runeLen.j3 k y0 y1 y2 y3) (spec_runeLen.j3 (k + 1) y0 y1 y2 y3)) ∧ (∀ y0 y1 y2 y3 y4, LeO (spec_runeLen.l0 k y0 y1 y2 y3 y4) (spec_runeLen.l0 (k + 1) y0 y1 y2 y3 y4)) ∧ (∀ y0 y1 y2 y3 y4 y5, LeO (spec_runeLen.j0 k y0 y1 y2 y3 y4 y5) (spec_runeLen.j0 (k + 1) y0 y1 y2 y3 y4 y5)) ∧ (∀ y0 y1 y2 y3 y4 y5, LeO (spec_runeLen.j1 k y0 y1 y2 y3 y4 y5) (spec_runeLen.j1 (k + 1) y0 y1 y2 y3 y4 y5)) ∧ (∀ y0 y1 y2 y3 y4 y5, LeO (spec_runeLen.j2 k y0 y1 y2 y3 y4 y5) (spec_runeLen.j2 (k + 1) y0 y1 y2 y3 y4 y5))
  | 0 => ⟨fun _ _ _ _ r h => by simp [spec_runeLen.j3] at h, fun _ _ _ _ _ r h => by simp [spec_runeLen.l0] at h, fun _ _ _ _ _ _ r h => by simp [spec_runeLen.j0] at h, fun _ _ _ _ _ _ r h => by simp [spec_runeLen.j1] at h, fun _ _ _ _ _ _ r h => by simp [spec_runeLen.j2] at h⟩
  | k + 1 => by
    obtain ⟨ih0, ih1, ih2, ih3, ih4⟩ := spec_runeLen.mono_l k
    refine ⟨?_, ?_, ?_, ?_, ?_⟩
    · intro y0 y1 y2 y3
      unfold spec_runeLen.j3
      repeat' first
      | (with_reducible exact ih0 _ _ _ _)
      | (with_reducible exact ih1 _ _ _ _ _)
      | (with_reducible exact ih2 _ _ _ _ _ _)
      | (with_reducible exact ih3 _ _ _ _ _ _)
      | (with_reducible exact ih4 _ _ _ _ _ _)
      | (with_reducible exact LeO.refl _)
      | (with_reducible exact LeO.none _)
      | (with_reducible refine LeO.ite ?_ ?_)
      | (with_reducible refine LeO.bind ?_ (fun _ => ?_))
      | exact ih0 _ _ _ _
      | exact ih1 _ _ _ _ _
      | exact ih2 _ _ _ _ _ _
      | exact ih3 _ _ _ _ _ _
      | exact ih4 _ _ _ _ _ _
      | exact LeO.none _
      | refine LeO.ite ?_ ?_
      | refine LeO.bind ?_ (fun _ => ?_)
    · intro y0 y1 y2 y3 y4
      unfold spec_runeLen.l0
      repeat' first
      | (with_reducible exact ih0 _ _ _ _)
      | (with_reducible exact ih1 _ _ _ _ _)
      | (with_reducible exact ih2 _ _ _ _ _ _)
      | (with_reducible exact ih3 _ _ _ _ _ _)
      | (with_reducible exact ih4 _ _ _ _ _ _)
      | (with_reducible exact LeO.refl _)
      | (with_reducible exact LeO.none _)
      | (with_reducible refine LeO.ite ?_ ?_)
      | (with_reducible refine LeO.bind ?_ (fun _ => ?_))
      | exact ih0 _ _ _ _
      | exact ih1 _ _ _ _ _
      | exact ih2 _ _ _ _ _ _
      | exact ih3 _ _ _ _ _ _
      | exact ih4 _ _ _ _ _ _
      | exact LeO.none _
      | refine LeO.ite ?_ ?_
      | refine LeO.bind ?_ (fun _ => ?_)
    · intro y0 y1 y2 y3 y4 y5
      unfold spec_runeLen.j0
      repeat' first
      | (with_reducible exact ih0 _ _ _ _)
      | (with_reducible exact ih1 _ _ _ _ _)
      | (with_reducible exact ih2 _ _ _ _ _ _)
      | (with_reducible exact ih3 _ _ _ _ _ _)
      | (with_reducible exact ih4 _ _ _ _ _ _)
      | (with_reducible exact LeO.refl _)
      | (with_reducible exact LeO.none _)
      | (with_reducible refine LeO.ite ?_ ?_)
      | (with_reducible refine LeO.bind ?_ (fun _ => ?_))
      | exact ih0 _ _ _ _
      | exact ih1 _ _ _ _ _
      | exact ih2 _ _ _ _ _ _
      | exact ih3 _ _ _ _ _ _
      | exact ih4 _ _ _ _ _ _
      | exact LeO.none _
      | refine LeO.ite ?_ ?_
      | refine LeO.bind ?_ (fun _ => ?_)
    · intro y0 y1 y2 y3 y4 y5
      unfold spec_runeLen.j1
      repeat' first
      | (with_reducible exact ih0 _ _ _ _)
      | (with_reducible exact ih1 _ _ _ _ _)
      | (with_reducible exact ih2 _ _ _ _ _ _)
      | (with_reducible exact ih3 _ _ _ _ _ _)
      | (with_reducible exact ih4 _ _ _ _ _ _)
      | (with_reducible exact LeO.refl _)
      | (with_reducible exact LeO.none _)
      | (with_reducible refine LeO.ite ?_ ?_)
      | (with_reducible refine LeO.bind ?_ (fun _ => ?_))
      | exact ih0 _ _ _ _
      | exact ih1 _ _ _ _ _
      | exact ih2 _ _ _ _ _ _
      | exact ih3 _ _ _ _ _ _
      | exact ih4 _ _ _ _ _ _
      | exact LeO.none _
      | refine LeO.ite ?_ ?_
      | refine LeO.bind ?_ (fun _ => ?_)
    · intro y0 y1 y2 y3 y4 y5
      unfold spec_runeLen.j2
      repeat' first
      | (with_reducible exact ih0 _ _ _ _)
      | (with_reducible exact ih1 _ _ _ _ _)
      | (with_reducible exact ih2 _ _ _ _ _ _)
      | (with_reducible exact ih3 _ _ _ _ _ _)
      | (with_reducible exact ih4 _ _ _ _ _ _)
      | (with_reducible exact LeO.refl _)
      | (with_reducible exact LeO.none _)
      | (with_reducible refine LeO.ite ?_ ?_)
      | (with_reducible refine LeO.bind ?_ (fun _ => ?_))
      | exact ih0 _ _ _ _
      | exact ih1 _ _ _ _ _
      | exact ih2 _ _ _ _ _ _
      | exact ih3 _ _ _ _ _ _
      | exact ih4 _ _ _ _ _ _
      | exact LeO.none _
      | refine LeO.ite ?_ ?_
      | refine LeO.bind ?_ (fun _ => ?_)
theorem spec_runeLen.mono : ∀ a0 k, LeO (spec_runeLen.f k a0) (spec_runeLen.f (k + 1) a0) := by
  intro a0 k
  obtain ⟨ih0, ih1, ih2, ih3, ih4⟩ := spec_runeLen.mono_l k
  unfold spec_runeLen.f
  repeat' first
      | (with_reducible exact ih0 _ _ _ _)
      | (with_reducible exact ih1 _ _ _ _ _)
      | (with_reducible exact ih2 _ _ _ _ _ _)
      | (with_reducible exact ih3 _ _ _ _ _ _)
      | (with_reducible exact ih4 _ _ _ _ _ _)
      | (with_reducible exact LeO.refl _)
      | (with_reducible exact LeO.none _)
      | (with_reducible refine LeO.ite ?_ ?_)
      | (with_reducible refine LeO.bind ?_ (fun _ => ?_))
      | exact ih0 _ _ _ _
      | exact ih1 _ _ _ _ _
      | exact ih2 _ _ _ _ _ _
      | exact ih3 _ _ _ _ _ _
      | exact ih4 _ _ _ _ _ _
      | exact LeO.none _
      | refine LeO.ite ?_ ?_
      | refine LeO.bind ?_ (fun _ => ?_)
set_option maxHeartbeats 8000000 in
set_option maxRecDepth 100000 in
theorem spec_runeLen.calls (k : Nat) (a0 : ByteArray) (r : Int) (w : World) (h : spec_runeLen.f k a0 = some r) :
    Calls Tryz.prog 28 #[.string a0] w fun e w' => e = .returned (.int .i64 r) ∧ Drawn0 w w' := by
  have H : (if 0 < (a0.size : Int) then (if (bt a0 0) ≥ 194 then (spec_runeLen.j0 k a0 (bt a0 0) 1 128 191 (decide ((bt a0 0) ≤ 223))) else (spec_runeLen.j0 k a0 (bt a0 0) 1 128 191 false)) else (none)) = some r := h
  clear h
  by_cases c2 : 0 < (a0.size : Int)
  · rw [if_pos c2] at H
    have c2b0 : decide (0 < (a0.size : Int)) = true := decide_eq_true c2
    have c2b1 : decide (0 < a0.size) = true := decide_eq_true (by omega)
    clear c2
    have HC4 := Aside0.mk H
    clear H
    have p3 : 0 ≤ (0 : Int) := (by omega)
    have q3 : 0 < a0.size := (by have : (0 : Int) < (a0.size : Int) := of_decide_eq_true (by first | (with_reducible assumption) | assumption); omega)
    have hx3 : ∀ h : 0 < a0.size, ((a0[0]'h).toNat : Int) = bt a0 0 := bt_at a0 0
    clear p3
    have qi3 : (0 < (a0.size : Int)) = True := eq_true (of_decide_eq_true (by first | (with_reducible assumption) | assumption))
    replace q3 := eq_true q3
    go_enter Tryz.func28, Tryz.ntmps28
    go_upto_block 0 with (fail)
    go_cut [4, 5, 6] (fun v4 v5 v6 wc => ∃ (kq : Nat) (x4_3 : Int) (x5_3 : Int) (x6_3 : Int), v4 = .int .i64 x4_3 ∧ v5 = .int .u8 x5_3 ∧ v6 = .int .u8 x6_3 ∧ Aside0 (spec_runeLen.j3 kq a0 x4_3 x5_3 x6_3 = some r) ∧ Aside0 (kq ≤ k) ∧ Drawn0 w wc)
    case first =>
      have H := HC4.out
      clear HC4
      have HC5 := Aside0.mk H
      clear H
      go_upto_region 3 with (fail)
      go_cut [10] (fun v10 wc => ∃ (kq : Nat) (x10_4 : Bool), v10 = .bool x10_4 ∧ Aside0 (spec_runeLen.j0 kq a0 (bt a0 0) 1 128 191 x10_4 = some r) ∧ Aside0 (kq ≤ k) ∧ Drawn0 w wc)
      case first =>
        have H := HC5.out
        clear HC5
        by_cases c6 : (bt a0 0) ≥ 194
        · rw [if_pos c6] at H
          have c6b0 : decide (194 ≤ (bt a0 0)) = true := decide_eq_true c6
          clear c6
          (first | rw [c6b0] | (simp only [i64_w, i32_w]; rw [c6b0]) | skip)
          have H' := Aside0.mk H
          clear H
          go_wp2
          go_meet
          case rel => exact ⟨_, (decide ((bt a0 0) ≤ 223)), (by first | rfl | (simp; done) | (simp [*]; done)), H', ⟨by first | omega | exact Nat.le_refl _⟩, by repeat (first | exact Drawn0.refl _ | apply Drawn0.step)⟩
        · rw [if_neg c6] at H
          have c6b0 : decide (194 ≤ (bt a0 0)) = false := decide_eq_false c6
          clear c6
          (first | rw [c6b0] | (simp only [i64_w, i32_w]; rw [c6b0]) | skip)
          have H' := Aside0.mk H
          clear H
          go_wp2
          go_meet
          case rel => exact ⟨_, (false), (by first | rfl | (simp; done) | (simp [*]; done)), H', ⟨by first | omega | exact Nat.le_refl _⟩, by repeat (first | exact Drawn0.refl _ | apply Drawn0.step)⟩
      case rest =>
        clear HC5
        try clear c2
        try clear c2b0
        try clear c2b1
        try clear p2
        try clear p3
        try clear q3
        try clear hx3
        try clear qi3
        try clear c6
        try clear c6b0
        try clear p3
        try clear q3
        obtain ⟨kq, x10_4, rfl, HA, HJ4, ⟨mc4, rfl⟩⟩ := hcut
        cases kq with
        | zero => exact absurd HA.out (by simp [spec_runeLen.j0])
        | succ kj4 =>
          have H := HA.out
          clear HA
          simp only [spec_runeLen.j0] at H
          by_cases c7 : x10_4 = true
          · subst c7
            have H1 : (spec_runeLen.j3 kj4 a0 2 128 191) = some r := by rw [if_pos rfl] at H; exact H
            clear H
            have H := H1
            clear H1
            have H' := Aside0.mk H
            clear H
            go_wp2
            go_meet
            case rel => exact ⟨_, (2), (128), (191), (by first | rfl | (simp; done) | (simp [*]; done)), (by first | rfl | (simp; done) | (simp [*]; done)), (by first | rfl | (simp; done) | (simp [*]; done)), H', ⟨by have := HJ4.out; first | omega | exact Nat.le_refl _⟩, by repeat (first | exact Drawn0.refl _ | apply Drawn0.step)⟩
          · replace c7 := Bool.eq_false_iff.mpr c7
            subst c7
            have H1 : (if (bt a0 0) ≥ 224 then (spec_runeLen.j1 kj4 a0 (bt a0 0) 1 128 191 (decide ((bt a0 0) ≤ 239))) else (spec_runeLen.j1 kj4 a0 (bt a0 0) 1 128 191 false)) = some r := by rw [if_neg (show ¬ (false = true) by decide)] at H; exact H
            clear H
            have H := H1
            clear H1
            have HC8 := Aside0.mk H
            clear H
            go_upto_region 5 with (fail)
            go_cut [17] (fun v17 wc => ∃ (kq : Nat) (x17_7 : Bool), v17 = .bool x17_7 ∧ Aside0 (spec_runeLen.j1 kq a0 (bt a0 0) 1 128 191 x17_7 = some r) ∧ Aside0 (kq ≤ kj4) ∧ Drawn0 w wc)
            case first =>
              have H := HC8.out
              clear HC8
              by_cases c9 : (bt a0 0) ≥ 224
              · rw [if_pos c9] at H
                have c9b0 : decide (224 ≤ (bt a0 0)) = true := decide_eq_true c9
                clear c9
                (first | rw [c9b0] | (simp only [i64_w, i32_w]; rw [c9b0]) | skip)
                have H' := Aside0.mk H
                clear H
                go_wp2
                go_meet
                case rel => exact ⟨_, (decide ((bt a0 0) ≤ 239)), (by first | rfl | (simp; done) | (simp [*]; done)), H', ⟨by have := HJ4.out; first | omega | exact Nat.le_refl _⟩, by repeat (first | exact Drawn0.refl _ | apply Drawn0.step)⟩
              · rw [if_neg c9] at H
                have c9b0 : decide (224 ≤ (bt a0 0)) = false := decide_eq_false c9
                clear c9
                (first | rw [c9b0] | (simp only [i64_w, i32_w]; rw [c9b0]) | skip)
                have H' := Aside0.mk H
                clear H
                go_wp2
                go_meet
                case rel => exact ⟨_, (false), (by first | rfl | (simp; done) | (simp [*]; done)), H', ⟨by have := HJ4.out; first | omega | exact Nat.le_refl _⟩, by repeat (first | exact Drawn0.refl _ | apply Drawn0.step)⟩
            case rest =>
              clear HC8
              try clear c2
              try clear c2b0
              try clear c2b1
              try clear p2
              try clear p3
              try clear q3
              try clear hx3
              try clear qi3
              try clear c4
              try clear c6
              try clear c6b0
              try clear c7
              try clear c9
              try clear c9b0
              try clear p2
              try clear p3
              try clear q3
              obtain ⟨kq, x17_7, rfl, HA, HJ7, ⟨mc7, rfl⟩⟩ := hcut
              cases kq with
              | zero => exact absurd HA.out (by simp [spec_runeLen.j1])
              | succ kj7 =>
                have H := HA.out
                clear HA
                simp only [spec_runeLen.j1] at H
                by_cases c10 : x17_7 = true
                · subst c10
                  have H1 : (if (bt a0 0) = 224 then (if (bt a0 0) = 237 then (spec_runeLen.j3 kj7 a0 3 160 159) else (spec_runeLen.j3 kj7 a0 3 160 191)) else (if (bt a0 0) = 237 then (spec_runeLen.j3 kj7 a0 3 128 159) else (spec_runeLen.j3 kj7 a0 3 128 191))) = some r := by rw [if_pos rfl] at H; exact H
                  clear H
                  have H := H1
                  clear H1
                  by_cases c11 : (bt a0 0) = 224
                  · rw [if_pos c11] at H
                    have c11b0 : ((bt a0 0) == 224) = true := beq_iff_eq.mpr c11
                    have c11b1 : ((bt a0 0) != 224) = false := bne_eq_false_iff_eq.mpr c11
                    clear c11
                    by_cases c12 : (bt a0 0) = 237
                    · rw [if_pos c12] at H
                      have c12b0 : ((bt a0 0) == 237) = true := beq_iff_eq.mpr c12
                      have c12b1 : ((bt a0 0) != 237) = false := bne_eq_false_iff_eq.mpr c12
                      clear c12
                      have H' := Aside0.mk H
                      clear H
                      go_wp2
                      go_meet
                      case rel => exact ⟨_, (3), (160), (159), (by first | rfl | (simp; done) | (simp [*]; done)), (by first | rfl | (simp; done) | (simp [*]; done)), (by first | rfl | (simp; done) | (simp [*]; done)), H', ⟨by have := HJ4.out; have := HJ7.out; first | omega | exact Nat.le_refl _⟩, by repeat (first | exact Drawn0.refl _ | apply Drawn0.step)⟩
                    · rw [if_neg c12] at H
                      have c12b0 : ((bt a0 0) == 237) = false := beq_eq_false_iff_ne.mpr c12
                      have c12b1 : ((bt a0 0) != 237) = true := bne_iff_ne.mpr c12
                      have H' := Aside0.mk H
                      clear H
                      go_wp2
                      go_meet
                      case rel => exact ⟨_, (3), (160), (191), (by first | rfl | (simp; done) | (simp [*]; done)), (by first | rfl | (simp; done) | (simp [*]; done)), (by first | rfl | (simp; done) | (simp [*]; done)), H', ⟨by have := HJ4.out; have := HJ7.out; first | omega | exact Nat.le_refl _⟩, by repeat (first | exact Drawn0.refl _ | apply Drawn0.step)⟩
                  · rw [if_neg c11] at H
                    have c11b0 : ((bt a0 0) == 224) = false := beq_eq_false_iff_ne.mpr c11
                    have c11b1 : ((bt a0 0) != 224) = true := bne_iff_ne.mpr c11
                    by_cases c13 : (bt a0 0) = 237
                    · rw [if_pos c13] at H
                      have c13b0 : ((bt a0 0) == 237) = true := beq_iff_eq.mpr c13
                      have c13b1 : ((bt a0 0) != 237) = false := bne_eq_false_iff_eq.mpr c13
                      clear c13
                      have H' := Aside0.mk H
                      clear H
                      go_wp2
                      go_meet
                      case rel => exact ⟨_, (3), (128), (159), (by first | rfl | (simp; done) | (simp [*]; done)), (by first | rfl | (simp; done) | (simp [*]; done)), (by first | rfl | (simp; done) | (simp [*]; done)), H', ⟨by have := HJ4.out; have := HJ7.out; first | omega | exact Nat.le_refl _⟩, by repeat (first | exact Drawn0.refl _ | apply Drawn0.step)⟩
                    · rw [if_neg c13] at H
                      have c13b0 : ((bt a0 0) == 237) = false := beq_eq_false_iff_ne.mpr c13
                      have c13b1 : ((bt a0 0) != 237) = true := bne_iff_ne.mpr c13
                      have H' := Aside0.mk H
                      clear H
                      go_wp2
                      go_meet
                      case rel => exact ⟨_, (3), (128), (191), (by first | rfl | (simp; done) | (simp [*]; done)), (by first | rfl | (simp; done) | (simp [*]; done)), (by first | rfl | (simp; done) | (simp [*]; done)), H', ⟨by have := HJ4.out; have := HJ7.out; first | omega | exact Nat.le_refl _⟩, by repeat (first | exact Drawn0.refl _ | apply Drawn0.step)⟩
                · replace c10 := Bool.eq_false_iff.mpr c10
                  subst c10
                  have H1 : (if (bt a0 0) ≥ 240 then (spec_runeLen.j2 kj7 a0 (bt a0 0) 1 128 191 (decide ((bt a0 0) ≤ 244))) else (spec_runeLen.j2 kj7 a0 (bt a0 0) 1 128 191 false)) = some r := by rw [if_neg (show ¬ (false = true) by decide)] at H; exact H
                  clear H
                  have H := H1
                  clear H1
                  have HC14 := Aside0.mk H
                  clear H
                  go_upto_region 11 with (fail)
                  go_cut [28] (fun v28 wc => ∃ (kq : Nat) (x28_13 : Bool), v28 = .bool x28_13 ∧ Aside0 (spec_runeLen.j2 kq a0 (bt a0 0) 1 128 191 x28_13 = some r) ∧ Aside0 (kq ≤ kj7) ∧ Drawn0 w wc)
                  case first =>
                    have H := HC14.out
                    clear HC14
                    by_cases c15 : (bt a0 0) ≥ 240
                    · rw [if_pos c15] at H
                      have c15b0 : decide (240 ≤ (bt a0 0)) = true := decide_eq_true c15
                      clear c15
                      (first | rw [c15b0] | (simp only [i64_w, i32_w]; rw [c15b0]) | skip)
                      have H' := Aside0.mk H
                      clear H
                      go_wp2
                      go_meet
                      case rel => exact ⟨_, (decide ((bt a0 0) ≤ 244)), (by first | rfl | (simp; done) | (simp [*]; done)), H', ⟨by have := HJ4.out; have := HJ7.out; first | omega | exact Nat.le_refl _⟩, by repeat (first | exact Drawn0.refl _ | apply Drawn0.step)⟩
                    · rw [if_neg c15] at H
                      have c15b0 : decide (240 ≤ (bt a0 0)) = false := decide_eq_false c15
                      clear c15
                      (first | rw [c15b0] | (simp only [i64_w, i32_w]; rw [c15b0]) | skip)
                      have H' := Aside0.mk H
                      clear H
                      go_wp2
                      go_meet
                      case rel => exact ⟨_, (false), (by first | rfl | (simp; done) | (simp [*]; done)), H', ⟨by have := HJ4.out; have := HJ7.out; first | omega | exact Nat.le_refl _⟩, by repeat (first | exact Drawn0.refl _ | apply Drawn0.step)⟩
                  case rest =>
                    clear HC14
                    try clear c1
                    try clear c2
                    try clear c2b0
                    try clear c2b1
                    try clear p2
                    try clear p3
                    try clear q3
                    try clear hx3
                    try clear qi3
                    try clear c4
                    try clear c6
                    try clear c6b0
                    try clear c7
                    try clear c9
                    try clear c9b0
                    try clear c10
                    try clear c11
                    try clear c11b0
                    try clear c11b1
                    try clear c12
                    try clear c12b0
                    try clear c12b1
                    try clear c13
                    try clear c13b0
                    try clear c13b1
                    try clear c15
                    try clear c15b0
                    try clear p2
                    try clear p3
                    try clear q3
                    obtain ⟨kq, x28_13, rfl, HA, HJ13, ⟨mc13, rfl⟩⟩ := hcut
                    cases kq with
                    | zero => exact absurd HA.out (by simp [spec_runeLen.j2])
                    | succ kj13 =>
                      have H := HA.out
                      clear HA
                      simp only [spec_runeLen.j2] at H
                      by_cases c16 : x28_13 = true
                      · subst c16
                        have H1 : (if (bt a0 0) = 240 then (if (bt a0 0) = 244 then (spec_runeLen.j3 kj13 a0 4 144 143) else (spec_runeLen.j3 kj13 a0 4 144 191)) else (if (bt a0 0) = 244 then (spec_runeLen.j3 kj13 a0 4 128 143) else (spec_runeLen.j3 kj13 a0 4 128 191))) = some r := by rw [if_pos rfl] at H; exact H
                        clear H
                        have H := H1
                        clear H1
                        by_cases c17 : (bt a0 0) = 240
                        · rw [if_pos c17] at H
                          have c17b0 : ((bt a0 0) == 240) = true := beq_iff_eq.mpr c17
                          have c17b1 : ((bt a0 0) != 240) = false := bne_eq_false_iff_eq.mpr c17
                          clear c17
                          by_cases c18 : (bt a0 0) = 244
                          · rw [if_pos c18] at H
                            have c18b0 : ((bt a0 0) == 244) = true := beq_iff_eq.mpr c18
                            have c18b1 : ((bt a0 0) != 244) = false := bne_eq_false_iff_eq.mpr c18
                            clear c18
                            have H' := Aside0.mk H
                            clear H
                            go_wp2
                            go_meet
                            case rel => exact ⟨_, (4), (144), (143), (by first | rfl | (simp; done) | (simp [*]; done)), (by first | rfl | (simp; done) | (simp [*]; done)), (by first | rfl | (simp; done) | (simp [*]; done)), H', ⟨by have := HJ4.out; have := HJ7.out; have := HJ13.out; first | omega | exact Nat.le_refl _⟩, by repeat (first | exact Drawn0.refl _ | apply Drawn0.step)⟩
                          · rw [if_neg c18] at H
                            have c18b0 : ((bt a0 0) == 244) = false := beq_eq_false_iff_ne.mpr c18
                            have c18b1 : ((bt a0 0) != 244) = true := bne_iff_ne.mpr c18
                            have H' := Aside0.mk H
                            clear H
                            go_wp2
                            go_meet
                            case rel => exact ⟨_, (4), (144), (191), (by first | rfl | (simp; done) | (simp [*]; done)), (by first | rfl | (simp; done) | (simp [*]; done)), (by first | rfl | (simp; done) | (simp [*]; done)), H', ⟨by have := HJ4.out; have := HJ7.out; have := HJ13.out; first | omega | exact Nat.le_refl _⟩, by repeat (first | exact Drawn0.refl _ | apply Drawn0.step)⟩
                        · rw [if_neg c17] at H
                          have c17b0 : ((bt a0 0) == 240) = false := beq_eq_false_iff_ne.mpr c17
                          have c17b1 : ((bt a0 0) != 240) = true := bne_iff_ne.mpr c17
                          by_cases c19 : (bt a0 0) = 244
                          · rw [if_pos c19] at H
                            have c19b0 : ((bt a0 0) == 244) = true := beq_iff_eq.mpr c19
                            have c19b1 : ((bt a0 0) != 244) = false := bne_eq_false_iff_eq.mpr c19
                            clear c19
                            have H' := Aside0.mk H
                            clear H
                            go_wp2
                            go_meet
                            case rel => exact ⟨_, (4), (128), (143), (by first | rfl | (simp; done) | (simp [*]; done)), (by first | rfl | (simp; done) | (simp [*]; done)), (by first | rfl | (simp; done) | (simp [*]; done)), H', ⟨by have := HJ4.out; have := HJ7.out; have := HJ13.out; first | omega | exact Nat.le_refl _⟩, by repeat (first | exact Drawn0.refl _ | apply Drawn0.step)⟩
                          · rw [if_neg c19] at H
                            have c19b0 : ((bt a0 0) == 244) = false := beq_eq_false_iff_ne.mpr c19
                            have c19b1 : ((bt a0 0) != 244) = true := bne_iff_ne.mpr c19
                            have H' := Aside0.mk H
                            clear H
                            go_wp2
                            go_meet
                            case rel => exact ⟨_, (4), (128), (191), (by first | rfl | (simp; done) | (simp [*]; done)), (by first | rfl | (simp; done) | (simp [*]; done)), (by first | rfl | (simp; done) | (simp [*]; done)), H', ⟨by have := HJ4.out; have := HJ7.out; have := HJ13.out; first | omega | exact Nat.le_refl _⟩, by repeat (first | exact Drawn0.refl _ | apply Drawn0.step)⟩
                      · replace c16 := Bool.eq_false_iff.mpr c16
                        subst c16
                        have H1 : (spec_runeLen.j3 kj13 a0 1 128 191) = some r := by rw [if_neg (show ¬ (false = true) by decide)] at H; exact H
                        clear H
                        have H := H1
                        clear H1
                        have H' := Aside0.mk H
                        clear H
                        go_wp2
                        go_meet
                        case rel => exact ⟨_, (1), (128), (191), (by first | rfl | (simp; done) | (simp [*]; done)), (by first | rfl | (simp; done) | (simp [*]; done)), (by first | rfl | (simp; done) | (simp [*]; done)), H', ⟨by have := HJ4.out; have := HJ7.out; have := HJ13.out; first | omega | exact Nat.le_refl _⟩, by repeat (first | exact Drawn0.refl _ | apply Drawn0.step)⟩
    case rest =>
      clear HC4
      try clear c1
      try clear c2
      try clear c2b0
      try clear c2b1
      try clear p2
      try clear p3
      try clear q3
      try clear hx3
      try clear qi3
      try clear c4
      try clear c6
      try clear c6b0
      try clear c7
      try clear c9
      try clear c9b0
      try clear c10
      try clear c11
      try clear c11b0
      try clear c11b1
      try clear c12
      try clear c12b0
      try clear c12b1
      try clear c13
      try clear c13b0
      try clear c13b1
      try clear c15
      try clear c15b0
      try clear c16
      try clear c17
      try clear c17b0
      try clear c17b1
      try clear c18
      try clear c18b0
      try clear c18b1
      try clear c19
      try clear c19b0
      try clear c19b1
      try clear p2
      try clear p3
      try clear q3
      obtain ⟨kq, x4_3, x5_3, x6_3, rfl, rfl, rfl, HA, HJ3, ⟨mc3, rfl⟩⟩ := hcut
      cases kq with
      | zero => exact absurd HA.out (by simp [spec_runeLen.j3])
      | succ kj3 =>
        have H := HA.out
        clear HA
        simp only [spec_runeLen.j3] at H
        by_cases c20 : x4_3 > (a0.size : Int)
        · rw [if_pos c20] at H
          have c20b0 : decide ((a0.size : Int) < x4_3) = true := decide_eq_true c20
          clear c20
          obtain rfl := Option.some.inj H
          go_wp2
          go_ret
          exact ⟨by first | rfl | (simp; done) | (simp [*]; done), by repeat (first | exact Drawn0.refl _ | apply Drawn0.step)⟩
        · rw [if_neg c20] at H
          have c20b0 : decide ((a0.size : Int) < x4_3) = false := decide_eq_false c20
          clear c20
          have H' := Aside0.mk H
          clear H
          go_wp2
          go_loopg [5, 6, 7] kj3 (fun kq v5 v6 v7 w' => ∃ (x5_2 : Int) (x6_2 : Int) (x7_2 : Int), v5 = .int .u8 x5_2 ∧ v6 = .int .u8 x6_2 ∧ v7 = .int .i64 x7_2 ∧ Aside0 (spec_runeLen.l0 kq a0 x4_3 x5_2 x6_2 x7_2 = some r) ∧ Aside0 (kq ≤ kj3) ∧ Drawn0 w w')
          case atStart => exact ⟨(x5_3), (x6_3), (1), (by first | rfl | (simp; done) | (simp [*]; done)), (by first | rfl | (simp; done) | (simp [*]; done)), (by first | rfl | (simp; done) | (simp [*]; done)), H', ⟨Nat.le_refl _⟩, by repeat (first | exact Drawn0.refl _ | apply Drawn0.step)⟩
          case round =>
            clear H'
            try clear c1
            try clear c2
            try clear c2b0
            try clear c2b1
            try clear p2
            try clear c3
            try clear p3
            try clear q3
            try clear hx3
            try clear qi3
            try clear c4
            try clear c6
            try clear c6b0
            try clear c7
            try clear c9
            try clear c9b0
            try clear c10
            try clear c11
            try clear c11b0
            try clear c11b1
            try clear c12
            try clear c12b0
            try clear c12b1
            try clear c13
            try clear c13b0
            try clear c13b1
            try clear c15
            try clear c15b0
            try clear c16
            try clear c17
            try clear c17b0
            try clear c17b1
            try clear c18
            try clear c18b0
            try clear c18b1
            try clear c19
            try clear c19b0
            try clear c19b1
            try clear c20
            try clear c20b0
            try clear p2
            try clear p3
            try clear q3
            obtain ⟨x5_2, x6_2, x7_2, rfl, rfl, rfl, HA, HK2, ⟨m2, rfl⟩⟩ := hrel
            cases gk with
            | zero => exact absurd HA.out (by simp [spec_runeLen.l0])
            | succ k2 =>
              have H := HA.out
              clear HA
              simp only [spec_runeLen.l0] at H
              by_cases c21 : x7_2 < x4_3
              · rw [if_pos c21] at H
                have c21b0 : decide (x7_2 < x4_3) = true := decide_eq_true c21
                clear c21
                by_cases c22 : 0 ≤ x7_2
                · rw [if_pos c22] at H
                  have c22b0 : decide (0 ≤ x7_2) = true := decide_eq_true c22
                  clear c22
                  by_cases c23 : x7_2 < (a0.size : Int)
                  · rw [if_pos c23] at H
                    have c23b0 : decide (x7_2 < (a0.size : Int)) = true := decide_eq_true c23
                    clear c23
                    by_cases c25 : (bt a0 x7_2) < x5_2
                    · rw [if_pos c25] at H
                      have c25b0 : decide ((bt a0 x7_2) < x5_2) = true := decide_eq_true c25
                      clear c25
                      obtain rfl := Option.some.inj H
                      have p24 : 0 ≤ (x7_2 : Int) := of_decide_eq_true (by first | (with_reducible assumption) | assumption)
                      have q24 : x7_2 < (a0.size : Int) := of_decide_eq_true (by first | (with_reducible assumption) | assumption)
                      have hx24 := bt_at a0 x7_2
                      replace p24 := eq_true p24
                      replace q24 := eq_true q24
                      go_wp2
                      go_ret
                      exact ⟨by first | rfl | (simp; done) | (simp [*]; done), by repeat (first | exact Drawn0.refl _ | apply Drawn0.step)⟩
                    · rw [if_neg c25] at H
                      have c25b0 : decide ((bt a0 x7_2) < x5_2) = false := decide_eq_false c25
                      clear c25
                      by_cases c27 : (bt a0 x7_2) > x6_2
                      · rw [if_pos c27] at H
                        have c27b0 : decide (x6_2 < (bt a0 x7_2)) = true := decide_eq_true c27
                        clear c27
                        obtain rfl := Option.some.inj H
                        have p24 : 0 ≤ (x7_2 : Int) := of_decide_eq_true (by first | (with_reducible assumption) | assumption)
                        have q24 : x7_2 < (a0.size : Int) := of_decide_eq_true (by first | (with_reducible assumption) | assumption)
                        have hx24 := bt_at a0 x7_2
                        replace p24 := eq_true p24
                        replace q24 := eq_true q24
                        have p26 : 0 ≤ (x7_2 : Int) := of_decide_eq_true (by first | (with_reducible assumption) | assumption)
                        have q26 : x7_2 < (a0.size : Int) := of_decide_eq_true (by first | (with_reducible assumption) | assumption)
                        have hx26 := bt_at a0 x7_2
                        replace p26 := eq_true p26
                        replace q26 := eq_true q26
                        go_wp2
                        go_ret
                        exact ⟨by first | rfl | (simp; done) | (simp [*]; done), by repeat (first | exact Drawn0.refl _ | apply Drawn0.step)⟩
                      · rw [if_neg c27] at H
                        have c27b0 : decide (x6_2 < (bt a0 x7_2)) = false := decide_eq_false c27
                        clear c27
                        have H' := Aside0.mk H
                        clear H
                        have p24 : 0 ≤ (x7_2 : Int) := of_decide_eq_true (by first | (with_reducible assumption) | assumption)
                        have q24 : x7_2 < (a0.size : Int) := of_decide_eq_true (by first | (with_reducible assumption) | assumption)
                        have hx24 := bt_at a0 x7_2
                        replace p24 := eq_true p24
                        replace q24 := eq_true q24
                        have p26 : 0 ≤ (x7_2 : Int) := of_decide_eq_true (by first | (with_reducible assumption) | assumption)
                        have q26 : x7_2 < (a0.size : Int) := of_decide_eq_true (by first | (with_reducible assumption) | assumption)
                        have hx26 := bt_at a0 x7_2
                        replace p26 := eq_true p26
                        replace q26 := eq_true q26
                        go_wp2
                        go_roundg k2
                        case measure => have := HJ3.out; have := HK2.out; omega
                        case rel => exact ⟨(128), (191), (wrap64 (x7_2 + 1)), (by first | rfl | (simp; done) | (simp [*]; done)), (by first | rfl | (simp; done) | (simp [*]; done)), (by first | rfl | (simp; done) | (simp [*]; done)), H', ⟨by have := HJ3.out; have := HK2.out; omega⟩, by repeat (first | exact Drawn0.refl _ | apply Drawn0.step)⟩
                  · rw [if_neg c23] at H
                    exact absurd H (by simp)
                · rw [if_neg c22] at H
                  exact absurd H (by simp)
              · rw [if_neg c21] at H
                have c21b0 : decide (x7_2 < x4_3) = false := decide_eq_false c21
                clear c21
                obtain rfl := Option.some.inj H
                go_wp2
                go_ret
                exact ⟨by first | rfl | (simp; done) | (simp [*]; done), by repeat (first | exact Drawn0.refl _ | apply Drawn0.step)⟩
  · rw [if_neg c2] at H
    exact absurd H (by simp)
end Go.Proofs.YtmjoebnphacadaaGreatDoor.Q
-- printed by this project's own program wip/tools/mkprint.py (the kit's print.py with hand-proved contracts put in)
namespace Go.Proofs.YtmjoebnphacadaaGreatDoor.Q
open Go.RowKit Go.Proofs.YtmjoebnphacadaaGreatDoorW.PrintWords Go.Proofs.YtmjoebnphacadaaGreatDoorW.PrintLast Go.Proofs.YtmjoebnphacadaaGreatDoorW.PrintMore
attribute [local go_sem] max2_int min2_int max_two min_two max_three min_three max_four min_four   -- for this text's walks alone
set_option linter.unusedVariables false
set_option linter.unusedSimpArgs false
/-! ### spec_Valid: function 24 -/
noncomputable def spec_Valid.l0 : Nat → ByteArray → Option (Bool)
  | 0, _ => none
  | k + 1, x0 => if (x0.size : Int) > 0 then ((spec_runeLen.f k x0).bind fun t106 => (if t106 = 1 then (if 0 < (x0.size : Int) then (if (bt x0 0) ≥ 128 then (some false) else (if 0 ≤ t106 then (if t106 ≤ (x0.size : Int) then (spec_Valid.l0 k (x0.extract (t106 : Int).toNat x0.size)) else (none)) else (none))) else (none)) else (if 0 ≤ t106 then (if t106 ≤ (x0.size : Int) then (spec_Valid.l0 k (x0.extract (t106 : Int).toNat x0.size)) else (none)) else (none)))) else (some true)
noncomputable def spec_Valid.f (k : Nat) (a0 : ByteArray) : Option (Bool) := spec_Valid.l0 k a0
theorem spec_Valid.mono_l : ∀ k, (∀ y0, LeO (spec_Valid.l0 k y0) (spec_Valid.l0 (k + 1) y0))
  | 0 => fun _ r h => by simp [spec_Valid.l0] at h
  | k + 1 => by
    have ih0 := spec_Valid.mono_l k
    · intro y0
      unfold spec_Valid.l0
      repeat' first
      | (with_reducible exact ih0 _)
      | (with_reducible exact spec_runeLen.mono _ _)
      | (with_reducible exact LeO.refl _)
      | (with_reducible exact LeO.none _)
      | (with_reducible refine LeO.ite ?_ ?_)
      | (with_reducible refine LeO.bind ?_ (fun _ => ?_))
      | exact ih0 _
      | exact spec_runeLen.mono _ _
      | exact LeO.none _
      | refine LeO.ite ?_ ?_
      | refine LeO.bind ?_ (fun _ => ?_)
theorem spec_Valid.mono : ∀ a0 k, LeO (spec_Valid.f k a0) (spec_Valid.f (k + 1) a0) := by
  intro a0 k
  have ih0 := spec_Valid.mono_l k
  unfold spec_Valid.f
  repeat' first
      | (with_reducible exact ih0 _)
      | (with_reducible exact spec_runeLen.mono _ _)
      | (with_reducible exact LeO.refl _)
      | (with_reducible exact LeO.none _)
      | (with_reducible refine LeO.ite ?_ ?_)
      | (with_reducible refine LeO.bind ?_ (fun _ => ?_))
      | exact ih0 _
      | exact spec_runeLen.mono _ _
      | exact LeO.none _
      | refine LeO.ite ?_ ?_
      | refine LeO.bind ?_ (fun _ => ?_)
set_option maxHeartbeats 8000000 in
set_option maxRecDepth 100000 in
theorem spec_Valid.calls (k : Nat) (a0 : ByteArray) (r : Bool) (w : World) (h : spec_Valid.f k a0 = some r) :
    Calls Tryz.prog 24 #[.string a0] w fun e w' => e = .returned (.bool r) ∧ Drawn0 w w' := by
  have H : (spec_Valid.l0 k a0) = some r := h
  clear h
  have H' := Aside0.mk H
  clear H
  go_enter Tryz.func24, Tryz.ntmps24
  go_wp2
  go_loopg [0] k (fun kq v0 w' => ∃ (x0_1 : ByteArray), v0 = .string x0_1 ∧ Aside0 (spec_Valid.l0 kq x0_1 = some r) ∧ Aside0 (kq ≤ k) ∧ Drawn0 w w')
  case atStart => exact ⟨(a0), (by first | rfl | (simp; done) | (simp [*]; done)), H', ⟨Nat.le_refl _⟩, by repeat (first | exact Drawn0.refl _ | apply Drawn0.step)⟩
  case round =>
    clear H'
    obtain ⟨x0_1, rfl, HA, HK1, ⟨m1, rfl⟩⟩ := hrel
    cases gk with
    | zero => exact absurd HA.out (by simp [spec_Valid.l0])
    | succ k1 =>
      have H := HA.out
      clear HA
      simp only [spec_Valid.l0] at H
      by_cases c2 : (x0_1.size : Int) > 0
      · rw [if_pos c2] at H
        have c2b0 : decide (0 < (x0_1.size : Int)) = true := decide_eq_true c2
        have c2b1 : decide (0 < x0_1.size) = true := decide_eq_true (by omega)
        clear c2
        replace H := Option.bind_eq_some_iff.mp H
        obtain ⟨t106, A30, H⟩ := H
        replace H : (if t106 = 1 then (if 0 < (x0_1.size : Int) then (if (bt x0_1 0) ≥ 128 then (some false) else (if 0 ≤ t106 then (if t106 ≤ (x0_1.size : Int) then (spec_Valid.l0 k1 (x0_1.extract (t106 : Int).toNat x0_1.size)) else (none)) else (none))) else (none)) else (if 0 ≤ t106 then (if t106 ≤ (x0_1.size : Int) then (spec_Valid.l0 k1 (x0_1.extract (t106 : Int).toNat x0_1.size)) else (none)) else (none))) = some r := H
        have A3 := Aside0.mk A30
        clear A30
        by_cases c4 : t106 = 1
        · rw [if_pos c4] at H
          have c4b0 : (t106 == 1) = true := beq_iff_eq.mpr c4
          have c4b1 : (t106 != 1) = false := bne_eq_false_iff_eq.mpr c4
          clear c4
          by_cases c5 : 0 < (x0_1.size : Int)
          · rw [if_pos c5] at H
            have c5b0 : decide (0 < (x0_1.size : Int)) = true := decide_eq_true c5
            have c5b1 : decide (0 < x0_1.size) = true := decide_eq_true (by omega)
            clear c5
            by_cases c7 : (bt x0_1 0) ≥ 128
            · rw [if_pos c7] at H
              have c7b0 : decide (128 ≤ (bt x0_1 0)) = true := decide_eq_true c7
              clear c7
              obtain rfl := Option.some.inj H
              go_wp2_with (first | ((with_reducible refine gate_callee (f := 28) rfl ?_); refine goesL_ (some 8) rfl rfl Tryz.func28 (by kernel_rfl) rfl #[.string x0_1] rfl (by (try simp only [List.map_toArray, List.map_cons, List.map_nil]); first | done | rfl | (simp only [List.length_drop, List.length_take]; rfl)) ?_; (with_reducible refine (spec_runeLen.calls k1 x0_1 t106 _ A3.out).mono ?_); rintro e w' ⟨rfl, ⟨nd, rfl⟩⟩; refine ⟨_, rfl, ?_⟩; have p6 : 0 ≤ (0 : Int) := (by omega); have q6 : 0 < x0_1.size := (by have : (0 : Int) < (x0_1.size : Int) := of_decide_eq_true (by first | (with_reducible assumption) | assumption); omega); have hx6 : ∀ h : 0 < x0_1.size, ((x0_1[0]'h).toNat : Int) = bt x0_1 0 := bt_at x0_1 0; clear p6; have qi6 : (0 < (x0_1.size : Int)) = True := eq_true (of_decide_eq_true (by first | (with_reducible assumption) | assumption)); replace q6 := eq_true q6))
              go_ret
              exact ⟨by first | rfl | (simp; done) | (simp [*]; done), by repeat (first | exact Drawn0.refl _ | apply Drawn0.step)⟩
            · rw [if_neg c7] at H
              have c7b0 : decide (128 ≤ (bt x0_1 0)) = false := decide_eq_false c7
              clear c7
              by_cases c8 : 0 ≤ t106
              · rw [if_pos c8] at H
                have c8b0 := eq_true c8
                have c8b1 : decide (0 ≤ t106) = true := decide_eq_true c8
                clear c8
                by_cases c9 : t106 ≤ (x0_1.size : Int)
                · rw [if_pos c9] at H
                  have c9b0 := eq_true c9
                  have c9b1 : decide (t106 ≤ (x0_1.size : Int)) = true := decide_eq_true c9
                  clear c9
                  have H' := Aside0.mk H
                  clear H
                  go_wp2_with (first | ((with_reducible refine gate_callee (f := 28) rfl ?_); refine goesL_ (some 8) rfl rfl Tryz.func28 (by kernel_rfl) rfl #[.string x0_1] rfl (by (try simp only [List.map_toArray, List.map_cons, List.map_nil]); first | done | rfl | (simp only [List.length_drop, List.length_take]; rfl)) ?_; (with_reducible refine (spec_runeLen.calls k1 x0_1 t106 _ A3.out).mono ?_); rintro e w' ⟨rfl, ⟨nd, rfl⟩⟩; refine ⟨_, rfl, ?_⟩; have p6 : 0 ≤ (0 : Int) := (by omega); have q6 : 0 < x0_1.size := (by have : (0 : Int) < (x0_1.size : Int) := of_decide_eq_true (by first | (with_reducible assumption) | assumption); omega); have hx6 : ∀ h : 0 < x0_1.size, ((x0_1[0]'h).toNat : Int) = bt x0_1 0 := bt_at x0_1 0; clear p6; have qi6 : (0 < (x0_1.size : Int)) = True := eq_true (of_decide_eq_true (by first | (with_reducible assumption) | assumption)); replace q6 := eq_true q6))
                  go_roundg k1
                  case measure => have := HK1.out; omega
                  case rel => exact ⟨(x0_1.extract (t106 : Int).toNat x0_1.size), (by first | rfl | (simp; done) | (simp [*]; done)), H', ⟨by have := HK1.out; omega⟩, by repeat (first | exact Drawn0.refl _ | apply Drawn0.step)⟩
                · rw [if_neg c9] at H
                  exact absurd H (by simp)
              · rw [if_neg c8] at H
                exact absurd H (by simp)
          · rw [if_neg c5] at H
            exact absurd H (by simp)
        · rw [if_neg c4] at H
          have c4b0 : (t106 == 1) = false := beq_eq_false_iff_ne.mpr c4
          have c4b1 : (t106 != 1) = true := bne_iff_ne.mpr c4
          by_cases c10 : 0 ≤ t106
          · rw [if_pos c10] at H
            have c10b0 := eq_true c10
            have c10b1 : decide (0 ≤ t106) = true := decide_eq_true c10
            clear c10
            by_cases c11 : t106 ≤ (x0_1.size : Int)
            · rw [if_pos c11] at H
              have c11b0 := eq_true c11
              have c11b1 : decide (t106 ≤ (x0_1.size : Int)) = true := decide_eq_true c11
              clear c11
              have H' := Aside0.mk H
              clear H
              go_wp2_with (first | ((with_reducible refine gate_callee (f := 28) rfl ?_); refine goesL_ (some 8) rfl rfl Tryz.func28 (by kernel_rfl) rfl #[.string x0_1] rfl (by (try simp only [List.map_toArray, List.map_cons, List.map_nil]); first | done | rfl | (simp only [List.length_drop, List.length_take]; rfl)) ?_; (with_reducible refine (spec_runeLen.calls k1 x0_1 t106 _ A3.out).mono ?_); rintro e w' ⟨rfl, ⟨nd, rfl⟩⟩; refine ⟨_, rfl, ?_⟩))
              go_roundg k1
              case measure => have := HK1.out; omega
              case rel => exact ⟨(x0_1.extract (t106 : Int).toNat x0_1.size), (by first | rfl | (simp; done) | (simp [*]; done)), H', ⟨by have := HK1.out; omega⟩, by repeat (first | exact Drawn0.refl _ | apply Drawn0.step)⟩
            · rw [if_neg c11] at H
              exact absurd H (by simp)
          · rw [if_neg c10] at H
            exact absurd H (by simp)
      · rw [if_neg c2] at H
        have c2b0 : decide (0 < (x0_1.size : Int)) = false := decide_eq_false c2
        have c2b1 : decide (0 < x0_1.size) = false := decide_eq_false (by omega)
        clear c2
        obtain rfl := Option.some.inj H
        go_wp2
        go_ret
        exact ⟨by first | rfl | (simp; done) | (simp [*]; done), by repeat (first | exact Drawn0.refl _ | apply Drawn0.step)⟩
end Go.Proofs.YtmjoebnphacadaaGreatDoor.Q
-- printed by this project's own program wip/tools/mkprint.py (the kit's print.py with hand-proved contracts put in)
namespace Go.Proofs.YtmjoebnphacadaaGreatDoor.Q
open Go.RowKit Go.Proofs.YtmjoebnphacadaaGreatDoorW.PrintWords Go.Proofs.YtmjoebnphacadaaGreatDoorW.PrintLast Go.Proofs.YtmjoebnphacadaaGreatDoorW.PrintMore
attribute [local go_sem] max2_int min2_int max_two min_two max_three min_three max_four min_four   -- for this text's walks alone
set_option linter.unusedVariables false
set_option linter.unusedSimpArgs false
/-! ### spec_Begins: function 36 -/
noncomputable def spec_Begins.f (a0 : ByteArray) (a1 : ByteArray) : Option (Bool) := if (a1.size : Int) ≤ (a0.size : Int) then (if 0 ≤ (a1.size : Int) then (some ((a0.extract 0 ((a1.size : Int) : Int).toNat).toList == a1.toList)) else (none)) else (some false)
set_option maxHeartbeats 8000000 in
set_option maxRecDepth 100000 in
theorem spec_Begins.calls (a0 : ByteArray) (a1 : ByteArray) (r : Bool) (w : World) (h : spec_Begins.f a0 a1 = some r) :
    Calls Tryz.prog 36 #[.string a0, .string a1] w fun e w' => e = .returned (.bool r) ∧ Drawn0 w w' := by
  have H : (if (a1.size : Int) ≤ (a0.size : Int) then (if 0 ≤ (a1.size : Int) then (some ((a0.extract 0 ((a1.size : Int) : Int).toNat).toList == a1.toList)) else (none)) else (some false)) = some r := h
  clear h
  by_cases c3 : (a1.size : Int) ≤ (a0.size : Int)
  · rw [if_pos c3] at H
    have c3b0 : decide ((a1.size : Int) ≤ (a0.size : Int)) = true := decide_eq_true c3
    have c3b1 : decide (a1.size ≤ a0.size) = true := decide_eq_true (Int.ofNat_le.mp c3)
    clear c3
    by_cases c4 : 0 ≤ (a1.size : Int)
    · rw [if_pos c4] at H
      have c4b0 := eq_true c4
      have c4b1 : decide (0 ≤ (a1.size : Int)) = true := decide_eq_true c4
      clear c4
      have c5b0 := eq_true (of_decide_eq_true (by first | (with_reducible assumption) | assumption) : (a1.size : Int) ≤ (a0.size : Int))
      obtain rfl := Option.some.inj H
      go_enter Tryz.func36, Tryz.ntmps36
      go_wp2
      go_ret
      exact ⟨by first | rfl | (simp; done) | (simp [*]; done), by repeat (first | exact Drawn0.refl _ | apply Drawn0.step)⟩
    · rw [if_neg c4] at H
      exact absurd H (by simp)
  · rw [if_neg c3] at H
    have c3b0 : decide ((a1.size : Int) ≤ (a0.size : Int)) = false := decide_eq_false c3
    have c3b1 : decide (a1.size ≤ a0.size) = false := decide_eq_false (fun h => c3 (Int.ofNat_le.mpr h))
    clear c3
    obtain rfl := Option.some.inj H
    go_enter Tryz.func36, Tryz.ntmps36
    go_wp2
    go_ret
    exact ⟨by first | rfl | (simp; done) | (simp [*]; done), by repeat (first | exact Drawn0.refl _ | apply Drawn0.step)⟩
end Go.Proofs.YtmjoebnphacadaaGreatDoor.Q
-- printed by this project's own program wip/tools/mkprint.py (the kit's print.py with hand-proved contracts put in)
namespace Go.Proofs.YtmjoebnphacadaaGreatDoor.Q
open Go.RowKit Go.Proofs.YtmjoebnphacadaaGreatDoorW.PrintWords Go.Proofs.YtmjoebnphacadaaGreatDoorW.PrintLast Go.Proofs.YtmjoebnphacadaaGreatDoorW.PrintMore
attribute [local go_sem] max2_int min2_int max_two min_two max_three min_three max_four min_four   -- for this text's walks alone
set_option linter.unusedVariables false
set_option linter.unusedSimpArgs false
/-! ### spec_wideBlank: function 25 -/
noncomputable def spec_wideBlank.l0 : Nat → ByteArray → List ByteArray → Int → Int → Option (Bool)
  | 0, _, _, _, _ => none
  | k + 1, x0, x5, x6, x7 => if x7 < x6 then (if 0 ≤ x7 then (if x7 < (x5.length : Int) then ((spec_Begins.f x0 (rdOf ByteArray.empty x5 x7)).bind fun t111 => (if t111 = true then (some true) else (spec_wideBlank.l0 k x0 x5 x6 (wrap64 (x7 + 1))))) else (none)) else (none)) else (if (x0.size : Int) > 2 then (if 0 < (x0.size : Int) then (if (bt x0 0) = 226 then (if 1 < (x0.size : Int) then (if (bt x0 1) = 128 then (if 2 < (x0.size : Int) then (if (bt x0 2) ≥ 128 then (some (decide ((bt x0 2) ≤ 138))) else (some false)) else (none)) else (some false)) else (none)) else (some false)) else (none)) else (some false))
noncomputable def spec_wideBlank.f (k : Nat) (a0 : ByteArray) : Option (Bool) := (some (([(⟨#[194, 133]⟩ : ByteArray), (⟨#[194, 160]⟩ : ByteArray), (⟨#[225, 154, 128]⟩ : ByteArray), (⟨#[226, 128, 168]⟩ : ByteArray), (⟨#[226, 128, 169]⟩ : ByteArray), (⟨#[226, 128, 175]⟩ : ByteArray), (⟨#[226, 129, 159]⟩ : ByteArray), (⟨#[227, 128, 128]⟩ : ByteArray)] : List ByteArray) : List ByteArray)).bind fun y107 => (spec_wideBlank.l0 k a0 y107 (y107.length : Int) 0)
theorem spec_wideBlank.mono_l : ∀ k, (∀ y0 y1 y2 y3, LeO (spec_wideBlank.l0 k y0 y1 y2 y3) (spec_wideBlank.l0 (k + 1) y0 y1 y2 y3))
  | 0 => fun _ _ _ _ r h => by simp [spec_wideBlank.l0] at h
  | k + 1 => by
    have ih0 := spec_wideBlank.mono_l k
    · intro y0 y1 y2 y3
      unfold spec_wideBlank.l0
      repeat' first
      | (with_reducible exact ih0 _ _ _ _)
      | (with_reducible exact LeO.refl _)
      | (with_reducible exact LeO.none _)
      | (with_reducible refine LeO.ite ?_ ?_)
      | (with_reducible refine LeO.bind ?_ (fun _ => ?_))
      | exact ih0 _ _ _ _
      | exact LeO.none _
      | refine LeO.ite ?_ ?_
      | refine LeO.bind ?_ (fun _ => ?_)
theorem spec_wideBlank.mono : ∀ a0 k, LeO (spec_wideBlank.f k a0) (spec_wideBlank.f (k + 1) a0) := by
  intro a0 k
  have ih0 := spec_wideBlank.mono_l k
  unfold spec_wideBlank.f
  repeat' first
      | (with_reducible exact ih0 _ _ _ _)
      | (with_reducible exact LeO.refl _)
      | (with_reducible exact LeO.none _)
      | (with_reducible refine LeO.ite ?_ ?_)
      | (with_reducible refine LeO.bind ?_ (fun _ => ?_))
      | exact ih0 _ _ _ _
      | exact LeO.none _
      | refine LeO.ite ?_ ?_
      | refine LeO.bind ?_ (fun _ => ?_)
set_option maxHeartbeats 8000000 in
set_option maxRecDepth 100000 in
theorem spec_wideBlank.calls (k : Nat) (a0 : ByteArray) (r : Bool) (w : World) (h : spec_wideBlank.f k a0 = some r) :
    Calls Tryz.prog 25 #[.string a0] w fun e w' => e = .returned (.bool r) ∧ Below w.heap.size w w' := by
  have HB := Aside0.mk (Below.refl w.heap.size w)
  have H : ((some (([(⟨#[194, 133]⟩ : ByteArray), (⟨#[194, 160]⟩ : ByteArray), (⟨#[225, 154, 128]⟩ : ByteArray), (⟨#[226, 128, 168]⟩ : ByteArray), (⟨#[226, 128, 169]⟩ : ByteArray), (⟨#[226, 128, 175]⟩ : ByteArray), (⟨#[226, 129, 159]⟩ : ByteArray), (⟨#[227, 128, 128]⟩ : ByteArray)] : List ByteArray) : List ByteArray)).bind fun y107 => (spec_wideBlank.l0 k a0 y107 (y107.length : Int) 0)) = some r := h
  clear h
  obtain ⟨y107, hy107⟩ : ∃ y_ : List ByteArray, y_ = (([(⟨#[194, 133]⟩ : ByteArray), (⟨#[194, 160]⟩ : ByteArray), (⟨#[225, 154, 128]⟩ : ByteArray), (⟨#[226, 128, 168]⟩ : ByteArray), (⟨#[226, 128, 169]⟩ : ByteArray), (⟨#[226, 128, 175]⟩ : ByteArray), (⟨#[226, 129, 159]⟩ : ByteArray), (⟨#[227, 128, 128]⟩ : ByteArray)] : List ByteArray)) := ⟨_, rfl⟩
  replace H : (spec_wideBlank.l0 k a0 y107 (y107.length : Int) 0) = some r := by first | (rw [hy107]; with_reducible exact H) | (have H2_ := (Option.bind_some _ _).symm.trans H; rw [hy107]; with_reducible exact H2_) | (have H2_ := (Option.bind_some _ _).symm.trans H; with_reducible exact H2_) | with_reducible exact H | (rw [hy107]; exact H) | exact H
  have Ny107 := Aside0.mk hy107
  clear hy107
  have H' := Aside0.mk H
  clear H
  go_enter Tryz.func25, Tryz.ntmps25
  go_wp2_with (first | ((with_reducible refine gate_dst (N := 5) rfl ?_); refine Kd.R_lit Kd.string _ 9 ?hg (N := 5) ?hd (xs := ([(⟨#[194, 133]⟩ : ByteArray), (⟨#[194, 160]⟩ : ByteArray), (⟨#[225, 154, 128]⟩ : ByteArray), (⟨#[226, 128, 168]⟩ : ByteArray), (⟨#[226, 128, 169]⟩ : ByteArray), (⟨#[226, 128, 175]⟩ : ByteArray), (⟨#[226, 129, 159]⟩ : ByteArray), (⟨#[227, 128, 128]⟩ : ByteArray)] : List ByteArray)) (inner := [.string (⟨#[194, 133]⟩ : ByteArray), .string (⟨#[194, 160]⟩ : ByteArray), .string (⟨#[225, 154, 128]⟩ : ByteArray), .string (⟨#[226, 128, 168]⟩ : ByteArray), .string (⟨#[226, 128, 169]⟩ : ByteArray), .string (⟨#[226, 128, 175]⟩ : ByteArray), .string (⟨#[226, 129, 159]⟩ : ByteArray), .string (⟨#[227, 128, 128]⟩ : ByteArray)]) (ok := fun _ => True) (okp := fun _ => True) ?hr ?hp (fun _ hk => hk) trivial (Below.refl _ _) (Nat.le_refl _) (by simp) ?_; (case hd => rfl); (case hg => rfl); (case hr => first | (go_simp; done) | (go_simp; rfl)); (case hp => exact (Reps.one (show Kd.M Kd.string _ _ _ (⟨#[194, 133]⟩ : ByteArray) [.string (⟨#[194, 133]⟩ : ByteArray)] from rfl) (Reps.one (show Kd.M Kd.string _ _ _ (⟨#[194, 160]⟩ : ByteArray) [.string (⟨#[194, 160]⟩ : ByteArray)] from rfl) (Reps.one (show Kd.M Kd.string _ _ _ (⟨#[225, 154, 128]⟩ : ByteArray) [.string (⟨#[225, 154, 128]⟩ : ByteArray)] from rfl) (Reps.one (show Kd.M Kd.string _ _ _ (⟨#[226, 128, 168]⟩ : ByteArray) [.string (⟨#[226, 128, 168]⟩ : ByteArray)] from rfl) (Reps.one (show Kd.M Kd.string _ _ _ (⟨#[226, 128, 169]⟩ : ByteArray) [.string (⟨#[226, 128, 169]⟩ : ByteArray)] from rfl) (Reps.one (show Kd.M Kd.string _ _ _ (⟨#[226, 128, 175]⟩ : ByteArray) [.string (⟨#[226, 128, 175]⟩ : ByteArray)] from rfl) (Reps.one (show Kd.M Kd.string _ _ _ (⟨#[226, 129, 159]⟩ : ByteArray) [.string (⟨#[226, 129, 159]⟩ : ByteArray)] from rfl) (Reps.one (show Kd.M Kd.string _ _ _ (⟨#[227, 128, 128]⟩ : ByteArray) [.string (⟨#[227, 128, 128]⟩ : ByteArray)] from rfl) (Reps.none _ _)))))))))); intro v108 w2 ho3 hb hg_ hnew_; clear hg_ hnew_; (first | rw [← Ny107.out] at ho3 | (simp only [Int.reduceToNat] at ho3; rw [← Ny107.out] at ho3)); have n0_ := Aside0.mk (Kd.R_lower ho3 (below_size (by repeat (first | (with_reducible first | exact HB.out | apply below_alloc | apply pw_below_drewN | apply below_drew1) | exact HB.out)))); have n1_ := Aside0.mk (below_step (by repeat (first | (with_reducible first | exact HB.out | apply below_alloc | apply pw_below_drewN | apply below_drew1) | exact HB.out)) hb); clear HB; have HO109 := n0_; have HB := n1_; clear n0_ n1_; clear hb ho3; obtain ⟨Ao4, co4, eo4⟩ := Kd.R_slice HO109.out; subst eo4))
  go_loopg [7] k (fun kq v7 w' => ∃ (x7_1 : Int), v7 = .int .i64 x7_1 ∧ Aside0 (spec_wideBlank.l0 kq a0 y107 (y107.length : Int) x7_1 = some r) ∧ Aside0 (kq ≤ k) ∧ Aside0 (Kd.R Kd.string 9 w' w.heap.size (fun _ => True) (.slice Ao4 y107.length co4) y107) ∧ Aside0 (Below w.heap.size w w'))
  case atStart => exact ⟨(0), (by first | rfl | (simp; done) | (simp [*]; done)), H', ⟨Nat.le_refl _⟩, ⟨by (with_reducible repeat (first | apply Kd.R_alloc | apply Kd.R_drewN | apply Kd.R_drew)); exact HO109.out⟩, ⟨by repeat (first | (with_reducible first | exact HB.out | apply below_alloc | apply pw_below_drewN | apply below_drew1) | exact HB.out)⟩⟩
  case round =>
    clear H'
    try clear c2
    try clear p2
    obtain ⟨x7_1, rfl, HA, HK1, HO_5, HB⟩ := hrel
    cases gk with
    | zero => exact absurd HA.out (by simp [spec_wideBlank.l0])
    | succ k1 =>
      have H := HA.out
      clear HA
      simp only [spec_wideBlank.l0] at H
      by_cases c5 : x7_1 < (y107.length : Int)
      · rw [if_pos c5] at H
        have c5b0 : decide (x7_1 < (y107.length : Int)) = true := decide_eq_true c5
        clear c5
        by_cases c6 : 0 ≤ x7_1
        · rw [if_pos c6] at H
          have c6b0 : decide (0 ≤ x7_1) = true := decide_eq_true c6
          clear c6
          by_cases c7 : x7_1 < (y107.length : Int)
          · rw [if_pos c7] at H
            have c7b0 : decide (x7_1 < (y107.length : Int)) = true := decide_eq_true c7
            clear c7
            replace H := Option.bind_eq_some_iff.mp H
            obtain ⟨t111, A80, H⟩ := H
            replace H : (if t111 = true then (some true) else (spec_wideBlank.l0 k1 a0 y107 (y107.length : Int) (wrap64 (x7_1 + 1)))) = some r := H
            have A8 := Aside0.mk A80
            clear A80
            by_cases c9 : t111 = true
            · subst c9
              have H1 : (some true) = some r := by rw [if_pos rfl] at H; exact H
              clear H
              have H := H1
              clear H1
              obtain rfl := Option.some.inj H
              have p110 : 0 ≤ (x7_1 : Int) := of_decide_eq_true (by first | (with_reducible assumption) | assumption)
              have q110 : x7_1 < (y107.length : Int) := of_decide_eq_true (by first | (with_reducible assumption) | assumption)
              obtain ⟨ad110, e110, hx110_0⟩ := Kd.at_string (Kd.R_reads' HO_5.out).2.2 x7_1 p110 q110
              cases e110
              replace p110 := eq_true p110
              replace q110 := eq_true q110
              go_wp2_with (first | ((with_reducible refine gate_callee (f := 36) rfl ?_); refine goesL_ (some 13) rfl rfl Tryz.func36 (by kernel_rfl) rfl #[.string a0, .string (rdOf ByteArray.empty y107 x7_1)] rfl (by (try simp only [List.map_toArray, List.map_cons, List.map_nil]); first | done | rfl | (simp only [List.length_drop, List.length_take]; rfl)) ?_; (with_reducible refine (spec_Begins.calls a0 (rdOf ByteArray.empty y107 x7_1) true _ A8.out).mono ?_); rintro e w' ⟨rfl, ⟨nd, rfl⟩⟩; refine ⟨_, rfl, ?_⟩))
              go_ret
              exact ⟨by first | rfl | (simp [errW_none, errW_some] <;> rfl) | (simp [*, errW_none, errW_some] <;> rfl), by repeat (first | (with_reducible first | exact HB.out | apply below_alloc | apply pw_below_drewN | apply below_drew1) | exact HB.out)⟩
            · replace c9 := Bool.eq_false_iff.mpr c9
              subst c9
              have H1 : (spec_wideBlank.l0 k1 a0 y107 (y107.length : Int) (wrap64 (x7_1 + 1))) = some r := by rw [if_neg (show ¬ (false = true) by decide)] at H; exact H
              clear H
              have H := H1
              clear H1
              have H' := Aside0.mk H
              clear H
              have p110 : 0 ≤ (x7_1 : Int) := of_decide_eq_true (by first | (with_reducible assumption) | assumption)
              have q110 : x7_1 < (y107.length : Int) := of_decide_eq_true (by first | (with_reducible assumption) | assumption)
              obtain ⟨ad110, e110, hx110_0⟩ := Kd.at_string (Kd.R_reads' HO_5.out).2.2 x7_1 p110 q110
              cases e110
              replace p110 := eq_true p110
              replace q110 := eq_true q110
              go_wp2_with (first | ((with_reducible refine gate_callee (f := 36) rfl ?_); refine goesL_ (some 13) rfl rfl Tryz.func36 (by kernel_rfl) rfl #[.string a0, .string (rdOf ByteArray.empty y107 x7_1)] rfl (by (try simp only [List.map_toArray, List.map_cons, List.map_nil]); first | done | rfl | (simp only [List.length_drop, List.length_take]; rfl)) ?_; (with_reducible refine (spec_Begins.calls a0 (rdOf ByteArray.empty y107 x7_1) false _ A8.out).mono ?_); rintro e w' ⟨rfl, ⟨nd, rfl⟩⟩; refine ⟨_, rfl, ?_⟩))
              go_roundg k1
              case measure => have := HK1.out; omega
              case rel => exact ⟨(wrap64 (x7_1 + 1)), (by first | rfl | (simp; done) | (simp [*]; done)), H', ⟨by have := HK1.out; omega⟩, ⟨by (with_reducible repeat (first | apply Kd.R_alloc | apply Kd.R_drewN | apply Kd.R_drew)); exact HO_5.out⟩, ⟨by repeat (first | (with_reducible first | exact HB.out | apply below_alloc | apply pw_below_drewN | apply below_drew1) | exact HB.out)⟩⟩
          · rw [if_neg c7] at H
            exact absurd H (by simp)
        · rw [if_neg c6] at H
          exact absurd H (by simp)
      · rw [if_neg c5] at H
        have c5b0 : decide (x7_1 < (y107.length : Int)) = false := decide_eq_false c5
        clear c5
        by_cases c10 : (a0.size : Int) > 2
        · rw [if_pos c10] at H
          have c10b0 : decide (2 < (a0.size : Int)) = true := decide_eq_true c10
          have c10b1 : decide (2 < a0.size) = true := decide_eq_true (by omega)
          clear c10
          by_cases c11 : 0 < (a0.size : Int)
          · rw [if_pos c11] at H
            have c11b0 : decide (0 < (a0.size : Int)) = true := decide_eq_true c11
            have c11b1 : decide (0 < a0.size) = true := decide_eq_true (by omega)
            clear c11
            by_cases c13 : (bt a0 0) = 226
            · rw [if_pos c13] at H
              have c13b0 : ((bt a0 0) == 226) = true := beq_iff_eq.mpr c13
              have c13b1 : ((bt a0 0) != 226) = false := bne_eq_false_iff_eq.mpr c13
              clear c13
              by_cases c14 : 1 < (a0.size : Int)
              · rw [if_pos c14] at H
                have c14b0 : decide (1 < (a0.size : Int)) = true := decide_eq_true c14
                have c14b1 : decide (1 < a0.size) = true := decide_eq_true (by omega)
                clear c14
                by_cases c16 : (bt a0 1) = 128
                · rw [if_pos c16] at H
                  have c16b0 : ((bt a0 1) == 128) = true := beq_iff_eq.mpr c16
                  have c16b1 : ((bt a0 1) != 128) = false := bne_eq_false_iff_eq.mpr c16
                  clear c16
                  by_cases c17 : 2 < (a0.size : Int)
                  · rw [if_pos c17] at H
                    have c17b0 : decide (2 < (a0.size : Int)) = true := decide_eq_true c17
                    have c17b1 : decide (2 < a0.size) = true := decide_eq_true (by omega)
                    clear c17
                    by_cases c19 : (bt a0 2) ≥ 128
                    · rw [if_pos c19] at H
                      have c19b0 : decide (128 ≤ (bt a0 2)) = true := decide_eq_true c19
                      clear c19
                      obtain rfl := Option.some.inj H
                      have p12 : 0 ≤ (0 : Int) := (by omega)
                      have q12 : 0 < a0.size := (by have : (0 : Int) < (a0.size : Int) := of_decide_eq_true (by first | (with_reducible assumption) | assumption); omega)
                      have hx12 : ∀ h : 0 < a0.size, ((a0[0]'h).toNat : Int) = bt a0 0 := bt_at a0 0
                      clear p12
                      have qi12 : (0 < (a0.size : Int)) = True := eq_true (of_decide_eq_true (by first | (with_reducible assumption) | assumption))
                      replace q12 := eq_true q12
                      have p15 : 0 ≤ (1 : Int) := (by omega)
                      have q15 : 1 < a0.size := (by have : (1 : Int) < (a0.size : Int) := of_decide_eq_true (by first | (with_reducible assumption) | assumption); omega)
                      have hx15 : ∀ h : 1 < a0.size, ((a0[1]'h).toNat : Int) = bt a0 1 := bt_at a0 1
                      clear p15
                      have qi15 : (1 < (a0.size : Int)) = True := eq_true (of_decide_eq_true (by first | (with_reducible assumption) | assumption))
                      replace q15 := eq_true q15
                      have p18 : 0 ≤ (2 : Int) := (by omega)
                      have q18 : 2 < a0.size := (by have : (2 : Int) < (a0.size : Int) := of_decide_eq_true (by first | (with_reducible assumption) | assumption); omega)
                      have hx18 : ∀ h : 2 < a0.size, ((a0[2]'h).toNat : Int) = bt a0 2 := bt_at a0 2
                      clear p18
                      have qi18 : (2 < (a0.size : Int)) = True := eq_true (of_decide_eq_true (by first | (with_reducible assumption) | assumption))
                      replace q18 := eq_true q18
                      have p20 : 0 ≤ (2 : Int) := (by omega)
                      have q20 : 2 < a0.size := (by have : (2 : Int) < (a0.size : Int) := of_decide_eq_true (by first | (with_reducible assumption) | assumption); omega)
                      have hx20 : ∀ h : 2 < a0.size, ((a0[2]'h).toNat : Int) = bt a0 2 := bt_at a0 2
                      clear p20
                      have qi20 : (2 < (a0.size : Int)) = True := eq_true (of_decide_eq_true (by first | (with_reducible assumption) | assumption))
                      replace q20 := eq_true q20
                      go_wp2
                      go_ret
                      exact ⟨by first | rfl | (simp [errW_none, errW_some] <;> rfl) | (simp [*, errW_none, errW_some] <;> rfl), by repeat (first | (with_reducible first | exact HB.out | apply below_alloc | apply pw_below_drewN | apply below_drew1) | exact HB.out)⟩
                    · rw [if_neg c19] at H
                      have c19b0 : decide (128 ≤ (bt a0 2)) = false := decide_eq_false c19
                      clear c19
                      obtain rfl := Option.some.inj H
                      have p12 : 0 ≤ (0 : Int) := (by omega)
                      have q12 : 0 < a0.size := (by have : (0 : Int) < (a0.size : Int) := of_decide_eq_true (by first | (with_reducible assumption) | assumption); omega)
                      have hx12 : ∀ h : 0 < a0.size, ((a0[0]'h).toNat : Int) = bt a0 0 := bt_at a0 0
                      clear p12
                      have qi12 : (0 < (a0.size : Int)) = True := eq_true (of_decide_eq_true (by first | (with_reducible assumption) | assumption))
                      replace q12 := eq_true q12
                      have p15 : 0 ≤ (1 : Int) := (by omega)
                      have q15 : 1 < a0.size := (by have : (1 : Int) < (a0.size : Int) := of_decide_eq_true (by first | (with_reducible assumption) | assumption); omega)
                      have hx15 : ∀ h : 1 < a0.size, ((a0[1]'h).toNat : Int) = bt a0 1 := bt_at a0 1
                      clear p15
                      have qi15 : (1 < (a0.size : Int)) = True := eq_true (of_decide_eq_true (by first | (with_reducible assumption) | assumption))
                      replace q15 := eq_true q15
                      have p18 : 0 ≤ (2 : Int) := (by omega)
                      have q18 : 2 < a0.size := (by have : (2 : Int) < (a0.size : Int) := of_decide_eq_true (by first | (with_reducible assumption) | assumption); omega)
                      have hx18 : ∀ h : 2 < a0.size, ((a0[2]'h).toNat : Int) = bt a0 2 := bt_at a0 2
                      clear p18
                      have qi18 : (2 < (a0.size : Int)) = True := eq_true (of_decide_eq_true (by first | (with_reducible assumption) | assumption))
                      replace q18 := eq_true q18
                      go_wp2
                      go_ret
                      exact ⟨by first | rfl | (simp [errW_none, errW_some] <;> rfl) | (simp [*, errW_none, errW_some] <;> rfl), by repeat (first | (with_reducible first | exact HB.out | apply below_alloc | apply pw_below_drewN | apply below_drew1) | exact HB.out)⟩
                  · rw [if_neg c17] at H
                    exact absurd H (by simp)
                · rw [if_neg c16] at H
                  have c16b0 : ((bt a0 1) == 128) = false := beq_eq_false_iff_ne.mpr c16
                  have c16b1 : ((bt a0 1) != 128) = true := bne_iff_ne.mpr c16
                  obtain rfl := Option.some.inj H
                  have p12 : 0 ≤ (0 : Int) := (by omega)
                  have q12 : 0 < a0.size := (by have : (0 : Int) < (a0.size : Int) := of_decide_eq_true (by first | (with_reducible assumption) | assumption); omega)
                  have hx12 : ∀ h : 0 < a0.size, ((a0[0]'h).toNat : Int) = bt a0 0 := bt_at a0 0
                  clear p12
                  have qi12 : (0 < (a0.size : Int)) = True := eq_true (of_decide_eq_true (by first | (with_reducible assumption) | assumption))
                  replace q12 := eq_true q12
                  have p15 : 0 ≤ (1 : Int) := (by omega)
                  have q15 : 1 < a0.size := (by have : (1 : Int) < (a0.size : Int) := of_decide_eq_true (by first | (with_reducible assumption) | assumption); omega)
                  have hx15 : ∀ h : 1 < a0.size, ((a0[1]'h).toNat : Int) = bt a0 1 := bt_at a0 1
                  clear p15
                  have qi15 : (1 < (a0.size : Int)) = True := eq_true (of_decide_eq_true (by first | (with_reducible assumption) | assumption))
                  replace q15 := eq_true q15
                  go_wp2
                  go_ret
                  exact ⟨by first | rfl | (simp [errW_none, errW_some] <;> rfl) | (simp [*, errW_none, errW_some] <;> rfl), by repeat (first | (with_reducible first | exact HB.out | apply below_alloc | apply pw_below_drewN | apply below_drew1) | exact HB.out)⟩
              · rw [if_neg c14] at H
                exact absurd H (by simp)
            · rw [if_neg c13] at H
              have c13b0 : ((bt a0 0) == 226) = false := beq_eq_false_iff_ne.mpr c13
              have c13b1 : ((bt a0 0) != 226) = true := bne_iff_ne.mpr c13
              obtain rfl := Option.some.inj H
              have p12 : 0 ≤ (0 : Int) := (by omega)
              have q12 : 0 < a0.size := (by have : (0 : Int) < (a0.size : Int) := of_decide_eq_true (by first | (with_reducible assumption) | assumption); omega)
              have hx12 : ∀ h : 0 < a0.size, ((a0[0]'h).toNat : Int) = bt a0 0 := bt_at a0 0
              clear p12
              have qi12 : (0 < (a0.size : Int)) = True := eq_true (of_decide_eq_true (by first | (with_reducible assumption) | assumption))
              replace q12 := eq_true q12
              go_wp2
              go_ret
              exact ⟨by first | rfl | (simp [errW_none, errW_some] <;> rfl) | (simp [*, errW_none, errW_some] <;> rfl), by repeat (first | (with_reducible first | exact HB.out | apply below_alloc | apply pw_below_drewN | apply below_drew1) | exact HB.out)⟩
          · rw [if_neg c11] at H
            exact absurd H (by simp)
        · rw [if_neg c10] at H
          have c10b0 : decide (2 < (a0.size : Int)) = false := decide_eq_false c10
          have c10b1 : decide (2 < a0.size) = false := decide_eq_false (by omega)
          clear c10
          obtain rfl := Option.some.inj H
          go_wp2
          go_ret
          exact ⟨by first | rfl | (simp [errW_none, errW_some] <;> rfl) | (simp [*, errW_none, errW_some] <;> rfl), by repeat (first | (with_reducible first | exact HB.out | apply below_alloc | apply pw_below_drewN | apply below_drew1) | exact HB.out)⟩
end Go.Proofs.YtmjoebnphacadaaGreatDoor.Q
-- printed by this project's own program wip/tools/mkprint.py (the kit's print.py with hand-proved contracts put in)
namespace Go.Proofs.YtmjoebnphacadaaGreatDoor.Q
open Go.RowKit Go.Proofs.YtmjoebnphacadaaGreatDoorW.PrintWords Go.Proofs.YtmjoebnphacadaaGreatDoorW.PrintLast Go.Proofs.YtmjoebnphacadaaGreatDoorW.PrintMore
attribute [local go_sem] max2_int min2_int max_two min_two max_three min_three max_four min_four   -- for this text's walks alone
set_option linter.unusedVariables false
set_option linter.unusedSimpArgs false
/-! ### spec_Settled: function 18 -/
noncomputable def spec_Settled.l0 : Nat → ByteArray → Int → Int → Option (Bool)
  | 0, _, _, _ => none
  | k + 1, x0, x8, x9 => if x9 < x8 then (if 0 ≤ x9 then (if x9 ≤ (x0.size : Int) then ((spec_wideBlank.f k (x0.extract (x9 : Int).toNat x0.size)).bind fun t113 => (if t113 = true then (some false) else (spec_Settled.l0 k x0 x8 (wrap64 (x9 + 1))))) else (none)) else (none)) else (some true)
noncomputable def spec_Settled.f (k : Nat) (a0 : ByteArray) : Option (Bool) := (spec_Valid.f k a0).bind fun t112 => (if t112 = true then (spec_Settled.l0 k a0 (a0.size : Int) 0) else (some false))
theorem spec_Settled.mono_l : ∀ k, (∀ y0 y1 y2, LeO (spec_Settled.l0 k y0 y1 y2) (spec_Settled.l0 (k + 1) y0 y1 y2))
  | 0 => fun _ _ _ r h => by simp [spec_Settled.l0] at h
  | k + 1 => by
    have ih0 := spec_Settled.mono_l k
    · intro y0 y1 y2
      unfold spec_Settled.l0
      repeat' first
      | (with_reducible exact ih0 _ _ _)
      | (with_reducible exact spec_Valid.mono _ _)
      | (with_reducible exact spec_wideBlank.mono _ _)
      | (with_reducible exact LeO.refl _)
      | (with_reducible exact LeO.none _)
      | (with_reducible refine LeO.ite ?_ ?_)
      | (with_reducible refine LeO.bind ?_ (fun _ => ?_))
      | exact ih0 _ _ _
      | exact spec_Valid.mono _ _
      | exact spec_wideBlank.mono _ _
      | exact LeO.none _
      | refine LeO.ite ?_ ?_
      | refine LeO.bind ?_ (fun _ => ?_)
theorem spec_Settled.mono : ∀ a0 k, LeO (spec_Settled.f k a0) (spec_Settled.f (k + 1) a0) := by
  intro a0 k
  have ih0 := spec_Settled.mono_l k
  unfold spec_Settled.f
  repeat' first
      | (with_reducible exact ih0 _ _ _)
      | (with_reducible exact spec_Valid.mono _ _)
      | (with_reducible exact spec_wideBlank.mono _ _)
      | (with_reducible exact LeO.refl _)
      | (with_reducible exact LeO.none _)
      | (with_reducible refine LeO.ite ?_ ?_)
      | (with_reducible refine LeO.bind ?_ (fun _ => ?_))
      | exact ih0 _ _ _
      | exact spec_Valid.mono _ _
      | exact spec_wideBlank.mono _ _
      | exact LeO.none _
      | refine LeO.ite ?_ ?_
      | refine LeO.bind ?_ (fun _ => ?_)
set_option maxHeartbeats 8000000 in
set_option maxRecDepth 100000 in
theorem spec_Settled.calls (k : Nat) (a0 : ByteArray) (r : Bool) (w : World) (h : spec_Settled.f k a0 = some r) :
    Calls Tryz.prog 18 #[.string a0] w fun e w' => e = .returned (.bool r) ∧ Below w.heap.size w w' := by
  have HB := Aside0.mk (Below.refl w.heap.size w)
  have H : ((spec_Valid.f k a0).bind fun t112 => (if t112 = true then (spec_Settled.l0 k a0 (a0.size : Int) 0) else (some false))) = some r := h
  clear h
  replace H := Option.bind_eq_some_iff.mp H
  obtain ⟨t112, A20, H⟩ := H
  replace H : (if t112 = true then (spec_Settled.l0 k a0 (a0.size : Int) 0) else (some false)) = some r := H
  have A2 := Aside0.mk A20
  clear A20
  by_cases c3 : t112 = true
  · subst c3
    have H1 : (spec_Settled.l0 k a0 (a0.size : Int) 0) = some r := by rw [if_pos rfl] at H; exact H
    clear H
    have H := H1
    clear H1
    have H' := Aside0.mk H
    clear H
    go_enter Tryz.func18, Tryz.ntmps18
    go_wp2_with (first | ((with_reducible refine gate_callee (f := 24) rfl ?_); refine goesL_ (some 5) rfl rfl Tryz.func24 (by kernel_rfl) rfl #[.string a0] rfl (by (try simp only [List.map_toArray, List.map_cons, List.map_nil]); first | done | rfl | (simp only [List.length_drop, List.length_take]; rfl)) ?_; (with_reducible refine (spec_Valid.calls k a0 true _ A2.out).mono ?_); rintro e w' ⟨rfl, ⟨nd, rfl⟩⟩; refine ⟨_, rfl, ?_⟩))
    go_loopg [9] k (fun kq v9 w' => ∃ (x9_1 : Int), v9 = .int .i64 x9_1 ∧ Aside0 (spec_Settled.l0 kq a0 (a0.size : Int) x9_1 = some r) ∧ Aside0 (kq ≤ k) ∧ Aside0 (Below w.heap.size w w'))
    case atStart => exact ⟨(0), (by first | rfl | (simp; done) | (simp [*]; done)), H', ⟨Nat.le_refl _⟩, ⟨by repeat (first | (with_reducible first | exact HB.out | apply below_alloc | apply pw_below_drewN | apply below_drew1) | exact HB.out)⟩⟩
    case round =>
      clear H'
      try clear c1
      try clear c2
      try clear p2
      try clear c3
      obtain ⟨x9_1, rfl, HA, HK1, HB⟩ := hrel
      cases gk with
      | zero => exact absurd HA.out (by simp [spec_Settled.l0])
      | succ k1 =>
        have H := HA.out
        clear HA
        simp only [spec_Settled.l0] at H
        by_cases c4 : x9_1 < (a0.size : Int)
        · rw [if_pos c4] at H
          have c4b0 : decide (x9_1 < (a0.size : Int)) = true := decide_eq_true c4
          clear c4
          by_cases c5 : 0 ≤ x9_1
          · rw [if_pos c5] at H
            have c5b0 := eq_true c5
            have c5b1 : decide (0 ≤ x9_1) = true := decide_eq_true c5
            clear c5
            by_cases c6 : x9_1 ≤ (a0.size : Int)
            · rw [if_pos c6] at H
              have c6b0 := eq_true c6
              have c6b1 : decide (x9_1 ≤ (a0.size : Int)) = true := decide_eq_true c6
              clear c6
              replace H := Option.bind_eq_some_iff.mp H
              obtain ⟨t113, A70, H⟩ := H
              replace H : (if t113 = true then (some false) else (spec_Settled.l0 k1 a0 (a0.size : Int) (wrap64 (x9_1 + 1)))) = some r := H
              have A7 := Aside0.mk A70
              clear A70
              by_cases c8 : t113 = true
              · subst c8
                have H1 : (some false) = some r := by rw [if_pos rfl] at H; exact H
                clear H
                have H := H1
                clear H1
                obtain rfl := Option.some.inj H
                go_wp2_with (first | ((with_reducible refine gate_callee (f := 25) rfl ?_); refine goesL_ (some 15) rfl rfl Tryz.func25 (by kernel_rfl) rfl #[.string (a0.extract (x9_1 : Int).toNat a0.size)] rfl (by (try simp only [List.map_toArray, List.map_cons, List.map_nil]); first | done | rfl | (simp only [List.length_drop, List.length_take]; rfl)) ?_; (with_reducible refine (spec_wideBlank.calls k1 (a0.extract (x9_1 : Int).toNat a0.size) true _ A7.out).mono ?_); rintro e w9 ⟨rfl, hb⟩; refine ⟨_, rfl, ?_⟩; have n0_ := Aside0.mk (below_step (by repeat (first | (with_reducible first | exact HB.out | apply below_alloc | apply pw_below_drewN | apply below_drew1) | exact HB.out)) hb); clear HB; have HB := n0_; clear n0_; (try clear hb); (try clear hb2); (try clear hk); (try clear hi)))
                go_ret
                exact ⟨by first | rfl | (simp [errW_none, errW_some] <;> rfl) | (simp [*, errW_none, errW_some] <;> rfl), by repeat (first | (with_reducible first | exact HB.out | apply below_alloc | apply pw_below_drewN | apply below_drew1) | exact HB.out)⟩
              · replace c8 := Bool.eq_false_iff.mpr c8
                subst c8
                have H1 : (spec_Settled.l0 k1 a0 (a0.size : Int) (wrap64 (x9_1 + 1))) = some r := by rw [if_neg (show ¬ (false = true) by decide)] at H; exact H
                clear H
                have H := H1
                clear H1
                have H' := Aside0.mk H
                clear H
                go_wp2_with (first | ((with_reducible refine gate_callee (f := 25) rfl ?_); refine goesL_ (some 15) rfl rfl Tryz.func25 (by kernel_rfl) rfl #[.string (a0.extract (x9_1 : Int).toNat a0.size)] rfl (by (try simp only [List.map_toArray, List.map_cons, List.map_nil]); first | done | rfl | (simp only [List.length_drop, List.length_take]; rfl)) ?_; (with_reducible refine (spec_wideBlank.calls k1 (a0.extract (x9_1 : Int).toNat a0.size) false _ A7.out).mono ?_); rintro e w10 ⟨rfl, hb⟩; refine ⟨_, rfl, ?_⟩; have n0_ := Aside0.mk (below_step (by repeat (first | (with_reducible first | exact HB.out | apply below_alloc | apply pw_below_drewN | apply below_drew1) | exact HB.out)) hb); clear HB; have HB := n0_; clear n0_; (try clear hb); (try clear hb2); (try clear hk); (try clear hi)))
                go_roundg k1
                case measure => have := HK1.out; omega
                case rel => exact ⟨(wrap64 (x9_1 + 1)), (by first | rfl | (simp; done) | (simp [*]; done)), H', ⟨by have := HK1.out; omega⟩, ⟨by repeat (first | (with_reducible first | exact HB.out | apply below_alloc | apply pw_below_drewN | apply below_drew1) | exact HB.out)⟩⟩
            · rw [if_neg c6] at H
              exact absurd H (by simp)
          · rw [if_neg c5] at H
            exact absurd H (by simp)
        · rw [if_neg c4] at H
          have c4b0 : decide (x9_1 < (a0.size : Int)) = false := decide_eq_false c4
          clear c4
          obtain rfl := Option.some.inj H
          go_wp2
          go_ret
          exact ⟨by first | rfl | (simp [errW_none, errW_some] <;> rfl) | (simp [*, errW_none, errW_some] <;> rfl), by repeat (first | (with_reducible first | exact HB.out | apply below_alloc | apply pw_below_drewN | apply below_drew1) | exact HB.out)⟩
  · replace c3 := Bool.eq_false_iff.mpr c3
    subst c3
    have H1 : (some false) = some r := by rw [if_neg (show ¬ (false = true) by decide)] at H; exact H
    clear H
    have H := H1
    clear H1
    obtain rfl := Option.some.inj H
    go_enter Tryz.func18, Tryz.ntmps18
    go_wp2_with (first | ((with_reducible refine gate_callee (f := 24) rfl ?_); refine goesL_ (some 5) rfl rfl Tryz.func24 (by kernel_rfl) rfl #[.string a0] rfl (by (try simp only [List.map_toArray, List.map_cons, List.map_nil]); first | done | rfl | (simp only [List.length_drop, List.length_take]; rfl)) ?_; (with_reducible refine (spec_Valid.calls k a0 false _ A2.out).mono ?_); rintro e w' ⟨rfl, ⟨nd, rfl⟩⟩; refine ⟨_, rfl, ?_⟩))
    go_ret
    exact ⟨by first | rfl | (simp [errW_none, errW_some] <;> rfl) | (simp [*, errW_none, errW_some] <;> rfl), by repeat (first | (with_reducible first | exact HB.out | apply below_alloc | apply pw_below_drewN | apply below_drew1) | exact HB.out)⟩
end Go.Proofs.YtmjoebnphacadaaGreatDoor.Q
-- printed by this project's own program wip/tools/mkprint.py (the kit's print.py with hand-proved contracts put in)
namespace Go.Proofs.YtmjoebnphacadaaGreatDoor.Q
open Go.RowKit Go.Proofs.YtmjoebnphacadaaGreatDoorW.PrintWords Go.Proofs.YtmjoebnphacadaaGreatDoorW.PrintLast Go.Proofs.YtmjoebnphacadaaGreatDoorW.PrintMore
attribute [local go_sem] max2_int min2_int max_two min_two max_three min_three max_four min_four   -- for this text's walks alone
set_option linter.unusedVariables false
set_option linter.unusedSimpArgs false
/-! ### spec_blank: function 19 -/
noncomputable def spec_blank.f (a0 : Int) : Option (Bool) := if a0 = 32 then (some true) else (if a0 ≥ 9 then (some (decide (a0 ≤ 13))) else (some false))
set_option maxHeartbeats 8000000 in
set_option maxRecDepth 100000 in
theorem spec_blank.calls (a0 : Int) (r : Bool) (w : World) (h : spec_blank.f a0 = some r) :
    Calls Tryz.prog 19 #[.int .u8 a0] w fun e w' => e = .returned (.bool r) ∧ Drawn0 w w' := by
  have H : (if a0 = 32 then (some true) else (if a0 ≥ 9 then (some (decide (a0 ≤ 13))) else (some false))) = some r := h
  clear h
  by_cases c2 : a0 = 32
  · rw [if_pos c2] at H
    have c2b0 : (a0 == 32) = true := beq_iff_eq.mpr c2
    have c2b1 : (a0 != 32) = false := bne_eq_false_iff_eq.mpr c2
    clear c2
    obtain rfl := Option.some.inj H
    go_enter Tryz.func19, Tryz.ntmps19
    go_wp2
    go_ret
    exact ⟨by first | rfl | (simp; done) | (simp [*]; done), by repeat (first | exact Drawn0.refl _ | apply Drawn0.step)⟩
  · rw [if_neg c2] at H
    have c2b0 : (a0 == 32) = false := beq_eq_false_iff_ne.mpr c2
    have c2b1 : (a0 != 32) = true := bne_iff_ne.mpr c2
    by_cases c3 : a0 ≥ 9
    · rw [if_pos c3] at H
      have c3b0 : decide (9 ≤ a0) = true := decide_eq_true c3
      clear c3
      obtain rfl := Option.some.inj H
      go_enter Tryz.func19, Tryz.ntmps19
      go_wp2
      go_ret
      exact ⟨by first | rfl | (simp; done) | (simp [*]; done), by repeat (first | exact Drawn0.refl _ | apply Drawn0.step)⟩
    · rw [if_neg c3] at H
      have c3b0 : decide (9 ≤ a0) = false := decide_eq_false c3
      clear c3
      obtain rfl := Option.some.inj H
      go_enter Tryz.func19, Tryz.ntmps19
      go_wp2
      go_ret
      exact ⟨by first | rfl | (simp; done) | (simp [*]; done), by repeat (first | exact Drawn0.refl _ | apply Drawn0.step)⟩
end Go.Proofs.YtmjoebnphacadaaGreatDoor.Q
-- printed by this project's own program wip/tools/mkprint.py (the kit's print.py with hand-proved contracts put in)
namespace Go.Proofs.YtmjoebnphacadaaGreatDoor.Q
open Go.RowKit Go.Proofs.YtmjoebnphacadaaGreatDoorW.PrintWords Go.Proofs.YtmjoebnphacadaaGreatDoorW.PrintLast Go.Proofs.YtmjoebnphacadaaGreatDoorW.PrintMore
attribute [local go_sem] max2_int min2_int max_two min_two max_three min_three max_four min_four   -- for this text's walks alone
set_option linter.unusedVariables false
set_option linter.unusedSimpArgs false
/-! ### spec_closed: function 26 -/
mutual
noncomputable def spec_closed.l0 : Nat → ByteArray → Int → Int → Option (Int)
  | 0, _, _, _ => none
  | k + 1, x0, x1, x5 => if x5 < (x0.size : Int) then (spec_closed.l1 k x0 x1 x5 0 (wrap64 (x5 - 1))) else (some (-1))
noncomputable def spec_closed.l1 : Nat → ByteArray → Int → Int → Int → Int → Option (Int)
  | 0, _, _, _, _, _ => none
  | k + 1, x0, x1, x5, x6, x7 => if x7 > x1 then (if 0 ≤ x7 then (if x7 < (x0.size : Int) then (if (bt x0 x7) = 92 then (spec_closed.l1 k x0 x1 x5 (wrap64 (x6 + 1)) (wrap64 (x7 - 1))) else (if 0 ≤ x5 then (if x5 < (x0.size : Int) then (if (bt x0 x5) = 34 then (if (Int.tmod x6 2) = 0 then (some (wrap64 (x5 + 1))) else (spec_closed.l0 k x0 x1 (wrap64 (x5 + 1)))) else (spec_closed.l0 k x0 x1 (wrap64 (x5 + 1)))) else (none)) else (none))) else (none)) else (none)) else (if 0 ≤ x5 then (if x5 < (x0.size : Int) then (if (bt x0 x5) = 34 then (if (Int.tmod x6 2) = 0 then (some (wrap64 (x5 + 1))) else (spec_closed.l0 k x0 x1 (wrap64 (x5 + 1)))) else (spec_closed.l0 k x0 x1 (wrap64 (x5 + 1)))) else (none)) else (none))
end
noncomputable def spec_closed.f (k : Nat) (a0 : ByteArray) (a1 : Int) : Option (Int) := spec_closed.l0 k a0 a1 (wrap64 (a1 + 1))
theorem spec_closed.mono_l : ∀ k, (∀ y0 y1 y2, LeO (spec_closed.l0 k y0 y1 y2) (spec_closed.l0 (k + 1) y0 y1 y2)) ∧ (∀ y0 y1 y2 y3 y4, LeO (spec_closed.l1 k y0 y1 y2 y3 y4) (spec_closed.l1 (k + 1) y0 y1 y2 y3 y4))
  | 0 => ⟨fun _ _ _ r h => by simp [spec_closed.l0] at h, fun _ _ _ _ _ r h => by simp [spec_closed.l1] at h⟩
  | k + 1 => by
    obtain ⟨ih0, ih1⟩ := spec_closed.mono_l k
    refine ⟨?_, ?_⟩
    · intro y0 y1 y2
      unfold spec_closed.l0
      repeat' first
      | (with_reducible exact ih0 _ _ _)
      | (with_reducible exact ih1 _ _ _ _ _)
      | (with_reducible exact LeO.refl _)
      | (with_reducible exact LeO.none _)
      | (with_reducible refine LeO.ite ?_ ?_)
      | (with_reducible refine LeO.bind ?_ (fun _ => ?_))
      | exact ih0 _ _ _
      | exact ih1 _ _ _ _ _
      | exact LeO.none _
      | refine LeO.ite ?_ ?_
      | refine LeO.bind ?_ (fun _ => ?_)
    · intro y0 y1 y2 y3 y4
      unfold spec_closed.l1
      repeat' first
      | (with_reducible exact ih0 _ _ _)
      | (with_reducible exact ih1 _ _ _ _ _)
      | (with_reducible exact LeO.refl _)
      | (with_reducible exact LeO.none _)
      | (with_reducible refine LeO.ite ?_ ?_)
      | (with_reducible refine LeO.bind ?_ (fun _ => ?_))
      | exact ih0 _ _ _
      | exact ih1 _ _ _ _ _
      | exact LeO.none _
      | refine LeO.ite ?_ ?_
      | refine LeO.bind ?_ (fun _ => ?_)
theorem spec_closed.mono : ∀ a0 a1 k, LeO (spec_closed.f k a0 a1) (spec_closed.f (k + 1) a0 a1) := by
  intro a0 a1 k
  obtain ⟨ih0, ih1⟩ := spec_closed.mono_l k
  unfold spec_closed.f
  repeat' first
      | (with_reducible exact ih0 _ _ _)
      | (with_reducible exact ih1 _ _ _ _ _)
      | (with_reducible exact LeO.refl _)
      | (with_reducible exact LeO.none _)
      | (with_reducible refine LeO.ite ?_ ?_)
      | (with_reducible refine LeO.bind ?_ (fun _ => ?_))
      | exact ih0 _ _ _
      | exact ih1 _ _ _ _ _
      | exact LeO.none _
      | refine LeO.ite ?_ ?_
      | refine LeO.bind ?_ (fun _ => ?_)
set_option maxHeartbeats 8000000 in
set_option maxRecDepth 100000 in
theorem spec_closed.calls (k : Nat) (a0 : ByteArray) (a1 : Int) (r : Int) (w : World) (h : spec_closed.f k a0 a1 = some r) :
    Calls Tryz.prog 26 #[.string a0, .int .i64 a1] w fun e w' => e = .returned (.int .i64 r) ∧ Drawn0 w w' := by
  have H : (spec_closed.l0 k a0 a1 (wrap64 (a1 + 1))) = some r := h
  clear h
  have H' := Aside0.mk H
  clear H
  go_enter Tryz.func26, Tryz.ntmps26
  go_wp2
  go_loopg [5] k (fun kq v5 w' => ∃ (x5_1 : Int), v5 = .int .i64 x5_1 ∧ Aside0 (spec_closed.l0 kq a0 a1 x5_1 = some r) ∧ Aside0 (kq ≤ k) ∧ Drawn0 w w')
  case atStart => exact ⟨(wrap64 (a1 + 1)), (by first | rfl | (simp; done) | (simp [*]; done)), H', ⟨Nat.le_refl _⟩, by repeat (first | exact Drawn0.refl _ | apply Drawn0.step)⟩
  case round =>
    clear H'
    try clear c2
    try clear p2
    obtain ⟨x5_1, rfl, HA, HK1, ⟨m1, rfl⟩⟩ := hrel
    cases gk with
    | zero => exact absurd HA.out (by simp [spec_closed.l0])
    | succ k1 =>
      have H := HA.out
      clear HA
      simp only [spec_closed.l0] at H
      by_cases c3 : x5_1 < (a0.size : Int)
      · rw [if_pos c3] at H
        have c3b0 : decide (x5_1 < (a0.size : Int)) = true := decide_eq_true c3
        clear c3
        have H' := Aside0.mk H
        clear H
        go_wp2
        go_loopg [6, 7] k1 (fun kq v6 v7 w' => ∃ (x6_2 : Int) (x7_2 : Int), v6 = .int .i64 x6_2 ∧ v7 = .int .i64 x7_2 ∧ Aside0 (spec_closed.l1 kq a0 a1 x5_1 x6_2 x7_2 = some r) ∧ Aside0 (kq ≤ k1) ∧ Drawn0 w w')
        case atStart => exact ⟨(0), (wrap64 (x5_1 - 1)), (by first | rfl | (simp; done) | (simp [*]; done)), (by first | rfl | (simp; done) | (simp [*]; done)), H', ⟨Nat.le_refl _⟩, by repeat (first | exact Drawn0.refl _ | apply Drawn0.step)⟩
        case round =>
          clear H'
          try clear c2
          try clear p2
          try clear c3
          try clear c3b0
          try clear p2
          obtain ⟨x6_2, x7_2, rfl, rfl, HA, HK2, ⟨m2, rfl⟩⟩ := hrel
          cases gk with
          | zero => exact absurd HA.out (by simp [spec_closed.l1])
          | succ k2 =>
            have H := HA.out
            clear HA
            simp only [spec_closed.l1] at H
            by_cases c4 : x7_2 > a1
            · rw [if_pos c4] at H
              have c4b0 : decide (a1 < x7_2) = true := decide_eq_true c4
              clear c4
              by_cases c5 : 0 ≤ x7_2
              · rw [if_pos c5] at H
                have c5b0 : decide (0 ≤ x7_2) = true := decide_eq_true c5
                clear c5
                by_cases c6 : x7_2 < (a0.size : Int)
                · rw [if_pos c6] at H
                  have c6b0 : decide (x7_2 < (a0.size : Int)) = true := decide_eq_true c6
                  clear c6
                  by_cases c8 : (bt a0 x7_2) = 92
                  · rw [if_pos c8] at H
                    have c8b0 : ((bt a0 x7_2) == 92) = true := beq_iff_eq.mpr c8
                    have c8b1 : ((bt a0 x7_2) != 92) = false := bne_eq_false_iff_eq.mpr c8
                    clear c8
                    have H' := Aside0.mk H
                    clear H
                    have p7 : 0 ≤ (x7_2 : Int) := of_decide_eq_true (by first | (with_reducible assumption) | assumption)
                    have q7 : x7_2 < (a0.size : Int) := of_decide_eq_true (by first | (with_reducible assumption) | assumption)
                    have hx7 := bt_at a0 x7_2
                    replace p7 := eq_true p7
                    replace q7 := eq_true q7
                    go_wp2
                    go_roundg k2
                    case measure => have := HK1.out; have := HK2.out; omega
                    case rel => exact ⟨(wrap64 (x6_2 + 1)), (wrap64 (x7_2 - 1)), (by first | rfl | (simp; done) | (simp [*]; done)), (by first | rfl | (simp; done) | (simp [*]; done)), H', ⟨by have := HK1.out; have := HK2.out; omega⟩, by repeat (first | exact Drawn0.refl _ | apply Drawn0.step)⟩
                  · rw [if_neg c8] at H
                    have c8b0 : ((bt a0 x7_2) == 92) = false := beq_eq_false_iff_ne.mpr c8
                    have c8b1 : ((bt a0 x7_2) != 92) = true := bne_iff_ne.mpr c8
                    by_cases c9 : 0 ≤ x5_1
                    · rw [if_pos c9] at H
                      have c9b0 : decide (0 ≤ x5_1) = true := decide_eq_true c9
                      clear c9
                      by_cases c10 : x5_1 < (a0.size : Int)
                      · rw [if_pos c10] at H
                        have c10b0 : decide (x5_1 < (a0.size : Int)) = true := decide_eq_true c10
                        clear c10
                        by_cases c12 : (bt a0 x5_1) = 34
                        · rw [if_pos c12] at H
                          have c12b0 : ((bt a0 x5_1) == 34) = true := beq_iff_eq.mpr c12
                          have c12b1 : ((bt a0 x5_1) != 34) = false := bne_eq_false_iff_eq.mpr c12
                          clear c12
                          by_cases c13 : (Int.tmod x6_2 2) = 0
                          · rw [if_pos c13] at H
                            have c13b0 : ((Int.tmod x6_2 2) == 0) = true := beq_iff_eq.mpr c13
                            have c13b1 : ((Int.tmod x6_2 2) != 0) = false := bne_eq_false_iff_eq.mpr c13
                            clear c13
                            obtain rfl := Option.some.inj H
                            have p7 : 0 ≤ (x7_2 : Int) := of_decide_eq_true (by first | (with_reducible assumption) | assumption)
                            have q7 : x7_2 < (a0.size : Int) := of_decide_eq_true (by first | (with_reducible assumption) | assumption)
                            have hx7 := bt_at a0 x7_2
                            replace p7 := eq_true p7
                            replace q7 := eq_true q7
                            have p11 : 0 ≤ (x5_1 : Int) := of_decide_eq_true (by first | (with_reducible assumption) | assumption)
                            have q11 : x5_1 < (a0.size : Int) := of_decide_eq_true (by first | (with_reducible assumption) | assumption)
                            have hx11 := bt_at a0 x5_1
                            replace p11 := eq_true p11
                            replace q11 := eq_true q11
                            go_wp2
                            go_ret
                            exact ⟨by first | rfl | (simp; done) | (simp [*]; done), by repeat (first | exact Drawn0.refl _ | apply Drawn0.step)⟩
                          · rw [if_neg c13] at H
                            have c13b0 : ((Int.tmod x6_2 2) == 0) = false := beq_eq_false_iff_ne.mpr c13
                            have c13b1 : ((Int.tmod x6_2 2) != 0) = true := bne_iff_ne.mpr c13
                            have H' := Aside0.mk H
                            clear H
                            have p7 : 0 ≤ (x7_2 : Int) := of_decide_eq_true (by first | (with_reducible assumption) | assumption)
                            have q7 : x7_2 < (a0.size : Int) := of_decide_eq_true (by first | (with_reducible assumption) | assumption)
                            have hx7 := bt_at a0 x7_2
                            replace p7 := eq_true p7
                            replace q7 := eq_true q7
                            have p11 : 0 ≤ (x5_1 : Int) := of_decide_eq_true (by first | (with_reducible assumption) | assumption)
                            have q11 : x5_1 < (a0.size : Int) := of_decide_eq_true (by first | (with_reducible assumption) | assumption)
                            have hx11 := bt_at a0 x5_1
                            replace p11 := eq_true p11
                            replace q11 := eq_true q11
                            go_wp2
                            go_roundg k2
                            case measure => have := HK1.out; have := HK2.out; omega
                            case rel => exact ⟨(wrap64 (x5_1 + 1)), (by first | rfl | (simp; done) | (simp [*]; done)), H', ⟨by have := HK1.out; have := HK2.out; omega⟩, by repeat (first | exact Drawn0.refl _ | apply Drawn0.step)⟩
                        · rw [if_neg c12] at H
                          have c12b0 : ((bt a0 x5_1) == 34) = false := beq_eq_false_iff_ne.mpr c12
                          have c12b1 : ((bt a0 x5_1) != 34) = true := bne_iff_ne.mpr c12
                          have H' := Aside0.mk H
                          clear H
                          have p7 : 0 ≤ (x7_2 : Int) := of_decide_eq_true (by first | (with_reducible assumption) | assumption)
                          have q7 : x7_2 < (a0.size : Int) := of_decide_eq_true (by first | (with_reducible assumption) | assumption)
                          have hx7 := bt_at a0 x7_2
                          replace p7 := eq_true p7
                          replace q7 := eq_true q7
                          have p11 : 0 ≤ (x5_1 : Int) := of_decide_eq_true (by first | (with_reducible assumption) | assumption)
                          have q11 : x5_1 < (a0.size : Int) := of_decide_eq_true (by first | (with_reducible assumption) | assumption)
                          have hx11 := bt_at a0 x5_1
                          replace p11 := eq_true p11
                          replace q11 := eq_true q11
                          go_wp2
                          go_roundg k2
                          case measure => have := HK1.out; have := HK2.out; omega
                          case rel => exact ⟨(wrap64 (x5_1 + 1)), (by first | rfl | (simp; done) | (simp [*]; done)), H', ⟨by have := HK1.out; have := HK2.out; omega⟩, by repeat (first | exact Drawn0.refl _ | apply Drawn0.step)⟩
                      · rw [if_neg c10] at H
                        exact absurd H (by simp)
                    · rw [if_neg c9] at H
                      exact absurd H (by simp)
                · rw [if_neg c6] at H
                  exact absurd H (by simp)
              · rw [if_neg c5] at H
                exact absurd H (by simp)
            · rw [if_neg c4] at H
              have c4b0 : decide (a1 < x7_2) = false := decide_eq_false c4
              clear c4
              by_cases c14 : 0 ≤ x5_1
              · rw [if_pos c14] at H
                have c14b0 : decide (0 ≤ x5_1) = true := decide_eq_true c14
                clear c14
                by_cases c15 : x5_1 < (a0.size : Int)
                · rw [if_pos c15] at H
                  have c15b0 : decide (x5_1 < (a0.size : Int)) = true := decide_eq_true c15
                  clear c15
                  by_cases c17 : (bt a0 x5_1) = 34
                  · rw [if_pos c17] at H
                    have c17b0 : ((bt a0 x5_1) == 34) = true := beq_iff_eq.mpr c17
                    have c17b1 : ((bt a0 x5_1) != 34) = false := bne_eq_false_iff_eq.mpr c17
                    clear c17
                    by_cases c18 : (Int.tmod x6_2 2) = 0
                    · rw [if_pos c18] at H
                      have c18b0 : ((Int.tmod x6_2 2) == 0) = true := beq_iff_eq.mpr c18
                      have c18b1 : ((Int.tmod x6_2 2) != 0) = false := bne_eq_false_iff_eq.mpr c18
                      clear c18
                      obtain rfl := Option.some.inj H
                      have p16 : 0 ≤ (x5_1 : Int) := of_decide_eq_true (by first | (with_reducible assumption) | assumption)
                      have q16 : x5_1 < (a0.size : Int) := of_decide_eq_true (by first | (with_reducible assumption) | assumption)
                      have hx16 := bt_at a0 x5_1
                      replace p16 := eq_true p16
                      replace q16 := eq_true q16
                      go_wp2
                      go_ret
                      exact ⟨by first | rfl | (simp; done) | (simp [*]; done), by repeat (first | exact Drawn0.refl _ | apply Drawn0.step)⟩
                    · rw [if_neg c18] at H
                      have c18b0 : ((Int.tmod x6_2 2) == 0) = false := beq_eq_false_iff_ne.mpr c18
                      have c18b1 : ((Int.tmod x6_2 2) != 0) = true := bne_iff_ne.mpr c18
                      have H' := Aside0.mk H
                      clear H
                      have p16 : 0 ≤ (x5_1 : Int) := of_decide_eq_true (by first | (with_reducible assumption) | assumption)
                      have q16 : x5_1 < (a0.size : Int) := of_decide_eq_true (by first | (with_reducible assumption) | assumption)
                      have hx16 := bt_at a0 x5_1
                      replace p16 := eq_true p16
                      replace q16 := eq_true q16
                      go_wp2
                      go_roundg k2
                      case measure => have := HK1.out; have := HK2.out; omega
                      case rel => exact ⟨(wrap64 (x5_1 + 1)), (by first | rfl | (simp; done) | (simp [*]; done)), H', ⟨by have := HK1.out; have := HK2.out; omega⟩, by repeat (first | exact Drawn0.refl _ | apply Drawn0.step)⟩
                  · rw [if_neg c17] at H
                    have c17b0 : ((bt a0 x5_1) == 34) = false := beq_eq_false_iff_ne.mpr c17
                    have c17b1 : ((bt a0 x5_1) != 34) = true := bne_iff_ne.mpr c17
                    have H' := Aside0.mk H
                    clear H
                    have p16 : 0 ≤ (x5_1 : Int) := of_decide_eq_true (by first | (with_reducible assumption) | assumption)
                    have q16 : x5_1 < (a0.size : Int) := of_decide_eq_true (by first | (with_reducible assumption) | assumption)
                    have hx16 := bt_at a0 x5_1
                    replace p16 := eq_true p16
                    replace q16 := eq_true q16
                    go_wp2
                    go_roundg k2
                    case measure => have := HK1.out; have := HK2.out; omega
                    case rel => exact ⟨(wrap64 (x5_1 + 1)), (by first | rfl | (simp; done) | (simp [*]; done)), H', ⟨by have := HK1.out; have := HK2.out; omega⟩, by repeat (first | exact Drawn0.refl _ | apply Drawn0.step)⟩
                · rw [if_neg c15] at H
                  exact absurd H (by simp)
              · rw [if_neg c14] at H
                exact absurd H (by simp)
      · rw [if_neg c3] at H
        have c3b0 : decide (x5_1 < (a0.size : Int)) = false := decide_eq_false c3
        clear c3
        obtain rfl := Option.some.inj H
        go_wp2
        go_ret
        exact ⟨by first | rfl | (simp; done) | (simp [*]; done), by repeat (first | exact Drawn0.refl _ | apply Drawn0.step)⟩
end Go.Proofs.YtmjoebnphacadaaGreatDoor.Q
-- printed by this project's own program wip/tools/mkprint.py (the kit's print.py with hand-proved contracts put in)
namespace Go.Proofs.YtmjoebnphacadaaGreatDoor.Q
open Go.RowKit Go.Proofs.YtmjoebnphacadaaGreatDoorW.PrintWords Go.Proofs.YtmjoebnphacadaaGreatDoorW.PrintLast Go.Proofs.YtmjoebnphacadaaGreatDoorW.PrintMore
attribute [local go_sem] max2_int min2_int max_two min_two max_three min_three max_four min_four   -- for this text's walks alone
set_option linter.unusedVariables false
set_option linter.unusedSimpArgs false
/-! ### spec_reserved: function 27 -/
noncomputable def spec_reserved.f (a0 : Int) : Option (Bool) := if a0 = 123 then (some true) else (if a0 = 125 then (some true) else (if a0 = 33 then (some true) else (if a0 = 61 then (some true) else (if a0 = 126 then (some true) else (if a0 = 44 then (some true) else (if a0 = 92 then (some true) else (if a0 = 34 then (some true) else (if a0 = 39 then (some true) else (if a0 = 96 then (some true) else ((spec_blank.f a0).bind fun t114 => (some t114)))))))))))
set_option maxHeartbeats 8000000 in
set_option maxRecDepth 100000 in
theorem spec_reserved.calls (a0 : Int) (r : Bool) (w : World) (h : spec_reserved.f a0 = some r) :
    Calls Tryz.prog 27 #[.int .u8 a0] w fun e w' => e = .returned (.bool r) ∧ Drawn0 w w' := by
  have H : (if a0 = 123 then (some true) else (if a0 = 125 then (some true) else (if a0 = 33 then (some true) else (if a0 = 61 then (some true) else (if a0 = 126 then (some true) else (if a0 = 44 then (some true) else (if a0 = 92 then (some true) else (if a0 = 34 then (some true) else (if a0 = 39 then (some true) else (if a0 = 96 then (some true) else ((spec_blank.f a0).bind fun t114 => (some t114)))))))))))) = some r := h
  clear h
  by_cases c2 : a0 = 123
  · rw [if_pos c2] at H
    have c2b0 : (a0 == 123) = true := beq_iff_eq.mpr c2
    have c2b1 : (a0 != 123) = false := bne_eq_false_iff_eq.mpr c2
    clear c2
    obtain rfl := Option.some.inj H
    go_enter Tryz.func27, Tryz.ntmps27
    go_wp2
    go_ret
    exact ⟨by first | rfl | (simp; done) | (simp [*]; done), by repeat (first | exact Drawn0.refl _ | apply Drawn0.step)⟩
  · rw [if_neg c2] at H
    have c2b0 : (a0 == 123) = false := beq_eq_false_iff_ne.mpr c2
    have c2b1 : (a0 != 123) = true := bne_iff_ne.mpr c2
    by_cases c3 : a0 = 125
    · rw [if_pos c3] at H
      have c3b0 : (a0 == 125) = true := beq_iff_eq.mpr c3
      have c3b1 : (a0 != 125) = false := bne_eq_false_iff_eq.mpr c3
      clear c3
      obtain rfl := Option.some.inj H
      go_enter Tryz.func27, Tryz.ntmps27
      go_wp2
      go_ret
      exact ⟨by first | rfl | (simp; done) | (simp [*]; done), by repeat (first | exact Drawn0.refl _ | apply Drawn0.step)⟩
    · rw [if_neg c3] at H
      have c3b0 : (a0 == 125) = false := beq_eq_false_iff_ne.mpr c3
      have c3b1 : (a0 != 125) = true := bne_iff_ne.mpr c3
      by_cases c4 : a0 = 33
      · rw [if_pos c4] at H
        have c4b0 : (a0 == 33) = true := beq_iff_eq.mpr c4
        have c4b1 : (a0 != 33) = false := bne_eq_false_iff_eq.mpr c4
        clear c4
        obtain rfl := Option.some.inj H
        go_enter Tryz.func27, Tryz.ntmps27
        go_wp2
        go_ret
        exact ⟨by first | rfl | (simp; done) | (simp [*]; done), by repeat (first | exact Drawn0.refl _ | apply Drawn0.step)⟩
      · rw [if_neg c4] at H
        have c4b0 : (a0 == 33) = false := beq_eq_false_iff_ne.mpr c4
        have c4b1 : (a0 != 33) = true := bne_iff_ne.mpr c4
        by_cases c5 : a0 = 61
        · rw [if_pos c5] at H
          have c5b0 : (a0 == 61) = true := beq_iff_eq.mpr c5
          have c5b1 : (a0 != 61) = false := bne_eq_false_iff_eq.mpr c5
          clear c5
          obtain rfl := Option.some.inj H
          go_enter Tryz.func27, Tryz.ntmps27
          go_wp2
          go_ret
          exact ⟨by first | rfl | (simp; done) | (simp [*]; done), by repeat (first | exact Drawn0.refl _ | apply Drawn0.step)⟩
        · rw [if_neg c5] at H
          have c5b0 : (a0 == 61) = false := beq_eq_false_iff_ne.mpr c5
          have c5b1 : (a0 != 61) = true := bne_iff_ne.mpr c5
          by_cases c6 : a0 = 126
          · rw [if_pos c6] at H
            have c6b0 : (a0 == 126) = true := beq_iff_eq.mpr c6
            have c6b1 : (a0 != 126) = false := bne_eq_false_iff_eq.mpr c6
            clear c6
            obtain rfl := Option.some.inj H
            go_enter Tryz.func27, Tryz.ntmps27
            go_wp2
            go_ret
            exact ⟨by first | rfl | (simp; done) | (simp [*]; done), by repeat (first | exact Drawn0.refl _ | apply Drawn0.step)⟩
          · rw [if_neg c6] at H
            have c6b0 : (a0 == 126) = false := beq_eq_false_iff_ne.mpr c6
            have c6b1 : (a0 != 126) = true := bne_iff_ne.mpr c6
            by_cases c7 : a0 = 44
            · rw [if_pos c7] at H
              have c7b0 : (a0 == 44) = true := beq_iff_eq.mpr c7
              have c7b1 : (a0 != 44) = false := bne_eq_false_iff_eq.mpr c7
              clear c7
              obtain rfl := Option.some.inj H
              go_enter Tryz.func27, Tryz.ntmps27
              go_wp2
              go_ret
              exact ⟨by first | rfl | (simp; done) | (simp [*]; done), by repeat (first | exact Drawn0.refl _ | apply Drawn0.step)⟩
            · rw [if_neg c7] at H
              have c7b0 : (a0 == 44) = false := beq_eq_false_iff_ne.mpr c7
              have c7b1 : (a0 != 44) = true := bne_iff_ne.mpr c7
              by_cases c8 : a0 = 92
              · rw [if_pos c8] at H
                have c8b0 : (a0 == 92) = true := beq_iff_eq.mpr c8
                have c8b1 : (a0 != 92) = false := bne_eq_false_iff_eq.mpr c8
                clear c8
                obtain rfl := Option.some.inj H
                go_enter Tryz.func27, Tryz.ntmps27
                go_wp2
                go_ret
                exact ⟨by first | rfl | (simp; done) | (simp [*]; done), by repeat (first | exact Drawn0.refl _ | apply Drawn0.step)⟩
              · rw [if_neg c8] at H
                have c8b0 : (a0 == 92) = false := beq_eq_false_iff_ne.mpr c8
                have c8b1 : (a0 != 92) = true := bne_iff_ne.mpr c8
                by_cases c9 : a0 = 34
                · rw [if_pos c9] at H
                  have c9b0 : (a0 == 34) = true := beq_iff_eq.mpr c9
                  have c9b1 : (a0 != 34) = false := bne_eq_false_iff_eq.mpr c9
                  clear c9
                  obtain rfl := Option.some.inj H
                  go_enter Tryz.func27, Tryz.ntmps27
                  go_wp2
                  go_ret
                  exact ⟨by first | rfl | (simp; done) | (simp [*]; done), by repeat (first | exact Drawn0.refl _ | apply Drawn0.step)⟩
                · rw [if_neg c9] at H
                  have c9b0 : (a0 == 34) = false := beq_eq_false_iff_ne.mpr c9
                  have c9b1 : (a0 != 34) = true := bne_iff_ne.mpr c9
                  by_cases c10 : a0 = 39
                  · rw [if_pos c10] at H
                    have c10b0 : (a0 == 39) = true := beq_iff_eq.mpr c10
                    have c10b1 : (a0 != 39) = false := bne_eq_false_iff_eq.mpr c10
                    clear c10
                    obtain rfl := Option.some.inj H
                    go_enter Tryz.func27, Tryz.ntmps27
                    go_wp2
                    go_ret
                    exact ⟨by first | rfl | (simp; done) | (simp [*]; done), by repeat (first | exact Drawn0.refl _ | apply Drawn0.step)⟩
                  · rw [if_neg c10] at H
                    have c10b0 : (a0 == 39) = false := beq_eq_false_iff_ne.mpr c10
                    have c10b1 : (a0 != 39) = true := bne_iff_ne.mpr c10
                    by_cases c11 : a0 = 96
                    · rw [if_pos c11] at H
                      have c11b0 : (a0 == 96) = true := beq_iff_eq.mpr c11
                      have c11b1 : (a0 != 96) = false := bne_eq_false_iff_eq.mpr c11
                      clear c11
                      obtain rfl := Option.some.inj H
                      go_enter Tryz.func27, Tryz.ntmps27
                      go_wp2
                      go_ret
                      exact ⟨by first | rfl | (simp; done) | (simp [*]; done), by repeat (first | exact Drawn0.refl _ | apply Drawn0.step)⟩
                    · rw [if_neg c11] at H
                      have c11b0 : (a0 == 96) = false := beq_eq_false_iff_ne.mpr c11
                      have c11b1 : (a0 != 96) = true := bne_iff_ne.mpr c11
                      replace H := Option.bind_eq_some_iff.mp H
                      obtain ⟨t114, A120, H⟩ := H
                      replace H : (some t114) = some r := H
                      have A12 := Aside0.mk A120
                      clear A120
                      obtain rfl := Option.some.inj H
                      go_enter Tryz.func27, Tryz.ntmps27
                      go_wp2_with (first | ((with_reducible refine gate_callee (f := 19) rfl ?_); refine goesL_ (some 16) rfl rfl Tryz.func19 (by kernel_rfl) rfl #[.int .u8 a0] rfl (by (try simp only [List.map_toArray, List.map_cons, List.map_nil]); first | done | rfl | (simp only [List.length_drop, List.length_take]; rfl)) ?_; (with_reducible refine (spec_blank.calls a0 t114 _ A12.out).mono ?_); rintro e w' ⟨rfl, ⟨nd, rfl⟩⟩; refine ⟨_, rfl, ?_⟩))
                      go_ret
                      exact ⟨by first | rfl | (simp; done) | (simp [*]; done), by repeat (first | exact Drawn0.refl _ | apply Drawn0.step)⟩
end Go.Proofs.YtmjoebnphacadaaGreatDoor.Q
-- printed by this project's own program wip/tools/mkprint.py (the kit's print.py with hand-proved contracts put in)
namespace Go.Proofs.YtmjoebnphacadaaGreatDoor.Q
open Go.RowKit Go.Proofs.YtmjoebnphacadaaGreatDoorW.PrintWords Go.Proofs.YtmjoebnphacadaaGreatDoorW.PrintLast Go.Proofs.YtmjoebnphacadaaGreatDoorW.PrintMore
attribute [local go_sem] max2_int min2_int max_two min_two max_three min_three max_four min_four   -- for this text's walks alone
set_option linter.unusedVariables false
set_option linter.unusedSimpArgs false
/-! ### spec_token: function 20 -/
mutual
noncomputable def spec_token.j0 : Nat → ByteArray → Int → ByteArray → Option (Int × Int)
  | 0, _, _, _ => none
  | k + 1, x0, x1, x6 => if 0 ≤ x1 then (if x1 < (x0.size : Int) then (if (bt x0 x1) = 123 then (some (1, wrap64 (x1 + 1))) else (if (bt x0 x1) = 125 then (some (2, wrap64 (x1 + 1))) else (if (bt x0 x1) = 44 then (some (3, wrap64 (x1 + 1))) else (if x6.toList = ([61, 126] : List UInt8) then (some (6, wrap64 (x1 + 2))) else (if x6.toList = ([33, 61] : List UInt8) then (some (5, wrap64 (x1 + 2))) else (if x6.toList = ([33, 126] : List UInt8) then (some (7, wrap64 (x1 + 2))) else (if (bt x0 x1) = 61 then (some (4, wrap64 (x1 + 1))) else (if (bt x0 x1) = 34 then ((spec_closed.f k x0 x1).bind fun t115 => (if t115 > 0 then (some (8, t115)) else (some (0, x1)))) else ((spec_reserved.f (bt x0 x1)).bind fun t116 => (if t116 = true then (some (0, x1)) else (spec_token.l0 k x0 x1))))))))))) else (none)) else (none)
noncomputable def spec_token.l0 : Nat → ByteArray → Int → Option (Int × Int)
  | 0, _, _ => none
  | k + 1, x0, x8 => if x8 < (x0.size : Int) then (if 0 ≤ x8 then ((spec_reserved.f (bt x0 x8)).bind fun t117 => (if t117 = true then (some (9, x8)) else (spec_token.l0 k x0 (wrap64 (x8 + 1))))) else (none)) else (some (9, x8))
end
noncomputable def spec_token.f (k : Nat) (a0 : ByteArray) (a1 : Int) : Option (Int × Int) := if (wrap64 (a1 + 2)) ≤ (a0.size : Int) then (if 0 ≤ a1 then (if a1 ≤ (wrap64 (a1 + 2)) then (spec_token.j0 k a0 a1 (a0.extract (a1 : Int).toNat ((wrap64 (a1 + 2)) : Int).toNat)) else (none)) else (none)) else (spec_token.j0 k a0 a1 (⟨#[]⟩ : ByteArray))
theorem spec_token.mono_l : ∀ k, (∀ y0 y1 y2, LeO (spec_token.j0 k y0 y1 y2) (spec_token.j0 (k + 1) y0 y1 y2)) ∧ (∀ y0 y1, LeO (spec_token.l0 k y0 y1) (spec_token.l0 (k + 1) y0 y1))
  | 0 => ⟨fun _ _ _ r h => by simp [spec_token.j0] at h, fun _ _ r h => by simp [spec_token.l0] at h⟩
  | k + 1 => by
    obtain ⟨ih0, ih1⟩ := spec_token.mono_l k
    refine ⟨?_, ?_⟩
    · intro y0 y1 y2
      unfold spec_token.j0
      repeat' first
      | (with_reducible exact ih0 _ _ _)
      | (with_reducible exact ih1 _ _)
      | (with_reducible exact spec_closed.mono _ _ _)
      | (with_reducible exact LeO.refl _)
      | (with_reducible exact LeO.none _)
      | (with_reducible refine LeO.ite ?_ ?_)
      | (with_reducible refine LeO.bind ?_ (fun _ => ?_))
      | exact ih0 _ _ _
      | exact ih1 _ _
      | exact spec_closed.mono _ _ _
      | exact LeO.none _
      | refine LeO.ite ?_ ?_
      | refine LeO.bind ?_ (fun _ => ?_)
    · intro y0 y1
      unfold spec_token.l0
      repeat' first
      | (with_reducible exact ih0 _ _ _)
      | (with_reducible exact ih1 _ _)
      | (with_reducible exact spec_closed.mono _ _ _)
      | (with_reducible exact LeO.refl _)
      | (with_reducible exact LeO.none _)
      | (with_reducible refine LeO.ite ?_ ?_)
      | (with_reducible refine LeO.bind ?_ (fun _ => ?_))
      | exact ih0 _ _ _
      | exact ih1 _ _
      | exact spec_closed.mono _ _ _
      | exact LeO.none _
      | refine LeO.ite ?_ ?_
      | refine LeO.bind ?_ (fun _ => ?_)
theorem spec_token.mono : ∀ a0 a1 k, LeO (spec_token.f k a0 a1) (spec_token.f (k + 1) a0 a1) := by
  intro a0 a1 k
  obtain ⟨ih0, ih1⟩ := spec_token.mono_l k
  unfold spec_token.f
  repeat' first
      | (with_reducible exact ih0 _ _ _)
      | (with_reducible exact ih1 _ _)
      | (with_reducible exact spec_closed.mono _ _ _)
      | (with_reducible exact LeO.refl _)
      | (with_reducible exact LeO.none _)
      | (with_reducible refine LeO.ite ?_ ?_)
      | (with_reducible refine LeO.bind ?_ (fun _ => ?_))
      | exact ih0 _ _ _
      | exact ih1 _ _
      | exact spec_closed.mono _ _ _
      | exact LeO.none _
      | refine LeO.ite ?_ ?_
      | refine LeO.bind ?_ (fun _ => ?_)
set_option maxHeartbeats 8000000 in
set_option maxRecDepth 100000 in
theorem spec_token.calls (k : Nat) (a0 : ByteArray) (a1 : Int) (r1 : Int) (r2 : Int) (w : World) (h : spec_token.f k a0 a1 = some (r1, r2)) :
    Calls Tryz.prog 20 #[.string a0, .int .i64 a1] w fun e w' => e = .returned (.tuple #[.int .i64 r1, .int .i64 r2]) ∧ Drawn0 w w' := by
  have H : (if (wrap64 (a1 + 2)) ≤ (a0.size : Int) then (if 0 ≤ a1 then (if a1 ≤ (wrap64 (a1 + 2)) then (spec_token.j0 k a0 a1 (a0.extract (a1 : Int).toNat ((wrap64 (a1 + 2)) : Int).toNat)) else (none)) else (none)) else (spec_token.j0 k a0 a1 (⟨#[]⟩ : ByteArray))) = some (r1, r2) := h
  clear h
  have HC3 := Aside0.mk H
  clear H
  go_enter Tryz.func20, Tryz.ntmps20
  go_upto_if 13 with (fail)
  go_cut [6] (fun v6 wc => ∃ (kq : Nat) (x6_2 : ByteArray), v6 = .string x6_2 ∧ Aside0 (spec_token.j0 kq a0 a1 x6_2 = some (r1, r2)) ∧ Aside0 (kq ≤ k) ∧ Drawn0 w wc)
  case first =>
    have H := HC3.out
    clear HC3
    by_cases c4 : (wrap64 (a1 + 2)) ≤ (a0.size : Int)
    · rw [if_pos c4] at H
      have c4b0 : decide ((wrap64 (a1 + 2)) ≤ (a0.size : Int)) = true := decide_eq_true c4
      clear c4
      (first | rw [c4b0] | (simp only [i64_w, i32_w]; rw [c4b0]) | skip)
      by_cases c5 : 0 ≤ a1
      · rw [if_pos c5] at H
        have c5b0 := eq_true c5
        have c5b1 : decide (0 ≤ a1) = true := decide_eq_true c5
        clear c5
        by_cases c6 : a1 ≤ (wrap64 (a1 + 2))
        · rw [if_pos c6] at H
          have c6b0 := eq_true c6
          have c6b1 : decide (a1 ≤ (wrap64 (a1 + 2))) = true := decide_eq_true c6
          have c7b0 := eq_true (of_decide_eq_true (by first | (with_reducible assumption) | assumption) : (wrap64 (a1 + 2)) ≤ (a0.size : Int))
          have H' := Aside0.mk H
          clear H
          go_wp2
          go_meet
          case rel => exact ⟨_, (a0.extract (a1 : Int).toNat ((wrap64 (a1 + 2)) : Int).toNat), (by first | rfl | (simp; done) | (simp [*]; done)), H', ⟨by first | omega | exact Nat.le_refl _⟩, by repeat (first | exact Drawn0.refl _ | apply Drawn0.step)⟩
        · rw [if_neg c6] at H
          exact absurd H (by simp)
      · rw [if_neg c5] at H
        exact absurd H (by simp)
    · rw [if_neg c4] at H
      have c4b0 : decide ((wrap64 (a1 + 2)) ≤ (a0.size : Int)) = false := decide_eq_false c4
      clear c4
      (first | rw [c4b0] | (simp only [i64_w, i32_w]; rw [c4b0]) | skip)
      have H' := Aside0.mk H
      clear H
      go_wp2
      go_meet
      case rel => exact ⟨_, ((⟨#[]⟩ : ByteArray)), (by first | rfl | (simp; done) | (simp [*]; done)), H', ⟨by first | omega | exact Nat.le_refl _⟩, by repeat (first | exact Drawn0.refl _ | apply Drawn0.step)⟩
  case rest =>
    clear HC3
    try clear c2
    try clear p2
    try clear c4
    try clear c4b0
    try clear c5
    try clear c5b0
    try clear c5b1
    try clear c6
    try clear c6b0
    try clear c6b1
    try clear p6
    try clear c7
    try clear c7b0
    obtain ⟨kq, x6_2, rfl, HA, HJ2, ⟨mc2, rfl⟩⟩ := hcut
    cases kq with
    | zero => exact absurd HA.out (by simp [spec_token.j0])
    | succ kj2 =>
      have H := HA.out
      clear HA
      simp only [spec_token.j0] at H
      by_cases c8 : 0 ≤ a1
      · rw [if_pos c8] at H
        have c8b0 : decide (0 ≤ a1) = true := decide_eq_true c8
        clear c8
        by_cases c9 : a1 < (a0.size : Int)
        · rw [if_pos c9] at H
          have c9b0 : decide (a1 < (a0.size : Int)) = true := decide_eq_true c9
          clear c9
          by_cases c11 : (bt a0 a1) = 123
          · rw [if_pos c11] at H
            have c11b0 : ((bt a0 a1) == 123) = true := beq_iff_eq.mpr c11
            have c11b1 : ((bt a0 a1) != 123) = false := bne_eq_false_iff_eq.mpr c11
            clear c11
            simp only [Option.some.injEq, Prod.mk.injEq] at H
            obtain ⟨rfl, rfl⟩ := H
            have p10 : 0 ≤ (a1 : Int) := of_decide_eq_true (by first | (with_reducible assumption) | assumption)
            have q10 : a1 < (a0.size : Int) := of_decide_eq_true (by first | (with_reducible assumption) | assumption)
            have hx10 := bt_at a0 a1
            replace p10 := eq_true p10
            replace q10 := eq_true q10
            go_wp2
            go_ret2
            exact ⟨by first | rfl | (simp; done) | (simp [*]; done), by repeat (first | exact Drawn0.refl _ | apply Drawn0.step)⟩
          · rw [if_neg c11] at H
            have c11b0 : ((bt a0 a1) == 123) = false := beq_eq_false_iff_ne.mpr c11
            have c11b1 : ((bt a0 a1) != 123) = true := bne_iff_ne.mpr c11
            by_cases c13 : (bt a0 a1) = 125
            · rw [if_pos c13] at H
              have c13b0 : ((bt a0 a1) == 125) = true := beq_iff_eq.mpr c13
              have c13b1 : ((bt a0 a1) != 125) = false := bne_eq_false_iff_eq.mpr c13
              clear c13
              simp only [Option.some.injEq, Prod.mk.injEq] at H
              obtain ⟨rfl, rfl⟩ := H
              have p10 : 0 ≤ (a1 : Int) := of_decide_eq_true (by first | (with_reducible assumption) | assumption)
              have q10 : a1 < (a0.size : Int) := of_decide_eq_true (by first | (with_reducible assumption) | assumption)
              have hx10 := bt_at a0 a1
              replace p10 := eq_true p10
              replace q10 := eq_true q10
              have p12 : 0 ≤ (a1 : Int) := of_decide_eq_true (by first | (with_reducible assumption) | assumption)
              have q12 : a1 < (a0.size : Int) := of_decide_eq_true (by first | (with_reducible assumption) | assumption)
              have hx12 := bt_at a0 a1
              replace p12 := eq_true p12
              replace q12 := eq_true q12
              go_wp2
              go_ret2
              exact ⟨by first | rfl | (simp; done) | (simp [*]; done), by repeat (first | exact Drawn0.refl _ | apply Drawn0.step)⟩
            · rw [if_neg c13] at H
              have c13b0 : ((bt a0 a1) == 125) = false := beq_eq_false_iff_ne.mpr c13
              have c13b1 : ((bt a0 a1) != 125) = true := bne_iff_ne.mpr c13
              by_cases c15 : (bt a0 a1) = 44
              · rw [if_pos c15] at H
                have c15b0 : ((bt a0 a1) == 44) = true := beq_iff_eq.mpr c15
                have c15b1 : ((bt a0 a1) != 44) = false := bne_eq_false_iff_eq.mpr c15
                clear c15
                simp only [Option.some.injEq, Prod.mk.injEq] at H
                obtain ⟨rfl, rfl⟩ := H
                have p10 : 0 ≤ (a1 : Int) := of_decide_eq_true (by first | (with_reducible assumption) | assumption)
                have q10 : a1 < (a0.size : Int) := of_decide_eq_true (by first | (with_reducible assumption) | assumption)
                have hx10 := bt_at a0 a1
                replace p10 := eq_true p10
                replace q10 := eq_true q10
                have p12 : 0 ≤ (a1 : Int) := of_decide_eq_true (by first | (with_reducible assumption) | assumption)
                have q12 : a1 < (a0.size : Int) := of_decide_eq_true (by first | (with_reducible assumption) | assumption)
                have hx12 := bt_at a0 a1
                replace p12 := eq_true p12
                replace q12 := eq_true q12
                have p14 : 0 ≤ (a1 : Int) := of_decide_eq_true (by first | (with_reducible assumption) | assumption)
                have q14 : a1 < (a0.size : Int) := of_decide_eq_true (by first | (with_reducible assumption) | assumption)
                have hx14 := bt_at a0 a1
                replace p14 := eq_true p14
                replace q14 := eq_true q14
                go_wp2
                go_ret2
                exact ⟨by first | rfl | (simp; done) | (simp [*]; done), by repeat (first | exact Drawn0.refl _ | apply Drawn0.step)⟩
              · rw [if_neg c15] at H
                have c15b0 : ((bt a0 a1) == 44) = false := beq_eq_false_iff_ne.mpr c15
                have c15b1 : ((bt a0 a1) != 44) = true := bne_iff_ne.mpr c15
                by_cases c16 : x6_2.toList = ([61, 126] : List UInt8)
                · rw [if_pos c16] at H
                  have c16b0 : (x6_2.toList == ([61, 126] : List UInt8)) = true := beq_iff_eq.mpr c16
                  have c16b1 : (x6_2.toList != ([61, 126] : List UInt8)) = false := bne_eq_false_iff_eq.mpr c16
                  clear c16
                  simp only [Option.some.injEq, Prod.mk.injEq] at H
                  obtain ⟨rfl, rfl⟩ := H
                  have p10 : 0 ≤ (a1 : Int) := of_decide_eq_true (by first | (with_reducible assumption) | assumption)
                  have q10 : a1 < (a0.size : Int) := of_decide_eq_true (by first | (with_reducible assumption) | assumption)
                  have hx10 := bt_at a0 a1
                  replace p10 := eq_true p10
                  replace q10 := eq_true q10
                  have p12 : 0 ≤ (a1 : Int) := of_decide_eq_true (by first | (with_reducible assumption) | assumption)
                  have q12 : a1 < (a0.size : Int) := of_decide_eq_true (by first | (with_reducible assumption) | assumption)
                  have hx12 := bt_at a0 a1
                  replace p12 := eq_true p12
                  replace q12 := eq_true q12
                  have p14 : 0 ≤ (a1 : Int) := of_decide_eq_true (by first | (with_reducible assumption) | assumption)
                  have q14 : a1 < (a0.size : Int) := of_decide_eq_true (by first | (with_reducible assumption) | assumption)
                  have hx14 := bt_at a0 a1
                  replace p14 := eq_true p14
                  replace q14 := eq_true q14
                  go_wp2
                  go_ret2
                  exact ⟨by first | rfl | (simp; done) | (simp [*]; done), by repeat (first | exact Drawn0.refl _ | apply Drawn0.step)⟩
                · rw [if_neg c16] at H
                  have c16b0 : (x6_2.toList == ([61, 126] : List UInt8)) = false := beq_eq_false_iff_ne.mpr c16
                  have c16b1 : (x6_2.toList != ([61, 126] : List UInt8)) = true := bne_iff_ne.mpr c16
                  by_cases c17 : x6_2.toList = ([33, 61] : List UInt8)
                  · rw [if_pos c17] at H
                    have c17b0 : (x6_2.toList == ([33, 61] : List UInt8)) = true := beq_iff_eq.mpr c17
                    have c17b1 : (x6_2.toList != ([33, 61] : List UInt8)) = false := bne_eq_false_iff_eq.mpr c17
                    clear c17
                    simp only [Option.some.injEq, Prod.mk.injEq] at H
                    obtain ⟨rfl, rfl⟩ := H
                    have p10 : 0 ≤ (a1 : Int) := of_decide_eq_true (by first | (with_reducible assumption) | assumption)
                    have q10 : a1 < (a0.size : Int) := of_decide_eq_true (by first | (with_reducible assumption) | assumption)
                    have hx10 := bt_at a0 a1
                    replace p10 := eq_true p10
                    replace q10 := eq_true q10
                    have p12 : 0 ≤ (a1 : Int) := of_decide_eq_true (by first | (with_reducible assumption) | assumption)
                    have q12 : a1 < (a0.size : Int) := of_decide_eq_true (by first | (with_reducible assumption) | assumption)
                    have hx12 := bt_at a0 a1
                    replace p12 := eq_true p12
                    replace q12 := eq_true q12
                    have p14 : 0 ≤ (a1 : Int) := of_decide_eq_true (by first | (with_reducible assumption) | assumption)
                    have q14 : a1 < (a0.size : Int) := of_decide_eq_true (by first | (with_reducible assumption) | assumption)
                    have hx14 := bt_at a0 a1
                    replace p14 := eq_true p14
                    replace q14 := eq_true q14
                    go_wp2
                    go_ret2
                    exact ⟨by first | rfl | (simp; done) | (simp [*]; done), by repeat (first | exact Drawn0.refl _ | apply Drawn0.step)⟩
                  · rw [if_neg c17] at H
                    have c17b0 : (x6_2.toList == ([33, 61] : List UInt8)) = false := beq_eq_false_iff_ne.mpr c17
                    have c17b1 : (x6_2.toList != ([33, 61] : List UInt8)) = true := bne_iff_ne.mpr c17
                    by_cases c18 : x6_2.toList = ([33, 126] : List UInt8)
                    · rw [if_pos c18] at H
                      have c18b0 : (x6_2.toList == ([33, 126] : List UInt8)) = true := beq_iff_eq.mpr c18
                      have c18b1 : (x6_2.toList != ([33, 126] : List UInt8)) = false := bne_eq_false_iff_eq.mpr c18
                      clear c18
                      simp only [Option.some.injEq, Prod.mk.injEq] at H
                      obtain ⟨rfl, rfl⟩ := H
                      have p10 : 0 ≤ (a1 : Int) := of_decide_eq_true (by first | (with_reducible assumption) | assumption)
                      have q10 : a1 < (a0.size : Int) := of_decide_eq_true (by first | (with_reducible assumption) | assumption)
                      have hx10 := bt_at a0 a1
                      replace p10 := eq_true p10
                      replace q10 := eq_true q10
                      have p12 : 0 ≤ (a1 : Int) := of_decide_eq_true (by first | (with_reducible assumption) | assumption)
                      have q12 : a1 < (a0.size : Int) := of_decide_eq_true (by first | (with_reducible assumption) | assumption)
                      have hx12 := bt_at a0 a1
                      replace p12 := eq_true p12
                      replace q12 := eq_true q12
                      have p14 : 0 ≤ (a1 : Int) := of_decide_eq_true (by first | (with_reducible assumption) | assumption)
                      have q14 : a1 < (a0.size : Int) := of_decide_eq_true (by first | (with_reducible assumption) | assumption)
                      have hx14 := bt_at a0 a1
                      replace p14 := eq_true p14
                      replace q14 := eq_true q14
                      go_wp2
                      go_ret2
                      exact ⟨by first | rfl | (simp; done) | (simp [*]; done), by repeat (first | exact Drawn0.refl _ | apply Drawn0.step)⟩
                    · rw [if_neg c18] at H
                      have c18b0 : (x6_2.toList == ([33, 126] : List UInt8)) = false := beq_eq_false_iff_ne.mpr c18
                      have c18b1 : (x6_2.toList != ([33, 126] : List UInt8)) = true := bne_iff_ne.mpr c18
                      by_cases c20 : (bt a0 a1) = 61
                      · rw [if_pos c20] at H
                        have c20b0 : ((bt a0 a1) == 61) = true := beq_iff_eq.mpr c20
                        have c20b1 : ((bt a0 a1) != 61) = false := bne_eq_false_iff_eq.mpr c20
                        clear c20
                        simp only [Option.some.injEq, Prod.mk.injEq] at H
                        obtain ⟨rfl, rfl⟩ := H
                        have p10 : 0 ≤ (a1 : Int) := of_decide_eq_true (by first | (with_reducible assumption) | assumption)
                        have q10 : a1 < (a0.size : Int) := of_decide_eq_true (by first | (with_reducible assumption) | assumption)
                        have hx10 := bt_at a0 a1
                        replace p10 := eq_true p10
                        replace q10 := eq_true q10
                        have p12 : 0 ≤ (a1 : Int) := of_decide_eq_true (by first | (with_reducible assumption) | assumption)
                        have q12 : a1 < (a0.size : Int) := of_decide_eq_true (by first | (with_reducible assumption) | assumption)
                        have hx12 := bt_at a0 a1
                        replace p12 := eq_true p12
                        replace q12 := eq_true q12
                        have p14 : 0 ≤ (a1 : Int) := of_decide_eq_true (by first | (with_reducible assumption) | assumption)
                        have q14 : a1 < (a0.size : Int) := of_decide_eq_true (by first | (with_reducible assumption) | assumption)
                        have hx14 := bt_at a0 a1
                        replace p14 := eq_true p14
                        replace q14 := eq_true q14
                        have p19 : 0 ≤ (a1 : Int) := of_decide_eq_true (by first | (with_reducible assumption) | assumption)
                        have q19 : a1 < (a0.size : Int) := of_decide_eq_true (by first | (with_reducible assumption) | assumption)
                        have hx19 := bt_at a0 a1
                        replace p19 := eq_true p19
                        replace q19 := eq_true q19
                        go_wp2
                        go_ret2
                        exact ⟨by first | rfl | (simp; done) | (simp [*]; done), by repeat (first | exact Drawn0.refl _ | apply Drawn0.step)⟩
                      · rw [if_neg c20] at H
                        have c20b0 : ((bt a0 a1) == 61) = false := beq_eq_false_iff_ne.mpr c20
                        have c20b1 : ((bt a0 a1) != 61) = true := bne_iff_ne.mpr c20
                        by_cases c22 : (bt a0 a1) = 34
                        · rw [if_pos c22] at H
                          have c22b0 : ((bt a0 a1) == 34) = true := beq_iff_eq.mpr c22
                          have c22b1 : ((bt a0 a1) != 34) = false := bne_eq_false_iff_eq.mpr c22
                          clear c22
                          replace H := Option.bind_eq_some_iff.mp H
                          obtain ⟨t115, A230, H⟩ := H
                          replace H : (if t115 > 0 then (some (8, t115)) else (some (0, a1))) = some (r1, r2) := H
                          have A23 := Aside0.mk A230
                          clear A230
                          by_cases c24 : t115 > 0
                          · rw [if_pos c24] at H
                            have c24b0 : decide (0 < t115) = true := decide_eq_true c24
                            clear c24
                            simp only [Option.some.injEq, Prod.mk.injEq] at H
                            obtain ⟨rfl, rfl⟩ := H
                            have p10 : 0 ≤ (a1 : Int) := of_decide_eq_true (by first | (with_reducible assumption) | assumption)
                            have q10 : a1 < (a0.size : Int) := of_decide_eq_true (by first | (with_reducible assumption) | assumption)
                            have hx10 := bt_at a0 a1
                            replace p10 := eq_true p10
                            replace q10 := eq_true q10
                            have p12 : 0 ≤ (a1 : Int) := of_decide_eq_true (by first | (with_reducible assumption) | assumption)
                            have q12 : a1 < (a0.size : Int) := of_decide_eq_true (by first | (with_reducible assumption) | assumption)
                            have hx12 := bt_at a0 a1
                            replace p12 := eq_true p12
                            replace q12 := eq_true q12
                            have p14 : 0 ≤ (a1 : Int) := of_decide_eq_true (by first | (with_reducible assumption) | assumption)
                            have q14 : a1 < (a0.size : Int) := of_decide_eq_true (by first | (with_reducible assumption) | assumption)
                            have hx14 := bt_at a0 a1
                            replace p14 := eq_true p14
                            replace q14 := eq_true q14
                            have p19 : 0 ≤ (a1 : Int) := of_decide_eq_true (by first | (with_reducible assumption) | assumption)
                            have q19 : a1 < (a0.size : Int) := of_decide_eq_true (by first | (with_reducible assumption) | assumption)
                            have hx19 := bt_at a0 a1
                            replace p19 := eq_true p19
                            replace q19 := eq_true q19
                            have p21 : 0 ≤ (a1 : Int) := of_decide_eq_true (by first | (with_reducible assumption) | assumption)
                            have q21 : a1 < (a0.size : Int) := of_decide_eq_true (by first | (with_reducible assumption) | assumption)
                            have hx21 := bt_at a0 a1
                            replace p21 := eq_true p21
                            replace q21 := eq_true q21
                            go_wp2_with (first | ((with_reducible refine gate_callee (f := 26) rfl ?_); refine goesL_ (some 69) rfl rfl Tryz.func26 (by kernel_rfl) rfl #[.string a0, .int .i64 a1] rfl (by (try simp only [List.map_toArray, List.map_cons, List.map_nil]); first | done | rfl | (simp only [List.length_drop, List.length_take]; rfl)) ?_; (with_reducible refine (spec_closed.calls kj2 a0 a1 t115 _ A23.out).mono ?_); rintro e w' ⟨rfl, ⟨nd, rfl⟩⟩; refine ⟨_, rfl, ?_⟩))
                            go_ret2
                            exact ⟨by first | rfl | (simp; done) | (simp [*]; done), by repeat (first | exact Drawn0.refl _ | apply Drawn0.step)⟩
                          · rw [if_neg c24] at H
                            have c24b0 : decide (0 < t115) = false := decide_eq_false c24
                            clear c24
                            simp only [Option.some.injEq, Prod.mk.injEq] at H
                            obtain ⟨rfl, rfl⟩ := H
                            have p10 : 0 ≤ (a1 : Int) := of_decide_eq_true (by first | (with_reducible assumption) | assumption)
                            have q10 : a1 < (a0.size : Int) := of_decide_eq_true (by first | (with_reducible assumption) | assumption)
                            have hx10 := bt_at a0 a1
                            replace p10 := eq_true p10
                            replace q10 := eq_true q10
                            have p12 : 0 ≤ (a1 : Int) := of_decide_eq_true (by first | (with_reducible assumption) | assumption)
                            have q12 : a1 < (a0.size : Int) := of_decide_eq_true (by first | (with_reducible assumption) | assumption)
                            have hx12 := bt_at a0 a1
                            replace p12 := eq_true p12
                            replace q12 := eq_true q12
                            have p14 : 0 ≤ (a1 : Int) := of_decide_eq_true (by first | (with_reducible assumption) | assumption)
                            have q14 : a1 < (a0.size : Int) := of_decide_eq_true (by first | (with_reducible assumption) | assumption)
                            have hx14 := bt_at a0 a1
                            replace p14 := eq_true p14
                            replace q14 := eq_true q14
                            have p19 : 0 ≤ (a1 : Int) := of_decide_eq_true (by first | (with_reducible assumption) | assumption)
                            have q19 : a1 < (a0.size : Int) := of_decide_eq_true (by first | (with_reducible assumption) | assumption)
                            have hx19 := bt_at a0 a1
                            replace p19 := eq_true p19
                            replace q19 := eq_true q19
                            have p21 : 0 ≤ (a1 : Int) := of_decide_eq_true (by first | (with_reducible assumption) | assumption)
                            have q21 : a1 < (a0.size : Int) := of_decide_eq_true (by first | (with_reducible assumption) | assumption)
                            have hx21 := bt_at a0 a1
                            replace p21 := eq_true p21
                            replace q21 := eq_true q21
                            go_wp2_with (first | ((with_reducible refine gate_callee (f := 26) rfl ?_); refine goesL_ (some 69) rfl rfl Tryz.func26 (by kernel_rfl) rfl #[.string a0, .int .i64 a1] rfl (by (try simp only [List.map_toArray, List.map_cons, List.map_nil]); first | done | rfl | (simp only [List.length_drop, List.length_take]; rfl)) ?_; (with_reducible refine (spec_closed.calls kj2 a0 a1 t115 _ A23.out).mono ?_); rintro e w' ⟨rfl, ⟨nd, rfl⟩⟩; refine ⟨_, rfl, ?_⟩))
                            go_ret2
                            exact ⟨by first | rfl | (simp; done) | (simp [*]; done), by repeat (first | exact Drawn0.refl _ | apply Drawn0.step)⟩
                        · rw [if_neg c22] at H
                          have c22b0 : ((bt a0 a1) == 34) = false := beq_eq_false_iff_ne.mpr c22
                          have c22b1 : ((bt a0 a1) != 34) = true := bne_iff_ne.mpr c22
                          replace H := Option.bind_eq_some_iff.mp H
                          obtain ⟨t116, A260, H⟩ := H
                          replace H : (if t116 = true then (some (0, a1)) else (spec_token.l0 kj2 a0 a1)) = some (r1, r2) := H
                          have A26 := Aside0.mk A260
                          clear A260
                          by_cases c27 : t116 = true
                          · subst c27
                            have H1 : (some (0, a1)) = some (r1, r2) := by rw [if_pos rfl] at H; exact H
                            clear H
                            have H := H1
                            clear H1
                            simp only [Option.some.injEq, Prod.mk.injEq] at H
                            obtain ⟨rfl, rfl⟩ := H
                            have p10 : 0 ≤ (a1 : Int) := of_decide_eq_true (by first | (with_reducible assumption) | assumption)
                            have q10 : a1 < (a0.size : Int) := of_decide_eq_true (by first | (with_reducible assumption) | assumption)
                            have hx10 := bt_at a0 a1
                            replace p10 := eq_true p10
                            replace q10 := eq_true q10
                            have p12 : 0 ≤ (a1 : Int) := of_decide_eq_true (by first | (with_reducible assumption) | assumption)
                            have q12 : a1 < (a0.size : Int) := of_decide_eq_true (by first | (with_reducible assumption) | assumption)
                            have hx12 := bt_at a0 a1
                            replace p12 := eq_true p12
                            replace q12 := eq_true q12
                            have p14 : 0 ≤ (a1 : Int) := of_decide_eq_true (by first | (with_reducible assumption) | assumption)
                            have q14 : a1 < (a0.size : Int) := of_decide_eq_true (by first | (with_reducible assumption) | assumption)
                            have hx14 := bt_at a0 a1
                            replace p14 := eq_true p14
                            replace q14 := eq_true q14
                            have p19 : 0 ≤ (a1 : Int) := of_decide_eq_true (by first | (with_reducible assumption) | assumption)
                            have q19 : a1 < (a0.size : Int) := of_decide_eq_true (by first | (with_reducible assumption) | assumption)
                            have hx19 := bt_at a0 a1
                            replace p19 := eq_true p19
                            replace q19 := eq_true q19
                            have p21 : 0 ≤ (a1 : Int) := of_decide_eq_true (by first | (with_reducible assumption) | assumption)
                            have q21 : a1 < (a0.size : Int) := of_decide_eq_true (by first | (with_reducible assumption) | assumption)
                            have hx21 := bt_at a0 a1
                            replace p21 := eq_true p21
                            replace q21 := eq_true q21
                            have p25 : 0 ≤ (a1 : Int) := of_decide_eq_true (by first | (with_reducible assumption) | assumption)
                            have q25 : a1 < (a0.size : Int) := of_decide_eq_true (by first | (with_reducible assumption) | assumption)
                            have hx25 := bt_at a0 a1
                            replace p25 := eq_true p25
                            replace q25 := eq_true q25
                            go_wp2_with (first | ((with_reducible refine gate_callee (f := 27) rfl ?_); refine goesL_ (some 78) rfl rfl Tryz.func27 (by kernel_rfl) rfl #[.int .u8 (bt a0 a1)] rfl (by (try simp only [List.map_toArray, List.map_cons, List.map_nil]); first | done | rfl | (simp only [List.length_drop, List.length_take]; rfl)) ?_; (with_reducible refine (spec_reserved.calls (bt a0 a1) true _ A26.out).mono ?_); rintro e w' ⟨rfl, ⟨nd, rfl⟩⟩; refine ⟨_, rfl, ?_⟩))
                            go_ret2
                            exact ⟨by first | rfl | (simp; done) | (simp [*]; done), by repeat (first | exact Drawn0.refl _ | apply Drawn0.step)⟩
                          · replace c27 := Bool.eq_false_iff.mpr c27
                            subst c27
                            have H1 : (spec_token.l0 kj2 a0 a1) = some (r1, r2) := by rw [if_neg (show ¬ (false = true) by decide)] at H; exact H
                            clear H
                            have H := H1
                            clear H1
                            have H' := Aside0.mk H
                            clear H
                            have p10 : 0 ≤ (a1 : Int) := of_decide_eq_true (by first | (with_reducible assumption) | assumption)
                            have q10 : a1 < (a0.size : Int) := of_decide_eq_true (by first | (with_reducible assumption) | assumption)
                            have hx10 := bt_at a0 a1
                            replace p10 := eq_true p10
                            replace q10 := eq_true q10
                            have p12 : 0 ≤ (a1 : Int) := of_decide_eq_true (by first | (with_reducible assumption) | assumption)
                            have q12 : a1 < (a0.size : Int) := of_decide_eq_true (by first | (with_reducible assumption) | assumption)
                            have hx12 := bt_at a0 a1
                            replace p12 := eq_true p12
                            replace q12 := eq_true q12
                            have p14 : 0 ≤ (a1 : Int) := of_decide_eq_true (by first | (with_reducible assumption) | assumption)
                            have q14 : a1 < (a0.size : Int) := of_decide_eq_true (by first | (with_reducible assumption) | assumption)
                            have hx14 := bt_at a0 a1
                            replace p14 := eq_true p14
                            replace q14 := eq_true q14
                            have p19 : 0 ≤ (a1 : Int) := of_decide_eq_true (by first | (with_reducible assumption) | assumption)
                            have q19 : a1 < (a0.size : Int) := of_decide_eq_true (by first | (with_reducible assumption) | assumption)
                            have hx19 := bt_at a0 a1
                            replace p19 := eq_true p19
                            replace q19 := eq_true q19
                            have p21 : 0 ≤ (a1 : Int) := of_decide_eq_true (by first | (with_reducible assumption) | assumption)
                            have q21 : a1 < (a0.size : Int) := of_decide_eq_true (by first | (with_reducible assumption) | assumption)
                            have hx21 := bt_at a0 a1
                            replace p21 := eq_true p21
                            replace q21 := eq_true q21
                            have p25 : 0 ≤ (a1 : Int) := of_decide_eq_true (by first | (with_reducible assumption) | assumption)
                            have q25 : a1 < (a0.size : Int) := of_decide_eq_true (by first | (with_reducible assumption) | assumption)
                            have hx25 := bt_at a0 a1
                            replace p25 := eq_true p25
                            replace q25 := eq_true q25
                            go_wp2_with (first | ((with_reducible refine gate_callee (f := 27) rfl ?_); refine goesL_ (some 78) rfl rfl Tryz.func27 (by kernel_rfl) rfl #[.int .u8 (bt a0 a1)] rfl (by (try simp only [List.map_toArray, List.map_cons, List.map_nil]); first | done | rfl | (simp only [List.length_drop, List.length_take]; rfl)) ?_; (with_reducible refine (spec_reserved.calls (bt a0 a1) false _ A26.out).mono ?_); rintro e w' ⟨rfl, ⟨nd, rfl⟩⟩; refine ⟨_, rfl, ?_⟩))
                            go_loopg [8] kj2 (fun kq v8 w' => ∃ (x8_2 : Int), v8 = .int .i64 x8_2 ∧ Aside0 (spec_token.l0 kq a0 x8_2 = some (r1, r2)) ∧ Aside0 (kq ≤ kj2) ∧ Drawn0 w w')
                            case atStart => exact ⟨(a1), (by first | rfl | (simp; done) | (simp [*]; done)), H', ⟨Nat.le_refl _⟩, by repeat (first | exact Drawn0.refl _ | apply Drawn0.step)⟩
                            case round =>
                              clear H'
                              try clear c1
                              try clear p1
                              try clear q1
                              try clear hx1
                              try clear c2
                              try clear p2
                              try clear q2
                              try clear hx2
                              try clear c4
                              try clear c4b0
                              try clear c5
                              try clear c5b0
                              try clear c5b1
                              try clear c6
                              try clear c6b0
                              try clear c6b1
                              try clear p6
                              try clear c7
                              try clear c7b0
                              try clear c8
                              try clear c8b0
                              try clear c9
                              try clear c9b0
                              try clear p10
                              try clear q10
                              try clear hx10
                              try clear c11
                              try clear c11b0
                              try clear c11b1
                              try clear p12
                              try clear q12
                              try clear hx12
                              try clear c13
                              try clear c13b0
                              try clear c13b1
                              try clear p14
                              try clear q14
                              try clear hx14
                              try clear c15
                              try clear c15b0
                              try clear c15b1
                              try clear c16
                              try clear c16b0
                              try clear c16b1
                              try clear c17
                              try clear c17b0
                              try clear c17b1
                              try clear c18
                              try clear c18b0
                              try clear c18b1
                              try clear p19
                              try clear q19
                              try clear hx19
                              try clear c20
                              try clear c20b0
                              try clear c20b1
                              try clear p21
                              try clear q21
                              try clear hx21
                              try clear c22
                              try clear c22b0
                              try clear c22b1
                              try clear c24
                              try clear c24b0
                              try clear p25
                              try clear q25
                              try clear hx25
                              try clear c26
                              try clear c27
                              try clear p10
                              try clear p12
                              try clear p14
                              try clear p19
                              try clear p2
                              try clear p21
                              try clear p25
                              try clear p6
                              try clear q10
                              try clear q12
                              try clear q14
                              try clear q19
                              try clear q21
                              try clear q25
                              obtain ⟨x8_2, rfl, HA, HK2, ⟨m2, rfl⟩⟩ := hrel
                              cases gk with
                              | zero => exact absurd HA.out (by simp [spec_token.l0])
                              | succ k2 =>
                                have H := HA.out
                                clear HA
                                simp only [spec_token.l0] at H
                                by_cases c28 : x8_2 < (a0.size : Int)
                                · rw [if_pos c28] at H
                                  have c28b0 : decide (x8_2 < (a0.size : Int)) = true := decide_eq_true c28
                                  clear c28
                                  by_cases c29 : 0 ≤ x8_2
                                  · rw [if_pos c29] at H
                                    have c29b0 : decide (0 ≤ x8_2) = true := decide_eq_true c29
                                    clear c29
                                    replace H := Option.bind_eq_some_iff.mp H
                                    obtain ⟨t117, A310, H⟩ := H
                                    replace H : (if t117 = true then (some (9, x8_2)) else (spec_token.l0 k2 a0 (wrap64 (x8_2 + 1)))) = some (r1, r2) := H
                                    have A31 := Aside0.mk A310
                                    clear A310
                                    by_cases c32 : t117 = true
                                    · subst c32
                                      have H1 : (some (9, x8_2)) = some (r1, r2) := by rw [if_pos rfl] at H; exact H
                                      clear H
                                      have H := H1
                                      clear H1
                                      simp only [Option.some.injEq, Prod.mk.injEq] at H
                                      obtain ⟨rfl, rfl⟩ := H
                                      have p30 : 0 ≤ (x8_2 : Int) := of_decide_eq_true (by first | (with_reducible assumption) | assumption)
                                      have q30 : x8_2 < (a0.size : Int) := of_decide_eq_true (by first | (with_reducible assumption) | assumption)
                                      have hx30 := bt_at a0 x8_2
                                      replace p30 := eq_true p30
                                      replace q30 := eq_true q30
                                      go_wp2_with (first | (go_at_call 27; (with_reducible refine (spec_reserved.calls (bt a0 x8_2) true _ A31.out).mono ?_); rintro e w' ⟨rfl, ⟨nd, rfl⟩⟩))
                                      go_ret2
                                      exact ⟨by first | rfl | (simp; done) | (simp [*]; done), by repeat (first | exact Drawn0.refl _ | apply Drawn0.step)⟩
                                    · replace c32 := Bool.eq_false_iff.mpr c32
                                      subst c32
                                      have H1 : (spec_token.l0 k2 a0 (wrap64 (x8_2 + 1))) = some (r1, r2) := by rw [if_neg (show ¬ (false = true) by decide)] at H; exact H
                                      clear H
                                      have H := H1
                                      clear H1
                                      have H' := Aside0.mk H
                                      clear H
                                      have p30 : 0 ≤ (x8_2 : Int) := of_decide_eq_true (by first | (with_reducible assumption) | assumption)
                                      have q30 : x8_2 < (a0.size : Int) := of_decide_eq_true (by first | (with_reducible assumption) | assumption)
                                      have hx30 := bt_at a0 x8_2
                                      replace p30 := eq_true p30
                                      replace q30 := eq_true q30
                                      go_wp2_with (first | (go_at_call 27; (with_reducible refine (spec_reserved.calls (bt a0 x8_2) false _ A31.out).mono ?_); rintro e w' ⟨rfl, ⟨nd, rfl⟩⟩))
                                      go_roundg k2
                                      case measure => have := HJ2.out; have := HK2.out; omega
                                      case rel => exact ⟨(wrap64 (x8_2 + 1)), (by first | rfl | (simp; done) | (simp [*]; done)), H', ⟨by have := HJ2.out; have := HK2.out; omega⟩, by repeat (first | exact Drawn0.refl _ | apply Drawn0.step)⟩
                                  · rw [if_neg c29] at H
                                    exact absurd H (by simp)
                                · rw [if_neg c28] at H
                                  have c28b0 : decide (x8_2 < (a0.size : Int)) = false := decide_eq_false c28
                                  clear c28
                                  simp only [Option.some.injEq, Prod.mk.injEq] at H
                                  obtain ⟨rfl, rfl⟩ := H
                                  go_wp2
                                  go_ret2
                                  exact ⟨by first | rfl | (simp; done) | (simp [*]; done), by repeat (first | exact Drawn0.refl _ | apply Drawn0.step)⟩
        · rw [if_neg c9] at H
          exact absurd H (by simp)
      · rw [if_neg c8] at H
        exact absurd H (by simp)
end Go.Proofs.YtmjoebnphacadaaGreatDoor.Q
-- printed by this project's own program wip/tools/mkprint.py (the kit's print.py with hand-proved contracts put in)
namespace Go.Proofs.YtmjoebnphacadaaGreatDoor.Q
open Go.RowKit Go.Proofs.YtmjoebnphacadaaGreatDoorW.PrintWords Go.Proofs.YtmjoebnphacadaaGreatDoorW.PrintLast Go.Proofs.YtmjoebnphacadaaGreatDoorW.PrintMore
attribute [local go_sem] max2_int min2_int max_two min_two max_three min_three max_four min_four   -- for this text's walks alone
set_option linter.unusedVariables false
set_option linter.unusedSimpArgs false
/-! ### spec_Runes: function 21 -/
noncomputable def spec_Runes.l0 : Nat → ByteArray → Int → Option (Int)
  | 0, _, _ => none
  | k + 1, x0, x3 => if (x0.size : Int) > 0 then ((spec_runeLen.f k x0).bind fun t118 => (if 0 ≤ t118 then (if t118 ≤ (x0.size : Int) then (spec_Runes.l0 k (x0.extract (t118 : Int).toNat x0.size) (wrap64 (x3 + 1))) else (none)) else (none))) else (some x3)
noncomputable def spec_Runes.f (k : Nat) (a0 : ByteArray) : Option (Int) := spec_Runes.l0 k a0 0
theorem spec_Runes.mono_l : ∀ k, (∀ y0 y1, LeO (spec_Runes.l0 k y0 y1) (spec_Runes.l0 (k + 1) y0 y1))
  | 0 => fun _ _ r h => by simp [spec_Runes.l0] at h
  | k + 1 => by
    have ih0 := spec_Runes.mono_l k
    · intro y0 y1
      unfold spec_Runes.l0
      repeat' first
      | (with_reducible exact ih0 _ _)
      | (with_reducible exact spec_runeLen.mono _ _)
      | (with_reducible exact LeO.refl _)
      | (with_reducible exact LeO.none _)
      | (with_reducible refine LeO.ite ?_ ?_)
      | (with_reducible refine LeO.bind ?_ (fun _ => ?_))
      | exact ih0 _ _
      | exact spec_runeLen.mono _ _
      | exact LeO.none _
      | refine LeO.ite ?_ ?_
      | refine LeO.bind ?_ (fun _ => ?_)
theorem spec_Runes.mono : ∀ a0 k, LeO (spec_Runes.f k a0) (spec_Runes.f (k + 1) a0) := by
  intro a0 k
  have ih0 := spec_Runes.mono_l k
  unfold spec_Runes.f
  repeat' first
      | (with_reducible exact ih0 _ _)
      | (with_reducible exact spec_runeLen.mono _ _)
      | (with_reducible exact LeO.refl _)
      | (with_reducible exact LeO.none _)
      | (with_reducible refine LeO.ite ?_ ?_)
      | (with_reducible refine LeO.bind ?_ (fun _ => ?_))
      | exact ih0 _ _
      | exact spec_runeLen.mono _ _
      | exact LeO.none _
      | refine LeO.ite ?_ ?_
      | refine LeO.bind ?_ (fun _ => ?_)
set_option maxHeartbeats 8000000 in
set_option maxRecDepth 100000 in
theorem spec_Runes.calls (k : Nat) (a0 : ByteArray) (r : Int) (w : World) (h : spec_Runes.f k a0 = some r) :
    Calls Tryz.prog 21 #[.string a0] w fun e w' => e = .returned (.int .i64 r) ∧ Drawn0 w w' := by
  have H : (spec_Runes.l0 k a0 0) = some r := h
  clear h
  have H' := Aside0.mk H
  clear H
  go_enter Tryz.func21, Tryz.ntmps21
  go_wp2
  go_loopg [0, 3] k (fun kq v0 v3 w' => ∃ (x0_1 : ByteArray) (x3_1 : Int), v0 = .string x0_1 ∧ v3 = .int .i64 x3_1 ∧ Aside0 (spec_Runes.l0 kq x0_1 x3_1 = some r) ∧ Aside0 (kq ≤ k) ∧ Drawn0 w w')
  case atStart => exact ⟨(a0), (0), (by first | rfl | (simp; done) | (simp [*]; done)), (by first | rfl | (simp; done) | (simp [*]; done)), H', ⟨Nat.le_refl _⟩, by repeat (first | exact Drawn0.refl _ | apply Drawn0.step)⟩
  case round =>
    clear H'
    obtain ⟨x0_1, x3_1, rfl, rfl, HA, HK1, ⟨m1, rfl⟩⟩ := hrel
    cases gk with
    | zero => exact absurd HA.out (by simp [spec_Runes.l0])
    | succ k1 =>
      have H := HA.out
      clear HA
      simp only [spec_Runes.l0] at H
      by_cases c2 : (x0_1.size : Int) > 0
      · rw [if_pos c2] at H
        have c2b0 : decide (0 < (x0_1.size : Int)) = true := decide_eq_true c2
        have c2b1 : decide (0 < x0_1.size) = true := decide_eq_true (by omega)
        clear c2
        replace H := Option.bind_eq_some_iff.mp H
        obtain ⟨t118, A30, H⟩ := H
        replace H : (if 0 ≤ t118 then (if t118 ≤ (x0_1.size : Int) then (spec_Runes.l0 k1 (x0_1.extract (t118 : Int).toNat x0_1.size) (wrap64 (x3_1 + 1))) else (none)) else (none)) = some r := H
        have A3 := Aside0.mk A30
        clear A30
        by_cases c4 : 0 ≤ t118
        · rw [if_pos c4] at H
          have c4b0 := eq_true c4
          have c4b1 : decide (0 ≤ t118) = true := decide_eq_true c4
          clear c4
          by_cases c5 : t118 ≤ (x0_1.size : Int)
          · rw [if_pos c5] at H
            have c5b0 := eq_true c5
            have c5b1 : decide (t118 ≤ (x0_1.size : Int)) = true := decide_eq_true c5
            clear c5
            have H' := Aside0.mk H
            clear H
            go_wp2_with (first | ((with_reducible refine gate_callee (f := 28) rfl ?_); refine goesL_ (some 9) rfl rfl Tryz.func28 (by kernel_rfl) rfl #[.string x0_1] rfl (by (try simp only [List.map_toArray, List.map_cons, List.map_nil]); first | done | rfl | (simp only [List.length_drop, List.length_take]; rfl)) ?_; (with_reducible refine (spec_runeLen.calls k1 x0_1 t118 _ A3.out).mono ?_); rintro e w' ⟨rfl, ⟨nd, rfl⟩⟩; refine ⟨_, rfl, ?_⟩))
            go_roundg k1
            case measure => have := HK1.out; omega
            case rel => exact ⟨(x0_1.extract (t118 : Int).toNat x0_1.size), (wrap64 (x3_1 + 1)), (by first | rfl | (simp; done) | (simp [*]; done)), (by first | rfl | (simp; done) | (simp [*]; done)), H', ⟨by have := HK1.out; omega⟩, by repeat (first | exact Drawn0.refl _ | apply Drawn0.step)⟩
          · rw [if_neg c5] at H
            exact absurd H (by simp)
        · rw [if_neg c4] at H
          exact absurd H (by simp)
      · rw [if_neg c2] at H
        have c2b0 : decide (0 < (x0_1.size : Int)) = false := decide_eq_false c2
        have c2b1 : decide (0 < x0_1.size) = false := decide_eq_false (by omega)
        clear c2
        obtain rfl := Option.some.inj H
        go_wp2
        go_ret
        exact ⟨by first | rfl | (simp; done) | (simp [*]; done), by repeat (first | exact Drawn0.refl _ | apply Drawn0.step)⟩
end Go.Proofs.YtmjoebnphacadaaGreatDoor.Q
-- printed by this project's own program wip/tools/mkprint.py (the kit's print.py with hand-proved contracts put in)
namespace Go.Proofs.YtmjoebnphacadaaGreatDoor.Q
open Go.RowKit Go.Proofs.YtmjoebnphacadaaGreatDoorW.PrintWords Go.Proofs.YtmjoebnphacadaaGreatDoorW.PrintLast Go.Proofs.YtmjoebnphacadaaGreatDoorW.PrintMore
attribute [local go_sem] max2_int min2_int max_two min_two max_three min_three max_four min_four   -- for this text's walks alone
set_option linter.unusedVariables false
set_option linter.unusedSimpArgs false
/-! ### spec_Tokens: function 11 -/
noncomputable def spec_Tokens.l0 : Nat → ByteArray → List (S49) → Int → Option ((List (S49)) × Int)
  | 0, _, _, _ => none
  | k + 1, x0, x4, x5 => if x5 < (x0.size : Int) then (if 0 ≤ x5 then ((spec_blank.f (bt x0 x5)).bind fun t120 => (if t120 = true then (spec_Tokens.l0 k x0 x4 (wrap64 (x5 + 1))) else ((spec_token.f k x0 x5).bind fun bt121 => (if bt121.1 = 0 then (some (x4, 0)) else (if x5 ≤ bt121.2 then (if bt121.2 ≤ (x0.size : Int) then (if x5 ≤ (x0.size : Int) then ((spec_Runes.f k (x0.extract 0 (x5 : Int).toNat)).bind fun t123 => (if 0 ≤ bt121.2 then ((spec_Runes.f k (x0.extract 0 (bt121.2 : Int).toNat)).bind fun t124 => (if x4.length < 2513169434916 then (spec_Tokens.l0 k x0 (x4 ++ [(⟨bt121.1, x0.extract (x5 : Int).toNat (bt121.2 : Int).toNat, x5, bt121.2, t123, t124⟩ : S49)]) bt121.2) else (none))) else (none))) else (none)) else (none)) else (none)))))) else (none)) else (some (x4, 1))
noncomputable def spec_Tokens.f (k : Nat) (a0 : ByteArray) : Option ((List (S49)) × Int) := (spec_Settled.f k a0).bind fun t119 => (if t119 = true then (spec_Tokens.l0 k a0 ([] : List (S49)) 0) else (some (([] : List (S49)), 2)))
theorem spec_Tokens.mono_l : ∀ k, (∀ y0 y1 y2, LeO (spec_Tokens.l0 k y0 y1 y2) (spec_Tokens.l0 (k + 1) y0 y1 y2))
  | 0 => fun _ _ _ r h => by simp [spec_Tokens.l0] at h
  | k + 1 => by
    have ih0 := spec_Tokens.mono_l k
    · intro y0 y1 y2
      unfold spec_Tokens.l0
      repeat' first
      | (with_reducible exact ih0 _ _ _)
      | (with_reducible exact spec_Runes.mono _ _)
      | (with_reducible exact spec_Settled.mono _ _)
      | (with_reducible exact spec_token.mono _ _ _)
      | (with_reducible exact LeO.refl _)
      | (with_reducible exact LeO.none _)
      | (with_reducible refine LeO.ite ?_ ?_)
      | (with_reducible refine LeO.bind ?_ (fun _ => ?_))
      | exact ih0 _ _ _
      | exact spec_Runes.mono _ _
      | exact spec_Settled.mono _ _
      | exact spec_token.mono _ _ _
      | exact LeO.none _
      | refine LeO.ite ?_ ?_
      | refine LeO.bind ?_ (fun _ => ?_)
theorem spec_Tokens.mono : ∀ a0 k, LeO (spec_Tokens.f k a0) (spec_Tokens.f (k + 1) a0) := by
  intro a0 k
  have ih0 := spec_Tokens.mono_l k
  unfold spec_Tokens.f
  repeat' first
      | (with_reducible exact ih0 _ _ _)
      | (with_reducible exact spec_Runes.mono _ _)
      | (with_reducible exact spec_Settled.mono _ _)
      | (with_reducible exact spec_token.mono _ _ _)
      | (with_reducible exact LeO.refl _)
      | (with_reducible exact LeO.none _)
      | (with_reducible refine LeO.ite ?_ ?_)
      | (with_reducible refine LeO.bind ?_ (fun _ => ?_))
      | exact ih0 _ _ _
      | exact spec_Runes.mono _ _
      | exact spec_Settled.mono _ _
      | exact spec_token.mono _ _ _
      | exact LeO.none _
      | refine LeO.ite ?_ ?_
      | refine LeO.bind ?_ (fun _ => ?_)
def spec_Tokens.T11 : Bool × List (List Nat × List Nat) := (true, [([], []), ([], []), ([], []), ([], []), ([], []), ([2, 3, 4], [2, 3, 4]), ([], []), ([], []), ([], []), ([], []), ([8, 9], [8, 9]), ([10], [10]), ([], []), ([], []), ([12, 13], [12, 13]), ([14, 11], [14]), ([1, 5, 6, 7, 11, 15], [1, 5, 6, 7, 11, 15]), ([16], [16]), ([0, 17, 15], [0, 17]), ([18, 18, 0, 1, 2, 3, 4, 5, 6, 7, 8, 9, 10, 11, 12, 13, 14, 15, 16, 17, 18], [0, 18])])
def spec_Tokens.B11 : List Nat := [0, 0, 0, 0, 0, 28, 0, 0, 0, 0, 768, 1792, 0, 0, 12288, 32512, 65534, 131070, 262143, 524287]
theorem spec_Tokens.tab11 : rtab .any (opsOf Tryz.f11 11) = spec_Tokens.T11 := by kernel_rfl
theorem spec_Tokens.bits11 : waitsOk spec_Tokens.T11.2 spec_Tokens.B11 = true := by kernel_rfl
set_option maxHeartbeats 8000000 in
set_option maxRecDepth 100000 in
theorem spec_Tokens.calls (k : Nat) (a0 : ByteArray) (r1 : List (S49)) (r2 : Int) (w : World) (h : spec_Tokens.f k a0 = some (r1, r2)) :
    Calls Tryz.prog 11 #[.string a0] w fun e w' => ∃ v0_ : Value, e = .returned (.tuple #[v0_, .int .i64 r2]) ∧ Kd.R k49 49 w' w.heap.size (fun _ => True) v0_ r1 ∧ Below w.heap.size w w' := by
  have hu49 := Tryz.underlying49
  have HB := Aside0.mk (Below.refl w.heap.size w)
  have H : ((spec_Settled.f k a0).bind fun t119 => (if t119 = true then (spec_Tokens.l0 k a0 ([] : List (S49)) 0) else (some (([] : List (S49)), 2)))) = some (r1, r2) := h
  clear h
  replace H := Option.bind_eq_some_iff.mp H
  obtain ⟨t119, A20, H⟩ := H
  replace H : (if t119 = true then (spec_Tokens.l0 k a0 ([] : List (S49)) 0) else (some (([] : List (S49)), 2))) = some (r1, r2) := H
  have A2 := Aside0.mk A20
  clear A20
  by_cases c3 : t119 = true
  · subst c3
    have H1 : (spec_Tokens.l0 k a0 ([] : List (S49)) 0) = some (r1, r2) := by rw [if_pos rfl] at H; exact H
    clear H
    have H := H1
    clear H1
    have H' := Aside0.mk H
    clear H
    go_enter Tryz.func11, Tryz.ntmps11
    go_wp2_with (first | ((with_reducible refine gate_callee (f := 18) rfl ?_); refine goesL_ (some 9) rfl rfl Tryz.func18 (by kernel_rfl) rfl #[.string a0] rfl (by (try simp only [List.map_toArray, List.map_cons, List.map_nil]); first | done | rfl | (simp only [List.length_drop, List.length_take]; rfl)) ?_; (with_reducible refine (spec_Settled.calls k a0 true _ A2.out).mono ?_); rintro e w4 ⟨rfl, hb⟩; refine ⟨_, rfl, ?_⟩; have n0_ := Aside0.mk (below_step (by repeat (first | (with_reducible first | exact HB.out | apply below_alloc | apply pw_below_drewN | apply below_drew1) | exact HB.out)) hb); clear HB; have HB := n0_; clear n0_; (try clear hb); (try clear hb2); (try clear hk); (try clear hi)))
    go_loopg [4, 5] k (fun kq v4 v5 w' => ∃ (x4_1 : List (S49)) (x5_1 : Int), v5 = .int .i64 x5_1 ∧ Aside0 (spec_Tokens.l0 kq a0 x4_1 x5_1 = some (r1, r2)) ∧ Aside0 (kq ≤ k) ∧ Aside0 (Kd.R k49 49 w' w.heap.size (fun _ => True) v4 x4_1) ∧ Aside0 (Below w.heap.size w w'))
    case atStart => exact ⟨(([] : List (S49))), (0), (by first | rfl | (simp; done) | (simp [*]; done)), H', ⟨Nat.le_refl _⟩, ⟨by first | exact Kd.R_nil _ _ _ _ _ | exact Kd.N_nil _ _ _ _ _ | exact Kd.V_nil _ _ _ _ _ | exact Kd.Q_nil _ _ _ _ _ | exact Kd.S_nil _ _ _ _ _⟩, ⟨by repeat (first | (with_reducible first | exact HB.out | apply below_alloc | apply pw_below_drewN | apply below_drew1) | exact HB.out)⟩⟩
    case round =>
      clear H'
      try clear c1
      try clear p2
      try clear c3
      obtain ⟨x4_1, x5_1, rfl, HA, HK1, HO_4, HB⟩ := hrel
      cases gk with
      | zero => exact absurd HA.out (by simp [spec_Tokens.l0])
      | succ k1 =>
        have H := HA.out
        clear HA
        simp only [spec_Tokens.l0] at H
        by_cases c5 : x5_1 < (a0.size : Int)
        · rw [if_pos c5] at H
          have c5b0 : decide (x5_1 < (a0.size : Int)) = true := decide_eq_true c5
          clear c5
          by_cases c6 : 0 ≤ x5_1
          · rw [if_pos c6] at H
            have c6b0 : decide (0 ≤ x5_1) = true := decide_eq_true c6
            clear c6
            replace H := Option.bind_eq_some_iff.mp H
            obtain ⟨t120, A80, H⟩ := H
            replace H : (if t120 = true then (spec_Tokens.l0 k1 a0 x4_1 (wrap64 (x5_1 + 1))) else ((spec_token.f k1 a0 x5_1).bind fun bt121 => (if bt121.1 = 0 then (some (x4_1, 0)) else (if x5_1 ≤ bt121.2 then (if bt121.2 ≤ (a0.size : Int) then (if x5_1 ≤ (a0.size : Int) then ((spec_Runes.f k1 (a0.extract 0 (x5_1 : Int).toNat)).bind fun t123 => (if 0 ≤ bt121.2 then ((spec_Runes.f k1 (a0.extract 0 (bt121.2 : Int).toNat)).bind fun t124 => (if x4_1.length < 2513169434916 then (spec_Tokens.l0 k1 a0 (x4_1 ++ [(⟨bt121.1, a0.extract (x5_1 : Int).toNat (bt121.2 : Int).toNat, x5_1, bt121.2, t123, t124⟩ : S49)]) bt121.2) else (none))) else (none))) else (none)) else (none)) else (none))))) = some (r1, r2) := H
            have A8 := Aside0.mk A80
            clear A80
            by_cases c9 : t120 = true
            · subst c9
              have H1 : (spec_Tokens.l0 k1 a0 x4_1 (wrap64 (x5_1 + 1))) = some (r1, r2) := by rw [if_pos rfl] at H; exact H
              clear H
              have H := H1
              clear H1
              have H' := Aside0.mk H
              clear H
              have p7 : 0 ≤ (x5_1 : Int) := of_decide_eq_true (by first | (with_reducible assumption) | assumption)
              have q7 : x5_1 < (a0.size : Int) := of_decide_eq_true (by first | (with_reducible assumption) | assumption)
              have hx7 := bt_at a0 x5_1
              replace p7 := eq_true p7
              replace q7 := eq_true q7
              go_wp2_with (first | ((with_reducible refine gate_callee (f := 19) rfl ?_); refine goesL_ (some 18) rfl rfl Tryz.func19 (by kernel_rfl) rfl #[.int .u8 (bt a0 x5_1)] rfl (by (try simp only [List.map_toArray, List.map_cons, List.map_nil]); first | done | rfl | (simp only [List.length_drop, List.length_take]; rfl)) ?_; (with_reducible refine (spec_blank.calls (bt a0 x5_1) true _ A8.out).mono ?_); rintro e w' ⟨rfl, ⟨nd, rfl⟩⟩; refine ⟨_, rfl, ?_⟩))
              go_roundg k1
              case measure => have := HK1.out; omega
              case rel => exact ⟨(x4_1), (wrap64 (x5_1 + 1)), (by first | rfl | (simp; done) | (simp [*]; done)), H', ⟨by have := HK1.out; omega⟩, ⟨by (with_reducible repeat (first | apply Kd.R_alloc | apply Kd.R_drewN | apply Kd.R_drew)); exact HO_4.out⟩, ⟨by repeat (first | (with_reducible first | exact HB.out | apply below_alloc | apply pw_below_drewN | apply below_drew1) | exact HB.out)⟩⟩
            · replace c9 := Bool.eq_false_iff.mpr c9
              subst c9
              have H1 : ((spec_token.f k1 a0 x5_1).bind fun bt121 => (if bt121.1 = 0 then (some (x4_1, 0)) else (if x5_1 ≤ bt121.2 then (if bt121.2 ≤ (a0.size : Int) then (if x5_1 ≤ (a0.size : Int) then ((spec_Runes.f k1 (a0.extract 0 (x5_1 : Int).toNat)).bind fun t123 => (if 0 ≤ bt121.2 then ((spec_Runes.f k1 (a0.extract 0 (bt121.2 : Int).toNat)).bind fun t124 => (if x4_1.length < 2513169434916 then (spec_Tokens.l0 k1 a0 (x4_1 ++ [(⟨bt121.1, a0.extract (x5_1 : Int).toNat (bt121.2 : Int).toNat, x5_1, bt121.2, t123, t124⟩ : S49)]) bt121.2) else (none))) else (none))) else (none)) else (none)) else (none)))) = some (r1, r2) := by rw [if_neg (show ¬ (false = true) by decide)] at H; exact H
              clear H
              have H := H1
              clear H1
              replace H := Option.bind_eq_some_iff.mp H
              obtain ⟨⟨t121, t122⟩, A100, H⟩ := H
              replace H : (if t121 = 0 then (some (x4_1, 0)) else (if x5_1 ≤ t122 then (if t122 ≤ (a0.size : Int) then (if x5_1 ≤ (a0.size : Int) then ((spec_Runes.f k1 (a0.extract 0 (x5_1 : Int).toNat)).bind fun t123 => (if 0 ≤ t122 then ((spec_Runes.f k1 (a0.extract 0 (t122 : Int).toNat)).bind fun t124 => (if x4_1.length < 2513169434916 then (spec_Tokens.l0 k1 a0 (x4_1 ++ [(⟨t121, a0.extract (x5_1 : Int).toNat (t122 : Int).toNat, x5_1, t122, t123, t124⟩ : S49)]) t122) else (none))) else (none))) else (none)) else (none)) else (none))) = some (r1, r2) := H
              have A10 := Aside0.mk A100
              clear A100
              by_cases c11 : t121 = 0
              · rw [if_pos c11] at H
                have c11b0 : (t121 == 0) = true := beq_iff_eq.mpr c11
                have c11b1 : (t121 != 0) = false := bne_eq_false_iff_eq.mpr c11
                clear c11
                simp only [Option.some.injEq, Prod.mk.injEq] at H
                obtain ⟨rfl, rfl⟩ := H
                have p7 : 0 ≤ (x5_1 : Int) := of_decide_eq_true (by first | (with_reducible assumption) | assumption)
                have q7 : x5_1 < (a0.size : Int) := of_decide_eq_true (by first | (with_reducible assumption) | assumption)
                have hx7 := bt_at a0 x5_1
                replace p7 := eq_true p7
                replace q7 := eq_true q7
                go_wp2_with (first | ((with_reducible refine gate_callee (f := 19) rfl ?_); refine goesL_ (some 18) rfl rfl Tryz.func19 (by kernel_rfl) rfl #[.int .u8 (bt a0 x5_1)] rfl (by (try simp only [List.map_toArray, List.map_cons, List.map_nil]); first | done | rfl | (simp only [List.length_drop, List.length_take]; rfl)) ?_; (with_reducible refine (spec_blank.calls (bt a0 x5_1) false _ A8.out).mono ?_); rintro e w' ⟨rfl, ⟨nd, rfl⟩⟩; refine ⟨_, rfl, ?_⟩) | ((with_reducible refine gate_callee (f := 20) rfl ?_); refine goesL_ (some 24) rfl rfl Tryz.func20 (by kernel_rfl) rfl #[.string a0, .int .i64 x5_1] rfl (by (try simp only [List.map_toArray, List.map_cons, List.map_nil]); first | done | rfl | (simp only [List.length_drop, List.length_take]; rfl)) ?_; (with_reducible refine (spec_token.calls k1 a0 x5_1 t121 t122 _ A10.out).mono ?_); rintro e w' ⟨rfl, ⟨nd, rfl⟩⟩; refine ⟨_, rfl, ?_⟩))
                go_ret2
                exact ⟨_, by first | rfl | (simp [errW_none, errW_some] <;> rfl) | (simp [*, errW_none, errW_some] <;> rfl), by (with_reducible repeat (first | apply Kd.R_alloc | apply Kd.R_drewN | apply Kd.R_drew)); exact HO_4.out, by repeat (first | (with_reducible first | exact HB.out | apply below_alloc | apply pw_below_drewN | apply below_drew1) | exact HB.out)⟩
              · rw [if_neg c11] at H
                have c11b0 : (t121 == 0) = false := beq_eq_false_iff_ne.mpr c11
                have c11b1 : (t121 != 0) = true := bne_iff_ne.mpr c11
                have c12b0 := eq_true (of_decide_eq_true (by first | (with_reducible assumption) | assumption) : 0 ≤ x5_1)
                by_cases c13 : x5_1 ≤ t122
                · rw [if_pos c13] at H
                  have c13b0 := eq_true c13
                  have c13b1 : decide (x5_1 ≤ t122) = true := decide_eq_true c13
                  clear c13
                  by_cases c14 : t122 ≤ (a0.size : Int)
                  · rw [if_pos c14] at H
                    have c14b0 := eq_true c14
                    have c14b1 : decide (t122 ≤ (a0.size : Int)) = true := decide_eq_true c14
                    clear c14
                    have c15b0 := eq_true (of_decide_eq_true (by first | (with_reducible assumption) | assumption) : 0 ≤ x5_1)
                    by_cases c16 : x5_1 ≤ (a0.size : Int)
                    · rw [if_pos c16] at H
                      have c16b0 := eq_true c16
                      have c16b1 : decide (x5_1 ≤ (a0.size : Int)) = true := decide_eq_true c16
                      clear c16
                      replace H := Option.bind_eq_some_iff.mp H
                      obtain ⟨t123, A170, H⟩ := H
                      replace H : (if 0 ≤ t122 then ((spec_Runes.f k1 (a0.extract 0 (t122 : Int).toNat)).bind fun t124 => (if x4_1.length < 2513169434916 then (spec_Tokens.l0 k1 a0 (x4_1 ++ [(⟨t121, a0.extract (x5_1 : Int).toNat (t122 : Int).toNat, x5_1, t122, t123, t124⟩ : S49)]) t122) else (none))) else (none)) = some (r1, r2) := H
                      have A17 := Aside0.mk A170
                      clear A170
                      by_cases c18 : 0 ≤ t122
                      · rw [if_pos c18] at H
                        have c18b0 := eq_true c18
                        have c18b1 : decide (0 ≤ t122) = true := decide_eq_true c18
                        clear c18
                        have c19b0 := eq_true (of_decide_eq_true (by first | (with_reducible assumption) | assumption) : t122 ≤ (a0.size : Int))
                        replace H := Option.bind_eq_some_iff.mp H
                        obtain ⟨t124, A200, H⟩ := H
                        replace H : (if x4_1.length < 2513169434916 then (spec_Tokens.l0 k1 a0 (x4_1 ++ [(⟨t121, a0.extract (x5_1 : Int).toNat (t122 : Int).toNat, x5_1, t122, t123, t124⟩ : S49)]) t122) else (none)) = some (r1, r2) := H
                        have A20 := Aside0.mk A200
                        clear A200
                        by_cases c21 : x4_1.length < 2513169434916
                        · rw [if_pos c21] at H
                          have LMc21 := Aside0.mk c21
                          clear c21
                          obtain ⟨y125, hy125⟩ : ∃ y_ : List (S49), y_ = (x4_1 ++ [(⟨t121, a0.extract (x5_1 : Int).toNat (t122 : Int).toNat, x5_1, t122, t123, t124⟩ : S49)]) := ⟨_, rfl⟩
                          replace H : (spec_Tokens.l0 k1 a0 y125 t122) = some (r1, r2) := by first | (rw [hy125]; with_reducible exact H) | (have H2_ := (Option.bind_some _ _).symm.trans H; rw [hy125]; with_reducible exact H2_) | (have H2_ := (Option.bind_some _ _).symm.trans H; with_reducible exact H2_) | with_reducible exact H | (rw [hy125]; exact H) | exact H
                          have Ny125 := Aside0.mk hy125
                          clear hy125
                          have H' := Aside0.mk H
                          clear H
                          have p7 : 0 ≤ (x5_1 : Int) := of_decide_eq_true (by first | (with_reducible assumption) | assumption)
                          have q7 : x5_1 < (a0.size : Int) := of_decide_eq_true (by first | (with_reducible assumption) | assumption)
                          have hx7 := bt_at a0 x5_1
                          replace p7 := eq_true p7
                          replace q7 := eq_true q7
                          try go_wp2_with (first | ((with_reducible refine gate_callee (f := 19) rfl ?_); refine goesL_ (some 18) rfl rfl Tryz.func19 (by kernel_rfl) rfl #[.int .u8 (bt a0 x5_1)] rfl (by (try simp only [List.map_toArray, List.map_cons, List.map_nil]); first | done | rfl | (simp only [List.length_drop, List.length_take]; rfl)) ?_; (with_reducible refine (spec_blank.calls (bt a0 x5_1) false _ A8.out).mono ?_); rintro e w' ⟨rfl, ⟨nd, rfl⟩⟩; refine ⟨_, rfl, ?_⟩) | ((with_reducible refine gate_callee (f := 20) rfl ?_); refine goesL_ (some 24) rfl rfl Tryz.func20 (by kernel_rfl) rfl #[.string a0, .int .i64 x5_1] rfl (by (try simp only [List.map_toArray, List.map_cons, List.map_nil]); first | done | rfl | (simp only [List.length_drop, List.length_take]; rfl)) ?_; (with_reducible refine (spec_token.calls k1 a0 x5_1 t121 t122 _ A10.out).mono ?_); rintro e w' ⟨rfl, ⟨nd, rfl⟩⟩; refine ⟨_, rfl, ?_⟩))
                          (try (rw [drewN_self wr]; generalize hq_ : World.drewN wr _ = wr; have n0_ : Aside0 (Kd.R k49 49 wr w.heap.size (fun _ => True) u4 x4_1) := ⟨by rw [← hq_]; exact (by (with_reducible repeat (first | apply Kd.R_alloc | apply Kd.R_drewN | apply Kd.R_drew)); exact HO_4.out)⟩; have n1_ : Aside0 (Below w.heap.size w wr) := ⟨by rw [← hq_]; exact (by repeat (first | (with_reducible first | exact HB.out | apply below_alloc | apply pw_below_drewN | apply below_drew1) | exact HB.out))⟩; clear HO_4 HB hq_; have HO_4 := n0_; have HB := n1_; clear n0_ n1_))
                          have n0_ := Aside0.mk (Kd.R_drew HO_4.out)
                          have n1_ := Aside0.mk (below_drew1 HB.out)
                          clear HO_4
                          clear HB
                          have HO_4 := n0_
                          have HB := n1_
                          clear n0_ n1_
                          refine start_ (n := 20) (S := fun w' => True) (ds := []) #[false, false, false, false, false, false, false, false, false, false, false, false, false, false, false, false, false, false, false, false] (by kernel_rfl) rfl rfl trivial (fun hHeld => ?_); refine with_tabW spec_Tokens.tab11 spec_Tokens.bits11 (fun HT_ HW_ => ?_)
                          generalize wr.drew = w22 at HO_4 HB hHeld ⊢
                          refine pure_ (i := 0) (N := some 30) (v := ?_) (a' := ?_) #[true, false, false, false, false, false, false, false, false, false, false, false, false, false, false, false, false, false, false, false] rfl rfl (any_of HT_.out (by kernel_rfl)) (fun _ _ _ h => h) (Or.inl ⟨by rfl, ?_⟩) ?_ ?_
                          rotate_left
                          · intro w'
                            go_simp
                            with_reducible rfl
                          rotate_left
                          · simp only [Act.put, List.setIfInBounds_toArray, List.set_cons_zero, List.set_cons_succ, i64_w, i32_w]
                            rfl
                          refine pure_ (i := 1) (N := some 31) (v := ?_) (a' := ?_) #[true, true, false, false, false, false, false, false, false, false, false, false, false, false, false, false, false, false, false, false] rfl rfl (any_of HT_.out (by kernel_rfl)) (fun _ _ _ h => h) (Or.inl ⟨by rfl, ?_⟩) ?_ ?_
                          rotate_left
                          · intro w'
                            go_simp
                            with_reducible rfl
                          rotate_left
                          · simp only [Act.put, List.setIfInBounds_toArray, List.set_cons_zero, List.set_cons_succ, i64_w, i32_w]
                            rfl
                          refine pure_ (i := 2) (N := some 32) (v := ?_) (a' := ?_) #[true, true, true, false, false, false, false, false, false, false, false, false, false, false, false, false, false, false, false, false] rfl rfl (any_of HT_.out (by kernel_rfl)) (fun _ _ _ h => h) (Or.inl ⟨by rfl, ?_⟩) ?_ ?_
                          rotate_left
                          · intro w'
                            go_simp
                            with_reducible rfl
                          rotate_left
                          · simp only [Act.put, List.setIfInBounds_toArray, List.set_cons_zero, List.set_cons_succ, i64_w, i32_w]
                            rfl
                          refine pure_ (i := 3) (N := some 33) (v := ?_) (a' := ?_) #[true, true, true, true, false, false, false, false, false, false, false, false, false, false, false, false, false, false, false, false] rfl rfl (any_of HT_.out (by kernel_rfl)) (fun _ _ _ h => h) (Or.inl ⟨by rfl, ?_⟩) ?_ ?_
                          rotate_left
                          · intro w'
                            go_simp
                            with_reducible rfl
                          rotate_left
                          · simp only [Act.put, List.setIfInBounds_toArray, List.set_cons_zero, List.set_cons_succ, i64_w, i32_w]
                            rfl
                          refine pure_ (i := 4) (N := some 34) (v := ?_) (a' := ?_) #[true, true, true, true, true, false, false, false, false, false, false, false, false, false, false, false, false, false, false, false] rfl rfl (any_of HT_.out (by kernel_rfl)) (fun _ _ _ h => h) (Or.inl ⟨by rfl, ?_⟩) ?_ ?_
                          rotate_left
                          · intro w'
                            go_simp
                            with_reducible rfl
                          rotate_left
                          · simp only [Act.put, List.setIfInBounds_toArray, List.set_cons_zero, List.set_cons_succ, i64_w, i32_w]
                            rfl
                          refine pure_ (i := 5) (N := some 35) (v := ?_) (a' := ?_) #[true, true, true, true, true, true, false, false, false, false, false, false, false, false, false, false, false, false, false, false] rfl rfl (any_of HT_.out (by kernel_rfl)) (fun _ _ _ h => h) (Or.inl ⟨by rfl, ?_⟩) ?_ ?_
                          rotate_left
                          · intro w'
                            go_simp
                            with_reducible rfl
                          rotate_left
                          · simp only [Act.put, List.setIfInBounds_toArray, List.set_cons_zero, List.set_cons_succ, i64_w, i32_w]
                            rfl
                          refine pure_ (i := 6) (N := some 36) (v := ?_) (a' := ?_) #[true, true, true, true, true, true, true, false, false, false, false, false, false, false, false, false, false, false, false, false] rfl rfl (any_of HT_.out (by kernel_rfl)) (fun _ _ _ h => h) (Or.inl ⟨by rfl, ?_⟩) ?_ ?_
                          rotate_left
                          · intro w'
                            go_simp
                            with_reducible rfl
                          rotate_left
                          · simp only [Act.put, List.setIfInBounds_toArray, List.set_cons_zero, List.set_cons_succ, i64_w, i32_w]
                            rfl
                          refine pure_ (i := 7) (N := some 37) (v := ?_) (a' := ?_) #[true, true, true, true, true, true, true, true, false, false, false, false, false, false, false, false, false, false, false, false] rfl rfl (any_of HT_.out (by kernel_rfl)) (fun _ _ _ h => h) (Or.inl ⟨by rfl, ?_⟩) ?_ ?_
                          rotate_left
                          · intro w'
                            go_simp
                            with_reducible rfl
                          rotate_left
                          · simp only [Act.put, List.setIfInBounds_toArray, List.set_cons_zero, List.set_cons_succ, i64_w, i32_w]
                            rfl
                          refine pure_ (i := 8) (N := some 38) (v := ?_) (a' := ?_) #[true, true, true, true, true, true, true, true, true, false, false, false, false, false, false, false, false, false, false, false] rfl rfl (any_of HT_.out (by kernel_rfl)) (fun _ _ _ h => h) (Or.inl ⟨by rfl, ?_⟩) ?_ ?_
                          rotate_left
                          · intro w'
                            go_simp
                            with_reducible rfl
                          rotate_left
                          · simp only [Act.put, List.setIfInBounds_toArray, List.set_cons_zero, List.set_cons_succ, i64_w, i32_w]
                            rfl
                          refine pure_ (i := 9) (N := some 39) (v := ?_) (a' := ?_) #[true, true, true, true, true, true, true, true, true, true, false, false, false, false, false, false, false, false, false, false] rfl rfl (any_of HT_.out (by kernel_rfl)) (fun _ _ _ h => h) (Or.inl ⟨by rfl, ?_⟩) ?_ ?_
                          rotate_left
                          · intro w'
                            go_simp
                            with_reducible rfl
                          rotate_left
                          · simp only [Act.put, List.setIfInBounds_toArray, List.set_cons_zero, List.set_cons_succ, i64_w, i32_w]
                            rfl
                          refine pure_ (i := 10) (N := some 40) (v := ?_) (a' := ?_) #[true, true, true, true, true, true, true, true, true, true, true, false, false, false, false, false, false, false, false, false] rfl rfl (any_of HT_.out (by kernel_rfl)) (fun _ _ _ h => h) (Or.inl ⟨by rfl, ?_⟩) ?_ ?_
                          rotate_left
                          · intro w'
                            go_simp
                            with_reducible rfl
                          rotate_left
                          · simp only [Act.put, List.setIfInBounds_toArray, List.set_cons_zero, List.set_cons_succ, i64_w, i32_w]
                            rfl
                          refine pure_ (i := 12) (N := some 42) (v := ?_) (a' := ?_) #[true, true, true, true, true, true, true, true, true, true, true, false, true, false, false, false, false, false, false, false] rfl rfl (any_of HT_.out (by kernel_rfl)) (fun _ _ _ h => h) (Or.inl ⟨by rfl, ?_⟩) ?_ ?_
                          rotate_left
                          · intro w'
                            go_simp
                            with_reducible rfl
                          rotate_left
                          · simp only [Act.put, List.setIfInBounds_toArray, List.set_cons_zero, List.set_cons_succ, i64_w, i32_w]
                            rfl
                          refine pure_ (i := 13) (N := some 43) (v := ?_) (a' := ?_) #[true, true, true, true, true, true, true, true, true, true, true, false, true, true, false, false, false, false, false, false] rfl rfl (any_of HT_.out (by kernel_rfl)) (fun _ _ _ h => h) (Or.inl ⟨by rfl, ?_⟩) ?_ ?_
                          rotate_left
                          · intro w'
                            go_simp
                            with_reducible rfl
                          rotate_left
                          · simp only [Act.put, List.setIfInBounds_toArray, List.set_cons_zero, List.set_cons_succ, i64_w, i32_w]
                            rfl
                          refine pure_ (i := 14) (N := some 44) (v := ?_) (a' := ?_) #[true, true, true, true, true, true, true, true, true, true, true, false, true, true, true, false, false, false, false, false] rfl rfl (any_of HT_.out (by kernel_rfl)) (fun _ _ _ h => h) (Or.inl ⟨by rfl, ?_⟩) ?_ ?_
                          rotate_left
                          · intro w'
                            go_simp
                            with_reducible rfl
                          rotate_left
                          · simp only [Act.put, List.setIfInBounds_toArray, List.set_cons_zero, List.set_cons_succ, i64_w, i32_w]
                            rfl
                          refine one_ (i := 11) (N := some 41) #[true, true, true, true, true, true, true, true, true, true, true, true, true, true, true, false, false, false, false, false] rfl rfl (one_of HT_.out (by kernel_rfl)) (by decide) (fun K hK => ?_)
                          refine goes_ Tryz.func21 (by kernel_rfl) rfl #[.string (a0.extract 0 (x5_1 : Int).toNat)] (by rfl) rfl rfl (by (try simp only [List.map_toArray, List.map_cons, List.map_nil]); first | done | rfl | (simp only [List.length_drop, List.length_take]; rfl)) ?_
                          with_reducible refine (spec_Runes.calls k1 (a0.extract 0 (x5_1 : Int).toNat) t123 _ A17.out).mono ?_
                          rintro e w' ⟨rfl, ⟨nd, rfl⟩⟩
                          refine ⟨_, rfl, ?_⟩
                          refine hK.out _ _ trivial (fun hHeld => ?_)
                          clear hK K
                          refine norm_ (a' := ?_) ?_ ?_
                          rotate_left
                          · show Act.put _ (some 41) _ = _
                            simp only [Act.put, List.setIfInBounds_toArray, List.set_cons_zero, List.set_cons_succ, i64_w, i32_w]
                            rfl
                          refine one_ (i := 15) (N := some 45) #[true, true, true, true, true, true, true, true, true, true, true, true, true, true, true, true, false, false, false, false] rfl rfl (one_of HT_.out (by kernel_rfl)) (by decide) (fun K hK => ?_)
                          refine goes_ Tryz.func21 (by kernel_rfl) rfl #[.string (a0.extract 0 (t122 : Int).toNat)] (by rfl) rfl rfl (by (try simp only [List.map_toArray, List.map_cons, List.map_nil]); first | done | rfl | (simp only [List.length_drop, List.length_take]; rfl)) ?_
                          with_reducible refine (spec_Runes.calls k1 (a0.extract 0 (t122 : Int).toNat) t124 _ A20.out).mono ?_
                          rintro e w' ⟨rfl, ⟨nd, rfl⟩⟩
                          refine ⟨_, rfl, ?_⟩
                          refine hK.out _ _ trivial (fun hHeld => ?_)
                          clear hK K
                          refine norm_ (a' := ?_) ?_ ?_
                          rotate_left
                          · show Act.put _ (some 45) _ = _
                            simp only [Act.put, List.setIfInBounds_toArray, List.set_cons_zero, List.set_cons_succ, i64_w, i32_w]
                            rfl
                          refine pure_ (i := 16) (N := some 46) (v := ?_) (a' := ?_) #[true, true, true, true, true, true, true, true, true, true, true, true, true, true, true, true, true, false, false, false] rfl rfl (any_of HT_.out (by kernel_rfl)) (fun _ _ _ h => h) (Or.inl ⟨by rfl, ?_⟩) ?_ ?_
                          rotate_left
                          · intro w'
                            go_simp
                            with_reducible rfl
                          rotate_left
                          · simp only [Act.put, List.setIfInBounds_toArray, List.set_cons_zero, List.set_cons_succ, i64_w, i32_w]
                            rfl
                          refine one_ (i := 17) (N := some 47) #[true, true, true, true, true, true, true, true, true, true, true, true, true, true, true, true, true, true, false, false] rfl rfl (one_of HT_.out (by kernel_rfl)) (by decide) (fun K hK => ?_)
                          refine value_ (w1 := ?_) (v := ?_) (by rfl) rfl ?_ ?_
                          rotate_left 2
                          · go_simp
                            constructor
                            · rfl
                            · rfl
                          refine hK.out _ _ trivial (fun hHeld => ?_)
                          clear hK K
                          refine norm_ (a' := ?_) ?_ ?_
                          rotate_left
                          · show Act.put _ (some 47) _ = _
                            simp only [Act.put, List.setIfInBounds_toArray, List.set_cons_zero, List.set_cons_succ, i64_w, i32_w]
                            rfl
                          refine one_ (i := 18) (N := some 48) #[true, true, true, true, true, true, true, true, true, true, true, true, true, true, true, true, true, true, true, false] rfl rfl (one_of HT_.out (by kernel_rfl)) (by decide) (fun K hK => ?_)
                          refine Kd.R_append_step k49 (w0 := w) w.heap.size (by rfl) (.tmp 30) (.tmp 47) 41 49 (.agg #[(.int .i64 0), (.string ⟨#[]⟩), (.int .i64 0), (.int .i64 0), (.int .i64 0), (.int .i64 0)]) 56 rfl Tryz.underlying41 info49 rfl (by decide) (by omega) u4 x4_1 (⟨t121, a0.extract (x5_1 : Int).toNat (t122 : Int).toNat, x5_1, t122, t123, t124⟩ : S49) [.int .i64 t121, .string (a0.extract (x5_1 : Int).toNat (t122 : Int).toNat), .int .i64 x5_1, .int .i64 t122, .int .i64 t123, .int .i64 t124] (fun _ => True) (fun _ => False) rfl rfl ?aP (fun _ hk => hk.elim) ?aF ?aO ?aB ?aS ?aL ?_
                          (case aP => exact k49_mkM _ _ _ (⟨t121, a0.extract (x5_1 : Int).toNat (t122 : Int).toNat, x5_1, t122, t123, t124⟩ : S49))
                          (case aB => exact (by repeat (first | (with_reducible first | exact HB.out | apply below_alloc | apply pw_below_drewN | apply below_drew1) | exact HB.out)))
                          (case aF => exact (fun _ _ => trivial))
                          (case aO => exact (by (with_reducible repeat (first | apply Kd.R_alloc | apply Kd.R_drewN | apply Kd.R_drew)); exact HO_4.out))
                          (case aS => exact (below_size (by repeat (first | (with_reducible first | exact HB.out | apply below_alloc | apply pw_below_drewN | apply below_drew1) | exact HB.out))))
                          (case aL => have := LMc21.out; first | omega | exact this | exact Nat.le_of_lt this)
                          intro v126 w23 ho hb hg hat
                          rw [← Ny125.out] at ho
                          have n0_ := Aside0.mk (hb)
                          have n1_ := Aside0.mk (ho)
                          clear HB
                          clear HO_4
                          have HB := n0_
                          have HO127 := n1_
                          clear n0_ n1_
                          clear ho hb hg hat
                          refine hK.out _ _ trivial (fun hHeld => ?_)
                          clear hK K
                          refine norm_ (a' := ?_) ?_ ?_
                          rotate_left
                          · show Act.put _ (some 48) _ = _
                            simp only [Act.put, List.setIfInBounds_toArray, List.set_cons_zero, List.set_cons_succ, i64_w, i32_w]
                            rfl
                          refine pure_ (i := 19) (N := some 4) (v := ?_) (a' := ?_) #[true, true, true, true, true, true, true, true, true, true, true, true, true, true, true, true, true, true, true, true] rfl rfl (any_of HT_.out (by kernel_rfl)) (fun _ _ _ h => h) (Or.inl ⟨by rfl, ?_⟩) ?_ ?_
                          rotate_left
                          · intro w'
                            go_simp
                            with_reducible rfl
                          rotate_left
                          · simp only [Act.put, List.setIfInBounds_toArray, List.set_cons_zero, List.set_cons_succ, i64_w, i32_w]
                            rfl
                          refine done_ (done_of HT_.out (by kernel_rfl)) ?_
                          try go_wp2
                          go_roundg k1
                          case measure => have := HK1.out; omega
                          case rel => exact ⟨(y125), (t122), (by first | rfl | (simp; done) | (simp [*]; done)), H', ⟨by have := HK1.out; omega⟩, ⟨by (with_reducible repeat (first | apply Kd.R_alloc | apply Kd.R_drewN | apply Kd.R_drew)); exact HO127.out⟩, ⟨by repeat (first | (with_reducible first | exact HB.out | apply below_alloc | apply pw_below_drewN | apply below_drew1) | exact HB.out)⟩⟩
                        · rw [if_neg c21] at H
                          exact absurd H (by simp)
                      · rw [if_neg c18] at H
                        exact absurd H (by simp)
                    · rw [if_neg c16] at H
                      exact absurd H (by simp)
                  · rw [if_neg c14] at H
                    exact absurd H (by simp)
                · rw [if_neg c13] at H
                  exact absurd H (by simp)
          · rw [if_neg c6] at H
            exact absurd H (by simp)
        · rw [if_neg c5] at H
          have c5b0 : decide (x5_1 < (a0.size : Int)) = false := decide_eq_false c5
          clear c5
          simp only [Option.some.injEq, Prod.mk.injEq] at H
          obtain ⟨rfl, rfl⟩ := H
          go_wp2
          go_ret2
          exact ⟨_, by first | rfl | (simp [errW_none, errW_some] <;> rfl) | (simp [*, errW_none, errW_some] <;> rfl), by (with_reducible repeat (first | apply Kd.R_alloc | apply Kd.R_drewN | apply Kd.R_drew)); exact HO_4.out, by repeat (first | (with_reducible first | exact HB.out | apply below_alloc | apply pw_below_drewN | apply below_drew1) | exact HB.out)⟩
  · replace c3 := Bool.eq_false_iff.mpr c3
    subst c3
    have H1 : (some (([] : List (S49)), 2)) = some (r1, r2) := by rw [if_neg (show ¬ (false = true) by decide)] at H; exact H
    clear H
    have H := H1
    clear H1
    simp only [Option.some.injEq, Prod.mk.injEq] at H
    obtain ⟨rfl, rfl⟩ := H
    go_enter Tryz.func11, Tryz.ntmps11
    go_wp2_with (first | ((with_reducible refine gate_callee (f := 18) rfl ?_); refine goesL_ (some 9) rfl rfl Tryz.func18 (by kernel_rfl) rfl #[.string a0] rfl (by (try simp only [List.map_toArray, List.map_cons, List.map_nil]); first | done | rfl | (simp only [List.length_drop, List.length_take]; rfl)) ?_; (with_reducible refine (spec_Settled.calls k a0 false _ A2.out).mono ?_); rintro e w24 ⟨rfl, hb⟩; refine ⟨_, rfl, ?_⟩; have n0_ := Aside0.mk (below_step (by repeat (first | (with_reducible first | exact HB.out | apply below_alloc | apply pw_below_drewN | apply below_drew1) | exact HB.out)) hb); clear HB; have HB := n0_; clear n0_; (try clear hb); (try clear hb2); (try clear hk); (try clear hi)))
    go_ret2
    exact ⟨_, by first | rfl | (simp [errW_none, errW_some] <;> rfl) | (simp [*, errW_none, errW_some] <;> rfl), by first | exact Kd.R_nil _ _ _ _ _ | exact Kd.N_nil _ _ _ _ _ | exact Kd.V_nil _ _ _ _ _ | exact Kd.Q_nil _ _ _ _ _ | exact Kd.S_nil _ _ _ _ _, by repeat (first | (with_reducible first | exact HB.out | apply below_alloc | apply pw_below_drewN | apply below_drew1) | exact HB.out)⟩
end Go.Proofs.YtmjoebnphacadaaGreatDoor.Q
/- spec.inside, spec.ParseMatchers: their walks. -/
namespace Go.Proofs.YtmjoebnphacadaaGreatDoor.Spm
open Go.RowKit Go.Lib Go.Proofs.YtmjoebnphacadaaGreatDoorW.PrintWords Go.Proofs.YtmjoebnphacadaaGreatDoorW.PrintLast Go.Proofs.YtmjoebnphacadaaGreatDoor.Q
set_option linter.unusedVariables false
set_option linter.unusedSimpArgs false
abbrev ST := S49
abbrev SM := S45
theorem infoST : (Tryz.prog.info? 49).map (fun i => (i.zero, i.size, i.bytes)) = some (some (.agg #[.int .i64 0, .string ⟨#[]⟩, .int .i64 0, .int .i64 0, .int .i64 0, .int .i64 0]), 6, 56) := by kernel_rfl
theorem infoSM : (Tryz.prog.info? 45).map (fun i => (i.zero, i.size, i.bytes)) = some (some (.agg #[.int .i64 0, .string ⟨#[]⟩, .string ⟨#[]⟩]), 3, 40) := by kernel_rfl
theorem info_size : ∃ i, Tryz.prog.info? 49 = some i ∧ i.size = 6 := by
  obtain ⟨i, h1, h2⟩ := Option.map_eq_some_iff.1 infoST
  simp only [Prod.mk.injEq] at h2
  exact ⟨i, h1, h2.2.1⟩
/-- A list's tokens without the braces around it; none: one of them lacks. -/
def insideL (l : List ST) : Option (List ST) :=
  if decide (0 < l.length ∧ (rd_T49 l 0).f0 = 1) = decide (0 < l.length ∧ (rd_T49 l ((l.length - 1 : Nat) : Int)).f0 = 2) then
    (if 0 < l.length ∧ (rd_T49 l 0).f0 = 1 then (if l.length < 2 then none else some ((l.take (l.length - 1)).drop 1)) else some l) else none
theorem ins_len {l m : List ST} (h : insideL l = some m) : m.length ≤ l.length := by
  unfold insideL at h
  split at h
  · split at h
    · split at h
      · exact nomatch h
      · rw [← Option.some.inj h, List.length_drop, List.length_take]; omega
    · rw [← Option.some.inj h]; exact Nat.le_refl _
  · exact nomatch h
def InsPost (w : World) (R : Option (List ST)) (x : Ending) (w' : World) : Prop := Below w.heap.size w w' ∧ match R with
  | none => x = .returned (.tuple #[.slice none 0 0, .int .i64 0])
  | some l => ∃ A c, x = .returned (.tuple #[.slice A l.length c, .int .i64 1]) ∧ Kd.C k49 w A l.length l ∧ l.length ≤ c
set_option maxHeartbeats 3200000 in
set_option maxRecDepth 100000 in
theorem inside_calls (A0 : Option Addr) (c0 : Nat) (l0 : List ST) (w : World) (hr0 : Kd.C k49 w A0 l0.length l0) (hc0 : l0.length ≤ c0) (hl : l0.length ≤ 2147483647) :
    Calls Tryz.prog 12 #[.slice A0 l0.length c0] w (InsPost w (insideL l0)) := by
  by_cases hn : 0 < l0.length
  · obtain ⟨ad, e0, hx0, _⟩ := at_T49 hr0 0 (by omega) (by omega)
    obtain ⟨ad1, e1, hx1, _⟩ := at_T49 hr0 ((l0.length - 1 : Nat) : Int) (by omega) (by omega)
    subst e0
    obtain rfl := Option.some.inj e1
    obtain ⟨u, hu⟩ : ∃ u, (rd_T49 l0 0).f0 = u := ⟨_, rfl⟩
    obtain ⟨v, hv⟩ : ∃ v, (rd_T49 l0 ((l0.length - 1 : Nat) : Int)).f0 = v := ⟨_, rfl⟩
    have HI := Aside0.mk (show insideL l0 = (if decide (u = 1) = decide (v = 2) then (if u = 1 then (if l0.length < 2 then none else some ((l0.take (l0.length - 1)).drop 1)) else some l0) else none) by unfold insideL; simp only [hu, hv, hn, true_and])
    rw [hu] at hx0
    rw [hv, Int.toNat_natCast] at hx1
    rw [show (0 : Int).toNat * 6 = 0 from rfl] at hx0
    have hx0' : w.cell? ad = some (.int .i64 u) := by simpa [Addr.add] using hx0
    have g1 : ((0 : Int) < (l0.length : Int)) = True := eq_true (by omega)
    have g2 : wrap64 ((l0.length : Int) - 1) = ((l0.length - 1 : Nat) : Int) := by unfold wrap64; omega
    have g3 : decide ((l0.length : Int) > 0) = true := decide_eq_true (by omega)
    have g4 : (0 ≤ ((l0.length - 1 : Nat) : Int)) = True := eq_true (by omega)
    have g5 : (((l0.length - 1 : Nat) : Int) < (l0.length : Int)) = True := eq_true (by omega)
    have HR := Aside0.mk hr0
    have HC := Aside0.mk hc0
    clear hr0 hu hv hx0
    by_cases hu1 : u = 1
    · have b1 : (u == 1) = true := by simpa using hu1
      by_cases hv2 : v = 2
      · have b2 : (v == 2) = true := by simpa using hv2
        by_cases h2 : l0.length < 2
        · have HI2 := HI.out
          rw [if_pos (by simp [hu1, hv2]), if_pos hu1, if_pos h2] at HI2
          have HJ := Aside0.mk HI2
          have b3 : decide ((l0.length : Int) < 2) = true := decide_eq_true (by omega)
          clear HI HI2 hu1 hv2
          go_enter Tryz.func12, Tryz.ntmps12
          go_wp2
          go_ret2
          rw [HJ.out]
          exact ⟨Below.refl _ _, rfl⟩
        · have HI2 := HI.out
          rw [if_pos (by simp [hu1, hv2]), if_pos hu1, if_neg h2] at HI2
          have HJ := Aside0.mk HI2
          have b3 : decide ((l0.length : Int) < 2) = false := decide_eq_false (by omega)
          have hne : (c0 = 1) = False := eq_false (by have := HC.out; omega)
          have hge : ((1 : Int) ≤ ((l0.length - 1 : Nat) : Int)) = True := eq_true (by omega)
          have hge2 : (((l0.length - 1 : Nat) : Int) < 1) = False := eq_false (by omega)
          have hlen := Aside0.mk (show ((l0.take (l0.length - 1)).drop 1).length = l0.length - 1 - 1 by rw [List.length_drop, List.length_take]; omega)
          have HM := Aside0.mk (Kd.C_mid (lo := 1) (hi := l0.length - 1) HR.out (by omega) (by omega) HC.out)
          have HL := Aside0.mk h2
          clear HI HI2 hu1 hv2 h2
          go_enter Tryz.func12, Tryz.ntmps12
          go_wp2
          go_ret2
          rw [HJ.out]
          have hM := HM.out
          rw [if_neg (by rw [hne]; simp)] at hM
          refine ⟨Below.refl _ _, some (ad.add (1 * 6)), c0 - 1, ?_, hM, by rw [hlen.out]; have := HC.out; omega⟩
          rw [hlen.out]
          rfl
      · have b2 : (v == 2) = false := by simpa using hv2
        have HI2 := HI.out
        rw [if_neg (by simp [hu1, hv2])] at HI2
        have HJ := Aside0.mk HI2
        clear HI HI2 hu1 hv2
        go_enter Tryz.func12, Tryz.ntmps12
        go_wp2
        go_ret2
        rw [HJ.out]
        exact ⟨Below.refl _ _, rfl⟩
    · have b1 : (u == 1) = false := by simpa using hu1
      by_cases hv2 : v = 2
      · have b2 : (v == 2) = true := by simpa using hv2
        have HI2 := HI.out
        rw [if_neg (by simp [hu1, hv2])] at HI2
        have HJ := Aside0.mk HI2
        clear HI HI2 hu1 hv2
        go_enter Tryz.func12, Tryz.ntmps12
        go_wp2
        go_ret2
        rw [HJ.out]
        exact ⟨Below.refl _ _, rfl⟩
      · have b2 : (v == 2) = false := by simpa using hv2
        have HI2 := HI.out
        rw [if_pos (by simp [hu1, hv2]), if_neg hu1] at HI2
        have HJ := Aside0.mk HI2
        clear HI HI2 hu1 hv2
        go_enter Tryz.func12, Tryz.ntmps12
        go_wp2
        go_ret2
        rw [HJ.out]
        exact ⟨Below.refl _ _, _, _, rfl, HR.out, HC.out⟩
  · have h0 : l0 = [] := List.eq_nil_of_length_eq_zero (by omega)
    subst h0
    have HJ := Aside0.mk (show insideL [] = some [] from rfl)
    have HR := Aside0.mk hr0
    have HC := Aside0.mk hc0
    clear hr0 hc0
    go_enter Tryz.func12, Tryz.ntmps12
    go_wp2
    go_ret2
    rw [HJ.out]
    exact ⟨Below.refl _ _, _, _, rfl, HR.out, HC.out⟩
/-- The loop over matchers: what it answers. -/
noncomputable def pmL (k : Nat) : Nat → List ST → List SM → Int → Option (List SM × Int)
  | 0, _, _, _ => none
  | n + 1, l, out, st => if l.length = 0 then some (if st = 2 then ([], 2) else (out, 1)) else
    (spec_three.f k l).bind fun t => if t.2.2.2 = 0 then some ([], 0) else
      if 3 ≤ l.length then
        (if l.length = 3 then some (if (if t.2.2.2 = 2 then 2 else st) = 2 then ([], 2) else (out ++ [(⟨t.1, t.2.1, t.2.2.1⟩ : SM)], 1))
         else if (rd_T49 l 3).f0 = 3 then pmL k n (l.drop 4) (out ++ [(⟨t.1, t.2.1, t.2.2.1⟩ : SM)]) (if t.2.2.2 = 2 then 2 else st) else some ([], 0)) else none
def lenV : Value → Nat
  | .slice _ n _ => n
  | _ => 0
def tilde (s : ByteArray) : Bool := s.data.toList.any fun b => decide (b.toNat = 126)
/-- spec.ParseMatchers of a text without '~'. -/
noncomputable def pmS (k : Nat) (a0 : ByteArray) : Option (List SM × Int) := if tilde a0 = true then none else if a0.size ≤ 2147483647 then
  ((spec_Tokens.f k a0).bind fun t => if t.2 = 1 then (if t.1.length ≤ 2147483647 then (match insideL t.1 with | none => some ([], 0) | some l => pmL k (l.length + 1) l [] 1) else none) else some ([], t.2)) else none
theorem pmL_mono (k : Nat) : ∀ (n : Nat) (l : List ST) (out : List SM) (st : Int), LeO (pmL k n l out st) (pmL (k + 1) n l out st) := by
  intro n
  induction n with
  | zero => intro l out st; exact LeO.refl _
  | succ n ih =>
    intro l out st
    unfold pmL
    refine LeO.ite (LeO.refl _) (LeO.bind (spec_three.mono _ _) (fun t => ?_))
    refine LeO.ite (LeO.refl _) (LeO.ite (LeO.ite (LeO.refl _) (LeO.ite (ih _ _ _) (LeO.refl _))) (LeO.refl _))
theorem pmS_mono (k : Nat) (a0 : ByteArray) : LeO (pmS k a0) (pmS (k + 1) a0) := by
  unfold pmS
  refine LeO.ite (LeO.refl _) (LeO.ite (LeO.bind (spec_Tokens.mono _ _) (fun t => ?_)) (LeO.refl _))
  refine LeO.ite (LeO.ite ?_ (LeO.refl _)) (LeO.refl _)
  cases insideL t.1 with
  | none => exact LeO.refl _
  | some l => exact pmL_mono k _ _ _ _
set_option maxHeartbeats 3200000 in
set_option maxRecDepth 100000 in
theorem pm_calls (k : Nat) (a0 : ByteArray) (r1 : List SM) (r2 : Int) (w : World) (h : pmS k a0 = some (r1, r2)) :
    Calls Tryz.prog 7 #[.string a0] w fun e w' => ∃ v0_ : Value, e = .returned (.tuple #[v0_, .int .i64 r2]) ∧ Kd.R k45 45 w' w.heap.size (fun _ => True) v0_ r1 ∧ Below w.heap.size w w' := by
  unfold pmS at h
  cases ht : tilde a0 with
  | true => rw [ht, if_pos rfl] at h; exact nomatch h
  | false =>
    rw [ht, if_neg (by simp)] at h
    by_cases hs : a0.size ≤ 2147483647
    · rw [if_pos hs] at h
      obtain ⟨⟨t, is⟩, hT, h⟩ := Option.bind_eq_some_iff.1 h
      dsimp only at h
      have HT := Aside0.mk (spec_Tokens.calls k a0 t is w hT)
      have HH := Aside0.mk h
      have HS := Aside0.mk hs
      have HN := Aside0.mk (show ∀ j (hj : j < a0.size), ((((a0[j]'hj).toNat : Int)) == 126) = false by
        intro j hj
        unfold tilde at ht
        rw [List.any_eq_false] at ht
        have := ht (a0[j]'hj) (by rw [Array.mem_toList_iff]; exact Array.getElem_mem hj)
        rw [decide_eq_true_eq] at this
        rw [beq_eq_false_iff_ne]
        omega)
      clear h hs ht hT
      go_enter Tryz.func7, Tryz.ntmps7
      go_wp2
      go_loopw [4, 13] (fun v4 v13 wr => ∃ j : Nat, j ≤ a0.size ∧ v13 = .int .i64 j ∧ wr = w) (fun _ v13 _ => a0.size - (RowKit.intOf v13).toNat)
      case atStart => exact ⟨0, Nat.zero_le _, rfl, rfl⟩
      case round =>
        obtain ⟨j, hj, rfl, hwe⟩ := hrel
        have hwe2 := hwe.symm
        clear hwe
        subst hwe2
        by_cases hlt : j < a0.size
        · have hb := HN.out j hlt
          have hw : wrap64 ((j : Int) + 1) = ((j + 1 : Nat) : Int) := by have := HS.out; unfold wrap64; omega
          go_wp2
          go_roundw
          case rel => exact ⟨j + 1, by omega, by rw [hw], by trivial⟩
          case measure =>
            rw [hw]
            simp only [RowKit.intOf]
            omega
        · have hje : j = a0.size := by omega
          subst hje
          clear HN hlt hj
          go_wp2_with fail
          refine HT.out.mono ?_
          clear HT
          rintro x w1 ⟨v0, rfl, hR, hb⟩
          have HB := Aside0.mk hb
          obtain ⟨A, c, rfl⟩ := Kd.R_slice hR
          have hR2 := Kd.R_reads' hR
          clear hb hR
          by_cases h1 : is = 1
          · have hH := HH.out
            rw [if_pos h1] at hH
            by_cases hlen : t.length ≤ 2147483647
            · rw [if_pos hlen] at hH
              have HI := Aside0.mk (inside_calls A c t w1 hR2.2.2 hR2.2.1 hlen)
              have HH2 := Aside0.mk hH
              have HLn := Aside0.mk hlen
              subst h1
              clear HH hH hR2 hlen
              go_wp2_with fail
              refine HI.out.mono ?_
              clear HI
              rintro x w2 ⟨hb2, hO⟩
              have HB2 := Aside0.mk (below_step HB.out hb2)
              cases hI : insideL t with
              | none =>
                rw [hI] at hO
                have hH := HH2.out
                rw [hI] at hH
                have he := Option.some.inj hH
                simp only [Prod.mk.injEq] at he
                obtain ⟨rfl, rfl⟩ := he
                subst hO
                clear HH2 hH hb2 hI
                go_wp2
                go_ret2
                exact ⟨_, rfl, Kd.R_nil _ _ _ _ _, HB2.out⟩
              | some l =>
                rw [hI] at hO
                have hI0 := hI
                have hH := HH2.out
                rw [hI] at hH
                obtain ⟨A2, c2, rfl, hC2, hc2⟩ := hO
                have HL := Aside0.mk (show pmL k (l.length + 1) l [] 1 = some (r1, r2) from hH)
                have HC2 := Aside0.mk (And.intro (Kd.C_below hC2 hb2) hc2)
                clear HH2 hH hb2 hI hC2 hc2
                go_wp2
                go_loopw [5, 7, 8] (fun v5 v7 v8 wr => ∃ (n : Nat) (l' : List ST) (out : List SM) (st : Int) (A : Option Addr) (c : Nat), v5 = .slice A l'.length c ∧ v8 = .int .i64 st ∧ Aside0 (pmL k n l' out st = some (r1, r2) ∧ out.length + l'.length ≤ 2147483647) ∧ Aside0 (Kd.C k49 w2 A l'.length l' ∧ l'.length ≤ c) ∧ Aside0 (Kd.R k45 45 wr w2.heap.size (fun _ => True) v7 out) ∧ Aside0 (Below w2.heap.size w2 wr)) (fun v5 _ _ _ => lenV v5)
                case atStart => exact ⟨l.length + 1, l, [], 1, A2, c2, rfl, rfl, ⟨HL.out, by have := HLn.out; have := ins_len hI0; simp only [List.length_nil]; omega⟩, HC2, ⟨Kd.R_nil _ _ _ _ _⟩, ⟨Below.refl _ _⟩⟩
                case round =>
                  clear HL HC2 HB
                  obtain ⟨n, l', out, st, A, c, rfl, rfl, HP, HC, HR, HB⟩ := hrel
                  cases n with
                  | zero => exact nomatch HP.out.1
                  | succ n =>
                  have hP := HP.out.1
                  unfold pmL at hP
                  by_cases h0 : l'.length = 0
                  · rw [if_pos h0] at hP
                    have b0 : decide (0 < l'.length) = false := decide_eq_false (by omega)
                    have he := Option.some.inj hP
                    clear HP hP
                    by_cases hst : st = 2
                    · rw [if_pos hst] at he
                      simp only [Prod.mk.injEq] at he
                      obtain ⟨rfl, rfl⟩ := he
                      have b1 : (st == 2) = true := by simpa using hst
                      clear hst
                      go_wp2
                      go_ret2
                      exact ⟨_, rfl, Kd.R_nil _ _ _ _ _, below_step HB2.out HB.out⟩
                    · rw [if_neg hst] at he
                      simp only [Prod.mk.injEq] at he
                      obtain ⟨rfl, rfl⟩ := he
                      have b1 : (st == 2) = false := by simpa using hst
                      clear hst
                      go_wp2
                      go_ret2
                      exact ⟨_, rfl, Kd.R_lower HR.out HB2.out.size, below_step HB2.out HB.out⟩
                  · rw [if_neg h0] at hP
                    obtain ⟨⟨t1, t2, t3, t4⟩, hT, hP⟩ := Option.bind_eq_some_iff.1 hP
                    dsimp only at hP
                    have C := Aside0.mk (spec_three.calls k A c l' t1 t2 t3 t4 wr (Kd.C_below HC.out.1 HB.out) HC.out.2 hT)
                    have b0 : decide (0 < l'.length) = true := decide_eq_true (by omega)
                    have HQ := Aside0.mk hP
                    have HN0 := Aside0.mk h0
                    clear hP hT h0
                    go_wp2_with fail
                    refine C.out.mono ?_
                    clear C
                    rintro x w3 ⟨rfl, hb3⟩
                    have HR3 := Aside0.mk (Kd.R_below (Kd.R_below HR.out hb3) (below_alloc (Below.refl w3.heap.size w3) (.cells #[.int .i64 t1, .string t2, .string t3] 45)))
                    have HB3 := Aside0.mk ((below_step HB.out hb3).alloc (below_step HB.out hb3).size (.cells #[.int .i64 t1, .string t2, .string t3] 45))
                    have HZ := Aside0.mk (below_step HB.out hb3)
                    have HS3 := Aside0.mk (show w2.heap.size ≤ (w3.alloc (.cells #[.int .i64 t1, .string t2, .string t3] 45)).heap.size from HB3.out.size)
                    clear HR HB hb3
                    by_cases k0 : t4 = 0
                    · have hQ := HQ.out
                      rw [if_pos k0] at hQ
                      have he := Option.some.inj hQ
                      simp only [Prod.mk.injEq] at he
                      obtain ⟨rfl, rfl⟩ := he
                      have b2 : (t4 == 0) = true := by simpa using k0
                      clear HQ hQ k0
                      go_wp2
                      go_ret2
                      exact ⟨_, rfl, Kd.R_nil _ _ _ _ _, below_step HB2.out HB3.out⟩
                    · have hQ := HQ.out
                      rw [if_neg k0] at hQ
                      have b2 : (t4 == 0) = false := by simpa using k0
                      by_cases k3 : 3 ≤ l'.length
                      · rw [if_pos k3] at hQ
                        by_cases k2 : t4 = 2
                        · have b3 : (t4 == 2) = true := by simpa using k2
                          have HKC := HC.out
                          have hD0 := Kd.C_drop (m := 3) HKC.1 k3 HKC.2
                          obtain ⟨i, hi, hsz⟩ := info_size
                          have hcut := cut_from (P := Tryz.prog) 41 49 .i64 Tryz.underlying41 hi 6 hsz A l'.length c 3 (by omega) (by omega)
                          obtain ⟨A3, hA3⟩ : ∃ A3, (if c = 3 then A else A.map (·.add (3 * 6))) = A3 := ⟨_, rfl⟩
                          have hcut3 : ∀ W : World, (Instr.slice 41 (.slice A l'.length c) (some (.int .i64 3)) none none).run Tryz.prog W = .ok (.slice A3 (l'.length - 3) (c - 3)) W := by rw [← hA3]; exact hcut
                          have hD3 : Kd.C k49 w2 A3 (l'.drop 3).length (l'.drop 3) := by rw [← hA3]; exact hD0
                          have HD3 := Aside0.mk hD3
                          have HC3 := Aside0.mk HKC.2
                          have K3 := Aside0.mk k3
                          clear hcut hA3 hD0 hD3 HKC HC hi hsz
                          by_cases k4 : l'.length = 3
                          · rw [if_pos k4] at hQ
                            have b4 : (((l'.length - 3 : Nat) : Int) == 0) = true := by rw [k4]; rfl
                            have he := Option.some.inj hQ
                            clear HQ hQ k0 k3
                            rw [if_pos k2, if_pos rfl] at he
                            simp only [Prod.mk.injEq] at he
                            obtain ⟨rfl, rfl⟩ := he
                            clear k2 k4
                            go_wp2_with ((with_reducible refine gate_builtin (b := .append) (xs := #[.tmp 49, .tmp 51]) rfl ?_); at_builtin; refine Kd.R_append k45 (w0 := (w3.alloc (.cells #[.int .i64 t1, .string t2, .string t3] 45))) w2.heap.size rfl (.tmp 49) (.tmp 51) 27 45 (.agg #[.int .i64 0, .string ⟨#[]⟩, .string ⟨#[]⟩]) 40 ?a0 ?a1 infoSM ?a2 ?a3 ?a4 u7 out (⟨t1, t2, t3⟩ : SM) [.int .i64 t1, .string t2, .string t3] (fun _ => True) (fun _ => False) ?a5 ?a6 ?a7 ?a8 ?a9 ?b1 ?b2 ?b3 ?b4 ?_; (case a0 => rfl); (case a1 => exact Tryz.underlying27); (case a2 => rfl); (case a3 => decide); (case a4 => omega); (case a5 => rfl); (case a6 => (first | (go_simp; done) | (go_simp; rfl) | (go_simp; simp; done))); (case a7 => exact k45_mkM _ _ _ (⟨t1, t2, t3⟩ : SM)); (case a8 => exact fun _ hk => hk.elim); (case a9 => exact fun _ _ => trivial); (case b1 => exact HR3.out); (case b2 => exact Below.refl _ _); (case b3 => exact HS3.out); (case b4 => (have h1 := HP.out.2; omega)); intro v9 w4 hO4 hB4 hg4 hat4; have HO4 := Aside0.mk hO4; have HB4 := Aside0.mk (HB3.out.trans (hB4.mono (by first | exact Nat.le_refl _ | exact HS3.out))); clear hO4 hB4 hg4 hat4)
                            go_wp2
                            go_ret2
                            exact ⟨_, rfl, Kd.R_nil _ _ _ _ _, below_step HB2.out HB4.out⟩
                          · rw [if_neg k4] at hQ
                            have b4 : (((l'.length - 3 : Nat) : Int) == 0) = false := by rw [beq_eq_false_iff_ne]; omega
                            have hl3 : (l'.drop 3).length = l'.length - 3 := List.length_drop
                            obtain ⟨ad3, e3, hx3, _⟩ := at_T49 HD3.out 0 (by omega) (by omega)
                            subst e3
                            have er : rd_T49 (l'.drop 3) 0 = rd_T49 l' 3 := by
                              show (l'.drop 3).getD 0 _ = l'.getD 3 _
                              rw [List.getD_eq_getElem?_getD, List.getD_eq_getElem?_getD, List.getElem?_drop]
                            rw [er] at hx3
                            have hx3' : w2.cell? ad3 = some (.int .i64 (rd_T49 l' 3).f0) := by simpa [Addr.add] using hx3
                            have CELL := Aside0.mk (fun (W : World) (hW : Below w2.heap.size w2 W) => (hW.cell (World.block_lt_of_cell? w2 _ hx3')).trans hx3')
                            have g1 : ((0 : Int) < ((l'.length - 3 : Nat) : Int)) = True := eq_true (by omega)
                            have g2 : (0 < l'.length - 3) = True := eq_true (by omega)
                            clear er hx3 hx3'
                            by_cases kk : (rd_T49 l' 3).f0 = 3
                            · rw [if_pos kk] at hQ
                              have b6 : ((rd_T49 l' 3).f0 != 3) = false := by simpa using kk
                              obtain ⟨i, hi, hsz⟩ := info_size
                              have hcut := cut_from (P := Tryz.prog) 41 49 .i64 Tryz.underlying41 hi 6 hsz (some ad3) (l'.length - 3) (c - 3) 1 (by omega) (by omega)
                              obtain ⟨A4, hA4⟩ : ∃ A4, (if c - 3 = 1 then some ad3 else (some ad3).map (·.add (1 * 6))) = A4 := ⟨_, rfl⟩
                              have hcut4 : ∀ W : World, (Instr.slice 41 (.slice (some ad3) (l'.length - 3) (c - 3)) (some (.int .i64 1)) none none).run Tryz.prog W = .ok (.slice A4 (l'.length - 3 - 1) (c - 3 - 1)) W := by rw [← hA4]; exact hcut
                              have hD0 := Kd.C_drop (m := 1) (c := c - 3) HD3.out (by rw [hl3]; omega) (by rw [hl3]; have := HC3.out; omega)
                              have h4 : (l'.drop 3).drop 1 = l'.drop 4 := by rw [List.drop_drop]
                              have hl4 : (l'.drop 4).length = l'.length - 3 - 1 := by rw [List.length_drop]; omega
                              have hD4 : Kd.C k49 w2 A4 (l'.drop 4).length (l'.drop 4) := by rw [← hA4, ← h4]; exact hD0
                              have HD4 := Aside0.mk (And.intro hD4 (show (l'.drop 4).length ≤ c - 3 - 1 by rw [hl4]; have := HC3.out; omega))
                              have HL4 := Aside0.mk hl4
                              rw [if_pos k2] at hQ
                              have HE := Aside0.mk (And.intro hQ (show (out ++ [(⟨t1, t2, t3⟩ : SM)]).length + (l'.drop 4).length ≤ 2147483647 by rw [List.length_append, hl4]; simp only [List.length_cons, List.length_nil]; have := HP.out.2; omega))
                              have HPL := Aside0.mk (show l'.length - 3 - 1 < l'.length by omega)
                              clear hcut hA4 hD0 hD4 h4 hl4 hl3 hi hsz HQ hQ k0 k2 k3 k4 kk
                              go_wp2_with ((with_reducible refine gate_builtin (b := .append) (xs := #[.tmp 49, .tmp 51]) rfl ?_); at_builtin; refine Kd.R_append k45 (w0 := (w3.alloc (.cells #[.int .i64 t1, .string t2, .string t3] 45))) w2.heap.size rfl (.tmp 49) (.tmp 51) 27 45 (.agg #[.int .i64 0, .string ⟨#[]⟩, .string ⟨#[]⟩]) 40 ?a0 ?a1 infoSM ?a2 ?a3 ?a4 u7 out (⟨t1, t2, t3⟩ : SM) [.int .i64 t1, .string t2, .string t3] (fun _ => True) (fun _ => False) ?a5 ?a6 ?a7 ?a8 ?a9 ?b1 ?b2 ?b3 ?b4 ?_; (case a0 => rfl); (case a1 => exact Tryz.underlying27); (case a2 => rfl); (case a3 => decide); (case a4 => omega); (case a5 => rfl); (case a6 => (first | (go_simp; done) | (go_simp; rfl) | (go_simp; simp; done))); (case a7 => exact k45_mkM _ _ _ (⟨t1, t2, t3⟩ : SM)); (case a8 => exact fun _ hk => hk.elim); (case a9 => exact fun _ _ => trivial); (case b1 => exact HR3.out); (case b2 => exact Below.refl _ _); (case b3 => exact HS3.out); (case b4 => (have h1 := HP.out.2; omega)); intro v9 w4 hO4 hB4 hg4 hat4; have HO4 := Aside0.mk hO4; have HB4 := Aside0.mk (HB3.out.trans (hB4.mono (by first | exact Nat.le_refl _ | exact HS3.out))); have hx4 := CELL.out w4 HB4.out; clear hO4 hB4 hg4 hat4)
                              go_wp2
                              go_roundw
                              case rel => exact ⟨n, l'.drop 4, out ++ [(⟨t1, t2, t3⟩ : SM)], 2, A4, c - 3 - 1, by rw [HL4.out], rfl, HE, HD4, HO4, HB4⟩
                              case measure => exact HPL.out
                            · rw [if_neg kk] at hQ
                              have b6 : ((rd_T49 l' 3).f0 != 3) = true := by simpa using kk
                              have he := Option.some.inj hQ
                              simp only [Prod.mk.injEq] at he
                              obtain ⟨rfl, rfl⟩ := he
                              clear HQ hQ k0 k2 k3 k4 kk hl3
                              go_wp2_with ((with_reducible refine gate_builtin (b := .append) (xs := #[.tmp 49, .tmp 51]) rfl ?_); at_builtin; refine Kd.R_append k45 (w0 := (w3.alloc (.cells #[.int .i64 t1, .string t2, .string t3] 45))) w2.heap.size rfl (.tmp 49) (.tmp 51) 27 45 (.agg #[.int .i64 0, .string ⟨#[]⟩, .string ⟨#[]⟩]) 40 ?a0 ?a1 infoSM ?a2 ?a3 ?a4 u7 out (⟨t1, t2, t3⟩ : SM) [.int .i64 t1, .string t2, .string t3] (fun _ => True) (fun _ => False) ?a5 ?a6 ?a7 ?a8 ?a9 ?b1 ?b2 ?b3 ?b4 ?_; (case a0 => rfl); (case a1 => exact Tryz.underlying27); (case a2 => rfl); (case a3 => decide); (case a4 => omega); (case a5 => rfl); (case a6 => (first | (go_simp; done) | (go_simp; rfl) | (go_simp; simp; done))); (case a7 => exact k45_mkM _ _ _ (⟨t1, t2, t3⟩ : SM)); (case a8 => exact fun _ hk => hk.elim); (case a9 => exact fun _ _ => trivial); (case b1 => exact HR3.out); (case b2 => exact Below.refl _ _); (case b3 => exact HS3.out); (case b4 => (have h1 := HP.out.2; omega)); intro v9 w4 hO4 hB4 hg4 hat4; have HO4 := Aside0.mk hO4; have HB4 := Aside0.mk (HB3.out.trans (hB4.mono (by first | exact Nat.le_refl _ | exact HS3.out))); have hx4 := CELL.out w4 HB4.out; clear hO4 hB4 hg4 hat4)
                              go_wp2
                              go_ret2
                              exact ⟨_, rfl, Kd.R_nil _ _ _ _ _, below_step HB2.out HB4.out⟩
                        · have b3 : (t4 == 2) = false := by simpa using k2
                          have HKC := HC.out
                          have hD0 := Kd.C_drop (m := 3) HKC.1 k3 HKC.2
                          obtain ⟨i, hi, hsz⟩ := info_size
                          have hcut := cut_from (P := Tryz.prog) 41 49 .i64 Tryz.underlying41 hi 6 hsz A l'.length c 3 (by omega) (by omega)
                          obtain ⟨A3, hA3⟩ : ∃ A3, (if c = 3 then A else A.map (·.add (3 * 6))) = A3 := ⟨_, rfl⟩
                          have hcut3 : ∀ W : World, (Instr.slice 41 (.slice A l'.length c) (some (.int .i64 3)) none none).run Tryz.prog W = .ok (.slice A3 (l'.length - 3) (c - 3)) W := by rw [← hA3]; exact hcut
                          have hD3 : Kd.C k49 w2 A3 (l'.drop 3).length (l'.drop 3) := by rw [← hA3]; exact hD0
                          have HD3 := Aside0.mk hD3
                          have HC3 := Aside0.mk HKC.2
                          have K3 := Aside0.mk k3
                          clear hcut hA3 hD0 hD3 HKC HC hi hsz
                          by_cases k4 : l'.length = 3
                          · rw [if_pos k4] at hQ
                            have b4 : (((l'.length - 3 : Nat) : Int) == 0) = true := by rw [k4]; rfl
                            have he := Option.some.inj hQ
                            clear HQ hQ k0 k3
                            rw [if_neg k2] at he
                            clear k2 k4
                            by_cases ks : st = 2
                            · rw [if_pos ks] at he
                              simp only [Prod.mk.injEq] at he
                              obtain ⟨rfl, rfl⟩ := he
                              have b5 : (st == 2) = true := by simpa using ks
                              clear ks
                              go_wp2_with ((with_reducible refine gate_builtin (b := .append) (xs := #[.tmp 49, .tmp 51]) rfl ?_); at_builtin; refine Kd.R_append k45 (w0 := (w3.alloc (.cells #[.int .i64 t1, .string t2, .string t3] 45))) w2.heap.size rfl (.tmp 49) (.tmp 51) 27 45 (.agg #[.int .i64 0, .string ⟨#[]⟩, .string ⟨#[]⟩]) 40 ?a0 ?a1 infoSM ?a2 ?a3 ?a4 u7 out (⟨t1, t2, t3⟩ : SM) [.int .i64 t1, .string t2, .string t3] (fun _ => True) (fun _ => False) ?a5 ?a6 ?a7 ?a8 ?a9 ?b1 ?b2 ?b3 ?b4 ?_; (case a0 => rfl); (case a1 => exact Tryz.underlying27); (case a2 => rfl); (case a3 => decide); (case a4 => omega); (case a5 => rfl); (case a6 => (first | (go_simp; done) | (go_simp; rfl) | (go_simp; simp; done))); (case a7 => exact k45_mkM _ _ _ (⟨t1, t2, t3⟩ : SM)); (case a8 => exact fun _ hk => hk.elim); (case a9 => exact fun _ _ => trivial); (case b1 => exact HR3.out); (case b2 => exact Below.refl _ _); (case b3 => exact HS3.out); (case b4 => (have h1 := HP.out.2; omega)); intro v9 w4 hO4 hB4 hg4 hat4; have HO4 := Aside0.mk hO4; have HB4 := Aside0.mk (HB3.out.trans (hB4.mono (by first | exact Nat.le_refl _ | exact HS3.out))); clear hO4 hB4 hg4 hat4)
                              go_wp2
                              go_ret2
                              exact ⟨_, rfl, Kd.R_nil _ _ _ _ _, below_step HB2.out HB4.out⟩
                            · rw [if_neg ks] at he
                              simp only [Prod.mk.injEq] at he
                              obtain ⟨rfl, rfl⟩ := he
                              have b5 : (st == 2) = false := by simpa using ks
                              clear ks
                              go_wp2_with ((with_reducible refine gate_builtin (b := .append) (xs := #[.tmp 49, .tmp 51]) rfl ?_); at_builtin; refine Kd.R_append k45 (w0 := (w3.alloc (.cells #[.int .i64 t1, .string t2, .string t3] 45))) w2.heap.size rfl (.tmp 49) (.tmp 51) 27 45 (.agg #[.int .i64 0, .string ⟨#[]⟩, .string ⟨#[]⟩]) 40 ?a0 ?a1 infoSM ?a2 ?a3 ?a4 u7 out (⟨t1, t2, t3⟩ : SM) [.int .i64 t1, .string t2, .string t3] (fun _ => True) (fun _ => False) ?a5 ?a6 ?a7 ?a8 ?a9 ?b1 ?b2 ?b3 ?b4 ?_; (case a0 => rfl); (case a1 => exact Tryz.underlying27); (case a2 => rfl); (case a3 => decide); (case a4 => omega); (case a5 => rfl); (case a6 => (first | (go_simp; done) | (go_simp; rfl) | (go_simp; simp; done))); (case a7 => exact k45_mkM _ _ _ (⟨t1, t2, t3⟩ : SM)); (case a8 => exact fun _ hk => hk.elim); (case a9 => exact fun _ _ => trivial); (case b1 => exact HR3.out); (case b2 => exact Below.refl _ _); (case b3 => exact HS3.out); (case b4 => (have h1 := HP.out.2; omega)); intro v9 w4 hO4 hB4 hg4 hat4; have HO4 := Aside0.mk hO4; have HB4 := Aside0.mk (HB3.out.trans (hB4.mono (by first | exact Nat.le_refl _ | exact HS3.out))); clear hO4 hB4 hg4 hat4)
                              go_wp2
                              go_ret2
                              exact ⟨_, rfl, Kd.R_lower HO4.out HB2.out.size, below_step HB2.out HB4.out⟩
                          · rw [if_neg k4] at hQ
                            have b4 : (((l'.length - 3 : Nat) : Int) == 0) = false := by rw [beq_eq_false_iff_ne]; omega
                            have hl3 : (l'.drop 3).length = l'.length - 3 := List.length_drop
                            obtain ⟨ad3, e3, hx3, _⟩ := at_T49 HD3.out 0 (by omega) (by omega)
                            subst e3
                            have er : rd_T49 (l'.drop 3) 0 = rd_T49 l' 3 := by
                              show (l'.drop 3).getD 0 _ = l'.getD 3 _
                              rw [List.getD_eq_getElem?_getD, List.getD_eq_getElem?_getD, List.getElem?_drop]
                            rw [er] at hx3
                            have hx3' : w2.cell? ad3 = some (.int .i64 (rd_T49 l' 3).f0) := by simpa [Addr.add] using hx3
                            have CELL := Aside0.mk (fun (W : World) (hW : Below w2.heap.size w2 W) => (hW.cell (World.block_lt_of_cell? w2 _ hx3')).trans hx3')
                            have g1 : ((0 : Int) < ((l'.length - 3 : Nat) : Int)) = True := eq_true (by omega)
                            have g2 : (0 < l'.length - 3) = True := eq_true (by omega)
                            clear er hx3 hx3'
                            by_cases kk : (rd_T49 l' 3).f0 = 3
                            · rw [if_pos kk] at hQ
                              have b6 : ((rd_T49 l' 3).f0 != 3) = false := by simpa using kk
                              obtain ⟨i, hi, hsz⟩ := info_size
                              have hcut := cut_from (P := Tryz.prog) 41 49 .i64 Tryz.underlying41 hi 6 hsz (some ad3) (l'.length - 3) (c - 3) 1 (by omega) (by omega)
                              obtain ⟨A4, hA4⟩ : ∃ A4, (if c - 3 = 1 then some ad3 else (some ad3).map (·.add (1 * 6))) = A4 := ⟨_, rfl⟩
                              have hcut4 : ∀ W : World, (Instr.slice 41 (.slice (some ad3) (l'.length - 3) (c - 3)) (some (.int .i64 1)) none none).run Tryz.prog W = .ok (.slice A4 (l'.length - 3 - 1) (c - 3 - 1)) W := by rw [← hA4]; exact hcut
                              have hD0 := Kd.C_drop (m := 1) (c := c - 3) HD3.out (by rw [hl3]; omega) (by rw [hl3]; have := HC3.out; omega)
                              have h4 : (l'.drop 3).drop 1 = l'.drop 4 := by rw [List.drop_drop]
                              have hl4 : (l'.drop 4).length = l'.length - 3 - 1 := by rw [List.length_drop]; omega
                              have hD4 : Kd.C k49 w2 A4 (l'.drop 4).length (l'.drop 4) := by rw [← hA4, ← h4]; exact hD0
                              have HD4 := Aside0.mk (And.intro hD4 (show (l'.drop 4).length ≤ c - 3 - 1 by rw [hl4]; have := HC3.out; omega))
                              have HL4 := Aside0.mk hl4
                              rw [if_neg k2] at hQ
                              have HE := Aside0.mk (And.intro hQ (show (out ++ [(⟨t1, t2, t3⟩ : SM)]).length + (l'.drop 4).length ≤ 2147483647 by rw [List.length_append, hl4]; simp only [List.length_cons, List.length_nil]; have := HP.out.2; omega))
                              have HPL := Aside0.mk (show l'.length - 3 - 1 < l'.length by omega)
                              clear hcut hA4 hD0 hD4 h4 hl4 hl3 hi hsz HQ hQ k0 k2 k3 k4 kk
                              go_wp2_with ((with_reducible refine gate_builtin (b := .append) (xs := #[.tmp 49, .tmp 51]) rfl ?_); at_builtin; refine Kd.R_append k45 (w0 := (w3.alloc (.cells #[.int .i64 t1, .string t2, .string t3] 45))) w2.heap.size rfl (.tmp 49) (.tmp 51) 27 45 (.agg #[.int .i64 0, .string ⟨#[]⟩, .string ⟨#[]⟩]) 40 ?a0 ?a1 infoSM ?a2 ?a3 ?a4 u7 out (⟨t1, t2, t3⟩ : SM) [.int .i64 t1, .string t2, .string t3] (fun _ => True) (fun _ => False) ?a5 ?a6 ?a7 ?a8 ?a9 ?b1 ?b2 ?b3 ?b4 ?_; (case a0 => rfl); (case a1 => exact Tryz.underlying27); (case a2 => rfl); (case a3 => decide); (case a4 => omega); (case a5 => rfl); (case a6 => (first | (go_simp; done) | (go_simp; rfl) | (go_simp; simp; done))); (case a7 => exact k45_mkM _ _ _ (⟨t1, t2, t3⟩ : SM)); (case a8 => exact fun _ hk => hk.elim); (case a9 => exact fun _ _ => trivial); (case b1 => exact HR3.out); (case b2 => exact Below.refl _ _); (case b3 => exact HS3.out); (case b4 => (have h1 := HP.out.2; omega)); intro v9 w4 hO4 hB4 hg4 hat4; have HO4 := Aside0.mk hO4; have HB4 := Aside0.mk (HB3.out.trans (hB4.mono (by first | exact Nat.le_refl _ | exact HS3.out))); have hx4 := CELL.out w4 HB4.out; clear hO4 hB4 hg4 hat4)
                              go_wp2
                              go_roundw
                              case rel => exact ⟨n, l'.drop 4, out ++ [(⟨t1, t2, t3⟩ : SM)], st, A4, c - 3 - 1, by rw [HL4.out], rfl, HE, HD4, HO4, HB4⟩
                              case measure => exact HPL.out
                            · rw [if_neg kk] at hQ
                              have b6 : ((rd_T49 l' 3).f0 != 3) = true := by simpa using kk
                              have he := Option.some.inj hQ
                              simp only [Prod.mk.injEq] at he
                              obtain ⟨rfl, rfl⟩ := he
                              clear HQ hQ k0 k2 k3 k4 kk hl3
                              go_wp2_with ((with_reducible refine gate_builtin (b := .append) (xs := #[.tmp 49, .tmp 51]) rfl ?_); at_builtin; refine Kd.R_append k45 (w0 := (w3.alloc (.cells #[.int .i64 t1, .string t2, .string t3] 45))) w2.heap.size rfl (.tmp 49) (.tmp 51) 27 45 (.agg #[.int .i64 0, .string ⟨#[]⟩, .string ⟨#[]⟩]) 40 ?a0 ?a1 infoSM ?a2 ?a3 ?a4 u7 out (⟨t1, t2, t3⟩ : SM) [.int .i64 t1, .string t2, .string t3] (fun _ => True) (fun _ => False) ?a5 ?a6 ?a7 ?a8 ?a9 ?b1 ?b2 ?b3 ?b4 ?_; (case a0 => rfl); (case a1 => exact Tryz.underlying27); (case a2 => rfl); (case a3 => decide); (case a4 => omega); (case a5 => rfl); (case a6 => (first | (go_simp; done) | (go_simp; rfl) | (go_simp; simp; done))); (case a7 => exact k45_mkM _ _ _ (⟨t1, t2, t3⟩ : SM)); (case a8 => exact fun _ hk => hk.elim); (case a9 => exact fun _ _ => trivial); (case b1 => exact HR3.out); (case b2 => exact Below.refl _ _); (case b3 => exact HS3.out); (case b4 => (have h1 := HP.out.2; omega)); intro v9 w4 hO4 hB4 hg4 hat4; have HO4 := Aside0.mk hO4; have HB4 := Aside0.mk (HB3.out.trans (hB4.mono (by first | exact Nat.le_refl _ | exact HS3.out))); have hx4 := CELL.out w4 HB4.out; clear hO4 hB4 hg4 hat4)
                              go_wp2
                              go_ret2
                              exact ⟨_, rfl, Kd.R_nil _ _ _ _ _, below_step HB2.out HB4.out⟩
                      · rw [if_neg k3] at hQ; exact nomatch hQ
            · rw [if_neg hlen] at hH; exact nomatch hH
          · have hH := HH.out
            rw [if_neg h1] at hH
            have he := Option.some.inj hH
            simp only [Prod.mk.injEq] at he
            obtain ⟨rfl, rfl⟩ := he
            have hn1 : (is != 1) = true := by simpa using h1
            clear HH hH hR2 h1
            go_wp2
            go_ret2
            exact ⟨_, rfl, Kd.R_nil _ _ _ _ _, HB.out⟩
    · rw [if_neg hs] at h; exact nomatch h
end Go.Proofs.YtmjoebnphacadaaGreatDoor.Spm
-- printed by this project's own program wip/tools/mkprint.py (the kit's print.py with hand-proved contracts put in)
namespace Go.Proofs.YtmjoebnphacadaaGreatDoor.Q
open Go.RowKit Go.Proofs.YtmjoebnphacadaaGreatDoorW.PrintWords Go.Proofs.YtmjoebnphacadaaGreatDoorW.PrintLast Go.Proofs.YtmjoebnphacadaaGreatDoorW.PrintMore
attribute [local go_sem] max2_int min2_int max_two min_two max_three min_three max_four min_four   -- for this text's walks alone
set_option linter.unusedVariables false
set_option linter.unusedSimpArgs false
/-! ### spec_ParseMatchers: function 7 -/
-- a contract that was proved by hand
noncomputable def spec_ParseMatchers.f (k : Nat) (a0 : ByteArray) : Option (List S45 × Int) := Go.Proofs.YtmjoebnphacadaaGreatDoor.Spm.pmS k a0
theorem spec_ParseMatchers.mono : ∀ a0 k, LeO (spec_ParseMatchers.f k a0) (spec_ParseMatchers.f (k + 1) a0) := fun a0 k => Go.Proofs.YtmjoebnphacadaaGreatDoor.Spm.pmS_mono k a0
theorem spec_ParseMatchers.calls (k : Nat) (a0 : ByteArray) (r1 : List S45) (r2 : Int) (w : World) (h : spec_ParseMatchers.f k a0 = some (r1, r2)) :
    Calls Tryz.prog 7 #[.string a0] w fun e w' => ∃ v0_ : Value, e = .returned (.tuple #[v0_, .int .i64 r2]) ∧ Kd.R k45 45 w' w.heap.size (fun _ => True) v0_ r1 ∧ Below w.heap.size w w' := Go.Proofs.YtmjoebnphacadaaGreatDoor.Spm.pm_calls k a0 r1 r2 w h
end Go.Proofs.YtmjoebnphacadaaGreatDoor.Q
