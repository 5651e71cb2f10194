-- printed by this project's own program wip/tools/mkprint.py (the kit's print.py with hand-proved contracts put in)
import Derived.Test.YtnjghpoeokfekaaDoorQx0
import Derived.Test.YtnjghpoeokfekaaDoorQx5
namespace Go.Proofs.YtnjghpoeokfekaaDoor.Q
open Go.RowKit Go.Proofs.YtnjghpoeokfekaaDoorW.PrintWords Go.Proofs.YtnjghpoeokfekaaDoorW.PrintLast Go.Proofs.YtnjghpoeokfekaaDoorW.PrintMore
attribute [local go_sem] max2_int min2_int max_two min_two max_three min_three max_four min_four   -- for this text's walks alone
set_option linter.unusedVariables false
set_option linter.unusedSimpArgs false

/-! ### spec_point: function 38 -/
def spec_point.f (a0 : ByteArray) (a1 : Int) : Option (Int) := if a1 = 2 then (if 0 < (a0.size : Int) then (if 1 < (a0.size : Int) then (some (Go.bits .or .i64 (wrap64 ((wrap64 (Go.bits .and .u8 (bt a0 0) 31)) * 64)) (wrap64 (Go.bits .and .u8 (bt a0 1) 63)))) else (none)) else (none)) else (if a1 = 3 then (if 0 < (a0.size : Int) then (if 1 < (a0.size : Int) then (if 2 < (a0.size : Int) then (some (Go.bits .or .i64 (Go.bits .or .i64 (wrap64 ((wrap64 (Go.bits .and .u8 (bt a0 0) 15)) * 4096)) (wrap64 ((wrap64 (Go.bits .and .u8 (bt a0 1) 63)) * 64))) (wrap64 (Go.bits .and .u8 (bt a0 2) 63)))) else (none)) else (none)) else (none)) else (if a1 = 4 then (if 0 < (a0.size : Int) then (if 1 < (a0.size : Int) then (if 2 < (a0.size : Int) then (if 3 < (a0.size : Int) then (some (Go.bits .or .i64 (Go.bits .or .i64 (Go.bits .or .i64 (wrap64 ((wrap64 (Go.bits .and .u8 (bt a0 0) 7)) * 262144)) (wrap64 ((wrap64 (Go.bits .and .u8 (bt a0 1) 63)) * 4096))) (wrap64 ((wrap64 (Go.bits .and .u8 (bt a0 2) 63)) * 64))) (wrap64 (Go.bits .and .u8 (bt a0 3) 63)))) else (none)) else (none)) else (none)) else (none)) else (if 0 < (a0.size : Int) then (some (wrap64 (bt a0 0))) else (none))))
set_option maxHeartbeats 8000000 in
set_option maxRecDepth 100000 in
theorem spec_point.calls (a0 : ByteArray) (a1 : Int) (r : Int) (w : World) (h : spec_point.f a0 a1 = some r) :
    Calls Tryd.prog 38 #[.string a0, .int .i64 a1] w fun e w' => e = .returned (.int .i64 r) ∧ Drawn0 w w' := by
  have H : (if a1 = 2 then (if 0 < (a0.size : Int) then (if 1 < (a0.size : Int) then (some (Go.bits .or .i64 (wrap64 ((wrap64 (Go.bits .and .u8 (bt a0 0) 31)) * 64)) (wrap64 (Go.bits .and .u8 (bt a0 1) 63)))) else (none)) else (none)) else (if a1 = 3 then (if 0 < (a0.size : Int) then (if 1 < (a0.size : Int) then (if 2 < (a0.size : Int) then (some (Go.bits .or .i64 (Go.bits .or .i64 (wrap64 ((wrap64 (Go.bits .and .u8 (bt a0 0) 15)) * 4096)) (wrap64 ((wrap64 (Go.bits .and .u8 (bt a0 1) 63)) * 64))) (wrap64 (Go.bits .and .u8 (bt a0 2) 63)))) else (none)) else (none)) else (none)) else (if a1 = 4 then (if 0 < (a0.size : Int) then (if 1 < (a0.size : Int) then (if 2 < (a0.size : Int) then (if 3 < (a0.size : Int) then (some (Go.bits .or .i64 (Go.bits .or .i64 (Go.bits .or .i64 (wrap64 ((wrap64 (Go.bits .and .u8 (bt a0 0) 7)) * 262144)) (wrap64 ((wrap64 (Go.bits .and .u8 (bt a0 1) 63)) * 4096))) (wrap64 ((wrap64 (Go.bits .and .u8 (bt a0 2) 63)) * 64))) (wrap64 (Go.bits .and .u8 (bt a0 3) 63)))) else (none)) else (none)) else (none)) else (none)) else (if 0 < (a0.size : Int) then (some (wrap64 (bt a0 0))) else (none))))) = some r := h
  clear h
  by_cases c3 : a1 = 2
  · rw [if_pos c3] at H
    have c3b0 : (a1 == 2) = true := beq_iff_eq.mpr c3
    have c3b1 : (a1 != 2) = false := bne_eq_false_iff_eq.mpr c3
    clear c3
    by_cases c4 : 0 < (a0.size : Int)
    · rw [if_pos c4] at H
      have c4b0 : decide (0 < (a0.size : Int)) = true := decide_eq_true c4
      have c4b1 : decide (0 < a0.size) = true := decide_eq_true (by omega)
      clear c4
      by_cases c6 : 1 < (a0.size : Int)
      · rw [if_pos c6] at H
        have c6b0 : decide (1 < (a0.size : Int)) = true := decide_eq_true c6
        have c6b1 : decide (1 < a0.size) = true := decide_eq_true (by omega)
        clear c6
        obtain rfl := Option.some.inj H
        have p5 : 0 ≤ (0 : Int) := (by omega)
        have q5 : 0 < a0.size := (by have : (0 : Int) < (a0.size : Int) := of_decide_eq_true (by first | (with_reducible assumption) | assumption); omega)
        have hx5 : ∀ h : 0 < a0.size, ((a0[0]'h).toNat : Int) = bt a0 0 := bt_at a0 0
        clear p5
        have qi5 : (0 < (a0.size : Int)) = True := eq_true (of_decide_eq_true (by first | (with_reducible assumption) | assumption))
        replace q5 := eq_true q5
        have p7 : 0 ≤ (1 : Int) := (by omega)
        have q7 : 1 < a0.size := (by have : (1 : Int) < (a0.size : Int) := of_decide_eq_true (by first | (with_reducible assumption) | assumption); omega)
        have hx7 : ∀ h : 1 < a0.size, ((a0[1]'h).toNat : Int) = bt a0 1 := bt_at a0 1
        clear p7
        have qi7 : (1 < (a0.size : Int)) = True := eq_true (of_decide_eq_true (by first | (with_reducible assumption) | assumption))
        replace q7 := eq_true q7
        go_enter Tryd.func38, Tryd.ntmps38
        go_wp2
        repeat (go_quiet (fail); try go_wp2)
        go_ret
        exact ⟨by first | rfl | (simp; done) | (simp [*]; done), by repeat (first | exact Drawn0.refl _ | apply Drawn0.step)⟩
      · rw [if_neg c6] at H
        exact absurd H (by simp)
    · rw [if_neg c4] at H
      exact absurd H (by simp)
  · rw [if_neg c3] at H
    have c3b0 : (a1 == 2) = false := beq_eq_false_iff_ne.mpr c3
    have c3b1 : (a1 != 2) = true := bne_iff_ne.mpr c3
    by_cases c8 : a1 = 3
    · rw [if_pos c8] at H
      have c8b0 : (a1 == 3) = true := beq_iff_eq.mpr c8
      have c8b1 : (a1 != 3) = false := bne_eq_false_iff_eq.mpr c8
      clear c8
      by_cases c9 : 0 < (a0.size : Int)
      · rw [if_pos c9] at H
        have c9b0 : decide (0 < (a0.size : Int)) = true := decide_eq_true c9
        have c9b1 : decide (0 < a0.size) = true := decide_eq_true (by omega)
        clear c9
        by_cases c11 : 1 < (a0.size : Int)
        · rw [if_pos c11] at H
          have c11b0 : decide (1 < (a0.size : Int)) = true := decide_eq_true c11
          have c11b1 : decide (1 < a0.size) = true := decide_eq_true (by omega)
          clear c11
          by_cases c13 : 2 < (a0.size : Int)
          · rw [if_pos c13] at H
            have c13b0 : decide (2 < (a0.size : Int)) = true := decide_eq_true c13
            have c13b1 : decide (2 < a0.size) = true := decide_eq_true (by omega)
            clear c13
            obtain rfl := Option.some.inj H
            have p10 : 0 ≤ (0 : Int) := (by omega)
            have q10 : 0 < a0.size := (by have : (0 : Int) < (a0.size : Int) := of_decide_eq_true (by first | (with_reducible assumption) | assumption); omega)
            have hx10 : ∀ h : 0 < a0.size, ((a0[0]'h).toNat : Int) = bt a0 0 := bt_at a0 0
            clear p10
            have qi10 : (0 < (a0.size : Int)) = True := eq_true (of_decide_eq_true (by first | (with_reducible assumption) | assumption))
            replace q10 := eq_true q10
            have p12 : 0 ≤ (1 : Int) := (by omega)
            have q12 : 1 < a0.size := (by have : (1 : Int) < (a0.size : Int) := of_decide_eq_true (by first | (with_reducible assumption) | assumption); omega)
            have hx12 : ∀ h : 1 < a0.size, ((a0[1]'h).toNat : Int) = bt a0 1 := bt_at a0 1
            clear p12
            have qi12 : (1 < (a0.size : Int)) = True := eq_true (of_decide_eq_true (by first | (with_reducible assumption) | assumption))
            replace q12 := eq_true q12
            have p14 : 0 ≤ (2 : Int) := (by omega)
            have q14 : 2 < a0.size := (by have : (2 : Int) < (a0.size : Int) := of_decide_eq_true (by first | (with_reducible assumption) | assumption); omega)
            have hx14 : ∀ h : 2 < a0.size, ((a0[2]'h).toNat : Int) = bt a0 2 := bt_at a0 2
            clear p14
            have qi14 : (2 < (a0.size : Int)) = True := eq_true (of_decide_eq_true (by first | (with_reducible assumption) | assumption))
            replace q14 := eq_true q14
            go_enter Tryd.func38, Tryd.ntmps38
            go_wp2
            repeat (go_quiet (fail); try go_wp2)
            go_ret
            exact ⟨by first | rfl | (simp; done) | (simp [*]; done), by repeat (first | exact Drawn0.refl _ | apply Drawn0.step)⟩
          · rw [if_neg c13] at H
            exact absurd H (by simp)
        · rw [if_neg c11] at H
          exact absurd H (by simp)
      · rw [if_neg c9] at H
        exact absurd H (by simp)
    · rw [if_neg c8] at H
      have c8b0 : (a1 == 3) = false := beq_eq_false_iff_ne.mpr c8
      have c8b1 : (a1 != 3) = true := bne_iff_ne.mpr c8
      by_cases c15 : a1 = 4
      · rw [if_pos c15] at H
        have c15b0 : (a1 == 4) = true := beq_iff_eq.mpr c15
        have c15b1 : (a1 != 4) = false := bne_eq_false_iff_eq.mpr c15
        clear c15
        by_cases c16 : 0 < (a0.size : Int)
        · rw [if_pos c16] at H
          have c16b0 : decide (0 < (a0.size : Int)) = true := decide_eq_true c16
          have c16b1 : decide (0 < a0.size) = true := decide_eq_true (by omega)
          clear c16
          by_cases c18 : 1 < (a0.size : Int)
          · rw [if_pos c18] at H
            have c18b0 : decide (1 < (a0.size : Int)) = true := decide_eq_true c18
            have c18b1 : decide (1 < a0.size) = true := decide_eq_true (by omega)
            clear c18
            by_cases c20 : 2 < (a0.size : Int)
            · rw [if_pos c20] at H
              have c20b0 : decide (2 < (a0.size : Int)) = true := decide_eq_true c20
              have c20b1 : decide (2 < a0.size) = true := decide_eq_true (by omega)
              clear c20
              by_cases c22 : 3 < (a0.size : Int)
              · rw [if_pos c22] at H
                have c22b0 : decide (3 < (a0.size : Int)) = true := decide_eq_true c22
                have c22b1 : decide (3 < a0.size) = true := decide_eq_true (by omega)
                clear c22
                obtain rfl := Option.some.inj H
                have p17 : 0 ≤ (0 : Int) := (by omega)
                have q17 : 0 < a0.size := (by have : (0 : Int) < (a0.size : Int) := of_decide_eq_true (by first | (with_reducible assumption) | assumption); omega)
                have hx17 : ∀ h : 0 < a0.size, ((a0[0]'h).toNat : Int) = bt a0 0 := bt_at a0 0
                clear p17
                have qi17 : (0 < (a0.size : Int)) = True := eq_true (of_decide_eq_true (by first | (with_reducible assumption) | assumption))
                replace q17 := eq_true q17
                have p19 : 0 ≤ (1 : Int) := (by omega)
                have q19 : 1 < a0.size := (by have : (1 : Int) < (a0.size : Int) := of_decide_eq_true (by first | (with_reducible assumption) | assumption); omega)
                have hx19 : ∀ h : 1 < a0.size, ((a0[1]'h).toNat : Int) = bt a0 1 := bt_at a0 1
                clear p19
                have qi19 : (1 < (a0.size : Int)) = True := eq_true (of_decide_eq_true (by first | (with_reducible assumption) | assumption))
                replace q19 := eq_true q19
                have p21 : 0 ≤ (2 : Int) := (by omega)
                have q21 : 2 < a0.size := (by have : (2 : Int) < (a0.size : Int) := of_decide_eq_true (by first | (with_reducible assumption) | assumption); omega)
                have hx21 : ∀ h : 2 < a0.size, ((a0[2]'h).toNat : Int) = bt a0 2 := bt_at a0 2
                clear p21
                have qi21 : (2 < (a0.size : Int)) = True := eq_true (of_decide_eq_true (by first | (with_reducible assumption) | assumption))
                replace q21 := eq_true q21
                have p23 : 0 ≤ (3 : Int) := (by omega)
                have q23 : 3 < a0.size := (by have : (3 : Int) < (a0.size : Int) := of_decide_eq_true (by first | (with_reducible assumption) | assumption); omega)
                have hx23 : ∀ h : 3 < a0.size, ((a0[3]'h).toNat : Int) = bt a0 3 := bt_at a0 3
                clear p23
                have qi23 : (3 < (a0.size : Int)) = True := eq_true (of_decide_eq_true (by first | (with_reducible assumption) | assumption))
                replace q23 := eq_true q23
                go_enter Tryd.func38, Tryd.ntmps38
                go_wp2
                repeat (go_quiet (fail); try go_wp2)
                go_ret
                exact ⟨by first | rfl | (simp; done) | (simp [*]; done), by repeat (first | exact Drawn0.refl _ | apply Drawn0.step)⟩
              · rw [if_neg c22] at H
                exact absurd H (by simp)
            · rw [if_neg c20] at H
              exact absurd H (by simp)
          · rw [if_neg c18] at H
            exact absurd H (by simp)
        · rw [if_neg c16] at H
          exact absurd H (by simp)
      · rw [if_neg c15] at H
        have c15b0 : (a1 == 4) = false := beq_eq_false_iff_ne.mpr c15
        have c15b1 : (a1 != 4) = true := bne_iff_ne.mpr c15
        by_cases c24 : 0 < (a0.size : Int)
        · rw [if_pos c24] at H
          have c24b0 : decide (0 < (a0.size : Int)) = true := decide_eq_true c24
          have c24b1 : decide (0 < a0.size) = true := decide_eq_true (by omega)
          clear c24
          obtain rfl := Option.some.inj H
          have p25 : 0 ≤ (0 : Int) := (by omega)
          have q25 : 0 < a0.size := (by have : (0 : Int) < (a0.size : Int) := of_decide_eq_true (by first | (with_reducible assumption) | assumption); omega)
          have hx25 : ∀ h : 0 < a0.size, ((a0[0]'h).toNat : Int) = bt a0 0 := bt_at a0 0
          clear p25
          have qi25 : (0 < (a0.size : Int)) = True := eq_true (of_decide_eq_true (by first | (with_reducible assumption) | assumption))
          replace q25 := eq_true q25
          go_enter Tryd.func38, Tryd.ntmps38
          go_wp2
          repeat (go_quiet (fail); try go_wp2)
          go_ret
          exact ⟨by first | rfl | (simp; done) | (simp [*]; done), by repeat (first | exact Drawn0.refl _ | apply Drawn0.step)⟩
        · rw [if_neg c24] at H
          exact absurd H (by simp)

/-! ### spec_small: function 22 -/
def spec_small.l0 : Nat → ByteArray → Int → Option (Bool)
  | 0, _, _ => none
  | k + 1, x0, x3 => if x3 < (x0.size : Int) then (if 0 ≤ x3 then (if x3 ≤ (x0.size : Int) then ((spec_runeLen.f k (x0.extract (x3 : Int).toNat x0.size)).bind fun t143 => ((spec_point.f (x0.extract (x3 : Int).toNat x0.size) t143).bind fun t144 => (if t144 ≥ 1048576 then (some false) else (spec_small.l0 k x0 (wrap64 (x3 + t143)))))) else (none)) else (none)) else (some true)
def spec_small.f (k : Nat) (a0 : ByteArray) : Option (Bool) := spec_small.l0 k a0 0
theorem spec_small.mono_l : ∀ k, (∀ y0 y1, LeO (spec_small.l0 k y0 y1) (spec_small.l0 (k + 1) y0 y1))
  | 0 => fun _ _ r h => by simp [spec_small.l0] at h
  | k + 1 => by
    have ih0 := spec_small.mono_l k
    · intro y0 y1
      unfold spec_small.l0
      repeat' first
      | (with_reducible exact ih0 _ _)
      | (with_reducible exact spec_runeLen.mono _ _)
      | (with_reducible exact LeO.refl _)
      | (with_reducible exact LeO.none _)
      | (with_reducible refine LeO.ite ?_ ?_)
      | (with_reducible refine LeO.bind ?_ (fun _ => ?_))
      | exact ih0 _ _
      | exact spec_runeLen.mono _ _
      | exact LeO.none _
      | refine LeO.ite ?_ ?_
      | refine LeO.bind ?_ (fun _ => ?_)
theorem spec_small.mono : ∀ a0 k, LeO (spec_small.f k a0) (spec_small.f (k + 1) a0) := by
  intro a0 k
  have ih0 := spec_small.mono_l k
  unfold spec_small.f
  repeat' first
      | (with_reducible exact ih0 _ _)
      | (with_reducible exact spec_runeLen.mono _ _)
      | (with_reducible exact LeO.refl _)
      | (with_reducible exact LeO.none _)
      | (with_reducible refine LeO.ite ?_ ?_)
      | (with_reducible refine LeO.bind ?_ (fun _ => ?_))
      | exact ih0 _ _
      | exact spec_runeLen.mono _ _
      | exact LeO.none _
      | refine LeO.ite ?_ ?_
      | refine LeO.bind ?_ (fun _ => ?_)
set_option maxHeartbeats 8000000 in
set_option maxRecDepth 100000 in
theorem spec_small.calls (k : Nat) (a0 : ByteArray) (r : Bool) (w : World) (h : spec_small.f k a0 = some r) :
    Calls Tryd.prog 22 #[.string a0] w fun e w' => e = .returned (.bool r) ∧ Drawn0 w w' := by
  have H : (spec_small.l0 k a0 0) = some r := h
  clear h
  have H' := Aside0.mk H
  clear H
  go_enter Tryd.func22, Tryd.ntmps22
  go_wp2
  go_loopg [3] k (fun kq v3 w' => ∃ (x3_1 : Int), v3 = .int .i64 x3_1 ∧ Aside0 (spec_small.l0 kq a0 x3_1 = some r) ∧ Aside0 (kq ≤ k) ∧ Drawn0 w w')
  case atStart => exact ⟨(0), (by first | rfl | (simp; done) | (simp [*]; done)), H', ⟨Nat.le_refl _⟩, by repeat (first | exact Drawn0.refl _ | apply Drawn0.step)⟩
  case round =>
    clear H'
    obtain ⟨x3_1, rfl, HA, HK1, ⟨m1, rfl⟩⟩ := hrel
    cases gk with
    | zero => exact absurd HA.out (by simp [spec_small.l0])
    | succ k1 =>
      have H := HA.out
      clear HA
      simp only [spec_small.l0] at H
      by_cases c2 : x3_1 < (a0.size : Int)
      · rw [if_pos c2] at H
        have c2b0 : decide (x3_1 < (a0.size : Int)) = true := decide_eq_true c2
        clear c2
        by_cases c3 : 0 ≤ x3_1
        · rw [if_pos c3] at H
          have c3b0 := eq_true c3
          have c3b1 : decide (0 ≤ x3_1) = true := decide_eq_true c3
          clear c3
          by_cases c4 : x3_1 ≤ (a0.size : Int)
          · rw [if_pos c4] at H
            have c4b0 := eq_true c4
            have c4b1 : decide (x3_1 ≤ (a0.size : Int)) = true := decide_eq_true c4
            clear c4
            replace H := Option.bind_eq_some_iff.mp H
            obtain ⟨t143, A50, H⟩ := H
            replace H : ((spec_point.f (a0.extract (x3_1 : Int).toNat a0.size) t143).bind fun t144 => (if t144 ≥ 1048576 then (some false) else (spec_small.l0 k1 a0 (wrap64 (x3_1 + t143))))) = some r := H
            have A5 := Aside0.mk A50
            clear A50
            have c6b0 := eq_true (of_decide_eq_true (by first | (with_reducible assumption) | assumption) : 0 ≤ x3_1)
            have c7b0 := eq_true (of_decide_eq_true (by first | (with_reducible assumption) | assumption) : x3_1 ≤ (a0.size : Int))
            replace H := Option.bind_eq_some_iff.mp H
            obtain ⟨t144, A80, H⟩ := H
            replace H : (if t144 ≥ 1048576 then (some false) else (spec_small.l0 k1 a0 (wrap64 (x3_1 + t143)))) = some r := H
            have A8 := Aside0.mk A80
            clear A80
            by_cases c9 : t144 ≥ 1048576
            · rw [if_pos c9] at H
              have c9b0 : decide (1048576 ≤ t144) = true := decide_eq_true c9
              clear c9
              obtain rfl := Option.some.inj H
              go_wp2_with (first | ((with_reducible refine gate_callee (f := 37) rfl ?_); refine goesL_ (some 12) rfl rfl Tryd.func37 (by kernel_rfl) rfl #[.string (a0.extract (x3_1 : Int).toNat a0.size)] rfl (by (try simp only [List.map_toArray, List.map_cons, List.map_nil]); first | done | rfl | (simp only [List.length_drop, List.length_take]; rfl)) ?_; (with_reducible refine (spec_runeLen.calls k1 (a0.extract (x3_1 : Int).toNat a0.size) t143 _ A5.out).mono ?_); rintro e w' ⟨rfl, ⟨nd, rfl⟩⟩; refine ⟨_, rfl, ?_⟩) | ((with_reducible refine gate_callee (f := 38) rfl ?_); refine goesL_ (some 17) rfl rfl Tryd.func38 (by kernel_rfl) rfl #[.string (a0.extract (x3_1 : Int).toNat a0.size), .int .i64 t143] rfl (by (try simp only [List.map_toArray, List.map_cons, List.map_nil]); first | done | rfl | (simp only [List.length_drop, List.length_take]; rfl)) ?_; (with_reducible refine (spec_point.calls (a0.extract (x3_1 : Int).toNat a0.size) t143 t144 _ A8.out).mono ?_); rintro e w' ⟨rfl, ⟨nd, rfl⟩⟩; refine ⟨_, rfl, ?_⟩))
              go_ret
              exact ⟨by first | rfl | (simp; done) | (simp [*]; done), by repeat (first | exact Drawn0.refl _ | apply Drawn0.step)⟩
            · rw [if_neg c9] at H
              have c9b0 : decide (1048576 ≤ t144) = false := decide_eq_false c9
              clear c9
              have H' := Aside0.mk H
              clear H
              go_wp2_with (first | ((with_reducible refine gate_callee (f := 37) rfl ?_); refine goesL_ (some 12) rfl rfl Tryd.func37 (by kernel_rfl) rfl #[.string (a0.extract (x3_1 : Int).toNat a0.size)] rfl (by (try simp only [List.map_toArray, List.map_cons, List.map_nil]); first | done | rfl | (simp only [List.length_drop, List.length_take]; rfl)) ?_; (with_reducible refine (spec_runeLen.calls k1 (a0.extract (x3_1 : Int).toNat a0.size) t143 _ A5.out).mono ?_); rintro e w' ⟨rfl, ⟨nd, rfl⟩⟩; refine ⟨_, rfl, ?_⟩) | ((with_reducible refine gate_callee (f := 38) rfl ?_); refine goesL_ (some 17) rfl rfl Tryd.func38 (by kernel_rfl) rfl #[.string (a0.extract (x3_1 : Int).toNat a0.size), .int .i64 t143] rfl (by (try simp only [List.map_toArray, List.map_cons, List.map_nil]); first | done | rfl | (simp only [List.length_drop, List.length_take]; rfl)) ?_; (with_reducible refine (spec_point.calls (a0.extract (x3_1 : Int).toNat a0.size) t143 t144 _ A8.out).mono ?_); rintro e w' ⟨rfl, ⟨nd, rfl⟩⟩; refine ⟨_, rfl, ?_⟩))
              go_roundg k1
              case measure => have := HK1.out; omega
              case rel => exact ⟨(wrap64 (x3_1 + t143)), (by first | rfl | (simp; done) | (simp [*]; done)), H', ⟨by have := HK1.out; omega⟩, by repeat (first | exact Drawn0.refl _ | apply Drawn0.step)⟩
          · rw [if_neg c4] at H
            exact absurd H (by simp)
        · rw [if_neg c3] at H
          exact absurd H (by simp)
      · rw [if_neg c2] at H
        have c2b0 : decide (x3_1 < (a0.size : Int)) = false := decide_eq_false c2
        clear c2
        obtain rfl := Option.some.inj H
        go_wp2
        go_ret
        exact ⟨by first | rfl | (simp; done) | (simp [*]; done), by repeat (first | exact Drawn0.refl _ | apply Drawn0.step)⟩

/-! ### spec_letter: function 39 -/
def spec_letter.f (a0 : Int) : Option (Bool) := if a0 ≥ 97 then (if a0 ≤ 122 then (some true) else (if a0 ≥ 65 then (if a0 ≤ 90 then (some true) else (some (a0 == 95))) else (some (a0 == 95)))) else (if a0 ≥ 65 then (if a0 ≤ 90 then (some true) else (some (a0 == 95))) else (some (a0 == 95)))
set_option maxHeartbeats 8000000 in
set_option maxRecDepth 100000 in
theorem spec_letter.calls (a0 : Int) (r : Bool) (w : World) (h : spec_letter.f a0 = some r) :
    Calls Tryd.prog 39 #[.int .u8 a0] w fun e w' => e = .returned (.bool r) ∧ Drawn0 w w' := by
  have H : (if a0 ≥ 97 then (if a0 ≤ 122 then (some true) else (if a0 ≥ 65 then (if a0 ≤ 90 then (some true) else (some (a0 == 95))) else (some (a0 == 95)))) else (if a0 ≥ 65 then (if a0 ≤ 90 then (some true) else (some (a0 == 95))) else (some (a0 == 95)))) = some r := h
  clear h
  by_cases c2 : a0 ≥ 97
  · rw [if_pos c2] at H
    have c2b0 : decide (97 ≤ a0) = true := decide_eq_true c2
    clear c2
    by_cases c3 : a0 ≤ 122
    · rw [if_pos c3] at H
      have c3b0 : decide (a0 ≤ 122) = true := decide_eq_true c3
      clear c3
      obtain rfl := Option.some.inj H
      go_enter Tryd.func39, Tryd.ntmps39
      go_wp2
      go_ret
      exact ⟨by first | rfl | (simp; done) | (simp [*]; done), by repeat (first | exact Drawn0.refl _ | apply Drawn0.step)⟩
    · rw [if_neg c3] at H
      have c3b0 : decide (a0 ≤ 122) = false := decide_eq_false c3
      clear c3
      by_cases c4 : a0 ≥ 65
      · rw [if_pos c4] at H
        have c4b0 : decide (65 ≤ a0) = true := decide_eq_true c4
        clear c4
        by_cases c5 : a0 ≤ 90
        · rw [if_pos c5] at H
          have c5b0 : decide (a0 ≤ 90) = true := decide_eq_true c5
          clear c5
          obtain rfl := Option.some.inj H
          go_enter Tryd.func39, Tryd.ntmps39
          go_wp2
          go_ret
          exact ⟨by first | rfl | (simp; done) | (simp [*]; done), by repeat (first | exact Drawn0.refl _ | apply Drawn0.step)⟩
        · rw [if_neg c5] at H
          have c5b0 : decide (a0 ≤ 90) = false := decide_eq_false c5
          clear c5
          obtain rfl := Option.some.inj H
          go_enter Tryd.func39, Tryd.ntmps39
          go_wp2
          go_ret
          exact ⟨by first | rfl | (simp; done) | (simp [*]; done), by repeat (first | exact Drawn0.refl _ | apply Drawn0.step)⟩
      · rw [if_neg c4] at H
        have c4b0 : decide (65 ≤ a0) = false := decide_eq_false c4
        clear c4
        obtain rfl := Option.some.inj H
        go_enter Tryd.func39, Tryd.ntmps39
        go_wp2
        go_ret
        exact ⟨by first | rfl | (simp; done) | (simp [*]; done), by repeat (first | exact Drawn0.refl _ | apply Drawn0.step)⟩
  · rw [if_neg c2] at H
    have c2b0 : decide (97 ≤ a0) = false := decide_eq_false c2
    clear c2
    by_cases c6 : a0 ≥ 65
    · rw [if_pos c6] at H
      have c6b0 : decide (65 ≤ a0) = true := decide_eq_true c6
      clear c6
      by_cases c7 : a0 ≤ 90
      · rw [if_pos c7] at H
        have c7b0 : decide (a0 ≤ 90) = true := decide_eq_true c7
        clear c7
        obtain rfl := Option.some.inj H
        go_enter Tryd.func39, Tryd.ntmps39
        go_wp2
        go_ret
        exact ⟨by first | rfl | (simp; done) | (simp [*]; done), by repeat (first | exact Drawn0.refl _ | apply Drawn0.step)⟩
      · rw [if_neg c7] at H
        have c7b0 : decide (a0 ≤ 90) = false := decide_eq_false c7
        clear c7
        obtain rfl := Option.some.inj H
        go_enter Tryd.func39, Tryd.ntmps39
        go_wp2
        go_ret
        exact ⟨by first | rfl | (simp; done) | (simp [*]; done), by repeat (first | exact Drawn0.refl _ | apply Drawn0.step)⟩
    · rw [if_neg c6] at H
      have c6b0 : decide (65 ≤ a0) = false := decide_eq_false c6
      clear c6
      obtain rfl := Option.some.inj H
      go_enter Tryd.func39, Tryd.ntmps39
      go_wp2
      go_ret
      exact ⟨by first | rfl | (simp; done) | (simp [*]; done), by repeat (first | exact Drawn0.refl _ | apply Drawn0.step)⟩

/-! ### spec_digit: function 40 -/
def spec_digit.f (a0 : Int) : Option (Bool) := if a0 ≥ 48 then (some (decide (a0 ≤ 57))) else (some false)
set_option maxHeartbeats 8000000 in
set_option maxRecDepth 100000 in
theorem spec_digit.calls (a0 : Int) (r : Bool) (w : World) (h : spec_digit.f a0 = some r) :
    Calls Tryd.prog 40 #[.int .u8 a0] w fun e w' => e = .returned (.bool r) ∧ Drawn0 w w' := by
  have H : (if a0 ≥ 48 then (some (decide (a0 ≤ 57))) else (some false)) = some r := h
  clear h
  by_cases c2 : a0 ≥ 48
  · rw [if_pos c2] at H
    have c2b0 : decide (48 ≤ a0) = true := decide_eq_true c2
    clear c2
    obtain rfl := Option.some.inj H
    go_enter Tryd.func40, Tryd.ntmps40
    go_wp2
    go_ret
    exact ⟨by first | rfl | (simp; done) | (simp [*]; done), by repeat (first | exact Drawn0.refl _ | apply Drawn0.step)⟩
  · rw [if_neg c2] at H
    have c2b0 : decide (48 ≤ a0) = false := decide_eq_false c2
    clear c2
    obtain rfl := Option.some.inj H
    go_enter Tryd.func40, Tryd.ntmps40
    go_wp2
    go_ret
    exact ⟨by first | rfl | (simp; done) | (simp [*]; done), by repeat (first | exact Drawn0.refl _ | apply Drawn0.step)⟩

/-! ### spec_LegacyMetric: function 23 -/
def spec_LegacyMetric.l0 : Nat → ByteArray → Int → Option (Bool)
  | 0, _, _ => none
  | k + 1, x0, x3 => if x3 < (x0.size : Int) then (if 0 ≤ x3 then ((spec_letter.f (bt x0 x3)).bind fun t145 => (if t145 = true then (spec_LegacyMetric.l0 k x0 (wrap64 (x3 + 1))) else (if (bt x0 x3) = 58 then (spec_LegacyMetric.l0 k x0 (wrap64 (x3 + 1))) else (if x3 = 0 then (some false) else ((spec_digit.f (bt x0 x3)).bind fun t146 => (if t146 = true then (spec_LegacyMetric.l0 k x0 (wrap64 (x3 + 1))) else (some false))))))) else (none)) else (some (decide ((x0.size : Int) > 0)))
def spec_LegacyMetric.f (k : Nat) (a0 : ByteArray) : Option (Bool) := spec_LegacyMetric.l0 k a0 0
theorem spec_LegacyMetric.mono_l : ∀ k, (∀ y0 y1, LeO (spec_LegacyMetric.l0 k y0 y1) (spec_LegacyMetric.l0 (k + 1) y0 y1))
  | 0 => fun _ _ r h => by simp [spec_LegacyMetric.l0] at h
  | k + 1 => by
    have ih0 := spec_LegacyMetric.mono_l k
    · intro y0 y1
      unfold spec_LegacyMetric.l0
      repeat' first
      | (with_reducible exact ih0 _ _)
      | (with_reducible exact LeO.refl _)
      | (with_reducible exact LeO.none _)
      | (with_reducible refine LeO.ite ?_ ?_)
      | (with_reducible refine LeO.bind ?_ (fun _ => ?_))
      | exact ih0 _ _
      | exact LeO.none _
      | refine LeO.ite ?_ ?_
      | refine LeO.bind ?_ (fun _ => ?_)
theorem spec_LegacyMetric.mono : ∀ a0 k, LeO (spec_LegacyMetric.f k a0) (spec_LegacyMetric.f (k + 1) a0) := by
  intro a0 k
  have ih0 := spec_LegacyMetric.mono_l k
  unfold spec_LegacyMetric.f
  repeat' first
      | (with_reducible exact ih0 _ _)
      | (with_reducible exact LeO.refl _)
      | (with_reducible exact LeO.none _)
      | (with_reducible refine LeO.ite ?_ ?_)
      | (with_reducible refine LeO.bind ?_ (fun _ => ?_))
      | exact ih0 _ _
      | exact LeO.none _
      | refine LeO.ite ?_ ?_
      | refine LeO.bind ?_ (fun _ => ?_)
set_option maxHeartbeats 8000000 in
set_option maxRecDepth 100000 in
theorem spec_LegacyMetric.calls (k : Nat) (a0 : ByteArray) (r : Bool) (w : World) (h : spec_LegacyMetric.f k a0 = some r) :
    Calls Tryd.prog 23 #[.string a0] w fun e w' => e = .returned (.bool r) ∧ Drawn0 w w' := by
  have H : (spec_LegacyMetric.l0 k a0 0) = some r := h
  clear h
  have H' := Aside0.mk H
  clear H
  go_enter Tryd.func23, Tryd.ntmps23
  go_wp2
  go_loopg [3] k (fun kq v3 w' => ∃ (x3_1 : Int), v3 = .int .i64 x3_1 ∧ Aside0 (spec_LegacyMetric.l0 kq a0 x3_1 = some r) ∧ Aside0 (kq ≤ k) ∧ Drawn0 w w')
  case atStart => exact ⟨(0), (by first | rfl | (simp; done) | (simp [*]; done)), H', ⟨Nat.le_refl _⟩, by repeat (first | exact Drawn0.refl _ | apply Drawn0.step)⟩
  case round =>
    clear H'
    obtain ⟨x3_1, rfl, HA, HK1, ⟨m1, rfl⟩⟩ := hrel
    cases gk with
    | zero => exact absurd HA.out (by simp [spec_LegacyMetric.l0])
    | succ k1 =>
      have H := HA.out
      clear HA
      simp only [spec_LegacyMetric.l0] at H
      by_cases c2 : x3_1 < (a0.size : Int)
      · rw [if_pos c2] at H
        have c2b0 : decide (x3_1 < (a0.size : Int)) = true := decide_eq_true c2
        clear c2
        by_cases c3 : 0 ≤ x3_1
        · rw [if_pos c3] at H
          have c3b0 : decide (0 ≤ x3_1) = true := decide_eq_true c3
          clear c3
          replace H := Option.bind_eq_some_iff.mp H
          obtain ⟨t145, A50, H⟩ := H
          replace H : (if t145 = true then (spec_LegacyMetric.l0 k1 a0 (wrap64 (x3_1 + 1))) else (if (bt a0 x3_1) = 58 then (spec_LegacyMetric.l0 k1 a0 (wrap64 (x3_1 + 1))) else (if x3_1 = 0 then (some false) else ((spec_digit.f (bt a0 x3_1)).bind fun t146 => (if t146 = true then (spec_LegacyMetric.l0 k1 a0 (wrap64 (x3_1 + 1))) else (some false)))))) = some r := H
          have A5 := Aside0.mk A50
          clear A50
          by_cases c6 : t145 = true
          · subst c6
            have H1 : (spec_LegacyMetric.l0 k1 a0 (wrap64 (x3_1 + 1))) = some r := by rw [if_pos rfl] at H; exact H
            clear H
            have H := H1
            clear H1
            have H' := Aside0.mk H
            clear H
            have p4 : 0 ≤ (x3_1 : Int) := of_decide_eq_true (by first | (with_reducible assumption) | assumption)
            have q4 : x3_1 < (a0.size : Int) := of_decide_eq_true (by first | (with_reducible assumption) | assumption)
            have hx4 := bt_at a0 x3_1
            replace p4 := eq_true p4
            replace q4 := eq_true q4
            go_wp2_with (first | ((with_reducible refine gate_callee (f := 39) rfl ?_); refine goesL_ (some 13) rfl rfl Tryd.func39 (by kernel_rfl) rfl #[.int .u8 (bt a0 x3_1)] rfl (by (try simp only [List.map_toArray, List.map_cons, List.map_nil]); first | done | rfl | (simp only [List.length_drop, List.length_take]; rfl)) ?_; (with_reducible refine (spec_letter.calls (bt a0 x3_1) true _ A5.out).mono ?_); rintro e w' ⟨rfl, ⟨nd, rfl⟩⟩; refine ⟨_, rfl, ?_⟩))
            go_roundg k1
            case measure => have := HK1.out; omega
            case rel => exact ⟨(wrap64 (x3_1 + 1)), (by first | rfl | (simp; done) | (simp [*]; done)), H', ⟨by have := HK1.out; omega⟩, by repeat (first | exact Drawn0.refl _ | apply Drawn0.step)⟩
          · replace c6 := Bool.eq_false_iff.mpr c6
            subst c6
            have H1 : (if (bt a0 x3_1) = 58 then (spec_LegacyMetric.l0 k1 a0 (wrap64 (x3_1 + 1))) else (if x3_1 = 0 then (some false) else ((spec_digit.f (bt a0 x3_1)).bind fun t146 => (if t146 = true then (spec_LegacyMetric.l0 k1 a0 (wrap64 (x3_1 + 1))) else (some false))))) = some r := by rw [if_neg (show ¬ (false = true) by decide)] at H; exact H
            clear H
            have H := H1
            clear H1
            by_cases c8 : (bt a0 x3_1) = 58
            · rw [if_pos c8] at H
              have c8b0 : ((bt a0 x3_1) == 58) = true := beq_iff_eq.mpr c8
              have c8b1 : ((bt a0 x3_1) != 58) = false := bne_eq_false_iff_eq.mpr c8
              clear c8
              have H' := Aside0.mk H
              clear H
              have p4 : 0 ≤ (x3_1 : Int) := of_decide_eq_true (by first | (with_reducible assumption) | assumption)
              have q4 : x3_1 < (a0.size : Int) := of_decide_eq_true (by first | (with_reducible assumption) | assumption)
              have hx4 := bt_at a0 x3_1
              replace p4 := eq_true p4
              replace q4 := eq_true q4
              go_wp2_with (first | ((with_reducible refine gate_callee (f := 39) rfl ?_); refine goesL_ (some 13) rfl rfl Tryd.func39 (by kernel_rfl) rfl #[.int .u8 (bt a0 x3_1)] rfl (by (try simp only [List.map_toArray, List.map_cons, List.map_nil]); first | done | rfl | (simp only [List.length_drop, List.length_take]; rfl)) ?_; (with_reducible refine (spec_letter.calls (bt a0 x3_1) false _ A5.out).mono ?_); rintro e w' ⟨rfl, ⟨nd, rfl⟩⟩; refine ⟨_, rfl, ?_⟩; have p7 : 0 ≤ (x3_1 : Int) := of_decide_eq_true (by first | (with_reducible assumption) | assumption); have q7 : x3_1 < (a0.size : Int) := of_decide_eq_true (by first | (with_reducible assumption) | assumption); have hx7 := bt_at a0 x3_1; replace p7 := eq_true p7; replace q7 := eq_true q7))
              go_roundg k1
              case measure => have := HK1.out; omega
              case rel => exact ⟨(wrap64 (x3_1 + 1)), (by first | rfl | (simp; done) | (simp [*]; done)), H', ⟨by have := HK1.out; omega⟩, by repeat (first | exact Drawn0.refl _ | apply Drawn0.step)⟩
            · rw [if_neg c8] at H
              have c8b0 : ((bt a0 x3_1) == 58) = false := beq_eq_false_iff_ne.mpr c8
              have c8b1 : ((bt a0 x3_1) != 58) = true := bne_iff_ne.mpr c8
              by_cases c9 : x3_1 = 0
              · rw [if_pos c9] at H
                have c9b0 : (x3_1 == 0) = true := beq_iff_eq.mpr c9
                have c9b1 : (x3_1 != 0) = false := bne_eq_false_iff_eq.mpr c9
                clear c9
                obtain rfl := Option.some.inj H
                have p4 : 0 ≤ (x3_1 : Int) := of_decide_eq_true (by first | (with_reducible assumption) | assumption)
                have q4 : x3_1 < (a0.size : Int) := of_decide_eq_true (by first | (with_reducible assumption) | assumption)
                have hx4 := bt_at a0 x3_1
                replace p4 := eq_true p4
                replace q4 := eq_true q4
                go_wp2_with (first | ((with_reducible refine gate_callee (f := 39) rfl ?_); refine goesL_ (some 13) rfl rfl Tryd.func39 (by kernel_rfl) rfl #[.int .u8 (bt a0 x3_1)] rfl (by (try simp only [List.map_toArray, List.map_cons, List.map_nil]); first | done | rfl | (simp only [List.length_drop, List.length_take]; rfl)) ?_; (with_reducible refine (spec_letter.calls (bt a0 x3_1) false _ A5.out).mono ?_); rintro e w' ⟨rfl, ⟨nd, rfl⟩⟩; refine ⟨_, rfl, ?_⟩; have p7 : 0 ≤ (x3_1 : Int) := of_decide_eq_true (by first | (with_reducible assumption) | assumption); have q7 : x3_1 < (a0.size : Int) := of_decide_eq_true (by first | (with_reducible assumption) | assumption); have hx7 := bt_at a0 x3_1; replace p7 := eq_true p7; replace q7 := eq_true q7))
                go_ret
                exact ⟨by first | rfl | (simp; done) | (simp [*]; done), by repeat (first | exact Drawn0.refl _ | apply Drawn0.step)⟩
              · rw [if_neg c9] at H
                have c9b0 : (x3_1 == 0) = false := beq_eq_false_iff_ne.mpr c9
                have c9b1 : (x3_1 != 0) = true := bne_iff_ne.mpr c9
                replace H := Option.bind_eq_some_iff.mp H
                obtain ⟨t146, A110, H⟩ := H
                replace H : (if t146 = true then (spec_LegacyMetric.l0 k1 a0 (wrap64 (x3_1 + 1))) else (some false)) = some r := H
                have A11 := Aside0.mk A110
                clear A110
                by_cases c12 : t146 = true
                · subst c12
                  have H1 : (spec_LegacyMetric.l0 k1 a0 (wrap64 (x3_1 + 1))) = some r := by rw [if_pos rfl] at H; exact H
                  clear H
                  have H := H1
                  clear H1
                  have H' := Aside0.mk H
                  clear H
                  have p4 : 0 ≤ (x3_1 : Int) := of_decide_eq_true (by first | (with_reducible assumption) | assumption)
                  have q4 : x3_1 < (a0.size : Int) := of_decide_eq_true (by first | (with_reducible assumption) | assumption)
                  have hx4 := bt_at a0 x3_1
                  replace p4 := eq_true p4
                  replace q4 := eq_true q4
                  go_wp2_with (first | ((with_reducible refine gate_callee (f := 39) rfl ?_); refine goesL_ (some 13) rfl rfl Tryd.func39 (by kernel_rfl) rfl #[.int .u8 (bt a0 x3_1)] rfl (by (try simp only [List.map_toArray, List.map_cons, List.map_nil]); first | done | rfl | (simp only [List.length_drop, List.length_take]; rfl)) ?_; (with_reducible refine (spec_letter.calls (bt a0 x3_1) false _ A5.out).mono ?_); rintro e w' ⟨rfl, ⟨nd, rfl⟩⟩; refine ⟨_, rfl, ?_⟩; have p7 : 0 ≤ (x3_1 : Int) := of_decide_eq_true (by first | (with_reducible assumption) | assumption); have q7 : x3_1 < (a0.size : Int) := of_decide_eq_true (by first | (with_reducible assumption) | assumption); have hx7 := bt_at a0 x3_1; replace p7 := eq_true p7; replace q7 := eq_true q7; have p10 : 0 ≤ (x3_1 : Int) := of_decide_eq_true (by first | (with_reducible assumption) | assumption); have q10 : x3_1 < (a0.size : Int) := of_decide_eq_true (by first | (with_reducible assumption) | assumption); have hx10 := bt_at a0 x3_1; replace p10 := eq_true p10; replace q10 := eq_true q10) | (go_at_call 40; (with_reducible refine (spec_digit.calls (bt a0 x3_1) true _ A11.out).mono ?_); rintro e w' ⟨rfl, ⟨nd, rfl⟩⟩))
                  go_roundg k1
                  case measure => have := HK1.out; omega
                  case rel => exact ⟨(wrap64 (x3_1 + 1)), (by first | rfl | (simp; done) | (simp [*]; done)), H', ⟨by have := HK1.out; omega⟩, by repeat (first | exact Drawn0.refl _ | apply Drawn0.step)⟩
                · replace c12 := Bool.eq_false_iff.mpr c12
                  subst c12
                  have H1 : (some false) = some r := by rw [if_neg (show ¬ (false = true) by decide)] at H; exact H
                  clear H
                  have H := H1
                  clear H1
                  obtain rfl := Option.some.inj H
                  have p4 : 0 ≤ (x3_1 : Int) := of_decide_eq_true (by first | (with_reducible assumption) | assumption)
                  have q4 : x3_1 < (a0.size : Int) := of_decide_eq_true (by first | (with_reducible assumption) | assumption)
                  have hx4 := bt_at a0 x3_1
                  replace p4 := eq_true p4
                  replace q4 := eq_true q4
                  go_wp2_with (first | ((with_reducible refine gate_callee (f := 39) rfl ?_); refine goesL_ (some 13) rfl rfl Tryd.func39 (by kernel_rfl) rfl #[.int .u8 (bt a0 x3_1)] rfl (by (try simp only [List.map_toArray, List.map_cons, List.map_nil]); first | done | rfl | (simp only [List.length_drop, List.length_take]; rfl)) ?_; (with_reducible refine (spec_letter.calls (bt a0 x3_1) false _ A5.out).mono ?_); rintro e w' ⟨rfl, ⟨nd, rfl⟩⟩; refine ⟨_, rfl, ?_⟩; have p7 : 0 ≤ (x3_1 : Int) := of_decide_eq_true (by first | (with_reducible assumption) | assumption); have q7 : x3_1 < (a0.size : Int) := of_decide_eq_true (by first | (with_reducible assumption) | assumption); have hx7 := bt_at a0 x3_1; replace p7 := eq_true p7; replace q7 := eq_true q7; have p10 : 0 ≤ (x3_1 : Int) := of_decide_eq_true (by first | (with_reducible assumption) | assumption); have q10 : x3_1 < (a0.size : Int) := of_decide_eq_true (by first | (with_reducible assumption) | assumption); have hx10 := bt_at a0 x3_1; replace p10 := eq_true p10; replace q10 := eq_true q10) | (go_at_call 40; (with_reducible refine (spec_digit.calls (bt a0 x3_1) false _ A11.out).mono ?_); rintro e w' ⟨rfl, ⟨nd, rfl⟩⟩))
                  go_ret
                  exact ⟨by first | rfl | (simp; done) | (simp [*]; done), by repeat (first | exact Drawn0.refl _ | apply Drawn0.step)⟩
        · rw [if_neg c3] at H
          exact absurd H (by simp)
      · rw [if_neg c2] at H
        have c2b0 : decide (x3_1 < (a0.size : Int)) = false := decide_eq_false c2
        clear c2
        obtain rfl := Option.some.inj H
        go_wp2
        go_ret
        exact ⟨by first | rfl | (simp; done) | (simp [*]; done), by repeat (first | exact Drawn0.refl _ | apply Drawn0.step)⟩

/-! ### spec_Begins: function 24 -/
def spec_Begins.f (a0 : ByteArray) (a1 : ByteArray) : Option (Bool) := if (a1.size : Int) ≤ (a0.size : Int) then (if 0 ≤ (a1.size : Int) then (some ((a0.extract 0 ((a1.size : Int) : Int).toNat).toList == a1.toList)) else (none)) else (some false)
set_option maxHeartbeats 8000000 in
set_option maxRecDepth 100000 in
theorem spec_Begins.calls (a0 : ByteArray) (a1 : ByteArray) (r : Bool) (w : World) (h : spec_Begins.f a0 a1 = some r) :
    Calls Tryd.prog 24 #[.string a0, .string a1] w fun e w' => e = .returned (.bool r) ∧ Drawn0 w w' := by
  have H : (if (a1.size : Int) ≤ (a0.size : Int) then (if 0 ≤ (a1.size : Int) then (some ((a0.extract 0 ((a1.size : Int) : Int).toNat).toList == a1.toList)) else (none)) else (some false)) = some r := h
  clear h
  by_cases c3 : (a1.size : Int) ≤ (a0.size : Int)
  · rw [if_pos c3] at H
    have c3b0 : decide ((a1.size : Int) ≤ (a0.size : Int)) = true := decide_eq_true c3
    have c3b1 : decide (a1.size ≤ a0.size) = true := decide_eq_true (Int.ofNat_le.mp c3)
    clear c3
    by_cases c4 : 0 ≤ (a1.size : Int)
    · rw [if_pos c4] at H
      have c4b0 := eq_true c4
      have c4b1 : decide (0 ≤ (a1.size : Int)) = true := decide_eq_true c4
      clear c4
      have c5b0 := eq_true (of_decide_eq_true (by first | (with_reducible assumption) | assumption) : (a1.size : Int) ≤ (a0.size : Int))
      obtain rfl := Option.some.inj H
      go_enter Tryd.func24, Tryd.ntmps24
      go_wp2
      go_ret
      exact ⟨by first | rfl | (simp; done) | (simp [*]; done), by repeat (first | exact Drawn0.refl _ | apply Drawn0.step)⟩
    · rw [if_neg c4] at H
      exact absurd H (by simp)
  · rw [if_neg c3] at H
    have c3b0 : decide ((a1.size : Int) ≤ (a0.size : Int)) = false := decide_eq_false c3
    have c3b1 : decide (a1.size ≤ a0.size) = false := decide_eq_false (fun h => c3 (Int.ofNat_le.mpr h))
    clear c3
    obtain rfl := Option.some.inj H
    go_enter Tryd.func24, Tryd.ntmps24
    go_wp2
    go_ret
    exact ⟨by first | rfl | (simp; done) | (simp [*]; done), by repeat (first | exact Drawn0.refl _ | apply Drawn0.step)⟩

/-! ### spec_Returns: function 15 -/
def spec_Returns.f (k : Nat) (a0 : ByteArray) (a1 : Int) : Option (Bool) := if a1 = 0 then (some true) else (if a1 = 3 then (if a0.toList = ([] : List UInt8) then (some false) else ((spec_Valid.f k a0).bind fun t147 => (if t147 = true then ((spec_small.f k a0).bind fun t148 => (if t148 = true then ((spec_LegacyMetric.f k a0).bind fun t149 => (if t149 = true then ((spec_Begins.f a0 (⟨#[85, 95, 95]⟩ : ByteArray)).bind fun t150 => (some (!t150))) else (some (!false)))) else (some false))) else (some false)))) else (some false))
theorem spec_Returns.mono : ∀ a0 a1 k, LeO (spec_Returns.f k a0 a1) (spec_Returns.f (k + 1) a0 a1) := by
  intro a0 a1 k
  unfold spec_Returns.f
  repeat' first
      | (with_reducible exact spec_LegacyMetric.mono _ _)
      | (with_reducible exact spec_Valid.mono _ _)
      | (with_reducible exact spec_small.mono _ _)
      | (with_reducible exact LeO.refl _)
      | (with_reducible exact LeO.none _)
      | (with_reducible refine LeO.ite ?_ ?_)
      | (with_reducible refine LeO.bind ?_ (fun _ => ?_))
      | exact spec_LegacyMetric.mono _ _
      | exact spec_Valid.mono _ _
      | exact spec_small.mono _ _
      | exact LeO.none _
      | refine LeO.ite ?_ ?_
      | refine LeO.bind ?_ (fun _ => ?_)
set_option maxHeartbeats 8000000 in
set_option maxRecDepth 100000 in
theorem spec_Returns.calls (k : Nat) (a0 : ByteArray) (a1 : Int) (r : Bool) (w : World) (h : spec_Returns.f k a0 a1 = some r) :
    Calls Tryd.prog 15 #[.string a0, .int .i64 a1] w fun e w' => e = .returned (.bool r) ∧ Drawn0 w w' := by
  have H : (if a1 = 0 then (some true) else (if a1 = 3 then (if a0.toList = ([] : List UInt8) then (some false) else ((spec_Valid.f k a0).bind fun t147 => (if t147 = true then ((spec_small.f k a0).bind fun t148 => (if t148 = true then ((spec_LegacyMetric.f k a0).bind fun t149 => (if t149 = true then ((spec_Begins.f a0 (⟨#[85, 95, 95]⟩ : ByteArray)).bind fun t150 => (some (!t150))) else (some (!false)))) else (some false))) else (some false)))) else (some false))) = some r := h
  clear h
  by_cases c3 : a1 = 0
  · rw [if_pos c3] at H
    have c3b0 : (a1 == 0) = true := beq_iff_eq.mpr c3
    have c3b1 : (a1 != 0) = false := bne_eq_false_iff_eq.mpr c3
    clear c3
    obtain rfl := Option.some.inj H
    go_enter Tryd.func15, Tryd.ntmps15
    go_wp2
    go_ret
    exact ⟨by first | rfl | (simp; done) | (simp [*]; done), by repeat (first | exact Drawn0.refl _ | apply Drawn0.step)⟩
  · rw [if_neg c3] at H
    have c3b0 : (a1 == 0) = false := beq_eq_false_iff_ne.mpr c3
    have c3b1 : (a1 != 0) = true := bne_iff_ne.mpr c3
    by_cases c4 : a1 = 3
    · rw [if_pos c4] at H
      have c4b0 : (a1 == 3) = true := beq_iff_eq.mpr c4
      have c4b1 : (a1 != 3) = false := bne_eq_false_iff_eq.mpr c4
      clear c4
      by_cases c5 : a0.toList = ([] : List UInt8)
      · rw [if_pos c5] at H
        have c5b0 : (a0.toList == ([] : List UInt8)) = true := beq_iff_eq.mpr c5
        have c5b1 : (a0.toList != ([] : List UInt8)) = false := bne_eq_false_iff_eq.mpr c5
        clear c5
        obtain rfl := Option.some.inj H
        go_enter Tryd.func15, Tryd.ntmps15
        go_wp2
        go_ret
        exact ⟨by first | rfl | (simp; done) | (simp [*]; done), by repeat (first | exact Drawn0.refl _ | apply Drawn0.step)⟩
      · rw [if_neg c5] at H
        have c5b0 : (a0.toList == ([] : List UInt8)) = false := beq_eq_false_iff_ne.mpr c5
        have c5b1 : (a0.toList != ([] : List UInt8)) = true := bne_iff_ne.mpr c5
        replace H := Option.bind_eq_some_iff.mp H
        obtain ⟨t147, A60, H⟩ := H
        replace H : (if t147 = true then ((spec_small.f k a0).bind fun t148 => (if t148 = true then ((spec_LegacyMetric.f k a0).bind fun t149 => (if t149 = true then ((spec_Begins.f a0 (⟨#[85, 95, 95]⟩ : ByteArray)).bind fun t150 => (some (!t150))) else (some (!false)))) else (some false))) else (some false)) = some r := H
        have A6 := Aside0.mk A60
        clear A60
        by_cases c7 : t147 = true
        · subst c7
          have H1 : ((spec_small.f k a0).bind fun t148 => (if t148 = true then ((spec_LegacyMetric.f k a0).bind fun t149 => (if t149 = true then ((spec_Begins.f a0 (⟨#[85, 95, 95]⟩ : ByteArray)).bind fun t150 => (some (!t150))) else (some (!false)))) else (some false))) = some r := by rw [if_pos rfl] at H; exact H
          clear H
          have H := H1
          clear H1
          replace H := Option.bind_eq_some_iff.mp H
          obtain ⟨t148, A80, H⟩ := H
          replace H : (if t148 = true then ((spec_LegacyMetric.f k a0).bind fun t149 => (if t149 = true then ((spec_Begins.f a0 (⟨#[85, 95, 95]⟩ : ByteArray)).bind fun t150 => (some (!t150))) else (some (!false)))) else (some false)) = some r := H
          have A8 := Aside0.mk A80
          clear A80
          by_cases c9 : t148 = true
          · subst c9
            have H1 : ((spec_LegacyMetric.f k a0).bind fun t149 => (if t149 = true then ((spec_Begins.f a0 (⟨#[85, 95, 95]⟩ : ByteArray)).bind fun t150 => (some (!t150))) else (some (!false)))) = some r := by rw [if_pos rfl] at H; exact H
            clear H
            have H := H1
            clear H1
            replace H := Option.bind_eq_some_iff.mp H
            obtain ⟨t149, A100, H⟩ := H
            replace H : (if t149 = true then ((spec_Begins.f a0 (⟨#[85, 95, 95]⟩ : ByteArray)).bind fun t150 => (some (!t150))) else (some (!false))) = some r := H
            have A10 := Aside0.mk A100
            clear A100
            by_cases c11 : t149 = true
            · subst c11
              have H1 : ((spec_Begins.f a0 (⟨#[85, 95, 95]⟩ : ByteArray)).bind fun t150 => (some (!t150))) = some r := by rw [if_pos rfl] at H; exact H
              clear H
              have H := H1
              clear H1
              replace H := Option.bind_eq_some_iff.mp H
              obtain ⟨t150, A120, H⟩ := H
              replace H : (some (!t150)) = some r := H
              have A12 := Aside0.mk A120
              clear A120
              obtain rfl := Option.some.inj H
              go_enter Tryd.func15, Tryd.ntmps15
              go_wp2_with (first | (go_at_call 21; (with_reducible refine (spec_Valid.calls k a0 true _ A6.out).mono ?_); rintro e w' ⟨rfl, ⟨nd, rfl⟩⟩) | (go_at_call 22; (with_reducible refine (spec_small.calls k a0 true _ A8.out).mono ?_); rintro e w' ⟨rfl, ⟨nd, rfl⟩⟩) | (go_at_call 23; (with_reducible refine (spec_LegacyMetric.calls k a0 true _ A10.out).mono ?_); rintro e w' ⟨rfl, ⟨nd, rfl⟩⟩) | (go_at_call 24; (with_reducible refine (spec_Begins.calls a0 (⟨#[85, 95, 95]⟩ : ByteArray) t150 _ A12.out).mono ?_); rintro e w' ⟨rfl, ⟨nd, rfl⟩⟩))
              go_ret
              exact ⟨by first | rfl | (simp; done) | (simp [*]; done), by repeat (first | exact Drawn0.refl _ | apply Drawn0.step)⟩
            · replace c11 := Bool.eq_false_iff.mpr c11
              subst c11
              have H1 : (some (!false)) = some r := by rw [if_neg (show ¬ (false = true) by decide)] at H; exact H
              clear H
              have H := H1
              clear H1
              obtain rfl := Option.some.inj H
              go_enter Tryd.func15, Tryd.ntmps15
              go_wp2_with (first | (go_at_call 21; (with_reducible refine (spec_Valid.calls k a0 true _ A6.out).mono ?_); rintro e w' ⟨rfl, ⟨nd, rfl⟩⟩) | (go_at_call 22; (with_reducible refine (spec_small.calls k a0 true _ A8.out).mono ?_); rintro e w' ⟨rfl, ⟨nd, rfl⟩⟩) | (go_at_call 23; (with_reducible refine (spec_LegacyMetric.calls k a0 false _ A10.out).mono ?_); rintro e w' ⟨rfl, ⟨nd, rfl⟩⟩))
              go_ret
              exact ⟨by first | rfl | (simp; done) | (simp [*]; done), by repeat (first | exact Drawn0.refl _ | apply Drawn0.step)⟩
          · replace c9 := Bool.eq_false_iff.mpr c9
            subst c9
            have H1 : (some false) = some r := by rw [if_neg (show ¬ (false = true) by decide)] at H; exact H
            clear H
            have H := H1
            clear H1
            obtain rfl := Option.some.inj H
            go_enter Tryd.func15, Tryd.ntmps15
            go_wp2_with (first | (go_at_call 21; (with_reducible refine (spec_Valid.calls k a0 true _ A6.out).mono ?_); rintro e w' ⟨rfl, ⟨nd, rfl⟩⟩) | (go_at_call 22; (with_reducible refine (spec_small.calls k a0 false _ A8.out).mono ?_); rintro e w' ⟨rfl, ⟨nd, rfl⟩⟩))
            go_ret
            exact ⟨by first | rfl | (simp; done) | (simp [*]; done), by repeat (first | exact Drawn0.refl _ | apply Drawn0.step)⟩
        · replace c7 := Bool.eq_false_iff.mpr c7
          subst c7
          have H1 : (some false) = some r := by rw [if_neg (show ¬ (false = true) by decide)] at H; exact H
          clear H
          have H := H1
          clear H1
          obtain rfl := Option.some.inj H
          go_enter Tryd.func15, Tryd.ntmps15
          go_wp2_with (first | (go_at_call 21; (with_reducible refine (spec_Valid.calls k a0 false _ A6.out).mono ?_); rintro e w' ⟨rfl, ⟨nd, rfl⟩⟩))
          go_ret
          exact ⟨by first | rfl | (simp; done) | (simp [*]; done), by repeat (first | exact Drawn0.refl _ | apply Drawn0.step)⟩
    · rw [if_neg c4] at H
      have c4b0 : (a1 == 3) = false := beq_eq_false_iff_ne.mpr c4
      have c4b1 : (a1 != 3) = true := bne_iff_ne.mpr c4
      obtain rfl := Option.some.inj H
      go_enter Tryd.func15, Tryd.ntmps15
      go_wp2
      go_ret
      exact ⟨by first | rfl | (simp; done) | (simp [*]; done), by repeat (first | exact Drawn0.refl _ | apply Drawn0.step)⟩

end Go.Proofs.YtnjghpoeokfekaaDoor.Q
