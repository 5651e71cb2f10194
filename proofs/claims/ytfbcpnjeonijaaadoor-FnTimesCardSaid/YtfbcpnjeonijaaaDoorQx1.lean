-- printed by this project's own program wip/tools/mkprint.py (the kit's print.py with hand-proved contracts put in)
import Derived.Test.YtfbcpnjeonijaaaDoorQx0
namespace Go.Proofs.YtfbcpnjeonijaaaDoor.Q
open Go.RowKit Go.Proofs.YtfbcpnjeonijaaaDoorW.PrintWords Go.Proofs.YtfbcpnjeonijaaaDoorW.PrintLast Go.Proofs.YtfbcpnjeonijaaaDoorW.PrintMore
attribute [local go_sem] max2_int min2_int max_two min_two max_three min_three max_four min_four   -- for this text's walks alone
set_option linter.unusedVariables false
set_option linter.unusedSimpArgs false

/-! ### laws_long: function 4 -/
def laws_long.f (a0 : ByteArray) : Option (Bool) := some (decide ((a0.size : Int) > 65536))
set_option maxHeartbeats 8000000 in
set_option maxRecDepth 100000 in
theorem laws_long.calls (a0 : ByteArray) (r : Bool) (w : World) (h : laws_long.f a0 = some r) :
    Calls Tryd.prog 4 #[.string a0] w fun e w' => e = .returned (.bool r) ∧ Drawn0 w w' := by
  have H : (some (decide ((a0.size : Int) > 65536))) = some r := h
  clear h
  obtain rfl := Option.some.inj H
  go_enter Tryd.func4, Tryd.ntmps4
  go_wp2
  go_ret
  exact ⟨by first | rfl | (simp; done) | (simp [*]; done), by repeat (first | exact Drawn0.refl _ | apply Drawn0.step)⟩

-- NOT PRINTED: function 13 (errors_New)

/-! ### timeinterval_zzDigit: function 18 -/
def timeinterval_zzDigit.f (a0 : Int) (a1 : Int) (a2 : Int) : Option (Bool) := if a0 ≥ a1 then (some (decide (a0 ≤ a2))) else (some false)
set_option maxHeartbeats 8000000 in
set_option maxRecDepth 100000 in
theorem timeinterval_zzDigit.calls (a0 : Int) (a1 : Int) (a2 : Int) (r : Bool) (w : World) (h : timeinterval_zzDigit.f a0 a1 a2 = some r) :
    Calls Tryd.prog 18 #[.int .u8 a0, .int .u8 a1, .int .u8 a2] w fun e w' => e = .returned (.bool r) ∧ Drawn0 w w' := by
  have H : (if a0 ≥ a1 then (some (decide (a0 ≤ a2))) else (some false)) = some r := h
  clear h
  by_cases c4 : a0 ≥ a1
  · rw [if_pos c4] at H
    have c4b0 : decide (a1 ≤ a0) = true := decide_eq_true c4
    clear c4
    obtain rfl := Option.some.inj H
    go_enter Tryd.func18, Tryd.ntmps18
    go_wp2
    go_ret
    exact ⟨by first | rfl | (simp; done) | (simp [*]; done), by repeat (first | exact Drawn0.refl _ | apply Drawn0.step)⟩
  · rw [if_neg c4] at H
    have c4b0 : decide (a1 ≤ a0) = false := decide_eq_false c4
    clear c4
    obtain rfl := Option.some.inj H
    go_enter Tryd.func18, Tryd.ntmps18
    go_wp2
    go_ret
    exact ⟨by first | rfl | (simp; done) | (simp [*]; done), by repeat (first | exact Drawn0.refl _ | apply Drawn0.step)⟩

/-! ### timeinterval_zzValidTime: function 15 -/
def timeinterval_zzValidTime.j0 : Nat → ByteArray → Bool → Option (Bool)
  | 0, _, _ => none
  | k + 1, x0, x24 => if x24 = true then (some false) else (if 0 < (x0.size : Int) then ((timeinterval_zzDigit.f (bt x0 0) 48 49).bind fun t104 => (if t104 = true then (if 1 < (x0.size : Int) then ((timeinterval_zzDigit.f (bt x0 1) 48 57).bind fun t105 => (if t105 = true then (some true) else (if (bt x0 0) = 50 then ((timeinterval_zzDigit.f (bt x0 1) 48 51).bind fun t106 => (some t106)) else (some false)))) else (none)) else (if (bt x0 0) = 50 then (if 1 < (x0.size : Int) then ((timeinterval_zzDigit.f (bt x0 1) 48 51).bind fun t107 => (some t107)) else (none)) else (some false)))) else (none))
def timeinterval_zzValidTime.f (k : Nat) (a0 : ByteArray) : Option (Bool) := if a0.toList = ([50, 52, 58, 48, 48] : List UInt8) then (some true) else (if (a0.size : Int) = 5 then (if 2 < (a0.size : Int) then (if (bt a0 2) = 58 then (if 3 < (a0.size : Int) then ((timeinterval_zzDigit.f (bt a0 3) 48 53).bind fun t102 => (if t102 = true then (if 4 < (a0.size : Int) then ((timeinterval_zzDigit.f (bt a0 4) 48 57).bind fun t103 => (timeinterval_zzValidTime.j0 k a0 (!t103))) else (none)) else (timeinterval_zzValidTime.j0 k a0 true))) else (none)) else (timeinterval_zzValidTime.j0 k a0 true)) else (none)) else (timeinterval_zzValidTime.j0 k a0 true))
theorem timeinterval_zzValidTime.mono_l : ∀ k, (∀ y0 y1, LeO (timeinterval_zzValidTime.j0 k y0 y1) (timeinterval_zzValidTime.j0 (k + 1) y0 y1))
  | 0 => fun _ _ r h => by simp [timeinterval_zzValidTime.j0] at h
  | k + 1 => by
    have ih0 := timeinterval_zzValidTime.mono_l k
    · intro y0 y1
      unfold timeinterval_zzValidTime.j0
      repeat' first
      | (with_reducible exact ih0 _ _)
      | (with_reducible exact LeO.refl _)
      | (with_reducible exact LeO.none _)
      | (with_reducible refine LeO.ite ?_ ?_)
      | (with_reducible refine LeO.bind ?_ (fun _ => ?_))
      | exact ih0 _ _
      | exact LeO.none _
      | refine LeO.ite ?_ ?_
      | refine LeO.bind ?_ (fun _ => ?_)
theorem timeinterval_zzValidTime.mono : ∀ a0 k, LeO (timeinterval_zzValidTime.f k a0) (timeinterval_zzValidTime.f (k + 1) a0) := by
  intro a0 k
  have ih0 := timeinterval_zzValidTime.mono_l k
  unfold timeinterval_zzValidTime.f
  repeat' first
      | (with_reducible exact ih0 _ _)
      | (with_reducible exact LeO.refl _)
      | (with_reducible exact LeO.none _)
      | (with_reducible refine LeO.ite ?_ ?_)
      | (with_reducible refine LeO.bind ?_ (fun _ => ?_))
      | exact ih0 _ _
      | exact LeO.none _
      | refine LeO.ite ?_ ?_
      | refine LeO.bind ?_ (fun _ => ?_)
set_option maxHeartbeats 8000000 in
set_option maxRecDepth 100000 in
theorem timeinterval_zzValidTime.calls (k : Nat) (a0 : ByteArray) (r : Bool) (w : World) (h : timeinterval_zzValidTime.f k a0 = some r) :
    Calls Tryd.prog 15 #[.string a0] w fun e w' => e = .returned (.bool r) ∧ Drawn0 w w' := by
  have H : (if a0.toList = ([50, 52, 58, 48, 48] : List UInt8) then (some true) else (if (a0.size : Int) = 5 then (if 2 < (a0.size : Int) then (if (bt a0 2) = 58 then (if 3 < (a0.size : Int) then ((timeinterval_zzDigit.f (bt a0 3) 48 53).bind fun t102 => (if t102 = true then (if 4 < (a0.size : Int) then ((timeinterval_zzDigit.f (bt a0 4) 48 57).bind fun t103 => (timeinterval_zzValidTime.j0 k a0 (!t103))) else (none)) else (timeinterval_zzValidTime.j0 k a0 true))) else (none)) else (timeinterval_zzValidTime.j0 k a0 true)) else (none)) else (timeinterval_zzValidTime.j0 k a0 true))) = some r := h
  clear h
  by_cases c2 : a0.toList = ([50, 52, 58, 48, 48] : List UInt8)
  · rw [if_pos c2] at H
    have c2b0 : (a0.toList == ([50, 52, 58, 48, 48] : List UInt8)) = true := beq_iff_eq.mpr c2
    have c2b1 : (a0.toList != ([50, 52, 58, 48, 48] : List UInt8)) = false := bne_eq_false_iff_eq.mpr c2
    clear c2
    obtain rfl := Option.some.inj H
    go_enter Tryd.func15, Tryd.ntmps15
    go_wp2
    go_ret
    exact ⟨by first | rfl | (simp; done) | (simp [*]; done), by repeat (first | exact Drawn0.refl _ | apply Drawn0.step)⟩
  · rw [if_neg c2] at H
    have c2b0 : (a0.toList == ([50, 52, 58, 48, 48] : List UInt8)) = false := beq_eq_false_iff_ne.mpr c2
    have c2b1 : (a0.toList != ([50, 52, 58, 48, 48] : List UInt8)) = true := bne_iff_ne.mpr c2
    have HC3 := Aside0.mk H
    clear H
    go_enter Tryd.func15, Tryd.ntmps15
    go_upto_region 3 with (fail)
    go_cut [24] (fun v24 wc => ∃ (kq : Nat) (x24_2 : Bool), v24 = .bool x24_2 ∧ Aside0 (timeinterval_zzValidTime.j0 kq a0 x24_2 = some r) ∧ Aside0 (kq ≤ k) ∧ Drawn0 w wc)
    case first =>
      have H := HC3.out
      clear HC3
      by_cases c4 : (a0.size : Int) = 5
      · rw [if_pos c4] at H
        have c4b0 : ((a0.size : Int) == 5) = true := beq_iff_eq.mpr c4
        have c4b1 : ((a0.size : Int) != 5) = false := bne_eq_false_iff_eq.mpr c4
        clear c4
        (first | rw [c4b0] | (simp only [i64_w, i32_w]; rw [c4b0]) | skip)
        by_cases c5 : 2 < (a0.size : Int)
        · rw [if_pos c5] at H
          have c5b0 : decide (2 < (a0.size : Int)) = true := decide_eq_true c5
          have c5b1 : decide (2 < a0.size) = true := decide_eq_true (by omega)
          clear c5
          by_cases c7 : (bt a0 2) = 58
          · rw [if_pos c7] at H
            have c7b0 : ((bt a0 2) == 58) = true := beq_iff_eq.mpr c7
            have c7b1 : ((bt a0 2) != 58) = false := bne_eq_false_iff_eq.mpr c7
            clear c7
            by_cases c8 : 3 < (a0.size : Int)
            · rw [if_pos c8] at H
              have c8b0 : decide (3 < (a0.size : Int)) = true := decide_eq_true c8
              have c8b1 : decide (3 < a0.size) = true := decide_eq_true (by omega)
              clear c8
              replace H := Option.bind_eq_some_iff.mp H
              obtain ⟨t102, A100, H⟩ := H
              replace H : (if t102 = true then (if 4 < (a0.size : Int) then ((timeinterval_zzDigit.f (bt a0 4) 48 57).bind fun t103 => (timeinterval_zzValidTime.j0 k a0 (!t103))) else (none)) else (timeinterval_zzValidTime.j0 k a0 true)) = some r := H
              have A10 := Aside0.mk A100
              clear A100
              by_cases c11 : t102 = true
              · subst c11
                have H1 : (if 4 < (a0.size : Int) then ((timeinterval_zzDigit.f (bt a0 4) 48 57).bind fun t103 => (timeinterval_zzValidTime.j0 k a0 (!t103))) else (none)) = some r := by rw [if_pos rfl] at H; exact H
                clear H
                have H := H1
                clear H1
                by_cases c12 : 4 < (a0.size : Int)
                · rw [if_pos c12] at H
                  have c12b0 : decide (4 < (a0.size : Int)) = true := decide_eq_true c12
                  have c12b1 : decide (4 < a0.size) = true := decide_eq_true (by omega)
                  clear c12
                  replace H := Option.bind_eq_some_iff.mp H
                  obtain ⟨t103, A140, H⟩ := H
                  replace H : (timeinterval_zzValidTime.j0 k a0 (!t103)) = some r := H
                  have A14 := Aside0.mk A140
                  clear A140
                  have H' := Aside0.mk H
                  clear H
                  have p6 : 0 ≤ (2 : Int) := (by omega)
                  have q6 : 2 < a0.size := (by have : (2 : Int) < (a0.size : Int) := of_decide_eq_true (by first | (with_reducible assumption) | assumption); omega)
                  have hx6 : ∀ h : 2 < a0.size, ((a0[2]'h).toNat : Int) = bt a0 2 := bt_at a0 2
                  clear p6
                  have qi6 : (2 < (a0.size : Int)) = True := eq_true (of_decide_eq_true (by first | (with_reducible assumption) | assumption))
                  replace q6 := eq_true q6
                  have p9 : 0 ≤ (3 : Int) := (by omega)
                  have q9 : 3 < a0.size := (by have : (3 : Int) < (a0.size : Int) := of_decide_eq_true (by first | (with_reducible assumption) | assumption); omega)
                  have hx9 : ∀ h : 3 < a0.size, ((a0[3]'h).toNat : Int) = bt a0 3 := bt_at a0 3
                  clear p9
                  have qi9 : (3 < (a0.size : Int)) = True := eq_true (of_decide_eq_true (by first | (with_reducible assumption) | assumption))
                  replace q9 := eq_true q9
                  go_wp2_with (first | (go_at_call 18; (with_reducible refine (timeinterval_zzDigit.calls (bt a0 3) 48 53 true _ A10.out).mono ?_); rintro e w' ⟨rfl, ⟨nd, rfl⟩⟩; have p13 : 0 ≤ (4 : Int) := (by omega); have q13 : 4 < a0.size := (by have : (4 : Int) < (a0.size : Int) := of_decide_eq_true (by first | (with_reducible assumption) | assumption); omega); have hx13 : ∀ h : 4 < a0.size, ((a0[4]'h).toNat : Int) = bt a0 4 := bt_at a0 4; clear p13; have qi13 : (4 < (a0.size : Int)) = True := eq_true (of_decide_eq_true (by first | (with_reducible assumption) | assumption)); replace q13 := eq_true q13) | (go_at_call 18; (with_reducible refine (timeinterval_zzDigit.calls (bt a0 4) 48 57 t103 _ A14.out).mono ?_); rintro e w' ⟨rfl, ⟨nd, rfl⟩⟩))
                  go_meet
                  case rel => exact ⟨_, (!t103), (by first | rfl | (simp; done) | (simp [*]; done)), H', ⟨by first | omega | exact Nat.le_refl _⟩, by repeat (first | exact Drawn0.refl _ | apply Drawn0.step)⟩
                · rw [if_neg c12] at H
                  exact absurd H (by simp)
              · replace c11 := Bool.eq_false_iff.mpr c11
                subst c11
                have H1 : (timeinterval_zzValidTime.j0 k a0 true) = some r := by rw [if_neg (show ¬ (false = true) by decide)] at H; exact H
                clear H
                have H := H1
                clear H1
                have H' := Aside0.mk H
                clear H
                have p6 : 0 ≤ (2 : Int) := (by omega)
                have q6 : 2 < a0.size := (by have : (2 : Int) < (a0.size : Int) := of_decide_eq_true (by first | (with_reducible assumption) | assumption); omega)
                have hx6 : ∀ h : 2 < a0.size, ((a0[2]'h).toNat : Int) = bt a0 2 := bt_at a0 2
                clear p6
                have qi6 : (2 < (a0.size : Int)) = True := eq_true (of_decide_eq_true (by first | (with_reducible assumption) | assumption))
                replace q6 := eq_true q6
                have p9 : 0 ≤ (3 : Int) := (by omega)
                have q9 : 3 < a0.size := (by have : (3 : Int) < (a0.size : Int) := of_decide_eq_true (by first | (with_reducible assumption) | assumption); omega)
                have hx9 : ∀ h : 3 < a0.size, ((a0[3]'h).toNat : Int) = bt a0 3 := bt_at a0 3
                clear p9
                have qi9 : (3 < (a0.size : Int)) = True := eq_true (of_decide_eq_true (by first | (with_reducible assumption) | assumption))
                replace q9 := eq_true q9
                go_wp2_with (first | (go_at_call 18; (with_reducible refine (timeinterval_zzDigit.calls (bt a0 3) 48 53 false _ A10.out).mono ?_); rintro e w' ⟨rfl, ⟨nd, rfl⟩⟩))
                go_meet
                case rel => exact ⟨_, (true), (by first | rfl | (simp; done) | (simp [*]; done)), H', ⟨by first | omega | exact Nat.le_refl _⟩, by repeat (first | exact Drawn0.refl _ | apply Drawn0.step)⟩
            · rw [if_neg c8] at H
              exact absurd H (by simp)
          · rw [if_neg c7] at H
            have c7b0 : ((bt a0 2) == 58) = false := beq_eq_false_iff_ne.mpr c7
            have c7b1 : ((bt a0 2) != 58) = true := bne_iff_ne.mpr c7
            have H' := Aside0.mk H
            clear H
            have p6 : 0 ≤ (2 : Int) := (by omega)
            have q6 : 2 < a0.size := (by have : (2 : Int) < (a0.size : Int) := of_decide_eq_true (by first | (with_reducible assumption) | assumption); omega)
            have hx6 : ∀ h : 2 < a0.size, ((a0[2]'h).toNat : Int) = bt a0 2 := bt_at a0 2
            clear p6
            have qi6 : (2 < (a0.size : Int)) = True := eq_true (of_decide_eq_true (by first | (with_reducible assumption) | assumption))
            replace q6 := eq_true q6
            go_wp2
            go_meet
            case rel => exact ⟨_, (true), (by first | rfl | (simp; done) | (simp [*]; done)), H', ⟨by first | omega | exact Nat.le_refl _⟩, by repeat (first | exact Drawn0.refl _ | apply Drawn0.step)⟩
        · rw [if_neg c5] at H
          exact absurd H (by simp)
      · rw [if_neg c4] at H
        have c4b0 : ((a0.size : Int) == 5) = false := beq_eq_false_iff_ne.mpr c4
        have c4b1 : ((a0.size : Int) != 5) = true := bne_iff_ne.mpr c4
        (first | rw [c4b0] | (simp only [i64_w, i32_w]; rw [c4b0]) | skip)
        have H' := Aside0.mk H
        clear H
        go_wp2
        go_meet
        case rel => exact ⟨_, (true), (by first | rfl | (simp; done) | (simp [*]; done)), H', ⟨by first | omega | exact Nat.le_refl _⟩, by repeat (first | exact Drawn0.refl _ | apply Drawn0.step)⟩
    case rest =>
      clear HC3
      try clear c1
      try clear p1
      try clear q1
      try clear hx1
      try clear qi1
      try clear c2
      try clear c2b0
      try clear c2b1
      try clear p2
      try clear c4
      try clear c4b0
      try clear c4b1
      try clear c5
      try clear c5b0
      try clear c5b1
      try clear p6
      try clear q6
      try clear hx6
      try clear qi6
      try clear c7
      try clear c7b0
      try clear c7b1
      try clear c8
      try clear c8b0
      try clear c8b1
      try clear p9
      try clear q9
      try clear hx9
      try clear qi9
      try clear c11
      try clear c12
      try clear c12b0
      try clear c12b1
      try clear p13
      try clear q13
      try clear hx13
      try clear qi13
      try clear p13
      try clear p6
      try clear p9
      try clear q13
      try clear q6
      try clear q9
      obtain ⟨kq, x24_2, rfl, HA, HJ2, ⟨mc2, rfl⟩⟩ := hcut
      cases kq with
      | zero => exact absurd HA.out (by simp [timeinterval_zzValidTime.j0])
      | succ kj2 =>
        have H := HA.out
        clear HA
        simp only [timeinterval_zzValidTime.j0] at H
        by_cases c15 : x24_2 = true
        · subst c15
          have H1 : (some false) = some r := by rw [if_pos rfl] at H; exact H
          clear H
          have H := H1
          clear H1
          obtain rfl := Option.some.inj H
          go_wp2
          go_ret
          exact ⟨by first | rfl | (simp; done) | (simp [*]; done), by repeat (first | exact Drawn0.refl _ | apply Drawn0.step)⟩
        · replace c15 := Bool.eq_false_iff.mpr c15
          subst c15
          have H1 : (if 0 < (a0.size : Int) then ((timeinterval_zzDigit.f (bt a0 0) 48 49).bind fun t104 => (if t104 = true then (if 1 < (a0.size : Int) then ((timeinterval_zzDigit.f (bt a0 1) 48 57).bind fun t105 => (if t105 = true then (some true) else (if (bt a0 0) = 50 then ((timeinterval_zzDigit.f (bt a0 1) 48 51).bind fun t106 => (some t106)) else (some false)))) else (none)) else (if (bt a0 0) = 50 then (if 1 < (a0.size : Int) then ((timeinterval_zzDigit.f (bt a0 1) 48 51).bind fun t107 => (some t107)) else (none)) else (some false)))) else (none)) = some r := by rw [if_neg (show ¬ (false = true) by decide)] at H; exact H
          clear H
          have H := H1
          clear H1
          by_cases c16 : 0 < (a0.size : Int)
          · rw [if_pos c16] at H
            have c16b0 : decide (0 < (a0.size : Int)) = true := decide_eq_true c16
            have c16b1 : decide (0 < a0.size) = true := decide_eq_true (by omega)
            clear c16
            replace H := Option.bind_eq_some_iff.mp H
            obtain ⟨t104, A180, H⟩ := H
            replace H : (if t104 = true then (if 1 < (a0.size : Int) then ((timeinterval_zzDigit.f (bt a0 1) 48 57).bind fun t105 => (if t105 = true then (some true) else (if (bt a0 0) = 50 then ((timeinterval_zzDigit.f (bt a0 1) 48 51).bind fun t106 => (some t106)) else (some false)))) else (none)) else (if (bt a0 0) = 50 then (if 1 < (a0.size : Int) then ((timeinterval_zzDigit.f (bt a0 1) 48 51).bind fun t107 => (some t107)) else (none)) else (some false))) = some r := H
            have A18 := Aside0.mk A180
            clear A180
            by_cases c19 : t104 = true
            · subst c19
              have H1 : (if 1 < (a0.size : Int) then ((timeinterval_zzDigit.f (bt a0 1) 48 57).bind fun t105 => (if t105 = true then (some true) else (if (bt a0 0) = 50 then ((timeinterval_zzDigit.f (bt a0 1) 48 51).bind fun t106 => (some t106)) else (some false)))) else (none)) = some r := by rw [if_pos rfl] at H; exact H
              clear H
              have H := H1
              clear H1
              by_cases c20 : 1 < (a0.size : Int)
              · rw [if_pos c20] at H
                have c20b0 : decide (1 < (a0.size : Int)) = true := decide_eq_true c20
                have c20b1 : decide (1 < a0.size) = true := decide_eq_true (by omega)
                clear c20
                replace H := Option.bind_eq_some_iff.mp H
                obtain ⟨t105, A220, H⟩ := H
                replace H : (if t105 = true then (some true) else (if (bt a0 0) = 50 then ((timeinterval_zzDigit.f (bt a0 1) 48 51).bind fun t106 => (some t106)) else (some false))) = some r := H
                have A22 := Aside0.mk A220
                clear A220
                by_cases c23 : t105 = true
                · subst c23
                  have H1 : (some true) = some r := by rw [if_pos rfl] at H; exact H
                  clear H
                  have H := H1
                  clear H1
                  obtain rfl := Option.some.inj H
                  have p17 : 0 ≤ (0 : Int) := (by omega)
                  have q17 : 0 < a0.size := (by have : (0 : Int) < (a0.size : Int) := of_decide_eq_true (by first | (with_reducible assumption) | assumption); omega)
                  have hx17 : ∀ h : 0 < a0.size, ((a0[0]'h).toNat : Int) = bt a0 0 := bt_at a0 0
                  clear p17
                  have qi17 : (0 < (a0.size : Int)) = True := eq_true (of_decide_eq_true (by first | (with_reducible assumption) | assumption))
                  replace q17 := eq_true q17
                  go_wp2_with (first | ((with_reducible refine gate_callee (f := 18) rfl ?_); refine goesL_ (some 27) rfl rfl Tryd.func18 (by kernel_rfl) rfl #[.int .u8 (bt a0 0), .int .u8 48, .int .u8 49] rfl (by (try simp only [List.map_toArray, List.map_cons, List.map_nil]); first | done | rfl | (simp only [List.length_drop, List.length_take]; rfl)) ?_; (with_reducible refine (timeinterval_zzDigit.calls (bt a0 0) 48 49 true _ A18.out).mono ?_); rintro e w' ⟨rfl, ⟨nd, rfl⟩⟩; refine ⟨_, rfl, ?_⟩; have p21 : 0 ≤ (1 : Int) := (by omega); have q21 : 1 < a0.size := (by have : (1 : Int) < (a0.size : Int) := of_decide_eq_true (by first | (with_reducible assumption) | assumption); omega); have hx21 : ∀ h : 1 < a0.size, ((a0[1]'h).toNat : Int) = bt a0 1 := bt_at a0 1; clear p21; have qi21 : (1 < (a0.size : Int)) = True := eq_true (of_decide_eq_true (by first | (with_reducible assumption) | assumption)); replace q21 := eq_true q21) | (go_at_call 18; (with_reducible refine (timeinterval_zzDigit.calls (bt a0 1) 48 57 true _ A22.out).mono ?_); rintro e w' ⟨rfl, ⟨nd, rfl⟩⟩))
                  go_ret
                  exact ⟨by first | rfl | (simp; done) | (simp [*]; done), by repeat (first | exact Drawn0.refl _ | apply Drawn0.step)⟩
                · replace c23 := Bool.eq_false_iff.mpr c23
                  subst c23
                  have H1 : (if (bt a0 0) = 50 then ((timeinterval_zzDigit.f (bt a0 1) 48 51).bind fun t106 => (some t106)) else (some false)) = some r := by rw [if_neg (show ¬ (false = true) by decide)] at H; exact H
                  clear H
                  have H := H1
                  clear H1
                  by_cases c25 : (bt a0 0) = 50
                  · rw [if_pos c25] at H
                    have c25b0 : ((bt a0 0) == 50) = true := beq_iff_eq.mpr c25
                    have c25b1 : ((bt a0 0) != 50) = false := bne_eq_false_iff_eq.mpr c25
                    clear c25
                    replace H := Option.bind_eq_some_iff.mp H
                    obtain ⟨t106, A270, H⟩ := H
                    replace H : (some t106) = some r := H
                    have A27 := Aside0.mk A270
                    clear A270
                    obtain rfl := Option.some.inj H
                    have p17 : 0 ≤ (0 : Int) := (by omega)
                    have q17 : 0 < a0.size := (by have : (0 : Int) < (a0.size : Int) := of_decide_eq_true (by first | (with_reducible assumption) | assumption); omega)
                    have hx17 : ∀ h : 0 < a0.size, ((a0[0]'h).toNat : Int) = bt a0 0 := bt_at a0 0
                    clear p17
                    have qi17 : (0 < (a0.size : Int)) = True := eq_true (of_decide_eq_true (by first | (with_reducible assumption) | assumption))
                    replace q17 := eq_true q17
                    go_wp2_with (first | ((with_reducible refine gate_callee (f := 18) rfl ?_); refine goesL_ (some 27) rfl rfl Tryd.func18 (by kernel_rfl) rfl #[.int .u8 (bt a0 0), .int .u8 48, .int .u8 49] rfl (by (try simp only [List.map_toArray, List.map_cons, List.map_nil]); first | done | rfl | (simp only [List.length_drop, List.length_take]; rfl)) ?_; (with_reducible refine (timeinterval_zzDigit.calls (bt a0 0) 48 49 true _ A18.out).mono ?_); rintro e w' ⟨rfl, ⟨nd, rfl⟩⟩; refine ⟨_, rfl, ?_⟩; have p21 : 0 ≤ (1 : Int) := (by omega); have q21 : 1 < a0.size := (by have : (1 : Int) < (a0.size : Int) := of_decide_eq_true (by first | (with_reducible assumption) | assumption); omega); have hx21 : ∀ h : 1 < a0.size, ((a0[1]'h).toNat : Int) = bt a0 1 := bt_at a0 1; clear p21; have qi21 : (1 < (a0.size : Int)) = True := eq_true (of_decide_eq_true (by first | (with_reducible assumption) | assumption)); replace q21 := eq_true q21) | (go_at_call 18; (with_reducible refine (timeinterval_zzDigit.calls (bt a0 1) 48 57 false _ A22.out).mono ?_); rintro e w' ⟨rfl, ⟨nd, rfl⟩⟩; have p24 : 0 ≤ (0 : Int) := (by omega); have q24 : 0 < a0.size := (by have : (0 : Int) < (a0.size : Int) := of_decide_eq_true (by first | (with_reducible assumption) | assumption); omega); have hx24 : ∀ h : 0 < a0.size, ((a0[0]'h).toNat : Int) = bt a0 0 := bt_at a0 0; clear p24; have qi24 : (0 < (a0.size : Int)) = True := eq_true (of_decide_eq_true (by first | (with_reducible assumption) | assumption)); replace q24 := eq_true q24; have p26 : 0 ≤ (1 : Int) := (by omega); have q26 : 1 < a0.size := (by have : (1 : Int) < (a0.size : Int) := of_decide_eq_true (by first | (with_reducible assumption) | assumption); omega); have hx26 : ∀ h : 1 < a0.size, ((a0[1]'h).toNat : Int) = bt a0 1 := bt_at a0 1; clear p26; have qi26 : (1 < (a0.size : Int)) = True := eq_true (of_decide_eq_true (by first | (with_reducible assumption) | assumption)); replace q26 := eq_true q26) | (go_at_call 18; (with_reducible refine (timeinterval_zzDigit.calls (bt a0 1) 48 51 t106 _ A27.out).mono ?_); rintro e w' ⟨rfl, ⟨nd, rfl⟩⟩))
                    go_ret
                    exact ⟨by first | rfl | (simp; done) | (simp [*]; done), by repeat (first | exact Drawn0.refl _ | apply Drawn0.step)⟩
                  · rw [if_neg c25] at H
                    have c25b0 : ((bt a0 0) == 50) = false := beq_eq_false_iff_ne.mpr c25
                    have c25b1 : ((bt a0 0) != 50) = true := bne_iff_ne.mpr c25
                    obtain rfl := Option.some.inj H
                    have p17 : 0 ≤ (0 : Int) := (by omega)
                    have q17 : 0 < a0.size := (by have : (0 : Int) < (a0.size : Int) := of_decide_eq_true (by first | (with_reducible assumption) | assumption); omega)
                    have hx17 : ∀ h : 0 < a0.size, ((a0[0]'h).toNat : Int) = bt a0 0 := bt_at a0 0
                    clear p17
                    have qi17 : (0 < (a0.size : Int)) = True := eq_true (of_decide_eq_true (by first | (with_reducible assumption) | assumption))
                    replace q17 := eq_true q17
                    go_wp2_with (first | ((with_reducible refine gate_callee (f := 18) rfl ?_); refine goesL_ (some 27) rfl rfl Tryd.func18 (by kernel_rfl) rfl #[.int .u8 (bt a0 0), .int .u8 48, .int .u8 49] rfl (by (try simp only [List.map_toArray, List.map_cons, List.map_nil]); first | done | rfl | (simp only [List.length_drop, List.length_take]; rfl)) ?_; (with_reducible refine (timeinterval_zzDigit.calls (bt a0 0) 48 49 true _ A18.out).mono ?_); rintro e w' ⟨rfl, ⟨nd, rfl⟩⟩; refine ⟨_, rfl, ?_⟩; have p21 : 0 ≤ (1 : Int) := (by omega); have q21 : 1 < a0.size := (by have : (1 : Int) < (a0.size : Int) := of_decide_eq_true (by first | (with_reducible assumption) | assumption); omega); have hx21 : ∀ h : 1 < a0.size, ((a0[1]'h).toNat : Int) = bt a0 1 := bt_at a0 1; clear p21; have qi21 : (1 < (a0.size : Int)) = True := eq_true (of_decide_eq_true (by first | (with_reducible assumption) | assumption)); replace q21 := eq_true q21) | (go_at_call 18; (with_reducible refine (timeinterval_zzDigit.calls (bt a0 1) 48 57 false _ A22.out).mono ?_); rintro e w' ⟨rfl, ⟨nd, rfl⟩⟩; have p24 : 0 ≤ (0 : Int) := (by omega); have q24 : 0 < a0.size := (by have : (0 : Int) < (a0.size : Int) := of_decide_eq_true (by first | (with_reducible assumption) | assumption); omega); have hx24 : ∀ h : 0 < a0.size, ((a0[0]'h).toNat : Int) = bt a0 0 := bt_at a0 0; clear p24; have qi24 : (0 < (a0.size : Int)) = True := eq_true (of_decide_eq_true (by first | (with_reducible assumption) | assumption)); replace q24 := eq_true q24))
                    go_ret
                    exact ⟨by first | rfl | (simp; done) | (simp [*]; done), by repeat (first | exact Drawn0.refl _ | apply Drawn0.step)⟩
              · rw [if_neg c20] at H
                exact absurd H (by simp)
            · replace c19 := Bool.eq_false_iff.mpr c19
              subst c19
              have H1 : (if (bt a0 0) = 50 then (if 1 < (a0.size : Int) then ((timeinterval_zzDigit.f (bt a0 1) 48 51).bind fun t107 => (some t107)) else (none)) else (some false)) = some r := by rw [if_neg (show ¬ (false = true) by decide)] at H; exact H
              clear H
              have H := H1
              clear H1
              by_cases c29 : (bt a0 0) = 50
              · rw [if_pos c29] at H
                have c29b0 : ((bt a0 0) == 50) = true := beq_iff_eq.mpr c29
                have c29b1 : ((bt a0 0) != 50) = false := bne_eq_false_iff_eq.mpr c29
                clear c29
                by_cases c30 : 1 < (a0.size : Int)
                · rw [if_pos c30] at H
                  have c30b0 : decide (1 < (a0.size : Int)) = true := decide_eq_true c30
                  have c30b1 : decide (1 < a0.size) = true := decide_eq_true (by omega)
                  clear c30
                  replace H := Option.bind_eq_some_iff.mp H
                  obtain ⟨t107, A320, H⟩ := H
                  replace H : (some t107) = some r := H
                  have A32 := Aside0.mk A320
                  clear A320
                  obtain rfl := Option.some.inj H
                  have p17 : 0 ≤ (0 : Int) := (by omega)
                  have q17 : 0 < a0.size := (by have : (0 : Int) < (a0.size : Int) := of_decide_eq_true (by first | (with_reducible assumption) | assumption); omega)
                  have hx17 : ∀ h : 0 < a0.size, ((a0[0]'h).toNat : Int) = bt a0 0 := bt_at a0 0
                  clear p17
                  have qi17 : (0 < (a0.size : Int)) = True := eq_true (of_decide_eq_true (by first | (with_reducible assumption) | assumption))
                  replace q17 := eq_true q17
                  go_wp2_with (first | ((with_reducible refine gate_callee (f := 18) rfl ?_); refine goesL_ (some 27) rfl rfl Tryd.func18 (by kernel_rfl) rfl #[.int .u8 (bt a0 0), .int .u8 48, .int .u8 49] rfl (by (try simp only [List.map_toArray, List.map_cons, List.map_nil]); first | done | rfl | (simp only [List.length_drop, List.length_take]; rfl)) ?_; (with_reducible refine (timeinterval_zzDigit.calls (bt a0 0) 48 49 false _ A18.out).mono ?_); rintro e w' ⟨rfl, ⟨nd, rfl⟩⟩; refine ⟨_, rfl, ?_⟩; have p28 : 0 ≤ (0 : Int) := (by omega); have q28 : 0 < a0.size := (by have : (0 : Int) < (a0.size : Int) := of_decide_eq_true (by first | (with_reducible assumption) | assumption); omega); have hx28 : ∀ h : 0 < a0.size, ((a0[0]'h).toNat : Int) = bt a0 0 := bt_at a0 0; clear p28; have qi28 : (0 < (a0.size : Int)) = True := eq_true (of_decide_eq_true (by first | (with_reducible assumption) | assumption)); replace q28 := eq_true q28; have p31 : 0 ≤ (1 : Int) := (by omega); have q31 : 1 < a0.size := (by have : (1 : Int) < (a0.size : Int) := of_decide_eq_true (by first | (with_reducible assumption) | assumption); omega); have hx31 : ∀ h : 1 < a0.size, ((a0[1]'h).toNat : Int) = bt a0 1 := bt_at a0 1; clear p31; have qi31 : (1 < (a0.size : Int)) = True := eq_true (of_decide_eq_true (by first | (with_reducible assumption) | assumption)); replace q31 := eq_true q31) | (go_at_call 18; (with_reducible refine (timeinterval_zzDigit.calls (bt a0 1) 48 51 t107 _ A32.out).mono ?_); rintro e w' ⟨rfl, ⟨nd, rfl⟩⟩))
                  go_ret
                  exact ⟨by first | rfl | (simp; done) | (simp [*]; done), by repeat (first | exact Drawn0.refl _ | apply Drawn0.step)⟩
                · rw [if_neg c30] at H
                  exact absurd H (by simp)
              · rw [if_neg c29] at H
                have c29b0 : ((bt a0 0) == 50) = false := beq_eq_false_iff_ne.mpr c29
                have c29b1 : ((bt a0 0) != 50) = true := bne_iff_ne.mpr c29
                obtain rfl := Option.some.inj H
                have p17 : 0 ≤ (0 : Int) := (by omega)
                have q17 : 0 < a0.size := (by have : (0 : Int) < (a0.size : Int) := of_decide_eq_true (by first | (with_reducible assumption) | assumption); omega)
                have hx17 : ∀ h : 0 < a0.size, ((a0[0]'h).toNat : Int) = bt a0 0 := bt_at a0 0
                clear p17
                have qi17 : (0 < (a0.size : Int)) = True := eq_true (of_decide_eq_true (by first | (with_reducible assumption) | assumption))
                replace q17 := eq_true q17
                go_wp2_with (first | ((with_reducible refine gate_callee (f := 18) rfl ?_); refine goesL_ (some 27) rfl rfl Tryd.func18 (by kernel_rfl) rfl #[.int .u8 (bt a0 0), .int .u8 48, .int .u8 49] rfl (by (try simp only [List.map_toArray, List.map_cons, List.map_nil]); first | done | rfl | (simp only [List.length_drop, List.length_take]; rfl)) ?_; (with_reducible refine (timeinterval_zzDigit.calls (bt a0 0) 48 49 false _ A18.out).mono ?_); rintro e w' ⟨rfl, ⟨nd, rfl⟩⟩; refine ⟨_, rfl, ?_⟩; have p28 : 0 ≤ (0 : Int) := (by omega); have q28 : 0 < a0.size := (by have : (0 : Int) < (a0.size : Int) := of_decide_eq_true (by first | (with_reducible assumption) | assumption); omega); have hx28 : ∀ h : 0 < a0.size, ((a0[0]'h).toNat : Int) = bt a0 0 := bt_at a0 0; clear p28; have qi28 : (0 < (a0.size : Int)) = True := eq_true (of_decide_eq_true (by first | (with_reducible assumption) | assumption)); replace q28 := eq_true q28))
                go_ret
                exact ⟨by first | rfl | (simp; done) | (simp [*]; done), by repeat (first | exact Drawn0.refl _ | apply Drawn0.step)⟩
          · rw [if_neg c16] at H
            exact absurd H (by simp)

/-! ### timeinterval_zzIndex: function 19 -/
def timeinterval_zzIndex.l0 : Nat → ByteArray → ByteArray → Int → Option (Int)
  | 0, _, _, _ => none
  | k + 1, x0, x1, x5 => if (wrap64 (x5 + (x1.size : Int))) ≤ (x0.size : Int) then (if 0 ≤ x5 then (if x5 ≤ (wrap64 (x5 + (x1.size : Int))) then (if (x0.extract (x5 : Int).toNat ((wrap64 (x5 + (x1.size : Int))) : Int).toNat).toList = x1.toList then (some x5) else (timeinterval_zzIndex.l0 k x0 x1 (wrap64 (x5 + 1)))) else (none)) else (none)) else (some (-1))
def timeinterval_zzIndex.f (k : Nat) (a0 : ByteArray) (a1 : ByteArray) : Option (Int) := timeinterval_zzIndex.l0 k a0 a1 0
theorem timeinterval_zzIndex.mono_l : ∀ k, (∀ y0 y1 y2, LeO (timeinterval_zzIndex.l0 k y0 y1 y2) (timeinterval_zzIndex.l0 (k + 1) y0 y1 y2))
  | 0 => fun _ _ _ r h => by simp [timeinterval_zzIndex.l0] at h
  | k + 1 => by
    have ih0 := timeinterval_zzIndex.mono_l k
    · intro y0 y1 y2
      unfold timeinterval_zzIndex.l0
      repeat' first
      | (with_reducible exact ih0 _ _ _)
      | (with_reducible exact LeO.refl _)
      | (with_reducible exact LeO.none _)
      | (with_reducible refine LeO.ite ?_ ?_)
      | (with_reducible refine LeO.bind ?_ (fun _ => ?_))
      | exact ih0 _ _ _
      | exact LeO.none _
      | refine LeO.ite ?_ ?_
      | refine LeO.bind ?_ (fun _ => ?_)
theorem timeinterval_zzIndex.mono : ∀ a0 a1 k, LeO (timeinterval_zzIndex.f k a0 a1) (timeinterval_zzIndex.f (k + 1) a0 a1) := by
  intro a0 a1 k
  have ih0 := timeinterval_zzIndex.mono_l k
  unfold timeinterval_zzIndex.f
  repeat' first
      | (with_reducible exact ih0 _ _ _)
      | (with_reducible exact LeO.refl _)
      | (with_reducible exact LeO.none _)
      | (with_reducible refine LeO.ite ?_ ?_)
      | (with_reducible refine LeO.bind ?_ (fun _ => ?_))
      | exact ih0 _ _ _
      | exact LeO.none _
      | refine LeO.ite ?_ ?_
      | refine LeO.bind ?_ (fun _ => ?_)
set_option maxHeartbeats 8000000 in
set_option maxRecDepth 100000 in
theorem timeinterval_zzIndex.calls (k : Nat) (a0 : ByteArray) (a1 : ByteArray) (r : Int) (w : World) (h : timeinterval_zzIndex.f k a0 a1 = some r) :
    Calls Tryd.prog 19 #[.string a0, .string a1] w fun e w' => e = .returned (.int .i64 r) ∧ Drawn0 w w' := by
  have H : (timeinterval_zzIndex.l0 k a0 a1 0) = some r := h
  clear h
  have H' := Aside0.mk H
  clear H
  go_enter Tryd.func19, Tryd.ntmps19
  go_wp2
  go_loopg [5] k (fun kq v5 w' => ∃ (x5_1 : Int), v5 = .int .i64 x5_1 ∧ Aside0 (timeinterval_zzIndex.l0 kq a0 a1 x5_1 = some r) ∧ Aside0 (kq ≤ k) ∧ Drawn0 w w')
  case atStart => exact ⟨(0), (by first | rfl | (simp; done) | (simp [*]; done)), H', ⟨Nat.le_refl _⟩, by repeat (first | exact Drawn0.refl _ | apply Drawn0.step)⟩
  case round =>
    clear H'
    try clear c1
    try clear p2
    obtain ⟨x5_1, rfl, HA, HK1, ⟨m1, rfl⟩⟩ := hrel
    cases gk with
    | zero => exact absurd HA.out (by simp [timeinterval_zzIndex.l0])
    | succ k1 =>
      have H := HA.out
      clear HA
      simp only [timeinterval_zzIndex.l0] at H
      by_cases c3 : (wrap64 (x5_1 + (a1.size : Int))) ≤ (a0.size : Int)
      · rw [if_pos c3] at H
        have c3b0 : decide ((wrap64 (x5_1 + (a1.size : Int))) ≤ (a0.size : Int)) = true := decide_eq_true c3
        clear c3
        by_cases c4 : 0 ≤ x5_1
        · rw [if_pos c4] at H
          have c4b0 := eq_true c4
          have c4b1 : decide (0 ≤ x5_1) = true := decide_eq_true c4
          clear c4
          by_cases c5 : x5_1 ≤ (wrap64 (x5_1 + (a1.size : Int)))
          · rw [if_pos c5] at H
            have c5b0 := eq_true c5
            have c5b1 : decide (x5_1 ≤ (wrap64 (x5_1 + (a1.size : Int)))) = true := decide_eq_true c5
            have c6b0 := eq_true (of_decide_eq_true (by first | (with_reducible assumption) | assumption) : (wrap64 (x5_1 + (a1.size : Int))) ≤ (a0.size : Int))
            by_cases c7 : (a0.extract (x5_1 : Int).toNat ((wrap64 (x5_1 + (a1.size : Int))) : Int).toNat).toList = a1.toList
            · rw [if_pos c7] at H
              have c7b0 : ((a0.extract (x5_1 : Int).toNat ((wrap64 (x5_1 + (a1.size : Int))) : Int).toNat).toList == a1.toList) = true := beq_iff_eq.mpr c7
              have c7b1 : ((a0.extract (x5_1 : Int).toNat ((wrap64 (x5_1 + (a1.size : Int))) : Int).toNat).toList != a1.toList) = false := bne_eq_false_iff_eq.mpr c7
              clear c7
              obtain rfl := Option.some.inj H
              go_wp2
              go_ret
              exact ⟨by first | rfl | (simp; done) | (simp [*]; done), by repeat (first | exact Drawn0.refl _ | apply Drawn0.step)⟩
            · rw [if_neg c7] at H
              have c7b0 : ((a0.extract (x5_1 : Int).toNat ((wrap64 (x5_1 + (a1.size : Int))) : Int).toNat).toList == a1.toList) = false := beq_eq_false_iff_ne.mpr c7
              have c7b1 : ((a0.extract (x5_1 : Int).toNat ((wrap64 (x5_1 + (a1.size : Int))) : Int).toNat).toList != a1.toList) = true := bne_iff_ne.mpr c7
              have H' := Aside0.mk H
              clear H
              go_wp2
              go_roundg k1
              case measure => have := HK1.out; omega
              case rel => exact ⟨(wrap64 (x5_1 + 1)), (by first | rfl | (simp; done) | (simp [*]; done)), H', ⟨by have := HK1.out; omega⟩, by repeat (first | exact Drawn0.refl _ | apply Drawn0.step)⟩
          · rw [if_neg c5] at H
            exact absurd H (by simp)
        · rw [if_neg c4] at H
          exact absurd H (by simp)
      · rw [if_neg c3] at H
        have c3b0 : decide ((wrap64 (x5_1 + (a1.size : Int))) ≤ (a0.size : Int)) = false := decide_eq_false c3
        clear c3
        obtain rfl := Option.some.inj H
        go_wp2
        go_ret
        exact ⟨by first | rfl | (simp; done) | (simp [*]; done), by repeat (first | exact Drawn0.refl _ | apply Drawn0.step)⟩

/-! ### timeinterval_zzSplit: function 16 -/
def timeinterval_zzSplit.l1 : Nat → ByteArray → ByteArray → List ByteArray → Option (List ByteArray)
  | 0, _, _, _ => none
  | k + 1, x0, x1, x5 => (timeinterval_zzIndex.f k x0 x1).bind fun t108 => (if t108 < 0 then (if x5.length < 8796093022208 then (some (x5 ++ [x0])) else (none)) else (if 0 ≤ t108 then (if t108 ≤ (x0.size : Int) then (if x5.length < 8796093022208 then (if 0 ≤ (wrap64 (t108 + (x1.size : Int))) then (if (wrap64 (t108 + (x1.size : Int))) ≤ (x0.size : Int) then (timeinterval_zzSplit.l1 k (x0.extract ((wrap64 (t108 + (x1.size : Int))) : Int).toNat x0.size) x1 (x5 ++ [x0.extract 0 (t108 : Int).toNat])) else (none)) else (none)) else (none)) else (none)) else (none)))
def timeinterval_zzSplit.f (k : Nat) (a0 : ByteArray) (a1 : ByteArray) : Option (List ByteArray) := if (a1.size : Int) = 0 then (none) else (timeinterval_zzSplit.l1 k a0 a1 ([] : List ByteArray))
theorem timeinterval_zzSplit.mono_l : ∀ k, (∀ y0 y1 y2, LeO (timeinterval_zzSplit.l1 k y0 y1 y2) (timeinterval_zzSplit.l1 (k + 1) y0 y1 y2))
  | 0 => fun _ _ _ r h => by simp [timeinterval_zzSplit.l1] at h
  | k + 1 => by
    have ih0 := timeinterval_zzSplit.mono_l k
    · intro y0 y1 y2
      unfold timeinterval_zzSplit.l1
      repeat' first
      | (with_reducible exact ih0 _ _ _)
      | (with_reducible exact timeinterval_zzIndex.mono _ _ _)
      | (with_reducible exact LeO.refl _)
      | (with_reducible exact LeO.none _)
      | (with_reducible refine LeO.ite ?_ ?_)
      | (with_reducible refine LeO.bind ?_ (fun _ => ?_))
      | exact ih0 _ _ _
      | exact timeinterval_zzIndex.mono _ _ _
      | exact LeO.none _
      | refine LeO.ite ?_ ?_
      | refine LeO.bind ?_ (fun _ => ?_)
theorem timeinterval_zzSplit.mono : ∀ a0 a1 k, LeO (timeinterval_zzSplit.f k a0 a1) (timeinterval_zzSplit.f (k + 1) a0 a1) := by
  intro a0 a1 k
  have ih0 := timeinterval_zzSplit.mono_l k
  unfold timeinterval_zzSplit.f
  repeat' first
      | (with_reducible exact ih0 _ _ _)
      | (with_reducible exact timeinterval_zzIndex.mono _ _ _)
      | (with_reducible exact LeO.refl _)
      | (with_reducible exact LeO.none _)
      | (with_reducible refine LeO.ite ?_ ?_)
      | (with_reducible refine LeO.bind ?_ (fun _ => ?_))
      | exact ih0 _ _ _
      | exact timeinterval_zzIndex.mono _ _ _
      | exact LeO.none _
      | refine LeO.ite ?_ ?_
      | refine LeO.bind ?_ (fun _ => ?_)
set_option maxHeartbeats 8000000 in
set_option maxRecDepth 100000 in
theorem timeinterval_zzSplit.calls (k : Nat) (a0 : ByteArray) (a1 : ByteArray) (r : List ByteArray) (w : World) (h : timeinterval_zzSplit.f k a0 a1 = some r) :
    Calls Tryd.prog 16 #[.string a0, .string a1] w fun e w' => ∃ v0_ : Value, e = .returned (v0_) ∧ Kd.R Kd.string 9 w' w.heap.size (fun _ => True) v0_ r ∧ Below w.heap.size w w' := by
  have HB := Aside0.mk (Below.refl w.heap.size w)
  have H : (if (a1.size : Int) = 0 then (none) else (timeinterval_zzSplit.l1 k a0 a1 ([] : List ByteArray))) = some r := h
  clear h
  by_cases c3 : (a1.size : Int) = 0
  · rw [if_pos c3] at H
    exact absurd H (by simp)
  · rw [if_neg c3] at H
    have c3b0 : ((a1.size : Int) == 0) = false := beq_eq_false_iff_ne.mpr c3
    have c3b1 : ((a1.size : Int) != 0) = true := bne_iff_ne.mpr c3
    have H' := Aside0.mk H
    clear H
    go_enter Tryd.func16, Tryd.ntmps16
    go_wp2
    go_loopg [0, 5] k (fun kq v0 v5 w' => ∃ (x0_1 : ByteArray) (x5_1 : List ByteArray), v0 = .string x0_1 ∧ Aside0 (timeinterval_zzSplit.l1 kq x0_1 a1 x5_1 = some r) ∧ Aside0 (kq ≤ k) ∧ Aside0 (Kd.R Kd.string 9 w' w.heap.size (fun _ => True) v5 x5_1) ∧ Aside0 (Below w.heap.size w w'))
    case atStart => exact ⟨(a0), (([] : List ByteArray)), (by first | rfl | (simp; done) | (simp [*]; done)), H', ⟨Nat.le_refl _⟩, ⟨by first | exact Kd.R_nil _ _ _ _ _ | exact Kd.N_nil _ _ _ _ _ | exact Kd.V_nil _ _ _ _ _ | exact Kd.Q_nil _ _ _ _ _ | exact Kd.S_nil _ _ _ _ _⟩, ⟨by repeat (first | (with_reducible first | exact HB.out | apply below_alloc | apply pw_below_drewN | apply below_drew1) | exact HB.out)⟩⟩
    case round =>
      clear H'
      try clear c1
      try clear p2
      try clear c3
      try clear c3b0
      try clear c3b1
      obtain ⟨x0_1, x5_1, rfl, HA, HK1, HO_5, HB⟩ := hrel
      cases gk with
      | zero => exact absurd HA.out (by simp [timeinterval_zzSplit.l1])
      | succ k1 =>
        have H := HA.out
        clear HA
        simp only [timeinterval_zzSplit.l1] at H
        replace H := Option.bind_eq_some_iff.mp H
        obtain ⟨t108, A40, H⟩ := H
        replace H : (if t108 < 0 then (if x5_1.length < 8796093022208 then (some (x5_1 ++ [x0_1])) else (none)) else (if 0 ≤ t108 then (if t108 ≤ (x0_1.size : Int) then (if x5_1.length < 8796093022208 then (if 0 ≤ (wrap64 (t108 + (a1.size : Int))) then (if (wrap64 (t108 + (a1.size : Int))) ≤ (x0_1.size : Int) then (timeinterval_zzSplit.l1 k1 (x0_1.extract ((wrap64 (t108 + (a1.size : Int))) : Int).toNat x0_1.size) a1 (x5_1 ++ [x0_1.extract 0 (t108 : Int).toNat])) else (none)) else (none)) else (none)) else (none)) else (none))) = some r := H
        have A4 := Aside0.mk A40
        clear A40
        by_cases c5 : t108 < 0
        · rw [if_pos c5] at H
          have c5b0 : decide (t108 < 0) = true := decide_eq_true c5
          clear c5
          by_cases c6 : x5_1.length < 8796093022208
          · rw [if_pos c6] at H
            have LMc6 := Aside0.mk c6
            clear c6
            obtain ⟨y109, hy109⟩ : ∃ y_ : List ByteArray, y_ = (x5_1 ++ [x0_1]) := ⟨_, rfl⟩
            replace H : (some y109) = some r := by first | (rw [hy109]; with_reducible exact H) | (have H2_ := (Option.bind_some _ _).symm.trans H; rw [hy109]; with_reducible exact H2_) | (have H2_ := (Option.bind_some _ _).symm.trans H; with_reducible exact H2_) | with_reducible exact H | (rw [hy109]; exact H) | exact H
            have Ny109 := Aside0.mk hy109
            clear hy109
            obtain rfl := Option.some.inj H
            go_wp2_with (first | ((with_reducible refine gate_callee (f := 19) rfl ?_); refine goesL_ (some 39) rfl rfl Tryd.func19 (by kernel_rfl) rfl #[.string x0_1, .string a1] rfl (by (try simp only [List.map_toArray, List.map_cons, List.map_nil]); first | done | rfl | (simp only [List.length_drop, List.length_take]; rfl)) ?_; (with_reducible refine (timeinterval_zzIndex.calls k1 x0_1 a1 t108 _ A4.out).mono ?_); rintro e w' ⟨rfl, ⟨nd, rfl⟩⟩; refine ⟨_, rfl, ?_⟩) | ((with_reducible refine gate_builtin (b := .append) (xs := #[.tmp 42, .tmp 44]) rfl ?_); at_builtin; refine Kd.R_append Kd.string (w0 := w) w.heap.size rfl (.tmp 42) (.tmp 44) 50 9 (.string ⟨#[]⟩) 16 rfl Tryd.underlying50 info9 rfl (by decide) (by omega) u5 x5_1 x0_1 [.string x0_1] (fun _ => True) (fun _ => False) rfl rfl ?aP (fun _ hk => hk.elim) ?aF ?aO ?aB ?aS ?aL ?_; (case aP => exact rfl); (case aB => exact (by repeat (first | (with_reducible first | exact HB.out | apply below_alloc | apply pw_below_drewN | apply below_drew1) | exact HB.out))); (case aF => exact (fun _ _ => trivial)); (case aO => exact (by (with_reducible repeat (first | apply Kd.R_alloc | apply Kd.R_drewN | apply Kd.R_drew)); exact HO_5.out)); (case aS => exact (below_size (by repeat (first | (with_reducible first | exact HB.out | apply below_alloc | apply pw_below_drewN | apply below_drew1) | exact HB.out)))); (case aL => have := LMc6.out; omega); intro v110 w7 ho hb hg hat; rw [← Ny109.out] at ho; have n0_ := Aside0.mk (hb); have n1_ := Aside0.mk (ho); clear HB; clear HO_5; have HB := n0_; have HO111 := n1_; clear n0_ n1_; clear ho hb hg hat))
            go_ret
            exact ⟨_, by first | rfl | (simp [errW_none, errW_some] <;> rfl) | (simp [*, errW_none, errW_some] <;> rfl), by (with_reducible repeat (first | apply Kd.R_alloc | apply Kd.R_drewN | apply Kd.R_drew)); exact HO111.out, by repeat (first | (with_reducible first | exact HB.out | apply below_alloc | apply pw_below_drewN | apply below_drew1) | exact HB.out)⟩
          · rw [if_neg c6] at H
            exact absurd H (by simp)
        · rw [if_neg c5] at H
          have c5b0 : decide (t108 < 0) = false := decide_eq_false c5
          clear c5
          by_cases c8 : 0 ≤ t108
          · rw [if_pos c8] at H
            have c8b0 := eq_true c8
            have c8b1 : decide (0 ≤ t108) = true := decide_eq_true c8
            clear c8
            by_cases c9 : t108 ≤ (x0_1.size : Int)
            · rw [if_pos c9] at H
              have c9b0 := eq_true c9
              have c9b1 : decide (t108 ≤ (x0_1.size : Int)) = true := decide_eq_true c9
              clear c9
              by_cases c10 : x5_1.length < 8796093022208
              · rw [if_pos c10] at H
                have LMc10 := Aside0.mk c10
                clear c10
                obtain ⟨y112, hy112⟩ : ∃ y_ : List ByteArray, y_ = (x5_1 ++ [x0_1.extract 0 (t108 : Int).toNat]) := ⟨_, rfl⟩
                replace H : (if 0 ≤ (wrap64 (t108 + (a1.size : Int))) then (if (wrap64 (t108 + (a1.size : Int))) ≤ (x0_1.size : Int) then (timeinterval_zzSplit.l1 k1 (x0_1.extract ((wrap64 (t108 + (a1.size : Int))) : Int).toNat x0_1.size) a1 y112) else (none)) else (none)) = some r := by first | (rw [hy112]; with_reducible exact H) | (have H2_ := (Option.bind_some _ _).symm.trans H; rw [hy112]; with_reducible exact H2_) | (have H2_ := (Option.bind_some _ _).symm.trans H; with_reducible exact H2_) | with_reducible exact H | (rw [hy112]; exact H) | exact H
                have Ny112 := Aside0.mk hy112
                clear hy112
                obtain ⟨ji11, hji11⟩ : ∃ j_ : Int, (wrap64 (t108 + (a1.size : Int))) = j_ := ⟨_, rfl⟩
                replace H : (if 0 ≤ (ji11) then (if (ji11) ≤ (x0_1.size : Int) then (timeinterval_zzSplit.l1 k1 (x0_1.extract ((ji11) : Int).toNat x0_1.size) a1 y112) else (none)) else (none)) = some r := by first | (rw [hji11] at H; exact H) | (simp only [hji11] at H ⊢; exact H)
                (try rw [hji11] at A4)
                have hji11w : (IntKind.i64.wrap (t108 + (a1.size : Int))) = ji11 := (i64_w _).trans hji11
                by_cases c12 : 0 ≤ (ji11)
                · rw [if_pos c12] at H
                  have c12b0 := eq_true c12
                  have c12b1 : decide (0 ≤ (ji11)) = true := decide_eq_true c12
                  clear c12
                  by_cases c13 : (ji11) ≤ (x0_1.size : Int)
                  · rw [if_pos c13] at H
                    have c13b0 := eq_true c13
                    have c13b1 : decide ((ji11) ≤ (x0_1.size : Int)) = true := decide_eq_true c13
                    clear c13
                    have H' := Aside0.mk H
                    clear H
                    go_wp2_with (first | ((with_reducible refine gate_callee (f := 19) rfl ?_); refine goesL_ (some 39) rfl rfl Tryd.func19 (by kernel_rfl) rfl #[.string x0_1, .string a1] rfl (by (try simp only [List.map_toArray, List.map_cons, List.map_nil]); first | done | rfl | (simp only [List.length_drop, List.length_take]; rfl)) ?_; (with_reducible refine (timeinterval_zzIndex.calls k1 x0_1 a1 t108 _ A4.out).mono ?_); rintro e w' ⟨rfl, ⟨nd, rfl⟩⟩; refine ⟨_, rfl, ?_⟩) | ((with_reducible refine gate_builtin (b := .append) (xs := #[.tmp 46, .tmp 50]) rfl ?_); at_builtin; refine Kd.R_append Kd.string (w0 := w) w.heap.size rfl (.tmp 46) (.tmp 50) 50 9 (.string ⟨#[]⟩) 16 rfl Tryd.underlying50 info9 rfl (by decide) (by omega) u5 x5_1 (x0_1.extract 0 (t108 : Int).toNat) [.string (x0_1.extract 0 (t108 : Int).toNat)] (fun _ => True) (fun _ => False) rfl rfl ?aP (fun _ hk => hk.elim) ?aF ?aO ?aB ?aS ?aL ?_; (case aP => exact rfl); (case aB => exact (by repeat (first | (with_reducible first | exact HB.out | apply below_alloc | apply pw_below_drewN | apply below_drew1) | exact HB.out))); (case aF => exact (fun _ _ => trivial)); (case aO => exact (by (with_reducible repeat (first | apply Kd.R_alloc | apply Kd.R_drewN | apply Kd.R_drew)); exact HO_5.out)); (case aS => exact (below_size (by repeat (first | (with_reducible first | exact HB.out | apply below_alloc | apply pw_below_drewN | apply below_drew1) | exact HB.out)))); (case aL => have := LMc10.out; omega); intro v113 w14 ho hb hg hat; rw [← Ny112.out] at ho; have n0_ := Aside0.mk (hb); have n1_ := Aside0.mk (ho); clear HB; clear HO_5; have HB := n0_; have HO114 := n1_; clear n0_ n1_; clear ho hb hg hat))
                    go_roundg k1
                    case measure => have := HK1.out; omega
                    case rel => exact ⟨(x0_1.extract ((ji11) : Int).toNat x0_1.size), (y112), (by first | rfl | (simp; done) | (simp only [← hji11] <;> (first | rfl | simp)) | (simp [*]; done)), H', ⟨by have := HK1.out; omega⟩, ⟨by (with_reducible repeat (first | apply Kd.R_alloc | apply Kd.R_drewN | apply Kd.R_drew)); exact HO114.out⟩, ⟨by repeat (first | (with_reducible first | exact HB.out | apply below_alloc | apply pw_below_drewN | apply below_drew1) | exact HB.out)⟩⟩
                  · rw [if_neg c13] at H
                    exact absurd H (by simp)
                · rw [if_neg c12] at H
                  exact absurd H (by simp)
              · rw [if_neg c10] at H
                exact absurd H (by simp)
            · rw [if_neg c9] at H
              exact absurd H (by simp)
          · rw [if_neg c8] at H
            exact absurd H (by simp)

/-! ### strconv_lower: function 30 -/
-- contracts that were proved by hand
-- nothing told here: the shelf stands in its place


/-! ### strconv_underscoreOK: function 31 -/
-- contracts that were proved by hand
-- nothing told here: the shelf stands in its place


/-! ### strconv_ParseUint: function 27 -/
-- contracts that were proved by hand
-- nothing told here: the shelf stands in its place


-- NOT PRINTED: function 22 (strconv_ParseInt)

-- NOT PRINTED: function 20 (strconv_Atoi_20)

-- NOT PRINTED: function 28 (stringslite_Clone)

-- NOT PRINTED: function 23 (strconv_syntaxError)

-- NOT PRINTED: function 24 (strconv_rangeError)

/-! ### strconv_small: function 34 -/
-- contracts that were proved by hand
-- nothing told here: the shelf stands in its place


/-! ### strconv_log10Pow2: function 38 -/
-- contracts that were proved by hand
-- nothing told here: the shelf stands in its place


/-! ### bits_Len64: function 39 -/
-- contracts that were proved by hand
-- nothing told here: the shelf's contract of sort.Strings stands in its place


/-! ### strconv_bool2_int: function 40 -/
-- contracts that were proved by hand
-- nothing told here: the shelf stands in its place


/-! ### strconv_numDigits: function 35 -/
-- contracts that were proved by hand
-- nothing told here: the shelf stands in its place


/-! ### strconv_formatBase10: function 36 -/
-- contracts that were proved by hand
-- nothing told here: the shelf stands in its place


/-! ### strconv_isPowerOfTwo: function 41 -/
-- contracts that were proved by hand
-- nothing told here: the shelf stands in its place


-- NOT PRINTED: function 43 (bits_TrailingZeros32)

-- NOT PRINTED: function 44 (bits_TrailingZeros64)

-- NOT PRINTED: function 42 (bits_TrailingZeros)

/-! ### strconv_formatBits: function 37 -/
-- contracts that were proved by hand
-- nothing told here: the shelf stands in its place


/-! ### strconv_FormatInt: function 33 -/
-- contracts that were proved by hand
-- nothing told here: the shelf stands in its place


/-! ### strconv_Itoa_32: function 32 -/
-- contracts that were proved by hand
-- nothing told here: the shelf stands in its place


-- NOT PRINTED: function 29 (strconv_Itoa_29)

-- NOT PRINTED: function 25 (strconv_baseError)

-- NOT PRINTED: function 26 (strconv_bitSizeError)

-- NOT PRINTED: function 21 (strconv_toError)

-- NOT PRINTED: function 17 (strconv_Atoi_17)

-- NOT PRINTED: function 14 (timeinterval_parseTime)

-- NOT PRINTED: function 11 (timeinterval_TimeRange_UnmarshalYAML)

-- NOT PRINTED: function 8 (timeinterval_ZzTimes)

end Go.Proofs.YtfbcpnjeonijaaaDoor.Q
