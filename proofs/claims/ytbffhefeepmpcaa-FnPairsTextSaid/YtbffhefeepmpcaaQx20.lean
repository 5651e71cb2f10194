-- printed by this project's own program wip/tools/mkprint.py (the kit's print.py with hand-proved contracts put in)
import Derived.Test.YtbffhefeepmpcaaQx0
namespace Go.Proofs.Ytbffhefeepmpcaa.Q
open Go.RowKit Go.Proofs.YtbffhefeepmpcaaW.PrintWords Go.Proofs.YtbffhefeepmpcaaW.PrintLast Go.Proofs.YtbffhefeepmpcaaW.PrintMore
attribute [local go_sem] max2_int min2_int max_two min_two max_three min_three max_four min_four   -- for this text's walks alone
set_option linter.unusedVariables false
set_option linter.unusedSimpArgs false

/-! ### laws_zzFits6: function 42 -/
def laws_zzFits6.l0 : Nat → List ByteArray → Int → Int → Option (Bool)
  | 0, _, _, _ => none
  | k + 1, x8, x9, x10 => if x10 < x9 then (if 0 ≤ x10 then (if x10 < (x8.length : Int) then (if ((rdOf ByteArray.empty x8 x10).size : Int) > 2147483647 then (some false) else (laws_zzFits6.l0 k x8 x9 (wrap64 (x10 + 1)))) else (none)) else (none)) else (some true)
def laws_zzFits6.f (k : Nat) (l0 : List ByteArray) : Option (Bool) := if (l0.length : Int) > 2147483647 then (some false) else (laws_zzFits6.l0 k l0 (l0.length : Int) 0)
theorem laws_zzFits6.mono_l : ∀ k, (∀ y0 y1 y2, LeO (laws_zzFits6.l0 k y0 y1 y2) (laws_zzFits6.l0 (k + 1) y0 y1 y2))
  | 0 => fun _ _ _ r h => by simp [laws_zzFits6.l0] at h
  | k + 1 => by
    have ih0 := laws_zzFits6.mono_l k
    · intro y0 y1 y2
      unfold laws_zzFits6.l0
      repeat' first
      | (with_reducible exact ih0 _ _ _)
      | (with_reducible exact LeO.refl _)
      | (with_reducible exact LeO.none _)
      | (with_reducible refine LeO.ite ?_ ?_)
      | (with_reducible refine LeO.bind ?_ (fun _ => ?_))
      | exact ih0 _ _ _
      | exact LeO.none _
      | refine LeO.ite ?_ ?_
      | refine LeO.bind ?_ (fun _ => ?_)
theorem laws_zzFits6.mono : ∀ a0 k, LeO (laws_zzFits6.f k a0) (laws_zzFits6.f (k + 1) a0) := by
  intro a0 k
  have ih0 := laws_zzFits6.mono_l k
  unfold laws_zzFits6.f
  repeat' first
      | (with_reducible exact ih0 _ _ _)
      | (with_reducible exact LeO.refl _)
      | (with_reducible exact LeO.none _)
      | (with_reducible refine LeO.ite ?_ ?_)
      | (with_reducible refine LeO.bind ?_ (fun _ => ?_))
      | exact ih0 _ _ _
      | exact LeO.none _
      | refine LeO.ite ?_ ?_
      | refine LeO.bind ?_ (fun _ => ?_)
set_option maxHeartbeats 8000000 in
set_option maxRecDepth 100000 in
theorem laws_zzFits6.calls (k : Nat) (A0 : Option Addr) (c0 : Nat) (l0 : List ByteArray) (r : Bool) (w : World) (hr0 : Kd.C Kd.string w A0 l0.length l0) (hc0 : l0.length ≤ c0) (h : laws_zzFits6.f k l0 = some r) :
    Calls Try.prog 42 #[.slice A0 l0.length c0] w fun e w' => e = .returned (.bool r) ∧ Drawn0 w w' := by
  have HR0 := Aside0.mk hr0
  have HC0 := Aside0.mk hc0
  clear hr0 hc0
  have H : (if (l0.length : Int) > 2147483647 then (some false) else (laws_zzFits6.l0 k l0 (l0.length : Int) 0)) = some r := h
  clear h
  by_cases c2 : (l0.length : Int) > 2147483647
  · rw [if_pos c2] at H
    have c2b0 : decide (2147483647 < (l0.length : Int)) = true := decide_eq_true c2
    have c2b1 : decide (2147483647 < l0.length) = true := decide_eq_true (by omega)
    clear c2
    obtain rfl := Option.some.inj H
    go_enter Try.func42, Try.ntmps42
    go_wp2
    go_ret
    exact ⟨by first | rfl | (simp; done) | (simp [*]; done), by repeat (first | exact Drawn0.refl _ | apply Drawn0.step)⟩
  · rw [if_neg c2] at H
    have c2b0 : decide (2147483647 < (l0.length : Int)) = false := decide_eq_false c2
    have c2b1 : decide (2147483647 < l0.length) = false := decide_eq_false (by omega)
    clear c2
    have H' := Aside0.mk H
    clear H
    go_enter Try.func42, Try.ntmps42
    go_wp2
    go_loopg [10] k (fun kq v10 w' => ∃ (x10_1 : Int), v10 = .int .i64 x10_1 ∧ Aside0 (laws_zzFits6.l0 kq l0 (l0.length : Int) x10_1 = some r) ∧ Aside0 (kq ≤ k) ∧ Drawn0 w w')
    case atStart => exact ⟨(0), (by first | rfl | (simp; done) | (simp [*]; done)), H', ⟨Nat.le_refl _⟩, by repeat (first | exact Drawn0.refl _ | apply Drawn0.step)⟩
    case round =>
      clear H'
      try clear c2
      try clear c2b0
      try clear c2b1
      try clear p2
      obtain ⟨x10_1, rfl, HA, HK1, ⟨m1, rfl⟩⟩ := hrel
      cases gk with
      | zero => exact absurd HA.out (by simp [laws_zzFits6.l0])
      | succ k1 =>
        have H := HA.out
        clear HA
        simp only [laws_zzFits6.l0] at H
        by_cases c3 : x10_1 < (l0.length : Int)
        · rw [if_pos c3] at H
          have c3b0 : decide (x10_1 < (l0.length : Int)) = true := decide_eq_true c3
          clear c3
          by_cases c4 : 0 ≤ x10_1
          · rw [if_pos c4] at H
            have c4b0 : decide (0 ≤ x10_1) = true := decide_eq_true c4
            clear c4
            by_cases c5 : x10_1 < (l0.length : Int)
            · rw [if_pos c5] at H
              have c5b0 : decide (x10_1 < (l0.length : Int)) = true := decide_eq_true c5
              clear c5
              by_cases c6 : ((rdOf ByteArray.empty l0 x10_1).size : Int) > 2147483647
              · rw [if_pos c6] at H
                have c6b0 : decide (2147483647 < ((rdOf ByteArray.empty l0 x10_1).size : Int)) = true := decide_eq_true c6
                have c6b1 : decide (2147483647 < (rdOf ByteArray.empty l0 x10_1).size) = true := decide_eq_true (by omega)
                clear c6
                obtain rfl := Option.some.inj H
                have p351 : 0 ≤ (x10_1 : Int) := of_decide_eq_true (by first | (with_reducible assumption) | assumption)
                have q351 : x10_1 < (l0.length : Int) := of_decide_eq_true (by first | (with_reducible assumption) | assumption)
                obtain ⟨ad351, e351, hx351_0⟩ := Kd.at_string HR0.out x10_1 p351 q351
                cases e351
                replace p351 := eq_true p351
                replace q351 := eq_true q351
                go_wp2
                go_ret
                exact ⟨by first | rfl | (simp; done) | (simp [*]; done), by repeat (first | exact Drawn0.refl _ | apply Drawn0.step)⟩
              · rw [if_neg c6] at H
                have c6b0 : decide (2147483647 < ((rdOf ByteArray.empty l0 x10_1).size : Int)) = false := decide_eq_false c6
                have c6b1 : decide (2147483647 < (rdOf ByteArray.empty l0 x10_1).size) = false := decide_eq_false (by omega)
                clear c6
                have H' := Aside0.mk H
                clear H
                have p351 : 0 ≤ (x10_1 : Int) := of_decide_eq_true (by first | (with_reducible assumption) | assumption)
                have q351 : x10_1 < (l0.length : Int) := of_decide_eq_true (by first | (with_reducible assumption) | assumption)
                obtain ⟨ad351, e351, hx351_0⟩ := Kd.at_string HR0.out x10_1 p351 q351
                cases e351
                replace p351 := eq_true p351
                replace q351 := eq_true q351
                go_wp2
                go_roundg k1
                case measure => have := HK1.out; omega
                case rel => exact ⟨(wrap64 (x10_1 + 1)), (by first | rfl | (simp; done) | (simp [*]; done)), H', ⟨by have := HK1.out; omega⟩, by repeat (first | exact Drawn0.refl _ | apply Drawn0.step)⟩
            · rw [if_neg c5] at H
              exact absurd H (by simp)
          · rw [if_neg c4] at H
            exact absurd H (by simp)
        · rw [if_neg c3] at H
          have c3b0 : decide (x10_1 < (l0.length : Int)) = false := decide_eq_false c3
          clear c3
          obtain rfl := Option.some.inj H
          go_wp2
          go_ret
          exact ⟨by first | rfl | (simp; done) | (simp [*]; done), by repeat (first | exact Drawn0.refl _ | apply Drawn0.step)⟩

/-! ### laws_slight: function 43 -/
mutual
def laws_slight.j0 : Nat → List ByteArray → ByteArray → Bool → Option (Bool)
  | 0, _, _, _ => none
  | k + 1, x0, x1, x23 => if x23 = true then (some false) else (laws_slight.l0 k (wrap64 ((x0.length : Int) * (x1.size : Int))) x0 (x0.length : Int) 0)
def laws_slight.l0 : Nat → Int → List ByteArray → Int → Int → Option (Bool)
  | 0, _, _, _, _ => none
  | k + 1, x5, x29, x30, x31 => if x31 < x30 then (if 0 ≤ x31 then (if x31 < (x29.length : Int) then (if ((rdOf ByteArray.empty x29 x31).size : Int) > (wrap64 (262144 - x5)) then (some false) else (laws_slight.l0 k (wrap64 (x5 + ((rdOf ByteArray.empty x29 x31).size : Int))) x29 x30 (wrap64 (x31 + 1)))) else (none)) else (none)) else (some true)
end
def laws_slight.f (k : Nat) (l0 : List ByteArray) (a1 : ByteArray) : Option (Bool) := if (l0.length : Int) > 10000 then (laws_slight.j0 k l0 a1 true) else (if (a1.size : Int) > 262144 then (laws_slight.j0 k l0 a1 true) else (laws_slight.j0 k l0 a1 (decide ((wrap64 ((l0.length : Int) * (a1.size : Int))) > 262144))))
theorem laws_slight.mono_l : ∀ k, (∀ y0 y1 y2, LeO (laws_slight.j0 k y0 y1 y2) (laws_slight.j0 (k + 1) y0 y1 y2)) ∧ (∀ y0 y1 y2 y3, LeO (laws_slight.l0 k y0 y1 y2 y3) (laws_slight.l0 (k + 1) y0 y1 y2 y3))
  | 0 => ⟨fun _ _ _ r h => by simp [laws_slight.j0] at h, fun _ _ _ _ r h => by simp [laws_slight.l0] at h⟩
  | k + 1 => by
    obtain ⟨ih0, ih1⟩ := laws_slight.mono_l k
    refine ⟨?_, ?_⟩
    · intro y0 y1 y2
      unfold laws_slight.j0
      repeat' first
      | (with_reducible exact ih0 _ _ _)
      | (with_reducible exact ih1 _ _ _ _)
      | (with_reducible exact LeO.refl _)
      | (with_reducible exact LeO.none _)
      | (with_reducible refine LeO.ite ?_ ?_)
      | (with_reducible refine LeO.bind ?_ (fun _ => ?_))
      | exact ih0 _ _ _
      | exact ih1 _ _ _ _
      | exact LeO.none _
      | refine LeO.ite ?_ ?_
      | refine LeO.bind ?_ (fun _ => ?_)
    · intro y0 y1 y2 y3
      unfold laws_slight.l0
      repeat' first
      | (with_reducible exact ih0 _ _ _)
      | (with_reducible exact ih1 _ _ _ _)
      | (with_reducible exact LeO.refl _)
      | (with_reducible exact LeO.none _)
      | (with_reducible refine LeO.ite ?_ ?_)
      | (with_reducible refine LeO.bind ?_ (fun _ => ?_))
      | exact ih0 _ _ _
      | exact ih1 _ _ _ _
      | exact LeO.none _
      | refine LeO.ite ?_ ?_
      | refine LeO.bind ?_ (fun _ => ?_)
theorem laws_slight.mono : ∀ a0 a1 k, LeO (laws_slight.f k a0 a1) (laws_slight.f (k + 1) a0 a1) := by
  intro a0 a1 k
  obtain ⟨ih0, ih1⟩ := laws_slight.mono_l k
  unfold laws_slight.f
  repeat' first
      | (with_reducible exact ih0 _ _ _)
      | (with_reducible exact ih1 _ _ _ _)
      | (with_reducible exact LeO.refl _)
      | (with_reducible exact LeO.none _)
      | (with_reducible refine LeO.ite ?_ ?_)
      | (with_reducible refine LeO.bind ?_ (fun _ => ?_))
      | exact ih0 _ _ _
      | exact ih1 _ _ _ _
      | exact LeO.none _
      | refine LeO.ite ?_ ?_
      | refine LeO.bind ?_ (fun _ => ?_)
set_option maxHeartbeats 8000000 in
set_option maxRecDepth 100000 in
theorem laws_slight.calls (k : Nat) (A0 : Option Addr) (c0 : Nat) (l0 : List ByteArray) (a1 : ByteArray) (r : Bool) (w : World) (hr0 : Kd.C Kd.string w A0 l0.length l0) (hc0 : l0.length ≤ c0) (h : laws_slight.f k l0 a1 = some r) :
    Calls Try.prog 43 #[.slice A0 l0.length c0, .string a1] w fun e w' => e = .returned (.bool r) ∧ Drawn0 w w' := by
  have HR0 := Aside0.mk hr0
  have HC0 := Aside0.mk hc0
  clear hr0 hc0
  have H : (if (l0.length : Int) > 10000 then (laws_slight.j0 k l0 a1 true) else (if (a1.size : Int) > 262144 then (laws_slight.j0 k l0 a1 true) else (laws_slight.j0 k l0 a1 (decide ((wrap64 ((l0.length : Int) * (a1.size : Int))) > 262144))))) = some r := h
  clear h
  have HC3 := Aside0.mk H
  clear H
  go_enter Try.func43, Try.ntmps43
  go_upto_region 1 with (fail)
  go_cut [23] (fun v23 wc => ∃ (kq : Nat) (x23_2 : Bool), v23 = .bool x23_2 ∧ Aside0 (laws_slight.j0 kq l0 a1 x23_2 = some r) ∧ Aside0 (kq ≤ k) ∧ Drawn0 w wc)
  case first =>
    have H := HC3.out
    clear HC3
    by_cases c4 : (l0.length : Int) > 10000
    · rw [if_pos c4] at H
      have c4b0 : decide (10000 < (l0.length : Int)) = true := decide_eq_true c4
      have c4b1 : decide (10000 < l0.length) = true := decide_eq_true (by omega)
      clear c4
      (first | rw [c4b0] | (simp only [i64_w, i32_w]; rw [c4b0]) | skip)
      have H' := Aside0.mk H
      clear H
      go_wp2
      go_meet
      case rel => exact ⟨_, (true), (by first | rfl | (simp; done) | (simp [*]; done)), H', ⟨by first | omega | exact Nat.le_refl _⟩, by repeat (first | exact Drawn0.refl _ | apply Drawn0.step)⟩
    · rw [if_neg c4] at H
      have c4b0 : decide (10000 < (l0.length : Int)) = false := decide_eq_false c4
      have c4b1 : decide (10000 < l0.length) = false := decide_eq_false (by omega)
      clear c4
      (first | rw [c4b0] | (simp only [i64_w, i32_w]; rw [c4b0]) | skip)
      by_cases c5 : (a1.size : Int) > 262144
      · rw [if_pos c5] at H
        have c5b0 : decide (262144 < (a1.size : Int)) = true := decide_eq_true c5
        have c5b1 : decide (262144 < a1.size) = true := decide_eq_true (by omega)
        clear c5
        have H' := Aside0.mk H
        clear H
        go_wp2
        go_meet
        case rel => exact ⟨_, (true), (by first | rfl | (simp; done) | (simp [*]; done)), H', ⟨by first | omega | exact Nat.le_refl _⟩, by repeat (first | exact Drawn0.refl _ | apply Drawn0.step)⟩
      · rw [if_neg c5] at H
        have c5b0 : decide (262144 < (a1.size : Int)) = false := decide_eq_false c5
        have c5b1 : decide (262144 < a1.size) = false := decide_eq_false (by omega)
        clear c5
        have H' := Aside0.mk H
        clear H
        go_wp2
        go_meet
        case rel => exact ⟨_, (decide ((wrap64 ((l0.length : Int) * (a1.size : Int))) > 262144)), (by first | rfl | (simp; done) | (simp [*]; done)), H', ⟨by first | omega | exact Nat.le_refl _⟩, by repeat (first | exact Drawn0.refl _ | apply Drawn0.step)⟩
  case rest =>
    clear HC3
    try clear p2
    try clear c4
    try clear c4b0
    try clear c4b1
    try clear c5
    try clear c5b0
    try clear c5b1
    obtain ⟨kq, x23_2, rfl, HA, HJ2, ⟨mc2, rfl⟩⟩ := hcut
    cases kq with
    | zero => exact absurd HA.out (by simp [laws_slight.j0])
    | succ kj2 =>
      have H := HA.out
      clear HA
      simp only [laws_slight.j0] at H
      by_cases c6 : x23_2 = true
      · subst c6
        have H1 : (some false) = some r := by rw [if_pos rfl] at H; exact H
        clear H
        have H := H1
        clear H1
        obtain rfl := Option.some.inj H
        go_wp2
        go_ret
        exact ⟨by first | rfl | (simp; done) | (simp [*]; done), by repeat (first | exact Drawn0.refl _ | apply Drawn0.step)⟩
      · replace c6 := Bool.eq_false_iff.mpr c6
        subst c6
        have H1 : (laws_slight.l0 kj2 (wrap64 ((l0.length : Int) * (a1.size : Int))) l0 (l0.length : Int) 0) = some r := by rw [if_neg (show ¬ (false = true) by decide)] at H; exact H
        clear H
        have H := H1
        clear H1
        have H' := Aside0.mk H
        clear H
        go_wp2
        go_loopg [5, 31] kj2 (fun kq v5 v31 w' => ∃ (x5_2 : Int) (x31_2 : Int), v5 = .int .i64 x5_2 ∧ v31 = .int .i64 x31_2 ∧ Aside0 (laws_slight.l0 kq x5_2 l0 (l0.length : Int) x31_2 = some r) ∧ Aside0 (kq ≤ kj2) ∧ Drawn0 w w')
        case atStart => exact ⟨(wrap64 ((l0.length : Int) * (a1.size : Int))), (0), (by first | rfl | (simp; done) | (simp [*]; done)), (by first | rfl | (simp; done) | (simp [*]; done)), H', ⟨Nat.le_refl _⟩, by repeat (first | exact Drawn0.refl _ | apply Drawn0.step)⟩
        case round =>
          clear H'
          try clear c2
          try clear p2
          try clear c4
          try clear c4b0
          try clear c4b1
          try clear c5
          try clear c5b0
          try clear c5b1
          try clear c6
          try clear p6
          try clear p2
          obtain ⟨x5_2, x31_2, rfl, rfl, HA, HK2, ⟨m2, rfl⟩⟩ := hrel
          cases gk with
          | zero => exact absurd HA.out (by simp [laws_slight.l0])
          | succ k2 =>
            have H := HA.out
            clear HA
            simp only [laws_slight.l0] at H
            by_cases c7 : x31_2 < (l0.length : Int)
            · rw [if_pos c7] at H
              have c7b0 : decide (x31_2 < (l0.length : Int)) = true := decide_eq_true c7
              clear c7
              by_cases c8 : 0 ≤ x31_2
              · rw [if_pos c8] at H
                have c8b0 : decide (0 ≤ x31_2) = true := decide_eq_true c8
                clear c8
                by_cases c9 : x31_2 < (l0.length : Int)
                · rw [if_pos c9] at H
                  have c9b0 : decide (x31_2 < (l0.length : Int)) = true := decide_eq_true c9
                  clear c9
                  by_cases c10 : ((rdOf ByteArray.empty l0 x31_2).size : Int) > (wrap64 (262144 - x5_2))
                  · rw [if_pos c10] at H
                    have c10b0 : decide ((wrap64 (262144 - x5_2)) < ((rdOf ByteArray.empty l0 x31_2).size : Int)) = true := decide_eq_true c10
                    clear c10
                    obtain rfl := Option.some.inj H
                    have p352 : 0 ≤ (x31_2 : Int) := of_decide_eq_true (by first | (with_reducible assumption) | assumption)
                    have q352 : x31_2 < (l0.length : Int) := of_decide_eq_true (by first | (with_reducible assumption) | assumption)
                    obtain ⟨ad352, e352, hx352_0⟩ := Kd.at_string HR0.out x31_2 p352 q352
                    cases e352
                    replace p352 := eq_true p352
                    replace q352 := eq_true q352
                    go_wp2
                    go_ret
                    exact ⟨by first | rfl | (simp; done) | (simp [*]; done), by repeat (first | exact Drawn0.refl _ | apply Drawn0.step)⟩
                  · rw [if_neg c10] at H
                    have c10b0 : decide ((wrap64 (262144 - x5_2)) < ((rdOf ByteArray.empty l0 x31_2).size : Int)) = false := decide_eq_false c10
                    clear c10
                    have H' := Aside0.mk H
                    clear H
                    have p352 : 0 ≤ (x31_2 : Int) := of_decide_eq_true (by first | (with_reducible assumption) | assumption)
                    have q352 : x31_2 < (l0.length : Int) := of_decide_eq_true (by first | (with_reducible assumption) | assumption)
                    obtain ⟨ad352, e352, hx352_0⟩ := Kd.at_string HR0.out x31_2 p352 q352
                    cases e352
                    replace p352 := eq_true p352
                    replace q352 := eq_true q352
                    go_wp2
                    go_roundg k2
                    case measure => have := HJ2.out; have := HK2.out; omega
                    case rel => exact ⟨(wrap64 (x5_2 + ((rdOf ByteArray.empty l0 x31_2).size : Int))), (wrap64 (x31_2 + 1)), (by first | rfl | (simp; done) | (simp [*]; done)), (by first | rfl | (simp; done) | (simp [*]; done)), H', ⟨by have := HJ2.out; have := HK2.out; omega⟩, by repeat (first | exact Drawn0.refl _ | apply Drawn0.step)⟩
                · rw [if_neg c9] at H
                  exact absurd H (by simp)
              · rw [if_neg c8] at H
                exact absurd H (by simp)
            · rw [if_neg c7] at H
              have c7b0 : decide (x31_2 < (l0.length : Int)) = false := decide_eq_false c7
              clear c7
              obtain rfl := Option.some.inj H
              go_wp2
              go_ret
              exact ⟨by first | rfl | (simp; done) | (simp [*]; done), by repeat (first | exact Drawn0.refl _ | apply Drawn0.step)⟩

-- NOT PRINTED: function 91 (abi_NoEscape)

-- NOT PRINTED: function 88 (strings_Builder_copyCheck)

-- NOT PRINTED: function 75 (strings_Builder_WriteString)

-- NOT PRINTED: function 77 (strings_Builder_String)

-- NOT PRINTED: function 94 (bytealg_MakeNoZero)

-- NOT PRINTED: function 93 (strings_Builder_grow)

-- NOT PRINTED: function 90 (strings_Builder_Grow)

-- NOT PRINTED: function 78 (strings_Join)

-- NOT PRINTED: function 67 (template_Strings_Join)

/-! ### impl_Joined: function 44 -/
-- a contract that was proved by hand
theorem add_plain2 (b o n : Nat) : (⟨b, o, none⟩ : Addr).add n = ⟨b, o + n, none⟩ := by unfold Addr.add; split <;> simp_all
def joined (l : List ByteArray) (sep : ByteArray) : ByteArray := ⟨(Go.Lib.join (l.map (·.data.toList)) sep.data.toList).toArray⟩
def impl_Joined.f (l0 : List ByteArray) (a1 : ByteArray) : Option ByteArray := if l0.length ≤ 140737488355328 ∧ (Go.Lib.join (l0.map (·.data.toList)) a1.data.toList).length ≤ 140737488355328 then some (joined l0 a1) else none
theorem plain_addr {w : World} {ad : Addr} {v : Value} (h : w.cell? ad = some v) : ad = ⟨ad.block, ad.off, none⟩ := by
  obtain ⟨b, o, s⟩ := ad
  cases s with
  | none => rfl
  | some k =>
    unfold World.cell? at h
    split at h <;> simp at h
set_option maxHeartbeats 1600000 in
set_option maxRecDepth 100000 in
theorem strings_Join.all (A0 : Option Addr) (c0 : Nat) (l0 : List ByteArray) (a1 : ByteArray) (w : World) (hr0 : Kd.C Kd.string w A0 l0.length l0) (hc0 : l0.length ≤ c0) (h1 : l0.length ≤ 140737488355328) (h2 : (Go.Lib.join (l0.map (·.data.toList)) a1.data.toList).length ≤ 140737488355328) :
    Calls Try.prog 78 #[.slice A0 l0.length c0, .string a1] w fun e w' => e = .returned (.string (joined l0 a1)) ∧ Below w.heap.size w w' := by
  by_cases h0 : l0.length = 0
  · obtain rfl : l0 = [] := List.length_eq_zero_iff.1 h0
    refine (Try.strings_Join_none A0 c0 a1 w).mono ?_
    rintro e w1 ⟨rfl, rfl⟩
    exact ⟨rfl, Below.refl _ _⟩
  · obtain ⟨ad, e0, hx⟩ := Kd.at_string hr0 0 (by omega) (by omega)
    cases e0
    have hp := plain_addr (by simpa [Addr.add] using hx)
    obtain ⟨b, o, s⟩ := ad
    obtain rfl : s = none := by injection hp
    have hcells : ∀ (j : Nat) x, l0[j]? = some x → w.cell? ⟨b, o + j, none⟩ = some (.string x) := by
      intro j x hj
      have hlt : j < l0.length := (List.getElem?_eq_some_iff.1 hj).1
      obtain ⟨ad', e1, hy⟩ := Kd.at_string hr0 (j : Int) (by omega) (by omega)
      cases e1
      have hz : rdOf ByteArray.empty l0 (j : Int) = x := by simp [rdOf, List.getD_eq_getElem?_getD, hj]
      rw [hz, Int.toNat_natCast, add_plain2] at hy
      exact hy
    have hb := World.block_lt_of_cell? w _ (hcells 0 _ (List.getElem?_eq_getElem (by omega)))
    exact Try.strings_Join b o c0 l0 a1 w hcells hb h1 hc0 h2
set_option maxHeartbeats 1600000 in
set_option maxRecDepth 100000 in
theorem template_Strings_Join.all (A0 : Option Addr) (n c0 : Nat) (a1 r : ByteArray) (w : World) (C : Calls Try.prog 78 #[.slice A0 n c0, .string a1] w fun e w' => e = .returned (.string r) ∧ Below w.heap.size w w') :
    Calls Try.prog 67 #[.slice A0 n c0, .string a1] w fun e w' => e = .returned (.string r) ∧ Below w.heap.size w w' := by
  have C0 := Aside0.mk C
  clear C
  go_enter Try.func67, Try.ntmps67
  go_wp2_with fail
  refine C0.out.mono ?_
  rintro e w1 ⟨rfl, hB⟩
  have HB := Aside0.mk hB
  clear hB
  go_wp2
  go_ret
  exact ⟨rfl, HB.out⟩
set_option maxHeartbeats 1600000 in
set_option maxRecDepth 100000 in
theorem impl_Joined.calls (A0 : Option Addr) (c0 : Nat) (l0 : List ByteArray) (a1 : ByteArray) (r : ByteArray) (w : World) (hr0 : Kd.C Kd.string w A0 l0.length l0) (hc0 : l0.length ≤ c0) (h : impl_Joined.f l0 a1 = some r) :
    Calls Try.prog 44 #[.slice A0 l0.length c0, .string a1] w fun e w' => e = .returned (.string r) ∧ Below w.heap.size w w' := by
  unfold impl_Joined.f at h
  split at h
  · rename_i hl
    obtain rfl := Option.some.inj h
    have C := template_Strings_Join.all A0 _ c0 a1 _ w (strings_Join.all A0 c0 l0 a1 w hr0 hc0 hl.1 hl.2)
    generalize joined l0 a1 = r at *
    have C0 := Aside0.mk C
    clear C hr0 h hl
    go_enter Try.func44, Try.ntmps44
    go_wp2_with fail
    refine C0.out.mono ?_
    rintro e w1 ⟨rfl, hB⟩
    have HB := Aside0.mk hB
    clear hB
    go_wp2
    go_ret
    exact ⟨rfl, HB.out⟩
  · cases h


/-! ### spec_Joined: function 45 -/
def spec_Joined.l0 : Nat → List ByteArray → ByteArray → ByteArray → Int → Int → Option (ByteArray)
  | 0, _, _, _, _, _ => none
  | k + 1, x0, x1, x5, x8, x9 => if x9 < x8 then (if x9 > 0 then (if x5.size + x1.size ≤ 9223372036854775807 then (if 0 ≤ x9 then (if x9 < (x0.length : Int) then (if (x5 ++ x1).size + (rdOf ByteArray.empty x0 x9).size ≤ 9223372036854775807 then (spec_Joined.l0 k x0 x1 ((x5 ++ x1) ++ (rdOf ByteArray.empty x0 x9)) x8 (wrap64 (x9 + 1))) else (none)) else (none)) else (none)) else (none)) else (if 0 ≤ x9 then (if x9 < (x0.length : Int) then (if x5.size + (rdOf ByteArray.empty x0 x9).size ≤ 9223372036854775807 then (spec_Joined.l0 k x0 x1 (x5 ++ (rdOf ByteArray.empty x0 x9)) x8 (wrap64 (x9 + 1))) else (none)) else (none)) else (none))) else (some x5)
def spec_Joined.f (k : Nat) (l0 : List ByteArray) (a1 : ByteArray) : Option (ByteArray) := spec_Joined.l0 k l0 a1 (⟨#[]⟩ : ByteArray) (l0.length : Int) 0
theorem spec_Joined.mono_l : ∀ k, (∀ y0 y1 y2 y3 y4, LeO (spec_Joined.l0 k y0 y1 y2 y3 y4) (spec_Joined.l0 (k + 1) y0 y1 y2 y3 y4))
  | 0 => fun _ _ _ _ _ r h => by simp [spec_Joined.l0] at h
  | k + 1 => by
    have ih0 := spec_Joined.mono_l k
    · intro y0 y1 y2 y3 y4
      unfold spec_Joined.l0
      repeat' first
      | (with_reducible exact ih0 _ _ _ _ _)
      | (with_reducible exact LeO.refl _)
      | (with_reducible exact LeO.none _)
      | (with_reducible refine LeO.ite ?_ ?_)
      | (with_reducible refine LeO.bind ?_ (fun _ => ?_))
      | exact ih0 _ _ _ _ _
      | exact LeO.none _
      | refine LeO.ite ?_ ?_
      | refine LeO.bind ?_ (fun _ => ?_)
theorem spec_Joined.mono : ∀ a0 a1 k, LeO (spec_Joined.f k a0 a1) (spec_Joined.f (k + 1) a0 a1) := by
  intro a0 a1 k
  have ih0 := spec_Joined.mono_l k
  unfold spec_Joined.f
  repeat' first
      | (with_reducible exact ih0 _ _ _ _ _)
      | (with_reducible exact LeO.refl _)
      | (with_reducible exact LeO.none _)
      | (with_reducible refine LeO.ite ?_ ?_)
      | (with_reducible refine LeO.bind ?_ (fun _ => ?_))
      | exact ih0 _ _ _ _ _
      | exact LeO.none _
      | refine LeO.ite ?_ ?_
      | refine LeO.bind ?_ (fun _ => ?_)
set_option maxHeartbeats 8000000 in
set_option maxRecDepth 100000 in
theorem spec_Joined.calls (k : Nat) (A0 : Option Addr) (c0 : Nat) (l0 : List ByteArray) (a1 : ByteArray) (r : ByteArray) (w : World) (hr0 : Kd.C Kd.string w A0 l0.length l0) (hc0 : l0.length ≤ c0) (h : spec_Joined.f k l0 a1 = some r) :
    Calls Try.prog 45 #[.slice A0 l0.length c0, .string a1] w fun e w' => e = .returned (.string r) ∧ Drawn0 w w' := by
  have HR0 := Aside0.mk hr0
  have HC0 := Aside0.mk hc0
  clear hr0 hc0
  have H : (spec_Joined.l0 k l0 a1 (⟨#[]⟩ : ByteArray) (l0.length : Int) 0) = some r := h
  clear h
  have H' := Aside0.mk H
  clear H
  go_enter Try.func45, Try.ntmps45
  go_wp2
  go_loopg [5, 9] k (fun kq v5 v9 w' => ∃ (x5_1 : ByteArray) (x9_1 : Int), v5 = .string x5_1 ∧ v9 = .int .i64 x9_1 ∧ Aside0 (spec_Joined.l0 kq l0 a1 x5_1 (l0.length : Int) x9_1 = some r) ∧ Aside0 (kq ≤ k) ∧ Drawn0 w w')
  case atStart => exact ⟨((⟨#[]⟩ : ByteArray)), (0), (by first | rfl | (simp; done) | (simp [*]; done)), (by first | rfl | (simp; done) | (simp [*]; done)), H', ⟨Nat.le_refl _⟩, by repeat (first | exact Drawn0.refl _ | apply Drawn0.step)⟩
  case round =>
    clear H'
    try clear p2
    obtain ⟨x5_1, x9_1, rfl, rfl, HA, HK1, ⟨m1, rfl⟩⟩ := hrel
    cases gk with
    | zero => exact absurd HA.out (by simp [spec_Joined.l0])
    | succ k1 =>
      have H := HA.out
      clear HA
      simp only [spec_Joined.l0] at H
      by_cases c3 : x9_1 < (l0.length : Int)
      · rw [if_pos c3] at H
        have c3b0 : decide (x9_1 < (l0.length : Int)) = true := decide_eq_true c3
        clear c3
        by_cases c4 : x9_1 > 0
        · rw [if_pos c4] at H
          have c4b0 : decide (0 < x9_1) = true := decide_eq_true c4
          clear c4
          by_cases c5 : x5_1.size + a1.size ≤ 9223372036854775807
          · rw [if_pos c5] at H
            have c5b0 := eq_true c5
            have c5b1 : decide (x5_1.size + a1.size ≤ 9223372036854775807) = true := decide_eq_true c5
            try have c5b2 : (9223372036854775807 < x5_1.size + a1.size) = False := eq_false (Nat.not_lt.2 c5)
            by_cases c6 : 0 ≤ x9_1
            · rw [if_pos c6] at H
              have c6b0 : decide (0 ≤ x9_1) = true := decide_eq_true c6
              clear c6
              by_cases c7 : x9_1 < (l0.length : Int)
              · rw [if_pos c7] at H
                have c7b0 : decide (x9_1 < (l0.length : Int)) = true := decide_eq_true c7
                clear c7
                by_cases c8 : (x5_1 ++ a1).size + (rdOf ByteArray.empty l0 x9_1).size ≤ 9223372036854775807
                · rw [if_pos c8] at H
                  have c8b0 := eq_true c8
                  have c8b1 : decide ((x5_1 ++ a1).size + (rdOf ByteArray.empty l0 x9_1).size ≤ 9223372036854775807) = true := decide_eq_true c8
                  try have c8b2 : (9223372036854775807 < (x5_1 ++ a1).size + (rdOf ByteArray.empty l0 x9_1).size) = False := eq_false (Nat.not_lt.2 c8)
                  have H' := Aside0.mk H
                  clear H
                  have p355 : 0 ≤ (x9_1 : Int) := of_decide_eq_true (by first | (with_reducible assumption) | assumption)
                  have q355 : x9_1 < (l0.length : Int) := of_decide_eq_true (by first | (with_reducible assumption) | assumption)
                  obtain ⟨ad355, e355, hx355_0⟩ := Kd.at_string HR0.out x9_1 p355 q355
                  cases e355
                  replace p355 := eq_true p355
                  replace q355 := eq_true q355
                  go_wp2
                  go_roundg k1
                  case measure => have := HK1.out; omega
                  case rel => exact ⟨((x5_1 ++ a1) ++ (rdOf ByteArray.empty l0 x9_1)), (wrap64 (x9_1 + 1)), (by first | rfl | (simp; done) | (simp [*]; done)), (by first | rfl | (simp; done) | (simp [*]; done)), H', ⟨by have := HK1.out; omega⟩, by repeat (first | exact Drawn0.refl _ | apply Drawn0.step)⟩
                · rw [if_neg c8] at H
                  exact absurd H (by simp)
              · rw [if_neg c7] at H
                exact absurd H (by simp)
            · rw [if_neg c6] at H
              exact absurd H (by simp)
          · rw [if_neg c5] at H
            exact absurd H (by simp)
        · rw [if_neg c4] at H
          have c4b0 : decide (0 < x9_1) = false := decide_eq_false c4
          clear c4
          by_cases c9 : 0 ≤ x9_1
          · rw [if_pos c9] at H
            have c9b0 : decide (0 ≤ x9_1) = true := decide_eq_true c9
            clear c9
            by_cases c10 : x9_1 < (l0.length : Int)
            · rw [if_pos c10] at H
              have c10b0 : decide (x9_1 < (l0.length : Int)) = true := decide_eq_true c10
              clear c10
              by_cases c11 : x5_1.size + (rdOf ByteArray.empty l0 x9_1).size ≤ 9223372036854775807
              · rw [if_pos c11] at H
                have c11b0 := eq_true c11
                have c11b1 : decide (x5_1.size + (rdOf ByteArray.empty l0 x9_1).size ≤ 9223372036854775807) = true := decide_eq_true c11
                try have c11b2 : (9223372036854775807 < x5_1.size + (rdOf ByteArray.empty l0 x9_1).size) = False := eq_false (Nat.not_lt.2 c11)
                have H' := Aside0.mk H
                clear H
                have p356 : 0 ≤ (x9_1 : Int) := of_decide_eq_true (by first | (with_reducible assumption) | assumption)
                have q356 : x9_1 < (l0.length : Int) := of_decide_eq_true (by first | (with_reducible assumption) | assumption)
                obtain ⟨ad356, e356, hx356_0⟩ := Kd.at_string HR0.out x9_1 p356 q356
                cases e356
                replace p356 := eq_true p356
                replace q356 := eq_true q356
                go_wp2
                go_roundg k1
                case measure => have := HK1.out; omega
                case rel => exact ⟨(x5_1 ++ (rdOf ByteArray.empty l0 x9_1)), (wrap64 (x9_1 + 1)), (by first | rfl | (simp; done) | (simp [*]; done)), (by first | rfl | (simp; done) | (simp [*]; done)), H', ⟨by have := HK1.out; omega⟩, by repeat (first | exact Drawn0.refl _ | apply Drawn0.step)⟩
              · rw [if_neg c11] at H
                exact absurd H (by simp)
            · rw [if_neg c10] at H
              exact absurd H (by simp)
          · rw [if_neg c9] at H
            exact absurd H (by simp)
      · rw [if_neg c3] at H
        have c3b0 : decide (x9_1 < (l0.length : Int)) = false := decide_eq_false c3
        clear c3
        obtain rfl := Option.some.inj H
        go_wp2
        go_ret
        exact ⟨by first | rfl | (simp; done) | (simp [*]; done), by repeat (first | exact Drawn0.refl _ | apply Drawn0.step)⟩

end Go.Proofs.Ytbffhefeepmpcaa.Q
