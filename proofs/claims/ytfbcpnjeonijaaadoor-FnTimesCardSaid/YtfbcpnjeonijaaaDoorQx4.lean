-- printed by this project's own program wip/tools/mkprint.py (the kit's print.py with hand-proved contracts put in)
import Derived.Test.YtfbcpnjeonijaaaDoorQx0
import Derived.Test.YtfbcpnjeonijaaaDoorQx1
import Derived.Test.YtfbcpnjeonijaaaDoorQx2
import Derived.Test.YtfbcpnjeonijaaaDoorQx3
namespace Go.Proofs.YtfbcpnjeonijaaaDoor.Q
open Go.RowKit Go.Proofs.YtfbcpnjeonijaaaDoorW.PrintWords Go.Proofs.YtfbcpnjeonijaaaDoorW.PrintLast Go.Proofs.YtfbcpnjeonijaaaDoorW.PrintMore
attribute [local go_sem] max2_int min2_int max_two min_two max_three min_three max_four min_four   -- for this text's walks alone
set_option linter.unusedVariables false
set_option linter.unusedSimpArgs false

/-! ### spec_Times: function 6 -/
def spec_Times.j0 : Nat → Int → Int → Int → Bool → Option (Int × Int × Int)
  | 0, _, _, _, _ => none
  | k + 1, x7, x9, x11, x31 => if x31 = true then (if 2 = 1 then (some (x7, x9, 1)) else (some (0, 0, 2))) else (if x11 = 1 then (some (x7, x9, 1)) else (some (0, 0, x11)))
def spec_Times.f (k : Nat) (a0 : ByteArray) (a1 : ByteArray) : Option (Int × Int × Int) := (spec_minute.f k a0).bind fun bt119 => ((spec_minute.f k a1).bind fun bt121 => ((spec_both.f k bt119.2 bt121.2).bind fun t123 => (if t123 = 1 then (spec_Times.j0 k bt119.1 bt121.1 t123 (decide (bt119.1 ≥ bt121.1))) else (spec_Times.j0 k bt119.1 bt121.1 t123 false))))
theorem spec_Times.mono_l : ∀ k, (∀ y0 y1 y2 y3, LeO (spec_Times.j0 k y0 y1 y2 y3) (spec_Times.j0 (k + 1) y0 y1 y2 y3))
  | 0 => fun _ _ _ _ r h => by simp [spec_Times.j0] at h
  | k + 1 => by
    have ih0 := spec_Times.mono_l k
    · intro y0 y1 y2 y3
      unfold spec_Times.j0
      repeat' first
      | (with_reducible exact ih0 _ _ _ _)
      | (with_reducible exact spec_both.mono _ _ _)
      | (with_reducible exact spec_minute.mono _ _)
      | (with_reducible exact LeO.refl _)
      | (with_reducible exact LeO.none _)
      | (with_reducible refine LeO.ite ?_ ?_)
      | (with_reducible refine LeO.bind ?_ (fun _ => ?_))
      | exact ih0 _ _ _ _
      | exact spec_both.mono _ _ _
      | exact spec_minute.mono _ _
      | exact LeO.none _
      | refine LeO.ite ?_ ?_
      | refine LeO.bind ?_ (fun _ => ?_)
theorem spec_Times.mono : ∀ a0 a1 k, LeO (spec_Times.f k a0 a1) (spec_Times.f (k + 1) a0 a1) := by
  intro a0 a1 k
  have ih0 := spec_Times.mono_l k
  unfold spec_Times.f
  repeat' first
      | (with_reducible exact ih0 _ _ _ _)
      | (with_reducible exact spec_both.mono _ _ _)
      | (with_reducible exact spec_minute.mono _ _)
      | (with_reducible exact LeO.refl _)
      | (with_reducible exact LeO.none _)
      | (with_reducible refine LeO.ite ?_ ?_)
      | (with_reducible refine LeO.bind ?_ (fun _ => ?_))
      | exact ih0 _ _ _ _
      | exact spec_both.mono _ _ _
      | exact spec_minute.mono _ _
      | exact LeO.none _
      | refine LeO.ite ?_ ?_
      | refine LeO.bind ?_ (fun _ => ?_)
set_option maxHeartbeats 8000000 in
set_option maxRecDepth 100000 in
theorem spec_Times.calls (k : Nat) (a0 : ByteArray) (a1 : ByteArray) (r1 : Int) (r2 : Int) (r3 : Int) (w : World) (h : spec_Times.f k a0 a1 = some (r1, r2, r3)) :
    Calls Tryd.prog 6 #[.string a0, .string a1] w fun e w' => e = .returned (.tuple #[.int .i64 r1, .int .i64 r2, .int .i64 r3]) ∧ Drawn0 w w' := by
  have H : ((spec_minute.f k a0).bind fun bt119 => ((spec_minute.f k a1).bind fun bt121 => ((spec_both.f k bt119.2 bt121.2).bind fun t123 => (if t123 = 1 then (spec_Times.j0 k bt119.1 bt121.1 t123 (decide (bt119.1 ≥ bt121.1))) else (spec_Times.j0 k bt119.1 bt121.1 t123 false))))) = some (r1, r2, r3) := h
  clear h
  replace H := Option.bind_eq_some_iff.mp H
  obtain ⟨⟨t119, t120⟩, A30, H⟩ := H
  replace H : ((spec_minute.f k a1).bind fun bt121 => ((spec_both.f k t120 bt121.2).bind fun t123 => (if t123 = 1 then (spec_Times.j0 k t119 bt121.1 t123 (decide (t119 ≥ bt121.1))) else (spec_Times.j0 k t119 bt121.1 t123 false)))) = some (r1, r2, r3) := H
  have A3 := Aside0.mk A30
  clear A30
  replace H := Option.bind_eq_some_iff.mp H
  obtain ⟨⟨t121, t122⟩, A40, H⟩ := H
  replace H : ((spec_both.f k t120 t122).bind fun t123 => (if t123 = 1 then (spec_Times.j0 k t119 t121 t123 (decide (t119 ≥ t121))) else (spec_Times.j0 k t119 t121 t123 false))) = some (r1, r2, r3) := H
  have A4 := Aside0.mk A40
  clear A40
  replace H := Option.bind_eq_some_iff.mp H
  obtain ⟨t123, A50, H⟩ := H
  replace H : (if t123 = 1 then (spec_Times.j0 k t119 t121 t123 (decide (t119 ≥ t121))) else (spec_Times.j0 k t119 t121 t123 false)) = some (r1, r2, r3) := H
  have A5 := Aside0.mk A50
  clear A50
  have HC6 := Aside0.mk H
  clear H
  go_enter Tryd.func6, Tryd.ntmps6
  go_upto_region 4 with (first | ((with_reducible refine gate_callee (f := 9) rfl ?_); refine goesL_ (some 14) rfl rfl Tryd.func9 (by kernel_rfl) rfl #[.string a0] rfl (by (try simp only [List.map_toArray, List.map_cons, List.map_nil]); first | done | rfl | (simp only [List.length_drop, List.length_take]; rfl)) ?_; (with_reducible refine (spec_minute.calls k a0 t119 t120 _ A3.out).mono ?_); rintro e w' ⟨rfl, ⟨nd, rfl⟩⟩; refine ⟨_, rfl, ?_⟩) | ((with_reducible refine gate_callee (f := 9) rfl ?_); refine goesL_ (some 19) rfl rfl Tryd.func9 (by kernel_rfl) rfl #[.string a1] rfl (by (try simp only [List.map_toArray, List.map_cons, List.map_nil]); first | done | rfl | (simp only [List.length_drop, List.length_take]; rfl)) ?_; (with_reducible refine (spec_minute.calls k a1 t121 t122 _ A4.out).mono ?_); rintro e w' ⟨rfl, ⟨nd, rfl⟩⟩; refine ⟨_, rfl, ?_⟩) | ((with_reducible refine gate_callee (f := 10) rfl ?_); refine goesL_ (some 24) rfl rfl Tryd.func10 (by kernel_rfl) rfl #[.int .i64 t120, .int .i64 t122] rfl (by (try simp only [List.map_toArray, List.map_cons, List.map_nil]); first | done | rfl | (simp only [List.length_drop, List.length_take]; rfl)) ?_; (with_reducible refine (spec_both.calls k t120 t122 t123 _ A5.out).mono ?_); rintro e w' ⟨rfl, ⟨nd, rfl⟩⟩; refine ⟨_, rfl, ?_⟩))
  (try simp only [Act.put, List.setIfInBounds_toArray, List.set_cons_zero, List.set_cons_succ])
  go_cut [31] (fun v31 wc => ∃ (kq : Nat) (x31_5 : Bool), v31 = .bool x31_5 ∧ Aside0 (spec_Times.j0 kq t119 t121 t123 x31_5 = some (r1, r2, r3)) ∧ Aside0 (kq ≤ k) ∧ Drawn0 w wc)
  case first =>
    have H := HC6.out
    clear HC6
    by_cases c7 : t123 = 1
    · rw [if_pos c7] at H
      have c7b0 : (t123 == 1) = true := beq_iff_eq.mpr c7
      have c7b1 : (t123 != 1) = false := bne_eq_false_iff_eq.mpr c7
      clear c7
      (first | rw [c7b0] | (simp only [i64_w, i32_w]; rw [c7b0]) | skip)
      have H' := Aside0.mk H
      clear H
      go_wp2
      go_meet
      case rel => exact ⟨_, (decide (t119 ≥ t121)), (by first | rfl | (simp; done) | (simp [*]; done)), H', ⟨by first | omega | exact Nat.le_refl _⟩, by repeat (first | exact Drawn0.refl _ | apply Drawn0.step)⟩
    · rw [if_neg c7] at H
      have c7b0 : (t123 == 1) = false := beq_eq_false_iff_ne.mpr c7
      have c7b1 : (t123 != 1) = true := bne_iff_ne.mpr c7
      (first | rw [c7b0] | (simp only [i64_w, i32_w]; rw [c7b0]) | skip)
      have H' := Aside0.mk H
      clear H
      go_wp2
      go_meet
      case rel => exact ⟨_, (false), (by first | rfl | (simp; done) | (simp [*]; done)), H', ⟨by first | omega | exact Nat.le_refl _⟩, by repeat (first | exact Drawn0.refl _ | apply Drawn0.step)⟩
  case rest =>
    clear HC6
    try clear c1
    try clear p2
    try clear c6
    try clear c7
    try clear c7b0
    try clear c7b1
    obtain ⟨kq, x31_5, rfl, HA, HJ5, ⟨mc5, rfl⟩⟩ := hcut
    cases kq with
    | zero => exact absurd HA.out (by simp [spec_Times.j0])
    | succ kj5 =>
      have H := HA.out
      clear HA
      simp only [spec_Times.j0] at H
      by_cases c8 : x31_5 = true
      · subst c8
        have H1 : (if 2 = 1 then (some (t119, t121, 1)) else (some (0, 0, 2))) = some (r1, r2, r3) := by rw [if_pos rfl] at H; exact H
        clear H
        have H := H1
        clear H1
        by_cases c9 : 2 = 1
        · exact absurd c9 (by decide)
        · rw [if_neg c9] at H
          have c9b0 : (2 == 1) = false := beq_eq_false_iff_ne.mpr c9
          have c9b1 : (2 != 1) = true := bne_iff_ne.mpr c9
          simp only [Option.some.injEq, Prod.mk.injEq] at H
          obtain ⟨rfl, rfl, rfl⟩ := H
          go_wp2
          go_ret3
          exact ⟨by first | rfl | (simp; done) | (simp [*]; done), by repeat (first | exact Drawn0.refl _ | apply Drawn0.step)⟩
      · replace c8 := Bool.eq_false_iff.mpr c8
        subst c8
        have H1 : (if t123 = 1 then (some (t119, t121, 1)) else (some (0, 0, t123))) = some (r1, r2, r3) := by rw [if_neg (show ¬ (false = true) by decide)] at H; exact H
        clear H
        have H := H1
        clear H1
        by_cases c10 : t123 = 1
        · rw [if_pos c10] at H
          have c10b0 : (t123 == 1) = true := beq_iff_eq.mpr c10
          have c10b1 : (t123 != 1) = false := bne_eq_false_iff_eq.mpr c10
          clear c10
          simp only [Option.some.injEq, Prod.mk.injEq] at H
          obtain ⟨rfl, rfl, rfl⟩ := H
          go_wp2
          go_ret3
          exact ⟨by first | rfl | (simp; done) | (simp [*]; done), by repeat (first | exact Drawn0.refl _ | apply Drawn0.step)⟩
        · rw [if_neg c10] at H
          have c10b0 : (t123 == 1) = false := beq_eq_false_iff_ne.mpr c10
          have c10b1 : (t123 != 1) = true := bne_iff_ne.mpr c10
          simp only [Option.some.injEq, Prod.mk.injEq] at H
          obtain ⟨rfl, rfl, rfl⟩ := H
          go_wp2
          go_ret3
          exact ⟨by first | rfl | (simp; done) | (simp [*]; done), by repeat (first | exact Drawn0.refl _ | apply Drawn0.step)⟩

/-! ### laws_told: function 7 -/
def laws_told.f (a0 : Int) (a1 : Int) (a2 : Bool) (a3 : Int) (a4 : Int) (a5 : Int) : Option (Bool) := if a5 = 1 then (if a2 = true then (if a0 = a3 then (some (a1 == a4)) else (some false)) else (some false)) else (if a5 = 0 then (some (!a2)) else (some true))
set_option maxHeartbeats 8000000 in
set_option maxRecDepth 100000 in
theorem laws_told.calls (a0 : Int) (a1 : Int) (a2 : Bool) (a3 : Int) (a4 : Int) (a5 : Int) (r : Bool) (w : World) (h : laws_told.f a0 a1 a2 a3 a4 a5 = some r) :
    Calls Tryd.prog 7 #[.int .i64 a0, .int .i64 a1, .bool a2, .int .i64 a3, .int .i64 a4, .int .i64 a5] w fun e w' => e = .returned (.bool r) ∧ Drawn0 w w' := by
  have H : (if a5 = 1 then (if a2 = true then (if a0 = a3 then (some (a1 == a4)) else (some false)) else (some false)) else (if a5 = 0 then (some (!a2)) else (some true))) = some r := h
  clear h
  by_cases c7 : a5 = 1
  · rw [if_pos c7] at H
    have c7b0 : (a5 == 1) = true := beq_iff_eq.mpr c7
    have c7b1 : (a5 != 1) = false := bne_eq_false_iff_eq.mpr c7
    clear c7
    by_cases c8 : a2 = true
    · subst c8
      have H1 : (if a0 = a3 then (some (a1 == a4)) else (some false)) = some r := by rw [if_pos rfl] at H; exact H
      clear H
      have H := H1
      clear H1
      by_cases c9 : a0 = a3
      · rw [if_pos c9] at H
        have c9b0 : (a0 == a3) = true := beq_iff_eq.mpr c9
        have c9b1 : (a0 != a3) = false := bne_eq_false_iff_eq.mpr c9
        clear c9
        obtain rfl := Option.some.inj H
        go_enter Tryd.func7, Tryd.ntmps7
        go_wp2
        go_ret
        exact ⟨by first | rfl | (simp; done) | (simp [*]; done), by repeat (first | exact Drawn0.refl _ | apply Drawn0.step)⟩
      · rw [if_neg c9] at H
        have c9b0 : (a0 == a3) = false := beq_eq_false_iff_ne.mpr c9
        have c9b1 : (a0 != a3) = true := bne_iff_ne.mpr c9
        obtain rfl := Option.some.inj H
        go_enter Tryd.func7, Tryd.ntmps7
        go_wp2
        go_ret
        exact ⟨by first | rfl | (simp; done) | (simp [*]; done), by repeat (first | exact Drawn0.refl _ | apply Drawn0.step)⟩
    · replace c8 := Bool.eq_false_iff.mpr c8
      subst c8
      have H1 : (some false) = some r := by rw [if_neg (show ¬ (false = true) by decide)] at H; exact H
      clear H
      have H := H1
      clear H1
      obtain rfl := Option.some.inj H
      go_enter Tryd.func7, Tryd.ntmps7
      go_wp2
      go_ret
      exact ⟨by first | rfl | (simp; done) | (simp [*]; done), by repeat (first | exact Drawn0.refl _ | apply Drawn0.step)⟩
  · rw [if_neg c7] at H
    have c7b0 : (a5 == 1) = false := beq_eq_false_iff_ne.mpr c7
    have c7b1 : (a5 != 1) = true := bne_iff_ne.mpr c7
    by_cases c10 : a5 = 0
    · rw [if_pos c10] at H
      have c10b0 : (a5 == 0) = true := beq_iff_eq.mpr c10
      have c10b1 : (a5 != 0) = false := bne_eq_false_iff_eq.mpr c10
      clear c10
      obtain rfl := Option.some.inj H
      go_enter Tryd.func7, Tryd.ntmps7
      go_wp2
      go_ret
      exact ⟨by first | rfl | (simp; done) | (simp [*]; done), by repeat (first | exact Drawn0.refl _ | apply Drawn0.step)⟩
    · rw [if_neg c10] at H
      have c10b0 : (a5 == 0) = false := beq_eq_false_iff_ne.mpr c10
      have c10b1 : (a5 != 0) = true := bne_iff_ne.mpr c10
      obtain rfl := Option.some.inj H
      go_enter Tryd.func7, Tryd.ntmps7
      go_wp2
      go_ret
      exact ⟨by first | rfl | (simp; done) | (simp [*]; done), by repeat (first | exact Drawn0.refl _ | apply Drawn0.step)⟩

/-! ### laws_FnTimes: function 3 -/
mutual
def laws_FnTimes.j0 : Nat → ByteArray → ByteArray → Bool → Option (Bool)
  | 0, _, _, _ => none
  | k + 1, x0, x1, x21 => if x21 = true then (some true) else ((laws_long.f x0).bind fun t124 => (if t124 = true then (laws_FnTimes.j1 k x0 x1 true) else ((laws_long.f x1).bind fun t125 => (laws_FnTimes.j1 k x0 x1 t125))))
def laws_FnTimes.j1 : Nat → ByteArray → ByteArray → Bool → Option (Bool)
  | 0, _, _, _ => none
  | k + 1, x0, x1, x27 => if x27 = true then (some true) else ((impl_Times.f x0 x1).bind fun bt126 => ((spec_Times.f k x0 x1).bind fun bt129 => ((impl_Times.f (⟨#[48, 57, 58, 48, 48]⟩ : ByteArray) (⟨#[49, 55, 58, 48, 48]⟩ : ByteArray)).bind fun bt132 => ((laws_told.f bt126.1 bt126.2.1 bt126.2.2 bt129.1 bt129.2.1 bt129.2.2).bind fun t135 => (if t135 = true then (if bt132.2.2 = true then (if bt132.1 = 540 then (some (bt132.2.1 == 1020)) else (some false)) else (some false)) else (some false))))))
end
def laws_FnTimes.f (k : Nat) (a0 : ByteArray) (a1 : ByteArray) : Option (Bool) := if (a0.size : Int) > 2147483647 then (laws_FnTimes.j0 k a0 a1 true) else (laws_FnTimes.j0 k a0 a1 (decide ((a1.size : Int) > 2147483647)))
theorem laws_FnTimes.mono_l : ∀ k, (∀ y0 y1 y2, LeO (laws_FnTimes.j0 k y0 y1 y2) (laws_FnTimes.j0 (k + 1) y0 y1 y2)) ∧ (∀ y0 y1 y2, LeO (laws_FnTimes.j1 k y0 y1 y2) (laws_FnTimes.j1 (k + 1) y0 y1 y2))
  | 0 => ⟨fun _ _ _ r h => by simp [laws_FnTimes.j0] at h, fun _ _ _ r h => by simp [laws_FnTimes.j1] at h⟩
  | k + 1 => by
    obtain ⟨ih0, ih1⟩ := laws_FnTimes.mono_l k
    refine ⟨?_, ?_⟩
    · intro y0 y1 y2
      unfold laws_FnTimes.j0
      repeat' first
      | (with_reducible exact ih0 _ _ _)
      | (with_reducible exact ih1 _ _ _)
      | (with_reducible exact spec_Times.mono _ _ _)
      | (with_reducible exact LeO.refl _)
      | (with_reducible exact LeO.none _)
      | (with_reducible refine LeO.ite ?_ ?_)
      | (with_reducible refine LeO.bind ?_ (fun _ => ?_))
      | exact ih0 _ _ _
      | exact ih1 _ _ _
      | exact spec_Times.mono _ _ _
      | exact LeO.none _
      | refine LeO.ite ?_ ?_
      | refine LeO.bind ?_ (fun _ => ?_)
    · intro y0 y1 y2
      unfold laws_FnTimes.j1
      repeat' first
      | (with_reducible exact ih0 _ _ _)
      | (with_reducible exact ih1 _ _ _)
      | (with_reducible exact spec_Times.mono _ _ _)
      | (with_reducible exact LeO.refl _)
      | (with_reducible exact LeO.none _)
      | (with_reducible refine LeO.ite ?_ ?_)
      | (with_reducible refine LeO.bind ?_ (fun _ => ?_))
      | exact ih0 _ _ _
      | exact ih1 _ _ _
      | exact spec_Times.mono _ _ _
      | exact LeO.none _
      | refine LeO.ite ?_ ?_
      | refine LeO.bind ?_ (fun _ => ?_)
theorem laws_FnTimes.mono : ∀ a0 a1 k, LeO (laws_FnTimes.f k a0 a1) (laws_FnTimes.f (k + 1) a0 a1) := by
  intro a0 a1 k
  obtain ⟨ih0, ih1⟩ := laws_FnTimes.mono_l k
  unfold laws_FnTimes.f
  repeat' first
      | (with_reducible exact ih0 _ _ _)
      | (with_reducible exact ih1 _ _ _)
      | (with_reducible exact spec_Times.mono _ _ _)
      | (with_reducible exact LeO.refl _)
      | (with_reducible exact LeO.none _)
      | (with_reducible refine LeO.ite ?_ ?_)
      | (with_reducible refine LeO.bind ?_ (fun _ => ?_))
      | exact ih0 _ _ _
      | exact ih1 _ _ _
      | exact spec_Times.mono _ _ _
      | exact LeO.none _
      | refine LeO.ite ?_ ?_
      | refine LeO.bind ?_ (fun _ => ?_)
set_option maxHeartbeats 8000000 in
set_option maxRecDepth 100000 in
theorem laws_FnTimes.calls (k : Nat) (a0 : ByteArray) (a1 : ByteArray) (r : Bool) (w : World) (h : laws_FnTimes.f k a0 a1 = some r) :
    Calls Tryd.prog 3 #[.string a0, .string a1] w fun e w' => e = .returned (.bool r) ∧ Below w.heap.size w w' := by
  have HB := Aside0.mk (Below.refl w.heap.size w)
  have H : (if (a0.size : Int) > 2147483647 then (laws_FnTimes.j0 k a0 a1 true) else (laws_FnTimes.j0 k a0 a1 (decide ((a1.size : Int) > 2147483647)))) = some r := h
  clear h
  have HC3 := Aside0.mk H
  clear H
  go_enter Tryd.func3, Tryd.ntmps3
  go_upto_region 1 with (fail)
  go_cut [21] (fun v21 wc => ∃ (kq : Nat) (x21_2 : Bool), v21 = .bool x21_2 ∧ Aside0 (laws_FnTimes.j0 kq a0 a1 x21_2 = some r) ∧ Aside0 (kq ≤ k) ∧ Aside0 (Below w.heap.size w wc))
  case first =>
    have H := HC3.out
    clear HC3
    by_cases c4 : (a0.size : Int) > 2147483647
    · rw [if_pos c4] at H
      have c4b0 : decide (2147483647 < (a0.size : Int)) = true := decide_eq_true c4
      have c4b1 : decide (2147483647 < a0.size) = true := decide_eq_true (by omega)
      clear c4
      (first | rw [c4b0] | (simp only [i64_w, i32_w]; rw [c4b0]) | skip)
      have H' := Aside0.mk H
      clear H
      go_wp2
      go_meet
      case rel => exact ⟨_, (true), (by first | rfl | (simp; done) | (simp [*]; done)), H', ⟨by first | omega | exact Nat.le_refl _⟩, ⟨by repeat (first | (with_reducible first | exact HB.out | apply below_alloc | apply pw_below_drewN | apply below_drew1) | exact HB.out)⟩⟩
    · rw [if_neg c4] at H
      have c4b0 : decide (2147483647 < (a0.size : Int)) = false := decide_eq_false c4
      have c4b1 : decide (2147483647 < a0.size) = false := decide_eq_false (by omega)
      clear c4
      (first | rw [c4b0] | (simp only [i64_w, i32_w]; rw [c4b0]) | skip)
      have H' := Aside0.mk H
      clear H
      go_wp2
      go_meet
      case rel => exact ⟨_, (decide ((a1.size : Int) > 2147483647)), (by first | rfl | (simp; done) | (simp [*]; done)), H', ⟨by first | omega | exact Nat.le_refl _⟩, ⟨by repeat (first | (with_reducible first | exact HB.out | apply below_alloc | apply pw_below_drewN | apply below_drew1) | exact HB.out)⟩⟩
  case rest =>
    clear HC3
    try clear p2
    try clear c3
    try clear c4
    try clear c4b0
    try clear c4b1
    obtain ⟨kq, x21_2, rfl, HA, HJ2, HB⟩ := hcut
    cases kq with
    | zero => exact absurd HA.out (by simp [laws_FnTimes.j0])
    | succ kj2 =>
      have H := HA.out
      clear HA
      simp only [laws_FnTimes.j0] at H
      by_cases c5 : x21_2 = true
      · subst c5
        have H1 : (some true) = some r := by rw [if_pos rfl] at H; exact H
        clear H
        have H := H1
        clear H1
        obtain rfl := Option.some.inj H
        go_wp2
        go_ret
        exact ⟨by first | rfl | (simp [errW_none, errW_some] <;> rfl) | (simp [*, errW_none, errW_some] <;> rfl), by repeat (first | (with_reducible first | exact HB.out | apply below_alloc | apply pw_below_drewN | apply below_drew1) | exact HB.out)⟩
      · replace c5 := Bool.eq_false_iff.mpr c5
        subst c5
        have H1 : ((laws_long.f a0).bind fun t124 => (if t124 = true then (laws_FnTimes.j1 kj2 a0 a1 true) else ((laws_long.f a1).bind fun t125 => (laws_FnTimes.j1 kj2 a0 a1 t125)))) = some r := by rw [if_neg (show ¬ (false = true) by decide)] at H; exact H
        clear H
        have H := H1
        clear H1
        have HC6 := Aside0.mk H
        clear H
        go_upto_region 3 with (fail)
        go_cut [27] (fun v27 wc => ∃ (kq : Nat) (x27_5 : Bool), v27 = .bool x27_5 ∧ Aside0 (laws_FnTimes.j1 kq a0 a1 x27_5 = some r) ∧ Aside0 (kq ≤ kj2) ∧ Aside0 (Below w.heap.size w wc))
        case first =>
          have H := HC6.out
          clear HC6
          replace H := Option.bind_eq_some_iff.mp H
          obtain ⟨t124, A70, H⟩ := H
          replace H : (if t124 = true then (laws_FnTimes.j1 kj2 a0 a1 true) else ((laws_long.f a1).bind fun t125 => (laws_FnTimes.j1 kj2 a0 a1 t125))) = some r := H
          have A7 := Aside0.mk A70
          clear A70
          by_cases c8 : t124 = true
          · subst c8
            have H1 : (laws_FnTimes.j1 kj2 a0 a1 true) = some r := by rw [if_pos rfl] at H; exact H
            clear H
            have H := H1
            clear H1
            have H' := Aside0.mk H
            clear H
            go_wp2_with (first | ((with_reducible refine gate_callee (f := 4) rfl ?_); refine goesL_ (some 23) rfl rfl Tryd.func4 (by kernel_rfl) rfl #[.string a0] rfl (by (try simp only [List.map_toArray, List.map_cons, List.map_nil]); first | done | rfl | (simp only [List.length_drop, List.length_take]; rfl)) ?_; (with_reducible refine (laws_long.calls a0 true _ A7.out).mono ?_); rintro e w' ⟨rfl, ⟨nd, rfl⟩⟩; refine ⟨_, rfl, ?_⟩))
            go_meet
            case rel => exact ⟨_, (true), (by first | rfl | (simp; done) | (simp [*]; done)), H', ⟨by have := HJ2.out; first | omega | exact Nat.le_refl _⟩, ⟨by repeat (first | (with_reducible first | exact HB.out | apply below_alloc | apply pw_below_drewN | apply below_drew1) | exact HB.out)⟩⟩
          · replace c8 := Bool.eq_false_iff.mpr c8
            subst c8
            have H1 : ((laws_long.f a1).bind fun t125 => (laws_FnTimes.j1 kj2 a0 a1 t125)) = some r := by rw [if_neg (show ¬ (false = true) by decide)] at H; exact H
            clear H
            have H := H1
            clear H1
            replace H := Option.bind_eq_some_iff.mp H
            obtain ⟨t125, A90, H⟩ := H
            replace H : (laws_FnTimes.j1 kj2 a0 a1 t125) = some r := H
            have A9 := Aside0.mk A90
            clear A90
            have H' := Aside0.mk H
            clear H
            go_wp2_with (first | ((with_reducible refine gate_callee (f := 4) rfl ?_); refine goesL_ (some 23) rfl rfl Tryd.func4 (by kernel_rfl) rfl #[.string a0] rfl (by (try simp only [List.map_toArray, List.map_cons, List.map_nil]); first | done | rfl | (simp only [List.length_drop, List.length_take]; rfl)) ?_; (with_reducible refine (laws_long.calls a0 false _ A7.out).mono ?_); rintro e w' ⟨rfl, ⟨nd, rfl⟩⟩; refine ⟨_, rfl, ?_⟩) | (go_at_call 4; (with_reducible refine (laws_long.calls a1 t125 _ A9.out).mono ?_); rintro e w' ⟨rfl, ⟨nd, rfl⟩⟩))
            go_meet
            case rel => exact ⟨_, (t125), (by first | rfl | (simp; done) | (simp [*]; done)), H', ⟨by have := HJ2.out; first | omega | exact Nat.le_refl _⟩, ⟨by repeat (first | (with_reducible first | exact HB.out | apply below_alloc | apply pw_below_drewN | apply below_drew1) | exact HB.out)⟩⟩
        case rest =>
          clear HC6
          try clear p2
          try clear c3
          try clear c4
          try clear c4b0
          try clear c4b1
          try clear c5
          try clear c8
          try clear p2
          obtain ⟨kq, x27_5, rfl, HA, HJ5, HB⟩ := hcut
          cases kq with
          | zero => exact absurd HA.out (by simp [laws_FnTimes.j1])
          | succ kj5 =>
            have H := HA.out
            clear HA
            simp only [laws_FnTimes.j1] at H
            by_cases c10 : x27_5 = true
            · subst c10
              have H1 : (some true) = some r := by rw [if_pos rfl] at H; exact H
              clear H
              have H := H1
              clear H1
              obtain rfl := Option.some.inj H
              go_wp2
              go_ret
              exact ⟨by first | rfl | (simp [errW_none, errW_some] <;> rfl) | (simp [*, errW_none, errW_some] <;> rfl), by repeat (first | (with_reducible first | exact HB.out | apply below_alloc | apply pw_below_drewN | apply below_drew1) | exact HB.out)⟩
            · replace c10 := Bool.eq_false_iff.mpr c10
              subst c10
              have H1 : ((impl_Times.f a0 a1).bind fun bt126 => ((spec_Times.f kj5 a0 a1).bind fun bt129 => ((impl_Times.f (⟨#[48, 57, 58, 48, 48]⟩ : ByteArray) (⟨#[49, 55, 58, 48, 48]⟩ : ByteArray)).bind fun bt132 => ((laws_told.f bt126.1 bt126.2.1 bt126.2.2 bt129.1 bt129.2.1 bt129.2.2).bind fun t135 => (if t135 = true then (if bt132.2.2 = true then (if bt132.1 = 540 then (some (bt132.2.1 == 1020)) else (some false)) else (some false)) else (some false)))))) = some r := by rw [if_neg (show ¬ (false = true) by decide)] at H; exact H
              clear H
              have H := H1
              clear H1
              replace H := Option.bind_eq_some_iff.mp H
              obtain ⟨⟨t126, t127, t128⟩, A110, H⟩ := H
              replace H : ((spec_Times.f kj5 a0 a1).bind fun bt129 => ((impl_Times.f (⟨#[48, 57, 58, 48, 48]⟩ : ByteArray) (⟨#[49, 55, 58, 48, 48]⟩ : ByteArray)).bind fun bt132 => ((laws_told.f t126 t127 t128 bt129.1 bt129.2.1 bt129.2.2).bind fun t135 => (if t135 = true then (if bt132.2.2 = true then (if bt132.1 = 540 then (some (bt132.2.1 == 1020)) else (some false)) else (some false)) else (some false))))) = some r := H
              have A11 := Aside0.mk A110
              clear A110
              replace H := Option.bind_eq_some_iff.mp H
              obtain ⟨⟨t129, t130, t131⟩, A120, H⟩ := H
              replace H : ((impl_Times.f (⟨#[48, 57, 58, 48, 48]⟩ : ByteArray) (⟨#[49, 55, 58, 48, 48]⟩ : ByteArray)).bind fun bt132 => ((laws_told.f t126 t127 t128 t129 t130 t131).bind fun t135 => (if t135 = true then (if bt132.2.2 = true then (if bt132.1 = 540 then (some (bt132.2.1 == 1020)) else (some false)) else (some false)) else (some false)))) = some r := H
              have A12 := Aside0.mk A120
              clear A120
              replace H := Option.bind_eq_some_iff.mp H
              obtain ⟨⟨t132, t133, t134⟩, A130, H⟩ := H
              replace H : ((laws_told.f t126 t127 t128 t129 t130 t131).bind fun t135 => (if t135 = true then (if t134 = true then (if t132 = 540 then (some (t133 == 1020)) else (some false)) else (some false)) else (some false))) = some r := H
              have A13 := Aside0.mk A130
              clear A130
              replace H := Option.bind_eq_some_iff.mp H
              obtain ⟨t135, A140, H⟩ := H
              replace H : (if t135 = true then (if t134 = true then (if t132 = 540 then (some (t133 == 1020)) else (some false)) else (some false)) else (some false)) = some r := H
              have A14 := Aside0.mk A140
              clear A140
              by_cases c15 : t135 = true
              · subst c15
                have H1 : (if t134 = true then (if t132 = 540 then (some (t133 == 1020)) else (some false)) else (some false)) = some r := by rw [if_pos rfl] at H; exact H
                clear H
                have H := H1
                clear H1
                by_cases c16 : t134 = true
                · subst c16
                  have H1 : (if t132 = 540 then (some (t133 == 1020)) else (some false)) = some r := by rw [if_pos rfl] at H; exact H
                  clear H
                  have H := H1
                  clear H1
                  by_cases c17 : t132 = 540
                  · rw [if_pos c17] at H
                    have c17b0 : (t132 == 540) = true := beq_iff_eq.mpr c17
                    have c17b1 : (t132 != 540) = false := bne_eq_false_iff_eq.mpr c17
                    clear c17
                    obtain rfl := Option.some.inj H
                    go_wp2_with (first | ((with_reducible refine gate_callee (f := 5) rfl ?_); refine goesL_ (some 31) rfl rfl Tryd.func5 (by kernel_rfl) rfl #[.string a0, .string a1] rfl (by (try simp only [List.map_toArray, List.map_cons, List.map_nil]); first | done | rfl | (simp only [List.length_drop, List.length_take]; rfl)) ?_; (with_reducible refine (impl_Times.calls a0 a1 t126 t127 t128 _ A11.out).mono ?_); rintro e w18 ⟨rfl, hb⟩; refine ⟨_, rfl, ?_⟩; have n0_ := Aside0.mk (below_step (by repeat (first | (with_reducible first | exact HB.out | apply below_alloc | apply pw_below_drewN | apply below_drew1) | exact HB.out)) hb); clear HB; have HB := n0_; clear n0_; (try clear hb); (try clear hb2); (try clear hk); (try clear hi)) | ((with_reducible refine gate_callee (f := 6) rfl ?_); refine goesL_ (some 38) rfl rfl Tryd.func6 (by kernel_rfl) rfl #[.string a0, .string a1] rfl (by (try simp only [List.map_toArray, List.map_cons, List.map_nil]); first | done | rfl | (simp only [List.length_drop, List.length_take]; rfl)) ?_; (with_reducible refine (spec_Times.calls kj5 a0 a1 t129 t130 t131 _ A12.out).mono ?_); rintro e w' ⟨rfl, ⟨nd, rfl⟩⟩; refine ⟨_, rfl, ?_⟩) | ((with_reducible refine gate_callee (f := 5) rfl ?_); refine goesL_ (some 43) rfl rfl Tryd.func5 (by kernel_rfl) rfl #[.string (⟨#[48, 57, 58, 48, 48]⟩ : ByteArray), .string (⟨#[49, 55, 58, 48, 48]⟩ : ByteArray)] rfl (by (try simp only [List.map_toArray, List.map_cons, List.map_nil]); first | done | rfl | (simp only [List.length_drop, List.length_take]; rfl)) ?_; (with_reducible refine (impl_Times.calls (⟨#[48, 57, 58, 48, 48]⟩ : ByteArray) (⟨#[49, 55, 58, 48, 48]⟩ : ByteArray) t132 t133 true _ A13.out).mono ?_); rintro e w19 ⟨rfl, hb⟩; refine ⟨_, rfl, ?_⟩; have n0_ := Aside0.mk (below_step (by repeat (first | (with_reducible first | exact HB.out | apply below_alloc | apply pw_below_drewN | apply below_drew1) | exact HB.out)) hb); clear HB; have HB := n0_; clear n0_; (try clear hb); (try clear hb2); (try clear hk); (try clear hi)) | ((with_reducible refine gate_callee (f := 7) rfl ?_); refine goesL_ (some 53) rfl rfl Tryd.func7 (by kernel_rfl) rfl #[.int .i64 t126, .int .i64 t127, .bool t128, .int .i64 t129, .int .i64 t130, .int .i64 t131] rfl (by (try simp only [List.map_toArray, List.map_cons, List.map_nil]); first | done | rfl | (simp only [List.length_drop, List.length_take]; rfl)) ?_; (with_reducible refine (laws_told.calls t126 t127 t128 t129 t130 t131 true _ A14.out).mono ?_); rintro e w' ⟨rfl, ⟨nd, rfl⟩⟩; refine ⟨_, rfl, ?_⟩))
                    go_ret
                    exact ⟨by first | rfl | (simp [errW_none, errW_some] <;> rfl) | (simp [*, errW_none, errW_some] <;> rfl), by repeat (first | (with_reducible first | exact HB.out | apply below_alloc | apply pw_below_drewN | apply below_drew1) | exact HB.out)⟩
                  · rw [if_neg c17] at H
                    have c17b0 : (t132 == 540) = false := beq_eq_false_iff_ne.mpr c17
                    have c17b1 : (t132 != 540) = true := bne_iff_ne.mpr c17
                    obtain rfl := Option.some.inj H
                    go_wp2_with (first | ((with_reducible refine gate_callee (f := 5) rfl ?_); refine goesL_ (some 31) rfl rfl Tryd.func5 (by kernel_rfl) rfl #[.string a0, .string a1] rfl (by (try simp only [List.map_toArray, List.map_cons, List.map_nil]); first | done | rfl | (simp only [List.length_drop, List.length_take]; rfl)) ?_; (with_reducible refine (impl_Times.calls a0 a1 t126 t127 t128 _ A11.out).mono ?_); rintro e w20 ⟨rfl, hb⟩; refine ⟨_, rfl, ?_⟩; have n0_ := Aside0.mk (below_step (by repeat (first | (with_reducible first | exact HB.out | apply below_alloc | apply pw_below_drewN | apply below_drew1) | exact HB.out)) hb); clear HB; have HB := n0_; clear n0_; (try clear hb); (try clear hb2); (try clear hk); (try clear hi)) | ((with_reducible refine gate_callee (f := 6) rfl ?_); refine goesL_ (some 38) rfl rfl Tryd.func6 (by kernel_rfl) rfl #[.string a0, .string a1] rfl (by (try simp only [List.map_toArray, List.map_cons, List.map_nil]); first | done | rfl | (simp only [List.length_drop, List.length_take]; rfl)) ?_; (with_reducible refine (spec_Times.calls kj5 a0 a1 t129 t130 t131 _ A12.out).mono ?_); rintro e w' ⟨rfl, ⟨nd, rfl⟩⟩; refine ⟨_, rfl, ?_⟩) | ((with_reducible refine gate_callee (f := 5) rfl ?_); refine goesL_ (some 43) rfl rfl Tryd.func5 (by kernel_rfl) rfl #[.string (⟨#[48, 57, 58, 48, 48]⟩ : ByteArray), .string (⟨#[49, 55, 58, 48, 48]⟩ : ByteArray)] rfl (by (try simp only [List.map_toArray, List.map_cons, List.map_nil]); first | done | rfl | (simp only [List.length_drop, List.length_take]; rfl)) ?_; (with_reducible refine (impl_Times.calls (⟨#[48, 57, 58, 48, 48]⟩ : ByteArray) (⟨#[49, 55, 58, 48, 48]⟩ : ByteArray) t132 t133 true _ A13.out).mono ?_); rintro e w21 ⟨rfl, hb⟩; refine ⟨_, rfl, ?_⟩; have n0_ := Aside0.mk (below_step (by repeat (first | (with_reducible first | exact HB.out | apply below_alloc | apply pw_below_drewN | apply below_drew1) | exact HB.out)) hb); clear HB; have HB := n0_; clear n0_; (try clear hb); (try clear hb2); (try clear hk); (try clear hi)) | ((with_reducible refine gate_callee (f := 7) rfl ?_); refine goesL_ (some 53) rfl rfl Tryd.func7 (by kernel_rfl) rfl #[.int .i64 t126, .int .i64 t127, .bool t128, .int .i64 t129, .int .i64 t130, .int .i64 t131] rfl (by (try simp only [List.map_toArray, List.map_cons, List.map_nil]); first | done | rfl | (simp only [List.length_drop, List.length_take]; rfl)) ?_; (with_reducible refine (laws_told.calls t126 t127 t128 t129 t130 t131 true _ A14.out).mono ?_); rintro e w' ⟨rfl, ⟨nd, rfl⟩⟩; refine ⟨_, rfl, ?_⟩))
                    go_ret
                    exact ⟨by first | rfl | (simp [errW_none, errW_some] <;> rfl) | (simp [*, errW_none, errW_some] <;> rfl), by repeat (first | (with_reducible first | exact HB.out | apply below_alloc | apply pw_below_drewN | apply below_drew1) | exact HB.out)⟩
                · replace c16 := Bool.eq_false_iff.mpr c16
                  subst c16
                  have H1 : (some false) = some r := by rw [if_neg (show ¬ (false = true) by decide)] at H; exact H
                  clear H
                  have H := H1
                  clear H1
                  obtain rfl := Option.some.inj H
                  go_wp2_with (first | ((with_reducible refine gate_callee (f := 5) rfl ?_); refine goesL_ (some 31) rfl rfl Tryd.func5 (by kernel_rfl) rfl #[.string a0, .string a1] rfl (by (try simp only [List.map_toArray, List.map_cons, List.map_nil]); first | done | rfl | (simp only [List.length_drop, List.length_take]; rfl)) ?_; (with_reducible refine (impl_Times.calls a0 a1 t126 t127 t128 _ A11.out).mono ?_); rintro e w22 ⟨rfl, hb⟩; refine ⟨_, rfl, ?_⟩; have n0_ := Aside0.mk (below_step (by repeat (first | (with_reducible first | exact HB.out | apply below_alloc | apply pw_below_drewN | apply below_drew1) | exact HB.out)) hb); clear HB; have HB := n0_; clear n0_; (try clear hb); (try clear hb2); (try clear hk); (try clear hi)) | ((with_reducible refine gate_callee (f := 6) rfl ?_); refine goesL_ (some 38) rfl rfl Tryd.func6 (by kernel_rfl) rfl #[.string a0, .string a1] rfl (by (try simp only [List.map_toArray, List.map_cons, List.map_nil]); first | done | rfl | (simp only [List.length_drop, List.length_take]; rfl)) ?_; (with_reducible refine (spec_Times.calls kj5 a0 a1 t129 t130 t131 _ A12.out).mono ?_); rintro e w' ⟨rfl, ⟨nd, rfl⟩⟩; refine ⟨_, rfl, ?_⟩) | ((with_reducible refine gate_callee (f := 5) rfl ?_); refine goesL_ (some 43) rfl rfl Tryd.func5 (by kernel_rfl) rfl #[.string (⟨#[48, 57, 58, 48, 48]⟩ : ByteArray), .string (⟨#[49, 55, 58, 48, 48]⟩ : ByteArray)] rfl (by (try simp only [List.map_toArray, List.map_cons, List.map_nil]); first | done | rfl | (simp only [List.length_drop, List.length_take]; rfl)) ?_; (with_reducible refine (impl_Times.calls (⟨#[48, 57, 58, 48, 48]⟩ : ByteArray) (⟨#[49, 55, 58, 48, 48]⟩ : ByteArray) t132 t133 false _ A13.out).mono ?_); rintro e w23 ⟨rfl, hb⟩; refine ⟨_, rfl, ?_⟩; have n0_ := Aside0.mk (below_step (by repeat (first | (with_reducible first | exact HB.out | apply below_alloc | apply pw_below_drewN | apply below_drew1) | exact HB.out)) hb); clear HB; have HB := n0_; clear n0_; (try clear hb); (try clear hb2); (try clear hk); (try clear hi)) | ((with_reducible refine gate_callee (f := 7) rfl ?_); refine goesL_ (some 53) rfl rfl Tryd.func7 (by kernel_rfl) rfl #[.int .i64 t126, .int .i64 t127, .bool t128, .int .i64 t129, .int .i64 t130, .int .i64 t131] rfl (by (try simp only [List.map_toArray, List.map_cons, List.map_nil]); first | done | rfl | (simp only [List.length_drop, List.length_take]; rfl)) ?_; (with_reducible refine (laws_told.calls t126 t127 t128 t129 t130 t131 true _ A14.out).mono ?_); rintro e w' ⟨rfl, ⟨nd, rfl⟩⟩; refine ⟨_, rfl, ?_⟩))
                  go_ret
                  exact ⟨by first | rfl | (simp [errW_none, errW_some] <;> rfl) | (simp [*, errW_none, errW_some] <;> rfl), by repeat (first | (with_reducible first | exact HB.out | apply below_alloc | apply pw_below_drewN | apply below_drew1) | exact HB.out)⟩
              · replace c15 := Bool.eq_false_iff.mpr c15
                subst c15
                have H1 : (some false) = some r := by rw [if_neg (show ¬ (false = true) by decide)] at H; exact H
                clear H
                have H := H1
                clear H1
                obtain rfl := Option.some.inj H
                go_wp2_with (first | ((with_reducible refine gate_callee (f := 5) rfl ?_); refine goesL_ (some 31) rfl rfl Tryd.func5 (by kernel_rfl) rfl #[.string a0, .string a1] rfl (by (try simp only [List.map_toArray, List.map_cons, List.map_nil]); first | done | rfl | (simp only [List.length_drop, List.length_take]; rfl)) ?_; (with_reducible refine (impl_Times.calls a0 a1 t126 t127 t128 _ A11.out).mono ?_); rintro e w24 ⟨rfl, hb⟩; refine ⟨_, rfl, ?_⟩; have n0_ := Aside0.mk (below_step (by repeat (first | (with_reducible first | exact HB.out | apply below_alloc | apply pw_below_drewN | apply below_drew1) | exact HB.out)) hb); clear HB; have HB := n0_; clear n0_; (try clear hb); (try clear hb2); (try clear hk); (try clear hi)) | ((with_reducible refine gate_callee (f := 6) rfl ?_); refine goesL_ (some 38) rfl rfl Tryd.func6 (by kernel_rfl) rfl #[.string a0, .string a1] rfl (by (try simp only [List.map_toArray, List.map_cons, List.map_nil]); first | done | rfl | (simp only [List.length_drop, List.length_take]; rfl)) ?_; (with_reducible refine (spec_Times.calls kj5 a0 a1 t129 t130 t131 _ A12.out).mono ?_); rintro e w' ⟨rfl, ⟨nd, rfl⟩⟩; refine ⟨_, rfl, ?_⟩) | ((with_reducible refine gate_callee (f := 5) rfl ?_); refine goesL_ (some 43) rfl rfl Tryd.func5 (by kernel_rfl) rfl #[.string (⟨#[48, 57, 58, 48, 48]⟩ : ByteArray), .string (⟨#[49, 55, 58, 48, 48]⟩ : ByteArray)] rfl (by (try simp only [List.map_toArray, List.map_cons, List.map_nil]); first | done | rfl | (simp only [List.length_drop, List.length_take]; rfl)) ?_; (with_reducible refine (impl_Times.calls (⟨#[48, 57, 58, 48, 48]⟩ : ByteArray) (⟨#[49, 55, 58, 48, 48]⟩ : ByteArray) t132 t133 t134 _ A13.out).mono ?_); rintro e w25 ⟨rfl, hb⟩; refine ⟨_, rfl, ?_⟩; have n0_ := Aside0.mk (below_step (by repeat (first | (with_reducible first | exact HB.out | apply below_alloc | apply pw_below_drewN | apply below_drew1) | exact HB.out)) hb); clear HB; have HB := n0_; clear n0_; (try clear hb); (try clear hb2); (try clear hk); (try clear hi)) | ((with_reducible refine gate_callee (f := 7) rfl ?_); refine goesL_ (some 53) rfl rfl Tryd.func7 (by kernel_rfl) rfl #[.int .i64 t126, .int .i64 t127, .bool t128, .int .i64 t129, .int .i64 t130, .int .i64 t131] rfl (by (try simp only [List.map_toArray, List.map_cons, List.map_nil]); first | done | rfl | (simp only [List.length_drop, List.length_take]; rfl)) ?_; (with_reducible refine (laws_told.calls t126 t127 t128 t129 t130 t131 false _ A14.out).mono ?_); rintro e w' ⟨rfl, ⟨nd, rfl⟩⟩; refine ⟨_, rfl, ?_⟩))
                go_ret
                exact ⟨by first | rfl | (simp [errW_none, errW_some] <;> rfl) | (simp [*, errW_none, errW_some] <;> rfl), by repeat (first | (with_reducible first | exact HB.out | apply below_alloc | apply pw_below_drewN | apply below_drew1) | exact HB.out)⟩

/-- THE ONE PURE STATEMENT of laws_FnTimes: yours. -/
def laws_FnTimes.Pure : Prop := ∀ (a0 : ByteArray) (a1 : ByteArray), a0.size ≤ maxLen → a1.size ≤ maxLen → ∃ k, laws_FnTimes.f k a0 a1 = some true

end Go.Proofs.YtfbcpnjeonijaaaDoor.Q
