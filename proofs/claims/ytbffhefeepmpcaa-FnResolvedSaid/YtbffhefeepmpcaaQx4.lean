-- printed by this project's own program wip/tools/mkprint.py (the kit's print.py with hand-proved contracts put in)
import Derived.Test.YtbffhefeepmpcaaQx0
namespace Go.Proofs.Ytbffhefeepmpcaa.Q
open Go.RowKit Go.Proofs.YtbffhefeepmpcaaW.PrintWords Go.Proofs.YtbffhefeepmpcaaW.PrintLast Go.Proofs.YtbffhefeepmpcaaW.PrintMore
attribute [local go_sem] max2_int min2_int max_two min_two max_three min_three max_four min_four   -- for this text's walks alone
set_option linter.unusedVariables false
set_option linter.unusedSimpArgs false

/-! ### notify_GetFailureReasonFromStatusCode: function 55 -/
def notify_GetFailureReasonFromStatusCode.j0 : Nat → Int → Int → Bool → Option (Int)
  | 0, _, _, _ => none
  | k + 1, x0, x3, x4 => if x4 = true then (some 5) else (if x3 = 429 then (some 6) else (if (wrap64 (Int.tdiv x0 100)) = 4 then (some 1) else (if (wrap64 (Int.tdiv x0 100)) = 5 then (some 2) else (some 0))))
def notify_GetFailureReasonFromStatusCode.f (k : Nat) (a0 : Int) : Option (Int) := if a0 = 401 then (notify_GetFailureReasonFromStatusCode.j0 k a0 a0 (a0 == 401)) else (notify_GetFailureReasonFromStatusCode.j0 k a0 a0 (a0 == 403))
theorem notify_GetFailureReasonFromStatusCode.mono_l : ∀ k, (∀ y0 y1 y2, LeO (notify_GetFailureReasonFromStatusCode.j0 k y0 y1 y2) (notify_GetFailureReasonFromStatusCode.j0 (k + 1) y0 y1 y2))
  | 0 => fun _ _ _ r h => by simp [notify_GetFailureReasonFromStatusCode.j0] at h
  | k + 1 => by
    have ih0 := notify_GetFailureReasonFromStatusCode.mono_l k
    · intro y0 y1 y2
      unfold notify_GetFailureReasonFromStatusCode.j0
      repeat' first
      | (with_reducible exact ih0 _ _ _)
      | (with_reducible exact LeO.refl _)
      | (with_reducible exact LeO.none _)
      | (with_reducible refine LeO.ite ?_ ?_)
      | (with_reducible refine LeO.bind ?_ (fun _ => ?_))
      | exact ih0 _ _ _
      | exact LeO.none _
      | refine LeO.ite ?_ ?_
      | refine LeO.bind ?_ (fun _ => ?_)
theorem notify_GetFailureReasonFromStatusCode.mono : ∀ a0 k, LeO (notify_GetFailureReasonFromStatusCode.f k a0) (notify_GetFailureReasonFromStatusCode.f (k + 1) a0) := by
  intro a0 k
  have ih0 := notify_GetFailureReasonFromStatusCode.mono_l k
  unfold notify_GetFailureReasonFromStatusCode.f
  repeat' first
      | (with_reducible exact ih0 _ _ _)
      | (with_reducible exact LeO.refl _)
      | (with_reducible exact LeO.none _)
      | (with_reducible refine LeO.ite ?_ ?_)
      | (with_reducible refine LeO.bind ?_ (fun _ => ?_))
      | exact ih0 _ _ _
      | exact LeO.none _
      | refine LeO.ite ?_ ?_
      | refine LeO.bind ?_ (fun _ => ?_)
set_option maxHeartbeats 8000000 in
set_option maxRecDepth 100000 in
theorem notify_GetFailureReasonFromStatusCode.calls (k : Nat) (a0 : Int) (r : Int) (w : World) (h : notify_GetFailureReasonFromStatusCode.f k a0 = some r) :
    Calls Try.prog 55 #[.int .i64 a0] w fun e w' => e = .returned (.int .i64 r) ∧ Drawn0 w w' := by
  have H : (if a0 = 401 then (notify_GetFailureReasonFromStatusCode.j0 k a0 a0 (a0 == 401)) else (notify_GetFailureReasonFromStatusCode.j0 k a0 a0 (a0 == 403))) = some r := h
  clear h
  have HC2 := Aside0.mk H
  clear H
  go_enter Try.func55, Try.ntmps55
  go_upto_if 4 with (fail)
  go_cut [4] (fun v4 wc => ∃ (kq : Nat) (x4_1 : Bool), v4 = .bool x4_1 ∧ Aside0 (notify_GetFailureReasonFromStatusCode.j0 kq a0 a0 x4_1 = some r) ∧ Aside0 (kq ≤ k) ∧ Drawn0 w wc)
  case first =>
    have H := HC2.out
    clear HC2
    by_cases c3 : a0 = 401
    · rw [if_pos c3] at H
      have c3b0 : (a0 == 401) = true := beq_iff_eq.mpr c3
      have c3b1 : (a0 != 401) = false := bne_eq_false_iff_eq.mpr c3
      clear c3
      (first | rw [c3b0] | (simp only [i64_w, i32_w]; rw [c3b0]) | skip)
      have H' := Aside0.mk H
      clear H
      go_wp2
      go_meet
      case rel => exact ⟨_, ((a0 == 401)), (by first | rfl | (simp; done) | (simp [*]; done)), H', ⟨by first | omega | exact Nat.le_refl _⟩, by repeat (first | exact Drawn0.refl _ | apply Drawn0.step)⟩
    · rw [if_neg c3] at H
      have c3b0 : (a0 == 401) = false := beq_eq_false_iff_ne.mpr c3
      have c3b1 : (a0 != 401) = true := bne_iff_ne.mpr c3
      (first | rw [c3b0] | (simp only [i64_w, i32_w]; rw [c3b0]) | skip)
      have H' := Aside0.mk H
      clear H
      go_wp2
      go_meet
      case rel => exact ⟨_, ((a0 == 403)), (by first | rfl | (simp; done) | (simp [*]; done)), H', ⟨by first | omega | exact Nat.le_refl _⟩, by repeat (first | exact Drawn0.refl _ | apply Drawn0.step)⟩
  case rest =>
    clear HC2
    try clear p2
    try clear c3
    try clear c3b0
    try clear c3b1
    obtain ⟨kq, x4_1, rfl, HA, HJ1, ⟨mc1, rfl⟩⟩ := hcut
    cases kq with
    | zero => exact absurd HA.out (by simp [notify_GetFailureReasonFromStatusCode.j0])
    | succ kj1 =>
      have H := HA.out
      clear HA
      simp only [notify_GetFailureReasonFromStatusCode.j0] at H
      by_cases c4 : x4_1 = true
      · subst c4
        have H1 : (some 5) = some r := by rw [if_pos rfl] at H; exact H
        clear H
        have H := H1
        clear H1
        obtain rfl := Option.some.inj H
        go_wp2
        go_ret
        exact ⟨by first | rfl | (simp; done) | (simp [*]; done), by repeat (first | exact Drawn0.refl _ | apply Drawn0.step)⟩
      · replace c4 := Bool.eq_false_iff.mpr c4
        subst c4
        have H1 : (if a0 = 429 then (some 6) else (if (wrap64 (Int.tdiv a0 100)) = 4 then (some 1) else (if (wrap64 (Int.tdiv a0 100)) = 5 then (some 2) else (some 0)))) = some r := by rw [if_neg (show ¬ (false = true) by decide)] at H; exact H
        clear H
        have H := H1
        clear H1
        by_cases c5 : a0 = 429
        · rw [if_pos c5] at H
          have c5b0 : (a0 == 429) = true := beq_iff_eq.mpr c5
          have c5b1 : (a0 != 429) = false := bne_eq_false_iff_eq.mpr c5
          clear c5
          obtain rfl := Option.some.inj H
          go_wp2
          go_ret
          exact ⟨by first | rfl | (simp; done) | (simp [*]; done), by repeat (first | exact Drawn0.refl _ | apply Drawn0.step)⟩
        · rw [if_neg c5] at H
          have c5b0 : (a0 == 429) = false := beq_eq_false_iff_ne.mpr c5
          have c5b1 : (a0 != 429) = true := bne_iff_ne.mpr c5
          by_cases c6 : (wrap64 (Int.tdiv a0 100)) = 4
          · rw [if_pos c6] at H
            have c6b0 : ((wrap64 (Int.tdiv a0 100)) == 4) = true := beq_iff_eq.mpr c6
            have c6b1 : ((wrap64 (Int.tdiv a0 100)) != 4) = false := bne_eq_false_iff_eq.mpr c6
            clear c6
            obtain rfl := Option.some.inj H
            go_wp2
            go_ret
            exact ⟨by first | rfl | (simp; done) | (simp [*]; done), by repeat (first | exact Drawn0.refl _ | apply Drawn0.step)⟩
          · rw [if_neg c6] at H
            have c6b0 : ((wrap64 (Int.tdiv a0 100)) == 4) = false := beq_eq_false_iff_ne.mpr c6
            have c6b1 : ((wrap64 (Int.tdiv a0 100)) != 4) = true := bne_iff_ne.mpr c6
            by_cases c7 : (wrap64 (Int.tdiv a0 100)) = 5
            · rw [if_pos c7] at H
              have c7b0 : ((wrap64 (Int.tdiv a0 100)) == 5) = true := beq_iff_eq.mpr c7
              have c7b1 : ((wrap64 (Int.tdiv a0 100)) != 5) = false := bne_eq_false_iff_eq.mpr c7
              clear c7
              obtain rfl := Option.some.inj H
              go_wp2
              go_ret
              exact ⟨by first | rfl | (simp; done) | (simp [*]; done), by repeat (first | exact Drawn0.refl _ | apply Drawn0.step)⟩
            · rw [if_neg c7] at H
              have c7b0 : ((wrap64 (Int.tdiv a0 100)) == 5) = false := beq_eq_false_iff_ne.mpr c7
              have c7b1 : ((wrap64 (Int.tdiv a0 100)) != 5) = true := bne_iff_ne.mpr c7
              obtain rfl := Option.some.inj H
              go_wp2
              go_ret
              exact ⟨by first | rfl | (simp; done) | (simp [*]; done), by repeat (first | exact Drawn0.refl _ | apply Drawn0.step)⟩

/-! ### notify_Reason_String: function 56 -/
def notify_Reason_String.f (a0 : Int) : Option (ByteArray) := if a0 = 0 then (some (⟨#[111, 116, 104, 101, 114]⟩ : ByteArray)) else (if a0 = 1 then (some (⟨#[99, 108, 105, 101, 110, 116, 69, 114, 114, 111, 114]⟩ : ByteArray)) else (if a0 = 2 then (some (⟨#[115, 101, 114, 118, 101, 114, 69, 114, 114, 111, 114]⟩ : ByteArray)) else (if a0 = 3 then (some (⟨#[99, 111, 110, 116, 101, 120, 116, 67, 97, 110, 99, 101, 108, 101, 100]⟩ : ByteArray)) else (if a0 = 4 then (some (⟨#[99, 111, 110, 116, 101, 120, 116, 68, 101, 97, 100, 108, 105, 110, 101, 69, 120, 99, 101, 101, 100, 101, 100]⟩ : ByteArray)) else (if a0 = 5 then (some (⟨#[97, 117, 116, 104, 69, 114, 114, 111, 114]⟩ : ByteArray)) else (if a0 = 6 then (some (⟨#[114, 97, 116, 101, 76, 105, 109, 105, 116, 101, 100]⟩ : ByteArray)) else (none)))))))
set_option maxHeartbeats 8000000 in
set_option maxRecDepth 100000 in
theorem notify_Reason_String.calls (a0 : Int) (r : ByteArray) (w : World) (h : notify_Reason_String.f a0 = some r) :
    Calls Try.prog 56 #[.int .i64 a0] w fun e w' => e = .returned (.string r) ∧ Drawn0 w w' := by
  have H : (if a0 = 0 then (some (⟨#[111, 116, 104, 101, 114]⟩ : ByteArray)) else (if a0 = 1 then (some (⟨#[99, 108, 105, 101, 110, 116, 69, 114, 114, 111, 114]⟩ : ByteArray)) else (if a0 = 2 then (some (⟨#[115, 101, 114, 118, 101, 114, 69, 114, 114, 111, 114]⟩ : ByteArray)) else (if a0 = 3 then (some (⟨#[99, 111, 110, 116, 101, 120, 116, 67, 97, 110, 99, 101, 108, 101, 100]⟩ : ByteArray)) else (if a0 = 4 then (some (⟨#[99, 111, 110, 116, 101, 120, 116, 68, 101, 97, 100, 108, 105, 110, 101, 69, 120, 99, 101, 101, 100, 101, 100]⟩ : ByteArray)) else (if a0 = 5 then (some (⟨#[97, 117, 116, 104, 69, 114, 114, 111, 114]⟩ : ByteArray)) else (if a0 = 6 then (some (⟨#[114, 97, 116, 101, 76, 105, 109, 105, 116, 101, 100]⟩ : ByteArray)) else (none)))))))) = some r := h
  clear h
  by_cases c2 : a0 = 0
  · rw [if_pos c2] at H
    have c2b0 : (a0 == 0) = true := beq_iff_eq.mpr c2
    have c2b1 : (a0 != 0) = false := bne_eq_false_iff_eq.mpr c2
    clear c2
    obtain rfl := Option.some.inj H
    go_enter Try.func56, Try.ntmps56
    go_wp2
    go_ret
    exact ⟨by first | rfl | (simp; done) | (simp [*]; done), by repeat (first | exact Drawn0.refl _ | apply Drawn0.step)⟩
  · rw [if_neg c2] at H
    have c2b0 : (a0 == 0) = false := beq_eq_false_iff_ne.mpr c2
    have c2b1 : (a0 != 0) = true := bne_iff_ne.mpr c2
    by_cases c3 : a0 = 1
    · rw [if_pos c3] at H
      have c3b0 : (a0 == 1) = true := beq_iff_eq.mpr c3
      have c3b1 : (a0 != 1) = false := bne_eq_false_iff_eq.mpr c3
      clear c3
      obtain rfl := Option.some.inj H
      go_enter Try.func56, Try.ntmps56
      go_wp2
      go_ret
      exact ⟨by first | rfl | (simp; done) | (simp [*]; done), by repeat (first | exact Drawn0.refl _ | apply Drawn0.step)⟩
    · rw [if_neg c3] at H
      have c3b0 : (a0 == 1) = false := beq_eq_false_iff_ne.mpr c3
      have c3b1 : (a0 != 1) = true := bne_iff_ne.mpr c3
      by_cases c4 : a0 = 2
      · rw [if_pos c4] at H
        have c4b0 : (a0 == 2) = true := beq_iff_eq.mpr c4
        have c4b1 : (a0 != 2) = false := bne_eq_false_iff_eq.mpr c4
        clear c4
        obtain rfl := Option.some.inj H
        go_enter Try.func56, Try.ntmps56
        go_wp2
        go_ret
        exact ⟨by first | rfl | (simp; done) | (simp [*]; done), by repeat (first | exact Drawn0.refl _ | apply Drawn0.step)⟩
      · rw [if_neg c4] at H
        have c4b0 : (a0 == 2) = false := beq_eq_false_iff_ne.mpr c4
        have c4b1 : (a0 != 2) = true := bne_iff_ne.mpr c4
        by_cases c5 : a0 = 3
        · rw [if_pos c5] at H
          have c5b0 : (a0 == 3) = true := beq_iff_eq.mpr c5
          have c5b1 : (a0 != 3) = false := bne_eq_false_iff_eq.mpr c5
          clear c5
          obtain rfl := Option.some.inj H
          go_enter Try.func56, Try.ntmps56
          go_wp2
          go_ret
          exact ⟨by first | rfl | (simp; done) | (simp [*]; done), by repeat (first | exact Drawn0.refl _ | apply Drawn0.step)⟩
        · rw [if_neg c5] at H
          have c5b0 : (a0 == 3) = false := beq_eq_false_iff_ne.mpr c5
          have c5b1 : (a0 != 3) = true := bne_iff_ne.mpr c5
          by_cases c6 : a0 = 4
          · rw [if_pos c6] at H
            have c6b0 : (a0 == 4) = true := beq_iff_eq.mpr c6
            have c6b1 : (a0 != 4) = false := bne_eq_false_iff_eq.mpr c6
            clear c6
            obtain rfl := Option.some.inj H
            go_enter Try.func56, Try.ntmps56
            go_wp2
            go_ret
            exact ⟨by first | rfl | (simp; done) | (simp [*]; done), by repeat (first | exact Drawn0.refl _ | apply Drawn0.step)⟩
          · rw [if_neg c6] at H
            have c6b0 : (a0 == 4) = false := beq_eq_false_iff_ne.mpr c6
            have c6b1 : (a0 != 4) = true := bne_iff_ne.mpr c6
            by_cases c7 : a0 = 5
            · rw [if_pos c7] at H
              have c7b0 : (a0 == 5) = true := beq_iff_eq.mpr c7
              have c7b1 : (a0 != 5) = false := bne_eq_false_iff_eq.mpr c7
              clear c7
              obtain rfl := Option.some.inj H
              go_enter Try.func56, Try.ntmps56
              go_wp2
              go_ret
              exact ⟨by first | rfl | (simp; done) | (simp [*]; done), by repeat (first | exact Drawn0.refl _ | apply Drawn0.step)⟩
            · rw [if_neg c7] at H
              have c7b0 : (a0 == 5) = false := beq_eq_false_iff_ne.mpr c7
              have c7b1 : (a0 != 5) = true := bne_iff_ne.mpr c7
              by_cases c8 : a0 = 6
              · rw [if_pos c8] at H
                have c8b0 : (a0 == 6) = true := beq_iff_eq.mpr c8
                have c8b1 : (a0 != 6) = false := bne_eq_false_iff_eq.mpr c8
                clear c8
                obtain rfl := Option.some.inj H
                go_enter Try.func56, Try.ntmps56
                go_wp2
                go_ret
                exact ⟨by first | rfl | (simp; done) | (simp [*]; done), by repeat (first | exact Drawn0.refl _ | apply Drawn0.step)⟩
              · rw [if_neg c8] at H
                exact absurd H (by simp)

/-! ### impl_Reason: function 26 -/
def impl_Reason.f (k : Nat) (a0 : Int) : Option (ByteArray) := (notify_GetFailureReasonFromStatusCode.f k a0).bind fun t120 => ((notify_Reason_String.f t120).bind fun t121 => (some t121))
theorem impl_Reason.mono : ∀ a0 k, LeO (impl_Reason.f k a0) (impl_Reason.f (k + 1) a0) := by
  intro a0 k
  unfold impl_Reason.f
  repeat' first
      | (with_reducible exact notify_GetFailureReasonFromStatusCode.mono _ _)
      | (with_reducible exact LeO.refl _)
      | (with_reducible exact LeO.none _)
      | (with_reducible refine LeO.ite ?_ ?_)
      | (with_reducible refine LeO.bind ?_ (fun _ => ?_))
      | exact notify_GetFailureReasonFromStatusCode.mono _ _
      | exact LeO.none _
      | refine LeO.ite ?_ ?_
      | refine LeO.bind ?_ (fun _ => ?_)
set_option maxHeartbeats 8000000 in
set_option maxRecDepth 100000 in
theorem impl_Reason.calls (k : Nat) (a0 : Int) (r : ByteArray) (w : World) (h : impl_Reason.f k a0 = some r) :
    Calls Try.prog 26 #[.int .i64 a0] w fun e w' => e = .returned (.string r) ∧ Drawn0 w w' := by
  have H : ((notify_GetFailureReasonFromStatusCode.f k a0).bind fun t120 => ((notify_Reason_String.f t120).bind fun t121 => (some t121))) = some r := h
  clear h
  replace H := Option.bind_eq_some_iff.mp H
  obtain ⟨t120, A20, H⟩ := H
  replace H : ((notify_Reason_String.f t120).bind fun t121 => (some t121)) = some r := H
  have A2 := Aside0.mk A20
  clear A20
  replace H := Option.bind_eq_some_iff.mp H
  obtain ⟨t121, A30, H⟩ := H
  replace H : (some t121) = some r := H
  have A3 := Aside0.mk A30
  clear A30
  obtain rfl := Option.some.inj H
  go_enter Try.func26, Try.ntmps26
  go_wp2_with (first | ((with_reducible refine gate_callee (f := 55) rfl ?_); refine goesL_ (some 4) rfl rfl Try.func55 (by kernel_rfl) rfl #[.int .i64 a0] rfl (by (try simp only [List.map_toArray, List.map_cons, List.map_nil]); first | done | rfl | (simp only [List.length_drop, List.length_take]; rfl)) ?_; (with_reducible refine (notify_GetFailureReasonFromStatusCode.calls k a0 t120 _ A2.out).mono ?_); rintro e w' ⟨rfl, ⟨nd, rfl⟩⟩; refine ⟨_, rfl, ?_⟩) | ((with_reducible refine gate_callee (f := 56) rfl ?_); refine goesL_ (some 5) rfl rfl Try.func56 (by kernel_rfl) rfl #[.int .i64 t120] rfl (by (try simp only [List.map_toArray, List.map_cons, List.map_nil]); first | done | rfl | (simp only [List.length_drop, List.length_take]; rfl)) ?_; (with_reducible refine (notify_Reason_String.calls t120 t121 _ A3.out).mono ?_); rintro e w' ⟨rfl, ⟨nd, rfl⟩⟩; refine ⟨_, rfl, ?_⟩))
  go_ret
  exact ⟨by first | rfl | (simp; done) | (simp [*]; done), by repeat (first | exact Drawn0.refl _ | apply Drawn0.step)⟩

/-! ### spec_ReasonClass: function 27 -/
def spec_ReasonClass.j0 : Nat → Int → Bool → Option (Int)
  | 0, _, _ => none
  | k + 1, x0, x12 => if x12 = true then (some 4) else (if x0 ≥ 500 then (if x0 ≤ 599 then (some 5) else (some 0)) else (some 0))
def spec_ReasonClass.f (k : Nat) (a0 : Int) : Option (Int) := if a0 = 401 then (some 41) else (if a0 = 403 then (some 43) else (if a0 = 429 then (some 49) else (if a0 ≥ 400 then (spec_ReasonClass.j0 k a0 (decide (a0 ≤ 499))) else (spec_ReasonClass.j0 k a0 false))))
theorem spec_ReasonClass.mono_l : ∀ k, (∀ y0 y1, LeO (spec_ReasonClass.j0 k y0 y1) (spec_ReasonClass.j0 (k + 1) y0 y1))
  | 0 => fun _ _ r h => by simp [spec_ReasonClass.j0] at h
  | k + 1 => by
    have ih0 := spec_ReasonClass.mono_l k
    · intro y0 y1
      unfold spec_ReasonClass.j0
      repeat' first
      | (with_reducible exact ih0 _ _)
      | (with_reducible exact LeO.refl _)
      | (with_reducible exact LeO.none _)
      | (with_reducible refine LeO.ite ?_ ?_)
      | (with_reducible refine LeO.bind ?_ (fun _ => ?_))
      | exact ih0 _ _
      | exact LeO.none _
      | refine LeO.ite ?_ ?_
      | refine LeO.bind ?_ (fun _ => ?_)
theorem spec_ReasonClass.mono : ∀ a0 k, LeO (spec_ReasonClass.f k a0) (spec_ReasonClass.f (k + 1) a0) := by
  intro a0 k
  have ih0 := spec_ReasonClass.mono_l k
  unfold spec_ReasonClass.f
  repeat' first
      | (with_reducible exact ih0 _ _)
      | (with_reducible exact LeO.refl _)
      | (with_reducible exact LeO.none _)
      | (with_reducible refine LeO.ite ?_ ?_)
      | (with_reducible refine LeO.bind ?_ (fun _ => ?_))
      | exact ih0 _ _
      | exact LeO.none _
      | refine LeO.ite ?_ ?_
      | refine LeO.bind ?_ (fun _ => ?_)
set_option maxHeartbeats 8000000 in
set_option maxRecDepth 100000 in
theorem spec_ReasonClass.calls (k : Nat) (a0 : Int) (r : Int) (w : World) (h : spec_ReasonClass.f k a0 = some r) :
    Calls Try.prog 27 #[.int .i64 a0] w fun e w' => e = .returned (.int .i64 r) ∧ Drawn0 w w' := by
  have H : (if a0 = 401 then (some 41) else (if a0 = 403 then (some 43) else (if a0 = 429 then (some 49) else (if a0 ≥ 400 then (spec_ReasonClass.j0 k a0 (decide (a0 ≤ 499))) else (spec_ReasonClass.j0 k a0 false))))) = some r := h
  clear h
  by_cases c2 : a0 = 401
  · rw [if_pos c2] at H
    have c2b0 : (a0 == 401) = true := beq_iff_eq.mpr c2
    have c2b1 : (a0 != 401) = false := bne_eq_false_iff_eq.mpr c2
    clear c2
    obtain rfl := Option.some.inj H
    go_enter Try.func27, Try.ntmps27
    go_wp2
    go_ret
    exact ⟨by first | rfl | (simp; done) | (simp [*]; done), by repeat (first | exact Drawn0.refl _ | apply Drawn0.step)⟩
  · rw [if_neg c2] at H
    have c2b0 : (a0 == 401) = false := beq_eq_false_iff_ne.mpr c2
    have c2b1 : (a0 != 401) = true := bne_iff_ne.mpr c2
    by_cases c3 : a0 = 403
    · rw [if_pos c3] at H
      have c3b0 : (a0 == 403) = true := beq_iff_eq.mpr c3
      have c3b1 : (a0 != 403) = false := bne_eq_false_iff_eq.mpr c3
      clear c3
      obtain rfl := Option.some.inj H
      go_enter Try.func27, Try.ntmps27
      go_wp2
      go_ret
      exact ⟨by first | rfl | (simp; done) | (simp [*]; done), by repeat (first | exact Drawn0.refl _ | apply Drawn0.step)⟩
    · rw [if_neg c3] at H
      have c3b0 : (a0 == 403) = false := beq_eq_false_iff_ne.mpr c3
      have c3b1 : (a0 != 403) = true := bne_iff_ne.mpr c3
      by_cases c4 : a0 = 429
      · rw [if_pos c4] at H
        have c4b0 : (a0 == 429) = true := beq_iff_eq.mpr c4
        have c4b1 : (a0 != 429) = false := bne_eq_false_iff_eq.mpr c4
        clear c4
        obtain rfl := Option.some.inj H
        go_enter Try.func27, Try.ntmps27
        go_wp2
        go_ret
        exact ⟨by first | rfl | (simp; done) | (simp [*]; done), by repeat (first | exact Drawn0.refl _ | apply Drawn0.step)⟩
      · rw [if_neg c4] at H
        have c4b0 : (a0 == 429) = false := beq_eq_false_iff_ne.mpr c4
        have c4b1 : (a0 != 429) = true := bne_iff_ne.mpr c4
        have HC5 := Aside0.mk H
        clear H
        go_enter Try.func27, Try.ntmps27
        go_upto_region 7 with (fail)
        go_cut [12] (fun v12 wc => ∃ (kq : Nat) (x12_4 : Bool), v12 = .bool x12_4 ∧ Aside0 (spec_ReasonClass.j0 kq a0 x12_4 = some r) ∧ Aside0 (kq ≤ k) ∧ Drawn0 w wc)
        case first =>
          have H := HC5.out
          clear HC5
          by_cases c6 : a0 ≥ 400
          · rw [if_pos c6] at H
            have c6b0 : decide (400 ≤ a0) = true := decide_eq_true c6
            clear c6
            (first | rw [c6b0] | (simp only [i64_w, i32_w]; rw [c6b0]) | skip)
            have H' := Aside0.mk H
            clear H
            go_wp2
            go_meet
            case rel => exact ⟨_, (decide (a0 ≤ 499)), (by first | rfl | (simp; done) | (simp [*]; done)), H', ⟨by first | omega | exact Nat.le_refl _⟩, by repeat (first | exact Drawn0.refl _ | apply Drawn0.step)⟩
          · rw [if_neg c6] at H
            have c6b0 : decide (400 ≤ a0) = false := decide_eq_false c6
            clear c6
            (first | rw [c6b0] | (simp only [i64_w, i32_w]; rw [c6b0]) | skip)
            have H' := Aside0.mk H
            clear H
            go_wp2
            go_meet
            case rel => exact ⟨_, (false), (by first | rfl | (simp; done) | (simp [*]; done)), H', ⟨by first | omega | exact Nat.le_refl _⟩, by repeat (first | exact Drawn0.refl _ | apply Drawn0.step)⟩
        case rest =>
          clear HC5
          try clear c2
          try clear c2b0
          try clear c2b1
          try clear p2
          try clear c3
          try clear c3b0
          try clear c3b1
          try clear c4
          try clear c4b0
          try clear c4b1
          try clear c6
          try clear c6b0
          obtain ⟨kq, x12_4, rfl, HA, HJ4, ⟨mc4, rfl⟩⟩ := hcut
          cases kq with
          | zero => exact absurd HA.out (by simp [spec_ReasonClass.j0])
          | succ kj4 =>
            have H := HA.out
            clear HA
            simp only [spec_ReasonClass.j0] at H
            by_cases c7 : x12_4 = true
            · subst c7
              have H1 : (some 4) = some r := by rw [if_pos rfl] at H; exact H
              clear H
              have H := H1
              clear H1
              obtain rfl := Option.some.inj H
              go_wp2
              go_ret
              exact ⟨by first | rfl | (simp; done) | (simp [*]; done), by repeat (first | exact Drawn0.refl _ | apply Drawn0.step)⟩
            · replace c7 := Bool.eq_false_iff.mpr c7
              subst c7
              have H1 : (if a0 ≥ 500 then (if a0 ≤ 599 then (some 5) else (some 0)) else (some 0)) = some r := by rw [if_neg (show ¬ (false = true) by decide)] at H; exact H
              clear H
              have H := H1
              clear H1
              by_cases c8 : a0 ≥ 500
              · rw [if_pos c8] at H
                have c8b0 : decide (500 ≤ a0) = true := decide_eq_true c8
                clear c8
                by_cases c9 : a0 ≤ 599
                · rw [if_pos c9] at H
                  have c9b0 : decide (a0 ≤ 599) = true := decide_eq_true c9
                  clear c9
                  obtain rfl := Option.some.inj H
                  go_wp2
                  go_ret
                  exact ⟨by first | rfl | (simp; done) | (simp [*]; done), by repeat (first | exact Drawn0.refl _ | apply Drawn0.step)⟩
                · rw [if_neg c9] at H
                  have c9b0 : decide (a0 ≤ 599) = false := decide_eq_false c9
                  clear c9
                  obtain rfl := Option.some.inj H
                  go_wp2
                  go_ret
                  exact ⟨by first | rfl | (simp; done) | (simp [*]; done), by repeat (first | exact Drawn0.refl _ | apply Drawn0.step)⟩
              · rw [if_neg c8] at H
                have c8b0 : decide (500 ≤ a0) = false := decide_eq_false c8
                clear c8
                obtain rfl := Option.some.inj H
                go_wp2
                go_ret
                exact ⟨by first | rfl | (simp; done) | (simp [*]; done), by repeat (first | exact Drawn0.refl _ | apply Drawn0.step)⟩

/-! ### laws_FnReasons: function 6 -/
def laws_FnReasons.j0 : Nat → Int → Int → Bool → Option (Bool)
  | 0, _, _, _ => none
  | k + 1, x0, x1, x15 => if x15 = true then (some false) else ((spec_ReasonClass.f k x0).bind fun t126 => ((spec_ReasonClass.f k x1).bind fun t127 => (if t126 = t127 then ((impl_Reason.f k x0).bind fun t128 => ((impl_Reason.f k x1).bind fun t129 => (some (t128.toList == t129.toList)))) else (some true))))
def laws_FnReasons.f (k : Nat) (a0 : Int) (a1 : Int) : Option (Bool) := (impl_Reason.f k 400).bind fun t122 => ((impl_Reason.f k 500).bind fun t123 => (if t122.toList = t123.toList then (laws_FnReasons.j0 k a0 a1 true) else ((impl_Reason.f k 400).bind fun t124 => (if t124.toList = ([] : List UInt8) then (laws_FnReasons.j0 k a0 a1 true) else ((impl_Reason.f k 500).bind fun t125 => (laws_FnReasons.j0 k a0 a1 (t125.toList == ([] : List UInt8))))))))
theorem laws_FnReasons.mono_l : ∀ k, (∀ y0 y1 y2, LeO (laws_FnReasons.j0 k y0 y1 y2) (laws_FnReasons.j0 (k + 1) y0 y1 y2))
  | 0 => fun _ _ _ r h => by simp [laws_FnReasons.j0] at h
  | k + 1 => by
    have ih0 := laws_FnReasons.mono_l k
    · intro y0 y1 y2
      unfold laws_FnReasons.j0
      repeat' first
      | (with_reducible exact ih0 _ _ _)
      | (with_reducible exact impl_Reason.mono _ _)
      | (with_reducible exact spec_ReasonClass.mono _ _)
      | (with_reducible exact LeO.refl _)
      | (with_reducible exact LeO.none _)
      | (with_reducible refine LeO.ite ?_ ?_)
      | (with_reducible refine LeO.bind ?_ (fun _ => ?_))
      | exact ih0 _ _ _
      | exact impl_Reason.mono _ _
      | exact spec_ReasonClass.mono _ _
      | exact LeO.none _
      | refine LeO.ite ?_ ?_
      | refine LeO.bind ?_ (fun _ => ?_)
theorem laws_FnReasons.mono : ∀ a0 a1 k, LeO (laws_FnReasons.f k a0 a1) (laws_FnReasons.f (k + 1) a0 a1) := by
  intro a0 a1 k
  have ih0 := laws_FnReasons.mono_l k
  unfold laws_FnReasons.f
  repeat' first
      | (with_reducible exact ih0 _ _ _)
      | (with_reducible exact impl_Reason.mono _ _)
      | (with_reducible exact spec_ReasonClass.mono _ _)
      | (with_reducible exact LeO.refl _)
      | (with_reducible exact LeO.none _)
      | (with_reducible refine LeO.ite ?_ ?_)
      | (with_reducible refine LeO.bind ?_ (fun _ => ?_))
      | exact ih0 _ _ _
      | exact impl_Reason.mono _ _
      | exact spec_ReasonClass.mono _ _
      | exact LeO.none _
      | refine LeO.ite ?_ ?_
      | refine LeO.bind ?_ (fun _ => ?_)
set_option maxHeartbeats 8000000 in
set_option maxRecDepth 100000 in
theorem laws_FnReasons.calls (k : Nat) (a0 : Int) (a1 : Int) (r : Bool) (w : World) (h : laws_FnReasons.f k a0 a1 = some r) :
    Calls Try.prog 6 #[.int .i64 a0, .int .i64 a1] w fun e w' => e = .returned (.bool r) ∧ Drawn0 w w' := by
  have H : ((impl_Reason.f k 400).bind fun t122 => ((impl_Reason.f k 500).bind fun t123 => (if t122.toList = t123.toList then (laws_FnReasons.j0 k a0 a1 true) else ((impl_Reason.f k 400).bind fun t124 => (if t124.toList = ([] : List UInt8) then (laws_FnReasons.j0 k a0 a1 true) else ((impl_Reason.f k 500).bind fun t125 => (laws_FnReasons.j0 k a0 a1 (t125.toList == ([] : List UInt8))))))))) = some r := h
  clear h
  have HC3 := Aside0.mk H
  clear H
  go_enter Try.func6, Try.ntmps6
  go_upto_region 1 with (fail)
  go_cut [15] (fun v15 wc => ∃ (kq : Nat) (x15_2 : Bool), v15 = .bool x15_2 ∧ Aside0 (laws_FnReasons.j0 kq a0 a1 x15_2 = some r) ∧ Aside0 (kq ≤ k) ∧ Drawn0 w wc)
  case first =>
    have H := HC3.out
    clear HC3
    replace H := Option.bind_eq_some_iff.mp H
    obtain ⟨t122, A40, H⟩ := H
    replace H : ((impl_Reason.f k 500).bind fun t123 => (if t122.toList = t123.toList then (laws_FnReasons.j0 k a0 a1 true) else ((impl_Reason.f k 400).bind fun t124 => (if t124.toList = ([] : List UInt8) then (laws_FnReasons.j0 k a0 a1 true) else ((impl_Reason.f k 500).bind fun t125 => (laws_FnReasons.j0 k a0 a1 (t125.toList == ([] : List UInt8)))))))) = some r := H
    have A4 := Aside0.mk A40
    clear A40
    replace H := Option.bind_eq_some_iff.mp H
    obtain ⟨t123, A50, H⟩ := H
    replace H : (if t122.toList = t123.toList then (laws_FnReasons.j0 k a0 a1 true) else ((impl_Reason.f k 400).bind fun t124 => (if t124.toList = ([] : List UInt8) then (laws_FnReasons.j0 k a0 a1 true) else ((impl_Reason.f k 500).bind fun t125 => (laws_FnReasons.j0 k a0 a1 (t125.toList == ([] : List UInt8))))))) = some r := H
    have A5 := Aside0.mk A50
    clear A50
    by_cases c6 : t122.toList = t123.toList
    · rw [if_pos c6] at H
      have c6b0 : (t122.toList == t123.toList) = true := beq_iff_eq.mpr c6
      have c6b1 : (t122.toList != t123.toList) = false := bne_eq_false_iff_eq.mpr c6
      clear c6
      (first | rw [c6b0] | (simp only [i64_w, i32_w]; rw [c6b0]) | skip)
      have H' := Aside0.mk H
      clear H
      go_wp2_with (first | ((with_reducible refine gate_callee (f := 26) rfl ?_); refine goesL_ (some 5) rfl rfl Try.func26 (by kernel_rfl) rfl #[.int .i64 400] rfl (by (try simp only [List.map_toArray, List.map_cons, List.map_nil]); first | done | rfl | (simp only [List.length_drop, List.length_take]; rfl)) ?_; (with_reducible refine (impl_Reason.calls k 400 t122 _ A4.out).mono ?_); rintro e w' ⟨rfl, ⟨nd, rfl⟩⟩; refine ⟨_, rfl, ?_⟩) | ((with_reducible refine gate_callee (f := 26) rfl ?_); refine goesL_ (some 6) rfl rfl Try.func26 (by kernel_rfl) rfl #[.int .i64 500] rfl (by (try simp only [List.map_toArray, List.map_cons, List.map_nil]); first | done | rfl | (simp only [List.length_drop, List.length_take]; rfl)) ?_; (with_reducible refine (impl_Reason.calls k 500 t123 _ A5.out).mono ?_); rintro e w' ⟨rfl, ⟨nd, rfl⟩⟩; refine ⟨_, rfl, ?_⟩))
      go_meet
      case rel => exact ⟨_, (true), (by first | rfl | (simp; done) | (simp [*]; done)), H', ⟨by first | omega | exact Nat.le_refl _⟩, by repeat (first | exact Drawn0.refl _ | apply Drawn0.step)⟩
    · rw [if_neg c6] at H
      have c6b0 : (t122.toList == t123.toList) = false := beq_eq_false_iff_ne.mpr c6
      have c6b1 : (t122.toList != t123.toList) = true := bne_iff_ne.mpr c6
      (first | rw [c6b0] | (simp only [i64_w, i32_w]; rw [c6b0]) | skip)
      replace H := Option.bind_eq_some_iff.mp H
      obtain ⟨t124, A70, H⟩ := H
      replace H : (if t124.toList = ([] : List UInt8) then (laws_FnReasons.j0 k a0 a1 true) else ((impl_Reason.f k 500).bind fun t125 => (laws_FnReasons.j0 k a0 a1 (t125.toList == ([] : List UInt8))))) = some r := H
      have A7 := Aside0.mk A70
      clear A70
      by_cases c8 : t124.toList = ([] : List UInt8)
      · rw [if_pos c8] at H
        have c8b0 : (t124.toList == ([] : List UInt8)) = true := beq_iff_eq.mpr c8
        have c8b1 : (t124.toList != ([] : List UInt8)) = false := bne_eq_false_iff_eq.mpr c8
        clear c8
        have H' := Aside0.mk H
        clear H
        go_wp2_with (first | ((with_reducible refine gate_callee (f := 26) rfl ?_); refine goesL_ (some 5) rfl rfl Try.func26 (by kernel_rfl) rfl #[.int .i64 400] rfl (by (try simp only [List.map_toArray, List.map_cons, List.map_nil]); first | done | rfl | (simp only [List.length_drop, List.length_take]; rfl)) ?_; (with_reducible refine (impl_Reason.calls k 400 t122 _ A4.out).mono ?_); rintro e w' ⟨rfl, ⟨nd, rfl⟩⟩; refine ⟨_, rfl, ?_⟩) | ((with_reducible refine gate_callee (f := 26) rfl ?_); refine goesL_ (some 6) rfl rfl Try.func26 (by kernel_rfl) rfl #[.int .i64 500] rfl (by (try simp only [List.map_toArray, List.map_cons, List.map_nil]); first | done | rfl | (simp only [List.length_drop, List.length_take]; rfl)) ?_; (with_reducible refine (impl_Reason.calls k 500 t123 _ A5.out).mono ?_); rintro e w' ⟨rfl, ⟨nd, rfl⟩⟩; refine ⟨_, rfl, ?_⟩) | (go_at_call 26; (with_reducible refine (impl_Reason.calls k 400 t124 _ A7.out).mono ?_); rintro e w' ⟨rfl, ⟨nd, rfl⟩⟩))
        go_meet
        case rel => exact ⟨_, (true), (by first | rfl | (simp; done) | (simp [*]; done)), H', ⟨by first | omega | exact Nat.le_refl _⟩, by repeat (first | exact Drawn0.refl _ | apply Drawn0.step)⟩
      · rw [if_neg c8] at H
        have c8b0 : (t124.toList == ([] : List UInt8)) = false := beq_eq_false_iff_ne.mpr c8
        have c8b1 : (t124.toList != ([] : List UInt8)) = true := bne_iff_ne.mpr c8
        replace H := Option.bind_eq_some_iff.mp H
        obtain ⟨t125, A90, H⟩ := H
        replace H : (laws_FnReasons.j0 k a0 a1 (t125.toList == ([] : List UInt8))) = some r := H
        have A9 := Aside0.mk A90
        clear A90
        have H' := Aside0.mk H
        clear H
        go_wp2_with (first | ((with_reducible refine gate_callee (f := 26) rfl ?_); refine goesL_ (some 5) rfl rfl Try.func26 (by kernel_rfl) rfl #[.int .i64 400] rfl (by (try simp only [List.map_toArray, List.map_cons, List.map_nil]); first | done | rfl | (simp only [List.length_drop, List.length_take]; rfl)) ?_; (with_reducible refine (impl_Reason.calls k 400 t122 _ A4.out).mono ?_); rintro e w' ⟨rfl, ⟨nd, rfl⟩⟩; refine ⟨_, rfl, ?_⟩) | ((with_reducible refine gate_callee (f := 26) rfl ?_); refine goesL_ (some 6) rfl rfl Try.func26 (by kernel_rfl) rfl #[.int .i64 500] rfl (by (try simp only [List.map_toArray, List.map_cons, List.map_nil]); first | done | rfl | (simp only [List.length_drop, List.length_take]; rfl)) ?_; (with_reducible refine (impl_Reason.calls k 500 t123 _ A5.out).mono ?_); rintro e w' ⟨rfl, ⟨nd, rfl⟩⟩; refine ⟨_, rfl, ?_⟩) | (go_at_call 26; (with_reducible refine (impl_Reason.calls k 400 t124 _ A7.out).mono ?_); rintro e w' ⟨rfl, ⟨nd, rfl⟩⟩) | (go_at_call 26; (with_reducible refine (impl_Reason.calls k 500 t125 _ A9.out).mono ?_); rintro e w' ⟨rfl, ⟨nd, rfl⟩⟩))
        go_meet
        case rel => exact ⟨_, ((t125.toList == ([] : List UInt8))), (by first | rfl | (simp; done) | (simp [*]; done)), H', ⟨by first | omega | exact Nat.le_refl _⟩, by repeat (first | exact Drawn0.refl _ | apply Drawn0.step)⟩
  case rest =>
    clear HC3
    try clear c2
    try clear p2
    try clear c6
    try clear c6b0
    try clear c6b1
    try clear c8
    try clear c8b0
    try clear c8b1
    obtain ⟨kq, x15_2, rfl, HA, HJ2, ⟨mc2, rfl⟩⟩ := hcut
    cases kq with
    | zero => exact absurd HA.out (by simp [laws_FnReasons.j0])
    | succ kj2 =>
      have H := HA.out
      clear HA
      simp only [laws_FnReasons.j0] at H
      by_cases c10 : x15_2 = true
      · subst c10
        have H1 : (some false) = some r := by rw [if_pos rfl] at H; exact H
        clear H
        have H := H1
        clear H1
        obtain rfl := Option.some.inj H
        go_wp2
        go_ret
        exact ⟨by first | rfl | (simp; done) | (simp [*]; done), by repeat (first | exact Drawn0.refl _ | apply Drawn0.step)⟩
      · replace c10 := Bool.eq_false_iff.mpr c10
        subst c10
        have H1 : ((spec_ReasonClass.f kj2 a0).bind fun t126 => ((spec_ReasonClass.f kj2 a1).bind fun t127 => (if t126 = t127 then ((impl_Reason.f kj2 a0).bind fun t128 => ((impl_Reason.f kj2 a1).bind fun t129 => (some (t128.toList == t129.toList)))) else (some true)))) = some r := by rw [if_neg (show ¬ (false = true) by decide)] at H; exact H
        clear H
        have H := H1
        clear H1
        replace H := Option.bind_eq_some_iff.mp H
        obtain ⟨t126, A110, H⟩ := H
        replace H : ((spec_ReasonClass.f kj2 a1).bind fun t127 => (if t126 = t127 then ((impl_Reason.f kj2 a0).bind fun t128 => ((impl_Reason.f kj2 a1).bind fun t129 => (some (t128.toList == t129.toList)))) else (some true))) = some r := H
        have A11 := Aside0.mk A110
        clear A110
        replace H := Option.bind_eq_some_iff.mp H
        obtain ⟨t127, A120, H⟩ := H
        replace H : (if t126 = t127 then ((impl_Reason.f kj2 a0).bind fun t128 => ((impl_Reason.f kj2 a1).bind fun t129 => (some (t128.toList == t129.toList)))) else (some true)) = some r := H
        have A12 := Aside0.mk A120
        clear A120
        by_cases c13 : t126 = t127
        · rw [if_pos c13] at H
          have c13b0 : (t126 == t127) = true := beq_iff_eq.mpr c13
          have c13b1 : (t126 != t127) = false := bne_eq_false_iff_eq.mpr c13
          clear c13
          replace H := Option.bind_eq_some_iff.mp H
          obtain ⟨t128, A140, H⟩ := H
          replace H : ((impl_Reason.f kj2 a1).bind fun t129 => (some (t128.toList == t129.toList))) = some r := H
          have A14 := Aside0.mk A140
          clear A140
          replace H := Option.bind_eq_some_iff.mp H
          obtain ⟨t129, A150, H⟩ := H
          replace H : (some (t128.toList == t129.toList)) = some r := H
          have A15 := Aside0.mk A150
          clear A150
          obtain rfl := Option.some.inj H
          go_wp2_with (first | ((with_reducible refine gate_callee (f := 27) rfl ?_); refine goesL_ (some 17) rfl rfl Try.func27 (by kernel_rfl) rfl #[.int .i64 a0] rfl (by (try simp only [List.map_toArray, List.map_cons, List.map_nil]); first | done | rfl | (simp only [List.length_drop, List.length_take]; rfl)) ?_; (with_reducible refine (spec_ReasonClass.calls kj2 a0 t126 _ A11.out).mono ?_); rintro e w' ⟨rfl, ⟨nd, rfl⟩⟩; refine ⟨_, rfl, ?_⟩) | ((with_reducible refine gate_callee (f := 27) rfl ?_); refine goesL_ (some 19) rfl rfl Try.func27 (by kernel_rfl) rfl #[.int .i64 a1] rfl (by (try simp only [List.map_toArray, List.map_cons, List.map_nil]); first | done | rfl | (simp only [List.length_drop, List.length_take]; rfl)) ?_; (with_reducible refine (spec_ReasonClass.calls kj2 a1 t127 _ A12.out).mono ?_); rintro e w' ⟨rfl, ⟨nd, rfl⟩⟩; refine ⟨_, rfl, ?_⟩) | ((with_reducible refine gate_callee (f := 26) rfl ?_); refine goesL_ (some 22) rfl rfl Try.func26 (by kernel_rfl) rfl #[.int .i64 a0] rfl (by (try simp only [List.map_toArray, List.map_cons, List.map_nil]); first | done | rfl | (simp only [List.length_drop, List.length_take]; rfl)) ?_; (with_reducible refine (impl_Reason.calls kj2 a0 t128 _ A14.out).mono ?_); rintro e w' ⟨rfl, ⟨nd, rfl⟩⟩; refine ⟨_, rfl, ?_⟩) | ((with_reducible refine gate_callee (f := 26) rfl ?_); refine goesL_ (some 24) rfl rfl Try.func26 (by kernel_rfl) rfl #[.int .i64 a1] rfl (by (try simp only [List.map_toArray, List.map_cons, List.map_nil]); first | done | rfl | (simp only [List.length_drop, List.length_take]; rfl)) ?_; (with_reducible refine (impl_Reason.calls kj2 a1 t129 _ A15.out).mono ?_); rintro e w' ⟨rfl, ⟨nd, rfl⟩⟩; refine ⟨_, rfl, ?_⟩))
          go_ret
          exact ⟨by first | rfl | (simp; done) | (simp [*]; done), by repeat (first | exact Drawn0.refl _ | apply Drawn0.step)⟩
        · rw [if_neg c13] at H
          have c13b0 : (t126 == t127) = false := beq_eq_false_iff_ne.mpr c13
          have c13b1 : (t126 != t127) = true := bne_iff_ne.mpr c13
          obtain rfl := Option.some.inj H
          go_wp2_with (first | ((with_reducible refine gate_callee (f := 27) rfl ?_); refine goesL_ (some 17) rfl rfl Try.func27 (by kernel_rfl) rfl #[.int .i64 a0] rfl (by (try simp only [List.map_toArray, List.map_cons, List.map_nil]); first | done | rfl | (simp only [List.length_drop, List.length_take]; rfl)) ?_; (with_reducible refine (spec_ReasonClass.calls kj2 a0 t126 _ A11.out).mono ?_); rintro e w' ⟨rfl, ⟨nd, rfl⟩⟩; refine ⟨_, rfl, ?_⟩) | ((with_reducible refine gate_callee (f := 27) rfl ?_); refine goesL_ (some 19) rfl rfl Try.func27 (by kernel_rfl) rfl #[.int .i64 a1] rfl (by (try simp only [List.map_toArray, List.map_cons, List.map_nil]); first | done | rfl | (simp only [List.length_drop, List.length_take]; rfl)) ?_; (with_reducible refine (spec_ReasonClass.calls kj2 a1 t127 _ A12.out).mono ?_); rintro e w' ⟨rfl, ⟨nd, rfl⟩⟩; refine ⟨_, rfl, ?_⟩))
          go_ret
          exact ⟨by first | rfl | (simp; done) | (simp [*]; done), by repeat (first | exact Drawn0.refl _ | apply Drawn0.step)⟩

/-- THE ONE PURE STATEMENT of laws_FnReasons: yours. -/
def laws_FnReasons.Pure : Prop := ∀ (a0 : Int) (a1 : Int), (Lit.int .i64 a0).wf = true → (Lit.int .i64 a1).wf = true → ∃ k, laws_FnReasons.f k a0 a1 = some true
theorem laws_FnReasons.walk (P : laws_FnReasons.Pure) (a0 : Int) (a1 : Int) (w : World) (w0 : (Lit.int .i64 a0).wf = true) (w1 : (Lit.int .i64 a1).wf = true) :
    Calls Try.prog 6 #[.int .i64 a0, .int .i64 a1] w fun e w' => e = .returned (.bool true) ∧ Below w.heap.size w w' := by
  obtain ⟨k, h⟩ := P a0 a1 w0 w1
  refine (laws_FnReasons.calls k a0 a1 true w h).mono ?_
  rintro e w' ⟨rfl, hd⟩
  exact ⟨rfl, hd.below⟩

/-! ### laws_zzFits4: function 51 -/
def laws_zzFits4.f (a0_0 : Int) (a0_1 : ByteArray) (a0_2 : ByteArray) : Option (Bool) := if (a0_1.size : Int) > 2147483647 then (some false) else (if (a0_2.size : Int) > 2147483647 then (some false) else (some true))
set_option maxHeartbeats 8000000 in
set_option maxRecDepth 100000 in
theorem laws_zzFits4.calls (a0_0 : Int) (a0_1 : ByteArray) (a0_2 : ByteArray) (r : Bool) (w : World) (h : laws_zzFits4.f a0_0 a0_1 a0_2 = some r) :
    Calls Try.prog 51 #[.agg #[.int .i64 a0_0, .string a0_1, .string a0_2]] w fun e w' => e = .returned (.bool r) ∧ Below w.heap.size w w' := by
  have hu37 := Try.underlying37
  have HB := Aside0.mk (Below.refl w.heap.size w)
  have H : (if (a0_1.size : Int) > 2147483647 then (some false) else (if (a0_2.size : Int) > 2147483647 then (some false) else (some true))) = some r := h
  clear h
  by_cases c2 : (a0_1.size : Int) > 2147483647
  · rw [if_pos c2] at H
    have c2b0 : decide (2147483647 < (a0_1.size : Int)) = true := decide_eq_true c2
    have c2b1 : decide (2147483647 < a0_1.size) = true := decide_eq_true (by omega)
    clear c2
    obtain rfl := Option.some.inj H
    go_enter Try.func51, Try.ntmps51
    go_wp2_with (first | ((with_reducible refine gate_dst (N := 1) rfl ?_); refine box_event ?hg (N := 1) ?hd (cs := #[.int .i64 a0_0, .string a0_1, .string a0_2]) (t := 37) ?hr ?_; (case hd => rfl); (case hg => rfl); (case hr => first | (go_simp; done) | (go_simp; rfl)); intro gb130 hg w3 hbox hb; have n0_ := Aside0.mk (below_step (by repeat (first | (with_reducible first | exact HB.out | apply below_alloc | apply pw_below_drewN | apply below_drew1) | exact HB.out)) hb); have n1_ := Aside0.mk (hbox); have n2_ := Aside0.mk ((by rw [hg]; exact (below_size (by repeat (first | (with_reducible first | exact HB.out | apply below_alloc | apply pw_below_drewN | apply below_drew1) | exact HB.out))) : w.heap.size ≤ gb130)); have n3_ := Aside0.mk ((by rw [hg]; exact (below_size (by repeat (first | (with_reducible first | exact HB.out | apply below_alloc | apply pw_below_drewN | apply below_drew1) | exact HB.out))) : w.heap.size ≤ gb130)); clear HB; have HB := n0_; have BK130 := n1_; have GW130 := n2_; have GE130 := n3_; clear n0_ n1_ n2_ n3_; clear hb hbox hg; have hcz4_0 : w3.cell? ⟨gb130, 0, none⟩ = some (.int .i64 a0_0) := (blk_cell BK130.out 0).trans rfl; have hcz4_1 : w3.cell? ⟨gb130, 1, none⟩ = some (.string a0_1) := (blk_cell BK130.out 1).trans rfl; have hcz4_2 : w3.cell? ⟨gb130, 2, none⟩ = some (.string a0_2) := (blk_cell BK130.out 2).trans rfl; have hfz4_0 := blk_frozen BK130.out 0; have hfz4_1 := blk_frozen BK130.out 1; have hfz4_2 := blk_frozen BK130.out 2))
    go_ret
    exact ⟨by first | rfl | (simp [errW_none, errW_some] <;> rfl) | (simp [*, errW_none, errW_some] <;> rfl), by repeat (first | (with_reducible first | exact HB.out | apply below_alloc | apply pw_below_drewN | apply below_drew1 | refine below_set ?_ GE130.out) | exact HB.out)⟩
  · rw [if_neg c2] at H
    have c2b0 : decide (2147483647 < (a0_1.size : Int)) = false := decide_eq_false c2
    have c2b1 : decide (2147483647 < a0_1.size) = false := decide_eq_false (by omega)
    clear c2
    by_cases c5 : (a0_2.size : Int) > 2147483647
    · rw [if_pos c5] at H
      have c5b0 : decide (2147483647 < (a0_2.size : Int)) = true := decide_eq_true c5
      have c5b1 : decide (2147483647 < a0_2.size) = true := decide_eq_true (by omega)
      clear c5
      obtain rfl := Option.some.inj H
      go_enter Try.func51, Try.ntmps51
      go_wp2_with (first | ((with_reducible refine gate_dst (N := 1) rfl ?_); refine box_event ?hg (N := 1) ?hd (cs := #[.int .i64 a0_0, .string a0_1, .string a0_2]) (t := 37) ?hr ?_; (case hd => rfl); (case hg => rfl); (case hr => first | (go_simp; done) | (go_simp; rfl)); intro gb130 hg w6 hbox hb; have n0_ := Aside0.mk (below_step (by repeat (first | (with_reducible first | exact HB.out | apply below_alloc | apply pw_below_drewN | apply below_drew1) | exact HB.out)) hb); have n1_ := Aside0.mk (hbox); have n2_ := Aside0.mk ((by rw [hg]; exact (below_size (by repeat (first | (with_reducible first | exact HB.out | apply below_alloc | apply pw_below_drewN | apply below_drew1) | exact HB.out))) : w.heap.size ≤ gb130)); have n3_ := Aside0.mk ((by rw [hg]; exact (below_size (by repeat (first | (with_reducible first | exact HB.out | apply below_alloc | apply pw_below_drewN | apply below_drew1) | exact HB.out))) : w.heap.size ≤ gb130)); clear HB; have HB := n0_; have BK130 := n1_; have GW130 := n2_; have GE130 := n3_; clear n0_ n1_ n2_ n3_; clear hb hbox hg; have hcz7_0 : w6.cell? ⟨gb130, 0, none⟩ = some (.int .i64 a0_0) := (blk_cell BK130.out 0).trans rfl; have hcz7_1 : w6.cell? ⟨gb130, 1, none⟩ = some (.string a0_1) := (blk_cell BK130.out 1).trans rfl; have hcz7_2 : w6.cell? ⟨gb130, 2, none⟩ = some (.string a0_2) := (blk_cell BK130.out 2).trans rfl; have hfz7_0 := blk_frozen BK130.out 0; have hfz7_1 := blk_frozen BK130.out 1; have hfz7_2 := blk_frozen BK130.out 2))
      go_ret
      exact ⟨by first | rfl | (simp [errW_none, errW_some] <;> rfl) | (simp [*, errW_none, errW_some] <;> rfl), by repeat (first | (with_reducible first | exact HB.out | apply below_alloc | apply pw_below_drewN | apply below_drew1 | refine below_set ?_ GE130.out) | exact HB.out)⟩
    · rw [if_neg c5] at H
      have c5b0 : decide (2147483647 < (a0_2.size : Int)) = false := decide_eq_false c5
      have c5b1 : decide (2147483647 < a0_2.size) = false := decide_eq_false (by omega)
      clear c5
      obtain rfl := Option.some.inj H
      go_enter Try.func51, Try.ntmps51
      go_wp2_with (first | ((with_reducible refine gate_dst (N := 1) rfl ?_); refine box_event ?hg (N := 1) ?hd (cs := #[.int .i64 a0_0, .string a0_1, .string a0_2]) (t := 37) ?hr ?_; (case hd => rfl); (case hg => rfl); (case hr => first | (go_simp; done) | (go_simp; rfl)); intro gb130 hg w8 hbox hb; have n0_ := Aside0.mk (below_step (by repeat (first | (with_reducible first | exact HB.out | apply below_alloc | apply pw_below_drewN | apply below_drew1) | exact HB.out)) hb); have n1_ := Aside0.mk (hbox); have n2_ := Aside0.mk ((by rw [hg]; exact (below_size (by repeat (first | (with_reducible first | exact HB.out | apply below_alloc | apply pw_below_drewN | apply below_drew1) | exact HB.out))) : w.heap.size ≤ gb130)); have n3_ := Aside0.mk ((by rw [hg]; exact (below_size (by repeat (first | (with_reducible first | exact HB.out | apply below_alloc | apply pw_below_drewN | apply below_drew1) | exact HB.out))) : w.heap.size ≤ gb130)); clear HB; have HB := n0_; have BK130 := n1_; have GW130 := n2_; have GE130 := n3_; clear n0_ n1_ n2_ n3_; clear hb hbox hg; have hcz9_0 : w8.cell? ⟨gb130, 0, none⟩ = some (.int .i64 a0_0) := (blk_cell BK130.out 0).trans rfl; have hcz9_1 : w8.cell? ⟨gb130, 1, none⟩ = some (.string a0_1) := (blk_cell BK130.out 1).trans rfl; have hcz9_2 : w8.cell? ⟨gb130, 2, none⟩ = some (.string a0_2) := (blk_cell BK130.out 2).trans rfl; have hfz9_0 := blk_frozen BK130.out 0; have hfz9_1 := blk_frozen BK130.out 1; have hfz9_2 := blk_frozen BK130.out 2))
      go_ret
      exact ⟨by first | rfl | (simp [errW_none, errW_some] <;> rfl) | (simp [*, errW_none, errW_some] <;> rfl), by repeat (first | (with_reducible first | exact HB.out | apply below_alloc | apply pw_below_drewN | apply below_drew1 | refine below_set ?_ GE130.out) | exact HB.out)⟩

end Go.Proofs.Ytbffhefeepmpcaa.Q
