-- printed by this project's own program wip/tools/mkprint.py (the kit's print.py with hand-proved contracts put in)
import Derived.Test.YtbffhefeepmpcaaQx0
namespace Go.Proofs.Ytbffhefeepmpcaa.Q
open Go.RowKit Go.Proofs.YtbffhefeepmpcaaW.PrintWords Go.Proofs.YtbffhefeepmpcaaW.PrintLast Go.Proofs.YtbffhefeepmpcaaW.PrintMore
attribute [local go_sem] max2_int min2_int max_two min_two max_three min_three max_four min_four   -- for this text's walks alone
set_option linter.unusedVariables false
set_option linter.unusedSimpArgs false

/-! ### notify_GetFailureReasonFromStatusCode: function 55 -/
def notify_GetFailureReasonFromStatusCode.j0 : Nat → Int → Int → Bool → Option (Int)
  | 0, _, _, _ => none
  | k + 1, x0, x3, x4 => if x4 = true then (some 5) else (if x3 = 429 then (some 6) else (if (wrap64 (Int.tdiv x0 100)) = 4 then (some 1) else (if (wrap64 (Int.tdiv x0 100)) = 5 then (some 2) else (some 0))))
def notify_GetFailureReasonFromStatusCode.f (k : Nat) (a0 : Int) : Option (Int) := if a0 = 401 then (notify_GetFailureReasonFromStatusCode.j0 k a0 a0 (a0 == 401)) else (notify_GetFailureReasonFromStatusCode.j0 k a0 a0 (a0 == 403))
theorem notify_GetFailureReasonFromStatusCode.mono_l : ∀ k, (∀ y0 y1 y2, LeO (notify_GetFailureReasonFromStatusCode.j0 k y0 y1 y2) (notify_GetFailureReasonFromStatusCode.j0 (k + 1) y0 y1 y2))
  | 0 => fun _ _ _ r h => by simp [notify_GetFailureReasonFromStatusCode.j0] at h
  | k + 1 => by
    have ih0 := notify_GetFailureReasonFromStatusCode.mono_l k
    · intro y0 y1 y2
      unfold notify_GetFailureReasonFromStatusCode.j0
      repeat' first
      | (with_reducible exact ih0 _ _ _)
      | (with_reducible exact LeO.refl _)
      | (with_reducible exact LeO.none _)
      | (with_reducible refine LeO.ite ?_ ?_)
      | (with_reducible refine LeO.bind ?_ (fun _ => ?_))
      | exact ih0 _ _ _
      | exact LeO.none _
      | refine LeO.ite ?_ ?_
      | refine LeO.bind ?_ (fun _ => ?_)
theorem notify_GetFailureReasonFromStatusCode.mono : ∀ a0 k, LeO (notify_GetFailureReasonFromStatusCode.f k a0) (notify_GetFailureReasonFromStatusCode.f (k + 1) a0) := by
  intro a0 k
  have ih0 := notify_GetFailureReasonFromStatusCode.mono_l k
  unfold notify_GetFailureReasonFromStatusCode.f
  repeat' first
      | (with_reducible exact ih0 _ _ _)
      | (with_reducible exact LeO.refl _)
      | (with_reducible exact LeO.none _)
      | (with_reducible refine LeO.ite ?_ ?_)
      | (with_reducible refine LeO.bind ?_ (fun _ => ?_))
      | exact ih0 _ _ _
      | exact LeO.none _
      | refine LeO.ite ?_ ?_
      | refine LeO.bind ?_ (fun _ => ?_)
set_option maxHeartbeats 8000000 in
set_option maxRecDepth 100000 in
theorem notify_GetFailureReasonFromStatusCode.calls (k : Nat) (a0 : Int) (r : Int) (w : World) (h : notify_GetFailureReasonFromStatusCode.f k a0 = some r) :
    Calls Try.prog 55 #[.int .i64 a0] w fun e w' => e = .returned (.int .i64 r) ∧ Drawn0 w w' := by
  have H : (if a0 = 401 then (notify_GetFailureReasonFromStatusCode.j0 k a0 a0 (a0 == 401)) else (notify_GetFailureReasonFromStatusCode.j0 k a0 a0 (a0 == 403))) = some r := h
  clear h
  have HC2 := Aside0.mk H
  clear H
  go_enter Try.func55, Try.ntmps55
  go_upto_if 4 with (fail)
  go_cut [4] (fun v4 wc => ∃ (kq : Nat) (x4_1 : Bool), v4 = .bool x4_1 ∧ Aside0 (notify_GetFailureReasonFromStatusCode.j0 kq a0 a0 x4_1 = some r) ∧ Aside0 (kq ≤ k) ∧ Drawn0 w wc)
  case first =>
    have H := HC2.out
    clear HC2
    by_cases c3 : a0 = 401
    · rw [if_pos c3] at H
      have c3b0 : (a0 == 401) = true := beq_iff_eq.mpr c3
      have c3b1 : (a0 != 401) = false := bne_eq_false_iff_eq.mpr c3
      clear c3
      (first | rw [c3b0] | (simp only [i64_w, i32_w]; rw [c3b0]) | skip)
      have H' := Aside0.mk H
      clear H
      go_wp2
      go_meet
      case rel => exact ⟨_, ((a0 == 401)), (by first | rfl | (simp; done) | (simp [*]; done)), H', ⟨by first | omega | exact Nat.le_refl _⟩, by repeat (first | exact Drawn0.refl _ | apply Drawn0.step)⟩
    · rw [if_neg c3] at H
      have c3b0 : (a0 == 401) = false := beq_eq_false_iff_ne.mpr c3
      have c3b1 : (a0 != 401) = true := bne_iff_ne.mpr c3
      (first | rw [c3b0] | (simp only [i64_w, i32_w]; rw [c3b0]) | skip)
      have H' := Aside0.mk H
      clear H
      go_wp2
      go_meet
      case rel => exact ⟨_, ((a0 == 403)), (by first | rfl | (simp; done) | (simp [*]; done)), H', ⟨by first | omega | exact Nat.le_refl _⟩, by repeat (first | exact Drawn0.refl _ | apply Drawn0.step)⟩
  case rest =>
    clear HC2
    try clear p2
    try clear c3
    try clear c3b0
    try clear c3b1
    obtain ⟨kq, x4_1, rfl, HA, HJ1, ⟨mc1, rfl⟩⟩ := hcut
    cases kq with
    | zero => exact absurd HA.out (by simp [notify_GetFailureReasonFromStatusCode.j0])
    | succ kj1 =>
      have H := HA.out
      clear HA
      simp only [notify_GetFailureReasonFromStatusCode.j0] at H
      by_cases c4 : x4_1 = true
      · subst c4
        have H1 : (some 5) = some r := by rw [if_pos rfl] at H; exact H
        clear H
        have H := H1
        clear H1
        obtain rfl := Option.some.inj H
        go_wp2
        go_ret
        exact ⟨by first | rfl | (simp; done) | (simp [*]; done), by repeat (first | exact Drawn0.refl _ | apply Drawn0.step)⟩
      · replace c4 := Bool.eq_false_iff.mpr c4
        subst c4
        have H1 : (if a0 = 429 then (some 6) else (if (wrap64 (Int.tdiv a0 100)) = 4 then (some 1) else (if (wrap64 (Int.tdiv a0 100)) = 5 then (some 2) else (some 0)))) = some r := by rw [if_neg (show ¬ (false = true) by decide)] at H; exact H
        clear H
        have H := H1
        clear H1
        by_cases c5 : a0 = 429
        · rw [if_pos c5] at H
          have c5b0 : (a0 == 429) = true := beq_iff_eq.mpr c5
          have c5b1 : (a0 != 429) = false := bne_eq_false_iff_eq.mpr c5
          clear c5
          obtain rfl := Option.some.inj H
          go_wp2
          go_ret
          exact ⟨by first | rfl | (simp; done) | (simp [*]; done), by repeat (first | exact Drawn0.refl _ | apply Drawn0.step)⟩
        · rw [if_neg c5] at H
          have c5b0 : (a0 == 429) = false := beq_eq_false_iff_ne.mpr c5
          have c5b1 : (a0 != 429) = true := bne_iff_ne.mpr c5
          by_cases c6 : (wrap64 (Int.tdiv a0 100)) = 4
          · rw [if_pos c6] at H
            have c6b0 : ((wrap64 (Int.tdiv a0 100)) == 4) = true := beq_iff_eq.mpr c6
            have c6b1 : ((wrap64 (Int.tdiv a0 100)) != 4) = false := bne_eq_false_iff_eq.mpr c6
            clear c6
            obtain rfl := Option.some.inj H
            go_wp2
            go_ret
            exact ⟨by first | rfl | (simp; done) | (simp [*]; done), by repeat (first | exact Drawn0.refl _ | apply Drawn0.step)⟩
          · rw [if_neg c6] at H
            have c6b0 : ((wrap64 (Int.tdiv a0 100)) == 4) = false := beq_eq_false_iff_ne.mpr c6
            have c6b1 : ((wrap64 (Int.tdiv a0 100)) != 4) = true := bne_iff_ne.mpr c6
            by_cases c7 : (wrap64 (Int.tdiv a0 100)) = 5
            · rw [if_pos c7] at H
              have c7b0 : ((wrap64 (Int.tdiv a0 100)) == 5) = true := beq_iff_eq.mpr c7
              have c7b1 : ((wrap64 (Int.tdiv a0 100)) != 5) = false := bne_eq_false_iff_eq.mpr c7
              clear c7
              obtain rfl := Option.some.inj H
              go_wp2
              go_ret
              exact ⟨by first | rfl | (simp; done) | (simp [*]; done), by repeat (first | exact Drawn0.refl _ | apply Drawn0.step)⟩
            · rw [if_neg c7] at H
              have c7b0 : ((wrap64 (Int.tdiv a0 100)) == 5) = false := beq_eq_false_iff_ne.mpr c7
              have c7b1 : ((wrap64 (Int.tdiv a0 100)) != 5) = true := bne_iff_ne.mpr c7
              obtain rfl := Option.some.inj H
              go_wp2
              go_ret
              exact ⟨by first | rfl | (simp; done) | (simp [*]; done), by repeat (first | exact Drawn0.refl _ | apply Drawn0.step)⟩

/-! ### notify_Reason_String: function 56 -/
def notify_Reason_String.f (a0 : Int) : Option (ByteArray) := if a0 = 0 then (some (⟨#[111, 116, 104, 101, 114]⟩ : ByteArray)) else (if a0 = 1 then (some (⟨#[99, 108, 105, 101, 110, 116, 69, 114, 114, 111, 114]⟩ : ByteArray)) else (if a0 = 2 then (some (⟨#[115, 101, 114, 118, 101, 114, 69, 114, 114, 111, 114]⟩ : ByteArray)) else (if a0 = 3 then (some (⟨#[99, 111, 110, 116, 101, 120, 116, 67, 97, 110, 99, 101, 108, 101, 100]⟩ : ByteArray)) else (if a0 = 4 then (some (⟨#[99, 111, 110, 116, 101, 120, 116, 68, 101, 97, 100, 108, 105, 110, 101, 69, 120, 99, 101, 101, 100, 101, 100]⟩ : ByteArray)) else (if a0 = 5 then (some (⟨#[97, 117, 116, 104, 69, 114, 114, 111, 114]⟩ : ByteArray)) else (if a0 = 6 then (some (⟨#[114, 97, 116, 101, 76, 105, 109, 105, 116, 101, 100]⟩ : ByteArray)) else (none)))))))
set_option maxHeartbeats 8000000 in
set_option maxRecDepth 100000 in
theorem notify_Reason_String.calls (a0 : Int) (r : ByteArray) (w : World) (h : notify_Reason_String.f a0 = some r) :
    Calls Try.prog 56 #[.int .i64 a0] w fun e w' => e = .returned (.string r) ∧ Drawn0 w w' := by
  have H : (if a0 = 0 then (some (⟨#[111, 116, 104, 101, 114]⟩ : ByteArray)) else (if a0 = 1 then (some (⟨#[99, 108, 105, 101, 110, 116, 69, 114, 114, 111, 114]⟩ : ByteArray)) else (if a0 = 2 then (some (⟨#[115, 101, 114, 118, 101, 114, 69, 114, 114, 111, 114]⟩ : ByteArray)) else (if a0 = 3 then (some (⟨#[99, 111, 110, 116, 101, 120, 116, 67, 97, 110, 99, 101, 108, 101, 100]⟩ : ByteArray)) else (if a0 = 4 then (some (⟨#[99, 111, 110, 116, 101, 120, 116, 68, 101, 97, 100, 108, 105, 110, 101, 69, 120, 99, 101, 101, 100, 101, 100]⟩ : ByteArray)) else (if a0 = 5 then (some (⟨#[97, 117, 116, 104, 69, 114, 114, 111, 114]⟩ : ByteArray)) else (if a0 = 6 then (some (⟨#[114, 97, 116, 101, 76, 105, 109, 105, 116, 101, 100]⟩ : ByteArray)) else (none)))))))) = some r := h
  clear h
  by_cases c2 : a0 = 0
  · rw [if_pos c2] at H
    have c2b0 : (a0 == 0) = true := beq_iff_eq.mpr c2
    have c2b1 : (a0 != 0) = false := bne_eq_false_iff_eq.mpr c2
    clear c2
    obtain rfl := Option.some.inj H
    go_enter Try.func56, Try.ntmps56
    go_wp2
    go_ret
    exact ⟨by first | rfl | (simp; done) | (simp [*]; done), by repeat (first | exact Drawn0.refl _ | apply Drawn0.step)⟩
  · rw [if_neg c2] at H
    have c2b0 : (a0 == 0) = false := beq_eq_false_iff_ne.mpr c2
    have c2b1 : (a0 != 0) = true := bne_iff_ne.mpr c2
    by_cases c3 : a0 = 1
    · rw [if_pos c3] at H
      have c3b0 : (a0 == 1) = true := beq_iff_eq.mpr c3
      have c3b1 : (a0 != 1) = false := bne_eq_false_iff_eq.mpr c3
      clear c3
      obtain rfl := Option.some.inj H
      go_enter Try.func56, Try.ntmps56
      go_wp2
      go_ret
      exact ⟨by first | rfl | (simp; done) | (simp [*]; done), by repeat (first | exact Drawn0.refl _ | apply Drawn0.step)⟩
    · rw [if_neg c3] at H
      have c3b0 : (a0 == 1) = false := beq_eq_false_iff_ne.mpr c3
      have c3b1 : (a0 != 1) = true := bne_iff_ne.mpr c3
      by_cases c4 : a0 = 2
      · rw [if_pos c4] at H
        have c4b0 : (a0 == 2) = true := beq_iff_eq.mpr c4
        have c4b1 : (a0 != 2) = false := bne_eq_false_iff_eq.mpr c4
        clear c4
        obtain rfl := Option.some.inj H
        go_enter Try.func56, Try.ntmps56
        go_wp2
        go_ret
        exact ⟨by first | rfl | (simp; done) | (simp [*]; done), by repeat (first | exact Drawn0.refl _ | apply Drawn0.step)⟩
      · rw [if_neg c4] at H
        have c4b0 : (a0 == 2) = false := beq_eq_false_iff_ne.mpr c4
        have c4b1 : (a0 != 2) = true := bne_iff_ne.mpr c4
        by_cases c5 : a0 = 3
        · rw [if_pos c5] at H
          have c5b0 : (a0 == 3) = true := beq_iff_eq.mpr c5
          have c5b1 : (a0 != 3) = false := bne_eq_false_iff_eq.mpr c5
          clear c5
          obtain rfl := Option.some.inj H
          go_enter Try.func56, Try.ntmps56
          go_wp2
          go_ret
          exact ⟨by first | rfl | (simp; done) | (simp [*]; done), by repeat (first | exact Drawn0.refl _ | apply Drawn0.step)⟩
        · rw [if_neg c5] at H
          have c5b0 : (a0 == 3) = false := beq_eq_false_iff_ne.mpr c5
          have c5b1 : (a0 != 3) = true := bne_iff_ne.mpr c5
          by_cases c6 : a0 = 4
          · rw [if_pos c6] at H
            have c6b0 : (a0 == 4) = true := beq_iff_eq.mpr c6
            have c6b1 : (a0 != 4) = false := bne_eq_false_iff_eq.mpr c6
            clear c6
            obtain rfl := Option.some.inj H
            go_enter Try.func56, Try.ntmps56
            go_wp2
            go_ret
            exact ⟨by first | rfl | (simp; done) | (simp [*]; done), by repeat (first | exact Drawn0.refl _ | apply Drawn0.step)⟩
          · rw [if_neg c6] at H
            have c6b0 : (a0 == 4) = false := beq_eq_false_iff_ne.mpr c6
            have c6b1 : (a0 != 4) = true := bne_iff_ne.mpr c6
            by_cases c7 : a0 = 5
            · rw [if_pos c7] at H
              have c7b0 : (a0 == 5) = true := beq_iff_eq.mpr c7
              have c7b1 : (a0 != 5) = false := bne_eq_false_iff_eq.mpr c7
              clear c7
              obtain rfl := Option.some.inj H
              go_enter Try.func56, Try.ntmps56
              go_wp2
              go_ret
              exact ⟨by first | rfl | (simp; done) | (simp [*]; done), by repeat (first | exact Drawn0.refl _ | apply Drawn0.step)⟩
            · rw [if_neg c7] at H
              have c7b0 : (a0 == 5) = false := beq_eq_false_iff_ne.mpr c7
              have c7b1 : (a0 != 5) = true := bne_iff_ne.mpr c7
              by_cases c8 : a0 = 6
              · rw [if_pos c8] at H
                have c8b0 : (a0 == 6) = true := beq_iff_eq.mpr c8
                have c8b1 : (a0 != 6) = false := bne_eq_false_iff_eq.mpr c8
                clear c8
                obtain rfl := Option.some.inj H
                go_enter Try.func56, Try.ntmps56
                go_wp2
                go_ret
                exact ⟨by first | rfl | (simp; done) | (simp [*]; done), by repeat (first | exact Drawn0.refl _ | apply Drawn0.step)⟩
              · rw [if_neg c8] at H
                exact absurd H (by simp)

/-! ### impl_Reason: function 26 -/
def impl_Reason.f (k : Nat) (a0 : Int) : Option (ByteArray) := (notify_GetFailureReasonFromStatusCode.f k a0).bind fun t120 => ((notify_Reason_String.f t120).bind fun t121 => (some t121))
theorem impl_Reason.mono : ∀ a0 k, LeO (impl_Reason.f k a0) (impl_Reason.f (k + 1) a0) := by
  intro a0 k
  unfold impl_Reason.f
  repeat' first
      | (with_reducible exact notify_GetFailureReasonFromStatusCode.mono _ _)
      | (with_reducible exact LeO.refl _)
      | (with_reducible exact LeO.none _)
      | (with_reducible refine LeO.ite ?_ ?_)
      | (with_reducible refine LeO.bind ?_ (fun _ => ?_))
      | exact notify_GetFailureReasonFromStatusCode.mono _ _
      | exact LeO.none _
      | refine LeO.ite ?_ ?_
      | refine LeO.bind ?_ (fun _ => ?_)
set_option maxHeartbeats 8000000 in
set_option maxRecDepth 100000 in
theorem impl_Reason.calls (k : Nat) (a0 : Int) (r : ByteArray) (w : World) (h : impl_Reason.f k a0 = some r) :
    Calls Try.prog 26 #[.int .i64 a0] w fun e w' => e = .returned (.string r) ∧ Drawn0 w w' := by
  have H : ((notify_GetFailureReasonFromStatusCode.f k a0).bind fun t120 => ((notify_Reason_String.f t120).bind fun t121 => (some t121))) = some r := h
  clear h
  replace H := Option.bind_eq_some_iff.mp H
  obtain ⟨t120, A20, H⟩ := H
  replace H : ((notify_Reason_String.f t120).bind fun t121 => (some t121)) = some r := H
  have A2 := Aside0.mk A20
  clear A20
  replace H := Option.bind_eq_some_iff.mp H
  obtain ⟨t121, A30, H⟩ := H
  replace H : (some t121) = some r := H
  have A3 := Aside0.mk A30
  clear A30
  obtain rfl := Option.some.inj H
  go_enter Try.func26, Try.ntmps26
  go_wp2_with (first | ((with_reducible refine gate_callee (f := 55) rfl ?_); refine goesL_ (some 4) rfl rfl Try.func55 (by kernel_rfl) rfl #[.int .i64 a0] rfl (by (try simp only [List.map_toArray, List.map_cons, List.map_nil]); first | done | rfl | (simp only [List.length_drop, List.length_take]; rfl)) ?_; (with_reducible refine (notify_GetFailureReasonFromStatusCode.calls k a0 t120 _ A2.out).mono ?_); rintro e w' ⟨rfl, ⟨nd, rfl⟩⟩; refine ⟨_, rfl, ?_⟩) | ((with_reducible refine gate_callee (f := 56) rfl ?_); refine goesL_ (some 5) rfl rfl Try.func56 (by kernel_rfl) rfl #[.int .i64 t120] rfl (by (try simp only [List.map_toArray, List.map_cons, List.map_nil]); first | done | rfl | (simp only [List.length_drop, List.length_take]; rfl)) ?_; (with_reducible refine (notify_Reason_String.calls t120 t121 _ A3.out).mono ?_); rintro e w' ⟨rfl, ⟨nd, rfl⟩⟩; refine ⟨_, rfl, ?_⟩))
  go_ret
  exact ⟨by first | rfl | (simp; done) | (simp [*]; done), by repeat (first | exact Drawn0.refl _ | apply Drawn0.step)⟩

end Go.Proofs.Ytbffhefeepmpcaa.Q
