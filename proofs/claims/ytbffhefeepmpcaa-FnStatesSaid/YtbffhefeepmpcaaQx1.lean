-- printed by this project's own program wip/tools/mkprint.py (the kit's print.py with hand-proved contracts put in)
import Derived.Test.YtbffhefeepmpcaaQx0
namespace Go.Proofs.Ytbffhefeepmpcaa.Q
open Go.RowKit Go.Proofs.YtbffhefeepmpcaaW.PrintWords Go.Proofs.YtbffhefeepmpcaaW.PrintLast Go.Proofs.YtbffhefeepmpcaaW.PrintMore
attribute [local go_sem] max2_int min2_int max_two min_two max_three min_three max_four min_four   -- for this text's walks alone
set_option linter.unusedVariables false
set_option linter.unusedSimpArgs false

/-! ### spec_rank: function 46 -/
def spec_rank.f (a0 : ByteArray) : Option (Int) := if a0.toList = ([117, 110, 112, 114, 111, 99, 101, 115, 115, 101, 100] : List UInt8) then (some 0) else (if a0.toList = ([97, 99, 116, 105, 118, 101] : List UInt8) then (some 1) else (if a0.toList = ([115, 117, 112, 112, 114, 101, 115, 115, 101, 100] : List UInt8) then (some 2) else (some (-1))))
set_option maxHeartbeats 8000000 in
set_option maxRecDepth 100000 in
theorem spec_rank.calls (a0 : ByteArray) (r : Int) (w : World) (h : spec_rank.f a0 = some r) :
    Calls Try.prog 46 #[.string a0] w fun e w' => e = .returned (.int .i64 r) ∧ Drawn0 w w' := by
  have H : (if a0.toList = ([117, 110, 112, 114, 111, 99, 101, 115, 115, 101, 100] : List UInt8) then (some 0) else (if a0.toList = ([97, 99, 116, 105, 118, 101] : List UInt8) then (some 1) else (if a0.toList = ([115, 117, 112, 112, 114, 101, 115, 115, 101, 100] : List UInt8) then (some 2) else (some (-1))))) = some r := h
  clear h
  by_cases c2 : a0.toList = ([117, 110, 112, 114, 111, 99, 101, 115, 115, 101, 100] : List UInt8)
  · rw [if_pos c2] at H
    have c2b0 : (a0.toList == ([117, 110, 112, 114, 111, 99, 101, 115, 115, 101, 100] : List UInt8)) = true := beq_iff_eq.mpr c2
    have c2b1 : (a0.toList != ([117, 110, 112, 114, 111, 99, 101, 115, 115, 101, 100] : List UInt8)) = false := bne_eq_false_iff_eq.mpr c2
    clear c2
    obtain rfl := Option.some.inj H
    go_enter Try.func46, Try.ntmps46
    go_wp2
    go_ret
    exact ⟨by first | rfl | (simp; done) | (simp [*]; done), by repeat (first | exact Drawn0.refl _ | apply Drawn0.step)⟩
  · rw [if_neg c2] at H
    have c2b0 : (a0.toList == ([117, 110, 112, 114, 111, 99, 101, 115, 115, 101, 100] : List UInt8)) = false := beq_eq_false_iff_ne.mpr c2
    have c2b1 : (a0.toList != ([117, 110, 112, 114, 111, 99, 101, 115, 115, 101, 100] : List UInt8)) = true := bne_iff_ne.mpr c2
    by_cases c3 : a0.toList = ([97, 99, 116, 105, 118, 101] : List UInt8)
    · rw [if_pos c3] at H
      have c3b0 : (a0.toList == ([97, 99, 116, 105, 118, 101] : List UInt8)) = true := beq_iff_eq.mpr c3
      have c3b1 : (a0.toList != ([97, 99, 116, 105, 118, 101] : List UInt8)) = false := bne_eq_false_iff_eq.mpr c3
      clear c3
      obtain rfl := Option.some.inj H
      go_enter Try.func46, Try.ntmps46
      go_wp2
      go_ret
      exact ⟨by first | rfl | (simp; done) | (simp [*]; done), by repeat (first | exact Drawn0.refl _ | apply Drawn0.step)⟩
    · rw [if_neg c3] at H
      have c3b0 : (a0.toList == ([97, 99, 116, 105, 118, 101] : List UInt8)) = false := beq_eq_false_iff_ne.mpr c3
      have c3b1 : (a0.toList != ([97, 99, 116, 105, 118, 101] : List UInt8)) = true := bne_iff_ne.mpr c3
      by_cases c4 : a0.toList = ([115, 117, 112, 112, 114, 101, 115, 115, 101, 100] : List UInt8)
      · rw [if_pos c4] at H
        have c4b0 : (a0.toList == ([115, 117, 112, 112, 114, 101, 115, 115, 101, 100] : List UInt8)) = true := beq_iff_eq.mpr c4
        have c4b1 : (a0.toList != ([115, 117, 112, 112, 114, 101, 115, 115, 101, 100] : List UInt8)) = false := bne_eq_false_iff_eq.mpr c4
        clear c4
        obtain rfl := Option.some.inj H
        go_enter Try.func46, Try.ntmps46
        go_wp2
        go_ret
        exact ⟨by first | rfl | (simp; done) | (simp [*]; done), by repeat (first | exact Drawn0.refl _ | apply Drawn0.step)⟩
      · rw [if_neg c4] at H
        have c4b0 : (a0.toList == ([115, 117, 112, 112, 114, 101, 115, 115, 101, 100] : List UInt8)) = false := beq_eq_false_iff_ne.mpr c4
        have c4b1 : (a0.toList != ([115, 117, 112, 112, 114, 101, 115, 115, 101, 100] : List UInt8)) = true := bne_iff_ne.mpr c4
        obtain rfl := Option.some.inj H
        go_enter Try.func46, Try.ntmps46
        go_wp2
        go_ret
        exact ⟨by first | rfl | (simp; done) | (simp [*]; done), by repeat (first | exact Drawn0.refl _ | apply Drawn0.step)⟩

/-! ### spec_StateCompare: function 13 -/
def spec_StateCompare.j0 : Nat → Int → Int → Bool → Option (Int × Int)
  | 0, _, _, _ => none
  | k + 1, x6, x7, x17 => if x17 = true then (some (0, 2)) else (if x6 < x7 then (some ((-1), 1)) else (if x6 > x7 then (some (1, 1)) else (some (0, 1))))
def spec_StateCompare.f (k : Nat) (a0 : ByteArray) (a1 : ByteArray) : Option (Int × Int) := (spec_rank.f a0).bind fun t101 => ((spec_rank.f a1).bind fun t102 => (if t101 < 0 then (spec_StateCompare.j0 k t101 t102 true) else (spec_StateCompare.j0 k t101 t102 (decide (t102 < 0)))))
theorem spec_StateCompare.mono_l : ∀ k, (∀ y0 y1 y2, LeO (spec_StateCompare.j0 k y0 y1 y2) (spec_StateCompare.j0 (k + 1) y0 y1 y2))
  | 0 => fun _ _ _ r h => by simp [spec_StateCompare.j0] at h
  | k + 1 => by
    have ih0 := spec_StateCompare.mono_l k
    · intro y0 y1 y2
      unfold spec_StateCompare.j0
      repeat' first
      | (with_reducible exact ih0 _ _ _)
      | (with_reducible exact LeO.refl _)
      | (with_reducible exact LeO.none _)
      | (with_reducible refine LeO.ite ?_ ?_)
      | (with_reducible refine LeO.bind ?_ (fun _ => ?_))
      | exact ih0 _ _ _
      | exact LeO.none _
      | refine LeO.ite ?_ ?_
      | refine LeO.bind ?_ (fun _ => ?_)
theorem spec_StateCompare.mono : ∀ a0 a1 k, LeO (spec_StateCompare.f k a0 a1) (spec_StateCompare.f (k + 1) a0 a1) := by
  intro a0 a1 k
  have ih0 := spec_StateCompare.mono_l k
  unfold spec_StateCompare.f
  repeat' first
      | (with_reducible exact ih0 _ _ _)
      | (with_reducible exact LeO.refl _)
      | (with_reducible exact LeO.none _)
      | (with_reducible refine LeO.ite ?_ ?_)
      | (with_reducible refine LeO.bind ?_ (fun _ => ?_))
      | exact ih0 _ _ _
      | exact LeO.none _
      | refine LeO.ite ?_ ?_
      | refine LeO.bind ?_ (fun _ => ?_)
set_option maxHeartbeats 8000000 in
set_option maxRecDepth 100000 in
theorem spec_StateCompare.calls (k : Nat) (a0 : ByteArray) (a1 : ByteArray) (r1 : Int) (r2 : Int) (w : World) (h : spec_StateCompare.f k a0 a1 = some (r1, r2)) :
    Calls Try.prog 13 #[.string a0, .string a1] w fun e w' => e = .returned (.tuple #[.int .i64 r1, .int .i64 r2]) ∧ Drawn0 w w' := by
  have H : ((spec_rank.f a0).bind fun t101 => ((spec_rank.f a1).bind fun t102 => (if t101 < 0 then (spec_StateCompare.j0 k t101 t102 true) else (spec_StateCompare.j0 k t101 t102 (decide (t102 < 0)))))) = some (r1, r2) := h
  clear h
  replace H := Option.bind_eq_some_iff.mp H
  obtain ⟨t101, A30, H⟩ := H
  replace H : ((spec_rank.f a1).bind fun t102 => (if t101 < 0 then (spec_StateCompare.j0 k t101 t102 true) else (spec_StateCompare.j0 k t101 t102 (decide (t102 < 0))))) = some (r1, r2) := H
  have A3 := Aside0.mk A30
  clear A30
  replace H := Option.bind_eq_some_iff.mp H
  obtain ⟨t102, A40, H⟩ := H
  replace H : (if t101 < 0 then (spec_StateCompare.j0 k t101 t102 true) else (spec_StateCompare.j0 k t101 t102 (decide (t102 < 0)))) = some (r1, r2) := H
  have A4 := Aside0.mk A40
  clear A40
  have HC5 := Aside0.mk H
  clear H
  go_enter Try.func13, Try.ntmps13
  go_upto_region 2 with (first | ((with_reducible refine gate_callee (f := 46) rfl ?_); refine goesL_ (some 9) rfl rfl Try.func46 (by kernel_rfl) rfl #[.string a0] rfl (by (try simp only [List.map_toArray, List.map_cons, List.map_nil]); first | done | rfl | (simp only [List.length_drop, List.length_take]; rfl)) ?_; (with_reducible refine (spec_rank.calls a0 t101 _ A3.out).mono ?_); rintro e w' ⟨rfl, ⟨nd, rfl⟩⟩; refine ⟨_, rfl, ?_⟩) | ((with_reducible refine gate_callee (f := 46) rfl ?_); refine goesL_ (some 11) rfl rfl Try.func46 (by kernel_rfl) rfl #[.string a1] rfl (by (try simp only [List.map_toArray, List.map_cons, List.map_nil]); first | done | rfl | (simp only [List.length_drop, List.length_take]; rfl)) ?_; (with_reducible refine (spec_rank.calls a1 t102 _ A4.out).mono ?_); rintro e w' ⟨rfl, ⟨nd, rfl⟩⟩; refine ⟨_, rfl, ?_⟩))
  (try simp only [Act.put, List.setIfInBounds_toArray, List.set_cons_zero, List.set_cons_succ])
  go_cut [17] (fun v17 wc => ∃ (kq : Nat) (x17_4 : Bool), v17 = .bool x17_4 ∧ Aside0 (spec_StateCompare.j0 kq t101 t102 x17_4 = some (r1, r2)) ∧ Aside0 (kq ≤ k) ∧ Drawn0 w wc)
  case first =>
    have H := HC5.out
    clear HC5
    by_cases c6 : t101 < 0
    · rw [if_pos c6] at H
      have c6b0 : decide (t101 < 0) = true := decide_eq_true c6
      clear c6
      (first | rw [c6b0] | (simp only [i64_w, i32_w]; rw [c6b0]) | skip)
      have H' := Aside0.mk H
      clear H
      go_wp2
      go_meet
      case rel => exact ⟨_, (true), (by first | rfl | (simp; done) | (simp [*]; done)), H', ⟨by first | omega | exact Nat.le_refl _⟩, by repeat (first | exact Drawn0.refl _ | apply Drawn0.step)⟩
    · rw [if_neg c6] at H
      have c6b0 : decide (t101 < 0) = false := decide_eq_false c6
      clear c6
      (first | rw [c6b0] | (simp only [i64_w, i32_w]; rw [c6b0]) | skip)
      have H' := Aside0.mk H
      clear H
      go_wp2
      go_meet
      case rel => exact ⟨_, (decide (t102 < 0)), (by first | rfl | (simp; done) | (simp [*]; done)), H', ⟨by first | omega | exact Nat.le_refl _⟩, by repeat (first | exact Drawn0.refl _ | apply Drawn0.step)⟩
  case rest =>
    clear HC5
    try clear c1
    try clear p2
    try clear c4
    try clear c6
    try clear c6b0
    obtain ⟨kq, x17_4, rfl, HA, HJ4, ⟨mc4, rfl⟩⟩ := hcut
    cases kq with
    | zero => exact absurd HA.out (by simp [spec_StateCompare.j0])
    | succ kj4 =>
      have H := HA.out
      clear HA
      simp only [spec_StateCompare.j0] at H
      by_cases c7 : x17_4 = true
      · subst c7
        have H1 : (some (0, 2)) = some (r1, r2) := by rw [if_pos rfl] at H; exact H
        clear H
        have H := H1
        clear H1
        simp only [Option.some.injEq, Prod.mk.injEq] at H
        obtain ⟨rfl, rfl⟩ := H
        go_wp2
        go_ret2
        exact ⟨by first | rfl | (simp; done) | (simp [*]; done), by repeat (first | exact Drawn0.refl _ | apply Drawn0.step)⟩
      · replace c7 := Bool.eq_false_iff.mpr c7
        subst c7
        have H1 : (if t101 < t102 then (some ((-1), 1)) else (if t101 > t102 then (some (1, 1)) else (some (0, 1)))) = some (r1, r2) := by rw [if_neg (show ¬ (false = true) by decide)] at H; exact H
        clear H
        have H := H1
        clear H1
        by_cases c8 : t101 < t102
        · rw [if_pos c8] at H
          have c8b0 : decide (t101 < t102) = true := decide_eq_true c8
          clear c8
          simp only [Option.some.injEq, Prod.mk.injEq] at H
          obtain ⟨rfl, rfl⟩ := H
          go_wp2
          go_ret2
          exact ⟨by first | rfl | (simp; done) | (simp [*]; done), by repeat (first | exact Drawn0.refl _ | apply Drawn0.step)⟩
        · rw [if_neg c8] at H
          have c8b0 : decide (t101 < t102) = false := decide_eq_false c8
          clear c8
          by_cases c9 : t101 > t102
          · rw [if_pos c9] at H
            have c9b0 : decide (t102 < t101) = true := decide_eq_true c9
            clear c9
            simp only [Option.some.injEq, Prod.mk.injEq] at H
            obtain ⟨rfl, rfl⟩ := H
            go_wp2
            go_ret2
            exact ⟨by first | rfl | (simp; done) | (simp [*]; done), by repeat (first | exact Drawn0.refl _ | apply Drawn0.step)⟩
          · rw [if_neg c9] at H
            have c9b0 : decide (t102 < t101) = false := decide_eq_false c9
            clear c9
            simp only [Option.some.injEq, Prod.mk.injEq] at H
            obtain ⟨rfl, rfl⟩ := H
            go_wp2
            go_ret2
            exact ⟨by first | rfl | (simp; done) | (simp [*]; done), by repeat (first | exact Drawn0.refl _ | apply Drawn0.step)⟩

/-! ### alert_AlertState_Compare: function 47 -/
-- a contract that was proved by hand
def rankS (a : ByteArray) : Int := if a.toList = ([115, 117, 112, 112, 114, 101, 115, 115, 101, 100] : List UInt8) then 2 else if a.toList = ([97, 99, 116, 105, 118, 101] : List UInt8) then 1 else 0
theorem rankS_calls (a0 : ByteArray) (w : World) :
    Calls Try.prog 68 #[.string a0] w fun e w' => e = .returned (.int .i64 (rankS a0)) ∧ w = w' := by
  unfold rankS
  by_cases c1 : a0.toList = ([115, 117, 112, 112, 114, 101, 115, 115, 101, 100] : List UInt8)
  · have b0 : (a0.toList == ([115, 117, 112, 112, 114, 101, 115, 115, 101, 100] : List UInt8)) = true := beq_iff_eq.mpr c1
    rw [if_pos c1]
    clear c1
    go_enter Try.func68, Try.ntmps68
    go_wp2
    go_ret
    exact ⟨rfl, rfl⟩
  · have b0 : (a0.toList == ([115, 117, 112, 112, 114, 101, 115, 115, 101, 100] : List UInt8)) = false := beq_eq_false_iff_ne.mpr c1
    rw [if_neg c1]
    clear c1
    by_cases c2 : a0.toList = ([97, 99, 116, 105, 118, 101] : List UInt8)
    · have b1 : (a0.toList == ([97, 99, 116, 105, 118, 101] : List UInt8)) = true := beq_iff_eq.mpr c2
      rw [if_pos c2]
      clear c2
      go_enter Try.func68, Try.ntmps68
      go_wp2
      go_ret
      exact ⟨rfl, rfl⟩
    · have b1 : (a0.toList == ([97, 99, 116, 105, 118, 101] : List UInt8)) = false := beq_eq_false_iff_ne.mpr c2
      rw [if_neg c2]
      clear c2
      go_enter Try.func68, Try.ntmps68
      go_wp2
      go_ret
      exact ⟨rfl, rfl⟩
def cmpS (x y : Int) : Int := if x < y then -1 else if y < x then 1 else 0
def alert_AlertState_Compare.f (a0 a1 : ByteArray) : Option Int := some (cmpS (rankS a0) (rankS a1))
set_option maxHeartbeats 800000 in
theorem alert_AlertState_Compare.calls (a0 a1 : ByteArray) (r : Int) (w : World) (h : alert_AlertState_Compare.f a0 a1 = some r) :
    Calls Try.prog 47 #[.string a0, .string a1] w fun e w' => e = .returned (.int .i64 r) ∧ Drawn0 w w' := by
  obtain rfl := Option.some.inj h
  clear h
  obtain ⟨x, hx⟩ : ∃ x, rankS a0 = x := ⟨_, rfl⟩
  obtain ⟨y, hy⟩ : ∃ y, rankS a1 = y := ⟨_, rfl⟩
  have h0 := rankS_calls a0
  have h1 := rankS_calls a1
  rw [hx] at h0 ⊢
  rw [hy] at h1 ⊢
  clear hx hy
  have H0 := Aside0.mk h0
  have H1 := Aside0.mk h1
  clear h0 h1
  go_enter Try.func47, Try.ntmps47
  go_wp2_with fail
  refine (H0.out _).mono ?_
  rintro e w1 ⟨rfl, rfl⟩
  go_wp2_with fail
  refine (H1.out _).mono ?_
  rintro e w1 ⟨rfl, rfl⟩
  go_wp2
  · have g : x < y := by assumption
    go_ret
    exact ⟨by rw [cmpS, if_pos g]; rfl, Drawn0.refl _⟩
  · have g : y < x := by assumption
    go_ret
    exact ⟨by rw [cmpS, if_neg (by omega), if_pos g]; rfl, Drawn0.refl _⟩
  · have g : y ≤ x := by assumption
    have g2 : x ≤ y := by assumption
    go_ret
    exact ⟨by rw [cmpS, if_neg (by omega), if_neg (by omega)]; rfl, Drawn0.refl _⟩


/-! ### impl_StateCompare: function 14 -/
def impl_StateCompare.f (a0 : ByteArray) (a1 : ByteArray) : Option (Int) := (alert_AlertState_Compare.f a0 a1).bind fun t103 => (some t103)
set_option maxHeartbeats 8000000 in
set_option maxRecDepth 100000 in
theorem impl_StateCompare.calls (a0 : ByteArray) (a1 : ByteArray) (r : Int) (w : World) (h : impl_StateCompare.f a0 a1 = some r) :
    Calls Try.prog 14 #[.string a0, .string a1] w fun e w' => e = .returned (.int .i64 r) ∧ Drawn0 w w' := by
  have H : ((alert_AlertState_Compare.f a0 a1).bind fun t103 => (some t103)) = some r := h
  clear h
  replace H := Option.bind_eq_some_iff.mp H
  obtain ⟨t103, A30, H⟩ := H
  replace H : (some t103) = some r := H
  have A3 := Aside0.mk A30
  clear A30
  obtain rfl := Option.some.inj H
  go_enter Try.func14, Try.ntmps14
  go_wp2_with (first | ((with_reducible refine gate_callee (f := 47) rfl ?_); refine goesL_ (some 7) rfl rfl Try.func47 (by kernel_rfl) rfl #[.string a0, .string a1] rfl (by (try simp only [List.map_toArray, List.map_cons, List.map_nil]); first | done | rfl | (simp only [List.length_drop, List.length_take]; rfl)) ?_; (with_reducible refine (alert_AlertState_Compare.calls a0 a1 t103 _ A3.out).mono ?_); rintro e w' ⟨rfl, ⟨nd, rfl⟩⟩; refine ⟨_, rfl, ?_⟩))
  go_ret
  exact ⟨by first | rfl | (simp; done) | (simp [*]; done), by repeat (first | exact Drawn0.refl _ | apply Drawn0.step)⟩

end Go.Proofs.Ytbffhefeepmpcaa.Q
