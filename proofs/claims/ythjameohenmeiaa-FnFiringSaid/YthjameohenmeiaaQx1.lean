-- printed by this project's own program wip/tools/mkprint.py (the kit's print.py with hand-proved contracts put in)
import Derived.Test.YthjameohenmeiaaQx0
namespace Go.Proofs.Ythjameohenmeiaa.Q
open Go.RowKit Go.Proofs.YthjameohenmeiaaW.PrintWords Go.Proofs.YthjameohenmeiaaW.PrintLast Go.Proofs.YthjameohenmeiaaW.PrintMore
attribute [local go_sem] max2_int min2_int max_two min_two max_three min_three max_four min_four   -- for this text's walks alone
set_option linter.unusedVariables false
set_option linter.unusedSimpArgs false

/-! ### laws_zzFits6: function 5 -/
def laws_zzFits6.l0 : Nat → List ByteArray → Int → Int → Option (Bool)
  | 0, _, _, _ => none
  | k + 1, x8, x9, x10 => if x10 < x9 then (if 0 ≤ x10 then (if x10 < (x8.length : Int) then (if ((rdOf ByteArray.empty x8 x10).size : Int) > 2147483647 then (some false) else (laws_zzFits6.l0 k x8 x9 (wrap64 (x10 + 1)))) else (none)) else (none)) else (some true)
def laws_zzFits6.f (k : Nat) (l0 : List ByteArray) : Option (Bool) := if (l0.length : Int) > 2147483647 then (some false) else (laws_zzFits6.l0 k l0 (l0.length : Int) 0)
theorem laws_zzFits6.mono_l : ∀ k, (∀ y0 y1 y2, LeO (laws_zzFits6.l0 k y0 y1 y2) (laws_zzFits6.l0 (k + 1) y0 y1 y2))
  | 0 => fun _ _ _ r h => by simp [laws_zzFits6.l0] at h
  | k + 1 => by
    have ih0 := laws_zzFits6.mono_l k
    · intro y0 y1 y2
      unfold laws_zzFits6.l0
      repeat' first
      | (with_reducible exact ih0 _ _ _)
      | (with_reducible exact LeO.refl _)
      | (with_reducible exact LeO.none _)
      | (with_reducible refine LeO.ite ?_ ?_)
      | (with_reducible refine LeO.bind ?_ (fun _ => ?_))
      | exact ih0 _ _ _
      | exact LeO.none _
      | refine LeO.ite ?_ ?_
      | refine LeO.bind ?_ (fun _ => ?_)
theorem laws_zzFits6.mono : ∀ a0 k, LeO (laws_zzFits6.f k a0) (laws_zzFits6.f (k + 1) a0) := by
  intro a0 k
  have ih0 := laws_zzFits6.mono_l k
  unfold laws_zzFits6.f
  repeat' first
      | (with_reducible exact ih0 _ _ _)
      | (with_reducible exact LeO.refl _)
      | (with_reducible exact LeO.none _)
      | (with_reducible refine LeO.ite ?_ ?_)
      | (with_reducible refine LeO.bind ?_ (fun _ => ?_))
      | exact ih0 _ _ _
      | exact LeO.none _
      | refine LeO.ite ?_ ?_
      | refine LeO.bind ?_ (fun _ => ?_)
set_option maxHeartbeats 8000000 in
set_option maxRecDepth 100000 in
theorem laws_zzFits6.calls (k : Nat) (A0 : Option Addr) (c0 : Nat) (l0 : List ByteArray) (r : Bool) (w : World) (hr0 : Kd.C Kd.string w A0 l0.length l0) (hc0 : l0.length ≤ c0) (h : laws_zzFits6.f k l0 = some r) :
    Calls Try.prog 5 #[.slice A0 l0.length c0] w fun e w' => e = .returned (.bool r) ∧ Drawn0 w w' := by
  have HR0 := Aside0.mk hr0
  have HC0 := Aside0.mk hc0
  clear hr0 hc0
  have H : (if (l0.length : Int) > 2147483647 then (some false) else (laws_zzFits6.l0 k l0 (l0.length : Int) 0)) = some r := h
  clear h
  by_cases c2 : (l0.length : Int) > 2147483647
  · rw [if_pos c2] at H
    have c2b0 : decide (2147483647 < (l0.length : Int)) = true := decide_eq_true c2
    have c2b1 : decide (2147483647 < l0.length) = true := decide_eq_true (by omega)
    clear c2
    obtain rfl := Option.some.inj H
    go_enter Try.func5, Try.ntmps5
    go_wp2
    go_ret
    exact ⟨by first | rfl | (simp; done) | (simp [*]; done), by repeat (first | exact Drawn0.refl _ | apply Drawn0.step)⟩
  · rw [if_neg c2] at H
    have c2b0 : decide (2147483647 < (l0.length : Int)) = false := decide_eq_false c2
    have c2b1 : decide (2147483647 < l0.length) = false := decide_eq_false (by omega)
    clear c2
    have H' := Aside0.mk H
    clear H
    go_enter Try.func5, Try.ntmps5
    go_wp2
    go_loopg [10] k (fun kq v10 w' => ∃ (x10_1 : Int), v10 = .int .i64 x10_1 ∧ Aside0 (laws_zzFits6.l0 kq l0 (l0.length : Int) x10_1 = some r) ∧ Aside0 (kq ≤ k) ∧ Drawn0 w w')
    case atStart => exact ⟨(0), (by first | rfl | (simp; done) | (simp [*]; done)), H', ⟨Nat.le_refl _⟩, by repeat (first | exact Drawn0.refl _ | apply Drawn0.step)⟩
    case round =>
      clear H'
      try clear c2
      try clear c2b0
      try clear c2b1
      try clear p2
      obtain ⟨x10_1, rfl, HA, HK1, ⟨m1, rfl⟩⟩ := hrel
      cases gk with
      | zero => exact absurd HA.out (by simp [laws_zzFits6.l0])
      | succ k1 =>
        have H := HA.out
        clear HA
        simp only [laws_zzFits6.l0] at H
        by_cases c3 : x10_1 < (l0.length : Int)
        · rw [if_pos c3] at H
          have c3b0 : decide (x10_1 < (l0.length : Int)) = true := decide_eq_true c3
          clear c3
          by_cases c4 : 0 ≤ x10_1
          · rw [if_pos c4] at H
            have c4b0 : decide (0 ≤ x10_1) = true := decide_eq_true c4
            clear c4
            by_cases c5 : x10_1 < (l0.length : Int)
            · rw [if_pos c5] at H
              have c5b0 : decide (x10_1 < (l0.length : Int)) = true := decide_eq_true c5
              clear c5
              by_cases c6 : ((rdOf ByteArray.empty l0 x10_1).size : Int) > 2147483647
              · rw [if_pos c6] at H
                have c6b0 : decide (2147483647 < ((rdOf ByteArray.empty l0 x10_1).size : Int)) = true := decide_eq_true c6
                have c6b1 : decide (2147483647 < (rdOf ByteArray.empty l0 x10_1).size) = true := decide_eq_true (by omega)
                clear c6
                obtain rfl := Option.some.inj H
                have p101 : 0 ≤ (x10_1 : Int) := of_decide_eq_true (by first | (with_reducible assumption) | assumption)
                have q101 : x10_1 < (l0.length : Int) := of_decide_eq_true (by first | (with_reducible assumption) | assumption)
                obtain ⟨ad101, e101, hx101_0⟩ := Kd.at_string HR0.out x10_1 p101 q101
                cases e101
                replace p101 := eq_true p101
                replace q101 := eq_true q101
                go_wp2
                go_ret
                exact ⟨by first | rfl | (simp; done) | (simp [*]; done), by repeat (first | exact Drawn0.refl _ | apply Drawn0.step)⟩
              · rw [if_neg c6] at H
                have c6b0 : decide (2147483647 < ((rdOf ByteArray.empty l0 x10_1).size : Int)) = false := decide_eq_false c6
                have c6b1 : decide (2147483647 < (rdOf ByteArray.empty l0 x10_1).size) = false := decide_eq_false (by omega)
                clear c6
                have H' := Aside0.mk H
                clear H
                have p101 : 0 ≤ (x10_1 : Int) := of_decide_eq_true (by first | (with_reducible assumption) | assumption)
                have q101 : x10_1 < (l0.length : Int) := of_decide_eq_true (by first | (with_reducible assumption) | assumption)
                obtain ⟨ad101, e101, hx101_0⟩ := Kd.at_string HR0.out x10_1 p101 q101
                cases e101
                replace p101 := eq_true p101
                replace q101 := eq_true q101
                go_wp2
                go_roundg k1
                case measure => have := HK1.out; omega
                case rel => exact ⟨(wrap64 (x10_1 + 1)), (by first | rfl | (simp; done) | (simp [*]; done)), H', ⟨by have := HK1.out; omega⟩, by repeat (first | exact Drawn0.refl _ | apply Drawn0.step)⟩
            · rw [if_neg c5] at H
              exact absurd H (by simp)
          · rw [if_neg c4] at H
            exact absurd H (by simp)
        · rw [if_neg c3] at H
          have c3b0 : decide (x10_1 < (l0.length : Int)) = false := decide_eq_false c3
          clear c3
          obtain rfl := Option.some.inj H
          go_wp2
          go_ret
          exact ⟨by first | rfl | (simp; done) | (simp [*]; done), by repeat (first | exact Drawn0.refl _ | apply Drawn0.step)⟩

/-! ### time_subMono: function 36 -/
def time_subMono.j0 : Nat → Int → Int → Int → Bool → Option (Int)
  | 0, _, _, _, _ => none
  | k + 1, x0, x1, x5, x15 => if x15 = true then (some 9223372036854775807) else (if x5 > 0 then (if x0 < x1 then (some (-9223372036854775808)) else (some x5)) else (some x5))
def time_subMono.f (k : Nat) (a0 : Int) (a1 : Int) : Option (Int) := if (wrap64 (a0 - a1)) < 0 then (time_subMono.j0 k a0 a1 (wrap64 (a0 - a1)) (decide (a0 > a1))) else (time_subMono.j0 k a0 a1 (wrap64 (a0 - a1)) false)
theorem time_subMono.mono_l : ∀ k, (∀ y0 y1 y2 y3, LeO (time_subMono.j0 k y0 y1 y2 y3) (time_subMono.j0 (k + 1) y0 y1 y2 y3))
  | 0 => fun _ _ _ _ r h => by simp [time_subMono.j0] at h
  | k + 1 => by
    have ih0 := time_subMono.mono_l k
    · intro y0 y1 y2 y3
      unfold time_subMono.j0
      repeat' first
      | (with_reducible exact ih0 _ _ _ _)
      | (with_reducible exact LeO.refl _)
      | (with_reducible exact LeO.none _)
      | (with_reducible refine LeO.ite ?_ ?_)
      | (with_reducible refine LeO.bind ?_ (fun _ => ?_))
      | exact ih0 _ _ _ _
      | exact LeO.none _
      | refine LeO.ite ?_ ?_
      | refine LeO.bind ?_ (fun _ => ?_)
theorem time_subMono.mono : ∀ a0 a1 k, LeO (time_subMono.f k a0 a1) (time_subMono.f (k + 1) a0 a1) := by
  intro a0 a1 k
  have ih0 := time_subMono.mono_l k
  unfold time_subMono.f
  repeat' first
      | (with_reducible exact ih0 _ _ _ _)
      | (with_reducible exact LeO.refl _)
      | (with_reducible exact LeO.none _)
      | (with_reducible refine LeO.ite ?_ ?_)
      | (with_reducible refine LeO.bind ?_ (fun _ => ?_))
      | exact ih0 _ _ _ _
      | exact LeO.none _
      | refine LeO.ite ?_ ?_
      | refine LeO.bind ?_ (fun _ => ?_)
set_option maxHeartbeats 8000000 in
set_option maxRecDepth 100000 in
theorem time_subMono.calls (k : Nat) (a0 : Int) (a1 : Int) (r : Int) (w : World) (h : time_subMono.f k a0 a1 = some r) :
    Calls Try.prog 36 #[.int .i64 a0, .int .i64 a1] w fun e w' => e = .returned (.int .i64 r) ∧ Drawn0 w w' := by
  have H : (if (wrap64 (a0 - a1)) < 0 then (time_subMono.j0 k a0 a1 (wrap64 (a0 - a1)) (decide (a0 > a1))) else (time_subMono.j0 k a0 a1 (wrap64 (a0 - a1)) false)) = some r := h
  clear h
  have HC3 := Aside0.mk H
  clear H
  go_enter Try.func36, Try.ntmps36
  go_upto_region 2 with (fail)
  go_cut [15] (fun v15 wc => ∃ (kq : Nat) (x15_2 : Bool), v15 = .bool x15_2 ∧ Aside0 (time_subMono.j0 kq a0 a1 (wrap64 (a0 - a1)) x15_2 = some r) ∧ Aside0 (kq ≤ k) ∧ Drawn0 w wc)
  case first =>
    have H := HC3.out
    clear HC3
    by_cases c4 : (wrap64 (a0 - a1)) < 0
    · rw [if_pos c4] at H
      have c4b0 : decide ((wrap64 (a0 - a1)) < 0) = true := decide_eq_true c4
      clear c4
      (first | rw [c4b0] | (simp only [i64_w, i32_w]; rw [c4b0]) | skip)
      have H' := Aside0.mk H
      clear H
      go_wp2
      go_meet
      case rel => exact ⟨_, (decide (a0 > a1)), (by first | rfl | (simp; done) | (simp [*]; done)), H', ⟨by first | omega | exact Nat.le_refl _⟩, by repeat (first | exact Drawn0.refl _ | apply Drawn0.step)⟩
    · rw [if_neg c4] at H
      have c4b0 : decide ((wrap64 (a0 - a1)) < 0) = false := decide_eq_false c4
      clear c4
      (first | rw [c4b0] | (simp only [i64_w, i32_w]; rw [c4b0]) | skip)
      have H' := Aside0.mk H
      clear H
      go_wp2
      go_meet
      case rel => exact ⟨_, (false), (by first | rfl | (simp; done) | (simp [*]; done)), H', ⟨by first | omega | exact Nat.le_refl _⟩, by repeat (first | exact Drawn0.refl _ | apply Drawn0.step)⟩
  case rest =>
    clear HC3
    try clear p2
    try clear c3
    try clear c4
    try clear c4b0
    obtain ⟨kq, x15_2, rfl, HA, HJ2, ⟨mc2, rfl⟩⟩ := hcut
    cases kq with
    | zero => exact absurd HA.out (by simp [time_subMono.j0])
    | succ kj2 =>
      have H := HA.out
      clear HA
      simp only [time_subMono.j0] at H
      by_cases c5 : x15_2 = true
      · subst c5
        have H1 : (some 9223372036854775807) = some r := by rw [if_pos rfl] at H; exact H
        clear H
        have H := H1
        clear H1
        obtain rfl := Option.some.inj H
        go_wp2
        go_ret
        exact ⟨by first | rfl | (simp; done) | (simp [*]; done), by repeat (first | exact Drawn0.refl _ | apply Drawn0.step)⟩
      · replace c5 := Bool.eq_false_iff.mpr c5
        subst c5
        have H1 : (if (wrap64 (a0 - a1)) > 0 then (if a0 < a1 then (some (-9223372036854775808)) else (some (wrap64 (a0 - a1)))) else (some (wrap64 (a0 - a1)))) = some r := by rw [if_neg (show ¬ (false = true) by decide)] at H; exact H
        clear H
        have H := H1
        clear H1
        by_cases c6 : (wrap64 (a0 - a1)) > 0
        · rw [if_pos c6] at H
          have c6b0 : decide (0 < (wrap64 (a0 - a1))) = true := decide_eq_true c6
          clear c6
          by_cases c7 : a0 < a1
          · rw [if_pos c7] at H
            have c7b0 : decide (a0 < a1) = true := decide_eq_true c7
            clear c7
            obtain rfl := Option.some.inj H
            go_wp2
            go_ret
            exact ⟨by first | rfl | (simp; done) | (simp [*]; done), by repeat (first | exact Drawn0.refl _ | apply Drawn0.step)⟩
          · rw [if_neg c7] at H
            have c7b0 : decide (a0 < a1) = false := decide_eq_false c7
            clear c7
            obtain rfl := Option.some.inj H
            go_wp2
            go_ret
            exact ⟨by first | rfl | (simp; done) | (simp [*]; done), by repeat (first | exact Drawn0.refl _ | apply Drawn0.step)⟩
        · rw [if_neg c6] at H
          have c6b0 : decide (0 < (wrap64 (a0 - a1))) = false := decide_eq_false c6
          clear c6
          obtain rfl := Option.some.inj H
          go_wp2
          go_ret
          exact ⟨by first | rfl | (simp; done) | (simp [*]; done), by repeat (first | exact Drawn0.refl _ | apply Drawn0.step)⟩

/-! ### time_Time_sec: function 37 -/
-- contracts that were proved by hand
set_option maxHeartbeats 1600000 in
set_option maxRecDepth 100000 in
theorem time_sec.calls (g a : Nat) (b : Int) (ha : a < 1073741824) (w : World) (h : w.cell? ⟨g, 0, none⟩ = some (.int .u64 a)) (h1 : w.cell? ⟨g, 1, none⟩ = some (.int .i64 b)) :
    Calls Try.prog 37 #[.pointer (some ⟨g, 0, none⟩)] w fun e w' => e = .returned (.int .i64 b) ∧ Drawn0 w w' := by
  have e1 := noMono a ha
  go_enter Try.func37, Try.ntmps37
  go_wp2
  go_ret
  exact ⟨rfl, by repeat (first | exact Drawn0.refl _ | apply Drawn0.step)⟩


/-! ### time_Time_nsec: function 38 -/
-- contracts that were proved by hand
set_option maxHeartbeats 1600000 in
set_option maxRecDepth 100000 in
theorem time_nsec.calls (g a : Nat) (ha : a < 1073741824) (w : World) (h : w.cell? ⟨g, 0, none⟩ = some (.int .u64 a)) :
    Calls Try.prog 38 #[.pointer (some ⟨g, 0, none⟩)] w fun e w' => e = .returned (.int .i32 a) ∧ Drawn0 w w' := by
  have e1 := low30 a ha
  have e2 := wrap_i32 a ha
  go_enter Try.func38, Try.ntmps38
  go_wp2
  go_ret
  exact ⟨by first | rfl | simp [e1, e2], by repeat (first | exact Drawn0.refl _ | apply Drawn0.step)⟩
theorem time_nsec0.calls (g : Nat) (w : World) (h : w.cell? ⟨g, 0, none⟩ = some (.int .u64 0)) :
    Calls Try.prog 38 #[.pointer (some ⟨g, 0, none⟩)] w fun e w' => e = .returned (.int .i32 0) ∧ Drawn0 w w' := by
  have := time_nsec.calls g 0 (by decide) w (by simpa using h)
  simpa using this


-- NOT PRINTED: function 54 (time_Time_stripMono)

/-! ### time_Time_addSec: function 53 -/
-- contracts that were proved by hand
theorem wrap_i64 (a : Nat) (h : a < 9223372036854775808) : IntKind.i64.wrap (a : Int) = (a : Int) := by
  simp [IntKind.wrap, IntKind.bits, IntKind.signed]
  omega
set_option maxHeartbeats 1600000 in
set_option maxRecDepth 100000 in
theorem time_addSec.calls (g a d : Nat) (ha : a < 1073741824) (hd : d < 9223372036854775808) (w : World) (h : w.heap[g]? = some (.cells #[.int .u64 a, .int .i64 0, .pointer none] 57 (0, 0))) :
    Calls Try.prog 53 #[.pointer (some ⟨g, 0, none⟩), .int .i64 d] w fun e w' => e = .returned (.tuple #[]) ∧ w'.heap[g]? = some (.cells #[.int .u64 a, .int .i64 d, .pointer none] 57 (0, 0)) ∧ w.grownBy w' (some g) := by
  have e1 := noMono a ha
  have h0 := (blk_cell h 0).trans rfl
  have h1 := (blk_cell h 1).trans rfl
  have hf := blk_frozen h 1
  have HB := Aside0.mk h
  have e2 : IntKind.i64.wrap (0 + (d : Int)) = (d : Int) := by rw [Int.zero_add]; exact wrap_i64 d hd
  have e3 : wrap64 (0 + (d : Int)) = (d : Int) := by rw [Int.zero_add]; simp only [wrap64]; omega
  clear h
  by_cases hz : d = 0
  · subst hz
    go_enter Try.func53, Try.ntmps53
    go_wp2
    go_end0
    exact ⟨rfl, blk_set HB.out 1 _, ⟨rfl, rfl, rfl, by simp [World.setCell], fun k _ hk => Below.heap_setCell _ _ _ k (fun e => hk (by rw [e]))⟩⟩
  · have hz' : (0 : Int) < (d : Int) := by omega
    go_enter Try.func53, Try.ntmps53
    go_wp2
    go_end0
    exact ⟨rfl, blk_set HB.out 1 _, ⟨rfl, rfl, rfl, by simp [World.setCell], fun k _ hk => Below.heap_setCell _ _ _ k (fun e => hk (by rw [e]))⟩⟩


/-! ### time_Time_Add: function 39 -/
-- contracts that were proved by hand
/-- The time so many nanoseconds behind the zero time, as the library holds it. -/
def tmV (n : Nat) : Value := .agg #[.int .u64 ((n % 1000000000 : Nat) : Int), .int .i64 ((n / 1000000000 : Nat) : Int), .pointer none]
theorem orZero (a : Nat) (h : a < 1073741824) : Go.bits .or .u64 (Go.bits .andNot .u64 0 1073741823) (a : Int) = (a : Int) := by
  have e0 : Go.bits .andNot .u64 0 1073741823 = ((0 : Nat) : Int) := by decide +kernel
  rw [e0]
  have := u64_or_nat 0 a (by decide) (by omega)
  rw [this, Nat.zero_or]
theorem wrap_u64n (a : Nat) (h : a < 1073741824) : IntKind.u64.wrap (a : Int) = (a : Int) := by
  simp [IntKind.wrap, IntKind.bits, IntKind.signed]
  omega
set_option maxHeartbeats 3200000 in
set_option maxRecDepth 100000 in
theorem time_Add.walk (N : Int) (a d : Nat) (w : World) (q1 : wrap64 (Int.tdiv N 1000000000) = (d : Int)) (q2 : wrap32 (Int.tmod N 1000000000) = (a : Int)) (q3 : wrap32 (a : Int) = (a : Int)) (t1 : decide (1000000000 ≤ (a : Int)) = false) (t2 : decide ((a : Int) < 0) = false)
    (q4 : Go.bits .or .u64 (Go.bits .andNot .u64 0 1073741823) (a : Int) = (a : Int)) (q5 : IntKind.u64.wrap (a : Int) = (a : Int)) (q6 : Go.bits .and .u64 (a : Int) 9223372036854775808 = 0) (la : a < 1073741824) (ld : d < 9223372036854775808) :
    Calls Try.prog 39 #[.agg #[.int .u64 0, .int .i64 0, .pointer none], .int .i64 N] w fun e w' => e = .returned (.agg #[.int .u64 a, .int .i64 d, .pointer none]) ∧ Below w.heap.size w w' := by
  have LA := Aside0.mk la
  have LD := Aside0.mk ld
  clear la ld
  go_enter Try.func39, Try.ntmps39
  go_wp2_with fail
  refine (time_nsec0.calls w.heap.size _ ?_).mono ?_
  · simp
  rintro e w1 ⟨rfl, hD⟩
  have hB : Below w.heap.size w w1 := below_step (below_alloc (below_alloc (Below.refl _ _) _) _) hD.below
  have hb0 : w1.heap[w.heap.size]? = some (.cells #[.int .u64 0, .int .i64 0, .pointer none] 57 (0, 0)) := (hD.below.block _ (by simp; omega)).trans (blk_alloc (Box.new_at rfl _) _)
  have hb1 : w1.heap[w.heap.size + 1]? = some (.cells #[.int .u64 0, .int .i64 0, .pointer none] 57 (0, 0)) := (hD.below.block _ (by simp)).trans (Box.new_at (by simp) _)
  have HB := Aside0.mk hB
  have H0 := Aside0.mk hb0
  have H1 := Aside0.mk hb1
  have h0 : w1.cell? ⟨w.heap.size, 0, none⟩ = some (.int .u64 0) := (blk_cell hb0 0).trans rfl
  have hf := blk_frozen hb0 0
  clear hD hB hb0 hb1
  go_wp2_with fail
  refine (time_addSec.calls w.heap.size a d LA.out LD.out _ (blk_set H0.out 0 _)).mono ?_
  rintro e w2 ⟨rfl, hb2, hg⟩
  have hb3 := blk_grown (blk_far (p := ⟨w.heap.size, 0, none⟩) H1.out (by simp) (.int .u64 a)) hg (by simp)
  have HB2 := Aside0.mk (pw_below_grown (below_set HB.out (Nat.le_refl _)) (some w.heap.size) (below_size (below_set HB.out (Nat.le_refl _))) hg (fun k hk => by injection hk with hk; omega))
  have H2 := Aside0.mk hb2
  have H3 := Aside0.mk hb3
  have h20 : w2.cell? ⟨w.heap.size, 0, none⟩ = some (.int .u64 a) := (blk_cell hb2 0).trans rfl
  have h21 : w2.cell? ⟨w.heap.size, 1, none⟩ = some (.int .i64 d) := (blk_cell hb2 1).trans rfl
  have h22 : w2.cell? ⟨w.heap.size, 2, none⟩ = some (.pointer none) := (blk_cell hb2 2).trans rfl
  have h30 : w2.cell? ⟨w.heap.size + 1, 0, none⟩ = some (.int .u64 0) := (blk_cell hb3 0).trans rfl
  have h31 : w2.cell? ⟨w.heap.size + 1, 1, none⟩ = some (.int .i64 0) := (blk_cell hb3 1).trans rfl
  have h32 : w2.cell? ⟨w.heap.size + 1, 2, none⟩ = some (.pointer none) := (blk_cell hb3 2).trans rfl
  have hf0 := blk_frozen hb3 0
  have hf1 := blk_frozen hb3 1
  have hf2 := blk_frozen hb3 2
  clear hb2 hb3 hg h0 hf H0 H1 HB
  go_wp2
  have hw := blk_set (blk_set (blk_set H3.out 0 (.int .u64 a)) 1 (.int .i64 d)) 2 (.pointer none)
  have g0 := (blk_cell hw 0).trans (show _ = some (Value.int .u64 a) from rfl)
  have g1 := (blk_cell hw 1).trans (show _ = some (Value.int .i64 d) from rfl)
  have g2 := (blk_cell hw 2).trans (show _ = some (Value.pointer none) from rfl)
  have HB3 := Aside0.mk (below_set (g := w.heap.size + 1) (j := 2) (v := .pointer none) (below_set (g := w.heap.size + 1) (j := 1) (v := .int .i64 d) (below_set (g := w.heap.size + 1) (j := 0) (v := .int .u64 a) HB2.out (Nat.le_succ _)) (Nat.le_succ _)) (Nat.le_succ _))
  clear HB2 H2 H3 h20 h21 h22 h30 h31 h32 hf0 hf1 hf2 hw
  (try simp only [Exit.inBlock, Exit.then])
  refine bodyPost_ret (v := .agg #[.int .u64 a, .int .i64 d, .pointer none]) ?_ rfl ?_
  · simp [results]
    revert g0 g1 g2
    generalize (((w2.setCell ⟨w.heap.size + 1, 0, none⟩ (Value.int .u64 a)).setCell ⟨w.heap.size + 1, 1, none⟩ (Value.int .i64 d)).setCell ⟨w.heap.size + 1, 2, none⟩ (Value.pointer none)) = W
    intro g0 g1 g2
    go_simp
  · exact ⟨rfl, HB3.out⟩
theorem time_Add.calls (n : Nat) (hn : n < 9223372036854775808) (w : World) :
    Calls Try.prog 39 #[.agg #[.int .u64 0, .int .i64 0, .pointer none], .int .i64 n] w fun e w' => e = .returned (tmV n) ∧ Below w.heap.size w w' := by
  have q1 : Int.tdiv (n : Int) 1000000000 = ((n / 1000000000 : Nat) : Int) := by rw [Int.tdiv_eq_ediv_of_nonneg (by omega)]; rfl
  have q2 : Int.tmod (n : Int) 1000000000 = ((n % 1000000000 : Nat) : Int) := by rw [Int.tmod_eq_emod_of_nonneg (by omega)]; rfl
  unfold tmV
  obtain ⟨a, ha⟩ : ∃ a, n % 1000000000 = a := ⟨_, rfl⟩
  obtain ⟨d, hd⟩ : ∃ d, n / 1000000000 = d := ⟨_, rfl⟩
  have la : a < 1000000000 := by omega
  have ld : d < 9223372036854775808 := by omega
  rw [ha] at q2
  rw [hd] at q1
  rw [ha, hd]
  exact time_Add.walk (n : Int) a d w (by rw [q1]; simp only [wrap64]; omega) (by rw [q2]; simp only [wrap32]; omega) (by simp only [wrap32]; omega) (decide_eq_false (by omega)) (decide_eq_false (by omega)) (orZero a (by omega)) (wrap_u64n a (by omega)) (noMono a (by omega)) (by omega) ld


/-! ### time_Time_Equal: function 40 -/
-- contracts that were proved by hand
set_option maxHeartbeats 3200000 in
set_option maxRecDepth 100000 in
theorem time_Equal.walk (a : Nat) (d : Int) (w : World) (la : a < 1073741824) (q : Go.bits .and .u64 (Go.bits .and .u64 (a : Int) (a : Int)) 9223372036854775808 = 0) :
    Calls Try.prog 40 #[.agg #[.int .u64 a, .int .i64 d, .pointer none], .agg #[.int .u64 a, .int .i64 d, .pointer none]] w fun e w' => e = .returned (.bool true) ∧ Below w.heap.size w w' := by
  have LA := Aside0.mk la
  clear la
  go_enter Try.func40, Try.ntmps40
  go_wp2_with fail
  have hbA : ((w.alloc (Obj.cells #[.int .u64 a, .int .i64 d, .pointer none] 57)).alloc (Obj.cells #[.int .u64 a, .int .i64 d, .pointer none] 57)).heap[w.heap.size]? = some (.cells #[.int .u64 a, .int .i64 d, .pointer none] 57 (0, 0)) := blk_alloc (Box.new_at rfl _) _
  have hbB : ((w.alloc (Obj.cells #[.int .u64 a, .int .i64 d, .pointer none] 57)).alloc (Obj.cells #[.int .u64 a, .int .i64 d, .pointer none] 57)).heap[w.heap.size + 1]? = some (.cells #[.int .u64 a, .int .i64 d, .pointer none] 57 (0, 0)) := Box.new_at (by simp) _
  have HB0 := Aside0.mk (below_alloc (below_alloc (Below.refl w.heap.size w) (Obj.cells #[.int .u64 a, .int .i64 d, .pointer none] 57)) (Obj.cells #[.int .u64 a, .int .i64 d, .pointer none] 57))
  refine (time_sec.calls w.heap.size a d LA.out _ ((blk_cell hbA 0).trans rfl) ((blk_cell hbA 1).trans rfl)).mono ?_
  rintro e w1 ⟨rfl, hD⟩
  have HA1 := Aside0.mk ((hD.below.block _ (blk_lt hbA)).trans hbA)
  have HB1 := Aside0.mk ((hD.below.block _ (blk_lt hbB)).trans hbB)
  have HW1 := Aside0.mk (below_step HB0.out hD.below)
  clear hbA hbB HB0 hD
  go_wp2_with fail
  refine (time_sec.calls (w.heap.size + 1) a d LA.out _ ((blk_cell HB1.out 0).trans rfl) ((blk_cell HB1.out 1).trans rfl)).mono ?_
  rintro e w2 ⟨rfl, hD⟩
  have HA2 := Aside0.mk ((hD.below.block _ (blk_lt HA1.out)).trans HA1.out)
  have HB2 := Aside0.mk ((hD.below.block _ (blk_lt HB1.out)).trans HB1.out)
  have HW2 := Aside0.mk (below_step HW1.out hD.below)
  clear hD HA1 HB1 HW1
  have t2 : (d == d) = true := by simp
  go_wp2_with fail
  refine (time_nsec.calls w.heap.size a LA.out _ ((blk_cell HA2.out 0).trans rfl)).mono ?_
  rintro e w3 ⟨rfl, hD⟩
  have HB3 := Aside0.mk ((hD.below.block _ (blk_lt HB2.out)).trans HB2.out)
  have HW3 := Aside0.mk (below_step HW2.out hD.below)
  clear hD HA2 HB2 HW2
  go_wp2_with fail
  refine (time_nsec.calls (w.heap.size + 1) a LA.out _ ((blk_cell HB3.out 0).trans rfl)).mono ?_
  rintro e w4 ⟨rfl, hD⟩
  have HW4 := Aside0.mk (below_step HW3.out hD.below)
  clear hD HB3 HW3
  have t3 : (a == a) = true := by simp
  go_wp2
  go_ret
  exact ⟨by first | rfl | simp, HW4.out⟩
theorem time_Equal.calls (n : Nat) (w : World) : Calls Try.prog 40 #[tmV n, tmV n] w fun e w' => e = .returned (.bool true) ∧ Below w.heap.size w w' := by
  have q : Go.bits .and .u64 (Go.bits .and .u64 ((n % 1000000000 : Nat) : Int) ((n % 1000000000 : Nat) : Int)) 9223372036854775808 = 0 := by
    rw [u64_and_nat _ _ (by omega) (by omega)]
    refine noMono _ ?_
    have := Nat.and_le_left (n := n % 1000000000) (m := n % 1000000000)
    omega
  exact time_Equal.walk (n % 1000000000) ((n / 1000000000 : Nat) : Int) w (by omega) q


-- NOT PRINTED: function 41 (time_Time_Before)

/-! ### time_Time_Sub: function 28 -/
-- contracts that were proved by hand
set_option maxHeartbeats 3200000 in
set_option maxRecDepth 100000 in
theorem time_Sub.walk (a d : Nat) (N : Int) (w : World) (la : a < 1073741824) (ld : d < 9223372037) (hN : (d : Int) * 1000000000 + (a : Int) = N) (lN : N < 9223372036854775808) (q : Go.bits .and .u64 (Go.bits .and .u64 (a : Int) 0) 9223372036854775808 = 0)
    (CA : ∀ w, Calls Try.prog 39 #[.agg #[.int .u64 0, .int .i64 0, .pointer none], .int .i64 N] w fun e w' => e = .returned (.agg #[.int .u64 a, .int .i64 d, .pointer none]) ∧ Below w.heap.size w w')
    (CE : ∀ w, Calls Try.prog 40 #[.agg #[.int .u64 a, .int .i64 d, .pointer none], .agg #[.int .u64 a, .int .i64 d, .pointer none]] w fun e w' => e = .returned (.bool true) ∧ Below w.heap.size w w') :
    Calls Try.prog 28 #[.agg #[.int .u64 a, .int .i64 d, .pointer none], .agg #[.int .u64 0, .int .i64 0, .pointer none]] w fun e w' => e = .returned (.int .i64 N) ∧ Below w.heap.size w w' := by
  have LA := Aside0.mk la
  have DA := Aside0.mk CA
  have DE := Aside0.mk CE
  have e1 : wrap64 (d : Int) = (d : Int) := by unfold wrap64; omega
  have e2 : wrap64 ((d : Int) * 1000000000) = (d : Int) * 1000000000 := by unfold wrap64; omega
  have e3 : wrap32 (a : Int) = (a : Int) := by unfold wrap32; omega
  have e4 : wrap64 (a : Int) = (a : Int) := by unfold wrap64; omega
  have e5 : wrap64 ((d : Int) * 1000000000 + (a : Int)) = N := by rw [hN]; unfold wrap64; omega
  have e6 := wrap_i32 a la
  clear CA CE la ld hN lN
  go_enter Try.func28, Try.ntmps28
  go_wp2_with fail
  have hbA : ((w.alloc (Obj.cells #[.int .u64 a, .int .i64 d, .pointer none] 57)).alloc (Obj.cells #[.int .u64 0, .int .i64 0, .pointer none] 57)).heap[w.heap.size]? = some (.cells #[.int .u64 a, .int .i64 d, .pointer none] 57 (0, 0)) := blk_alloc (Box.new_at rfl _) _
  have hbB : ((w.alloc (Obj.cells #[.int .u64 a, .int .i64 d, .pointer none] 57)).alloc (Obj.cells #[.int .u64 0, .int .i64 0, .pointer none] 57)).heap[w.heap.size + 1]? = some (.cells #[.int .u64 0, .int .i64 0, .pointer none] 57 (0, 0)) := Box.new_at (by simp) _
  have HB0 := Aside0.mk (below_alloc (below_alloc (Below.refl w.heap.size w) (Obj.cells #[.int .u64 a, .int .i64 d, .pointer none] 57)) (Obj.cells #[.int .u64 0, .int .i64 0, .pointer none] 57))
  refine (time_sec.calls w.heap.size a d LA.out _ ((blk_cell hbA 0).trans rfl) ((blk_cell hbA 1).trans rfl)).mono ?_
  rintro e w1 ⟨rfl, hD⟩
  have HA1 := Aside0.mk ((hD.below.block _ (blk_lt hbA)).trans hbA)
  have HB1 := Aside0.mk ((hD.below.block _ (blk_lt hbB)).trans hbB)
  have HW1 := Aside0.mk (below_step HB0.out hD.below)
  clear hbA hbB HB0 hD
  go_wp2_with fail
  refine (time_sec.calls (w.heap.size + 1) 0 0 (by decide) _ ((blk_cell HB1.out 0).trans rfl) ((blk_cell HB1.out 1).trans rfl)).mono ?_
  rintro e w2 ⟨rfl, hD⟩
  have HA2 := Aside0.mk ((hD.below.block _ (blk_lt HA1.out)).trans HA1.out)
  have HB2 := Aside0.mk ((hD.below.block _ (blk_lt HB1.out)).trans HB1.out)
  have HW2 := Aside0.mk (below_step HW1.out hD.below)
  clear hD HA1 HB1 HW1
  go_wp2_with fail
  refine (time_nsec.calls w.heap.size a LA.out _ ((blk_cell HA2.out 0).trans rfl)).mono ?_
  rintro e w3 ⟨rfl, hD⟩
  have HA3 := Aside0.mk ((hD.below.block _ (blk_lt HA2.out)).trans HA2.out)
  have HB3 := Aside0.mk ((hD.below.block _ (blk_lt HB2.out)).trans HB2.out)
  have HW3 := Aside0.mk (below_step HW2.out hD.below)
  clear hD HA2 HB2 HW2
  go_wp2_with fail
  refine (time_nsec0.calls (w.heap.size + 1) _ ((blk_cell HB3.out 0).trans rfl)).mono ?_
  rintro e w4 ⟨rfl, hD⟩
  have hA4 := ((hD.below.block _ (blk_lt HA3.out)).trans HA3.out)
  have hB4 := ((hD.below.block _ (blk_lt HB3.out)).trans HB3.out)
  have HW4 := Aside0.mk (below_step HW3.out hD.below)
  have HA4 := Aside0.mk hA4
  clear hD HB3 HW3 HA3
  have b0 : w4.cell? ⟨w.heap.size + 1, 0, none⟩ = some (.int .u64 0) := (blk_cell hB4 0).trans rfl
  have b1 : w4.cell? ⟨w.heap.size + 1, 1, none⟩ = some (.int .i64 0) := (blk_cell hB4 1).trans rfl
  have b2 : w4.cell? ⟨w.heap.size + 1, 2, none⟩ = some (.pointer none) := (blk_cell hB4 2).trans rfl
  have a0 : w4.cell? ⟨w.heap.size, 0, none⟩ = some (.int .u64 a) := (blk_cell hA4 0).trans rfl
  have a1 : w4.cell? ⟨w.heap.size, 1, none⟩ = some (.int .i64 d) := (blk_cell hA4 1).trans rfl
  have a2 : w4.cell? ⟨w.heap.size, 2, none⟩ = some (.pointer none) := (blk_cell hA4 2).trans rfl
  clear hA4 hB4
  go_wp2
  rw [e5] at *
  go_region_with (first
    | (go_at_call 39; refine (DA.out _).mono ?_; rintro e w5 ⟨rfl, hB5⟩; have hA5 := (hB5.block w.heap.size (by exact blk_lt HA4.out)).trans (by exact HA4.out); have c0 : w5.cell? ⟨w.heap.size, 0, none⟩ = some (.int .u64 a) := (blk_cell hA5 0).trans rfl; have c1 : w5.cell? ⟨w.heap.size, 1, none⟩ = some (.int .i64 d) := (blk_cell hA5 1).trans rfl; have c2 : w5.cell? ⟨w.heap.size, 2, none⟩ = some (.pointer none) := (blk_cell hA5 2).trans rfl; have HW5 := Aside0.mk (below_step (by repeat (first | exact HW4.out | apply below_drew1 | apply pw_below_drewN)) hB5); clear hB5 hA5)
    | (go_at_call 40; refine (DE.out _).mono ?_; rintro e w6 ⟨rfl, hB6⟩; have HW6 := Aside0.mk (below_step (by repeat (first | exact HW5.out | apply below_drew1 | apply pw_below_drewN)) hB6); clear hB6)
    | go_in)
  all_goals (try go_wp2)
  all_goals (try go_ret)
  all_goals exact ⟨by first | rfl | simp, HW6.out⟩
theorem time_Sub.calls (n : Nat) (hn : n < 9223372036854775808) (w : World) : Calls Try.prog 28 #[tmV n, tmV 0] w fun e w' => e = .returned (.int .i64 n) ∧ Below w.heap.size w w' := by
  have q : Go.bits .and .u64 (Go.bits .and .u64 ((n % 1000000000 : Nat) : Int) 0) 9223372036854775808 = 0 := by
    have h := u64_and_nat (n % 1000000000) 0 (by omega) (by decide)
    rw [Nat.and_zero] at h
    have h2 := noMono 0 (by decide)
    have h' : Go.bits .and .u64 ((n % 1000000000 : Nat) : Int) 0 = 0 := h
    rw [h']
    exact h2
  exact time_Sub.walk (n % 1000000000) (n / 1000000000) n w (by omega) (by omega) (by omega) (by omega) q (fun w => time_Add.calls n hn w) (fun w => time_Equal.calls n w)


/-! ### model_ZzMoment: function 29 -/
-- contracts that were proved by hand
set_option maxHeartbeats 1600000 in
set_option maxRecDepth 100000 in
theorem model_ZzMoment.walk (N a d : Int) (w : World) (C : ∀ w, Calls Try.prog 39 #[.agg #[.int .u64 0, .int .i64 0, .pointer none], .int .i64 N] w fun e w' => e = .returned (.agg #[.int .u64 a, .int .i64 d, .pointer none]) ∧ Below w.heap.size w w') :
    Calls Try.prog 29 #[.int .i64 N] w fun e w' => e = .returned (.agg #[.int .u64 a, .int .i64 d, .pointer none]) ∧ Below w.heap.size w w' := by
  have C0 := Aside0.mk C
  clear C
  go_enter Try.func29, Try.ntmps29
  go_wp2_with fail
  refine (C0.out _).mono ?_
  rintro e w1 ⟨rfl, hB⟩
  have hb := (hB.block w.heap.size (by simp)).trans (Box.new_at rfl _)
  have HB := Aside0.mk (below_step (below_alloc (Below.refl _ _) _) hB)
  have H0 := Aside0.mk hb
  have h0 := (blk_cell hb 0).trans (show _ = some (Value.int .u64 0) from rfl)
  have h1 := (blk_cell hb 1).trans (show _ = some (Value.int .i64 0) from rfl)
  have h2 := (blk_cell hb 2).trans (show _ = some (Value.pointer none) from rfl)
  have f0 := blk_frozen hb 0
  have f1 := blk_frozen hb 1
  have f2 := blk_frozen hb 2
  clear hB hb
  go_wp2
  have hw := blk_set (blk_set (blk_set H0.out 0 (.int .u64 a)) 1 (.int .i64 d)) 2 (.pointer none)
  have g0 := (blk_cell hw 0).trans (show _ = some (Value.int .u64 a) from rfl)
  have g1 := (blk_cell hw 1).trans (show _ = some (Value.int .i64 d) from rfl)
  have g2 := (blk_cell hw 2).trans (show _ = some (Value.pointer none) from rfl)
  have HB3 := Aside0.mk (below_set (g := w.heap.size) (j := 2) (v := .pointer none) (below_set (g := w.heap.size) (j := 1) (v := .int .i64 d) (below_set (g := w.heap.size) (j := 0) (v := .int .u64 a) HB.out (Nat.le_refl _)) (Nat.le_refl _)) (Nat.le_refl _))
  clear HB H0 h0 h1 h2 f0 f1 f2 hw
  (try simp only [Exit.inBlock, Exit.then])
  refine bodyPost_ret (v := .agg #[.int .u64 a, .int .i64 d, .pointer none]) ?_ rfl ?_
  · simp [results]
    revert g0 g1 g2
    generalize (((w1.setCell ⟨w.heap.size, 0, none⟩ (Value.int .u64 a)).setCell ⟨w.heap.size, 1, none⟩ (Value.int .i64 d)).setCell ⟨w.heap.size, 2, none⟩ (Value.pointer none)) = W
    intro g0 g1 g2
    go_simp
  · exact ⟨rfl, HB3.out⟩
theorem model_ZzMoment.calls (n : Nat) (hn : n < 9223372036854775808) (w : World) : Calls Try.prog 29 #[.int .i64 n] w fun e w' => e = .returned (tmV n) ∧ Below w.heap.size w w' := model_ZzMoment.walk _ _ _ w (fun w => time_Add.calls n hn w)


/-! ### impl_places: function 18 -/
-- contracts that were proved by hand
theorem infoInt : (Try.prog.info? 3).map (fun i => (i.zero, i.size, i.bytes)) = some (some (.int .i64 0), 1, 8) := by kernel_rfl
set_option maxHeartbeats 3200000 in
set_option maxRecDepth 100000 in
theorem impl_places.calls (A0 : Option Addr) (c0 : Nat) (l0 : List (ByteArray × Nat)) (w : World) (hr0 : Kd.C kAl w A0 l0.length l0) (hl : l0.length ≤ 1000000000) (hn : ∀ p ∈ l0, p.2 < 9223372036854775808) :
    Calls Try.prog 18 #[.slice A0 l0.length c0] w fun e w' => ∃ v, e = .returned v ∧ Kd.R (Kd.int .i64) 3 w' w.heap.size (fun _ => True) v (l0.map fun p => (p.2 : Int)) ∧ Below w.heap.size w w' := by
  have R0 := Aside0.mk hr0
  have HN := Aside0.mk hn
  have DZ := Aside0.mk (fun (w : World) => model_ZzMoment.calls 0 (by decide) w)
  have DS := Aside0.mk (fun (n : Nat) (hn : n < 9223372036854775808) (w : World) => time_Sub.calls n hn w)
  clear hr0 hn
  go_enter Try.func18, Try.ntmps18
  go_wp2
  go_loopw [3, 8] (fun v3 v8 wr => ∃ j : Nat, j ≤ l0.length ∧ v8 = .int .i64 j ∧ Aside0 (Kd.R (Kd.int .i64) 3 wr w.heap.size (fun _ => True) v3 ((l0.take j).map fun p => (p.2 : Int))) ∧ Aside0 (Below w.heap.size w wr)) (fun _ v8 _ => l0.length - (intOf v8).toNat)
  case atStart => exact ⟨0, Nat.zero_le _, rfl, ⟨Kd.R_nil _ _ _ _ _⟩, ⟨Below.refl _ _⟩⟩
  case round =>
    obtain ⟨j, hj, rfl, HO, HB⟩ := hrel
    by_cases hlt : j < l0.length
    · obtain ⟨ad, e0, hx, hy⟩ := at_kAl (Kd.C_below R0.out HB.out) j hlt
      cases e0
      have er : l0.getD j zAl = l0[j] := by rw [List.getD_eq_getElem?_getD, List.getElem?_eq_getElem hlt]; rfl
      rw [er] at hx hy
      have HT := Aside0.mk (show (l0.take (j + 1)).map (fun p => (p.2 : Int)) = (l0.take j).map (fun p => (p.2 : Int)) ++ [(l0[j].2 : Int)] by rw [List.take_succ_eq_append_getElem hlt, List.map_append]; rfl)
      have hm := HN.out _ (List.getElem_mem hlt)
      clear er
      generalize l0[j] = x at *
      obtain ⟨s, n⟩ := x
      have y1 := hy 0 _ rfl
      have y2 := hy 1 _ rfl
      have y3 := hy 2 _ rfl
      have y4 := hy 3 _ rfl
      have y5 := hy 4 _ rfl
      have y6 := hy 5 _ rfl
      have y7 := hy 6 _ rfl
      have y8 := hy 7 _ rfl
      have y9 := hy 8 _ rfl
      have y10 := hy 9 _ rfl
      simp only [Nat.zero_add, Nat.reduceAdd] at y1 y2 y3 y4 y5 y6 y7 y8 y9 y10
      clear hy
      simp only at hx HT hm
      have HS := Aside0.mk (fun w => DS.out n hm w)
      have HN0 := Aside0.mk (show ∀ k, u3.ownBlock = some k → k < wr.heap.size from fun k hk => ((Kd.R_bound HO.out).1 k hk).2.2.1)
      have HO1 := Aside0.mk (Kd.R_alloc HO.out (.cells (alE (s, n)).toArray 59))
      have HB1 := Aside0.mk (below_alloc HB.out (.cells (alE (s, n)).toArray 59))
      clear HO HB
      have HPp := Aside0.mk (show (wr.alloc (.cells (alE (s, n)).toArray 59)).heap[wr.heap.size]? = some (.cells (alE (s, n)).toArray 59 (0, 0)) from Box.new_at rfl _)
      have HNE := Aside0.mk (show ∀ k, u3.ownBlock = some k → k ≠ wr.heap.size from fun k hk => by have := (HN0.out k hk); omega)
      go_wp2
      go_region_held3 (fun w' => w'.cell? ⟨wr.heap.size, 3, none⟩ = some (.int .u64 (nsN n)) ∧ w'.cell? ⟨wr.heap.size, 4, none⟩ = some (.int .i64 (scN n)) ∧ w'.cell? ⟨wr.heap.size, 5, none⟩ = some (.pointer none)) (go_keep) (first
        | (go_at_call 29; refine (DZ.out _).mono ?_; rintro e w3 ⟨rfl, hB3⟩; have hA3 := (hB3.block wr.heap.size (by exact blk_lt HPp.out)).trans (by exact HPp.out); have HA3 := Aside0.mk hA3; have c3 : w3.cell? ⟨wr.heap.size, 3, none⟩ = some (.int .u64 (nsN n)) := (blk_cell hA3 3).trans rfl; have c4 : w3.cell? ⟨wr.heap.size, 4, none⟩ = some (.int .i64 (scN n)) := (blk_cell hA3 4).trans rfl; have c5 : w3.cell? ⟨wr.heap.size, 5, none⟩ = some (.pointer none) := (blk_cell hA3 5).trans rfl; have HO3 := Aside0.mk (Kd.R_below (by repeat (first | exact HO1.out | apply Kd.R_drewN | apply Kd.R_drew)) hB3); have HB3 := Aside0.mk (below_step (by repeat (first | exact HB1.out | apply below_drew1 | apply pw_below_drewN)) hB3); clear hB3 hA3)
        | (go_at_call 28; refine (HS.out _).mono ?_; rintro e w5 ⟨rfl, hB5⟩; have hA5 := (hB5.block wr.heap.size (by exact blk_lt HA3.out)).trans (by exact HA3.out); have HA5 := Aside0.mk hA5; have d3 : w5.cell? ⟨wr.heap.size, 3, none⟩ = some (.int .u64 (nsN n)) := (blk_cell hA5 3).trans rfl; have d4 : w5.cell? ⟨wr.heap.size, 4, none⟩ = some (.int .i64 (scN n)) := (blk_cell hA5 4).trans rfl; have d5 : w5.cell? ⟨wr.heap.size, 5, none⟩ = some (.pointer none) := (blk_cell hA5 5).trans rfl; have HO5 := Aside0.mk (Kd.R_below (by repeat (first | exact HO3.out | apply Kd.R_drewN | apply Kd.R_drew)) hB5); have HB5 := Aside0.mk (below_step (by repeat (first | exact HB3.out | apply below_drew1 | apply pw_below_drewN)) hB5); clear hB5 hA5)
        | (refine Kd.R_append_step (Kd.int .i64) (w0 := w) (W := w5) w.heap.size rfl (.tmp 12) (.tmp 17) 24 3 (.int .i64 0) 8 rfl Try.underlying24 infoInt rfl (by decide) (by omega) u3 ((l0.take j).map fun p => (p.2 : Int)) (n : Int) [.int .i64 n] (fun _ => True) (fun _ => False) (by first | rfl | (go_simp; done)) (by first | rfl | (go_simp; done) | (go_simp; rfl)) rfl (fun _ hk => hk.elim) (fun _ _ => trivial) HO5.out HB5.out (below_size HB5.out) (by rw [List.length_map, List.length_take]; omega) ?_; intro v2 w6 hO6 hB6 hg6 hat6; have hA6 := (hg6.block wr.heap.size (blk_lt HA5.out) (fun e => HNE.out _ e.symm rfl)).trans HA5.out; have f3 : w6.cell? ⟨wr.heap.size, 3, none⟩ = some (.int .u64 (nsN n)) := (blk_cell hA6 3).trans rfl; have f4 : w6.cell? ⟨wr.heap.size, 4, none⟩ = some (.int .i64 (scN n)) := (blk_cell hA6 4).trans rfl; have f5 : w6.cell? ⟨wr.heap.size, 5, none⟩ = some (.pointer none) := (blk_cell hA6 5).trans rfl; rw [← HT.out] at hO6; have HO6 := Aside0.mk hO6; have HB6 := Aside0.mk hB6; clear hO6 hB6 hg6 hat6 hA6))
      all_goals (try go_wp2)
      all_goals go_roundw
      case rel => exact ⟨j + 1, by omega, by go_num, HO6, HB6⟩
      case measure => simp [intOf]; omega
    · have hj2 : j = l0.length := by omega
      subst hj2
      have hO := HO.out
      rw [List.take_of_length_le (Nat.le_refl _)] at hO
      have HO2 := Aside0.mk hO
      clear hO HO
      go_wp2
      go_ret
      exact ⟨_, rfl, HO2.out, HB.out⟩


/-! ### impl_alerts: function 19 -/
-- contracts that were proved by hand
def alsOf (l : List ByteArray) : List (ByteArray × Nat) := l.zipIdx
theorem alsOf_len (l : List ByteArray) : (alsOf l).length = l.length := List.length_zipIdx
theorem alsOf_take (l : List ByteArray) (j : Nat) (h : j < l.length) : (alsOf l).take (j + 1) = (alsOf l).take j ++ [(l[j], j)] := by
  unfold alsOf
  have h' : j < l.zipIdx.length := by rw [List.length_zipIdx]; exact h
  rw [List.take_succ_eq_append_getElem h', List.getElem_zipIdx]
  simp
theorem infoAl : (Try.prog.info? 59).map (fun i => (i.zero, i.size, i.bytes)) = some (some (.agg #[(.string ⟨#[]⟩), .map none, .map none, .int .u64 0, .int .i64 0, .pointer none, .int .u64 0, .int .i64 0, .pointer none, (.string ⟨#[]⟩), (.string ⟨#[]⟩)]), 11, 112) := by kernel_rfl
theorem tmV_al (n : Nat) : tmV n = .agg #[.int .u64 (nsN n), .int .i64 (scN n), .pointer none] := rfl
set_option maxHeartbeats 3200000 in
set_option maxRecDepth 100000 in
theorem impl_alerts.calls (A0 : Option Addr) (c0 : Nat) (l0 : List ByteArray) (w : World) (hr0 : Kd.C Kd.string w A0 l0.length l0) (hl : l0.length ≤ 1000000000) :
    Calls Try.prog 19 #[.slice A0 l0.length c0] w fun e w' => ∃ v, e = .returned v ∧ Kd.R kAl 59 w' w.heap.size (fun _ => True) v (alsOf l0) ∧ Below w.heap.size w w' := by
  have R0 := Aside0.mk hr0
  have DZ := Aside0.mk (fun (n : Nat) (hn : n < 9223372036854775808) (w : World) => tmV_al n ▸ model_ZzMoment.calls n hn w)
  clear hr0
  go_enter Try.func19, Try.ntmps19
  go_wp2
  go_loopw [3, 8] (fun v3 v8 wr => ∃ j : Nat, j ≤ l0.length ∧ v8 = .int .i64 j ∧ Aside0 (Kd.R kAl 59 wr w.heap.size (fun _ => True) v3 ((alsOf l0).take j)) ∧ Aside0 (Below w.heap.size w wr)) (fun _ v8 _ => l0.length - (intOf v8).toNat)
  case atStart => exact ⟨0, Nat.zero_le _, rfl, ⟨Kd.R_nil _ _ _ _ _⟩, ⟨Below.refl _ _⟩⟩
  case round =>
    obtain ⟨j, hj, rfl, HO, HB⟩ := hrel
    by_cases hlt : j < l0.length
    · obtain ⟨ad, e0, hx⟩ := Kd.at_string (Kd.C_below R0.out HB.out) (j : Int) (by omega) (by omega)
      cases e0
      have er : rdOf ByteArray.empty l0 (j : Int) = l0[j] := by simp [rdOf, hlt]
      simp only [Int.toNat_natCast] at hx
      rw [er] at hx
      have HT := Aside0.mk (alsOf_take l0 j hlt)
      clear er
      generalize l0[j] = x at *
      go_wp2_with fail
      refine (DZ.out j (by omega) _).mono ?_
      rintro e w3 ⟨rfl, hB3⟩
      have HO3 := Aside0.mk (Kd.R_below HO.out hB3)
      have HB3 := Aside0.mk (below_step HB.out hB3)
      clear hB3 HO HB
      have HS3 := Aside0.mk (below_size HB3.out)
      go_wp2_with ((with_reducible refine gate_builtin (b := .append) (xs := #[.tmp 13, .tmp 18]) rfl ?_); at_builtin; refine Kd.R_append kAl (w0 := w) w.heap.size rfl (.tmp 13) (.tmp 18) 41 59 (.agg #[(.string ⟨#[]⟩), .map none, .map none, .int .u64 0, .int .i64 0, .pointer none, .int .u64 0, .int .i64 0, .pointer none, (.string ⟨#[]⟩), (.string ⟨#[]⟩)]) 112 rfl Try.underlying41 infoAl rfl (by decide) (by omega) u3 ((alsOf l0).take j) (x, j) (alE (x, j)) (fun _ => True) (fun _ => False) rfl (by first | (go_simp; done) | (go_simp; rfl)) rfl (fun _ hk => hk.elim) (fun _ _ => trivial) HO3.out HB3.out HS3.out (by rw [List.length_take]; omega) ?_; intro v2 w4 hO4 hB4 hg4 hat4; rw [← HT.out] at hO4; have HO4 := Aside0.mk hO4; have HB4 := Aside0.mk hB4; clear hO4 hB4 hg4 hat4 HO3 HB3 HT HS3)
      go_roundw
      case rel => exact ⟨j + 1, by omega, by go_num, HO4, HB4⟩
      case measure => simp [intOf]; omega
    · have hj2 : j = l0.length := by omega
      subst hj2
      have hO := HO.out
      rw [List.take_of_length_le (by rw [alsOf_len]; exact Nat.le_refl _)] at hO
      have HO2 := Aside0.mk hO
      clear hO HO
      go_wp2
      go_ret
      exact ⟨_, rfl, HO2.out, HB.out⟩


end Go.Proofs.Ythjameohenmeiaa.Q
