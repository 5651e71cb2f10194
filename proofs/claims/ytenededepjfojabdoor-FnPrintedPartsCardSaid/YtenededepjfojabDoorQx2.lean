-- printed by this project's own program wip/tools/mkprint.py (the kit's print.py with hand-proved contracts put in)
import Derived.Test.YtenededepjfojabDoorQx0
namespace Go.Proofs.YtenededepjfojabDoor.Q
open Go.RowKit Go.Proofs.YtenededepjfojabDoorW.PrintWords Go.Proofs.YtenededepjfojabDoorW.PrintLast Go.Proofs.YtenededepjfojabDoorW.PrintMore
attribute [local go_sem] max2_int min2_int max_two min_two max_three min_three max_four min_four   -- for this text's walks alone
set_option linter.unusedVariables false
set_option linter.unusedSimpArgs false

/-! ### strconv_bsearch_uint32_uint32: function 46 -/
def strconv_bsearch_uint32_uint32.l0 : Nat → List Int → Int → Int → Int → Int → Option (Int × Bool)
  | 0, _, _, _, _, _ => none
  | k + 1, x0, x1, x6, x7, x8 => if x7 < x8 then (if 0 ≤ (wrap64 (x7 + ((wrap64 (x8 - x7)) / 2))) then (if (wrap64 (x7 + ((wrap64 (x8 - x7)) / 2))) < (x0.length : Int) then (if (rd x0 (wrap64 (x7 + ((wrap64 (x8 - x7)) / 2)))) < x1 then (strconv_bsearch_uint32_uint32.l0 k x0 x1 x6 (wrap64 ((wrap64 (x7 + ((wrap64 (x8 - x7)) / 2))) + 1)) x8) else (strconv_bsearch_uint32_uint32.l0 k x0 x1 x6 x7 (wrap64 (x7 + ((wrap64 (x8 - x7)) / 2))))) else (none)) else (none)) else (if x7 < x6 then (if 0 ≤ x7 then (if x7 < (x0.length : Int) then (some (x7, ((rd x0 x7) == x1))) else (none)) else (none)) else (some (x7, false)))
def strconv_bsearch_uint32_uint32.f (k : Nat) (l0 : List Int) (a1 : Int) : Option (Int × Bool) := strconv_bsearch_uint32_uint32.l0 k l0 a1 (l0.length : Int) 0 (l0.length : Int)
theorem strconv_bsearch_uint32_uint32.mono_l : ∀ k, (∀ y0 y1 y2 y3 y4, LeO (strconv_bsearch_uint32_uint32.l0 k y0 y1 y2 y3 y4) (strconv_bsearch_uint32_uint32.l0 (k + 1) y0 y1 y2 y3 y4))
  | 0 => fun _ _ _ _ _ r h => by simp [strconv_bsearch_uint32_uint32.l0] at h
  | k + 1 => by
    have ih0 := strconv_bsearch_uint32_uint32.mono_l k
    · intro y0 y1 y2 y3 y4
      unfold strconv_bsearch_uint32_uint32.l0
      repeat' first
      | (with_reducible exact ih0 _ _ _ _ _)
      | (with_reducible exact LeO.refl _)
      | (with_reducible exact LeO.none _)
      | (with_reducible refine LeO.ite ?_ ?_)
      | (with_reducible refine LeO.bind ?_ (fun _ => ?_))
      | exact ih0 _ _ _ _ _
      | exact LeO.none _
      | refine LeO.ite ?_ ?_
      | refine LeO.bind ?_ (fun _ => ?_)
theorem strconv_bsearch_uint32_uint32.mono : ∀ a0 a1 k, LeO (strconv_bsearch_uint32_uint32.f k a0 a1) (strconv_bsearch_uint32_uint32.f (k + 1) a0 a1) := by
  intro a0 a1 k
  have ih0 := strconv_bsearch_uint32_uint32.mono_l k
  unfold strconv_bsearch_uint32_uint32.f
  repeat' first
      | (with_reducible exact ih0 _ _ _ _ _)
      | (with_reducible exact LeO.refl _)
      | (with_reducible exact LeO.none _)
      | (with_reducible refine LeO.ite ?_ ?_)
      | (with_reducible refine LeO.bind ?_ (fun _ => ?_))
      | exact ih0 _ _ _ _ _
      | exact LeO.none _
      | refine LeO.ite ?_ ?_
      | refine LeO.bind ?_ (fun _ => ?_)
set_option maxHeartbeats 8000000 in
set_option maxRecDepth 100000 in
theorem strconv_bsearch_uint32_uint32.calls (k : Nat) (A0 : Option Addr) (c0 : Nat) (l0 : List Int) (a1 : Int) (r1 : Int) (r2 : Bool) (w : World) (hr0 : Kd.C (Kd.int .u32) w A0 l0.length l0) (hc0 : l0.length ≤ c0) (h : strconv_bsearch_uint32_uint32.f k l0 a1 = some (r1, r2)) :
    Calls Tryd.prog 46 #[.slice A0 l0.length c0, .int .u32 a1] w fun e w' => e = .returned (.tuple #[.int .i64 r1, .bool r2]) ∧ Drawn0 w w' := by
  have HR0 := Aside0.mk hr0
  have HC0 := Aside0.mk hc0
  clear hr0 hc0
  have H : (strconv_bsearch_uint32_uint32.l0 k l0 a1 (l0.length : Int) 0 (l0.length : Int)) = some (r1, r2) := h
  clear h
  have H' := Aside0.mk H
  clear H
  go_enter Tryd.func46, Tryd.ntmps46
  go_wp2
  repeat (go_quiet (fail); try go_wp2)
  go_loopg [7, 8] k (fun kq v7 v8 w' => ∃ (x7_1 : Int) (x8_1 : Int), v7 = .int .i64 x7_1 ∧ v8 = .int .i64 x8_1 ∧ Aside0 (strconv_bsearch_uint32_uint32.l0 kq l0 a1 (l0.length : Int) x7_1 x8_1 = some (r1, r2)) ∧ Aside0 (kq ≤ k) ∧ Drawn0 w w')
  case atStart => exact ⟨(0), ((l0.length : Int)), (by first | rfl | (simp; done) | (simp [*]; done)), (by first | rfl | (simp; done) | (simp [*]; done)), H', ⟨Nat.le_refl _⟩, by repeat (first | exact Drawn0.refl _ | apply Drawn0.step)⟩
  case round =>
    clear H'
    try clear p2
    obtain ⟨x7_1, x8_1, rfl, rfl, HA, HK1, ⟨m1, rfl⟩⟩ := hrel
    cases gk with
    | zero => exact absurd HA.out (by simp [strconv_bsearch_uint32_uint32.l0])
    | succ k1 =>
      have H := HA.out
      clear HA
      simp only [strconv_bsearch_uint32_uint32.l0] at H
      by_cases c3 : x7_1 < x8_1
      · rw [if_pos c3] at H
        have c3b0 : decide (x7_1 < x8_1) = true := decide_eq_true c3
        clear c3
        obtain ⟨ji4, hji4⟩ : ∃ j_ : Int, (wrap64 (x7_1 + ((wrap64 (x8_1 - x7_1)) / 2))) = j_ := ⟨_, rfl⟩
        replace H : (if 0 ≤ (ji4) then (if (ji4) < (l0.length : Int) then (if (rd l0 (ji4)) < a1 then (strconv_bsearch_uint32_uint32.l0 k1 l0 a1 (l0.length : Int) (wrap64 ((ji4) + 1)) x8_1) else (strconv_bsearch_uint32_uint32.l0 k1 l0 a1 (l0.length : Int) x7_1 ji4)) else (none)) else (none)) = some (r1, r2) := by first | (rw [hji4] at H; exact H) | (simp only [hji4] at H ⊢; exact H)
        have hji4w : (IntKind.i64.wrap (x7_1 + ((wrap64 (x8_1 - x7_1)) / 2))) = ji4 := (i64_w _).trans hji4
        by_cases c5 : 0 ≤ (ji4)
        · rw [if_pos c5] at H
          have c5b0 : decide (0 ≤ (ji4)) = true := decide_eq_true c5
          clear c5
          by_cases c6 : (ji4) < (l0.length : Int)
          · rw [if_pos c6] at H
            have c6b0 : decide ((ji4) < (l0.length : Int)) = true := decide_eq_true c6
            clear c6
            by_cases c7 : (rd l0 (ji4)) < a1
            · rw [if_pos c7] at H
              have c7b0 : decide ((rd l0 (ji4)) < a1) = true := decide_eq_true c7
              clear c7
              have H' := Aside0.mk H
              clear H
              have p111 : 0 ≤ ((ji4) : Int) := of_decide_eq_true (by first | (with_reducible assumption) | assumption)
              have q111 : (ji4) < (l0.length : Int) := of_decide_eq_true (by first | (with_reducible assumption) | assumption)
              obtain ⟨ad111, e111, hx111_0⟩ := Kd.at_int HR0.out (ji4) p111 q111
              cases e111
              replace p111 := eq_true p111
              replace q111 := eq_true q111
              go_wp2
              repeat (go_quiet (fail); try go_wp2)
              go_roundg k1
              case measure => have := HK1.out; omega
              case rel => exact ⟨(wrap64 ((ji4) + 1)), (x8_1), (by first | rfl | (simp; done) | (simp only [← hji4] <;> (first | rfl | simp)) | (simp [*]; done)), (by first | rfl | (simp; done) | (simp [*]; done)), H', ⟨by have := HK1.out; omega⟩, by repeat (first | exact Drawn0.refl _ | apply Drawn0.step)⟩
            · rw [if_neg c7] at H
              have c7b0 : decide ((rd l0 (ji4)) < a1) = false := decide_eq_false c7
              clear c7
              have H' := Aside0.mk H
              clear H
              have p111 : 0 ≤ ((ji4) : Int) := of_decide_eq_true (by first | (with_reducible assumption) | assumption)
              have q111 : (ji4) < (l0.length : Int) := of_decide_eq_true (by first | (with_reducible assumption) | assumption)
              obtain ⟨ad111, e111, hx111_0⟩ := Kd.at_int HR0.out (ji4) p111 q111
              cases e111
              replace p111 := eq_true p111
              replace q111 := eq_true q111
              go_wp2
              repeat (go_quiet (fail); try go_wp2)
              go_roundg k1
              case measure => have := HK1.out; omega
              case rel => exact ⟨(x7_1), (ji4), (by first | rfl | (simp; done) | (simp [*]; done)), (by first | rfl | (simp; done) | (simp only [← hji4] <;> (first | rfl | simp)) | (simp [*]; done)), H', ⟨by have := HK1.out; omega⟩, by repeat (first | exact Drawn0.refl _ | apply Drawn0.step)⟩
          · rw [if_neg c6] at H
            exact absurd H (by simp)
        · rw [if_neg c5] at H
          exact absurd H (by simp)
      · rw [if_neg c3] at H
        have c3b0 : decide (x7_1 < x8_1) = false := decide_eq_false c3
        clear c3
        by_cases c8 : x7_1 < (l0.length : Int)
        · rw [if_pos c8] at H
          have c8b0 : decide (x7_1 < (l0.length : Int)) = true := decide_eq_true c8
          clear c8
          by_cases c9 : 0 ≤ x7_1
          · rw [if_pos c9] at H
            have c9b0 : decide (0 ≤ x7_1) = true := decide_eq_true c9
            clear c9
            by_cases c10 : x7_1 < (l0.length : Int)
            · rw [if_pos c10] at H
              have c10b0 : decide (x7_1 < (l0.length : Int)) = true := decide_eq_true c10
              clear c10
              simp only [Option.some.injEq, Prod.mk.injEq] at H
              obtain ⟨rfl, rfl⟩ := H
              have p112 : 0 ≤ (x7_1 : Int) := of_decide_eq_true (by first | (with_reducible assumption) | assumption)
              have q112 : x7_1 < (l0.length : Int) := of_decide_eq_true (by first | (with_reducible assumption) | assumption)
              obtain ⟨ad112, e112, hx112_0⟩ := Kd.at_int HR0.out x7_1 p112 q112
              cases e112
              replace p112 := eq_true p112
              replace q112 := eq_true q112
              go_wp2
              repeat (go_quiet (fail); try go_wp2)
              go_ret2
              exact ⟨by first | rfl | (simp; done) | (simp [*]; done), by repeat (first | exact Drawn0.refl _ | apply Drawn0.step)⟩
            · rw [if_neg c10] at H
              exact absurd H (by simp)
          · rw [if_neg c9] at H
            exact absurd H (by simp)
        · rw [if_neg c8] at H
          have c8b0 : decide (x7_1 < (l0.length : Int)) = false := decide_eq_false c8
          clear c8
          simp only [Option.some.injEq, Prod.mk.injEq] at H
          obtain ⟨rfl, rfl⟩ := H
          go_wp2
          repeat (go_quiet (fail); try go_wp2)
          go_ret2
          exact ⟨by first | rfl | (simp; done) | (simp [*]; done), by repeat (first | exact Drawn0.refl _ | apply Drawn0.step)⟩

-- NOT PRINTED: function 41 (strconv_IsPrint)

-- NOT PRINTED: function 42 (strconv_isInGraphicList)

/-! ### utf8_appendRuneNonASCII: function 47 -/
-- contracts that were proved by hand
-- nothing told here: the shelf's contract of the Builder stands in its place


/-! ### utf8_AppendRune: function 43 -/
-- contracts that were proved by hand
-- nothing told here: the shelf's contract of the Builder stands in its place


/-! ### utf8_ValidRune: function 44 -/
def utf8_ValidRune.j0 : Nat → Int → Bool → Option (Bool)
  | 0, _, _ => none
  | k + 1, x0, x3 => if x3 = true then (some true) else (if 57343 < x0 then (if x0 ≤ 1114111 then (some true) else (some false)) else (some false))
def utf8_ValidRune.f (k : Nat) (a0 : Int) : Option (Bool) := if 0 ≤ a0 then (utf8_ValidRune.j0 k a0 (decide (a0 < 55296))) else (utf8_ValidRune.j0 k a0 false)
theorem utf8_ValidRune.mono_l : ∀ k, (∀ y0 y1, LeO (utf8_ValidRune.j0 k y0 y1) (utf8_ValidRune.j0 (k + 1) y0 y1))
  | 0 => fun _ _ r h => by simp [utf8_ValidRune.j0] at h
  | k + 1 => by
    have ih0 := utf8_ValidRune.mono_l k
    · intro y0 y1
      unfold utf8_ValidRune.j0
      repeat' first
      | (with_reducible exact ih0 _ _)
      | (with_reducible exact LeO.refl _)
      | (with_reducible exact LeO.none _)
      | (with_reducible refine LeO.ite ?_ ?_)
      | (with_reducible refine LeO.bind ?_ (fun _ => ?_))
      | exact ih0 _ _
      | exact LeO.none _
      | refine LeO.ite ?_ ?_
      | refine LeO.bind ?_ (fun _ => ?_)
theorem utf8_ValidRune.mono : ∀ a0 k, LeO (utf8_ValidRune.f k a0) (utf8_ValidRune.f (k + 1) a0) := by
  intro a0 k
  have ih0 := utf8_ValidRune.mono_l k
  unfold utf8_ValidRune.f
  repeat' first
      | (with_reducible exact ih0 _ _)
      | (with_reducible exact LeO.refl _)
      | (with_reducible exact LeO.none _)
      | (with_reducible refine LeO.ite ?_ ?_)
      | (with_reducible refine LeO.bind ?_ (fun _ => ?_))
      | exact ih0 _ _
      | exact LeO.none _
      | refine LeO.ite ?_ ?_
      | refine LeO.bind ?_ (fun _ => ?_)
set_option maxHeartbeats 8000000 in
set_option maxRecDepth 100000 in
theorem utf8_ValidRune.calls (k : Nat) (a0 : Int) (r : Bool) (w : World) (h : utf8_ValidRune.f k a0 = some r) :
    Calls Tryd.prog 44 #[.int .i32 a0] w fun e w' => e = .returned (.bool r) ∧ Drawn0 w w' := by
  have H : (if 0 ≤ a0 then (utf8_ValidRune.j0 k a0 (decide (a0 < 55296))) else (utf8_ValidRune.j0 k a0 false)) = some r := h
  clear h
  have HC2 := Aside0.mk H
  clear H
  go_enter Tryd.func44, Tryd.ntmps44
  go_upto_region 1 with (fail)
  go_cut [3] (fun v3 wc => ∃ (kq : Nat) (x3_1 : Bool), v3 = .bool x3_1 ∧ Aside0 (utf8_ValidRune.j0 kq a0 x3_1 = some r) ∧ Aside0 (kq ≤ k) ∧ Drawn0 w wc)
  case first =>
    have H := HC2.out
    clear HC2
    by_cases c3 : 0 ≤ a0
    · rw [if_pos c3] at H
      have c3b0 : decide (0 ≤ a0) = true := decide_eq_true c3
      clear c3
      (first | rw [c3b0] | (simp only [i64_w, i32_w]; rw [c3b0]) | skip)
      have H' := Aside0.mk H
      clear H
      go_wp2
      go_meet
      case rel => exact ⟨_, (decide (a0 < 55296)), (by first | rfl | (simp; done) | (simp [*]; done)), H', ⟨by first | omega | exact Nat.le_refl _⟩, by repeat (first | exact Drawn0.refl _ | apply Drawn0.step)⟩
    · rw [if_neg c3] at H
      have c3b0 : decide (0 ≤ a0) = false := decide_eq_false c3
      clear c3
      (first | rw [c3b0] | (simp only [i64_w, i32_w]; rw [c3b0]) | skip)
      have H' := Aside0.mk H
      clear H
      go_wp2
      go_meet
      case rel => exact ⟨_, (false), (by first | rfl | (simp; done) | (simp [*]; done)), H', ⟨by first | omega | exact Nat.le_refl _⟩, by repeat (first | exact Drawn0.refl _ | apply Drawn0.step)⟩
  case rest =>
    clear HC2
    try clear p2
    try clear c3
    try clear c3b0
    obtain ⟨kq, x3_1, rfl, HA, HJ1, ⟨mc1, rfl⟩⟩ := hcut
    cases kq with
    | zero => exact absurd HA.out (by simp [utf8_ValidRune.j0])
    | succ kj1 =>
      have H := HA.out
      clear HA
      simp only [utf8_ValidRune.j0] at H
      by_cases c4 : x3_1 = true
      · subst c4
        have H1 : (some true) = some r := by rw [if_pos rfl] at H; exact H
        clear H
        have H := H1
        clear H1
        obtain rfl := Option.some.inj H
        go_wp2
        go_ret
        exact ⟨by first | rfl | (simp; done) | (simp [*]; done), by repeat (first | exact Drawn0.refl _ | apply Drawn0.step)⟩
      · replace c4 := Bool.eq_false_iff.mpr c4
        subst c4
        have H1 : (if 57343 < a0 then (if a0 ≤ 1114111 then (some true) else (some false)) else (some false)) = some r := by rw [if_neg (show ¬ (false = true) by decide)] at H; exact H
        clear H
        have H := H1
        clear H1
        by_cases c5 : 57343 < a0
        · rw [if_pos c5] at H
          have c5b0 : decide (57343 < a0) = true := decide_eq_true c5
          clear c5
          by_cases c6 : a0 ≤ 1114111
          · rw [if_pos c6] at H
            have c6b0 : decide (a0 ≤ 1114111) = true := decide_eq_true c6
            clear c6
            obtain rfl := Option.some.inj H
            go_wp2
            go_ret
            exact ⟨by first | rfl | (simp; done) | (simp [*]; done), by repeat (first | exact Drawn0.refl _ | apply Drawn0.step)⟩
          · rw [if_neg c6] at H
            have c6b0 : decide (a0 ≤ 1114111) = false := decide_eq_false c6
            clear c6
            obtain rfl := Option.some.inj H
            go_wp2
            go_ret
            exact ⟨by first | rfl | (simp; done) | (simp [*]; done), by repeat (first | exact Drawn0.refl _ | apply Drawn0.step)⟩
        · rw [if_neg c5] at H
          have c5b0 : decide (57343 < a0) = false := decide_eq_false c5
          clear c5
          obtain rfl := Option.some.inj H
          go_wp2
          go_ret
          exact ⟨by first | rfl | (simp; done) | (simp [*]; done), by repeat (first | exact Drawn0.refl _ | apply Drawn0.step)⟩

-- NOT PRINTED: function 39 (strconv_appendEscapedRune)

-- NOT PRINTED: function 34 (strconv_appendQuotedWith)

-- NOT PRINTED: function 27 (strconv_quoteWith)

-- NOT PRINTED: function 19 (strconv_Quote)

-- NOT PRINTED: function 20 (labels_MatchType_String)

/-! ### labels_openMetricsEscape: function 21 -/
def labels_openMetricsEscape.l0 : Nat → ByteArray → List Int → Int → Option (ByteArray)
  | 0, _, _, _ => none
  | k + 1, x0, x3, x4 => if x4 < (x0.size : Int) then (if 0 ≤ x4 then (if (bt x0 x4) = 92 then (if x3.length + 2 < 140737488355328 then (labels_openMetricsEscape.l0 k x0 (x3 ++ bytesOf (⟨#[92, 92]⟩ : ByteArray)) (wrap64 (x4 + 1))) else (none)) else (if (bt x0 x4) = 10 then (if x3.length + 2 < 140737488355328 then (labels_openMetricsEscape.l0 k x0 (x3 ++ bytesOf (⟨#[92, 110]⟩ : ByteArray)) (wrap64 (x4 + 1))) else (none)) else (if (bt x0 x4) = 34 then (if x3.length + 2 < 140737488355328 then (labels_openMetricsEscape.l0 k x0 (x3 ++ bytesOf (⟨#[92, 34]⟩ : ByteArray)) (wrap64 (x4 + 1))) else (none)) else (if x3.length < 140737488355328 then (labels_openMetricsEscape.l0 k x0 (x3 ++ [bt x0 x4]) (wrap64 (x4 + 1))) else (none))))) else (none)) else (some (strOfNums x3))
def labels_openMetricsEscape.f (k : Nat) (a0 : ByteArray) : Option (ByteArray) := labels_openMetricsEscape.l0 k a0 ([] : List Int) 0
theorem labels_openMetricsEscape.mono_l : ∀ k, (∀ y0 y1 y2, LeO (labels_openMetricsEscape.l0 k y0 y1 y2) (labels_openMetricsEscape.l0 (k + 1) y0 y1 y2))
  | 0 => fun _ _ _ r h => by simp [labels_openMetricsEscape.l0] at h
  | k + 1 => by
    have ih0 := labels_openMetricsEscape.mono_l k
    · intro y0 y1 y2
      unfold labels_openMetricsEscape.l0
      repeat' first
      | (with_reducible exact ih0 _ _ _)
      | (with_reducible exact LeO.refl _)
      | (with_reducible exact LeO.none _)
      | (with_reducible refine LeO.ite ?_ ?_)
      | (with_reducible refine LeO.bind ?_ (fun _ => ?_))
      | exact ih0 _ _ _
      | exact LeO.none _
      | refine LeO.ite ?_ ?_
      | refine LeO.bind ?_ (fun _ => ?_)
theorem labels_openMetricsEscape.mono : ∀ a0 k, LeO (labels_openMetricsEscape.f k a0) (labels_openMetricsEscape.f (k + 1) a0) := by
  intro a0 k
  have ih0 := labels_openMetricsEscape.mono_l k
  unfold labels_openMetricsEscape.f
  repeat' first
      | (with_reducible exact ih0 _ _ _)
      | (with_reducible exact LeO.refl _)
      | (with_reducible exact LeO.none _)
      | (with_reducible refine LeO.ite ?_ ?_)
      | (with_reducible refine LeO.bind ?_ (fun _ => ?_))
      | exact ih0 _ _ _
      | exact LeO.none _
      | refine LeO.ite ?_ ?_
      | refine LeO.bind ?_ (fun _ => ?_)
set_option maxHeartbeats 8000000 in
set_option maxRecDepth 100000 in
theorem labels_openMetricsEscape.calls (k : Nat) (a0 : ByteArray) (r : ByteArray) (w : World) (h : labels_openMetricsEscape.f k a0 = some r) :
    Calls Tryd.prog 21 #[.string a0] w fun e w' => e = .returned (.string r) ∧ Below w.heap.size w w' := by
  have HB := Aside0.mk (Below.refl w.heap.size w)
  have H : (labels_openMetricsEscape.l0 k a0 ([] : List Int) 0) = some r := h
  clear h
  have H' := Aside0.mk H
  clear H
  go_enter Tryd.func21, Tryd.ntmps21
  go_wp2
  go_loopg [3, 4] k (fun kq v3 v4 w' => ∃ (x3_1 : List Int) (x4_1 : Int), v4 = .int .i64 x4_1 ∧ Aside0 (labels_openMetricsEscape.l0 kq a0 x3_1 x4_1 = some r) ∧ Aside0 (kq ≤ k) ∧ Aside0 (Kd.R (Kd.int .u8) 5 w' w.heap.size (fun _ => True) v3 x3_1) ∧ Aside0 (Below w.heap.size w w'))
  case atStart => exact ⟨(([] : List Int)), (0), (by first | rfl | (simp; done) | (simp [*]; done)), H', ⟨Nat.le_refl _⟩, ⟨by first | exact Kd.R_nil _ _ _ _ _ | exact Kd.N_nil _ _ _ _ _ | exact Kd.V_nil _ _ _ _ _ | exact Kd.Q_nil _ _ _ _ _ | exact Kd.S_nil _ _ _ _ _⟩, ⟨by repeat (first | (with_reducible first | exact HB.out | apply below_alloc | apply pw_below_drewN | apply below_drew1) | exact HB.out)⟩⟩
  case round =>
    clear H'
    obtain ⟨x3_1, x4_1, rfl, HA, HK1, HO_3, HB⟩ := hrel
    cases gk with
    | zero => exact absurd HA.out (by simp [labels_openMetricsEscape.l0])
    | succ k1 =>
      have H := HA.out
      clear HA
      simp only [labels_openMetricsEscape.l0] at H
      by_cases c2 : x4_1 < (a0.size : Int)
      · rw [if_pos c2] at H
        have c2b0 : decide (x4_1 < (a0.size : Int)) = true := decide_eq_true c2
        clear c2
        by_cases c3 : 0 ≤ x4_1
        · rw [if_pos c3] at H
          have c3b0 : decide (0 ≤ x4_1) = true := decide_eq_true c3
          clear c3
          by_cases c5 : (bt a0 x4_1) = 92
          · rw [if_pos c5] at H
            have c5b0 : ((bt a0 x4_1) == 92) = true := beq_iff_eq.mpr c5
            have c5b1 : ((bt a0 x4_1) != 92) = false := bne_eq_false_iff_eq.mpr c5
            clear c5
            by_cases c6 : x3_1.length + 2 < 140737488355328
            · rw [if_pos c6] at H
              have LMc6 := Aside0.mk c6
              clear c6
              obtain ⟨y119, hy119⟩ : ∃ y_ : List Int, y_ = (x3_1 ++ bytesOf (⟨#[92, 92]⟩ : ByteArray)) := ⟨_, rfl⟩
              replace H : (labels_openMetricsEscape.l0 k1 a0 y119 (wrap64 (x4_1 + 1))) = some r := by first | (rw [hy119]; with_reducible exact H) | (have H2_ := (Option.bind_some _ _).symm.trans H; rw [hy119]; with_reducible exact H2_) | (have H2_ := (Option.bind_some _ _).symm.trans H; with_reducible exact H2_) | with_reducible exact H | (rw [hy119]; exact H) | exact H
              have Ny119 := Aside0.mk hy119
              clear hy119
              have H' := Aside0.mk H
              clear H
              have p4 : 0 ≤ (x4_1 : Int) := of_decide_eq_true (by first | (with_reducible assumption) | assumption)
              have q4 : x4_1 < (a0.size : Int) := of_decide_eq_true (by first | (with_reducible assumption) | assumption)
              have hx4 := bt_at a0 x4_1
              replace p4 := eq_true p4
              replace q4 := eq_true q4
              go_wp2_with (first | (at_builtin; refine print_append_str (w0 := w) w.heap.size rfl (.tmp 22) _ 37 9 5 rfl Tryd.underlying37 Tryd.underlying9 info5 u3 x3_1 (⟨#[92, 92]⟩ : ByteArray) rfl rfl ?aO ?aB ?aS ?aL ?_; (case aB => exact (by repeat (first | (with_reducible first | exact HB.out | apply below_alloc | apply pw_below_drewN | apply below_drew1) | exact HB.out))); (case aO => exact (Kd.own_of_R (by (with_reducible repeat (first | apply Kd.R_alloc | apply Kd.R_drewN | apply Kd.R_drew)); exact HO_3.out))); (case aS => exact (below_size (by repeat (first | (with_reducible first | exact HB.out | apply below_alloc | apply pw_below_drewN | apply below_drew1) | exact HB.out)))); (case aL => have := LMc6.out; first | omega | exact this | exact Nat.le_of_lt this); intro v120 w7 ho0 hb hg; have ho := Kd.R_of_own (h1 := fun _ => rfl) (ok := fun _ => True) ho0 (fun _ _ => trivial); clear ho0; have hat := True.intro; rw [← Ny119.out] at ho; change Kd.R (Kd.int .u8) 5 w7 w.heap.size (fun _ => True) v120 y119 at ho; have n0_ := Aside0.mk (hb); have n1_ := Aside0.mk (ho); clear HB; clear HO_3; have HB := n0_; have HO121 := n1_; clear n0_ n1_; clear ho hb hg hat))
              go_roundg k1
              case measure => have := HK1.out; omega
              case rel => exact ⟨(y119), (wrap64 (x4_1 + 1)), (by first | rfl | (simp; done) | (simp [*]; done)), H', ⟨by have := HK1.out; omega⟩, ⟨by (with_reducible repeat (first | apply Kd.R_alloc | apply Kd.R_drewN | apply Kd.R_drew)); exact HO121.out⟩, ⟨by repeat (first | (with_reducible first | exact HB.out | apply below_alloc | apply pw_below_drewN | apply below_drew1) | exact HB.out)⟩⟩
            · rw [if_neg c6] at H
              exact absurd H (by simp)
          · rw [if_neg c5] at H
            have c5b0 : ((bt a0 x4_1) == 92) = false := beq_eq_false_iff_ne.mpr c5
            have c5b1 : ((bt a0 x4_1) != 92) = true := bne_iff_ne.mpr c5
            by_cases c8 : (bt a0 x4_1) = 10
            · rw [if_pos c8] at H
              have c8b0 : ((bt a0 x4_1) == 10) = true := beq_iff_eq.mpr c8
              have c8b1 : ((bt a0 x4_1) != 10) = false := bne_eq_false_iff_eq.mpr c8
              clear c8
              by_cases c9 : x3_1.length + 2 < 140737488355328
              · rw [if_pos c9] at H
                have LMc9 := Aside0.mk c9
                clear c9
                obtain ⟨y122, hy122⟩ : ∃ y_ : List Int, y_ = (x3_1 ++ bytesOf (⟨#[92, 110]⟩ : ByteArray)) := ⟨_, rfl⟩
                replace H : (labels_openMetricsEscape.l0 k1 a0 y122 (wrap64 (x4_1 + 1))) = some r := by first | (rw [hy122]; with_reducible exact H) | (have H2_ := (Option.bind_some _ _).symm.trans H; rw [hy122]; with_reducible exact H2_) | (have H2_ := (Option.bind_some _ _).symm.trans H; with_reducible exact H2_) | with_reducible exact H | (rw [hy122]; exact H) | exact H
                have Ny122 := Aside0.mk hy122
                clear hy122
                have H' := Aside0.mk H
                clear H
                have p4 : 0 ≤ (x4_1 : Int) := of_decide_eq_true (by first | (with_reducible assumption) | assumption)
                have q4 : x4_1 < (a0.size : Int) := of_decide_eq_true (by first | (with_reducible assumption) | assumption)
                have hx4 := bt_at a0 x4_1
                replace p4 := eq_true p4
                replace q4 := eq_true q4
                go_wp2_with (first | (at_builtin; refine print_append_str (w0 := w) w.heap.size rfl (.tmp 26) _ 37 9 5 rfl Tryd.underlying37 Tryd.underlying9 info5 u3 x3_1 (⟨#[92, 110]⟩ : ByteArray) rfl rfl ?aO ?aB ?aS ?aL ?_; (case aB => exact (by repeat (first | (with_reducible first | exact HB.out | apply below_alloc | apply pw_below_drewN | apply below_drew1) | exact HB.out))); (case aO => exact (Kd.own_of_R (by (with_reducible repeat (first | apply Kd.R_alloc | apply Kd.R_drewN | apply Kd.R_drew)); exact HO_3.out))); (case aS => exact (below_size (by repeat (first | (with_reducible first | exact HB.out | apply below_alloc | apply pw_below_drewN | apply below_drew1) | exact HB.out)))); (case aL => have := LMc9.out; first | omega | exact this | exact Nat.le_of_lt this); intro v123 w10 ho0 hb hg; have ho := Kd.R_of_own (h1 := fun _ => rfl) (ok := fun _ => True) ho0 (fun _ _ => trivial); clear ho0; have hat := True.intro; rw [← Ny122.out] at ho; change Kd.R (Kd.int .u8) 5 w10 w.heap.size (fun _ => True) v123 y122 at ho; have n0_ := Aside0.mk (hb); have n1_ := Aside0.mk (ho); clear HB; clear HO_3; have HB := n0_; have HO124 := n1_; clear n0_ n1_; clear ho hb hg hat))
                go_roundg k1
                case measure => have := HK1.out; omega
                case rel => exact ⟨(y122), (wrap64 (x4_1 + 1)), (by first | rfl | (simp; done) | (simp [*]; done)), H', ⟨by have := HK1.out; omega⟩, ⟨by (with_reducible repeat (first | apply Kd.R_alloc | apply Kd.R_drewN | apply Kd.R_drew)); exact HO124.out⟩, ⟨by repeat (first | (with_reducible first | exact HB.out | apply below_alloc | apply pw_below_drewN | apply below_drew1) | exact HB.out)⟩⟩
              · rw [if_neg c9] at H
                exact absurd H (by simp)
            · rw [if_neg c8] at H
              have c8b0 : ((bt a0 x4_1) == 10) = false := beq_eq_false_iff_ne.mpr c8
              have c8b1 : ((bt a0 x4_1) != 10) = true := bne_iff_ne.mpr c8
              by_cases c11 : (bt a0 x4_1) = 34
              · rw [if_pos c11] at H
                have c11b0 : ((bt a0 x4_1) == 34) = true := beq_iff_eq.mpr c11
                have c11b1 : ((bt a0 x4_1) != 34) = false := bne_eq_false_iff_eq.mpr c11
                clear c11
                by_cases c12 : x3_1.length + 2 < 140737488355328
                · rw [if_pos c12] at H
                  have LMc12 := Aside0.mk c12
                  clear c12
                  obtain ⟨y125, hy125⟩ : ∃ y_ : List Int, y_ = (x3_1 ++ bytesOf (⟨#[92, 34]⟩ : ByteArray)) := ⟨_, rfl⟩
                  replace H : (labels_openMetricsEscape.l0 k1 a0 y125 (wrap64 (x4_1 + 1))) = some r := by first | (rw [hy125]; with_reducible exact H) | (have H2_ := (Option.bind_some _ _).symm.trans H; rw [hy125]; with_reducible exact H2_) | (have H2_ := (Option.bind_some _ _).symm.trans H; with_reducible exact H2_) | with_reducible exact H | (rw [hy125]; exact H) | exact H
                  have Ny125 := Aside0.mk hy125
                  clear hy125
                  have H' := Aside0.mk H
                  clear H
                  have p4 : 0 ≤ (x4_1 : Int) := of_decide_eq_true (by first | (with_reducible assumption) | assumption)
                  have q4 : x4_1 < (a0.size : Int) := of_decide_eq_true (by first | (with_reducible assumption) | assumption)
                  have hx4 := bt_at a0 x4_1
                  replace p4 := eq_true p4
                  replace q4 := eq_true q4
                  go_wp2_with (first | (at_builtin; refine print_append_str (w0 := w) w.heap.size rfl (.tmp 30) _ 37 9 5 rfl Tryd.underlying37 Tryd.underlying9 info5 u3 x3_1 (⟨#[92, 34]⟩ : ByteArray) rfl rfl ?aO ?aB ?aS ?aL ?_; (case aB => exact (by repeat (first | (with_reducible first | exact HB.out | apply below_alloc | apply pw_below_drewN | apply below_drew1) | exact HB.out))); (case aO => exact (Kd.own_of_R (by (with_reducible repeat (first | apply Kd.R_alloc | apply Kd.R_drewN | apply Kd.R_drew)); exact HO_3.out))); (case aS => exact (below_size (by repeat (first | (with_reducible first | exact HB.out | apply below_alloc | apply pw_below_drewN | apply below_drew1) | exact HB.out)))); (case aL => have := LMc12.out; first | omega | exact this | exact Nat.le_of_lt this); intro v126 w13 ho0 hb hg; have ho := Kd.R_of_own (h1 := fun _ => rfl) (ok := fun _ => True) ho0 (fun _ _ => trivial); clear ho0; have hat := True.intro; rw [← Ny125.out] at ho; change Kd.R (Kd.int .u8) 5 w13 w.heap.size (fun _ => True) v126 y125 at ho; have n0_ := Aside0.mk (hb); have n1_ := Aside0.mk (ho); clear HB; clear HO_3; have HB := n0_; have HO127 := n1_; clear n0_ n1_; clear ho hb hg hat))
                  go_roundg k1
                  case measure => have := HK1.out; omega
                  case rel => exact ⟨(y125), (wrap64 (x4_1 + 1)), (by first | rfl | (simp; done) | (simp [*]; done)), H', ⟨by have := HK1.out; omega⟩, ⟨by (with_reducible repeat (first | apply Kd.R_alloc | apply Kd.R_drewN | apply Kd.R_drew)); exact HO127.out⟩, ⟨by repeat (first | (with_reducible first | exact HB.out | apply below_alloc | apply pw_below_drewN | apply below_drew1) | exact HB.out)⟩⟩
                · rw [if_neg c12] at H
                  exact absurd H (by simp)
              · rw [if_neg c11] at H
                have c11b0 : ((bt a0 x4_1) == 34) = false := beq_eq_false_iff_ne.mpr c11
                have c11b1 : ((bt a0 x4_1) != 34) = true := bne_iff_ne.mpr c11
                by_cases c15 : x3_1.length < 140737488355328
                · rw [if_pos c15] at H
                  have LMc15 := Aside0.mk c15
                  clear c15
                  obtain ⟨y128, hy128⟩ : ∃ y_ : List Int, y_ = (x3_1 ++ [bt a0 x4_1]) := ⟨_, rfl⟩
                  replace H : (labels_openMetricsEscape.l0 k1 a0 y128 (wrap64 (x4_1 + 1))) = some r := by first | (rw [hy128]; with_reducible exact H) | (have H2_ := (Option.bind_some _ _).symm.trans H; rw [hy128]; with_reducible exact H2_) | (have H2_ := (Option.bind_some _ _).symm.trans H; with_reducible exact H2_) | with_reducible exact H | (rw [hy128]; exact H) | exact H
                  have Ny128 := Aside0.mk hy128
                  clear hy128
                  have H' := Aside0.mk H
                  clear H
                  have p4 : 0 ≤ (x4_1 : Int) := of_decide_eq_true (by first | (with_reducible assumption) | assumption)
                  have q4 : x4_1 < (a0.size : Int) := of_decide_eq_true (by first | (with_reducible assumption) | assumption)
                  have hx4 := bt_at a0 x4_1
                  replace p4 := eq_true p4
                  replace q4 := eq_true q4
                  have p14 : 0 ≤ (x4_1 : Int) := of_decide_eq_true (by first | (with_reducible assumption) | assumption)
                  have q14 : x4_1 < (a0.size : Int) := of_decide_eq_true (by first | (with_reducible assumption) | assumption)
                  have hx14 := bt_at a0 x4_1
                  replace p14 := eq_true p14
                  replace q14 := eq_true q14
                  go_wp2_with (first | ((with_reducible refine gate_builtin (b := .append) (xs := #[.tmp 14, .tmp 18]) rfl ?_); at_builtin; refine Kd.R_append (Kd.int .u8) (w0 := w) w.heap.size rfl (.tmp 14) (.tmp 18) 37 5 (.int .u8 0) 1 rfl Tryd.underlying37 info5 rfl (by decide) (by omega) u3 x3_1 (bt a0 x4_1) [.int .u8 (bt a0 x4_1)] (fun _ => True) (fun _ => False) rfl rfl ?aP (fun _ hk => hk.elim) ?aF ?aO ?aB ?aS ?aL ?_; (case aP => exact rfl); (case aB => exact (by repeat (first | (with_reducible first | exact HB.out | apply below_alloc | apply pw_below_drewN | apply below_drew1) | exact HB.out))); (case aF => exact (fun _ _ => trivial)); (case aO => exact (by (with_reducible repeat (first | apply Kd.R_alloc | apply Kd.R_drewN | apply Kd.R_drew)); exact HO_3.out)); (case aS => exact (below_size (by repeat (first | (with_reducible first | exact HB.out | apply below_alloc | apply pw_below_drewN | apply below_drew1) | exact HB.out)))); (case aL => have := LMc15.out; first | omega | exact this | exact Nat.le_of_lt this); intro v129 w16 ho hb hg hat; rw [← Ny128.out] at ho; have n0_ := Aside0.mk (hb); have n1_ := Aside0.mk (ho); clear HB; clear HO_3; have HB := n0_; have HO130 := n1_; clear n0_ n1_; clear ho hb hg hat))
                  go_roundg k1
                  case measure => have := HK1.out; omega
                  case rel => exact ⟨(y128), (wrap64 (x4_1 + 1)), (by first | rfl | (simp; done) | (simp [*]; done)), H', ⟨by have := HK1.out; omega⟩, ⟨by (with_reducible repeat (first | apply Kd.R_alloc | apply Kd.R_drewN | apply Kd.R_drew)); exact HO130.out⟩, ⟨by repeat (first | (with_reducible first | exact HB.out | apply below_alloc | apply pw_below_drewN | apply below_drew1) | exact HB.out)⟩⟩
                · rw [if_neg c15] at H
                  exact absurd H (by simp)
        · rw [if_neg c3] at H
          exact absurd H (by simp)
      · rw [if_neg c2] at H
        have c2b0 : decide (x4_1 < (a0.size : Int)) = false := decide_eq_false c2
        clear c2
        obtain rfl := Option.some.inj H
        have hcv17 := own_string (P := Tryd.prog) Tryd.underlying37 Tryd.underlying5 Tryd.underlying9 (Kd.own_of_R HO_3.out)
        go_wp2
        go_ret
        exact ⟨by first | rfl | (simp [errW_none, errW_some] <;> rfl) | (simp [*, errW_none, errW_some] <;> rfl), by repeat (first | (with_reducible first | exact HB.out | apply below_alloc | apply pw_below_drewN | apply below_drew1) | exact HB.out)⟩

/-! ### labels_Matcher_String: function 12 -/
-- contracts that were proved by hand
open Go.Lib Go.Proofs.YtenededepjfojabDoor.Door in
set_option maxHeartbeats 8000000 in
set_option maxRecDepth 100000 in
theorem matcher_quoted (t : Nat) (ht : t < 4) (n v : ByteArray) (B : Nat) (w : World) (hn : n.size ≤ 2147483647) (hv : v.size ≤ 2147483647) (hT : PT w)
    (hm : w.heap[B]? = some (.cells #[.int .i64 (t : Int), .string n, .string v] 52 (0, 0))) (hc : conB n = true)
    (hq1 : (quoteB n).size ≤ 30000000000) (hq2 : (quoteB v).size ≤ 30000000000) :
    Calls Tryd.prog 12 #[.pointer (some ⟨B, 0, none⟩)] w fun e w' => e = .returned (.string (quoteB n ++ opText t ++ quoteB v)) ∧ Below w.heap.size w w' := by
  have HC := Aside0.mk (contains_res n w hT)
  rw [show decide (0 ≤ Lib.idxFunc (fun r => resR (r : Int)) true n) = true from hc] at HC
  have HT := Aside0.mk hT
  have hB := (Array.getElem?_eq_some_iff.1 hm).1
  have HM := Aside0.mk hm
  have cs : ∀ W, Below w.heap.size w W → W.cell? ⟨B, 0, none⟩ = some (.int .i64 (t : Int)) ∧ W.cell? ⟨B, 1, none⟩ = some (.string n) ∧ W.cell? ⟨B, 2, none⟩ = some (.string v) := by
    intro W hb
    have h := (hb.block B hB).trans HM.out
    unfold World.cell?
    rw [h]
    exact ⟨rfl, rfl, rfl⟩
  obtain ⟨c0, c1, c2⟩ := cs w (Below.refl _ _)
  have CS := Aside0.mk cs
  have QN := Aside0.mk (fun W hP => (Tryd.strconv_Quote Lib.goPrintTabs n W (by omega) (PT.below (w := w) HT.out hP).1 (PT.below (w := w) HT.out hP).2.1))
  have QV := Aside0.mk (fun W hP => (Tryd.strconv_Quote Lib.goPrintTabs v W (by omega) (PT.below (w := w) HT.out hP).1 (PT.below (w := w) HT.out hP).2.1))
  have TY := Aside0.mk (fun W => type_text t ht W)
  obtain ⟨N, hN⟩ : ∃ N, quoteB n = N := ⟨_, rfl⟩
  obtain ⟨V, hV⟩ : ∃ V, quoteB v = V := ⟨_, rfl⟩
  obtain ⟨T, hTT⟩ : ∃ T, opText t = T := ⟨_, rfl⟩
  have hTs : T.size ≤ 2 := by rw [← hTT]; unfold opText; split <;> decide
  change Aside0 (∀ W hP, Calls _ _ _ W fun e w' => e = .returned (.string (quoteB n)) ∧ _) at QN
  change Aside0 (∀ W hP, Calls _ _ _ W fun e w' => e = .returned (.string (quoteB v)) ∧ _) at QV
  rw [hN] at QN hq1 ⊢
  rw [hV] at QV hq2 ⊢
  rw [hTT] at TY ⊢
  clear hN hV hTT hm hc cs hT
  have hcat1 : ∀ W, (Op.stringOp .add N T).run Tryd.prog W = .ok (.string (N ++ T)) W := fun W => run_string_add_sum W _ _ (by omega)
  have hcat2 : ∀ W, (Op.stringOp .add (N ++ T) V).run Tryd.prog W = .ok (.string (N ++ T ++ V)) W := fun W => run_string_add_sum W _ _ (by rw [ByteArray.size_append]; omega)
  go_enter Tryd.func12, Tryd.ntmps12
  go_wp2_with fail
  refine HC.out.mono ?_
  rintro e w1 ⟨rfl, hb⟩
  have HB1 := Aside0.mk hb
  obtain ⟨d0, d1, d2⟩ := CS.out w1 hb
  clear hb c0 c1 c2
  go_wp2
  go_region_held3 (fun w' => w'.cell? ⟨B, 0, none⟩ = some (.int .i64 (t : Int)) ∧ w'.cell? ⟨B, 1, none⟩ = some (.string n) ∧ w'.cell? ⟨B, 2, none⟩ = some (.string v)) (go_keep) (first
    | (go_at_call 19; (first | (refine (QN.out _ (by repeat (first | exact HB1.out | apply below_drew1))).mono ?_) | (refine (QV.out _ (by repeat (first | exact HB1.out | apply below_drew1))).mono ?_)); rintro e w2 ⟨rfl, hb⟩; have HB1 := Aside0.mk (below_step (by repeat (first | exact HB1.out | apply below_drew1)) hb); obtain ⟨d0, d1, d2⟩ := CS.out w2 HB1.out; clear hb)
    | (go_at_call 20; refine (TY.out _).mono ?_; rintro e w2 ⟨rfl, hb⟩; have HB1 := Aside0.mk (below_step (by repeat (first | exact HB1.out | apply below_drew1)) hb); obtain ⟨d0, d1, d2⟩ := CS.out w2 HB1.out; clear hb))
  all_goals
    go_wp2
    go_ret
    exact ⟨rfl, by repeat (first | exact HB1.out | apply below_drew1)⟩
open Go.Lib Go.Proofs.YtenededepjfojabDoor.Door in
set_option maxHeartbeats 8000000 in
set_option maxRecDepth 100000 in
theorem matcher_plain (t : Nat) (ht : t < 4) (n v : ByteArray) (B : Nat) (w : World) (hn : n.size ≤ 2147483647) (hv : v.size ≤ 2147483647) (hT : PT w)
    (hm : w.heap[B]? = some (.cells #[.int .i64 (t : Int), .string n, .string v] 52 (0, 0))) (hc : conB n = false)
    (k : Nat) (V : ByteArray) (hesc : labels_openMetricsEscape.f k v = some V) (hq2 : V.size ≤ 30000000000) :
    Calls Tryd.prog 12 #[.pointer (some ⟨B, 0, none⟩)] w fun e w' => e = .returned (.string (n ++ opText t ++ ⟨#[34]⟩ ++ V ++ ⟨#[34]⟩)) ∧ Below w.heap.size w w' := by
  have HC := Aside0.mk (contains_res n w hT)
  rw [show decide (0 ≤ Lib.idxFunc (fun r => resR (r : Int)) true n) = false from hc] at HC
  have HT := Aside0.mk hT
  have hB := (Array.getElem?_eq_some_iff.1 hm).1
  have HM := Aside0.mk hm
  have cs : ∀ W, Below w.heap.size w W → W.cell? ⟨B, 0, none⟩ = some (.int .i64 (t : Int)) ∧ W.cell? ⟨B, 1, none⟩ = some (.string n) ∧ W.cell? ⟨B, 2, none⟩ = some (.string v) := by
    intro W hb
    have h := (hb.block B hB).trans HM.out
    unfold World.cell?
    rw [h]
    exact ⟨rfl, rfl, rfl⟩
  obtain ⟨c0, c1, c2⟩ := cs w (Below.refl _ _)
  have CS := Aside0.mk cs
  have QV := Aside0.mk (fun W => labels_openMetricsEscape.calls k v V W hesc)
  have TY := Aside0.mk (fun W => type_text t ht W)
  obtain ⟨T, hTT⟩ : ∃ T, opText t = T := ⟨_, rfl⟩
  have hTs : T.size ≤ 2 := by rw [← hTT]; unfold opText; split <;> decide
  rw [hTT] at TY ⊢
  clear hTT hm hc cs hT hesc
  have h34 : (⟨#[34]⟩ : ByteArray).size = 1 := rfl
  have hcat1 : ∀ W, (Op.stringOp .add n T).run Tryd.prog W = .ok (.string (n ++ T)) W := fun W => run_string_add_sum W _ _ (by omega)
  have hcat2 : ∀ W, (Op.stringOp .add (n ++ T) ⟨#[34]⟩).run Tryd.prog W = .ok (.string (n ++ T ++ ⟨#[34]⟩)) W := fun W => run_string_add_sum W _ _ (by rw [ByteArray.size_append]; omega)
  have hcat3 : ∀ W, (Op.stringOp .add (n ++ T ++ ⟨#[34]⟩) V).run Tryd.prog W = .ok (.string (n ++ T ++ ⟨#[34]⟩ ++ V)) W := fun W => run_string_add_sum W _ _ (by rw [ByteArray.size_append, ByteArray.size_append]; omega)
  have hcat4 : ∀ W, (Op.stringOp .add (n ++ T ++ ⟨#[34]⟩ ++ V) ⟨#[34]⟩).run Tryd.prog W = .ok (.string (n ++ T ++ ⟨#[34]⟩ ++ V ++ ⟨#[34]⟩)) W := fun W => run_string_add_sum W _ _ (by rw [ByteArray.size_append, ByteArray.size_append, ByteArray.size_append]; omega)
  go_enter Tryd.func12, Tryd.ntmps12
  go_wp2_with fail
  refine HC.out.mono ?_
  rintro e w1 ⟨rfl, hb⟩
  have HB1 := Aside0.mk hb
  obtain ⟨d0, d1, d2⟩ := CS.out w1 hb
  clear hb c0 c1 c2
  go_wp2
  go_region_held3 (fun w' => w'.cell? ⟨B, 0, none⟩ = some (.int .i64 (t : Int)) ∧ w'.cell? ⟨B, 1, none⟩ = some (.string n) ∧ w'.cell? ⟨B, 2, none⟩ = some (.string v)) (go_keep) (first
    | (go_at_call 21; refine (QV.out _).mono ?_; rintro e w2 ⟨rfl, hb⟩; have HB1 := Aside0.mk (below_step (by repeat (first | exact HB1.out | apply below_drew1)) hb); obtain ⟨d0, d1, d2⟩ := CS.out w2 HB1.out; clear hb)
    | (go_at_call 20; refine (TY.out _).mono ?_; rintro e w2 ⟨rfl, hb⟩; have HB1 := Aside0.mk (below_step (by repeat (first | exact HB1.out | apply below_drew1)) hb); obtain ⟨d0, d1, d2⟩ := CS.out w2 HB1.out; clear hb))
  all_goals
    go_wp2
    go_ret
    exact ⟨rfl, by repeat (first | exact HB1.out | apply below_drew1)⟩
/-- What a matcher is written as; none: beyond the sizes that are looked at. -/
def mtext (k : Nat) (a0_0 : Int) (a0_1 a0_2 : ByteArray) : Option ByteArray :=
  if 0 ≤ a0_0 ∧ a0_0 < 4 ∧ a0_1.size ≤ 2147483647 ∧ a0_2.size ≤ 2147483647 ∧ (Door.quoteB a0_1).size ≤ 30000000000 ∧ (Door.quoteB a0_2).size ≤ 30000000000 then
    (if Door.conB a0_1 = true then some (Door.quoteB a0_1 ++ Door.opText a0_0.toNat ++ Door.quoteB a0_2)
    else (labels_openMetricsEscape.f k a0_2).bind fun V => if V.size ≤ 30000000000 then some (a0_1 ++ Door.opText a0_0.toNat ++ ⟨#[34]⟩ ++ V ++ ⟨#[34]⟩) else none)
  else none
theorem mtext_mono : ∀ a0_0 a0_1 a0_2 k, LeO (mtext k a0_0 a0_1 a0_2) (mtext (k + 1) a0_0 a0_1 a0_2) := by
  intro a b c k r h
  unfold mtext at h ⊢
  by_cases hc : 0 ≤ a ∧ a < 4 ∧ b.size ≤ 2147483647 ∧ c.size ≤ 2147483647 ∧ (Door.quoteB b).size ≤ 30000000000 ∧ (Door.quoteB c).size ≤ 30000000000
  · rw [if_pos hc] at h ⊢
    by_cases hd : Door.conB b = true
    · rw [if_pos hd] at h ⊢
      exact h
    · rw [if_neg hd] at h ⊢
      cases he : labels_openMetricsEscape.f k c with
      | none => rw [he] at h; cases h
      | some V =>
        rw [he] at h
        rw [labels_openMetricsEscape.mono c k V he]
        exact h
  · rw [if_neg hc] at h
    cases h
open Go.Lib Go.Proofs.YtenededepjfojabDoor.Door in
theorem matcher_string (k : Nat) (a0_0 : Int) (a0_1 a0_2 : ByteArray) (r : ByteArray) (B : Nat) (w : World) (hT_ : PT w)
    (hB : w.heap[B]? = some (.cells #[.int .i64 a0_0, .string a0_1, .string a0_2] 52 (0, 0))) (h : mtext k a0_0 a0_1 a0_2 = some r) :
    Calls Tryd.prog 12 #[.pointer (some ⟨B, 0, none⟩)] w fun e w' => e = .returned (.string r) ∧ Below w.heap.size w w' := by
  unfold mtext at h
  by_cases hc : 0 ≤ a0_0 ∧ a0_0 < 4 ∧ a0_1.size ≤ 2147483647 ∧ a0_2.size ≤ 2147483647 ∧ (quoteB a0_1).size ≤ 30000000000 ∧ (quoteB a0_2).size ≤ 30000000000
  · rw [if_pos hc] at h
    obtain ⟨h0, h1, h2, h3, h4, h5⟩ := hc
    obtain ⟨t, rfl⟩ : ∃ t : Nat, a0_0 = (t : Int) := ⟨a0_0.toNat, by omega⟩
    rw [Int.toNat_natCast] at h
    by_cases hd : conB a0_1 = true
    · rw [if_pos hd] at h
      injection h with h
      rw [← h]
      exact matcher_quoted t (by omega) a0_1 a0_2 B w h2 h3 hT_ hB hd h4 h5
    · rw [if_neg hd] at h
      obtain ⟨V, hV, h⟩ := Option.bind_eq_some_iff.1 h
      by_cases hs : V.size ≤ 30000000000
      · rw [if_pos hs] at h
        injection h with h
        rw [← h]
        exact matcher_plain t (by omega) a0_1 a0_2 B w h2 h3 hT_ hB (by simpa using hd) k V hV hs
      · rw [if_neg hs] at h
        cases h
  · rw [if_neg hc] at h
    cases h


-- NOT PRINTED: function 22 (bytes_Buffer_tryGrowByReslice)

end Go.Proofs.YtenededepjfojabDoor.Q
