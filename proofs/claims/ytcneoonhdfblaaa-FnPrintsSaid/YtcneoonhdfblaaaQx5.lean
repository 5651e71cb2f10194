-- printed by this project's own program wip/tools/mkprint.py (the kit's print.py with hand-proved contracts put in)
import Derived.Test.YtcneoonhdfblaaaQx0
import Derived.Test.YtcneoonhdfblaaaQx1
import Derived.Test.YtcneoonhdfblaaaQx2
import Derived.Test.YtcneoonhdfblaaaQx3
import Derived.Test.YtcneoonhdfblaaaQx4
namespace Go.Proofs.Ytcneoonhdfblaaa.Q
open Go.RowKit Go.Proofs.YtcneoonhdfblaaaW.PrintWords Go.Proofs.YtcneoonhdfblaaaW.PrintLast Go.Proofs.YtcneoonhdfblaaaW.PrintMore
attribute [local go_sem] max2_int min2_int max_two min_two max_three min_three max_four min_four   -- for this text's walks alone
set_option linter.unusedVariables false
set_option linter.unusedSimpArgs false

/-! ### laws_FnPrints: function 3 -/
mutual
def laws_FnPrints.j0 : Nat → List Int → List Int → Bool → Option (Bool)
  | 0, _, _, _ => none
  | k + 1, x0, x1, x24 => if x24 = true then (some true) else ((impl_PrintsBoth.f (([1, 2] : List Int)) (([2, 3] : List Int))).bind fun t166 => (if (t166.length : Int) = 1 then (if (x0.length : Int) > 300 then (laws_FnPrints.j1 k x0 x1 true) else (laws_FnPrints.j1 k x0 x1 (decide ((x1.length : Int) > 300)))) else (some false)))
def laws_FnPrints.j1 : Nat → List Int → List Int → Bool → Option (Bool)
  | 0, _, _, _ => none
  | k + 1, x0, x1, x37 => if x37 = true then (some true) else (laws_FnPrints.l0 k x0 x1 true x0 (x0.length : Int) 0)
def laws_FnPrints.l0 : Nat → List Int → List Int → Bool → List Int → Int → Int → Option (Bool)
  | 0, _, _, _, _, _, _ => none
  | k + 1, x0, x1, x5, x38, x39, x40 => if x40 < x39 then (if 0 ≤ x40 then (if x40 < (x38.length : Int) then (if x5 = true then ((laws_inside.f k x1 (rd x38 x40)).bind fun t170 => (laws_FnPrints.l0 k x0 x1 t170 x38 x39 (wrap64 (x40 + 1)))) else (laws_FnPrints.l0 k x0 x1 false x38 x39 (wrap64 (x40 + 1)))) else (none)) else (none)) else (laws_FnPrints.l1 k x0 x1 x5 x1 (x1.length : Int) 0)
def laws_FnPrints.l1 : Nat → List Int → List Int → Bool → List Int → Int → Int → Option (Bool)
  | 0, _, _, _, _, _, _ => none
  | k + 1, x0, x1, x5, x51, x52, x53 => if x53 < x52 then (if 0 ≤ x53 then (if x53 < (x51.length : Int) then (if x5 = true then ((laws_inside.f k x0 (rd x51 x53)).bind fun t172 => (laws_FnPrints.l1 k x0 x1 t172 x51 x52 (wrap64 (x53 + 1)))) else (laws_FnPrints.l1 k x0 x1 false x51 x52 (wrap64 (x53 + 1)))) else (none)) else (none)) else ((impl_PrintsBoth.f x0 x1).bind fun t173 => (laws_FnPrints.l2 k x0 x1 x5 t173 t173 (t173.length : Int) 0))
def laws_FnPrints.l2 : Nat → List Int → List Int → Bool → List Int → List Int → Int → Int → Option (Bool)
  | 0, _, _, _, _, _, _, _ => none
  | k + 1, x0, x1, x5, x10, x67, x68, x69 => if x69 < x68 then (if 0 ≤ x69 then (if x69 < (x67.length : Int) then ((laws_inside.f k x0 (rd x67 x69)).bind fun t177 => (if t177 = true then ((laws_inside.f k x1 (rd x67 x69)).bind fun t178 => (if t178 = true then (if x69 > 0 then (if 0 ≤ (wrap64 (x69 - 1)) then (if (wrap64 (x69 - 1)) < (x10.length : Int) then (if (rd x10 (wrap64 (x69 - 1))) ≥ (rd x67 x69) then (some false) else (laws_FnPrints.l2 k x0 x1 x5 x10 x67 x68 (wrap64 (x69 + 1)))) else (none)) else (none)) else (laws_FnPrints.l2 k x0 x1 x5 x10 x67 x68 (wrap64 (x69 + 1)))) else (some false))) else (some false))) else (none)) else (none)) else (laws_FnPrints.l3 k x0 x1 x5 x10 x0 (x0.length : Int) 0)
def laws_FnPrints.l3 : Nat → List Int → List Int → Bool → List Int → List Int → Int → Int → Option (Bool)
  | 0, _, _, _, _, _, _, _ => none
  | k + 1, x0, x1, x5, x10, x98, x99, x100 => if x100 < x99 then (if 0 ≤ x100 then (if x100 < (x98.length : Int) then ((laws_inside.f k x1 (rd x98 x100)).bind fun t181 => (if t181 = true then ((laws_inside.f k x10 (rd x98 x100)).bind fun t182 => (if t182 = true then (laws_FnPrints.l3 k x0 x1 x5 x10 x98 x99 (wrap64 (x100 + 1))) else (some false))) else (laws_FnPrints.l3 k x0 x1 x5 x10 x98 x99 (wrap64 (x100 + 1))))) else (none)) else (none)) else ((spec_PrintsBoth.f k x0 x1).bind fun t183 => (laws_FnPrints.l4 k x0 x1 x5 x10 t183 (x10.length : Int) 0))
def laws_FnPrints.l4 : Nat → List Int → List Int → Bool → List Int → List Int → Int → Int → Option (Bool)
  | 0, _, _, _, _, _, _, _ => none
  | k + 1, x0, x1, x5, x10, x15, x118, x119 => if x119 < x118 then (if (x15.length : Int) = (x10.length : Int) then (if 0 ≤ x119 then (if x119 < (x15.length : Int) then (if x119 < (x10.length : Int) then (if (rd x15 x119) = (rd x10 x119) then (laws_FnPrints.l4 k x0 x1 x5 x10 x15 x118 (wrap64 (x119 + 1))) else (some false)) else (none)) else (none)) else (none)) else (some false)) else ((impl_PrintsEqual.f x0 x1).bind fun t188 => (if (t188 == x5) = true then ((spec_PrintsEqual.f k x0 x1).bind fun t189 => (if (x5 == t189) = true then (some ((x15.length : Int) == (x10.length : Int))) else (some false))) else (some false)))
end
def laws_FnPrints.f (k : Nat) (l0 : List Int) (l1 : List Int) : Option (Bool) := if (l0.length : Int) > 2147483647 then (laws_FnPrints.j0 k l0 l1 true) else (laws_FnPrints.j0 k l0 l1 (decide ((l1.length : Int) > 2147483647)))
theorem laws_FnPrints.mono_l : ∀ k, (∀ y0 y1 y2, LeO (laws_FnPrints.j0 k y0 y1 y2) (laws_FnPrints.j0 (k + 1) y0 y1 y2)) ∧ (∀ y0 y1 y2, LeO (laws_FnPrints.j1 k y0 y1 y2) (laws_FnPrints.j1 (k + 1) y0 y1 y2)) ∧ (∀ y0 y1 y2 y3 y4 y5, LeO (laws_FnPrints.l0 k y0 y1 y2 y3 y4 y5) (laws_FnPrints.l0 (k + 1) y0 y1 y2 y3 y4 y5)) ∧ (∀ y0 y1 y2 y3 y4 y5, LeO (laws_FnPrints.l1 k y0 y1 y2 y3 y4 y5) (laws_FnPrints.l1 (k + 1) y0 y1 y2 y3 y4 y5)) ∧ (∀ y0 y1 y2 y3 y4 y5 y6, LeO (laws_FnPrints.l2 k y0 y1 y2 y3 y4 y5 y6) (laws_FnPrints.l2 (k + 1) y0 y1 y2 y3 y4 y5 y6)) ∧ (∀ y0 y1 y2 y3 y4 y5 y6, LeO (laws_FnPrints.l3 k y0 y1 y2 y3 y4 y5 y6) (laws_FnPrints.l3 (k + 1) y0 y1 y2 y3 y4 y5 y6)) ∧ (∀ y0 y1 y2 y3 y4 y5 y6, LeO (laws_FnPrints.l4 k y0 y1 y2 y3 y4 y5 y6) (laws_FnPrints.l4 (k + 1) y0 y1 y2 y3 y4 y5 y6))
  | 0 => ⟨fun _ _ _ r h => by simp [laws_FnPrints.j0] at h, fun _ _ _ r h => by simp [laws_FnPrints.j1] at h, fun _ _ _ _ _ _ r h => by simp [laws_FnPrints.l0] at h, fun _ _ _ _ _ _ r h => by simp [laws_FnPrints.l1] at h, fun _ _ _ _ _ _ _ r h => by simp [laws_FnPrints.l2] at h, fun _ _ _ _ _ _ _ r h => by simp [laws_FnPrints.l3] at h, fun _ _ _ _ _ _ _ r h => by simp [laws_FnPrints.l4] at h⟩
  | k + 1 => by
    obtain ⟨ih0, ih1, ih2, ih3, ih4, ih5, ih6⟩ := laws_FnPrints.mono_l k
    refine ⟨?_, ?_, ?_, ?_, ?_, ?_, ?_⟩
    · intro y0 y1 y2
      unfold laws_FnPrints.j0
      repeat' first
      | (with_reducible exact ih0 _ _ _)
      | (with_reducible exact ih1 _ _ _)
      | (with_reducible exact ih2 _ _ _ _ _ _)
      | (with_reducible exact ih3 _ _ _ _ _ _)
      | (with_reducible exact ih4 _ _ _ _ _ _ _)
      | (with_reducible exact ih5 _ _ _ _ _ _ _)
      | (with_reducible exact ih6 _ _ _ _ _ _ _)
      | (with_reducible exact laws_inside.mono _ _ _)
      | (with_reducible exact spec_PrintsBoth.mono _ _ _)
      | (with_reducible exact spec_PrintsEqual.mono _ _ _)
      | (with_reducible exact LeO.refl _)
      | (with_reducible exact LeO.none _)
      | (with_reducible refine LeO.ite ?_ ?_)
      | (with_reducible refine LeO.bind ?_ (fun _ => ?_))
      | exact ih0 _ _ _
      | exact ih1 _ _ _
      | exact ih2 _ _ _ _ _ _
      | exact ih3 _ _ _ _ _ _
      | exact ih4 _ _ _ _ _ _ _
      | exact ih5 _ _ _ _ _ _ _
      | exact ih6 _ _ _ _ _ _ _
      | exact laws_inside.mono _ _ _
      | exact spec_PrintsBoth.mono _ _ _
      | exact spec_PrintsEqual.mono _ _ _
      | exact LeO.none _
      | refine LeO.ite ?_ ?_
      | refine LeO.bind ?_ (fun _ => ?_)
    · intro y0 y1 y2
      unfold laws_FnPrints.j1
      repeat' first
      | (with_reducible exact ih0 _ _ _)
      | (with_reducible exact ih1 _ _ _)
      | (with_reducible exact ih2 _ _ _ _ _ _)
      | (with_reducible exact ih3 _ _ _ _ _ _)
      | (with_reducible exact ih4 _ _ _ _ _ _ _)
      | (with_reducible exact ih5 _ _ _ _ _ _ _)
      | (with_reducible exact ih6 _ _ _ _ _ _ _)
      | (with_reducible exact laws_inside.mono _ _ _)
      | (with_reducible exact spec_PrintsBoth.mono _ _ _)
      | (with_reducible exact spec_PrintsEqual.mono _ _ _)
      | (with_reducible exact LeO.refl _)
      | (with_reducible exact LeO.none _)
      | (with_reducible refine LeO.ite ?_ ?_)
      | (with_reducible refine LeO.bind ?_ (fun _ => ?_))
      | exact ih0 _ _ _
      | exact ih1 _ _ _
      | exact ih2 _ _ _ _ _ _
      | exact ih3 _ _ _ _ _ _
      | exact ih4 _ _ _ _ _ _ _
      | exact ih5 _ _ _ _ _ _ _
      | exact ih6 _ _ _ _ _ _ _
      | exact laws_inside.mono _ _ _
      | exact spec_PrintsBoth.mono _ _ _
      | exact spec_PrintsEqual.mono _ _ _
      | exact LeO.none _
      | refine LeO.ite ?_ ?_
      | refine LeO.bind ?_ (fun _ => ?_)
    · intro y0 y1 y2 y3 y4 y5
      unfold laws_FnPrints.l0
      repeat' first
      | (with_reducible exact ih0 _ _ _)
      | (with_reducible exact ih1 _ _ _)
      | (with_reducible exact ih2 _ _ _ _ _ _)
      | (with_reducible exact ih3 _ _ _ _ _ _)
      | (with_reducible exact ih4 _ _ _ _ _ _ _)
      | (with_reducible exact ih5 _ _ _ _ _ _ _)
      | (with_reducible exact ih6 _ _ _ _ _ _ _)
      | (with_reducible exact laws_inside.mono _ _ _)
      | (with_reducible exact spec_PrintsBoth.mono _ _ _)
      | (with_reducible exact spec_PrintsEqual.mono _ _ _)
      | (with_reducible exact LeO.refl _)
      | (with_reducible exact LeO.none _)
      | (with_reducible refine LeO.ite ?_ ?_)
      | (with_reducible refine LeO.bind ?_ (fun _ => ?_))
      | exact ih0 _ _ _
      | exact ih1 _ _ _
      | exact ih2 _ _ _ _ _ _
      | exact ih3 _ _ _ _ _ _
      | exact ih4 _ _ _ _ _ _ _
      | exact ih5 _ _ _ _ _ _ _
      | exact ih6 _ _ _ _ _ _ _
      | exact laws_inside.mono _ _ _
      | exact spec_PrintsBoth.mono _ _ _
      | exact spec_PrintsEqual.mono _ _ _
      | exact LeO.none _
      | refine LeO.ite ?_ ?_
      | refine LeO.bind ?_ (fun _ => ?_)
    · intro y0 y1 y2 y3 y4 y5
      unfold laws_FnPrints.l1
      repeat' first
      | (with_reducible exact ih0 _ _ _)
      | (with_reducible exact ih1 _ _ _)
      | (with_reducible exact ih2 _ _ _ _ _ _)
      | (with_reducible exact ih3 _ _ _ _ _ _)
      | (with_reducible exact ih4 _ _ _ _ _ _ _)
      | (with_reducible exact ih5 _ _ _ _ _ _ _)
      | (with_reducible exact ih6 _ _ _ _ _ _ _)
      | (with_reducible exact laws_inside.mono _ _ _)
      | (with_reducible exact spec_PrintsBoth.mono _ _ _)
      | (with_reducible exact spec_PrintsEqual.mono _ _ _)
      | (with_reducible exact LeO.refl _)
      | (with_reducible exact LeO.none _)
      | (with_reducible refine LeO.ite ?_ ?_)
      | (with_reducible refine LeO.bind ?_ (fun _ => ?_))
      | exact ih0 _ _ _
      | exact ih1 _ _ _
      | exact ih2 _ _ _ _ _ _
      | exact ih3 _ _ _ _ _ _
      | exact ih4 _ _ _ _ _ _ _
      | exact ih5 _ _ _ _ _ _ _
      | exact ih6 _ _ _ _ _ _ _
      | exact laws_inside.mono _ _ _
      | exact spec_PrintsBoth.mono _ _ _
      | exact spec_PrintsEqual.mono _ _ _
      | exact LeO.none _
      | refine LeO.ite ?_ ?_
      | refine LeO.bind ?_ (fun _ => ?_)
    · intro y0 y1 y2 y3 y4 y5 y6
      unfold laws_FnPrints.l2
      repeat' first
      | (with_reducible exact ih0 _ _ _)
      | (with_reducible exact ih1 _ _ _)
      | (with_reducible exact ih2 _ _ _ _ _ _)
      | (with_reducible exact ih3 _ _ _ _ _ _)
      | (with_reducible exact ih4 _ _ _ _ _ _ _)
      | (with_reducible exact ih5 _ _ _ _ _ _ _)
      | (with_reducible exact ih6 _ _ _ _ _ _ _)
      | (with_reducible exact laws_inside.mono _ _ _)
      | (with_reducible exact spec_PrintsBoth.mono _ _ _)
      | (with_reducible exact spec_PrintsEqual.mono _ _ _)
      | (with_reducible exact LeO.refl _)
      | (with_reducible exact LeO.none _)
      | (with_reducible refine LeO.ite ?_ ?_)
      | (with_reducible refine LeO.bind ?_ (fun _ => ?_))
      | exact ih0 _ _ _
      | exact ih1 _ _ _
      | exact ih2 _ _ _ _ _ _
      | exact ih3 _ _ _ _ _ _
      | exact ih4 _ _ _ _ _ _ _
      | exact ih5 _ _ _ _ _ _ _
      | exact ih6 _ _ _ _ _ _ _
      | exact laws_inside.mono _ _ _
      | exact spec_PrintsBoth.mono _ _ _
      | exact spec_PrintsEqual.mono _ _ _
      | exact LeO.none _
      | refine LeO.ite ?_ ?_
      | refine LeO.bind ?_ (fun _ => ?_)
    · intro y0 y1 y2 y3 y4 y5 y6
      unfold laws_FnPrints.l3
      repeat' first
      | (with_reducible exact ih0 _ _ _)
      | (with_reducible exact ih1 _ _ _)
      | (with_reducible exact ih2 _ _ _ _ _ _)
      | (with_reducible exact ih3 _ _ _ _ _ _)
      | (with_reducible exact ih4 _ _ _ _ _ _ _)
      | (with_reducible exact ih5 _ _ _ _ _ _ _)
      | (with_reducible exact ih6 _ _ _ _ _ _ _)
      | (with_reducible exact laws_inside.mono _ _ _)
      | (with_reducible exact spec_PrintsBoth.mono _ _ _)
      | (with_reducible exact spec_PrintsEqual.mono _ _ _)
      | (with_reducible exact LeO.refl _)
      | (with_reducible exact LeO.none _)
      | (with_reducible refine LeO.ite ?_ ?_)
      | (with_reducible refine LeO.bind ?_ (fun _ => ?_))
      | exact ih0 _ _ _
      | exact ih1 _ _ _
      | exact ih2 _ _ _ _ _ _
      | exact ih3 _ _ _ _ _ _
      | exact ih4 _ _ _ _ _ _ _
      | exact ih5 _ _ _ _ _ _ _
      | exact ih6 _ _ _ _ _ _ _
      | exact laws_inside.mono _ _ _
      | exact spec_PrintsBoth.mono _ _ _
      | exact spec_PrintsEqual.mono _ _ _
      | exact LeO.none _
      | refine LeO.ite ?_ ?_
      | refine LeO.bind ?_ (fun _ => ?_)
    · intro y0 y1 y2 y3 y4 y5 y6
      unfold laws_FnPrints.l4
      repeat' first
      | (with_reducible exact ih0 _ _ _)
      | (with_reducible exact ih1 _ _ _)
      | (with_reducible exact ih2 _ _ _ _ _ _)
      | (with_reducible exact ih3 _ _ _ _ _ _)
      | (with_reducible exact ih4 _ _ _ _ _ _ _)
      | (with_reducible exact ih5 _ _ _ _ _ _ _)
      | (with_reducible exact ih6 _ _ _ _ _ _ _)
      | (with_reducible exact laws_inside.mono _ _ _)
      | (with_reducible exact spec_PrintsBoth.mono _ _ _)
      | (with_reducible exact spec_PrintsEqual.mono _ _ _)
      | (with_reducible exact LeO.refl _)
      | (with_reducible exact LeO.none _)
      | (with_reducible refine LeO.ite ?_ ?_)
      | (with_reducible refine LeO.bind ?_ (fun _ => ?_))
      | exact ih0 _ _ _
      | exact ih1 _ _ _
      | exact ih2 _ _ _ _ _ _
      | exact ih3 _ _ _ _ _ _
      | exact ih4 _ _ _ _ _ _ _
      | exact ih5 _ _ _ _ _ _ _
      | exact ih6 _ _ _ _ _ _ _
      | exact laws_inside.mono _ _ _
      | exact spec_PrintsBoth.mono _ _ _
      | exact spec_PrintsEqual.mono _ _ _
      | exact LeO.none _
      | refine LeO.ite ?_ ?_
      | refine LeO.bind ?_ (fun _ => ?_)
theorem laws_FnPrints.mono : ∀ a0 a1 k, LeO (laws_FnPrints.f k a0 a1) (laws_FnPrints.f (k + 1) a0 a1) := by
  intro a0 a1 k
  obtain ⟨ih0, ih1, ih2, ih3, ih4, ih5, ih6⟩ := laws_FnPrints.mono_l k
  unfold laws_FnPrints.f
  repeat' first
      | (with_reducible exact ih0 _ _ _)
      | (with_reducible exact ih1 _ _ _)
      | (with_reducible exact ih2 _ _ _ _ _ _)
      | (with_reducible exact ih3 _ _ _ _ _ _)
      | (with_reducible exact ih4 _ _ _ _ _ _ _)
      | (with_reducible exact ih5 _ _ _ _ _ _ _)
      | (with_reducible exact ih6 _ _ _ _ _ _ _)
      | (with_reducible exact laws_inside.mono _ _ _)
      | (with_reducible exact spec_PrintsBoth.mono _ _ _)
      | (with_reducible exact spec_PrintsEqual.mono _ _ _)
      | (with_reducible exact LeO.refl _)
      | (with_reducible exact LeO.none _)
      | (with_reducible refine LeO.ite ?_ ?_)
      | (with_reducible refine LeO.bind ?_ (fun _ => ?_))
      | exact ih0 _ _ _
      | exact ih1 _ _ _
      | exact ih2 _ _ _ _ _ _
      | exact ih3 _ _ _ _ _ _
      | exact ih4 _ _ _ _ _ _ _
      | exact ih5 _ _ _ _ _ _ _
      | exact ih6 _ _ _ _ _ _ _
      | exact laws_inside.mono _ _ _
      | exact spec_PrintsBoth.mono _ _ _
      | exact spec_PrintsEqual.mono _ _ _
      | exact LeO.none _
      | refine LeO.ite ?_ ?_
      | refine LeO.bind ?_ (fun _ => ?_)
set_option maxHeartbeats 8000000 in
set_option maxRecDepth 100000 in
theorem laws_FnPrints.calls (k : Nat) (A0 : Option Addr) (c0 : Nat) (l0 : List Int) (A1 : Option Addr) (c1 : Nat) (l1 : List Int) (r : Bool) (w : World) (hr0 : Kd.C (Kd.int .u64) w A0 l0.length l0) (hc0 : l0.length ≤ c0) (hr1 : Kd.C (Kd.int .u64) w A1 l1.length l1) (hc1 : l1.length ≤ c1) (h : laws_FnPrints.f k l0 l1 = some r) :
    Calls Try.prog 3 #[.slice A0 l0.length c0, .slice A1 l1.length c1] w fun e w' => e = .returned (.bool r) ∧ Below w.heap.size w w' := by
  have HR0 := Aside0.mk hr0
  have HC0 := Aside0.mk hc0
  clear hr0 hc0
  have HR1 := Aside0.mk hr1
  have HC1 := Aside0.mk hc1
  clear hr1 hc1
  have HB := Aside0.mk (Below.refl w.heap.size w)
  have H : (if (l0.length : Int) > 2147483647 then (laws_FnPrints.j0 k l0 l1 true) else (laws_FnPrints.j0 k l0 l1 (decide ((l1.length : Int) > 2147483647)))) = some r := h
  clear h
  have HC3 := Aside0.mk H
  clear H
  go_enter Try.func3, Try.ntmps3
  go_upto_region 1 with (fail)
  repeat (go_quiet (fail); go_upto_region 1 with (fail))
  go_cut [24] (fun v24 wc => ∃ (kq : Nat) (x24_2 : Bool), v24 = .bool x24_2 ∧ Aside0 (laws_FnPrints.j0 kq l0 l1 x24_2 = some r) ∧ Aside0 (kq ≤ k) ∧ Aside0 (Below w.heap.size w wc))
  case first =>
    have H := HC3.out
    clear HC3
    by_cases c4 : (l0.length : Int) > 2147483647
    · rw [if_pos c4] at H
      have c4b0 : decide (2147483647 < (l0.length : Int)) = true := decide_eq_true c4
      have c4b1 : decide (2147483647 < l0.length) = true := decide_eq_true (by omega)
      clear c4
      (first | rw [c4b0] | (simp only [i64_w, i32_w]; rw [c4b0]) | skip)
      have H' := Aside0.mk H
      clear H
      go_wp2
      repeat (go_quiet (fail); try go_wp2)
      go_meet
      case rel => exact ⟨_, (true), (by first | rfl | (simp; done) | (simp [*]; done)), H', ⟨by first | omega | exact Nat.le_refl _⟩, ⟨by repeat (first | (with_reducible first | exact HB.out | apply below_alloc | apply pw_below_drewN | apply below_drew1) | exact HB.out)⟩⟩
    · rw [if_neg c4] at H
      have c4b0 : decide (2147483647 < (l0.length : Int)) = false := decide_eq_false c4
      have c4b1 : decide (2147483647 < l0.length) = false := decide_eq_false (by omega)
      clear c4
      (first | rw [c4b0] | (simp only [i64_w, i32_w]; rw [c4b0]) | skip)
      have H' := Aside0.mk H
      clear H
      go_wp2
      repeat (go_quiet (fail); try go_wp2)
      go_meet
      case rel => exact ⟨_, (decide ((l1.length : Int) > 2147483647)), (by first | rfl | (simp; done) | (simp [*]; done)), H', ⟨by first | omega | exact Nat.le_refl _⟩, ⟨by repeat (first | (with_reducible first | exact HB.out | apply below_alloc | apply pw_below_drewN | apply below_drew1) | exact HB.out)⟩⟩
  case rest =>
    clear HC3
    try clear c1
    try clear p2
    try clear c3
    try clear c4
    try clear c4b0
    try clear c4b1
    obtain ⟨kq, x24_2, rfl, HA, HJ2, HB⟩ := hcut
    cases kq with
    | zero => exact absurd HA.out (by simp [laws_FnPrints.j0])
    | succ kj2 =>
      have H := HA.out
      clear HA
      simp only [laws_FnPrints.j0] at H
      by_cases c5 : x24_2 = true
      · subst c5
        have H1 : (some true) = some r := by rw [if_pos rfl] at H; exact H
        clear H
        have H := H1
        clear H1
        obtain rfl := Option.some.inj H
        go_wp2
        repeat (go_quiet (fail); try go_wp2)
        go_ret
        exact ⟨by first | rfl | (simp [errW_none, errW_some] <;> rfl) | (simp [*, errW_none, errW_some] <;> rfl), by repeat (first | (with_reducible first | exact HB.out | apply below_alloc | apply pw_below_drewN | apply below_drew1) | exact HB.out)⟩
      · replace c5 := Bool.eq_false_iff.mpr c5
        subst c5
        have H1 : ((impl_PrintsBoth.f (([1, 2] : List Int)) (([2, 3] : List Int))).bind fun t166 => (if (t166.length : Int) = 1 then (if (l0.length : Int) > 300 then (laws_FnPrints.j1 kj2 l0 l1 true) else (laws_FnPrints.j1 kj2 l0 l1 (decide ((l1.length : Int) > 300)))) else (some false))) = some r := by rw [if_neg (show ¬ (false = true) by decide)] at H; exact H
        clear H
        have H := H1
        clear H1
        obtain ⟨y160, hy160⟩ : ∃ y_ : List Int, y_ = (([1, 2] : List Int)) := ⟨_, rfl⟩
        replace H : ((impl_PrintsBoth.f y160 (([2, 3] : List Int))).bind fun t166 => (if (t166.length : Int) = 1 then (if (l0.length : Int) > 300 then (laws_FnPrints.j1 kj2 l0 l1 true) else (laws_FnPrints.j1 kj2 l0 l1 (decide ((l1.length : Int) > 300)))) else (some false))) = some r := by first | (rw [hy160]; with_reducible exact H) | (have H2_ := (Option.bind_some _ _).symm.trans H; rw [hy160]; with_reducible exact H2_) | (have H2_ := (Option.bind_some _ _).symm.trans H; with_reducible exact H2_) | with_reducible exact H | (rw [hy160]; exact H) | exact H
        have Ny160 := Aside0.mk hy160
        clear hy160
        obtain ⟨y163, hy163⟩ : ∃ y_ : List Int, y_ = (([2, 3] : List Int)) := ⟨_, rfl⟩
        replace H : ((impl_PrintsBoth.f y160 y163).bind fun t166 => (if (t166.length : Int) = 1 then (if (l0.length : Int) > 300 then (laws_FnPrints.j1 kj2 l0 l1 true) else (laws_FnPrints.j1 kj2 l0 l1 (decide ((l1.length : Int) > 300)))) else (some false))) = some r := by first | (rw [hy163]; with_reducible exact H) | (have H2_ := (Option.bind_some _ _).symm.trans H; rw [hy163]; with_reducible exact H2_) | (have H2_ := (Option.bind_some _ _).symm.trans H; with_reducible exact H2_) | with_reducible exact H | (rw [hy163]; exact H) | exact H
        have Ny163 := Aside0.mk hy163
        clear hy163
        replace H := Option.bind_eq_some_iff.mp H
        obtain ⟨t166, A60, H⟩ := H
        replace H : (if (t166.length : Int) = 1 then (if (l0.length : Int) > 300 then (laws_FnPrints.j1 kj2 l0 l1 true) else (laws_FnPrints.j1 kj2 l0 l1 (decide ((l1.length : Int) > 300)))) else (some false)) = some r := H
        have A6 := Aside0.mk A60
        clear A60
        by_cases c7 : (t166.length : Int) = 1
        · rw [if_pos c7] at H
          have c7b0 : ((t166.length : Int) == 1) = true := beq_iff_eq.mpr c7
          have c7b1 : ((t166.length : Int) != 1) = false := bne_eq_false_iff_eq.mpr c7
          clear c7
          have HC8 := Aside0.mk H
          clear H
          go_upto_region 5 with (first | ((with_reducible refine gate_dst (N := 25) rfl ?_); (try (refine gate_guard (by rfl) ?_; dsimp only)); refine Kd.R_lit (Kd.int .u64) _ 24 ?hg (N := 25) ?hd (xs := ([1, 2] : List Int)) (inner := [.int .u64 1, .int .u64 2]) (ok := fun _ => True) (okp := fun _ => True) ?hr ?hp (fun _ hk => hk) trivial (Below.refl _ _) (Nat.le_refl _) (by simp) ?_; (case hd => rfl); (case hg => rfl); (case hr => first | (go_simp; done) | (go_simp; rfl)); (case hp => exact (Reps.one (show Kd.M (Kd.int .u64) _ _ _ 1 [.int .u64 1] from rfl) (Reps.one (show Kd.M (Kd.int .u64) _ _ _ 2 [.int .u64 2] from rfl) (Reps.none _ _)))); intro v161 w9 ho10 hb hg_ hnew_; clear hg_ hnew_; (first | rw [← Ny160.out] at ho10 | (simp only [Int.reduceToNat] at ho10; rw [← Ny160.out] at ho10)); have n0_ := Aside0.mk (Kd.R_lower ho10 (below_size (by repeat (first | (with_reducible first | exact HB.out | apply below_alloc | apply pw_below_drewN | apply below_drew1) | exact HB.out)))); have n1_ := Aside0.mk (below_step (by repeat (first | (with_reducible first | exact HB.out | apply below_alloc | apply pw_below_drewN | apply below_drew1) | exact HB.out)) hb); clear HB; have HO162 := n0_; have HB := n1_; clear n0_ n1_; clear hb ho10) | ((with_reducible refine gate_dst (N := 26) rfl ?_); (try (refine gate_guard (by rfl) ?_; dsimp only)); refine Kd.R_lit (Kd.int .u64) _ 24 ?hg (N := 26) ?hd (xs := ([2, 3] : List Int)) (inner := [.int .u64 2, .int .u64 3]) (ok := fun _ => True) (okp := fun _ => True) ?hr ?hp (fun _ hk => hk) trivial (Below.refl _ _) (Nat.le_refl _) (by simp) ?_; (case hd => rfl); (case hg => rfl); (case hr => first | (go_simp; done) | (go_simp; rfl)); (case hp => exact (Reps.one (show Kd.M (Kd.int .u64) _ _ _ 2 [.int .u64 2] from rfl) (Reps.one (show Kd.M (Kd.int .u64) _ _ _ 3 [.int .u64 3] from rfl) (Reps.none _ _)))); intro v164 w11 ho12 hb hg_ hnew_; clear hg_ hnew_; (first | rw [← Ny163.out] at ho12 | (simp only [Int.reduceToNat] at ho12; rw [← Ny163.out] at ho12)); have n0_ := Aside0.mk (Kd.R_elder' (by (with_reducible repeat (first | apply Kd.R_alloc | apply Kd.R_drewN | apply Kd.R_drew)); exact HO162.out) (Kd.R_base ho12) hb); have n1_ := Aside0.mk (Kd.R_lower (Kd.R_new' ho12 (Kd.R_lt (by (with_reducible repeat (first | apply Kd.R_alloc | apply Kd.R_drewN | apply Kd.R_drew)); exact HO162.out))) (below_size (by repeat (first | (with_reducible first | exact HB.out | apply below_alloc | apply pw_below_drewN | apply below_drew1) | exact HB.out)))); have n2_ := Aside0.mk (below_step (by repeat (first | (with_reducible first | exact HB.out | apply below_alloc | apply pw_below_drewN | apply below_drew1) | exact HB.out)) hb); clear HO162; clear HB; have HO162 := n0_; have HO165 := n1_; have HB := n2_; clear n0_ n1_ n2_; clear hb ho12; obtain ⟨Ao13, co13, eo13⟩ := Kd.R_slice HO162.out; subst eo13; obtain ⟨Ao14, co14, eo14⟩ := Kd.R_slice HO165.out; subst eo14) | (go_at_call 5; (with_reducible refine (impl_PrintsBoth.calls _ _ y160 _ _ y163 t166 _ ?side1 ?side2 ?side3 ?side4 A6.out).mono ?_); (case side1 => repeat (first | exact (Kd.R_reads' HO162.out).2.2 | (with_reducible refine Kd.C_alloc ?_ _) | (with_reducible refine Kd.C_drewN ?_ _) | (with_reducible refine Kd.C_drew ?_))); (case side2 => exact (Kd.R_reads' HO162.out).2.1); (case side3 => repeat (first | exact (Kd.R_reads' HO165.out).2.2 | (with_reducible refine Kd.C_alloc ?_ _) | (with_reducible refine Kd.C_drewN ?_ _) | (with_reducible refine Kd.C_drew ?_))); (case side4 => exact (Kd.R_reads' HO165.out).2.1); rintro e w15 ⟨v167, rfl, ho0, hb⟩; have n0_ := Aside0.mk (Kd.R_elder' (by (with_reducible repeat (first | apply Kd.R_alloc | apply Kd.R_drewN | apply Kd.R_drew)); exact HO162.out) (Kd.R_base ho0) hb); have n1_ := Aside0.mk (Kd.R_elder' (by (with_reducible repeat (first | apply Kd.R_alloc | apply Kd.R_drewN | apply Kd.R_drew)); exact HO165.out) (Kd.R_base ho0) hb); have n2_ := Aside0.mk (Kd.R_lower (Kd.R_new' (Kd.R_new' ho0 (Kd.R_lt (by (with_reducible repeat (first | apply Kd.R_alloc | apply Kd.R_drewN | apply Kd.R_drew)); exact HO162.out))) (Kd.R_lt (by (with_reducible repeat (first | apply Kd.R_alloc | apply Kd.R_drewN | apply Kd.R_drew)); exact HO165.out))) (below_size (by repeat (first | (with_reducible first | exact HB.out | apply below_alloc | apply pw_below_drewN | apply below_drew1) | exact HB.out)))); have n3_ := Aside0.mk (below_step (by repeat (first | (with_reducible first | exact HB.out | apply below_alloc | apply pw_below_drewN | apply below_drew1) | exact HB.out)) hb); clear HO162; clear HO165; clear HB; have HO162 := n0_; have HO165 := n1_; have HO168 := n2_; have HB := n3_; clear n0_ n1_ n2_ n3_; (try clear hb); (try clear hb2); (try clear hk); (try clear hi); (try clear ho0); obtain ⟨Ao16, co16, eo16⟩ := Kd.R_slice HO168.out; subst eo16))
          repeat (go_quiet (first | ((with_reducible refine gate_dst (N := 25) rfl ?_); (try (refine gate_guard (by rfl) ?_; dsimp only)); refine Kd.R_lit (Kd.int .u64) _ 24 ?hg (N := 25) ?hd (xs := ([1, 2] : List Int)) (inner := [.int .u64 1, .int .u64 2]) (ok := fun _ => True) (okp := fun _ => True) ?hr ?hp (fun _ hk => hk) trivial (Below.refl _ _) (Nat.le_refl _) (by simp) ?_; (case hd => rfl); (case hg => rfl); (case hr => first | (go_simp; done) | (go_simp; rfl)); (case hp => exact (Reps.one (show Kd.M (Kd.int .u64) _ _ _ 1 [.int .u64 1] from rfl) (Reps.one (show Kd.M (Kd.int .u64) _ _ _ 2 [.int .u64 2] from rfl) (Reps.none _ _)))); intro v161 w9 ho10 hb hg_ hnew_; clear hg_ hnew_; (first | rw [← Ny160.out] at ho10 | (simp only [Int.reduceToNat] at ho10; rw [← Ny160.out] at ho10)); have n0_ := Aside0.mk (Kd.R_lower ho10 (below_size (by repeat (first | (with_reducible first | exact HB.out | apply below_alloc | apply pw_below_drewN | apply below_drew1) | exact HB.out)))); have n1_ := Aside0.mk (below_step (by repeat (first | (with_reducible first | exact HB.out | apply below_alloc | apply pw_below_drewN | apply below_drew1) | exact HB.out)) hb); clear HB; have HO162 := n0_; have HB := n1_; clear n0_ n1_; clear hb ho10) | ((with_reducible refine gate_dst (N := 26) rfl ?_); (try (refine gate_guard (by rfl) ?_; dsimp only)); refine Kd.R_lit (Kd.int .u64) _ 24 ?hg (N := 26) ?hd (xs := ([2, 3] : List Int)) (inner := [.int .u64 2, .int .u64 3]) (ok := fun _ => True) (okp := fun _ => True) ?hr ?hp (fun _ hk => hk) trivial (Below.refl _ _) (Nat.le_refl _) (by simp) ?_; (case hd => rfl); (case hg => rfl); (case hr => first | (go_simp; done) | (go_simp; rfl)); (case hp => exact (Reps.one (show Kd.M (Kd.int .u64) _ _ _ 2 [.int .u64 2] from rfl) (Reps.one (show Kd.M (Kd.int .u64) _ _ _ 3 [.int .u64 3] from rfl) (Reps.none _ _)))); intro v164 w11 ho12 hb hg_ hnew_; clear hg_ hnew_; (first | rw [← Ny163.out] at ho12 | (simp only [Int.reduceToNat] at ho12; rw [← Ny163.out] at ho12)); have n0_ := Aside0.mk (Kd.R_elder' (by (with_reducible repeat (first | apply Kd.R_alloc | apply Kd.R_drewN | apply Kd.R_drew)); exact HO162.out) (Kd.R_base ho12) hb); have n1_ := Aside0.mk (Kd.R_lower (Kd.R_new' ho12 (Kd.R_lt (by (with_reducible repeat (first | apply Kd.R_alloc | apply Kd.R_drewN | apply Kd.R_drew)); exact HO162.out))) (below_size (by repeat (first | (with_reducible first | exact HB.out | apply below_alloc | apply pw_below_drewN | apply below_drew1) | exact HB.out)))); have n2_ := Aside0.mk (below_step (by repeat (first | (with_reducible first | exact HB.out | apply below_alloc | apply pw_below_drewN | apply below_drew1) | exact HB.out)) hb); clear HO162; clear HB; have HO162 := n0_; have HO165 := n1_; have HB := n2_; clear n0_ n1_ n2_; clear hb ho12; obtain ⟨Ao13, co13, eo13⟩ := Kd.R_slice HO162.out; subst eo13; obtain ⟨Ao14, co14, eo14⟩ := Kd.R_slice HO165.out; subst eo14) | (go_at_call 5; (with_reducible refine (impl_PrintsBoth.calls _ _ y160 _ _ y163 t166 _ ?side1 ?side2 ?side3 ?side4 A6.out).mono ?_); (case side1 => repeat (first | exact (Kd.R_reads' HO162.out).2.2 | (with_reducible refine Kd.C_alloc ?_ _) | (with_reducible refine Kd.C_drewN ?_ _) | (with_reducible refine Kd.C_drew ?_))); (case side2 => exact (Kd.R_reads' HO162.out).2.1); (case side3 => repeat (first | exact (Kd.R_reads' HO165.out).2.2 | (with_reducible refine Kd.C_alloc ?_ _) | (with_reducible refine Kd.C_drewN ?_ _) | (with_reducible refine Kd.C_drew ?_))); (case side4 => exact (Kd.R_reads' HO165.out).2.1); rintro e w15 ⟨v167, rfl, ho0, hb⟩; have n0_ := Aside0.mk (Kd.R_elder' (by (with_reducible repeat (first | apply Kd.R_alloc | apply Kd.R_drewN | apply Kd.R_drew)); exact HO162.out) (Kd.R_base ho0) hb); have n1_ := Aside0.mk (Kd.R_elder' (by (with_reducible repeat (first | apply Kd.R_alloc | apply Kd.R_drewN | apply Kd.R_drew)); exact HO165.out) (Kd.R_base ho0) hb); have n2_ := Aside0.mk (Kd.R_lower (Kd.R_new' (Kd.R_new' ho0 (Kd.R_lt (by (with_reducible repeat (first | apply Kd.R_alloc | apply Kd.R_drewN | apply Kd.R_drew)); exact HO162.out))) (Kd.R_lt (by (with_reducible repeat (first | apply Kd.R_alloc | apply Kd.R_drewN | apply Kd.R_drew)); exact HO165.out))) (below_size (by repeat (first | (with_reducible first | exact HB.out | apply below_alloc | apply pw_below_drewN | apply below_drew1) | exact HB.out)))); have n3_ := Aside0.mk (below_step (by repeat (first | (with_reducible first | exact HB.out | apply below_alloc | apply pw_below_drewN | apply below_drew1) | exact HB.out)) hb); clear HO162; clear HO165; clear HB; have HO162 := n0_; have HO165 := n1_; have HO168 := n2_; have HB := n3_; clear n0_ n1_ n2_ n3_; (try clear hb); (try clear hb2); (try clear hk); (try clear hi); (try clear ho0); obtain ⟨Ao16, co16, eo16⟩ := Kd.R_slice HO168.out; subst eo16)); go_upto_region 5 with (first | ((with_reducible refine gate_dst (N := 25) rfl ?_); (try (refine gate_guard (by rfl) ?_; dsimp only)); refine Kd.R_lit (Kd.int .u64) _ 24 ?hg (N := 25) ?hd (xs := ([1, 2] : List Int)) (inner := [.int .u64 1, .int .u64 2]) (ok := fun _ => True) (okp := fun _ => True) ?hr ?hp (fun _ hk => hk) trivial (Below.refl _ _) (Nat.le_refl _) (by simp) ?_; (case hd => rfl); (case hg => rfl); (case hr => first | (go_simp; done) | (go_simp; rfl)); (case hp => exact (Reps.one (show Kd.M (Kd.int .u64) _ _ _ 1 [.int .u64 1] from rfl) (Reps.one (show Kd.M (Kd.int .u64) _ _ _ 2 [.int .u64 2] from rfl) (Reps.none _ _)))); intro v161 w9 ho10 hb hg_ hnew_; clear hg_ hnew_; (first | rw [← Ny160.out] at ho10 | (simp only [Int.reduceToNat] at ho10; rw [← Ny160.out] at ho10)); have n0_ := Aside0.mk (Kd.R_lower ho10 (below_size (by repeat (first | (with_reducible first | exact HB.out | apply below_alloc | apply pw_below_drewN | apply below_drew1) | exact HB.out)))); have n1_ := Aside0.mk (below_step (by repeat (first | (with_reducible first | exact HB.out | apply below_alloc | apply pw_below_drewN | apply below_drew1) | exact HB.out)) hb); clear HB; have HO162 := n0_; have HB := n1_; clear n0_ n1_; clear hb ho10) | ((with_reducible refine gate_dst (N := 26) rfl ?_); (try (refine gate_guard (by rfl) ?_; dsimp only)); refine Kd.R_lit (Kd.int .u64) _ 24 ?hg (N := 26) ?hd (xs := ([2, 3] : List Int)) (inner := [.int .u64 2, .int .u64 3]) (ok := fun _ => True) (okp := fun _ => True) ?hr ?hp (fun _ hk => hk) trivial (Below.refl _ _) (Nat.le_refl _) (by simp) ?_; (case hd => rfl); (case hg => rfl); (case hr => first | (go_simp; done) | (go_simp; rfl)); (case hp => exact (Reps.one (show Kd.M (Kd.int .u64) _ _ _ 2 [.int .u64 2] from rfl) (Reps.one (show Kd.M (Kd.int .u64) _ _ _ 3 [.int .u64 3] from rfl) (Reps.none _ _)))); intro v164 w11 ho12 hb hg_ hnew_; clear hg_ hnew_; (first | rw [← Ny163.out] at ho12 | (simp only [Int.reduceToNat] at ho12; rw [← Ny163.out] at ho12)); have n0_ := Aside0.mk (Kd.R_elder' (by (with_reducible repeat (first | apply Kd.R_alloc | apply Kd.R_drewN | apply Kd.R_drew)); exact HO162.out) (Kd.R_base ho12) hb); have n1_ := Aside0.mk (Kd.R_lower (Kd.R_new' ho12 (Kd.R_lt (by (with_reducible repeat (first | apply Kd.R_alloc | apply Kd.R_drewN | apply Kd.R_drew)); exact HO162.out))) (below_size (by repeat (first | (with_reducible first | exact HB.out | apply below_alloc | apply pw_below_drewN | apply below_drew1) | exact HB.out)))); have n2_ := Aside0.mk (below_step (by repeat (first | (with_reducible first | exact HB.out | apply below_alloc | apply pw_below_drewN | apply below_drew1) | exact HB.out)) hb); clear HO162; clear HB; have HO162 := n0_; have HO165 := n1_; have HB := n2_; clear n0_ n1_ n2_; clear hb ho12; obtain ⟨Ao13, co13, eo13⟩ := Kd.R_slice HO162.out; subst eo13; obtain ⟨Ao14, co14, eo14⟩ := Kd.R_slice HO165.out; subst eo14) | (go_at_call 5; (with_reducible refine (impl_PrintsBoth.calls _ _ y160 _ _ y163 t166 _ ?side1 ?side2 ?side3 ?side4 A6.out).mono ?_); (case side1 => repeat (first | exact (Kd.R_reads' HO162.out).2.2 | (with_reducible refine Kd.C_alloc ?_ _) | (with_reducible refine Kd.C_drewN ?_ _) | (with_reducible refine Kd.C_drew ?_))); (case side2 => exact (Kd.R_reads' HO162.out).2.1); (case side3 => repeat (first | exact (Kd.R_reads' HO165.out).2.2 | (with_reducible refine Kd.C_alloc ?_ _) | (with_reducible refine Kd.C_drewN ?_ _) | (with_reducible refine Kd.C_drew ?_))); (case side4 => exact (Kd.R_reads' HO165.out).2.1); rintro e w15 ⟨v167, rfl, ho0, hb⟩; have n0_ := Aside0.mk (Kd.R_elder' (by (with_reducible repeat (first | apply Kd.R_alloc | apply Kd.R_drewN | apply Kd.R_drew)); exact HO162.out) (Kd.R_base ho0) hb); have n1_ := Aside0.mk (Kd.R_elder' (by (with_reducible repeat (first | apply Kd.R_alloc | apply Kd.R_drewN | apply Kd.R_drew)); exact HO165.out) (Kd.R_base ho0) hb); have n2_ := Aside0.mk (Kd.R_lower (Kd.R_new' (Kd.R_new' ho0 (Kd.R_lt (by (with_reducible repeat (first | apply Kd.R_alloc | apply Kd.R_drewN | apply Kd.R_drew)); exact HO162.out))) (Kd.R_lt (by (with_reducible repeat (first | apply Kd.R_alloc | apply Kd.R_drewN | apply Kd.R_drew)); exact HO165.out))) (below_size (by repeat (first | (with_reducible first | exact HB.out | apply below_alloc | apply pw_below_drewN | apply below_drew1) | exact HB.out)))); have n3_ := Aside0.mk (below_step (by repeat (first | (with_reducible first | exact HB.out | apply below_alloc | apply pw_below_drewN | apply below_drew1) | exact HB.out)) hb); clear HO162; clear HO165; clear HB; have HO162 := n0_; have HO165 := n1_; have HO168 := n2_; have HB := n3_; clear n0_ n1_ n2_ n3_; (try clear hb); (try clear hb2); (try clear hk); (try clear hi); (try clear ho0); obtain ⟨Ao16, co16, eo16⟩ := Kd.R_slice HO168.out; subst eo16)))
          (try simp only [Act.put, List.setIfInBounds_toArray, List.set_cons_zero, List.set_cons_succ])
          go_cut [37] (fun v37 wc => ∃ (kq : Nat) (x37_7 : Bool), v37 = .bool x37_7 ∧ Aside0 (laws_FnPrints.j1 kq l0 l1 x37_7 = some r) ∧ Aside0 (kq ≤ kj2) ∧ Aside0 (Below w.heap.size w wc))
          case first =>
            have H := HC8.out
            clear HC8
            by_cases c17 : (l0.length : Int) > 300
            · rw [if_pos c17] at H
              have c17b0 : decide (300 < (l0.length : Int)) = true := decide_eq_true c17
              have c17b1 : decide (300 < l0.length) = true := decide_eq_true (by omega)
              clear c17
              (first | rw [c17b0] | (simp only [i64_w, i32_w]; rw [c17b0]) | skip)
              have H' := Aside0.mk H
              clear H
              go_wp2
              repeat (go_quiet (fail); try go_wp2)
              go_meet
              case rel => exact ⟨_, (true), (by first | rfl | (simp; done) | (simp [*]; done)), H', ⟨by have := HJ2.out; first | omega | exact Nat.le_refl _⟩, ⟨by repeat (first | (with_reducible first | exact HB.out | apply below_alloc | apply pw_below_drewN | apply below_drew1) | exact HB.out)⟩⟩
            · rw [if_neg c17] at H
              have c17b0 : decide (300 < (l0.length : Int)) = false := decide_eq_false c17
              have c17b1 : decide (300 < l0.length) = false := decide_eq_false (by omega)
              clear c17
              (first | rw [c17b0] | (simp only [i64_w, i32_w]; rw [c17b0]) | skip)
              have H' := Aside0.mk H
              clear H
              go_wp2
              repeat (go_quiet (fail); try go_wp2)
              go_meet
              case rel => exact ⟨_, (decide ((l1.length : Int) > 300)), (by first | rfl | (simp; done) | (simp [*]; done)), H', ⟨by have := HJ2.out; first | omega | exact Nat.le_refl _⟩, ⟨by repeat (first | (with_reducible first | exact HB.out | apply below_alloc | apply pw_below_drewN | apply below_drew1) | exact HB.out)⟩⟩
          case rest =>
            clear HC8
            try clear c1
            try clear p2
            try clear c3
            try clear c4
            try clear c4b0
            try clear c4b1
            try clear c5
            try clear c7
            try clear c7b0
            try clear c7b1
            try clear c17
            try clear c17b0
            try clear c17b1
            try clear p2
            obtain ⟨kq, x37_7, rfl, HA, HJ7, HB⟩ := hcut
            cases kq with
            | zero => exact absurd HA.out (by simp [laws_FnPrints.j1])
            | succ kj7 =>
              have H := HA.out
              clear HA
              simp only [laws_FnPrints.j1] at H
              by_cases c18 : x37_7 = true
              · subst c18
                have H1 : (some true) = some r := by rw [if_pos rfl] at H; exact H
                clear H
                have H := H1
                clear H1
                obtain rfl := Option.some.inj H
                go_wp2
                repeat (go_quiet (fail); try go_wp2)
                go_ret
                exact ⟨by first | rfl | (simp [errW_none, errW_some] <;> rfl) | (simp [*, errW_none, errW_some] <;> rfl), by repeat (first | (with_reducible first | exact HB.out | apply below_alloc | apply pw_below_drewN | apply below_drew1) | exact HB.out)⟩
              · replace c18 := Bool.eq_false_iff.mpr c18
                subst c18
                have H1 : (laws_FnPrints.l0 kj7 l0 l1 true l0 (l0.length : Int) 0) = some r := by rw [if_neg (show ¬ (false = true) by decide)] at H; exact H
                clear H
                have H := H1
                clear H1
                have H' := Aside0.mk H
                clear H
                go_wp2
                repeat (go_quiet (fail); try go_wp2)
                go_loopg [5, 40] kj7 (fun kq v5 v40 w' => ∃ (x5_3 : Bool) (x40_3 : Int), v5 = .bool x5_3 ∧ v40 = .int .i64 x40_3 ∧ Aside0 (laws_FnPrints.l0 kq l0 l1 x5_3 l0 (l0.length : Int) x40_3 = some r) ∧ Aside0 (kq ≤ kj7) ∧ Aside0 (Below w.heap.size w w'))
                case atStart => exact ⟨(true), (0), (by first | rfl | (simp; done) | (simp [*]; done)), (by first | rfl | (simp; done) | (simp [*]; done)), H', ⟨Nat.le_refl _⟩, ⟨by repeat (first | (with_reducible first | exact HB.out | apply below_alloc | apply pw_below_drewN | apply below_drew1) | exact HB.out)⟩⟩
                case round =>
                  clear H'
                  try clear c1
                  try clear p2
                  try clear c3
                  try clear c4
                  try clear c4b0
                  try clear c4b1
                  try clear c5
                  try clear c7
                  try clear c7b0
                  try clear c7b1
                  try clear c17
                  try clear c17b0
                  try clear c17b1
                  try clear c18
                  try clear p2
                  obtain ⟨x5_3, x40_3, rfl, rfl, HA, HK3, HB⟩ := hrel
                  cases gk with
                  | zero => exact absurd HA.out (by simp [laws_FnPrints.l0])
                  | succ k3 =>
                    have H := HA.out
                    clear HA
                    simp only [laws_FnPrints.l0] at H
                    by_cases c19 : x40_3 < (l0.length : Int)
                    · rw [if_pos c19] at H
                      have c19b0 : decide (x40_3 < (l0.length : Int)) = true := decide_eq_true c19
                      clear c19
                      by_cases c20 : 0 ≤ x40_3
                      · rw [if_pos c20] at H
                        have c20b0 : decide (0 ≤ x40_3) = true := decide_eq_true c20
                        clear c20
                        by_cases c21 : x40_3 < (l0.length : Int)
                        · rw [if_pos c21] at H
                          have c21b0 : decide (x40_3 < (l0.length : Int)) = true := decide_eq_true c21
                          clear c21
                          by_cases c22 : x5_3 = true
                          · subst c22
                            have H1 : ((laws_inside.f k3 l1 (rd l0 x40_3)).bind fun t170 => (laws_FnPrints.l0 k3 l0 l1 t170 l0 (l0.length : Int) (wrap64 (x40_3 + 1)))) = some r := by rw [if_pos rfl] at H; exact H
                            clear H
                            have H := H1
                            clear H1
                            replace H := Option.bind_eq_some_iff.mp H
                            obtain ⟨t170, A230, H⟩ := H
                            replace H : (laws_FnPrints.l0 k3 l0 l1 t170 l0 (l0.length : Int) (wrap64 (x40_3 + 1))) = some r := H
                            have A23 := Aside0.mk A230
                            clear A230
                            have H' := Aside0.mk H
                            clear H
                            have p169 : 0 ≤ (x40_3 : Int) := of_decide_eq_true (by first | (with_reducible assumption) | assumption)
                            have q169 : x40_3 < (l0.length : Int) := of_decide_eq_true (by first | (with_reducible assumption) | assumption)
                            obtain ⟨ad169, e169, hx169_0⟩ := Kd.at_int HR0.out x40_3 p169 q169
                            cases e169
                            replace hx169_0 := (HB.out.cell (World.block_lt_of_cell? w _ hx169_0)).trans hx169_0
                            replace p169 := eq_true p169
                            replace q169 := eq_true q169
                            go_wp2_with (first | (go_at_call 6; (with_reducible refine (laws_inside.calls k3 _ _ l1 (rd l0 x40_3) t170 _ ?side1 ?side2 A23.out).mono ?_); (case side1 => repeat (first | exact (Kd.C_below HR1.out HB.out) | (with_reducible refine Kd.C_alloc ?_ _) | (with_reducible refine Kd.C_drewN ?_ _) | (with_reducible refine Kd.C_drew ?_))); (case side2 => exact HC1.out); rintro e w' ⟨rfl, ⟨nd, rfl⟩⟩; (try first | exact ⟨rfl, _, World.drewN_drewN _ _ _⟩ | exact ⟨rfl, _, Eq.trans (World.drewN_drewN _ _ _) (congrArg (World.drewN _) (Nat.add_assoc _ _ _))⟩)))
                            repeat (go_quiet (first | (go_at_call 6; (with_reducible refine (laws_inside.calls k3 _ _ l1 (rd l0 x40_3) t170 _ ?side1 ?side2 A23.out).mono ?_); (case side1 => repeat (first | exact (Kd.C_below HR1.out HB.out) | (with_reducible refine Kd.C_alloc ?_ _) | (with_reducible refine Kd.C_drewN ?_ _) | (with_reducible refine Kd.C_drew ?_))); (case side2 => exact HC1.out); rintro e w' ⟨rfl, ⟨nd, rfl⟩⟩; (try first | exact ⟨rfl, _, World.drewN_drewN _ _ _⟩ | exact ⟨rfl, _, Eq.trans (World.drewN_drewN _ _ _) (congrArg (World.drewN _) (Nat.add_assoc _ _ _))⟩))); try go_wp2_with (first | (go_at_call 6; (with_reducible refine (laws_inside.calls k3 _ _ l1 (rd l0 x40_3) t170 _ ?side1 ?side2 A23.out).mono ?_); (case side1 => repeat (first | exact (Kd.C_below HR1.out HB.out) | (with_reducible refine Kd.C_alloc ?_ _) | (with_reducible refine Kd.C_drewN ?_ _) | (with_reducible refine Kd.C_drew ?_))); (case side2 => exact HC1.out); rintro e w' ⟨rfl, ⟨nd, rfl⟩⟩; (try first | exact ⟨rfl, _, World.drewN_drewN _ _ _⟩ | exact ⟨rfl, _, Eq.trans (World.drewN_drewN _ _ _) (congrArg (World.drewN _) (Nat.add_assoc _ _ _))⟩))))
                            go_roundg k3
                            case measure => have := HJ2.out; have := HJ7.out; have := HK3.out; omega
                            case rel => exact ⟨(t170), (wrap64 (x40_3 + 1)), (by first | rfl | (simp; done) | (simp [*]; done)), (by first | rfl | (simp; done) | (simp [*]; done)), H', ⟨by have := HJ2.out; have := HJ7.out; have := HK3.out; omega⟩, ⟨by repeat (first | (with_reducible first | exact HB.out | apply below_alloc | apply pw_below_drewN | apply below_drew1) | exact HB.out)⟩⟩
                          · replace c22 := Bool.eq_false_iff.mpr c22
                            subst c22
                            have H1 : (laws_FnPrints.l0 k3 l0 l1 false l0 (l0.length : Int) (wrap64 (x40_3 + 1))) = some r := by rw [if_neg (show ¬ (false = true) by decide)] at H; exact H
                            clear H
                            have H := H1
                            clear H1
                            have H' := Aside0.mk H
                            clear H
                            have p169 : 0 ≤ (x40_3 : Int) := of_decide_eq_true (by first | (with_reducible assumption) | assumption)
                            have q169 : x40_3 < (l0.length : Int) := of_decide_eq_true (by first | (with_reducible assumption) | assumption)
                            obtain ⟨ad169, e169, hx169_0⟩ := Kd.at_int HR0.out x40_3 p169 q169
                            cases e169
                            replace hx169_0 := (HB.out.cell (World.block_lt_of_cell? w _ hx169_0)).trans hx169_0
                            replace p169 := eq_true p169
                            replace q169 := eq_true q169
                            go_wp2
                            repeat (go_quiet (fail); try go_wp2)
                            go_roundg k3
                            case measure => have := HJ2.out; have := HJ7.out; have := HK3.out; omega
                            case rel => exact ⟨(false), (wrap64 (x40_3 + 1)), (by first | rfl | (simp; done) | (simp [*]; done)), (by first | rfl | (simp; done) | (simp [*]; done)), H', ⟨by have := HJ2.out; have := HJ7.out; have := HK3.out; omega⟩, ⟨by repeat (first | (with_reducible first | exact HB.out | apply below_alloc | apply pw_below_drewN | apply below_drew1) | exact HB.out)⟩⟩
                        · rw [if_neg c21] at H
                          exact absurd H (by simp)
                      · rw [if_neg c20] at H
                        exact absurd H (by simp)
                    · rw [if_neg c19] at H
                      have c19b0 : decide (x40_3 < (l0.length : Int)) = false := decide_eq_false c19
                      clear c19
                      have H' := Aside0.mk H
                      clear H
                      go_wp2
                      repeat (go_quiet (fail); try go_wp2)
                      go_loopg [5, 53] k3 (fun kq v5 v53 w' => ∃ (x5_4 : Bool) (x53_4 : Int), v5 = .bool x5_4 ∧ v53 = .int .i64 x53_4 ∧ Aside0 (laws_FnPrints.l1 kq l0 l1 x5_4 l1 (l1.length : Int) x53_4 = some r) ∧ Aside0 (kq ≤ k3) ∧ Aside0 (Below w.heap.size w w'))
                      case atStart => exact ⟨(x5_3), (0), (by first | rfl | (simp; done) | (simp [*]; done)), (by first | rfl | (simp; done) | (simp [*]; done)), H', ⟨Nat.le_refl _⟩, ⟨by repeat (first | (with_reducible first | exact HB.out | apply below_alloc | apply pw_below_drewN | apply below_drew1) | exact HB.out)⟩⟩
                      case round =>
                        clear H'
                        try clear c1
                        try clear p1
                        try clear q1
                        try clear hx1
                        try clear c2
                        try clear p2
                        try clear c3
                        try clear c4
                        try clear c4b0
                        try clear c4b1
                        try clear c5
                        try clear p6
                        try clear c7
                        try clear c7b0
                        try clear c7b1
                        try clear p16
                        try clear q16
                        try clear hx16
                        try clear c17
                        try clear c17b0
                        try clear c17b1
                        try clear c18
                        try clear c19
                        try clear c19b0
                        try clear c20
                        try clear c20b0
                        try clear c21
                        try clear c21b0
                        try clear c22
                        try clear hx169_0
                        try clear p169
                        try clear p2
                        try clear q169
                        obtain ⟨x5_4, x53_4, rfl, rfl, HA, HK4, HB⟩ := hrel
                        cases gk with
                        | zero => exact absurd HA.out (by simp [laws_FnPrints.l1])
                        | succ k4 =>
                          have H := HA.out
                          clear HA
                          simp only [laws_FnPrints.l1] at H
                          by_cases c24 : x53_4 < (l1.length : Int)
                          · rw [if_pos c24] at H
                            have c24b0 : decide (x53_4 < (l1.length : Int)) = true := decide_eq_true c24
                            clear c24
                            by_cases c25 : 0 ≤ x53_4
                            · rw [if_pos c25] at H
                              have c25b0 : decide (0 ≤ x53_4) = true := decide_eq_true c25
                              clear c25
                              by_cases c26 : x53_4 < (l1.length : Int)
                              · rw [if_pos c26] at H
                                have c26b0 : decide (x53_4 < (l1.length : Int)) = true := decide_eq_true c26
                                clear c26
                                by_cases c27 : x5_4 = true
                                · subst c27
                                  have H1 : ((laws_inside.f k4 l0 (rd l1 x53_4)).bind fun t172 => (laws_FnPrints.l1 k4 l0 l1 t172 l1 (l1.length : Int) (wrap64 (x53_4 + 1)))) = some r := by rw [if_pos rfl] at H; exact H
                                  clear H
                                  have H := H1
                                  clear H1
                                  replace H := Option.bind_eq_some_iff.mp H
                                  obtain ⟨t172, A280, H⟩ := H
                                  replace H : (laws_FnPrints.l1 k4 l0 l1 t172 l1 (l1.length : Int) (wrap64 (x53_4 + 1))) = some r := H
                                  have A28 := Aside0.mk A280
                                  clear A280
                                  have H' := Aside0.mk H
                                  clear H
                                  have p171 : 0 ≤ (x53_4 : Int) := of_decide_eq_true (by first | (with_reducible assumption) | assumption)
                                  have q171 : x53_4 < (l1.length : Int) := of_decide_eq_true (by first | (with_reducible assumption) | assumption)
                                  obtain ⟨ad171, e171, hx171_0⟩ := Kd.at_int HR1.out x53_4 p171 q171
                                  cases e171
                                  replace hx171_0 := (HB.out.cell (World.block_lt_of_cell? w _ hx171_0)).trans hx171_0
                                  replace p171 := eq_true p171
                                  replace q171 := eq_true q171
                                  go_wp2_with (first | (go_at_call 6; (with_reducible refine (laws_inside.calls k4 _ _ l0 (rd l1 x53_4) t172 _ ?side1 ?side2 A28.out).mono ?_); (case side1 => repeat (first | exact (Kd.C_below HR0.out HB.out) | (with_reducible refine Kd.C_alloc ?_ _) | (with_reducible refine Kd.C_drewN ?_ _) | (with_reducible refine Kd.C_drew ?_))); (case side2 => exact HC0.out); rintro e w' ⟨rfl, ⟨nd, rfl⟩⟩; (try first | exact ⟨rfl, _, World.drewN_drewN _ _ _⟩ | exact ⟨rfl, _, Eq.trans (World.drewN_drewN _ _ _) (congrArg (World.drewN _) (Nat.add_assoc _ _ _))⟩)))
                                  repeat (go_quiet (first | (go_at_call 6; (with_reducible refine (laws_inside.calls k4 _ _ l0 (rd l1 x53_4) t172 _ ?side1 ?side2 A28.out).mono ?_); (case side1 => repeat (first | exact (Kd.C_below HR0.out HB.out) | (with_reducible refine Kd.C_alloc ?_ _) | (with_reducible refine Kd.C_drewN ?_ _) | (with_reducible refine Kd.C_drew ?_))); (case side2 => exact HC0.out); rintro e w' ⟨rfl, ⟨nd, rfl⟩⟩; (try first | exact ⟨rfl, _, World.drewN_drewN _ _ _⟩ | exact ⟨rfl, _, Eq.trans (World.drewN_drewN _ _ _) (congrArg (World.drewN _) (Nat.add_assoc _ _ _))⟩))); try go_wp2_with (first | (go_at_call 6; (with_reducible refine (laws_inside.calls k4 _ _ l0 (rd l1 x53_4) t172 _ ?side1 ?side2 A28.out).mono ?_); (case side1 => repeat (first | exact (Kd.C_below HR0.out HB.out) | (with_reducible refine Kd.C_alloc ?_ _) | (with_reducible refine Kd.C_drewN ?_ _) | (with_reducible refine Kd.C_drew ?_))); (case side2 => exact HC0.out); rintro e w' ⟨rfl, ⟨nd, rfl⟩⟩; (try first | exact ⟨rfl, _, World.drewN_drewN _ _ _⟩ | exact ⟨rfl, _, Eq.trans (World.drewN_drewN _ _ _) (congrArg (World.drewN _) (Nat.add_assoc _ _ _))⟩))))
                                  go_roundg k4
                                  case measure => have := HJ2.out; have := HJ7.out; have := HK3.out; have := HK4.out; omega
                                  case rel => exact ⟨(t172), (wrap64 (x53_4 + 1)), (by first | rfl | (simp; done) | (simp [*]; done)), (by first | rfl | (simp; done) | (simp [*]; done)), H', ⟨by have := HJ2.out; have := HJ7.out; have := HK3.out; have := HK4.out; omega⟩, ⟨by repeat (first | (with_reducible first | exact HB.out | apply below_alloc | apply pw_below_drewN | apply below_drew1) | exact HB.out)⟩⟩
                                · replace c27 := Bool.eq_false_iff.mpr c27
                                  subst c27
                                  have H1 : (laws_FnPrints.l1 k4 l0 l1 false l1 (l1.length : Int) (wrap64 (x53_4 + 1))) = some r := by rw [if_neg (show ¬ (false = true) by decide)] at H; exact H
                                  clear H
                                  have H := H1
                                  clear H1
                                  have H' := Aside0.mk H
                                  clear H
                                  have p171 : 0 ≤ (x53_4 : Int) := of_decide_eq_true (by first | (with_reducible assumption) | assumption)
                                  have q171 : x53_4 < (l1.length : Int) := of_decide_eq_true (by first | (with_reducible assumption) | assumption)
                                  obtain ⟨ad171, e171, hx171_0⟩ := Kd.at_int HR1.out x53_4 p171 q171
                                  cases e171
                                  replace hx171_0 := (HB.out.cell (World.block_lt_of_cell? w _ hx171_0)).trans hx171_0
                                  replace p171 := eq_true p171
                                  replace q171 := eq_true q171
                                  go_wp2
                                  repeat (go_quiet (fail); try go_wp2)
                                  go_roundg k4
                                  case measure => have := HJ2.out; have := HJ7.out; have := HK3.out; have := HK4.out; omega
                                  case rel => exact ⟨(false), (wrap64 (x53_4 + 1)), (by first | rfl | (simp; done) | (simp [*]; done)), (by first | rfl | (simp; done) | (simp [*]; done)), H', ⟨by have := HJ2.out; have := HJ7.out; have := HK3.out; have := HK4.out; omega⟩, ⟨by repeat (first | (with_reducible first | exact HB.out | apply below_alloc | apply pw_below_drewN | apply below_drew1) | exact HB.out)⟩⟩
                              · rw [if_neg c26] at H
                                exact absurd H (by simp)
                            · rw [if_neg c25] at H
                              exact absurd H (by simp)
                          · rw [if_neg c24] at H
                            have c24b0 : decide (x53_4 < (l1.length : Int)) = false := decide_eq_false c24
                            clear c24
                            replace H := Option.bind_eq_some_iff.mp H
                            obtain ⟨t173, A290, H⟩ := H
                            replace H : (laws_FnPrints.l2 k4 l0 l1 x5_4 t173 t173 (t173.length : Int) 0) = some r := H
                            have A29 := Aside0.mk A290
                            clear A290
                            have H' := Aside0.mk H
                            clear H
                            go_wp2_with (first | (go_at_call 5; (with_reducible refine (impl_PrintsBoth.calls _ _ l0 _ _ l1 t173 _ ?side1 ?side2 ?side3 ?side4 A29.out).mono ?_); (case side1 => repeat (first | exact (Kd.C_below HR0.out HB.out) | (with_reducible refine Kd.C_alloc ?_ _) | (with_reducible refine Kd.C_drewN ?_ _) | (with_reducible refine Kd.C_drew ?_))); (case side2 => exact HC0.out); (case side3 => repeat (first | exact (Kd.C_below HR1.out HB.out) | (with_reducible refine Kd.C_alloc ?_ _) | (with_reducible refine Kd.C_drewN ?_ _) | (with_reducible refine Kd.C_drew ?_))); (case side4 => exact HC1.out); rintro e w30 ⟨v174, rfl, ho0, hb⟩; have n0_ := Aside0.mk (Kd.R_lower ho0 (below_size (by repeat (first | (with_reducible first | exact HB.out | apply below_alloc | apply pw_below_drewN | apply below_drew1) | exact HB.out)))); have n1_ := Aside0.mk (below_step (by repeat (first | (with_reducible first | exact HB.out | apply below_alloc | apply pw_below_drewN | apply below_drew1) | exact HB.out)) hb); clear HB; have HO175 := n0_; have HB := n1_; clear n0_ n1_; (try clear hb); (try clear hb2); (try clear hk); (try clear hi); (try clear ho0); obtain ⟨Ao31, co31, eo31⟩ := Kd.R_slice HO175.out; subst eo31))
                            repeat (go_quiet (first | (go_at_call 5; (with_reducible refine (impl_PrintsBoth.calls _ _ l0 _ _ l1 t173 _ ?side1 ?side2 ?side3 ?side4 A29.out).mono ?_); (case side1 => repeat (first | exact (Kd.C_below HR0.out HB.out) | (with_reducible refine Kd.C_alloc ?_ _) | (with_reducible refine Kd.C_drewN ?_ _) | (with_reducible refine Kd.C_drew ?_))); (case side2 => exact HC0.out); (case side3 => repeat (first | exact (Kd.C_below HR1.out HB.out) | (with_reducible refine Kd.C_alloc ?_ _) | (with_reducible refine Kd.C_drewN ?_ _) | (with_reducible refine Kd.C_drew ?_))); (case side4 => exact HC1.out); rintro e w30 ⟨v174, rfl, ho0, hb⟩; have n0_ := Aside0.mk (Kd.R_lower ho0 (below_size (by repeat (first | (with_reducible first | exact HB.out | apply below_alloc | apply pw_below_drewN | apply below_drew1) | exact HB.out)))); have n1_ := Aside0.mk (below_step (by repeat (first | (with_reducible first | exact HB.out | apply below_alloc | apply pw_below_drewN | apply below_drew1) | exact HB.out)) hb); clear HB; have HO175 := n0_; have HB := n1_; clear n0_ n1_; (try clear hb); (try clear hb2); (try clear hk); (try clear hi); (try clear ho0); obtain ⟨Ao31, co31, eo31⟩ := Kd.R_slice HO175.out; subst eo31)); try go_wp2_with (first | (go_at_call 5; (with_reducible refine (impl_PrintsBoth.calls _ _ l0 _ _ l1 t173 _ ?side1 ?side2 ?side3 ?side4 A29.out).mono ?_); (case side1 => repeat (first | exact (Kd.C_below HR0.out HB.out) | (with_reducible refine Kd.C_alloc ?_ _) | (with_reducible refine Kd.C_drewN ?_ _) | (with_reducible refine Kd.C_drew ?_))); (case side2 => exact HC0.out); (case side3 => repeat (first | exact (Kd.C_below HR1.out HB.out) | (with_reducible refine Kd.C_alloc ?_ _) | (with_reducible refine Kd.C_drewN ?_ _) | (with_reducible refine Kd.C_drew ?_))); (case side4 => exact HC1.out); rintro e w30 ⟨v174, rfl, ho0, hb⟩; have n0_ := Aside0.mk (Kd.R_lower ho0 (below_size (by repeat (first | (with_reducible first | exact HB.out | apply below_alloc | apply pw_below_drewN | apply below_drew1) | exact HB.out)))); have n1_ := Aside0.mk (below_step (by repeat (first | (with_reducible first | exact HB.out | apply below_alloc | apply pw_below_drewN | apply below_drew1) | exact HB.out)) hb); clear HB; have HO175 := n0_; have HB := n1_; clear n0_ n1_; (try clear hb); (try clear hb2); (try clear hk); (try clear hi); (try clear ho0); obtain ⟨Ao31, co31, eo31⟩ := Kd.R_slice HO175.out; subst eo31)))
                            go_loopg [69] k4 (fun kq v69 w' => ∃ (x69_5 : Int), v69 = .int .i64 x69_5 ∧ Aside0 (laws_FnPrints.l2 kq l0 l1 x5_4 t173 t173 (t173.length : Int) x69_5 = some r) ∧ Aside0 (kq ≤ k4) ∧ Aside0 (Kd.R (Kd.int .u64) 24 w' w.heap.size (fun _ => True) (.slice Ao31 t173.length co31) t173) ∧ Aside0 (Kd.R (Kd.int .u64) 24 w' w.heap.size (fun _ => True) (.slice Ao31 t173.length co31) t173) ∧ Aside0 (Below w.heap.size w w'))
                            case atStart => exact ⟨(0), (by first | rfl | (simp; done) | (simp [*]; done)), H', ⟨Nat.le_refl _⟩, ⟨by (with_reducible repeat (first | apply Kd.R_alloc | apply Kd.R_drewN | apply Kd.R_drew)); exact HO175.out⟩, ⟨by (with_reducible repeat (first | apply Kd.R_alloc | apply Kd.R_drewN | apply Kd.R_drew)); exact HO175.out⟩, ⟨by repeat (first | (with_reducible first | exact HB.out | apply below_alloc | apply pw_below_drewN | apply below_drew1) | exact HB.out)⟩⟩
                            case round =>
                              clear H'
                              try clear c1
                              try clear p1
                              try clear q1
                              try clear hx1
                              try clear c2
                              try clear p2
                              try clear c3
                              try clear c4
                              try clear c4b0
                              try clear c4b1
                              try clear c5
                              try clear p6
                              try clear c7
                              try clear c7b0
                              try clear c7b1
                              try clear p16
                              try clear q16
                              try clear hx16
                              try clear c17
                              try clear c17b0
                              try clear c17b1
                              try clear p17
                              try clear q17
                              try clear hx17
                              try clear c18
                              try clear c19
                              try clear c19b0
                              try clear c20
                              try clear c20b0
                              try clear c21
                              try clear c21b0
                              try clear c22
                              try clear c24
                              try clear c24b0
                              try clear c25
                              try clear c25b0
                              try clear c26
                              try clear c26b0
                              try clear c27
                              try clear hx169_0
                              try clear hx171_0
                              try clear p1
                              try clear p16
                              try clear p169
                              try clear p171
                              try clear p2
                              try clear p6
                              try clear q1
                              try clear q16
                              try clear q169
                              try clear q171
                              obtain ⟨x69_5, rfl, HA, HK5, HO_10, HO_67, HB⟩ := hrel
                              cases gk with
                              | zero => exact absurd HA.out (by simp [laws_FnPrints.l2])
                              | succ k5 =>
                                have H := HA.out
                                clear HA
                                simp only [laws_FnPrints.l2] at H
                                by_cases c32 : x69_5 < (t173.length : Int)
                                · rw [if_pos c32] at H
                                  have c32b0 : decide (x69_5 < (t173.length : Int)) = true := decide_eq_true c32
                                  clear c32
                                  by_cases c33 : 0 ≤ x69_5
                                  · rw [if_pos c33] at H
                                    have c33b0 : decide (0 ≤ x69_5) = true := decide_eq_true c33
                                    clear c33
                                    by_cases c34 : x69_5 < (t173.length : Int)
                                    · rw [if_pos c34] at H
                                      have c34b0 : decide (x69_5 < (t173.length : Int)) = true := decide_eq_true c34
                                      clear c34
                                      replace H := Option.bind_eq_some_iff.mp H
                                      obtain ⟨t177, A350, H⟩ := H
                                      replace H : (if t177 = true then ((laws_inside.f k5 l1 (rd t173 x69_5)).bind fun t178 => (if t178 = true then (if x69_5 > 0 then (if 0 ≤ (wrap64 (x69_5 - 1)) then (if (wrap64 (x69_5 - 1)) < (t173.length : Int) then (if (rd t173 (wrap64 (x69_5 - 1))) ≥ (rd t173 x69_5) then (some false) else (laws_FnPrints.l2 k5 l0 l1 x5_4 t173 t173 (t173.length : Int) (wrap64 (x69_5 + 1)))) else (none)) else (none)) else (laws_FnPrints.l2 k5 l0 l1 x5_4 t173 t173 (t173.length : Int) (wrap64 (x69_5 + 1)))) else (some false))) else (some false)) = some r := H
                                      have A35 := Aside0.mk A350
                                      clear A350
                                      by_cases c36 : t177 = true
                                      · subst c36
                                        have H1 : ((laws_inside.f k5 l1 (rd t173 x69_5)).bind fun t178 => (if t178 = true then (if x69_5 > 0 then (if 0 ≤ (wrap64 (x69_5 - 1)) then (if (wrap64 (x69_5 - 1)) < (t173.length : Int) then (if (rd t173 (wrap64 (x69_5 - 1))) ≥ (rd t173 x69_5) then (some false) else (laws_FnPrints.l2 k5 l0 l1 x5_4 t173 t173 (t173.length : Int) (wrap64 (x69_5 + 1)))) else (none)) else (none)) else (laws_FnPrints.l2 k5 l0 l1 x5_4 t173 t173 (t173.length : Int) (wrap64 (x69_5 + 1)))) else (some false))) = some r := by rw [if_pos rfl] at H; exact H
                                        clear H
                                        have H := H1
                                        clear H1
                                        replace H := Option.bind_eq_some_iff.mp H
                                        obtain ⟨t178, A370, H⟩ := H
                                        replace H : (if t178 = true then (if x69_5 > 0 then (if 0 ≤ (wrap64 (x69_5 - 1)) then (if (wrap64 (x69_5 - 1)) < (t173.length : Int) then (if (rd t173 (wrap64 (x69_5 - 1))) ≥ (rd t173 x69_5) then (some false) else (laws_FnPrints.l2 k5 l0 l1 x5_4 t173 t173 (t173.length : Int) (wrap64 (x69_5 + 1)))) else (none)) else (none)) else (laws_FnPrints.l2 k5 l0 l1 x5_4 t173 t173 (t173.length : Int) (wrap64 (x69_5 + 1)))) else (some false)) = some r := H
                                        have A37 := Aside0.mk A370
                                        clear A370
                                        by_cases c38 : t178 = true
                                        · subst c38
                                          have H1 : (if x69_5 > 0 then (if 0 ≤ (wrap64 (x69_5 - 1)) then (if (wrap64 (x69_5 - 1)) < (t173.length : Int) then (if (rd t173 (wrap64 (x69_5 - 1))) ≥ (rd t173 x69_5) then (some false) else (laws_FnPrints.l2 k5 l0 l1 x5_4 t173 t173 (t173.length : Int) (wrap64 (x69_5 + 1)))) else (none)) else (none)) else (laws_FnPrints.l2 k5 l0 l1 x5_4 t173 t173 (t173.length : Int) (wrap64 (x69_5 + 1)))) = some r := by rw [if_pos rfl] at H; exact H
                                          clear H
                                          have H := H1
                                          clear H1
                                          by_cases c39 : x69_5 > 0
                                          · rw [if_pos c39] at H
                                            have c39b0 : decide (0 < x69_5) = true := decide_eq_true c39
                                            clear c39
                                            obtain ⟨ji40, hji40⟩ : ∃ j_ : Int, (wrap64 (x69_5 - 1)) = j_ := ⟨_, rfl⟩
                                            replace H : (if 0 ≤ (ji40) then (if (ji40) < (t173.length : Int) then (if (rd t173 (ji40)) ≥ (rd t173 x69_5) then (some false) else (laws_FnPrints.l2 k5 l0 l1 x5_4 t173 t173 (t173.length : Int) (wrap64 (x69_5 + 1)))) else (none)) else (none)) = some r := by first | (rw [hji40] at H; exact H) | (simp only [hji40] at H ⊢; exact H)
                                            (try rw [hji40] at A35)
                                            (try rw [hji40] at A37)
                                            have hji40w : (IntKind.i64.wrap (x69_5 - 1)) = ji40 := (i64_w _).trans hji40
                                            by_cases c41 : 0 ≤ (ji40)
                                            · rw [if_pos c41] at H
                                              have c41b0 : decide (0 ≤ (ji40)) = true := decide_eq_true c41
                                              clear c41
                                              by_cases c42 : (ji40) < (t173.length : Int)
                                              · rw [if_pos c42] at H
                                                have c42b0 : decide ((ji40) < (t173.length : Int)) = true := decide_eq_true c42
                                                clear c42
                                                by_cases c43 : (rd t173 (ji40)) ≥ (rd t173 x69_5)
                                                · rw [if_pos c43] at H
                                                  have c43b0 : decide ((rd t173 x69_5) ≤ (rd t173 (ji40))) = true := decide_eq_true c43
                                                  clear c43
                                                  obtain rfl := Option.some.inj H
                                                  have p176 : 0 ≤ (x69_5 : Int) := of_decide_eq_true (by first | (with_reducible assumption) | assumption)
                                                  have q176 : x69_5 < (t173.length : Int) := of_decide_eq_true (by first | (with_reducible assumption) | assumption)
                                                  obtain ⟨ad176, e176, hx176_0⟩ := Kd.at_int (Kd.R_reads' HO_67.out).2.2 x69_5 p176 q176
                                                  cases e176
                                                  replace p176 := eq_true p176
                                                  replace q176 := eq_true q176
                                                  go_wp2_with (first | (go_at_call 6; (with_reducible refine (laws_inside.calls k5 _ _ l0 (rd t173 x69_5) true _ ?side1 ?side2 A35.out).mono ?_); (case side1 => repeat (first | exact (Kd.C_below HR0.out HB.out) | (with_reducible refine Kd.C_alloc ?_ _) | (with_reducible refine Kd.C_drewN ?_ _) | (with_reducible refine Kd.C_drew ?_))); (case side2 => exact HC0.out); rintro e w' ⟨rfl, ⟨nd, rfl⟩⟩; (try first | exact ⟨rfl, _, World.drewN_drewN _ _ _⟩ | exact ⟨rfl, _, Eq.trans (World.drewN_drewN _ _ _) (congrArg (World.drewN _) (Nat.add_assoc _ _ _))⟩)) | (go_at_call 6; (with_reducible refine (laws_inside.calls k5 _ _ l1 (rd t173 x69_5) true _ ?side1 ?side2 A37.out).mono ?_); (case side1 => repeat (first | exact (Kd.C_below HR1.out (by repeat (first | (with_reducible first | exact HB.out | apply below_alloc | apply pw_below_drewN | apply below_drew1) | exact HB.out))) | (with_reducible refine Kd.C_alloc ?_ _) | (with_reducible refine Kd.C_drewN ?_ _) | (with_reducible refine Kd.C_drew ?_))); (case side2 => exact HC1.out); rintro e w' ⟨rfl, ⟨nd, rfl⟩⟩; (try first | exact ⟨rfl, _, World.drewN_drewN _ _ _⟩ | exact ⟨rfl, _, Eq.trans (World.drewN_drewN _ _ _) (congrArg (World.drewN _) (Nat.add_assoc _ _ _))⟩); have p179 : 0 ≤ ((ji40) : Int) := of_decide_eq_true (by first | (with_reducible assumption) | assumption); have q179 : (ji40) < (t173.length : Int) := of_decide_eq_true (by first | (with_reducible assumption) | assumption); obtain ⟨ad179, e179, hx179_0⟩ := Kd.at_int (Kd.R_reads' HO_10.out).2.2 (ji40) p179 q179; obtain rfl : ad176 = ad179 := (by injection e179); replace p179 := eq_true p179; replace q179 := eq_true q179))
                                                  repeat (go_quiet (first | (go_at_call 6; (with_reducible refine (laws_inside.calls k5 _ _ l0 (rd t173 x69_5) true _ ?side1 ?side2 A35.out).mono ?_); (case side1 => repeat (first | exact (Kd.C_below HR0.out HB.out) | (with_reducible refine Kd.C_alloc ?_ _) | (with_reducible refine Kd.C_drewN ?_ _) | (with_reducible refine Kd.C_drew ?_))); (case side2 => exact HC0.out); rintro e w' ⟨rfl, ⟨nd, rfl⟩⟩; (try first | exact ⟨rfl, _, World.drewN_drewN _ _ _⟩ | exact ⟨rfl, _, Eq.trans (World.drewN_drewN _ _ _) (congrArg (World.drewN _) (Nat.add_assoc _ _ _))⟩)) | (go_at_call 6; (with_reducible refine (laws_inside.calls k5 _ _ l1 (rd t173 x69_5) true _ ?side1 ?side2 A37.out).mono ?_); (case side1 => repeat (first | exact (Kd.C_below HR1.out (by repeat (first | (with_reducible first | exact HB.out | apply below_alloc | apply pw_below_drewN | apply below_drew1) | exact HB.out))) | (with_reducible refine Kd.C_alloc ?_ _) | (with_reducible refine Kd.C_drewN ?_ _) | (with_reducible refine Kd.C_drew ?_))); (case side2 => exact HC1.out); rintro e w' ⟨rfl, ⟨nd, rfl⟩⟩; (try first | exact ⟨rfl, _, World.drewN_drewN _ _ _⟩ | exact ⟨rfl, _, Eq.trans (World.drewN_drewN _ _ _) (congrArg (World.drewN _) (Nat.add_assoc _ _ _))⟩); have p179 : 0 ≤ ((ji40) : Int) := of_decide_eq_true (by first | (with_reducible assumption) | assumption); have q179 : (ji40) < (t173.length : Int) := of_decide_eq_true (by first | (with_reducible assumption) | assumption); obtain ⟨ad179, e179, hx179_0⟩ := Kd.at_int (Kd.R_reads' HO_10.out).2.2 (ji40) p179 q179; obtain rfl : ad176 = ad179 := (by injection e179); replace p179 := eq_true p179; replace q179 := eq_true q179)); try go_wp2_with (first | (go_at_call 6; (with_reducible refine (laws_inside.calls k5 _ _ l0 (rd t173 x69_5) true _ ?side1 ?side2 A35.out).mono ?_); (case side1 => repeat (first | exact (Kd.C_below HR0.out HB.out) | (with_reducible refine Kd.C_alloc ?_ _) | (with_reducible refine Kd.C_drewN ?_ _) | (with_reducible refine Kd.C_drew ?_))); (case side2 => exact HC0.out); rintro e w' ⟨rfl, ⟨nd, rfl⟩⟩; (try first | exact ⟨rfl, _, World.drewN_drewN _ _ _⟩ | exact ⟨rfl, _, Eq.trans (World.drewN_drewN _ _ _) (congrArg (World.drewN _) (Nat.add_assoc _ _ _))⟩)) | (go_at_call 6; (with_reducible refine (laws_inside.calls k5 _ _ l1 (rd t173 x69_5) true _ ?side1 ?side2 A37.out).mono ?_); (case side1 => repeat (first | exact (Kd.C_below HR1.out (by repeat (first | (with_reducible first | exact HB.out | apply below_alloc | apply pw_below_drewN | apply below_drew1) | exact HB.out))) | (with_reducible refine Kd.C_alloc ?_ _) | (with_reducible refine Kd.C_drewN ?_ _) | (with_reducible refine Kd.C_drew ?_))); (case side2 => exact HC1.out); rintro e w' ⟨rfl, ⟨nd, rfl⟩⟩; (try first | exact ⟨rfl, _, World.drewN_drewN _ _ _⟩ | exact ⟨rfl, _, Eq.trans (World.drewN_drewN _ _ _) (congrArg (World.drewN _) (Nat.add_assoc _ _ _))⟩); have p179 : 0 ≤ ((ji40) : Int) := of_decide_eq_true (by first | (with_reducible assumption) | assumption); have q179 : (ji40) < (t173.length : Int) := of_decide_eq_true (by first | (with_reducible assumption) | assumption); obtain ⟨ad179, e179, hx179_0⟩ := Kd.at_int (Kd.R_reads' HO_10.out).2.2 (ji40) p179 q179; obtain rfl : ad176 = ad179 := (by injection e179); replace p179 := eq_true p179; replace q179 := eq_true q179)))
                                                  go_ret
                                                  exact ⟨by first | rfl | (simp [errW_none, errW_some] <;> rfl) | (simp only [← hji40]; first | rfl | (simp [errW_none, errW_some] <;> rfl)) | (simp [*, errW_none, errW_some] <;> rfl), by repeat (first | (with_reducible first | exact HB.out | apply below_alloc | apply pw_below_drewN | apply below_drew1) | exact HB.out)⟩
                                                · rw [if_neg c43] at H
                                                  have c43b0 : decide ((rd t173 x69_5) ≤ (rd t173 (ji40))) = false := decide_eq_false c43
                                                  clear c43
                                                  have H' := Aside0.mk H
                                                  clear H
                                                  have p176 : 0 ≤ (x69_5 : Int) := of_decide_eq_true (by first | (with_reducible assumption) | assumption)
                                                  have q176 : x69_5 < (t173.length : Int) := of_decide_eq_true (by first | (with_reducible assumption) | assumption)
                                                  obtain ⟨ad176, e176, hx176_0⟩ := Kd.at_int (Kd.R_reads' HO_67.out).2.2 x69_5 p176 q176
                                                  cases e176
                                                  replace p176 := eq_true p176
                                                  replace q176 := eq_true q176
                                                  go_wp2_with (first | (go_at_call 6; (with_reducible refine (laws_inside.calls k5 _ _ l0 (rd t173 x69_5) true _ ?side1 ?side2 A35.out).mono ?_); (case side1 => repeat (first | exact (Kd.C_below HR0.out HB.out) | (with_reducible refine Kd.C_alloc ?_ _) | (with_reducible refine Kd.C_drewN ?_ _) | (with_reducible refine Kd.C_drew ?_))); (case side2 => exact HC0.out); rintro e w' ⟨rfl, ⟨nd, rfl⟩⟩; (try first | exact ⟨rfl, _, World.drewN_drewN _ _ _⟩ | exact ⟨rfl, _, Eq.trans (World.drewN_drewN _ _ _) (congrArg (World.drewN _) (Nat.add_assoc _ _ _))⟩)) | (go_at_call 6; (with_reducible refine (laws_inside.calls k5 _ _ l1 (rd t173 x69_5) true _ ?side1 ?side2 A37.out).mono ?_); (case side1 => repeat (first | exact (Kd.C_below HR1.out (by repeat (first | (with_reducible first | exact HB.out | apply below_alloc | apply pw_below_drewN | apply below_drew1) | exact HB.out))) | (with_reducible refine Kd.C_alloc ?_ _) | (with_reducible refine Kd.C_drewN ?_ _) | (with_reducible refine Kd.C_drew ?_))); (case side2 => exact HC1.out); rintro e w' ⟨rfl, ⟨nd, rfl⟩⟩; (try first | exact ⟨rfl, _, World.drewN_drewN _ _ _⟩ | exact ⟨rfl, _, Eq.trans (World.drewN_drewN _ _ _) (congrArg (World.drewN _) (Nat.add_assoc _ _ _))⟩); have p179 : 0 ≤ ((ji40) : Int) := of_decide_eq_true (by first | (with_reducible assumption) | assumption); have q179 : (ji40) < (t173.length : Int) := of_decide_eq_true (by first | (with_reducible assumption) | assumption); obtain ⟨ad179, e179, hx179_0⟩ := Kd.at_int (Kd.R_reads' HO_10.out).2.2 (ji40) p179 q179; obtain rfl : ad176 = ad179 := (by injection e179); replace p179 := eq_true p179; replace q179 := eq_true q179))
                                                  repeat (go_quiet (first | (go_at_call 6; (with_reducible refine (laws_inside.calls k5 _ _ l0 (rd t173 x69_5) true _ ?side1 ?side2 A35.out).mono ?_); (case side1 => repeat (first | exact (Kd.C_below HR0.out HB.out) | (with_reducible refine Kd.C_alloc ?_ _) | (with_reducible refine Kd.C_drewN ?_ _) | (with_reducible refine Kd.C_drew ?_))); (case side2 => exact HC0.out); rintro e w' ⟨rfl, ⟨nd, rfl⟩⟩; (try first | exact ⟨rfl, _, World.drewN_drewN _ _ _⟩ | exact ⟨rfl, _, Eq.trans (World.drewN_drewN _ _ _) (congrArg (World.drewN _) (Nat.add_assoc _ _ _))⟩)) | (go_at_call 6; (with_reducible refine (laws_inside.calls k5 _ _ l1 (rd t173 x69_5) true _ ?side1 ?side2 A37.out).mono ?_); (case side1 => repeat (first | exact (Kd.C_below HR1.out (by repeat (first | (with_reducible first | exact HB.out | apply below_alloc | apply pw_below_drewN | apply below_drew1) | exact HB.out))) | (with_reducible refine Kd.C_alloc ?_ _) | (with_reducible refine Kd.C_drewN ?_ _) | (with_reducible refine Kd.C_drew ?_))); (case side2 => exact HC1.out); rintro e w' ⟨rfl, ⟨nd, rfl⟩⟩; (try first | exact ⟨rfl, _, World.drewN_drewN _ _ _⟩ | exact ⟨rfl, _, Eq.trans (World.drewN_drewN _ _ _) (congrArg (World.drewN _) (Nat.add_assoc _ _ _))⟩); have p179 : 0 ≤ ((ji40) : Int) := of_decide_eq_true (by first | (with_reducible assumption) | assumption); have q179 : (ji40) < (t173.length : Int) := of_decide_eq_true (by first | (with_reducible assumption) | assumption); obtain ⟨ad179, e179, hx179_0⟩ := Kd.at_int (Kd.R_reads' HO_10.out).2.2 (ji40) p179 q179; obtain rfl : ad176 = ad179 := (by injection e179); replace p179 := eq_true p179; replace q179 := eq_true q179)); try go_wp2_with (first | (go_at_call 6; (with_reducible refine (laws_inside.calls k5 _ _ l0 (rd t173 x69_5) true _ ?side1 ?side2 A35.out).mono ?_); (case side1 => repeat (first | exact (Kd.C_below HR0.out HB.out) | (with_reducible refine Kd.C_alloc ?_ _) | (with_reducible refine Kd.C_drewN ?_ _) | (with_reducible refine Kd.C_drew ?_))); (case side2 => exact HC0.out); rintro e w' ⟨rfl, ⟨nd, rfl⟩⟩; (try first | exact ⟨rfl, _, World.drewN_drewN _ _ _⟩ | exact ⟨rfl, _, Eq.trans (World.drewN_drewN _ _ _) (congrArg (World.drewN _) (Nat.add_assoc _ _ _))⟩)) | (go_at_call 6; (with_reducible refine (laws_inside.calls k5 _ _ l1 (rd t173 x69_5) true _ ?side1 ?side2 A37.out).mono ?_); (case side1 => repeat (first | exact (Kd.C_below HR1.out (by repeat (first | (with_reducible first | exact HB.out | apply below_alloc | apply pw_below_drewN | apply below_drew1) | exact HB.out))) | (with_reducible refine Kd.C_alloc ?_ _) | (with_reducible refine Kd.C_drewN ?_ _) | (with_reducible refine Kd.C_drew ?_))); (case side2 => exact HC1.out); rintro e w' ⟨rfl, ⟨nd, rfl⟩⟩; (try first | exact ⟨rfl, _, World.drewN_drewN _ _ _⟩ | exact ⟨rfl, _, Eq.trans (World.drewN_drewN _ _ _) (congrArg (World.drewN _) (Nat.add_assoc _ _ _))⟩); have p179 : 0 ≤ ((ji40) : Int) := of_decide_eq_true (by first | (with_reducible assumption) | assumption); have q179 : (ji40) < (t173.length : Int) := of_decide_eq_true (by first | (with_reducible assumption) | assumption); obtain ⟨ad179, e179, hx179_0⟩ := Kd.at_int (Kd.R_reads' HO_10.out).2.2 (ji40) p179 q179; obtain rfl : ad176 = ad179 := (by injection e179); replace p179 := eq_true p179; replace q179 := eq_true q179)))
                                                  go_roundg k5
                                                  case measure => have := HJ2.out; have := HJ7.out; have := HK3.out; have := HK4.out; have := HK5.out; omega
                                                  case rel => exact ⟨(wrap64 (x69_5 + 1)), (by first | rfl | (simp; done) | (simp [*]; done)), H', ⟨by have := HJ2.out; have := HJ7.out; have := HK3.out; have := HK4.out; have := HK5.out; omega⟩, ⟨by (with_reducible repeat (first | apply Kd.R_alloc | apply Kd.R_drewN | apply Kd.R_drew)); exact HO_10.out⟩, ⟨by (with_reducible repeat (first | apply Kd.R_alloc | apply Kd.R_drewN | apply Kd.R_drew)); exact HO_67.out⟩, ⟨by repeat (first | (with_reducible first | exact HB.out | apply below_alloc | apply pw_below_drewN | apply below_drew1) | exact HB.out)⟩⟩
                                              · rw [if_neg c42] at H
                                                exact absurd H (by simp)
                                            · rw [if_neg c41] at H
                                              exact absurd H (by simp)
                                          · rw [if_neg c39] at H
                                            have c39b0 : decide (0 < x69_5) = false := decide_eq_false c39
                                            clear c39
                                            have H' := Aside0.mk H
                                            clear H
                                            have p176 : 0 ≤ (x69_5 : Int) := of_decide_eq_true (by first | (with_reducible assumption) | assumption)
                                            have q176 : x69_5 < (t173.length : Int) := of_decide_eq_true (by first | (with_reducible assumption) | assumption)
                                            obtain ⟨ad176, e176, hx176_0⟩ := Kd.at_int (Kd.R_reads' HO_67.out).2.2 x69_5 p176 q176
                                            cases e176
                                            replace p176 := eq_true p176
                                            replace q176 := eq_true q176
                                            go_wp2_with (first | (go_at_call 6; (with_reducible refine (laws_inside.calls k5 _ _ l0 (rd t173 x69_5) true _ ?side1 ?side2 A35.out).mono ?_); (case side1 => repeat (first | exact (Kd.C_below HR0.out HB.out) | (with_reducible refine Kd.C_alloc ?_ _) | (with_reducible refine Kd.C_drewN ?_ _) | (with_reducible refine Kd.C_drew ?_))); (case side2 => exact HC0.out); rintro e w' ⟨rfl, ⟨nd, rfl⟩⟩; (try first | exact ⟨rfl, _, World.drewN_drewN _ _ _⟩ | exact ⟨rfl, _, Eq.trans (World.drewN_drewN _ _ _) (congrArg (World.drewN _) (Nat.add_assoc _ _ _))⟩)) | (go_at_call 6; (with_reducible refine (laws_inside.calls k5 _ _ l1 (rd t173 x69_5) true _ ?side1 ?side2 A37.out).mono ?_); (case side1 => repeat (first | exact (Kd.C_below HR1.out (by repeat (first | (with_reducible first | exact HB.out | apply below_alloc | apply pw_below_drewN | apply below_drew1) | exact HB.out))) | (with_reducible refine Kd.C_alloc ?_ _) | (with_reducible refine Kd.C_drewN ?_ _) | (with_reducible refine Kd.C_drew ?_))); (case side2 => exact HC1.out); rintro e w' ⟨rfl, ⟨nd, rfl⟩⟩; (try first | exact ⟨rfl, _, World.drewN_drewN _ _ _⟩ | exact ⟨rfl, _, Eq.trans (World.drewN_drewN _ _ _) (congrArg (World.drewN _) (Nat.add_assoc _ _ _))⟩)))
                                            repeat (go_quiet (first | (go_at_call 6; (with_reducible refine (laws_inside.calls k5 _ _ l0 (rd t173 x69_5) true _ ?side1 ?side2 A35.out).mono ?_); (case side1 => repeat (first | exact (Kd.C_below HR0.out HB.out) | (with_reducible refine Kd.C_alloc ?_ _) | (with_reducible refine Kd.C_drewN ?_ _) | (with_reducible refine Kd.C_drew ?_))); (case side2 => exact HC0.out); rintro e w' ⟨rfl, ⟨nd, rfl⟩⟩; (try first | exact ⟨rfl, _, World.drewN_drewN _ _ _⟩ | exact ⟨rfl, _, Eq.trans (World.drewN_drewN _ _ _) (congrArg (World.drewN _) (Nat.add_assoc _ _ _))⟩)) | (go_at_call 6; (with_reducible refine (laws_inside.calls k5 _ _ l1 (rd t173 x69_5) true _ ?side1 ?side2 A37.out).mono ?_); (case side1 => repeat (first | exact (Kd.C_below HR1.out (by repeat (first | (with_reducible first | exact HB.out | apply below_alloc | apply pw_below_drewN | apply below_drew1) | exact HB.out))) | (with_reducible refine Kd.C_alloc ?_ _) | (with_reducible refine Kd.C_drewN ?_ _) | (with_reducible refine Kd.C_drew ?_))); (case side2 => exact HC1.out); rintro e w' ⟨rfl, ⟨nd, rfl⟩⟩; (try first | exact ⟨rfl, _, World.drewN_drewN _ _ _⟩ | exact ⟨rfl, _, Eq.trans (World.drewN_drewN _ _ _) (congrArg (World.drewN _) (Nat.add_assoc _ _ _))⟩))); try go_wp2_with (first | (go_at_call 6; (with_reducible refine (laws_inside.calls k5 _ _ l0 (rd t173 x69_5) true _ ?side1 ?side2 A35.out).mono ?_); (case side1 => repeat (first | exact (Kd.C_below HR0.out HB.out) | (with_reducible refine Kd.C_alloc ?_ _) | (with_reducible refine Kd.C_drewN ?_ _) | (with_reducible refine Kd.C_drew ?_))); (case side2 => exact HC0.out); rintro e w' ⟨rfl, ⟨nd, rfl⟩⟩; (try first | exact ⟨rfl, _, World.drewN_drewN _ _ _⟩ | exact ⟨rfl, _, Eq.trans (World.drewN_drewN _ _ _) (congrArg (World.drewN _) (Nat.add_assoc _ _ _))⟩)) | (go_at_call 6; (with_reducible refine (laws_inside.calls k5 _ _ l1 (rd t173 x69_5) true _ ?side1 ?side2 A37.out).mono ?_); (case side1 => repeat (first | exact (Kd.C_below HR1.out (by repeat (first | (with_reducible first | exact HB.out | apply below_alloc | apply pw_below_drewN | apply below_drew1) | exact HB.out))) | (with_reducible refine Kd.C_alloc ?_ _) | (with_reducible refine Kd.C_drewN ?_ _) | (with_reducible refine Kd.C_drew ?_))); (case side2 => exact HC1.out); rintro e w' ⟨rfl, ⟨nd, rfl⟩⟩; (try first | exact ⟨rfl, _, World.drewN_drewN _ _ _⟩ | exact ⟨rfl, _, Eq.trans (World.drewN_drewN _ _ _) (congrArg (World.drewN _) (Nat.add_assoc _ _ _))⟩))))
                                            go_roundg k5
                                            case measure => have := HJ2.out; have := HJ7.out; have := HK3.out; have := HK4.out; have := HK5.out; omega
                                            case rel => exact ⟨(wrap64 (x69_5 + 1)), (by first | rfl | (simp; done) | (simp [*]; done)), H', ⟨by have := HJ2.out; have := HJ7.out; have := HK3.out; have := HK4.out; have := HK5.out; omega⟩, ⟨by (with_reducible repeat (first | apply Kd.R_alloc | apply Kd.R_drewN | apply Kd.R_drew)); exact HO_10.out⟩, ⟨by (with_reducible repeat (first | apply Kd.R_alloc | apply Kd.R_drewN | apply Kd.R_drew)); exact HO_67.out⟩, ⟨by repeat (first | (with_reducible first | exact HB.out | apply below_alloc | apply pw_below_drewN | apply below_drew1) | exact HB.out)⟩⟩
                                        · replace c38 := Bool.eq_false_iff.mpr c38
                                          subst c38
                                          have H1 : (some false) = some r := by rw [if_neg (show ¬ (false = true) by decide)] at H; exact H
                                          clear H
                                          have H := H1
                                          clear H1
                                          obtain rfl := Option.some.inj H
                                          have p176 : 0 ≤ (x69_5 : Int) := of_decide_eq_true (by first | (with_reducible assumption) | assumption)
                                          have q176 : x69_5 < (t173.length : Int) := of_decide_eq_true (by first | (with_reducible assumption) | assumption)
                                          obtain ⟨ad176, e176, hx176_0⟩ := Kd.at_int (Kd.R_reads' HO_67.out).2.2 x69_5 p176 q176
                                          cases e176
                                          replace p176 := eq_true p176
                                          replace q176 := eq_true q176
                                          go_wp2_with (first | (go_at_call 6; (with_reducible refine (laws_inside.calls k5 _ _ l0 (rd t173 x69_5) true _ ?side1 ?side2 A35.out).mono ?_); (case side1 => repeat (first | exact (Kd.C_below HR0.out HB.out) | (with_reducible refine Kd.C_alloc ?_ _) | (with_reducible refine Kd.C_drewN ?_ _) | (with_reducible refine Kd.C_drew ?_))); (case side2 => exact HC0.out); rintro e w' ⟨rfl, ⟨nd, rfl⟩⟩; (try first | exact ⟨rfl, _, World.drewN_drewN _ _ _⟩ | exact ⟨rfl, _, Eq.trans (World.drewN_drewN _ _ _) (congrArg (World.drewN _) (Nat.add_assoc _ _ _))⟩)) | (go_at_call 6; (with_reducible refine (laws_inside.calls k5 _ _ l1 (rd t173 x69_5) false _ ?side1 ?side2 A37.out).mono ?_); (case side1 => repeat (first | exact (Kd.C_below HR1.out (by repeat (first | (with_reducible first | exact HB.out | apply below_alloc | apply pw_below_drewN | apply below_drew1) | exact HB.out))) | (with_reducible refine Kd.C_alloc ?_ _) | (with_reducible refine Kd.C_drewN ?_ _) | (with_reducible refine Kd.C_drew ?_))); (case side2 => exact HC1.out); rintro e w' ⟨rfl, ⟨nd, rfl⟩⟩; (try first | exact ⟨rfl, _, World.drewN_drewN _ _ _⟩ | exact ⟨rfl, _, Eq.trans (World.drewN_drewN _ _ _) (congrArg (World.drewN _) (Nat.add_assoc _ _ _))⟩)))
                                          repeat (go_quiet (first | (go_at_call 6; (with_reducible refine (laws_inside.calls k5 _ _ l0 (rd t173 x69_5) true _ ?side1 ?side2 A35.out).mono ?_); (case side1 => repeat (first | exact (Kd.C_below HR0.out HB.out) | (with_reducible refine Kd.C_alloc ?_ _) | (with_reducible refine Kd.C_drewN ?_ _) | (with_reducible refine Kd.C_drew ?_))); (case side2 => exact HC0.out); rintro e w' ⟨rfl, ⟨nd, rfl⟩⟩; (try first | exact ⟨rfl, _, World.drewN_drewN _ _ _⟩ | exact ⟨rfl, _, Eq.trans (World.drewN_drewN _ _ _) (congrArg (World.drewN _) (Nat.add_assoc _ _ _))⟩)) | (go_at_call 6; (with_reducible refine (laws_inside.calls k5 _ _ l1 (rd t173 x69_5) false _ ?side1 ?side2 A37.out).mono ?_); (case side1 => repeat (first | exact (Kd.C_below HR1.out (by repeat (first | (with_reducible first | exact HB.out | apply below_alloc | apply pw_below_drewN | apply below_drew1) | exact HB.out))) | (with_reducible refine Kd.C_alloc ?_ _) | (with_reducible refine Kd.C_drewN ?_ _) | (with_reducible refine Kd.C_drew ?_))); (case side2 => exact HC1.out); rintro e w' ⟨rfl, ⟨nd, rfl⟩⟩; (try first | exact ⟨rfl, _, World.drewN_drewN _ _ _⟩ | exact ⟨rfl, _, Eq.trans (World.drewN_drewN _ _ _) (congrArg (World.drewN _) (Nat.add_assoc _ _ _))⟩))); try go_wp2_with (first | (go_at_call 6; (with_reducible refine (laws_inside.calls k5 _ _ l0 (rd t173 x69_5) true _ ?side1 ?side2 A35.out).mono ?_); (case side1 => repeat (first | exact (Kd.C_below HR0.out HB.out) | (with_reducible refine Kd.C_alloc ?_ _) | (with_reducible refine Kd.C_drewN ?_ _) | (with_reducible refine Kd.C_drew ?_))); (case side2 => exact HC0.out); rintro e w' ⟨rfl, ⟨nd, rfl⟩⟩; (try first | exact ⟨rfl, _, World.drewN_drewN _ _ _⟩ | exact ⟨rfl, _, Eq.trans (World.drewN_drewN _ _ _) (congrArg (World.drewN _) (Nat.add_assoc _ _ _))⟩)) | (go_at_call 6; (with_reducible refine (laws_inside.calls k5 _ _ l1 (rd t173 x69_5) false _ ?side1 ?side2 A37.out).mono ?_); (case side1 => repeat (first | exact (Kd.C_below HR1.out (by repeat (first | (with_reducible first | exact HB.out | apply below_alloc | apply pw_below_drewN | apply below_drew1) | exact HB.out))) | (with_reducible refine Kd.C_alloc ?_ _) | (with_reducible refine Kd.C_drewN ?_ _) | (with_reducible refine Kd.C_drew ?_))); (case side2 => exact HC1.out); rintro e w' ⟨rfl, ⟨nd, rfl⟩⟩; (try first | exact ⟨rfl, _, World.drewN_drewN _ _ _⟩ | exact ⟨rfl, _, Eq.trans (World.drewN_drewN _ _ _) (congrArg (World.drewN _) (Nat.add_assoc _ _ _))⟩))))
                                          go_ret
                                          exact ⟨by first | rfl | (simp [errW_none, errW_some] <;> rfl) | (simp [*, errW_none, errW_some] <;> rfl), by repeat (first | (with_reducible first | exact HB.out | apply below_alloc | apply pw_below_drewN | apply below_drew1) | exact HB.out)⟩
                                      · replace c36 := Bool.eq_false_iff.mpr c36
                                        subst c36
                                        have H1 : (some false) = some r := by rw [if_neg (show ¬ (false = true) by decide)] at H; exact H
                                        clear H
                                        have H := H1
                                        clear H1
                                        obtain rfl := Option.some.inj H
                                        have p176 : 0 ≤ (x69_5 : Int) := of_decide_eq_true (by first | (with_reducible assumption) | assumption)
                                        have q176 : x69_5 < (t173.length : Int) := of_decide_eq_true (by first | (with_reducible assumption) | assumption)
                                        obtain ⟨ad176, e176, hx176_0⟩ := Kd.at_int (Kd.R_reads' HO_67.out).2.2 x69_5 p176 q176
                                        cases e176
                                        replace p176 := eq_true p176
                                        replace q176 := eq_true q176
                                        go_wp2_with (first | (go_at_call 6; (with_reducible refine (laws_inside.calls k5 _ _ l0 (rd t173 x69_5) false _ ?side1 ?side2 A35.out).mono ?_); (case side1 => repeat (first | exact (Kd.C_below HR0.out HB.out) | (with_reducible refine Kd.C_alloc ?_ _) | (with_reducible refine Kd.C_drewN ?_ _) | (with_reducible refine Kd.C_drew ?_))); (case side2 => exact HC0.out); rintro e w' ⟨rfl, ⟨nd, rfl⟩⟩; (try first | exact ⟨rfl, _, World.drewN_drewN _ _ _⟩ | exact ⟨rfl, _, Eq.trans (World.drewN_drewN _ _ _) (congrArg (World.drewN _) (Nat.add_assoc _ _ _))⟩)))
                                        repeat (go_quiet (first | (go_at_call 6; (with_reducible refine (laws_inside.calls k5 _ _ l0 (rd t173 x69_5) false _ ?side1 ?side2 A35.out).mono ?_); (case side1 => repeat (first | exact (Kd.C_below HR0.out HB.out) | (with_reducible refine Kd.C_alloc ?_ _) | (with_reducible refine Kd.C_drewN ?_ _) | (with_reducible refine Kd.C_drew ?_))); (case side2 => exact HC0.out); rintro e w' ⟨rfl, ⟨nd, rfl⟩⟩; (try first | exact ⟨rfl, _, World.drewN_drewN _ _ _⟩ | exact ⟨rfl, _, Eq.trans (World.drewN_drewN _ _ _) (congrArg (World.drewN _) (Nat.add_assoc _ _ _))⟩))); try go_wp2_with (first | (go_at_call 6; (with_reducible refine (laws_inside.calls k5 _ _ l0 (rd t173 x69_5) false _ ?side1 ?side2 A35.out).mono ?_); (case side1 => repeat (first | exact (Kd.C_below HR0.out HB.out) | (with_reducible refine Kd.C_alloc ?_ _) | (with_reducible refine Kd.C_drewN ?_ _) | (with_reducible refine Kd.C_drew ?_))); (case side2 => exact HC0.out); rintro e w' ⟨rfl, ⟨nd, rfl⟩⟩; (try first | exact ⟨rfl, _, World.drewN_drewN _ _ _⟩ | exact ⟨rfl, _, Eq.trans (World.drewN_drewN _ _ _) (congrArg (World.drewN _) (Nat.add_assoc _ _ _))⟩))))
                                        go_ret
                                        exact ⟨by first | rfl | (simp [errW_none, errW_some] <;> rfl) | (simp [*, errW_none, errW_some] <;> rfl), by repeat (first | (with_reducible first | exact HB.out | apply below_alloc | apply pw_below_drewN | apply below_drew1) | exact HB.out)⟩
                                    · rw [if_neg c34] at H
                                      exact absurd H (by simp)
                                  · rw [if_neg c33] at H
                                    exact absurd H (by simp)
                                · rw [if_neg c32] at H
                                  have c32b0 : decide (x69_5 < (t173.length : Int)) = false := decide_eq_false c32
                                  clear c32
                                  have H' := Aside0.mk H
                                  clear H
                                  go_wp2
                                  repeat (go_quiet (fail); try go_wp2)
                                  go_loopg [100] k5 (fun kq v100 w' => ∃ (x100_6 : Int), v100 = .int .i64 x100_6 ∧ Aside0 (laws_FnPrints.l3 kq l0 l1 x5_4 t173 l0 (l0.length : Int) x100_6 = some r) ∧ Aside0 (kq ≤ k5) ∧ Aside0 (Kd.R (Kd.int .u64) 24 w' w.heap.size (fun _ => True) (.slice Ao31 t173.length co31) t173) ∧ Aside0 (Below w.heap.size w w'))
                                  case atStart => exact ⟨(0), (by first | rfl | (simp; done) | (simp [*]; done)), H', ⟨Nat.le_refl _⟩, ⟨by (with_reducible repeat (first | apply Kd.R_alloc | apply Kd.R_drewN | apply Kd.R_drew)); exact HO_10.out⟩, ⟨by repeat (first | (with_reducible first | exact HB.out | apply below_alloc | apply pw_below_drewN | apply below_drew1) | exact HB.out)⟩⟩
                                  case round =>
                                    clear H'
                                    try clear c1
                                    try clear p1
                                    try clear q1
                                    try clear hx1
                                    try clear c2
                                    try clear p2
                                    try clear c3
                                    try clear c4
                                    try clear c4b0
                                    try clear c4b1
                                    try clear c5
                                    try clear p6
                                    try clear c7
                                    try clear c7b0
                                    try clear c7b1
                                    try clear p16
                                    try clear q16
                                    try clear hx16
                                    try clear c17
                                    try clear c17b0
                                    try clear c17b1
                                    try clear p17
                                    try clear q17
                                    try clear hx17
                                    try clear c18
                                    try clear c19
                                    try clear c19b0
                                    try clear c20
                                    try clear c20b0
                                    try clear c21
                                    try clear c21b0
                                    try clear c22
                                    try clear c24
                                    try clear c24b0
                                    try clear c25
                                    try clear c25b0
                                    try clear c26
                                    try clear c26b0
                                    try clear c27
                                    try clear c32
                                    try clear c32b0
                                    try clear c33
                                    try clear c33b0
                                    try clear c34
                                    try clear c34b0
                                    try clear c36
                                    try clear c38
                                    try clear c39
                                    try clear c39b0
                                    try clear c41
                                    try clear c41b0
                                    try clear c42
                                    try clear c42b0
                                    try clear c43
                                    try clear c43b0
                                    try clear hx169_0
                                    try clear hx171_0
                                    try clear hx176_0
                                    try clear hx179_0
                                    try clear p1
                                    try clear p16
                                    try clear p169
                                    try clear p17
                                    try clear p171
                                    try clear p176
                                    try clear p179
                                    try clear p2
                                    try clear p6
                                    try clear q1
                                    try clear q16
                                    try clear q169
                                    try clear q17
                                    try clear q171
                                    try clear q176
                                    try clear q179
                                    obtain ⟨x100_6, rfl, HA, HK6, HO_10, HB⟩ := hrel
                                    cases gk with
                                    | zero => exact absurd HA.out (by simp [laws_FnPrints.l3])
                                    | succ k6 =>
                                      have H := HA.out
                                      clear HA
                                      simp only [laws_FnPrints.l3] at H
                                      by_cases c44 : x100_6 < (l0.length : Int)
                                      · rw [if_pos c44] at H
                                        have c44b0 : decide (x100_6 < (l0.length : Int)) = true := decide_eq_true c44
                                        clear c44
                                        by_cases c45 : 0 ≤ x100_6
                                        · rw [if_pos c45] at H
                                          have c45b0 : decide (0 ≤ x100_6) = true := decide_eq_true c45
                                          clear c45
                                          by_cases c46 : x100_6 < (l0.length : Int)
                                          · rw [if_pos c46] at H
                                            have c46b0 : decide (x100_6 < (l0.length : Int)) = true := decide_eq_true c46
                                            clear c46
                                            replace H := Option.bind_eq_some_iff.mp H
                                            obtain ⟨t181, A470, H⟩ := H
                                            replace H : (if t181 = true then ((laws_inside.f k6 t173 (rd l0 x100_6)).bind fun t182 => (if t182 = true then (laws_FnPrints.l3 k6 l0 l1 x5_4 t173 l0 (l0.length : Int) (wrap64 (x100_6 + 1))) else (some false))) else (laws_FnPrints.l3 k6 l0 l1 x5_4 t173 l0 (l0.length : Int) (wrap64 (x100_6 + 1)))) = some r := H
                                            have A47 := Aside0.mk A470
                                            clear A470
                                            by_cases c48 : t181 = true
                                            · subst c48
                                              have H1 : ((laws_inside.f k6 t173 (rd l0 x100_6)).bind fun t182 => (if t182 = true then (laws_FnPrints.l3 k6 l0 l1 x5_4 t173 l0 (l0.length : Int) (wrap64 (x100_6 + 1))) else (some false))) = some r := by rw [if_pos rfl] at H; exact H
                                              clear H
                                              have H := H1
                                              clear H1
                                              replace H := Option.bind_eq_some_iff.mp H
                                              obtain ⟨t182, A490, H⟩ := H
                                              replace H : (if t182 = true then (laws_FnPrints.l3 k6 l0 l1 x5_4 t173 l0 (l0.length : Int) (wrap64 (x100_6 + 1))) else (some false)) = some r := H
                                              have A49 := Aside0.mk A490
                                              clear A490
                                              by_cases c50 : t182 = true
                                              · subst c50
                                                have H1 : (laws_FnPrints.l3 k6 l0 l1 x5_4 t173 l0 (l0.length : Int) (wrap64 (x100_6 + 1))) = some r := by rw [if_pos rfl] at H; exact H
                                                clear H
                                                have H := H1
                                                clear H1
                                                have H' := Aside0.mk H
                                                clear H
                                                have p180 : 0 ≤ (x100_6 : Int) := of_decide_eq_true (by first | (with_reducible assumption) | assumption)
                                                have q180 : x100_6 < (l0.length : Int) := of_decide_eq_true (by first | (with_reducible assumption) | assumption)
                                                obtain ⟨ad180, e180, hx180_0⟩ := Kd.at_int HR0.out x100_6 p180 q180
                                                cases e180
                                                replace hx180_0 := (HB.out.cell (World.block_lt_of_cell? w _ hx180_0)).trans hx180_0
                                                replace p180 := eq_true p180
                                                replace q180 := eq_true q180
                                                go_wp2_with (first | (go_at_call 6; (with_reducible refine (laws_inside.calls k6 _ _ l1 (rd l0 x100_6) true _ ?side1 ?side2 A47.out).mono ?_); (case side1 => repeat (first | exact (Kd.C_below HR1.out HB.out) | (with_reducible refine Kd.C_alloc ?_ _) | (with_reducible refine Kd.C_drewN ?_ _) | (with_reducible refine Kd.C_drew ?_))); (case side2 => exact HC1.out); rintro e w' ⟨rfl, ⟨nd, rfl⟩⟩; (try first | exact ⟨rfl, _, World.drewN_drewN _ _ _⟩ | exact ⟨rfl, _, Eq.trans (World.drewN_drewN _ _ _) (congrArg (World.drewN _) (Nat.add_assoc _ _ _))⟩)) | (go_at_call 6; (with_reducible refine (laws_inside.calls k6 _ _ t173 (rd l0 x100_6) true _ ?side1 ?side2 A49.out).mono ?_); (case side1 => repeat (first | exact (Kd.R_reads' HO_10.out).2.2 | (with_reducible refine Kd.C_alloc ?_ _) | (with_reducible refine Kd.C_drewN ?_ _) | (with_reducible refine Kd.C_drew ?_))); (case side2 => exact (Kd.R_reads' HO_10.out).2.1); rintro e w' ⟨rfl, ⟨nd, rfl⟩⟩; (try first | exact ⟨rfl, _, World.drewN_drewN _ _ _⟩ | exact ⟨rfl, _, Eq.trans (World.drewN_drewN _ _ _) (congrArg (World.drewN _) (Nat.add_assoc _ _ _))⟩)))
                                                repeat (go_quiet (first | (go_at_call 6; (with_reducible refine (laws_inside.calls k6 _ _ l1 (rd l0 x100_6) true _ ?side1 ?side2 A47.out).mono ?_); (case side1 => repeat (first | exact (Kd.C_below HR1.out HB.out) | (with_reducible refine Kd.C_alloc ?_ _) | (with_reducible refine Kd.C_drewN ?_ _) | (with_reducible refine Kd.C_drew ?_))); (case side2 => exact HC1.out); rintro e w' ⟨rfl, ⟨nd, rfl⟩⟩; (try first | exact ⟨rfl, _, World.drewN_drewN _ _ _⟩ | exact ⟨rfl, _, Eq.trans (World.drewN_drewN _ _ _) (congrArg (World.drewN _) (Nat.add_assoc _ _ _))⟩)) | (go_at_call 6; (with_reducible refine (laws_inside.calls k6 _ _ t173 (rd l0 x100_6) true _ ?side1 ?side2 A49.out).mono ?_); (case side1 => repeat (first | exact (Kd.R_reads' HO_10.out).2.2 | (with_reducible refine Kd.C_alloc ?_ _) | (with_reducible refine Kd.C_drewN ?_ _) | (with_reducible refine Kd.C_drew ?_))); (case side2 => exact (Kd.R_reads' HO_10.out).2.1); rintro e w' ⟨rfl, ⟨nd, rfl⟩⟩; (try first | exact ⟨rfl, _, World.drewN_drewN _ _ _⟩ | exact ⟨rfl, _, Eq.trans (World.drewN_drewN _ _ _) (congrArg (World.drewN _) (Nat.add_assoc _ _ _))⟩))); try go_wp2_with (first | (go_at_call 6; (with_reducible refine (laws_inside.calls k6 _ _ l1 (rd l0 x100_6) true _ ?side1 ?side2 A47.out).mono ?_); (case side1 => repeat (first | exact (Kd.C_below HR1.out HB.out) | (with_reducible refine Kd.C_alloc ?_ _) | (with_reducible refine Kd.C_drewN ?_ _) | (with_reducible refine Kd.C_drew ?_))); (case side2 => exact HC1.out); rintro e w' ⟨rfl, ⟨nd, rfl⟩⟩; (try first | exact ⟨rfl, _, World.drewN_drewN _ _ _⟩ | exact ⟨rfl, _, Eq.trans (World.drewN_drewN _ _ _) (congrArg (World.drewN _) (Nat.add_assoc _ _ _))⟩)) | (go_at_call 6; (with_reducible refine (laws_inside.calls k6 _ _ t173 (rd l0 x100_6) true _ ?side1 ?side2 A49.out).mono ?_); (case side1 => repeat (first | exact (Kd.R_reads' HO_10.out).2.2 | (with_reducible refine Kd.C_alloc ?_ _) | (with_reducible refine Kd.C_drewN ?_ _) | (with_reducible refine Kd.C_drew ?_))); (case side2 => exact (Kd.R_reads' HO_10.out).2.1); rintro e w' ⟨rfl, ⟨nd, rfl⟩⟩; (try first | exact ⟨rfl, _, World.drewN_drewN _ _ _⟩ | exact ⟨rfl, _, Eq.trans (World.drewN_drewN _ _ _) (congrArg (World.drewN _) (Nat.add_assoc _ _ _))⟩))))
                                                go_roundg k6
                                                case measure => have := HJ2.out; have := HJ7.out; have := HK3.out; have := HK4.out; have := HK5.out; have := HK6.out; omega
                                                case rel => exact ⟨(wrap64 (x100_6 + 1)), (by first | rfl | (simp; done) | (simp [*]; done)), H', ⟨by have := HJ2.out; have := HJ7.out; have := HK3.out; have := HK4.out; have := HK5.out; have := HK6.out; omega⟩, ⟨by (with_reducible repeat (first | apply Kd.R_alloc | apply Kd.R_drewN | apply Kd.R_drew)); exact HO_10.out⟩, ⟨by repeat (first | (with_reducible first | exact HB.out | apply below_alloc | apply pw_below_drewN | apply below_drew1) | exact HB.out)⟩⟩
                                              · replace c50 := Bool.eq_false_iff.mpr c50
                                                subst c50
                                                have H1 : (some false) = some r := by rw [if_neg (show ¬ (false = true) by decide)] at H; exact H
                                                clear H
                                                have H := H1
                                                clear H1
                                                obtain rfl := Option.some.inj H
                                                have p180 : 0 ≤ (x100_6 : Int) := of_decide_eq_true (by first | (with_reducible assumption) | assumption)
                                                have q180 : x100_6 < (l0.length : Int) := of_decide_eq_true (by first | (with_reducible assumption) | assumption)
                                                obtain ⟨ad180, e180, hx180_0⟩ := Kd.at_int HR0.out x100_6 p180 q180
                                                cases e180
                                                replace hx180_0 := (HB.out.cell (World.block_lt_of_cell? w _ hx180_0)).trans hx180_0
                                                replace p180 := eq_true p180
                                                replace q180 := eq_true q180
                                                go_wp2_with (first | (go_at_call 6; (with_reducible refine (laws_inside.calls k6 _ _ l1 (rd l0 x100_6) true _ ?side1 ?side2 A47.out).mono ?_); (case side1 => repeat (first | exact (Kd.C_below HR1.out HB.out) | (with_reducible refine Kd.C_alloc ?_ _) | (with_reducible refine Kd.C_drewN ?_ _) | (with_reducible refine Kd.C_drew ?_))); (case side2 => exact HC1.out); rintro e w' ⟨rfl, ⟨nd, rfl⟩⟩; (try first | exact ⟨rfl, _, World.drewN_drewN _ _ _⟩ | exact ⟨rfl, _, Eq.trans (World.drewN_drewN _ _ _) (congrArg (World.drewN _) (Nat.add_assoc _ _ _))⟩)) | (go_at_call 6; (with_reducible refine (laws_inside.calls k6 _ _ t173 (rd l0 x100_6) false _ ?side1 ?side2 A49.out).mono ?_); (case side1 => repeat (first | exact (Kd.R_reads' HO_10.out).2.2 | (with_reducible refine Kd.C_alloc ?_ _) | (with_reducible refine Kd.C_drewN ?_ _) | (with_reducible refine Kd.C_drew ?_))); (case side2 => exact (Kd.R_reads' HO_10.out).2.1); rintro e w' ⟨rfl, ⟨nd, rfl⟩⟩; (try first | exact ⟨rfl, _, World.drewN_drewN _ _ _⟩ | exact ⟨rfl, _, Eq.trans (World.drewN_drewN _ _ _) (congrArg (World.drewN _) (Nat.add_assoc _ _ _))⟩)))
                                                repeat (go_quiet (first | (go_at_call 6; (with_reducible refine (laws_inside.calls k6 _ _ l1 (rd l0 x100_6) true _ ?side1 ?side2 A47.out).mono ?_); (case side1 => repeat (first | exact (Kd.C_below HR1.out HB.out) | (with_reducible refine Kd.C_alloc ?_ _) | (with_reducible refine Kd.C_drewN ?_ _) | (with_reducible refine Kd.C_drew ?_))); (case side2 => exact HC1.out); rintro e w' ⟨rfl, ⟨nd, rfl⟩⟩; (try first | exact ⟨rfl, _, World.drewN_drewN _ _ _⟩ | exact ⟨rfl, _, Eq.trans (World.drewN_drewN _ _ _) (congrArg (World.drewN _) (Nat.add_assoc _ _ _))⟩)) | (go_at_call 6; (with_reducible refine (laws_inside.calls k6 _ _ t173 (rd l0 x100_6) false _ ?side1 ?side2 A49.out).mono ?_); (case side1 => repeat (first | exact (Kd.R_reads' HO_10.out).2.2 | (with_reducible refine Kd.C_alloc ?_ _) | (with_reducible refine Kd.C_drewN ?_ _) | (with_reducible refine Kd.C_drew ?_))); (case side2 => exact (Kd.R_reads' HO_10.out).2.1); rintro e w' ⟨rfl, ⟨nd, rfl⟩⟩; (try first | exact ⟨rfl, _, World.drewN_drewN _ _ _⟩ | exact ⟨rfl, _, Eq.trans (World.drewN_drewN _ _ _) (congrArg (World.drewN _) (Nat.add_assoc _ _ _))⟩))); try go_wp2_with (first | (go_at_call 6; (with_reducible refine (laws_inside.calls k6 _ _ l1 (rd l0 x100_6) true _ ?side1 ?side2 A47.out).mono ?_); (case side1 => repeat (first | exact (Kd.C_below HR1.out HB.out) | (with_reducible refine Kd.C_alloc ?_ _) | (with_reducible refine Kd.C_drewN ?_ _) | (with_reducible refine Kd.C_drew ?_))); (case side2 => exact HC1.out); rintro e w' ⟨rfl, ⟨nd, rfl⟩⟩; (try first | exact ⟨rfl, _, World.drewN_drewN _ _ _⟩ | exact ⟨rfl, _, Eq.trans (World.drewN_drewN _ _ _) (congrArg (World.drewN _) (Nat.add_assoc _ _ _))⟩)) | (go_at_call 6; (with_reducible refine (laws_inside.calls k6 _ _ t173 (rd l0 x100_6) false _ ?side1 ?side2 A49.out).mono ?_); (case side1 => repeat (first | exact (Kd.R_reads' HO_10.out).2.2 | (with_reducible refine Kd.C_alloc ?_ _) | (with_reducible refine Kd.C_drewN ?_ _) | (with_reducible refine Kd.C_drew ?_))); (case side2 => exact (Kd.R_reads' HO_10.out).2.1); rintro e w' ⟨rfl, ⟨nd, rfl⟩⟩; (try first | exact ⟨rfl, _, World.drewN_drewN _ _ _⟩ | exact ⟨rfl, _, Eq.trans (World.drewN_drewN _ _ _) (congrArg (World.drewN _) (Nat.add_assoc _ _ _))⟩))))
                                                go_ret
                                                exact ⟨by first | rfl | (simp [errW_none, errW_some] <;> rfl) | (simp [*, errW_none, errW_some] <;> rfl), by repeat (first | (with_reducible first | exact HB.out | apply below_alloc | apply pw_below_drewN | apply below_drew1) | exact HB.out)⟩
                                            · replace c48 := Bool.eq_false_iff.mpr c48
                                              subst c48
                                              have H1 : (laws_FnPrints.l3 k6 l0 l1 x5_4 t173 l0 (l0.length : Int) (wrap64 (x100_6 + 1))) = some r := by rw [if_neg (show ¬ (false = true) by decide)] at H; exact H
                                              clear H
                                              have H := H1
                                              clear H1
                                              have H' := Aside0.mk H
                                              clear H
                                              have p180 : 0 ≤ (x100_6 : Int) := of_decide_eq_true (by first | (with_reducible assumption) | assumption)
                                              have q180 : x100_6 < (l0.length : Int) := of_decide_eq_true (by first | (with_reducible assumption) | assumption)
                                              obtain ⟨ad180, e180, hx180_0⟩ := Kd.at_int HR0.out x100_6 p180 q180
                                              cases e180
                                              replace hx180_0 := (HB.out.cell (World.block_lt_of_cell? w _ hx180_0)).trans hx180_0
                                              replace p180 := eq_true p180
                                              replace q180 := eq_true q180
                                              go_wp2_with (first | (go_at_call 6; (with_reducible refine (laws_inside.calls k6 _ _ l1 (rd l0 x100_6) false _ ?side1 ?side2 A47.out).mono ?_); (case side1 => repeat (first | exact (Kd.C_below HR1.out HB.out) | (with_reducible refine Kd.C_alloc ?_ _) | (with_reducible refine Kd.C_drewN ?_ _) | (with_reducible refine Kd.C_drew ?_))); (case side2 => exact HC1.out); rintro e w' ⟨rfl, ⟨nd, rfl⟩⟩; (try first | exact ⟨rfl, _, World.drewN_drewN _ _ _⟩ | exact ⟨rfl, _, Eq.trans (World.drewN_drewN _ _ _) (congrArg (World.drewN _) (Nat.add_assoc _ _ _))⟩)))
                                              repeat (go_quiet (first | (go_at_call 6; (with_reducible refine (laws_inside.calls k6 _ _ l1 (rd l0 x100_6) false _ ?side1 ?side2 A47.out).mono ?_); (case side1 => repeat (first | exact (Kd.C_below HR1.out HB.out) | (with_reducible refine Kd.C_alloc ?_ _) | (with_reducible refine Kd.C_drewN ?_ _) | (with_reducible refine Kd.C_drew ?_))); (case side2 => exact HC1.out); rintro e w' ⟨rfl, ⟨nd, rfl⟩⟩; (try first | exact ⟨rfl, _, World.drewN_drewN _ _ _⟩ | exact ⟨rfl, _, Eq.trans (World.drewN_drewN _ _ _) (congrArg (World.drewN _) (Nat.add_assoc _ _ _))⟩))); try go_wp2_with (first | (go_at_call 6; (with_reducible refine (laws_inside.calls k6 _ _ l1 (rd l0 x100_6) false _ ?side1 ?side2 A47.out).mono ?_); (case side1 => repeat (first | exact (Kd.C_below HR1.out HB.out) | (with_reducible refine Kd.C_alloc ?_ _) | (with_reducible refine Kd.C_drewN ?_ _) | (with_reducible refine Kd.C_drew ?_))); (case side2 => exact HC1.out); rintro e w' ⟨rfl, ⟨nd, rfl⟩⟩; (try first | exact ⟨rfl, _, World.drewN_drewN _ _ _⟩ | exact ⟨rfl, _, Eq.trans (World.drewN_drewN _ _ _) (congrArg (World.drewN _) (Nat.add_assoc _ _ _))⟩))))
                                              go_roundg k6
                                              case measure => have := HJ2.out; have := HJ7.out; have := HK3.out; have := HK4.out; have := HK5.out; have := HK6.out; omega
                                              case rel => exact ⟨(wrap64 (x100_6 + 1)), (by first | rfl | (simp; done) | (simp [*]; done)), H', ⟨by have := HJ2.out; have := HJ7.out; have := HK3.out; have := HK4.out; have := HK5.out; have := HK6.out; omega⟩, ⟨by (with_reducible repeat (first | apply Kd.R_alloc | apply Kd.R_drewN | apply Kd.R_drew)); exact HO_10.out⟩, ⟨by repeat (first | (with_reducible first | exact HB.out | apply below_alloc | apply pw_below_drewN | apply below_drew1) | exact HB.out)⟩⟩
                                          · rw [if_neg c46] at H
                                            exact absurd H (by simp)
                                        · rw [if_neg c45] at H
                                          exact absurd H (by simp)
                                      · rw [if_neg c44] at H
                                        have c44b0 : decide (x100_6 < (l0.length : Int)) = false := decide_eq_false c44
                                        clear c44
                                        replace H := Option.bind_eq_some_iff.mp H
                                        obtain ⟨t183, A510, H⟩ := H
                                        replace H : (laws_FnPrints.l4 k6 l0 l1 x5_4 t173 t183 (t173.length : Int) 0) = some r := H
                                        have A51 := Aside0.mk A510
                                        clear A510
                                        have H' := Aside0.mk H
                                        clear H
                                        go_wp2_with (first | (go_at_call 7; (with_reducible refine (spec_PrintsBoth.calls k6 _ _ l0 _ _ l1 t183 _ ?side1 ?side2 ?side3 ?side4 A51.out).mono ?_); (case side1 => repeat (first | exact (Kd.C_below HR0.out HB.out) | (with_reducible refine Kd.C_alloc ?_ _) | (with_reducible refine Kd.C_drewN ?_ _) | (with_reducible refine Kd.C_drew ?_))); (case side2 => exact HC0.out); (case side3 => repeat (first | exact (Kd.C_below HR1.out HB.out) | (with_reducible refine Kd.C_alloc ?_ _) | (with_reducible refine Kd.C_drewN ?_ _) | (with_reducible refine Kd.C_drew ?_))); (case side4 => exact HC1.out); rintro e w52 ⟨v184, rfl, ho0, hb⟩; have n0_ := Aside0.mk (Kd.R_elder' (by (with_reducible repeat (first | apply Kd.R_alloc | apply Kd.R_drewN | apply Kd.R_drew)); exact HO_10.out) (Kd.R_base ho0) hb); have n1_ := Aside0.mk (Kd.R_lower (Kd.R_new' ho0 (Kd.R_lt (by (with_reducible repeat (first | apply Kd.R_alloc | apply Kd.R_drewN | apply Kd.R_drew)); exact HO_10.out))) (below_size (by repeat (first | (with_reducible first | exact HB.out | apply below_alloc | apply pw_below_drewN | apply below_drew1) | exact HB.out)))); have n2_ := Aside0.mk (below_step (by repeat (first | (with_reducible first | exact HB.out | apply below_alloc | apply pw_below_drewN | apply below_drew1) | exact HB.out)) hb); clear HO_10; clear HB; have HO_10 := n0_; have HO185 := n1_; have HB := n2_; clear n0_ n1_ n2_; (try clear hb); (try clear hb2); (try clear hk); (try clear hi); (try clear ho0)))
                                        repeat (go_quiet (first | (go_at_call 7; (with_reducible refine (spec_PrintsBoth.calls k6 _ _ l0 _ _ l1 t183 _ ?side1 ?side2 ?side3 ?side4 A51.out).mono ?_); (case side1 => repeat (first | exact (Kd.C_below HR0.out HB.out) | (with_reducible refine Kd.C_alloc ?_ _) | (with_reducible refine Kd.C_drewN ?_ _) | (with_reducible refine Kd.C_drew ?_))); (case side2 => exact HC0.out); (case side3 => repeat (first | exact (Kd.C_below HR1.out HB.out) | (with_reducible refine Kd.C_alloc ?_ _) | (with_reducible refine Kd.C_drewN ?_ _) | (with_reducible refine Kd.C_drew ?_))); (case side4 => exact HC1.out); rintro e w52 ⟨v184, rfl, ho0, hb⟩; have n0_ := Aside0.mk (Kd.R_elder' (by (with_reducible repeat (first | apply Kd.R_alloc | apply Kd.R_drewN | apply Kd.R_drew)); exact HO_10.out) (Kd.R_base ho0) hb); have n1_ := Aside0.mk (Kd.R_lower (Kd.R_new' ho0 (Kd.R_lt (by (with_reducible repeat (first | apply Kd.R_alloc | apply Kd.R_drewN | apply Kd.R_drew)); exact HO_10.out))) (below_size (by repeat (first | (with_reducible first | exact HB.out | apply below_alloc | apply pw_below_drewN | apply below_drew1) | exact HB.out)))); have n2_ := Aside0.mk (below_step (by repeat (first | (with_reducible first | exact HB.out | apply below_alloc | apply pw_below_drewN | apply below_drew1) | exact HB.out)) hb); clear HO_10; clear HB; have HO_10 := n0_; have HO185 := n1_; have HB := n2_; clear n0_ n1_ n2_; (try clear hb); (try clear hb2); (try clear hk); (try clear hi); (try clear ho0))); try go_wp2_with (first | (go_at_call 7; (with_reducible refine (spec_PrintsBoth.calls k6 _ _ l0 _ _ l1 t183 _ ?side1 ?side2 ?side3 ?side4 A51.out).mono ?_); (case side1 => repeat (first | exact (Kd.C_below HR0.out HB.out) | (with_reducible refine Kd.C_alloc ?_ _) | (with_reducible refine Kd.C_drewN ?_ _) | (with_reducible refine Kd.C_drew ?_))); (case side2 => exact HC0.out); (case side3 => repeat (first | exact (Kd.C_below HR1.out HB.out) | (with_reducible refine Kd.C_alloc ?_ _) | (with_reducible refine Kd.C_drewN ?_ _) | (with_reducible refine Kd.C_drew ?_))); (case side4 => exact HC1.out); rintro e w52 ⟨v184, rfl, ho0, hb⟩; have n0_ := Aside0.mk (Kd.R_elder' (by (with_reducible repeat (first | apply Kd.R_alloc | apply Kd.R_drewN | apply Kd.R_drew)); exact HO_10.out) (Kd.R_base ho0) hb); have n1_ := Aside0.mk (Kd.R_lower (Kd.R_new' ho0 (Kd.R_lt (by (with_reducible repeat (first | apply Kd.R_alloc | apply Kd.R_drewN | apply Kd.R_drew)); exact HO_10.out))) (below_size (by repeat (first | (with_reducible first | exact HB.out | apply below_alloc | apply pw_below_drewN | apply below_drew1) | exact HB.out)))); have n2_ := Aside0.mk (below_step (by repeat (first | (with_reducible first | exact HB.out | apply below_alloc | apply pw_below_drewN | apply below_drew1) | exact HB.out)) hb); clear HO_10; clear HB; have HO_10 := n0_; have HO185 := n1_; have HB := n2_; clear n0_ n1_ n2_; (try clear hb); (try clear hb2); (try clear hk); (try clear hi); (try clear ho0))))
                                        go_loopg [119] k6 (fun kq v119 w' => ∃ (x119_7 : Int), v119 = .int .i64 x119_7 ∧ Aside0 (laws_FnPrints.l4 kq l0 l1 x5_4 t173 t183 (t173.length : Int) x119_7 = some r) ∧ Aside0 (kq ≤ k6) ∧ Aside0 (Kd.R (Kd.int .u64) 24 w' w.heap.size (fun k_ => some k_ ≠ (v184 : Value).ownBlock) (.slice Ao31 t173.length co31) t173) ∧ Aside0 (Kd.R (Kd.int .u64) 24 w' w.heap.size (fun k_ => some k_ ≠ ((.slice Ao31 t173.length co31) : Value).ownBlock) v184 t183) ∧ Aside0 (Below w.heap.size w w'))
                                        case atStart => exact ⟨(0), (by first | rfl | (simp; done) | (simp [*]; done)), H', ⟨Nat.le_refl _⟩, ⟨by (with_reducible repeat (first | apply Kd.R_alloc | apply Kd.R_drewN | apply Kd.R_drew)); exact Kd.R_mono HO_10.out (fun _ hk => hk.2)⟩, ⟨by (with_reducible repeat (first | apply Kd.R_alloc | apply Kd.R_drewN | apply Kd.R_drew)); exact Kd.R_mono HO185.out (fun _ hk => hk.2)⟩, ⟨by repeat (first | (with_reducible first | exact HB.out | apply below_alloc | apply pw_below_drewN | apply below_drew1) | exact HB.out)⟩⟩
                                        case round =>
                                          clear H'
                                          try clear c1
                                          try clear p1
                                          try clear q1
                                          try clear hx1
                                          try clear c2
                                          try clear p2
                                          try clear c3
                                          try clear c4
                                          try clear c4b0
                                          try clear c4b1
                                          try clear c5
                                          try clear p6
                                          try clear c7
                                          try clear c7b0
                                          try clear c7b1
                                          try clear p16
                                          try clear q16
                                          try clear hx16
                                          try clear c17
                                          try clear c17b0
                                          try clear c17b1
                                          try clear p17
                                          try clear q17
                                          try clear hx17
                                          try clear c18
                                          try clear p18
                                          try clear q18
                                          try clear hx18
                                          try clear c19
                                          try clear c19b0
                                          try clear c20
                                          try clear c20b0
                                          try clear c21
                                          try clear c21b0
                                          try clear c22
                                          try clear c24
                                          try clear c24b0
                                          try clear c25
                                          try clear c25b0
                                          try clear c26
                                          try clear c26b0
                                          try clear c27
                                          try clear c32
                                          try clear c32b0
                                          try clear c33
                                          try clear c33b0
                                          try clear c34
                                          try clear c34b0
                                          try clear c36
                                          try clear c38
                                          try clear c39
                                          try clear c39b0
                                          try clear c41
                                          try clear c41b0
                                          try clear c42
                                          try clear c42b0
                                          try clear c43
                                          try clear c43b0
                                          try clear c44
                                          try clear c44b0
                                          try clear c45
                                          try clear c45b0
                                          try clear c46
                                          try clear c46b0
                                          try clear c48
                                          try clear c50
                                          try clear hx169_0
                                          try clear hx171_0
                                          try clear hx176_0
                                          try clear hx179_0
                                          try clear hx180_0
                                          try clear p1
                                          try clear p16
                                          try clear p169
                                          try clear p17
                                          try clear p171
                                          try clear p176
                                          try clear p179
                                          try clear p180
                                          try clear p2
                                          try clear p6
                                          try clear q1
                                          try clear q16
                                          try clear q169
                                          try clear q17
                                          try clear q171
                                          try clear q176
                                          try clear q179
                                          try clear q180
                                          obtain ⟨x119_7, rfl, HA, HK7, HO_10, HO_15, HB⟩ := hrel
                                          cases gk with
                                          | zero => exact absurd HA.out (by simp [laws_FnPrints.l4])
                                          | succ k7 =>
                                            have H := HA.out
                                            clear HA
                                            simp only [laws_FnPrints.l4] at H
                                            by_cases c53 : x119_7 < (t173.length : Int)
                                            · rw [if_pos c53] at H
                                              have c53b0 : decide (x119_7 < (t173.length : Int)) = true := decide_eq_true c53
                                              clear c53
                                              by_cases c54 : (t183.length : Int) = (t173.length : Int)
                                              · rw [if_pos c54] at H
                                                have c54b0 : ((t183.length : Int) == (t173.length : Int)) = true := beq_iff_eq.mpr c54
                                                have c54b1 : ((t183.length : Int) != (t173.length : Int)) = false := bne_eq_false_iff_eq.mpr c54
                                                have c54b2 : (t183.length == t173.length) = true := by first | simpa using c54 | (simp at c54 ⊢; omega)
                                                clear c54
                                                by_cases c55 : 0 ≤ x119_7
                                                · rw [if_pos c55] at H
                                                  have c55b0 : decide (0 ≤ x119_7) = true := decide_eq_true c55
                                                  clear c55
                                                  by_cases c56 : x119_7 < (t183.length : Int)
                                                  · rw [if_pos c56] at H
                                                    have c56b0 : decide (x119_7 < (t183.length : Int)) = true := decide_eq_true c56
                                                    clear c56
                                                    by_cases c57 : x119_7 < (t173.length : Int)
                                                    · rw [if_pos c57] at H
                                                      have c57b0 : decide (x119_7 < (t173.length : Int)) = true := decide_eq_true c57
                                                      clear c57
                                                      by_cases c58 : (rd t183 x119_7) = (rd t173 x119_7)
                                                      · rw [if_pos c58] at H
                                                        have c58b0 : ((rd t183 x119_7) == (rd t173 x119_7)) = true := beq_iff_eq.mpr c58
                                                        have c58b1 : ((rd t183 x119_7) != (rd t173 x119_7)) = false := bne_eq_false_iff_eq.mpr c58
                                                        clear c58
                                                        have H' := Aside0.mk H
                                                        clear H
                                                        obtain ⟨Ao59, co59, eo59⟩ := Kd.R_slice HO_15.out
                                                        subst eo59
                                                        have p186 : 0 ≤ (x119_7 : Int) := of_decide_eq_true (by first | (with_reducible assumption) | assumption)
                                                        have q186 : x119_7 < (t183.length : Int) := of_decide_eq_true (by first | (with_reducible assumption) | assumption)
                                                        obtain ⟨ad186, e186, hx186_0⟩ := Kd.at_int (Kd.R_reads' HO_15.out).2.2 x119_7 p186 q186
                                                        cases e186
                                                        replace p186 := eq_true p186
                                                        replace q186 := eq_true q186
                                                        have p187 : 0 ≤ (x119_7 : Int) := of_decide_eq_true (by first | (with_reducible assumption) | assumption)
                                                        have q187 : x119_7 < (t173.length : Int) := of_decide_eq_true (by first | (with_reducible assumption) | assumption)
                                                        obtain ⟨ad187, e187, hx187_0⟩ := Kd.at_int (Kd.R_reads' HO_10.out).2.2 x119_7 p187 q187
                                                        cases e187
                                                        replace p187 := eq_true p187
                                                        replace q187 := eq_true q187
                                                        go_wp2
                                                        repeat (go_quiet (fail); try go_wp2)
                                                        go_roundg k7
                                                        case measure => have := HJ2.out; have := HJ7.out; have := HK3.out; have := HK4.out; have := HK5.out; have := HK6.out; have := HK7.out; omega
                                                        case rel => exact ⟨(wrap64 (x119_7 + 1)), (by first | rfl | (simp; done) | (simp [*]; done)), H', ⟨by have := HJ2.out; have := HJ7.out; have := HK3.out; have := HK4.out; have := HK5.out; have := HK6.out; have := HK7.out; omega⟩, ⟨by (with_reducible repeat (first | apply Kd.R_alloc | apply Kd.R_drewN | apply Kd.R_drew)); exact HO_10.out⟩, ⟨by (with_reducible repeat (first | apply Kd.R_alloc | apply Kd.R_drewN | apply Kd.R_drew)); exact HO_15.out⟩, ⟨by repeat (first | (with_reducible first | exact HB.out | apply below_alloc | apply pw_below_drewN | apply below_drew1) | exact HB.out)⟩⟩
                                                      · rw [if_neg c58] at H
                                                        have c58b0 : ((rd t183 x119_7) == (rd t173 x119_7)) = false := beq_eq_false_iff_ne.mpr c58
                                                        have c58b1 : ((rd t183 x119_7) != (rd t173 x119_7)) = true := bne_iff_ne.mpr c58
                                                        obtain rfl := Option.some.inj H
                                                        obtain ⟨Ao60, co60, eo60⟩ := Kd.R_slice HO_15.out
                                                        subst eo60
                                                        have p186 : 0 ≤ (x119_7 : Int) := of_decide_eq_true (by first | (with_reducible assumption) | assumption)
                                                        have q186 : x119_7 < (t183.length : Int) := of_decide_eq_true (by first | (with_reducible assumption) | assumption)
                                                        obtain ⟨ad186, e186, hx186_0⟩ := Kd.at_int (Kd.R_reads' HO_15.out).2.2 x119_7 p186 q186
                                                        cases e186
                                                        replace p186 := eq_true p186
                                                        replace q186 := eq_true q186
                                                        have p187 : 0 ≤ (x119_7 : Int) := of_decide_eq_true (by first | (with_reducible assumption) | assumption)
                                                        have q187 : x119_7 < (t173.length : Int) := of_decide_eq_true (by first | (with_reducible assumption) | assumption)
                                                        obtain ⟨ad187, e187, hx187_0⟩ := Kd.at_int (Kd.R_reads' HO_10.out).2.2 x119_7 p187 q187
                                                        cases e187
                                                        replace p187 := eq_true p187
                                                        replace q187 := eq_true q187
                                                        go_wp2
                                                        repeat (go_quiet (fail); try go_wp2)
                                                        go_ret
                                                        exact ⟨by first | rfl | (simp [errW_none, errW_some] <;> rfl) | (simp [*, errW_none, errW_some] <;> rfl), by repeat (first | (with_reducible first | exact HB.out | apply below_alloc | apply pw_below_drewN | apply below_drew1) | exact HB.out)⟩
                                                    · rw [if_neg c57] at H
                                                      exact absurd H (by simp)
                                                  · rw [if_neg c56] at H
                                                    exact absurd H (by simp)
                                                · rw [if_neg c55] at H
                                                  exact absurd H (by simp)
                                              · rw [if_neg c54] at H
                                                have c54b0 : ((t183.length : Int) == (t173.length : Int)) = false := beq_eq_false_iff_ne.mpr c54
                                                have c54b1 : ((t183.length : Int) != (t173.length : Int)) = true := bne_iff_ne.mpr c54
                                                have c54b2 : (t183.length == t173.length) = false := by first | simpa using c54 | (simp at c54 ⊢; omega)
                                                obtain rfl := Option.some.inj H
                                                obtain ⟨Ao61, co61, eo61⟩ := Kd.R_slice HO_15.out
                                                subst eo61
                                                go_wp2
                                                repeat (go_quiet (fail); try go_wp2)
                                                go_ret
                                                exact ⟨by first | rfl | (simp [errW_none, errW_some] <;> rfl) | (simp [*, errW_none, errW_some] <;> rfl), by repeat (first | (with_reducible first | exact HB.out | apply below_alloc | apply pw_below_drewN | apply below_drew1) | exact HB.out)⟩
                                            · rw [if_neg c53] at H
                                              have c53b0 : decide (x119_7 < (t173.length : Int)) = false := decide_eq_false c53
                                              clear c53
                                              replace H := Option.bind_eq_some_iff.mp H
                                              obtain ⟨t188, A620, H⟩ := H
                                              replace H : (if (t188 == x5_4) = true then ((spec_PrintsEqual.f k7 l0 l1).bind fun t189 => (if (x5_4 == t189) = true then (some ((t183.length : Int) == (t173.length : Int))) else (some false))) else (some false)) = some r := H
                                              have A62 := Aside0.mk A620
                                              clear A620
                                              by_cases c63 : (t188 == x5_4) = true
                                              · rw [if_pos c63] at H
                                                have c63b0 : (t188 == x5_4) = true := c63
                                                (try (have c63b1 : decide (t188 = x5_4) = true := by simpa using c63))
                                                (try (have c63b2 : (t188 == x5_4) = true := by simpa using c63))
                                                clear c63
                                                replace H := Option.bind_eq_some_iff.mp H
                                                obtain ⟨t189, A640, H⟩ := H
                                                replace H : (if (x5_4 == t189) = true then (some ((t183.length : Int) == (t173.length : Int))) else (some false)) = some r := H
                                                have A64 := Aside0.mk A640
                                                clear A640
                                                by_cases c65 : (x5_4 == t189) = true
                                                · rw [if_pos c65] at H
                                                  have c65b0 : (x5_4 == t189) = true := c65
                                                  (try (have c65b1 : decide (x5_4 = t189) = true := by simpa using c65))
                                                  (try (have c65b2 : (x5_4 == t189) = true := by simpa using c65))
                                                  clear c65
                                                  obtain rfl := Option.some.inj H
                                                  go_wp2_with (first | (go_at_call 8; (with_reducible refine (impl_PrintsEqual.calls _ _ l0 _ _ l1 t188 _ ?side1 ?side2 ?side3 ?side4 A62.out).mono ?_); (case side1 => repeat (first | exact (Kd.C_below HR0.out HB.out) | (with_reducible refine Kd.C_alloc ?_ _) | (with_reducible refine Kd.C_drewN ?_ _) | (with_reducible refine Kd.C_drew ?_))); (case side2 => exact HC0.out); (case side3 => repeat (first | exact (Kd.C_below HR1.out HB.out) | (with_reducible refine Kd.C_alloc ?_ _) | (with_reducible refine Kd.C_drewN ?_ _) | (with_reducible refine Kd.C_drew ?_))); (case side4 => exact HC1.out); rintro e w66 ⟨rfl, hb⟩; have n0_ := Aside0.mk (Kd.R_below (by (with_reducible repeat (first | apply Kd.R_alloc | apply Kd.R_drewN | apply Kd.R_drew)); exact HO_10.out) hb); have n1_ := Aside0.mk (Kd.R_below (by (with_reducible repeat (first | apply Kd.R_alloc | apply Kd.R_drewN | apply Kd.R_drew)); exact HO_15.out) hb); have n2_ := Aside0.mk (below_step (by repeat (first | (with_reducible first | exact HB.out | apply below_alloc | apply pw_below_drewN | apply below_drew1) | exact HB.out)) hb); clear HO_10; clear HO_15; clear HB; have HO_10 := n0_; have HO_15 := n1_; have HB := n2_; clear n0_ n1_ n2_; (try clear hb); (try clear hb2); (try clear hk); (try clear hi)) | (go_at_call 9; (with_reducible refine (spec_PrintsEqual.calls k7 _ _ l0 _ _ l1 t189 _ ?side1 ?side2 ?side3 ?side4 A64.out).mono ?_); (case side1 => repeat (first | exact (Kd.C_below HR0.out HB.out) | (with_reducible refine Kd.C_alloc ?_ _) | (with_reducible refine Kd.C_drewN ?_ _) | (with_reducible refine Kd.C_drew ?_))); (case side2 => exact HC0.out); (case side3 => repeat (first | exact (Kd.C_below HR1.out HB.out) | (with_reducible refine Kd.C_alloc ?_ _) | (with_reducible refine Kd.C_drewN ?_ _) | (with_reducible refine Kd.C_drew ?_))); (case side4 => exact HC1.out); rintro e w' ⟨rfl, ⟨nd, rfl⟩⟩; (try first | exact ⟨rfl, _, World.drewN_drewN _ _ _⟩ | exact ⟨rfl, _, Eq.trans (World.drewN_drewN _ _ _) (congrArg (World.drewN _) (Nat.add_assoc _ _ _))⟩); obtain ⟨Ao67, co67, eo67⟩ := Kd.R_slice HO_15.out; subst eo67))
                                                  repeat (go_quiet (first | (go_at_call 8; (with_reducible refine (impl_PrintsEqual.calls _ _ l0 _ _ l1 t188 _ ?side1 ?side2 ?side3 ?side4 A62.out).mono ?_); (case side1 => repeat (first | exact (Kd.C_below HR0.out HB.out) | (with_reducible refine Kd.C_alloc ?_ _) | (with_reducible refine Kd.C_drewN ?_ _) | (with_reducible refine Kd.C_drew ?_))); (case side2 => exact HC0.out); (case side3 => repeat (first | exact (Kd.C_below HR1.out HB.out) | (with_reducible refine Kd.C_alloc ?_ _) | (with_reducible refine Kd.C_drewN ?_ _) | (with_reducible refine Kd.C_drew ?_))); (case side4 => exact HC1.out); rintro e w66 ⟨rfl, hb⟩; have n0_ := Aside0.mk (Kd.R_below (by (with_reducible repeat (first | apply Kd.R_alloc | apply Kd.R_drewN | apply Kd.R_drew)); exact HO_10.out) hb); have n1_ := Aside0.mk (Kd.R_below (by (with_reducible repeat (first | apply Kd.R_alloc | apply Kd.R_drewN | apply Kd.R_drew)); exact HO_15.out) hb); have n2_ := Aside0.mk (below_step (by repeat (first | (with_reducible first | exact HB.out | apply below_alloc | apply pw_below_drewN | apply below_drew1) | exact HB.out)) hb); clear HO_10; clear HO_15; clear HB; have HO_10 := n0_; have HO_15 := n1_; have HB := n2_; clear n0_ n1_ n2_; (try clear hb); (try clear hb2); (try clear hk); (try clear hi)) | (go_at_call 9; (with_reducible refine (spec_PrintsEqual.calls k7 _ _ l0 _ _ l1 t189 _ ?side1 ?side2 ?side3 ?side4 A64.out).mono ?_); (case side1 => repeat (first | exact (Kd.C_below HR0.out HB.out) | (with_reducible refine Kd.C_alloc ?_ _) | (with_reducible refine Kd.C_drewN ?_ _) | (with_reducible refine Kd.C_drew ?_))); (case side2 => exact HC0.out); (case side3 => repeat (first | exact (Kd.C_below HR1.out HB.out) | (with_reducible refine Kd.C_alloc ?_ _) | (with_reducible refine Kd.C_drewN ?_ _) | (with_reducible refine Kd.C_drew ?_))); (case side4 => exact HC1.out); rintro e w' ⟨rfl, ⟨nd, rfl⟩⟩; (try first | exact ⟨rfl, _, World.drewN_drewN _ _ _⟩ | exact ⟨rfl, _, Eq.trans (World.drewN_drewN _ _ _) (congrArg (World.drewN _) (Nat.add_assoc _ _ _))⟩); obtain ⟨Ao67, co67, eo67⟩ := Kd.R_slice HO_15.out; subst eo67)); try go_wp2_with (first | (go_at_call 8; (with_reducible refine (impl_PrintsEqual.calls _ _ l0 _ _ l1 t188 _ ?side1 ?side2 ?side3 ?side4 A62.out).mono ?_); (case side1 => repeat (first | exact (Kd.C_below HR0.out HB.out) | (with_reducible refine Kd.C_alloc ?_ _) | (with_reducible refine Kd.C_drewN ?_ _) | (with_reducible refine Kd.C_drew ?_))); (case side2 => exact HC0.out); (case side3 => repeat (first | exact (Kd.C_below HR1.out HB.out) | (with_reducible refine Kd.C_alloc ?_ _) | (with_reducible refine Kd.C_drewN ?_ _) | (with_reducible refine Kd.C_drew ?_))); (case side4 => exact HC1.out); rintro e w66 ⟨rfl, hb⟩; have n0_ := Aside0.mk (Kd.R_below (by (with_reducible repeat (first | apply Kd.R_alloc | apply Kd.R_drewN | apply Kd.R_drew)); exact HO_10.out) hb); have n1_ := Aside0.mk (Kd.R_below (by (with_reducible repeat (first | apply Kd.R_alloc | apply Kd.R_drewN | apply Kd.R_drew)); exact HO_15.out) hb); have n2_ := Aside0.mk (below_step (by repeat (first | (with_reducible first | exact HB.out | apply below_alloc | apply pw_below_drewN | apply below_drew1) | exact HB.out)) hb); clear HO_10; clear HO_15; clear HB; have HO_10 := n0_; have HO_15 := n1_; have HB := n2_; clear n0_ n1_ n2_; (try clear hb); (try clear hb2); (try clear hk); (try clear hi)) | (go_at_call 9; (with_reducible refine (spec_PrintsEqual.calls k7 _ _ l0 _ _ l1 t189 _ ?side1 ?side2 ?side3 ?side4 A64.out).mono ?_); (case side1 => repeat (first | exact (Kd.C_below HR0.out HB.out) | (with_reducible refine Kd.C_alloc ?_ _) | (with_reducible refine Kd.C_drewN ?_ _) | (with_reducible refine Kd.C_drew ?_))); (case side2 => exact HC0.out); (case side3 => repeat (first | exact (Kd.C_below HR1.out HB.out) | (with_reducible refine Kd.C_alloc ?_ _) | (with_reducible refine Kd.C_drewN ?_ _) | (with_reducible refine Kd.C_drew ?_))); (case side4 => exact HC1.out); rintro e w' ⟨rfl, ⟨nd, rfl⟩⟩; (try first | exact ⟨rfl, _, World.drewN_drewN _ _ _⟩ | exact ⟨rfl, _, Eq.trans (World.drewN_drewN _ _ _) (congrArg (World.drewN _) (Nat.add_assoc _ _ _))⟩); obtain ⟨Ao67, co67, eo67⟩ := Kd.R_slice HO_15.out; subst eo67)))
                                                  go_ret
                                                  exact ⟨by first | rfl | (simp [errW_none, errW_some] <;> rfl) | (simp [*, errW_none, errW_some] <;> rfl), by repeat (first | (with_reducible first | exact HB.out | apply below_alloc | apply pw_below_drewN | apply below_drew1) | exact HB.out)⟩
                                                · rw [if_neg c65] at H
                                                  have c65b0 : (x5_4 == t189) = false := by simpa using c65
                                                  (try (have c65b1 : decide (x5_4 = t189) = false := by simpa using c65))
                                                  (try (have c65b2 : (x5_4 == t189) = false := by simpa using c65))
                                                  (try (have c65b3 : ¬ (x5_4 = t189) := by simpa using c65))
                                                  clear c65
                                                  obtain rfl := Option.some.inj H
                                                  go_wp2_with (first | (go_at_call 8; (with_reducible refine (impl_PrintsEqual.calls _ _ l0 _ _ l1 t188 _ ?side1 ?side2 ?side3 ?side4 A62.out).mono ?_); (case side1 => repeat (first | exact (Kd.C_below HR0.out HB.out) | (with_reducible refine Kd.C_alloc ?_ _) | (with_reducible refine Kd.C_drewN ?_ _) | (with_reducible refine Kd.C_drew ?_))); (case side2 => exact HC0.out); (case side3 => repeat (first | exact (Kd.C_below HR1.out HB.out) | (with_reducible refine Kd.C_alloc ?_ _) | (with_reducible refine Kd.C_drewN ?_ _) | (with_reducible refine Kd.C_drew ?_))); (case side4 => exact HC1.out); rintro e w68 ⟨rfl, hb⟩; have n0_ := Aside0.mk (Kd.R_below (by (with_reducible repeat (first | apply Kd.R_alloc | apply Kd.R_drewN | apply Kd.R_drew)); exact HO_10.out) hb); have n1_ := Aside0.mk (Kd.R_below (by (with_reducible repeat (first | apply Kd.R_alloc | apply Kd.R_drewN | apply Kd.R_drew)); exact HO_15.out) hb); have n2_ := Aside0.mk (below_step (by repeat (first | (with_reducible first | exact HB.out | apply below_alloc | apply pw_below_drewN | apply below_drew1) | exact HB.out)) hb); clear HO_10; clear HO_15; clear HB; have HO_10 := n0_; have HO_15 := n1_; have HB := n2_; clear n0_ n1_ n2_; (try clear hb); (try clear hb2); (try clear hk); (try clear hi)) | (go_at_call 9; (with_reducible refine (spec_PrintsEqual.calls k7 _ _ l0 _ _ l1 t189 _ ?side1 ?side2 ?side3 ?side4 A64.out).mono ?_); (case side1 => repeat (first | exact (Kd.C_below HR0.out HB.out) | (with_reducible refine Kd.C_alloc ?_ _) | (with_reducible refine Kd.C_drewN ?_ _) | (with_reducible refine Kd.C_drew ?_))); (case side2 => exact HC0.out); (case side3 => repeat (first | exact (Kd.C_below HR1.out HB.out) | (with_reducible refine Kd.C_alloc ?_ _) | (with_reducible refine Kd.C_drewN ?_ _) | (with_reducible refine Kd.C_drew ?_))); (case side4 => exact HC1.out); rintro e w' ⟨rfl, ⟨nd, rfl⟩⟩; (try first | exact ⟨rfl, _, World.drewN_drewN _ _ _⟩ | exact ⟨rfl, _, Eq.trans (World.drewN_drewN _ _ _) (congrArg (World.drewN _) (Nat.add_assoc _ _ _))⟩)))
                                                  repeat (go_quiet (first | (go_at_call 8; (with_reducible refine (impl_PrintsEqual.calls _ _ l0 _ _ l1 t188 _ ?side1 ?side2 ?side3 ?side4 A62.out).mono ?_); (case side1 => repeat (first | exact (Kd.C_below HR0.out HB.out) | (with_reducible refine Kd.C_alloc ?_ _) | (with_reducible refine Kd.C_drewN ?_ _) | (with_reducible refine Kd.C_drew ?_))); (case side2 => exact HC0.out); (case side3 => repeat (first | exact (Kd.C_below HR1.out HB.out) | (with_reducible refine Kd.C_alloc ?_ _) | (with_reducible refine Kd.C_drewN ?_ _) | (with_reducible refine Kd.C_drew ?_))); (case side4 => exact HC1.out); rintro e w68 ⟨rfl, hb⟩; have n0_ := Aside0.mk (Kd.R_below (by (with_reducible repeat (first | apply Kd.R_alloc | apply Kd.R_drewN | apply Kd.R_drew)); exact HO_10.out) hb); have n1_ := Aside0.mk (Kd.R_below (by (with_reducible repeat (first | apply Kd.R_alloc | apply Kd.R_drewN | apply Kd.R_drew)); exact HO_15.out) hb); have n2_ := Aside0.mk (below_step (by repeat (first | (with_reducible first | exact HB.out | apply below_alloc | apply pw_below_drewN | apply below_drew1) | exact HB.out)) hb); clear HO_10; clear HO_15; clear HB; have HO_10 := n0_; have HO_15 := n1_; have HB := n2_; clear n0_ n1_ n2_; (try clear hb); (try clear hb2); (try clear hk); (try clear hi)) | (go_at_call 9; (with_reducible refine (spec_PrintsEqual.calls k7 _ _ l0 _ _ l1 t189 _ ?side1 ?side2 ?side3 ?side4 A64.out).mono ?_); (case side1 => repeat (first | exact (Kd.C_below HR0.out HB.out) | (with_reducible refine Kd.C_alloc ?_ _) | (with_reducible refine Kd.C_drewN ?_ _) | (with_reducible refine Kd.C_drew ?_))); (case side2 => exact HC0.out); (case side3 => repeat (first | exact (Kd.C_below HR1.out HB.out) | (with_reducible refine Kd.C_alloc ?_ _) | (with_reducible refine Kd.C_drewN ?_ _) | (with_reducible refine Kd.C_drew ?_))); (case side4 => exact HC1.out); rintro e w' ⟨rfl, ⟨nd, rfl⟩⟩; (try first | exact ⟨rfl, _, World.drewN_drewN _ _ _⟩ | exact ⟨rfl, _, Eq.trans (World.drewN_drewN _ _ _) (congrArg (World.drewN _) (Nat.add_assoc _ _ _))⟩))); try go_wp2_with (first | (go_at_call 8; (with_reducible refine (impl_PrintsEqual.calls _ _ l0 _ _ l1 t188 _ ?side1 ?side2 ?side3 ?side4 A62.out).mono ?_); (case side1 => repeat (first | exact (Kd.C_below HR0.out HB.out) | (with_reducible refine Kd.C_alloc ?_ _) | (with_reducible refine Kd.C_drewN ?_ _) | (with_reducible refine Kd.C_drew ?_))); (case side2 => exact HC0.out); (case side3 => repeat (first | exact (Kd.C_below HR1.out HB.out) | (with_reducible refine Kd.C_alloc ?_ _) | (with_reducible refine Kd.C_drewN ?_ _) | (with_reducible refine Kd.C_drew ?_))); (case side4 => exact HC1.out); rintro e w68 ⟨rfl, hb⟩; have n0_ := Aside0.mk (Kd.R_below (by (with_reducible repeat (first | apply Kd.R_alloc | apply Kd.R_drewN | apply Kd.R_drew)); exact HO_10.out) hb); have n1_ := Aside0.mk (Kd.R_below (by (with_reducible repeat (first | apply Kd.R_alloc | apply Kd.R_drewN | apply Kd.R_drew)); exact HO_15.out) hb); have n2_ := Aside0.mk (below_step (by repeat (first | (with_reducible first | exact HB.out | apply below_alloc | apply pw_below_drewN | apply below_drew1) | exact HB.out)) hb); clear HO_10; clear HO_15; clear HB; have HO_10 := n0_; have HO_15 := n1_; have HB := n2_; clear n0_ n1_ n2_; (try clear hb); (try clear hb2); (try clear hk); (try clear hi)) | (go_at_call 9; (with_reducible refine (spec_PrintsEqual.calls k7 _ _ l0 _ _ l1 t189 _ ?side1 ?side2 ?side3 ?side4 A64.out).mono ?_); (case side1 => repeat (first | exact (Kd.C_below HR0.out HB.out) | (with_reducible refine Kd.C_alloc ?_ _) | (with_reducible refine Kd.C_drewN ?_ _) | (with_reducible refine Kd.C_drew ?_))); (case side2 => exact HC0.out); (case side3 => repeat (first | exact (Kd.C_below HR1.out HB.out) | (with_reducible refine Kd.C_alloc ?_ _) | (with_reducible refine Kd.C_drewN ?_ _) | (with_reducible refine Kd.C_drew ?_))); (case side4 => exact HC1.out); rintro e w' ⟨rfl, ⟨nd, rfl⟩⟩; (try first | exact ⟨rfl, _, World.drewN_drewN _ _ _⟩ | exact ⟨rfl, _, Eq.trans (World.drewN_drewN _ _ _) (congrArg (World.drewN _) (Nat.add_assoc _ _ _))⟩))))
                                                  go_ret
                                                  exact ⟨by first | rfl | (simp [errW_none, errW_some] <;> rfl) | (simp [*, errW_none, errW_some] <;> rfl), by repeat (first | (with_reducible first | exact HB.out | apply below_alloc | apply pw_below_drewN | apply below_drew1) | exact HB.out)⟩
                                              · rw [if_neg c63] at H
                                                have c63b0 : (t188 == x5_4) = false := by simpa using c63
                                                (try (have c63b1 : decide (t188 = x5_4) = false := by simpa using c63))
                                                (try (have c63b2 : (t188 == x5_4) = false := by simpa using c63))
                                                (try (have c63b3 : ¬ (t188 = x5_4) := by simpa using c63))
                                                clear c63
                                                obtain rfl := Option.some.inj H
                                                go_wp2_with (first | (go_at_call 8; (with_reducible refine (impl_PrintsEqual.calls _ _ l0 _ _ l1 t188 _ ?side1 ?side2 ?side3 ?side4 A62.out).mono ?_); (case side1 => repeat (first | exact (Kd.C_below HR0.out HB.out) | (with_reducible refine Kd.C_alloc ?_ _) | (with_reducible refine Kd.C_drewN ?_ _) | (with_reducible refine Kd.C_drew ?_))); (case side2 => exact HC0.out); (case side3 => repeat (first | exact (Kd.C_below HR1.out HB.out) | (with_reducible refine Kd.C_alloc ?_ _) | (with_reducible refine Kd.C_drewN ?_ _) | (with_reducible refine Kd.C_drew ?_))); (case side4 => exact HC1.out); rintro e w69 ⟨rfl, hb⟩; have n0_ := Aside0.mk (Kd.R_below (by (with_reducible repeat (first | apply Kd.R_alloc | apply Kd.R_drewN | apply Kd.R_drew)); exact HO_10.out) hb); have n1_ := Aside0.mk (Kd.R_below (by (with_reducible repeat (first | apply Kd.R_alloc | apply Kd.R_drewN | apply Kd.R_drew)); exact HO_15.out) hb); have n2_ := Aside0.mk (below_step (by repeat (first | (with_reducible first | exact HB.out | apply below_alloc | apply pw_below_drewN | apply below_drew1) | exact HB.out)) hb); clear HO_10; clear HO_15; clear HB; have HO_10 := n0_; have HO_15 := n1_; have HB := n2_; clear n0_ n1_ n2_; (try clear hb); (try clear hb2); (try clear hk); (try clear hi)))
                                                repeat (go_quiet (first | (go_at_call 8; (with_reducible refine (impl_PrintsEqual.calls _ _ l0 _ _ l1 t188 _ ?side1 ?side2 ?side3 ?side4 A62.out).mono ?_); (case side1 => repeat (first | exact (Kd.C_below HR0.out HB.out) | (with_reducible refine Kd.C_alloc ?_ _) | (with_reducible refine Kd.C_drewN ?_ _) | (with_reducible refine Kd.C_drew ?_))); (case side2 => exact HC0.out); (case side3 => repeat (first | exact (Kd.C_below HR1.out HB.out) | (with_reducible refine Kd.C_alloc ?_ _) | (with_reducible refine Kd.C_drewN ?_ _) | (with_reducible refine Kd.C_drew ?_))); (case side4 => exact HC1.out); rintro e w69 ⟨rfl, hb⟩; have n0_ := Aside0.mk (Kd.R_below (by (with_reducible repeat (first | apply Kd.R_alloc | apply Kd.R_drewN | apply Kd.R_drew)); exact HO_10.out) hb); have n1_ := Aside0.mk (Kd.R_below (by (with_reducible repeat (first | apply Kd.R_alloc | apply Kd.R_drewN | apply Kd.R_drew)); exact HO_15.out) hb); have n2_ := Aside0.mk (below_step (by repeat (first | (with_reducible first | exact HB.out | apply below_alloc | apply pw_below_drewN | apply below_drew1) | exact HB.out)) hb); clear HO_10; clear HO_15; clear HB; have HO_10 := n0_; have HO_15 := n1_; have HB := n2_; clear n0_ n1_ n2_; (try clear hb); (try clear hb2); (try clear hk); (try clear hi))); try go_wp2_with (first | (go_at_call 8; (with_reducible refine (impl_PrintsEqual.calls _ _ l0 _ _ l1 t188 _ ?side1 ?side2 ?side3 ?side4 A62.out).mono ?_); (case side1 => repeat (first | exact (Kd.C_below HR0.out HB.out) | (with_reducible refine Kd.C_alloc ?_ _) | (with_reducible refine Kd.C_drewN ?_ _) | (with_reducible refine Kd.C_drew ?_))); (case side2 => exact HC0.out); (case side3 => repeat (first | exact (Kd.C_below HR1.out HB.out) | (with_reducible refine Kd.C_alloc ?_ _) | (with_reducible refine Kd.C_drewN ?_ _) | (with_reducible refine Kd.C_drew ?_))); (case side4 => exact HC1.out); rintro e w69 ⟨rfl, hb⟩; have n0_ := Aside0.mk (Kd.R_below (by (with_reducible repeat (first | apply Kd.R_alloc | apply Kd.R_drewN | apply Kd.R_drew)); exact HO_10.out) hb); have n1_ := Aside0.mk (Kd.R_below (by (with_reducible repeat (first | apply Kd.R_alloc | apply Kd.R_drewN | apply Kd.R_drew)); exact HO_15.out) hb); have n2_ := Aside0.mk (below_step (by repeat (first | (with_reducible first | exact HB.out | apply below_alloc | apply pw_below_drewN | apply below_drew1) | exact HB.out)) hb); clear HO_10; clear HO_15; clear HB; have HO_10 := n0_; have HO_15 := n1_; have HB := n2_; clear n0_ n1_ n2_; (try clear hb); (try clear hb2); (try clear hk); (try clear hi))))
                                                go_ret
                                                exact ⟨by first | rfl | (simp [errW_none, errW_some] <;> rfl) | (simp [*, errW_none, errW_some] <;> rfl), by repeat (first | (with_reducible first | exact HB.out | apply below_alloc | apply pw_below_drewN | apply below_drew1) | exact HB.out)⟩
        · rw [if_neg c7] at H
          have c7b0 : ((t166.length : Int) == 1) = false := beq_eq_false_iff_ne.mpr c7
          have c7b1 : ((t166.length : Int) != 1) = true := bne_iff_ne.mpr c7
          obtain rfl := Option.some.inj H
          go_wp2_with (first | ((with_reducible refine gate_dst (N := 25) rfl ?_); (try (refine gate_guard (by rfl) ?_; dsimp only)); refine Kd.R_lit (Kd.int .u64) _ 24 ?hg (N := 25) ?hd (xs := ([1, 2] : List Int)) (inner := [.int .u64 1, .int .u64 2]) (ok := fun _ => True) (okp := fun _ => True) ?hr ?hp (fun _ hk => hk) trivial (Below.refl _ _) (Nat.le_refl _) (by simp) ?_; (case hd => rfl); (case hg => rfl); (case hr => first | (go_simp; done) | (go_simp; rfl)); (case hp => exact (Reps.one (show Kd.M (Kd.int .u64) _ _ _ 1 [.int .u64 1] from rfl) (Reps.one (show Kd.M (Kd.int .u64) _ _ _ 2 [.int .u64 2] from rfl) (Reps.none _ _)))); intro v161 w70 ho71 hb hg_ hnew_; clear hg_ hnew_; (first | rw [← Ny160.out] at ho71 | (simp only [Int.reduceToNat] at ho71; rw [← Ny160.out] at ho71)); have n0_ := Aside0.mk (Kd.R_lower ho71 (below_size (by repeat (first | (with_reducible first | exact HB.out | apply below_alloc | apply pw_below_drewN | apply below_drew1) | exact HB.out)))); have n1_ := Aside0.mk (below_step (by repeat (first | (with_reducible first | exact HB.out | apply below_alloc | apply pw_below_drewN | apply below_drew1) | exact HB.out)) hb); clear HB; have HO162 := n0_; have HB := n1_; clear n0_ n1_; clear hb ho71) | ((with_reducible refine gate_dst (N := 26) rfl ?_); (try (refine gate_guard (by rfl) ?_; dsimp only)); refine Kd.R_lit (Kd.int .u64) _ 24 ?hg (N := 26) ?hd (xs := ([2, 3] : List Int)) (inner := [.int .u64 2, .int .u64 3]) (ok := fun _ => True) (okp := fun _ => True) ?hr ?hp (fun _ hk => hk) trivial (Below.refl _ _) (Nat.le_refl _) (by simp) ?_; (case hd => rfl); (case hg => rfl); (case hr => first | (go_simp; done) | (go_simp; rfl)); (case hp => exact (Reps.one (show Kd.M (Kd.int .u64) _ _ _ 2 [.int .u64 2] from rfl) (Reps.one (show Kd.M (Kd.int .u64) _ _ _ 3 [.int .u64 3] from rfl) (Reps.none _ _)))); intro v164 w72 ho73 hb hg_ hnew_; clear hg_ hnew_; (first | rw [← Ny163.out] at ho73 | (simp only [Int.reduceToNat] at ho73; rw [← Ny163.out] at ho73)); have n0_ := Aside0.mk (Kd.R_elder' (by (with_reducible repeat (first | apply Kd.R_alloc | apply Kd.R_drewN | apply Kd.R_drew)); exact HO162.out) (Kd.R_base ho73) hb); have n1_ := Aside0.mk (Kd.R_lower (Kd.R_new' ho73 (Kd.R_lt (by (with_reducible repeat (first | apply Kd.R_alloc | apply Kd.R_drewN | apply Kd.R_drew)); exact HO162.out))) (below_size (by repeat (first | (with_reducible first | exact HB.out | apply below_alloc | apply pw_below_drewN | apply below_drew1) | exact HB.out)))); have n2_ := Aside0.mk (below_step (by repeat (first | (with_reducible first | exact HB.out | apply below_alloc | apply pw_below_drewN | apply below_drew1) | exact HB.out)) hb); clear HO162; clear HB; have HO162 := n0_; have HO165 := n1_; have HB := n2_; clear n0_ n1_ n2_; clear hb ho73; obtain ⟨Ao74, co74, eo74⟩ := Kd.R_slice HO162.out; subst eo74; obtain ⟨Ao75, co75, eo75⟩ := Kd.R_slice HO165.out; subst eo75) | (go_at_call 5; (with_reducible refine (impl_PrintsBoth.calls _ _ y160 _ _ y163 t166 _ ?side1 ?side2 ?side3 ?side4 A6.out).mono ?_); (case side1 => repeat (first | exact (Kd.R_reads' HO162.out).2.2 | (with_reducible refine Kd.C_alloc ?_ _) | (with_reducible refine Kd.C_drewN ?_ _) | (with_reducible refine Kd.C_drew ?_))); (case side2 => exact (Kd.R_reads' HO162.out).2.1); (case side3 => repeat (first | exact (Kd.R_reads' HO165.out).2.2 | (with_reducible refine Kd.C_alloc ?_ _) | (with_reducible refine Kd.C_drewN ?_ _) | (with_reducible refine Kd.C_drew ?_))); (case side4 => exact (Kd.R_reads' HO165.out).2.1); rintro e w76 ⟨v167, rfl, ho0, hb⟩; have n0_ := Aside0.mk (Kd.R_elder' (by (with_reducible repeat (first | apply Kd.R_alloc | apply Kd.R_drewN | apply Kd.R_drew)); exact HO162.out) (Kd.R_base ho0) hb); have n1_ := Aside0.mk (Kd.R_elder' (by (with_reducible repeat (first | apply Kd.R_alloc | apply Kd.R_drewN | apply Kd.R_drew)); exact HO165.out) (Kd.R_base ho0) hb); have n2_ := Aside0.mk (Kd.R_lower (Kd.R_new' (Kd.R_new' ho0 (Kd.R_lt (by (with_reducible repeat (first | apply Kd.R_alloc | apply Kd.R_drewN | apply Kd.R_drew)); exact HO162.out))) (Kd.R_lt (by (with_reducible repeat (first | apply Kd.R_alloc | apply Kd.R_drewN | apply Kd.R_drew)); exact HO165.out))) (below_size (by repeat (first | (with_reducible first | exact HB.out | apply below_alloc | apply pw_below_drewN | apply below_drew1) | exact HB.out)))); have n3_ := Aside0.mk (below_step (by repeat (first | (with_reducible first | exact HB.out | apply below_alloc | apply pw_below_drewN | apply below_drew1) | exact HB.out)) hb); clear HO162; clear HO165; clear HB; have HO162 := n0_; have HO165 := n1_; have HO168 := n2_; have HB := n3_; clear n0_ n1_ n2_ n3_; (try clear hb); (try clear hb2); (try clear hk); (try clear hi); (try clear ho0); obtain ⟨Ao77, co77, eo77⟩ := Kd.R_slice HO168.out; subst eo77))
          repeat (go_quiet (first | ((with_reducible refine gate_dst (N := 25) rfl ?_); (try (refine gate_guard (by rfl) ?_; dsimp only)); refine Kd.R_lit (Kd.int .u64) _ 24 ?hg (N := 25) ?hd (xs := ([1, 2] : List Int)) (inner := [.int .u64 1, .int .u64 2]) (ok := fun _ => True) (okp := fun _ => True) ?hr ?hp (fun _ hk => hk) trivial (Below.refl _ _) (Nat.le_refl _) (by simp) ?_; (case hd => rfl); (case hg => rfl); (case hr => first | (go_simp; done) | (go_simp; rfl)); (case hp => exact (Reps.one (show Kd.M (Kd.int .u64) _ _ _ 1 [.int .u64 1] from rfl) (Reps.one (show Kd.M (Kd.int .u64) _ _ _ 2 [.int .u64 2] from rfl) (Reps.none _ _)))); intro v161 w70 ho71 hb hg_ hnew_; clear hg_ hnew_; (first | rw [← Ny160.out] at ho71 | (simp only [Int.reduceToNat] at ho71; rw [← Ny160.out] at ho71)); have n0_ := Aside0.mk (Kd.R_lower ho71 (below_size (by repeat (first | (with_reducible first | exact HB.out | apply below_alloc | apply pw_below_drewN | apply below_drew1) | exact HB.out)))); have n1_ := Aside0.mk (below_step (by repeat (first | (with_reducible first | exact HB.out | apply below_alloc | apply pw_below_drewN | apply below_drew1) | exact HB.out)) hb); clear HB; have HO162 := n0_; have HB := n1_; clear n0_ n1_; clear hb ho71) | ((with_reducible refine gate_dst (N := 26) rfl ?_); (try (refine gate_guard (by rfl) ?_; dsimp only)); refine Kd.R_lit (Kd.int .u64) _ 24 ?hg (N := 26) ?hd (xs := ([2, 3] : List Int)) (inner := [.int .u64 2, .int .u64 3]) (ok := fun _ => True) (okp := fun _ => True) ?hr ?hp (fun _ hk => hk) trivial (Below.refl _ _) (Nat.le_refl _) (by simp) ?_; (case hd => rfl); (case hg => rfl); (case hr => first | (go_simp; done) | (go_simp; rfl)); (case hp => exact (Reps.one (show Kd.M (Kd.int .u64) _ _ _ 2 [.int .u64 2] from rfl) (Reps.one (show Kd.M (Kd.int .u64) _ _ _ 3 [.int .u64 3] from rfl) (Reps.none _ _)))); intro v164 w72 ho73 hb hg_ hnew_; clear hg_ hnew_; (first | rw [← Ny163.out] at ho73 | (simp only [Int.reduceToNat] at ho73; rw [← Ny163.out] at ho73)); have n0_ := Aside0.mk (Kd.R_elder' (by (with_reducible repeat (first | apply Kd.R_alloc | apply Kd.R_drewN | apply Kd.R_drew)); exact HO162.out) (Kd.R_base ho73) hb); have n1_ := Aside0.mk (Kd.R_lower (Kd.R_new' ho73 (Kd.R_lt (by (with_reducible repeat (first | apply Kd.R_alloc | apply Kd.R_drewN | apply Kd.R_drew)); exact HO162.out))) (below_size (by repeat (first | (with_reducible first | exact HB.out | apply below_alloc | apply pw_below_drewN | apply below_drew1) | exact HB.out)))); have n2_ := Aside0.mk (below_step (by repeat (first | (with_reducible first | exact HB.out | apply below_alloc | apply pw_below_drewN | apply below_drew1) | exact HB.out)) hb); clear HO162; clear HB; have HO162 := n0_; have HO165 := n1_; have HB := n2_; clear n0_ n1_ n2_; clear hb ho73; obtain ⟨Ao74, co74, eo74⟩ := Kd.R_slice HO162.out; subst eo74; obtain ⟨Ao75, co75, eo75⟩ := Kd.R_slice HO165.out; subst eo75) | (go_at_call 5; (with_reducible refine (impl_PrintsBoth.calls _ _ y160 _ _ y163 t166 _ ?side1 ?side2 ?side3 ?side4 A6.out).mono ?_); (case side1 => repeat (first | exact (Kd.R_reads' HO162.out).2.2 | (with_reducible refine Kd.C_alloc ?_ _) | (with_reducible refine Kd.C_drewN ?_ _) | (with_reducible refine Kd.C_drew ?_))); (case side2 => exact (Kd.R_reads' HO162.out).2.1); (case side3 => repeat (first | exact (Kd.R_reads' HO165.out).2.2 | (with_reducible refine Kd.C_alloc ?_ _) | (with_reducible refine Kd.C_drewN ?_ _) | (with_reducible refine Kd.C_drew ?_))); (case side4 => exact (Kd.R_reads' HO165.out).2.1); rintro e w76 ⟨v167, rfl, ho0, hb⟩; have n0_ := Aside0.mk (Kd.R_elder' (by (with_reducible repeat (first | apply Kd.R_alloc | apply Kd.R_drewN | apply Kd.R_drew)); exact HO162.out) (Kd.R_base ho0) hb); have n1_ := Aside0.mk (Kd.R_elder' (by (with_reducible repeat (first | apply Kd.R_alloc | apply Kd.R_drewN | apply Kd.R_drew)); exact HO165.out) (Kd.R_base ho0) hb); have n2_ := Aside0.mk (Kd.R_lower (Kd.R_new' (Kd.R_new' ho0 (Kd.R_lt (by (with_reducible repeat (first | apply Kd.R_alloc | apply Kd.R_drewN | apply Kd.R_drew)); exact HO162.out))) (Kd.R_lt (by (with_reducible repeat (first | apply Kd.R_alloc | apply Kd.R_drewN | apply Kd.R_drew)); exact HO165.out))) (below_size (by repeat (first | (with_reducible first | exact HB.out | apply below_alloc | apply pw_below_drewN | apply below_drew1) | exact HB.out)))); have n3_ := Aside0.mk (below_step (by repeat (first | (with_reducible first | exact HB.out | apply below_alloc | apply pw_below_drewN | apply below_drew1) | exact HB.out)) hb); clear HO162; clear HO165; clear HB; have HO162 := n0_; have HO165 := n1_; have HO168 := n2_; have HB := n3_; clear n0_ n1_ n2_ n3_; (try clear hb); (try clear hb2); (try clear hk); (try clear hi); (try clear ho0); obtain ⟨Ao77, co77, eo77⟩ := Kd.R_slice HO168.out; subst eo77)); try go_wp2_with (first | ((with_reducible refine gate_dst (N := 25) rfl ?_); (try (refine gate_guard (by rfl) ?_; dsimp only)); refine Kd.R_lit (Kd.int .u64) _ 24 ?hg (N := 25) ?hd (xs := ([1, 2] : List Int)) (inner := [.int .u64 1, .int .u64 2]) (ok := fun _ => True) (okp := fun _ => True) ?hr ?hp (fun _ hk => hk) trivial (Below.refl _ _) (Nat.le_refl _) (by simp) ?_; (case hd => rfl); (case hg => rfl); (case hr => first | (go_simp; done) | (go_simp; rfl)); (case hp => exact (Reps.one (show Kd.M (Kd.int .u64) _ _ _ 1 [.int .u64 1] from rfl) (Reps.one (show Kd.M (Kd.int .u64) _ _ _ 2 [.int .u64 2] from rfl) (Reps.none _ _)))); intro v161 w70 ho71 hb hg_ hnew_; clear hg_ hnew_; (first | rw [← Ny160.out] at ho71 | (simp only [Int.reduceToNat] at ho71; rw [← Ny160.out] at ho71)); have n0_ := Aside0.mk (Kd.R_lower ho71 (below_size (by repeat (first | (with_reducible first | exact HB.out | apply below_alloc | apply pw_below_drewN | apply below_drew1) | exact HB.out)))); have n1_ := Aside0.mk (below_step (by repeat (first | (with_reducible first | exact HB.out | apply below_alloc | apply pw_below_drewN | apply below_drew1) | exact HB.out)) hb); clear HB; have HO162 := n0_; have HB := n1_; clear n0_ n1_; clear hb ho71) | ((with_reducible refine gate_dst (N := 26) rfl ?_); (try (refine gate_guard (by rfl) ?_; dsimp only)); refine Kd.R_lit (Kd.int .u64) _ 24 ?hg (N := 26) ?hd (xs := ([2, 3] : List Int)) (inner := [.int .u64 2, .int .u64 3]) (ok := fun _ => True) (okp := fun _ => True) ?hr ?hp (fun _ hk => hk) trivial (Below.refl _ _) (Nat.le_refl _) (by simp) ?_; (case hd => rfl); (case hg => rfl); (case hr => first | (go_simp; done) | (go_simp; rfl)); (case hp => exact (Reps.one (show Kd.M (Kd.int .u64) _ _ _ 2 [.int .u64 2] from rfl) (Reps.one (show Kd.M (Kd.int .u64) _ _ _ 3 [.int .u64 3] from rfl) (Reps.none _ _)))); intro v164 w72 ho73 hb hg_ hnew_; clear hg_ hnew_; (first | rw [← Ny163.out] at ho73 | (simp only [Int.reduceToNat] at ho73; rw [← Ny163.out] at ho73)); have n0_ := Aside0.mk (Kd.R_elder' (by (with_reducible repeat (first | apply Kd.R_alloc | apply Kd.R_drewN | apply Kd.R_drew)); exact HO162.out) (Kd.R_base ho73) hb); have n1_ := Aside0.mk (Kd.R_lower (Kd.R_new' ho73 (Kd.R_lt (by (with_reducible repeat (first | apply Kd.R_alloc | apply Kd.R_drewN | apply Kd.R_drew)); exact HO162.out))) (below_size (by repeat (first | (with_reducible first | exact HB.out | apply below_alloc | apply pw_below_drewN | apply below_drew1) | exact HB.out)))); have n2_ := Aside0.mk (below_step (by repeat (first | (with_reducible first | exact HB.out | apply below_alloc | apply pw_below_drewN | apply below_drew1) | exact HB.out)) hb); clear HO162; clear HB; have HO162 := n0_; have HO165 := n1_; have HB := n2_; clear n0_ n1_ n2_; clear hb ho73; obtain ⟨Ao74, co74, eo74⟩ := Kd.R_slice HO162.out; subst eo74; obtain ⟨Ao75, co75, eo75⟩ := Kd.R_slice HO165.out; subst eo75) | (go_at_call 5; (with_reducible refine (impl_PrintsBoth.calls _ _ y160 _ _ y163 t166 _ ?side1 ?side2 ?side3 ?side4 A6.out).mono ?_); (case side1 => repeat (first | exact (Kd.R_reads' HO162.out).2.2 | (with_reducible refine Kd.C_alloc ?_ _) | (with_reducible refine Kd.C_drewN ?_ _) | (with_reducible refine Kd.C_drew ?_))); (case side2 => exact (Kd.R_reads' HO162.out).2.1); (case side3 => repeat (first | exact (Kd.R_reads' HO165.out).2.2 | (with_reducible refine Kd.C_alloc ?_ _) | (with_reducible refine Kd.C_drewN ?_ _) | (with_reducible refine Kd.C_drew ?_))); (case side4 => exact (Kd.R_reads' HO165.out).2.1); rintro e w76 ⟨v167, rfl, ho0, hb⟩; have n0_ := Aside0.mk (Kd.R_elder' (by (with_reducible repeat (first | apply Kd.R_alloc | apply Kd.R_drewN | apply Kd.R_drew)); exact HO162.out) (Kd.R_base ho0) hb); have n1_ := Aside0.mk (Kd.R_elder' (by (with_reducible repeat (first | apply Kd.R_alloc | apply Kd.R_drewN | apply Kd.R_drew)); exact HO165.out) (Kd.R_base ho0) hb); have n2_ := Aside0.mk (Kd.R_lower (Kd.R_new' (Kd.R_new' ho0 (Kd.R_lt (by (with_reducible repeat (first | apply Kd.R_alloc | apply Kd.R_drewN | apply Kd.R_drew)); exact HO162.out))) (Kd.R_lt (by (with_reducible repeat (first | apply Kd.R_alloc | apply Kd.R_drewN | apply Kd.R_drew)); exact HO165.out))) (below_size (by repeat (first | (with_reducible first | exact HB.out | apply below_alloc | apply pw_below_drewN | apply below_drew1) | exact HB.out)))); have n3_ := Aside0.mk (below_step (by repeat (first | (with_reducible first | exact HB.out | apply below_alloc | apply pw_below_drewN | apply below_drew1) | exact HB.out)) hb); clear HO162; clear HO165; clear HB; have HO162 := n0_; have HO165 := n1_; have HO168 := n2_; have HB := n3_; clear n0_ n1_ n2_ n3_; (try clear hb); (try clear hb2); (try clear hk); (try clear hi); (try clear ho0); obtain ⟨Ao77, co77, eo77⟩ := Kd.R_slice HO168.out; subst eo77)))
          go_ret
          exact ⟨by first | rfl | (simp [errW_none, errW_some] <;> rfl) | (simp [*, errW_none, errW_some] <;> rfl), by repeat (first | (with_reducible first | exact HB.out | apply below_alloc | apply pw_below_drewN | apply below_drew1) | exact HB.out)⟩

/-- THE ONE PURE STATEMENT of laws_FnPrints: yours. -/
def laws_FnPrints.Pure : Prop := ∀ (l0 : List Int) (l1 : List Int), l0.length ≤ maxLen → l0.length * 8 ≤ 140737488351232 → (∀ x ∈ l0, (Lit.int .u64 x).wf = true) → l1.length ≤ maxLen → l1.length * 8 ≤ 140737488351232 → (∀ x ∈ l1, (Lit.int .u64 x).wf = true) → ∃ k, laws_FnPrints.f k l0 l1 = some true
theorem laws_FnPrints.walk (P : laws_FnPrints.Pure) (a0 : Option Addr) (len0 cap0 : Nat) (z0 : List Int) (a1 : Option Addr) (len1 cap1 : Nat) (z1 : List Int) (w : World) (w0 : (a0 = none ∧ len0 = 0 ∧ cap0 = 0 ∧ z0 = []) ∨ ∃ x, a0 = some x ∧ len0 ≤ cap0 ∧ cap0 ≤ maxLen ∧ z0.length = cap0 ∧ (∀ i, i < z0.length → w.cell? (x.add i) = some (.int .u64 (z0.getD i 0))) ∧ ∀ n ∈ z0, (Lit.int .u64 n).wf = true) (y0 : len0 * 8 ≤ 140737488351232) (w1 : (a1 = none ∧ len1 = 0 ∧ cap1 = 0 ∧ z1 = []) ∨ ∃ x, a1 = some x ∧ len1 ≤ cap1 ∧ cap1 ≤ maxLen ∧ z1.length = cap1 ∧ (∀ i, i < z1.length → w.cell? (x.add i) = some (.int .u64 (z1.getD i 0))) ∧ ∀ n ∈ z1, (Lit.int .u64 n).wf = true) (y1 : len1 * 8 ≤ 140737488351232) :
    Calls Try.prog 3 #[.slice a0 len0 cap0, .slice a1 len1 cap1] w fun e w' => e = .returned (.bool true) ∧ Below w.heap.size w w' := by
  obtain ⟨l0, rfl, hr0, hm0, hw0, hc0⟩ := ReadsInt.ofRowC w0
  obtain ⟨l1, rfl, hr1, hm1, hw1, hc1⟩ := ReadsInt.ofRowC w1
  obtain ⟨k, h⟩ := P l0 l1 hm0 y0 hw0 hm1 y1 hw1
  refine (laws_FnPrints.calls k _ _ l0 _ _ l1 true w (Kd.C_of_reads (d := (0 : Int)) (h1 := fun _ => rfl) hr0) hc0 (Kd.C_of_reads (d := (0 : Int)) (h1 := fun _ => rfl) hr1) hc1 h).mono ?_
  rintro e w' ⟨rfl, hd⟩
  exact ⟨rfl, hd⟩

end Go.Proofs.Ytcneoonhdfblaaa.Q
