-- printed by this project's own program wip/tools/mkprint.py (the kit's print.py with hand-proved contracts put in)
import Derived.Test.YtpdfokdhnalfaaaDoorQx0
import Derived.Test.YtpdfokdhnalfaaaDoorQx2
namespace Go.Proofs.YtpdfokdhnalfaaaDoor.Q
open Go.RowKit Go.Proofs.YtpdfokdhnalfaaaDoorW.PrintWords Go.Proofs.YtpdfokdhnalfaaaDoorW.PrintLast Go.Proofs.YtpdfokdhnalfaaaDoorW.PrintMore
attribute [local go_sem] max2_int min2_int max_two min_two max_three min_three max_four min_four   -- for this text's walks alone
set_option linter.unusedVariables false
set_option linter.unusedSimpArgs false

/-! ### spec_reserved: function 28 -/
def spec_reserved.f (a0 : Int) : Option (Bool) := if a0 = 123 then (some true) else (if a0 = 125 then (some true) else (if a0 = 33 then (some true) else (if a0 = 61 then (some true) else (if a0 = 126 then (some true) else (if a0 = 44 then (some true) else (if a0 = 92 then (some true) else (if a0 = 34 then (some true) else (if a0 = 39 then (some true) else (if a0 = 96 then (some true) else ((spec_blank.f a0).bind fun t149 => (some t149)))))))))))
set_option maxHeartbeats 8000000 in
set_option maxRecDepth 100000 in
theorem spec_reserved.calls (a0 : Int) (r : Bool) (w : World) (h : spec_reserved.f a0 = some r) :
    Calls Tryd.prog 28 #[.int .u8 a0] w fun e w' => e = .returned (.bool r) ∧ Drawn0 w w' := by
  have H : (if a0 = 123 then (some true) else (if a0 = 125 then (some true) else (if a0 = 33 then (some true) else (if a0 = 61 then (some true) else (if a0 = 126 then (some true) else (if a0 = 44 then (some true) else (if a0 = 92 then (some true) else (if a0 = 34 then (some true) else (if a0 = 39 then (some true) else (if a0 = 96 then (some true) else ((spec_blank.f a0).bind fun t149 => (some t149)))))))))))) = some r := h
  clear h
  by_cases c2 : a0 = 123
  · rw [if_pos c2] at H
    have c2b0 : (a0 == 123) = true := beq_iff_eq.mpr c2
    have c2b1 : (a0 != 123) = false := bne_eq_false_iff_eq.mpr c2
    clear c2
    obtain rfl := Option.some.inj H
    go_enter Tryd.func28, Tryd.ntmps28
    go_wp2
    go_ret
    exact ⟨by first | rfl | (simp; done) | (simp [*]; done), by repeat (first | exact Drawn0.refl _ | apply Drawn0.step)⟩
  · rw [if_neg c2] at H
    have c2b0 : (a0 == 123) = false := beq_eq_false_iff_ne.mpr c2
    have c2b1 : (a0 != 123) = true := bne_iff_ne.mpr c2
    by_cases c3 : a0 = 125
    · rw [if_pos c3] at H
      have c3b0 : (a0 == 125) = true := beq_iff_eq.mpr c3
      have c3b1 : (a0 != 125) = false := bne_eq_false_iff_eq.mpr c3
      clear c3
      obtain rfl := Option.some.inj H
      go_enter Tryd.func28, Tryd.ntmps28
      go_wp2
      go_ret
      exact ⟨by first | rfl | (simp; done) | (simp [*]; done), by repeat (first | exact Drawn0.refl _ | apply Drawn0.step)⟩
    · rw [if_neg c3] at H
      have c3b0 : (a0 == 125) = false := beq_eq_false_iff_ne.mpr c3
      have c3b1 : (a0 != 125) = true := bne_iff_ne.mpr c3
      by_cases c4 : a0 = 33
      · rw [if_pos c4] at H
        have c4b0 : (a0 == 33) = true := beq_iff_eq.mpr c4
        have c4b1 : (a0 != 33) = false := bne_eq_false_iff_eq.mpr c4
        clear c4
        obtain rfl := Option.some.inj H
        go_enter Tryd.func28, Tryd.ntmps28
        go_wp2
        go_ret
        exact ⟨by first | rfl | (simp; done) | (simp [*]; done), by repeat (first | exact Drawn0.refl _ | apply Drawn0.step)⟩
      · rw [if_neg c4] at H
        have c4b0 : (a0 == 33) = false := beq_eq_false_iff_ne.mpr c4
        have c4b1 : (a0 != 33) = true := bne_iff_ne.mpr c4
        by_cases c5 : a0 = 61
        · rw [if_pos c5] at H
          have c5b0 : (a0 == 61) = true := beq_iff_eq.mpr c5
          have c5b1 : (a0 != 61) = false := bne_eq_false_iff_eq.mpr c5
          clear c5
          obtain rfl := Option.some.inj H
          go_enter Tryd.func28, Tryd.ntmps28
          go_wp2
          go_ret
          exact ⟨by first | rfl | (simp; done) | (simp [*]; done), by repeat (first | exact Drawn0.refl _ | apply Drawn0.step)⟩
        · rw [if_neg c5] at H
          have c5b0 : (a0 == 61) = false := beq_eq_false_iff_ne.mpr c5
          have c5b1 : (a0 != 61) = true := bne_iff_ne.mpr c5
          by_cases c6 : a0 = 126
          · rw [if_pos c6] at H
            have c6b0 : (a0 == 126) = true := beq_iff_eq.mpr c6
            have c6b1 : (a0 != 126) = false := bne_eq_false_iff_eq.mpr c6
            clear c6
            obtain rfl := Option.some.inj H
            go_enter Tryd.func28, Tryd.ntmps28
            go_wp2
            go_ret
            exact ⟨by first | rfl | (simp; done) | (simp [*]; done), by repeat (first | exact Drawn0.refl _ | apply Drawn0.step)⟩
          · rw [if_neg c6] at H
            have c6b0 : (a0 == 126) = false := beq_eq_false_iff_ne.mpr c6
            have c6b1 : (a0 != 126) = true := bne_iff_ne.mpr c6
            by_cases c7 : a0 = 44
            · rw [if_pos c7] at H
              have c7b0 : (a0 == 44) = true := beq_iff_eq.mpr c7
              have c7b1 : (a0 != 44) = false := bne_eq_false_iff_eq.mpr c7
              clear c7
              obtain rfl := Option.some.inj H
              go_enter Tryd.func28, Tryd.ntmps28
              go_wp2
              go_ret
              exact ⟨by first | rfl | (simp; done) | (simp [*]; done), by repeat (first | exact Drawn0.refl _ | apply Drawn0.step)⟩
            · rw [if_neg c7] at H
              have c7b0 : (a0 == 44) = false := beq_eq_false_iff_ne.mpr c7
              have c7b1 : (a0 != 44) = true := bne_iff_ne.mpr c7
              by_cases c8 : a0 = 92
              · rw [if_pos c8] at H
                have c8b0 : (a0 == 92) = true := beq_iff_eq.mpr c8
                have c8b1 : (a0 != 92) = false := bne_eq_false_iff_eq.mpr c8
                clear c8
                obtain rfl := Option.some.inj H
                go_enter Tryd.func28, Tryd.ntmps28
                go_wp2
                go_ret
                exact ⟨by first | rfl | (simp; done) | (simp [*]; done), by repeat (first | exact Drawn0.refl _ | apply Drawn0.step)⟩
              · rw [if_neg c8] at H
                have c8b0 : (a0 == 92) = false := beq_eq_false_iff_ne.mpr c8
                have c8b1 : (a0 != 92) = true := bne_iff_ne.mpr c8
                by_cases c9 : a0 = 34
                · rw [if_pos c9] at H
                  have c9b0 : (a0 == 34) = true := beq_iff_eq.mpr c9
                  have c9b1 : (a0 != 34) = false := bne_eq_false_iff_eq.mpr c9
                  clear c9
                  obtain rfl := Option.some.inj H
                  go_enter Tryd.func28, Tryd.ntmps28
                  go_wp2
                  go_ret
                  exact ⟨by first | rfl | (simp; done) | (simp [*]; done), by repeat (first | exact Drawn0.refl _ | apply Drawn0.step)⟩
                · rw [if_neg c9] at H
                  have c9b0 : (a0 == 34) = false := beq_eq_false_iff_ne.mpr c9
                  have c9b1 : (a0 != 34) = true := bne_iff_ne.mpr c9
                  by_cases c10 : a0 = 39
                  · rw [if_pos c10] at H
                    have c10b0 : (a0 == 39) = true := beq_iff_eq.mpr c10
                    have c10b1 : (a0 != 39) = false := bne_eq_false_iff_eq.mpr c10
                    clear c10
                    obtain rfl := Option.some.inj H
                    go_enter Tryd.func28, Tryd.ntmps28
                    go_wp2
                    go_ret
                    exact ⟨by first | rfl | (simp; done) | (simp [*]; done), by repeat (first | exact Drawn0.refl _ | apply Drawn0.step)⟩
                  · rw [if_neg c10] at H
                    have c10b0 : (a0 == 39) = false := beq_eq_false_iff_ne.mpr c10
                    have c10b1 : (a0 != 39) = true := bne_iff_ne.mpr c10
                    by_cases c11 : a0 = 96
                    · rw [if_pos c11] at H
                      have c11b0 : (a0 == 96) = true := beq_iff_eq.mpr c11
                      have c11b1 : (a0 != 96) = false := bne_eq_false_iff_eq.mpr c11
                      clear c11
                      obtain rfl := Option.some.inj H
                      go_enter Tryd.func28, Tryd.ntmps28
                      go_wp2
                      go_ret
                      exact ⟨by first | rfl | (simp; done) | (simp [*]; done), by repeat (first | exact Drawn0.refl _ | apply Drawn0.step)⟩
                    · rw [if_neg c11] at H
                      have c11b0 : (a0 == 96) = false := beq_eq_false_iff_ne.mpr c11
                      have c11b1 : (a0 != 96) = true := bne_iff_ne.mpr c11
                      replace H := Option.bind_eq_some_iff.mp H
                      obtain ⟨t149, A120, H⟩ := H
                      replace H : (some t149) = some r := H
                      have A12 := Aside0.mk A120
                      clear A120
                      obtain rfl := Option.some.inj H
                      go_enter Tryd.func28, Tryd.ntmps28
                      go_wp2_with (first | ((with_reducible refine gate_callee (f := 46) rfl ?_); refine goesL_ (some 16) rfl rfl Tryd.func46 (by kernel_rfl) rfl #[.int .u8 a0] rfl (by (try simp only [List.map_toArray, List.map_cons, List.map_nil]); first | done | rfl | (simp only [List.length_drop, List.length_take]; rfl)) ?_; (with_reducible refine (spec_blank.calls a0 t149 _ A12.out).mono ?_); rintro e w' ⟨rfl, ⟨nd, rfl⟩⟩; refine ⟨_, rfl, ?_⟩))
                      go_ret
                      exact ⟨by first | rfl | (simp; done) | (simp [*]; done), by repeat (first | exact Drawn0.refl _ | apply Drawn0.step)⟩

/-! ### spec_Operator: function 29 -/
def spec_Operator.f (a0 : Int) : Option (ByteArray) := if a0 = 0 then (some (⟨#[61]⟩ : ByteArray)) else (if a0 = 1 then (some (⟨#[33, 61]⟩ : ByteArray)) else (if a0 = 2 then (some (⟨#[61, 126]⟩ : ByteArray)) else (some (⟨#[33, 126]⟩ : ByteArray))))
set_option maxHeartbeats 8000000 in
set_option maxRecDepth 100000 in
theorem spec_Operator.calls (a0 : Int) (r : ByteArray) (w : World) (h : spec_Operator.f a0 = some r) :
    Calls Tryd.prog 29 #[.int .i64 a0] w fun e w' => e = .returned (.string r) ∧ Drawn0 w w' := by
  have H : (if a0 = 0 then (some (⟨#[61]⟩ : ByteArray)) else (if a0 = 1 then (some (⟨#[33, 61]⟩ : ByteArray)) else (if a0 = 2 then (some (⟨#[61, 126]⟩ : ByteArray)) else (some (⟨#[33, 126]⟩ : ByteArray))))) = some r := h
  clear h
  by_cases c2 : a0 = 0
  · rw [if_pos c2] at H
    have c2b0 : (a0 == 0) = true := beq_iff_eq.mpr c2
    have c2b1 : (a0 != 0) = false := bne_eq_false_iff_eq.mpr c2
    clear c2
    obtain rfl := Option.some.inj H
    go_enter Tryd.func29, Tryd.ntmps29
    go_wp2
    go_ret
    exact ⟨by first | rfl | (simp; done) | (simp [*]; done), by repeat (first | exact Drawn0.refl _ | apply Drawn0.step)⟩
  · rw [if_neg c2] at H
    have c2b0 : (a0 == 0) = false := beq_eq_false_iff_ne.mpr c2
    have c2b1 : (a0 != 0) = true := bne_iff_ne.mpr c2
    by_cases c3 : a0 = 1
    · rw [if_pos c3] at H
      have c3b0 : (a0 == 1) = true := beq_iff_eq.mpr c3
      have c3b1 : (a0 != 1) = false := bne_eq_false_iff_eq.mpr c3
      clear c3
      obtain rfl := Option.some.inj H
      go_enter Tryd.func29, Tryd.ntmps29
      go_wp2
      go_ret
      exact ⟨by first | rfl | (simp; done) | (simp [*]; done), by repeat (first | exact Drawn0.refl _ | apply Drawn0.step)⟩
    · rw [if_neg c3] at H
      have c3b0 : (a0 == 1) = false := beq_eq_false_iff_ne.mpr c3
      have c3b1 : (a0 != 1) = true := bne_iff_ne.mpr c3
      by_cases c4 : a0 = 2
      · rw [if_pos c4] at H
        have c4b0 : (a0 == 2) = true := beq_iff_eq.mpr c4
        have c4b1 : (a0 != 2) = false := bne_eq_false_iff_eq.mpr c4
        clear c4
        obtain rfl := Option.some.inj H
        go_enter Tryd.func29, Tryd.ntmps29
        go_wp2
        go_ret
        exact ⟨by first | rfl | (simp; done) | (simp [*]; done), by repeat (first | exact Drawn0.refl _ | apply Drawn0.step)⟩
      · rw [if_neg c4] at H
        have c4b0 : (a0 == 2) = false := beq_eq_false_iff_ne.mpr c4
        have c4b1 : (a0 != 2) = true := bne_iff_ne.mpr c4
        obtain rfl := Option.some.inj H
        go_enter Tryd.func29, Tryd.ntmps29
        go_wp2
        go_ret
        exact ⟨by first | rfl | (simp; done) | (simp [*]; done), by repeat (first | exact Drawn0.refl _ | apply Drawn0.step)⟩

/-! ### spec_PrintMatcher: function 10 -/
mutual
def spec_PrintMatcher.j0 : Nat → ByteArray → ByteArray → Bool → Int → ByteArray → ByteArray → Option (ByteArray × Int)
  | 0, _, _, _, _, _, _ => none
  | k + 1, x4, x6, x42, x151000, x151001, x151002 => if x42 = true then (some ((⟨#[]⟩ : ByteArray), 2)) else (spec_PrintMatcher.l0 k x4 x6 true (x151001.size : Int) 0 x151000 x151001 x151002)
def spec_PrintMatcher.l0 : Nat → ByteArray → ByteArray → Bool → Int → Int → Int → ByteArray → ByteArray → Option (ByteArray × Int)
  | 0, _, _, _, _, _, _, _, _ => none
  | k + 1, x4, x6, x8, x45, x46, x151000, x151001, x151002 => if x46 < x45 then (if x8 = true then (if 0 ≤ x46 then (if x46 < (x151001.size : Int) then ((spec_reserved.f (bt x151001 x46)).bind fun t155 => (spec_PrintMatcher.l0 k x4 x6 (!t155) x45 (wrap64 (x46 + 1)) x151000 x151001 x151002)) else (none)) else (none)) else (spec_PrintMatcher.l0 k x4 x6 false x45 (wrap64 (x46 + 1)) x151000 x151001 x151002)) else (if x8 = true then ((spec_Operator.f x151000).bind fun t156 => (if x151001.size + t156.size ≤ 9223372036854775807 then (if (x151001 ++ t156).size + x4.size ≤ 9223372036854775807 then (some ((x151001 ++ t156) ++ x4, 1)) else (none)) else (none))) else ((spec_Operator.f x151000).bind fun t157 => (if x6.size + t157.size ≤ 9223372036854775807 then (if (x6 ++ t157).size + x4.size ≤ 9223372036854775807 then (some ((x6 ++ t157) ++ x4, 1)) else (none)) else (none))))
end
def spec_PrintMatcher.f (k : Nat) (a0_0 : Int) (a0_1 : ByteArray) (a0_2 : ByteArray) : Option (ByteArray × Int) := (spec_Quoted.f k a0_2).bind fun bt151 => ((spec_Quoted.f k a0_1).bind fun bt153 => (if bt151.2 = 1 then (if bt153.2 = 1 then (if a0_1.toList = ([] : List UInt8) then (spec_PrintMatcher.j0 k bt151.1 bt153.1 true a0_0 a0_1 a0_2) else (if a0_0 < 0 then (spec_PrintMatcher.j0 k bt151.1 bt153.1 true a0_0 a0_1 a0_2) else (spec_PrintMatcher.j0 k bt151.1 bt153.1 (decide (a0_0 > 3)) a0_0 a0_1 a0_2))) else (spec_PrintMatcher.j0 k bt151.1 bt153.1 true a0_0 a0_1 a0_2)) else (spec_PrintMatcher.j0 k bt151.1 bt153.1 true a0_0 a0_1 a0_2)))
theorem spec_PrintMatcher.mono_l : ∀ k, (∀ y0 y1 y2 y3 y4 y5, LeO (spec_PrintMatcher.j0 k y0 y1 y2 y3 y4 y5) (spec_PrintMatcher.j0 (k + 1) y0 y1 y2 y3 y4 y5)) ∧ (∀ y0 y1 y2 y3 y4 y5 y6 y7, LeO (spec_PrintMatcher.l0 k y0 y1 y2 y3 y4 y5 y6 y7) (spec_PrintMatcher.l0 (k + 1) y0 y1 y2 y3 y4 y5 y6 y7))
  | 0 => ⟨fun _ _ _ _ _ _ r h => by simp [spec_PrintMatcher.j0] at h, fun _ _ _ _ _ _ _ _ r h => by simp [spec_PrintMatcher.l0] at h⟩
  | k + 1 => by
    obtain ⟨ih0, ih1⟩ := spec_PrintMatcher.mono_l k
    refine ⟨?_, ?_⟩
    · intro y0 y1 y2 y3 y4 y5
      unfold spec_PrintMatcher.j0
      repeat' first
      | (with_reducible exact ih0 _ _ _ _ _ _)
      | (with_reducible exact ih1 _ _ _ _ _ _ _ _)
      | (with_reducible exact spec_Quoted.mono _ _)
      | (with_reducible exact LeO.refl _)
      | (with_reducible exact LeO.none _)
      | (with_reducible refine LeO.ite ?_ ?_)
      | (with_reducible refine LeO.bind ?_ (fun _ => ?_))
      | exact ih0 _ _ _ _ _ _
      | exact ih1 _ _ _ _ _ _ _ _
      | exact spec_Quoted.mono _ _
      | exact LeO.none _
      | refine LeO.ite ?_ ?_
      | refine LeO.bind ?_ (fun _ => ?_)
    · intro y0 y1 y2 y3 y4 y5 y6 y7
      unfold spec_PrintMatcher.l0
      repeat' first
      | (with_reducible exact ih0 _ _ _ _ _ _)
      | (with_reducible exact ih1 _ _ _ _ _ _ _ _)
      | (with_reducible exact spec_Quoted.mono _ _)
      | (with_reducible exact LeO.refl _)
      | (with_reducible exact LeO.none _)
      | (with_reducible refine LeO.ite ?_ ?_)
      | (with_reducible refine LeO.bind ?_ (fun _ => ?_))
      | exact ih0 _ _ _ _ _ _
      | exact ih1 _ _ _ _ _ _ _ _
      | exact spec_Quoted.mono _ _
      | exact LeO.none _
      | refine LeO.ite ?_ ?_
      | refine LeO.bind ?_ (fun _ => ?_)
theorem spec_PrintMatcher.mono : ∀ a0 a1 a2 k, LeO (spec_PrintMatcher.f k a0 a1 a2) (spec_PrintMatcher.f (k + 1) a0 a1 a2) := by
  intro a0 a1 a2 k
  obtain ⟨ih0, ih1⟩ := spec_PrintMatcher.mono_l k
  unfold spec_PrintMatcher.f
  repeat' first
      | (with_reducible exact ih0 _ _ _ _ _ _)
      | (with_reducible exact ih1 _ _ _ _ _ _ _ _)
      | (with_reducible exact spec_Quoted.mono _ _)
      | (with_reducible exact LeO.refl _)
      | (with_reducible exact LeO.none _)
      | (with_reducible refine LeO.ite ?_ ?_)
      | (with_reducible refine LeO.bind ?_ (fun _ => ?_))
      | exact ih0 _ _ _ _ _ _
      | exact ih1 _ _ _ _ _ _ _ _
      | exact spec_Quoted.mono _ _
      | exact LeO.none _
      | refine LeO.ite ?_ ?_
      | refine LeO.bind ?_ (fun _ => ?_)
set_option maxHeartbeats 8000000 in
set_option maxRecDepth 100000 in
theorem spec_PrintMatcher.calls (k : Nat) (a0_0 : Int) (a0_1 : ByteArray) (a0_2 : ByteArray) (r1 : ByteArray) (r2 : Int) (w : World) (h : spec_PrintMatcher.f k a0_0 a0_1 a0_2 = some (r1, r2)) :
    Calls Tryd.prog 10 #[.agg #[.int .i64 a0_0, .string a0_1, .string a0_2]] w fun e w' => e = .returned (.tuple #[.string r1, .int .i64 r2]) ∧ Below w.heap.size w w' := by
  have hu28 := Tryd.underlying28
  have HB := Aside0.mk (Below.refl w.heap.size w)
  have H : ((spec_Quoted.f k a0_2).bind fun bt151 => ((spec_Quoted.f k a0_1).bind fun bt153 => (if bt151.2 = 1 then (if bt153.2 = 1 then (if a0_1.toList = ([] : List UInt8) then (spec_PrintMatcher.j0 k bt151.1 bt153.1 true a0_0 a0_1 a0_2) else (if a0_0 < 0 then (spec_PrintMatcher.j0 k bt151.1 bt153.1 true a0_0 a0_1 a0_2) else (spec_PrintMatcher.j0 k bt151.1 bt153.1 (decide (a0_0 > 3)) a0_0 a0_1 a0_2))) else (spec_PrintMatcher.j0 k bt151.1 bt153.1 true a0_0 a0_1 a0_2)) else (spec_PrintMatcher.j0 k bt151.1 bt153.1 true a0_0 a0_1 a0_2)))) = some (r1, r2) := h
  clear h
  replace H := Option.bind_eq_some_iff.mp H
  obtain ⟨⟨t151, t152⟩, A20, H⟩ := H
  replace H : ((spec_Quoted.f k a0_1).bind fun bt153 => (if t152 = 1 then (if bt153.2 = 1 then (if a0_1.toList = ([] : List UInt8) then (spec_PrintMatcher.j0 k t151 bt153.1 true a0_0 a0_1 a0_2) else (if a0_0 < 0 then (spec_PrintMatcher.j0 k t151 bt153.1 true a0_0 a0_1 a0_2) else (spec_PrintMatcher.j0 k t151 bt153.1 (decide (a0_0 > 3)) a0_0 a0_1 a0_2))) else (spec_PrintMatcher.j0 k t151 bt153.1 true a0_0 a0_1 a0_2)) else (spec_PrintMatcher.j0 k t151 bt153.1 true a0_0 a0_1 a0_2))) = some (r1, r2) := H
  have A2 := Aside0.mk A20
  clear A20
  replace H := Option.bind_eq_some_iff.mp H
  obtain ⟨⟨t153, t154⟩, A30, H⟩ := H
  replace H : (if t152 = 1 then (if t154 = 1 then (if a0_1.toList = ([] : List UInt8) then (spec_PrintMatcher.j0 k t151 t153 true a0_0 a0_1 a0_2) else (if a0_0 < 0 then (spec_PrintMatcher.j0 k t151 t153 true a0_0 a0_1 a0_2) else (spec_PrintMatcher.j0 k t151 t153 (decide (a0_0 > 3)) a0_0 a0_1 a0_2))) else (spec_PrintMatcher.j0 k t151 t153 true a0_0 a0_1 a0_2)) else (spec_PrintMatcher.j0 k t151 t153 true a0_0 a0_1 a0_2)) = some (r1, r2) := H
  have A3 := Aside0.mk A30
  clear A30
  have HC4 := Aside0.mk H
  clear H
  go_enter Tryd.func10, Tryd.ntmps10
  go_upto_region 3 with (first | ((with_reducible refine gate_dst (N := 1) rfl ?_); refine box_event ?hg (N := 1) ?hd (cs := #[.int .i64 a0_0, .string a0_1, .string a0_2]) (t := 28) ?hr ?_; (case hd => rfl); (case hg => rfl); (case hr => first | (go_simp; done) | (go_simp; rfl)); intro gb150 hg w5 hbox hb; have n0_ := Aside0.mk (below_step (by repeat (first | (with_reducible first | exact HB.out | apply below_alloc | apply pw_below_drewN | apply below_drew1) | exact HB.out)) hb); have n1_ := Aside0.mk (hbox); have n2_ := Aside0.mk ((by rw [hg]; exact (below_size (by repeat (first | (with_reducible first | exact HB.out | apply below_alloc | apply pw_below_drewN | apply below_drew1) | exact HB.out))) : w.heap.size ≤ gb150)); have n3_ := Aside0.mk ((by rw [hg]; exact (below_size (by repeat (first | (with_reducible first | exact HB.out | apply below_alloc | apply pw_below_drewN | apply below_drew1) | exact HB.out))) : w.heap.size ≤ gb150)); clear HB; have HB := n0_; have BK150 := n1_; have GW150 := n2_; have GE150 := n3_; clear n0_ n1_ n2_ n3_; clear hb hbox hg; have hcz6_0 : w5.cell? ⟨gb150, 0, none⟩ = some (.int .i64 a0_0) := (blk_cell BK150.out 0).trans rfl; have hcz6_1 : w5.cell? ⟨gb150, 1, none⟩ = some (.string a0_1) := (blk_cell BK150.out 1).trans rfl; have hcz6_2 : w5.cell? ⟨gb150, 2, none⟩ = some (.string a0_2) := (blk_cell BK150.out 2).trans rfl; have hfz6_0 := blk_frozen BK150.out 0; have hfz6_1 := blk_frozen BK150.out 1; have hfz6_2 := blk_frozen BK150.out 2) | ((with_reducible refine gate_callee (f := 27) rfl ?_); refine goesL_ (some 13) rfl rfl Tryd.func27 (by kernel_rfl) rfl #[.string a0_2] rfl (by (try simp only [List.map_toArray, List.map_cons, List.map_nil]); first | done | rfl | (simp only [List.length_drop, List.length_take]; rfl)) ?_; (with_reducible refine (spec_Quoted.calls k a0_2 t151 t152 _ A2.out).mono ?_); rintro e w7 ⟨rfl, hb⟩; refine ⟨_, rfl, ?_⟩; have n0_ := Aside0.mk (blk_below (g := gb150) (o := .cells #[.int .i64 a0_0, .string a0_1, .string a0_2] 28 (0, 0)) (by (with_reducible repeat (first | refine blk_drewN ?_ _ | refine blk_drew ?_ | refine blk_alloc ?_ _)); exact BK150.out) hb); have n1_ := Aside0.mk (below_step (by repeat (first | (with_reducible first | exact HB.out | apply below_alloc | apply pw_below_drewN | apply below_drew1 | refine below_set ?_ GE150.out) | exact HB.out)) hb); clear BK150; clear HB; have BK150 := n0_; have HB := n1_; clear n0_ n1_; (try clear hb); (try clear hb2); (try clear hk); (try clear hi); have hcz8_0 : w7.cell? ⟨gb150, 0, none⟩ = some (.int .i64 a0_0) := (blk_cell BK150.out 0).trans rfl; have hcz8_1 : w7.cell? ⟨gb150, 1, none⟩ = some (.string a0_1) := (blk_cell BK150.out 1).trans rfl; have hcz8_2 : w7.cell? ⟨gb150, 2, none⟩ = some (.string a0_2) := (blk_cell BK150.out 2).trans rfl; have hfz8_0 := blk_frozen BK150.out 0; have hfz8_1 := blk_frozen BK150.out 1; have hfz8_2 := blk_frozen BK150.out 2) | ((with_reducible refine gate_callee (f := 27) rfl ?_); refine goesL_ (some 19) rfl rfl Tryd.func27 (by kernel_rfl) rfl #[.string a0_1] rfl (by (try simp only [List.map_toArray, List.map_cons, List.map_nil]); first | done | rfl | (simp only [List.length_drop, List.length_take]; rfl)) ?_; (with_reducible refine (spec_Quoted.calls k a0_1 t153 t154 _ A3.out).mono ?_); rintro e w9 ⟨rfl, hb⟩; refine ⟨_, rfl, ?_⟩; have n0_ := Aside0.mk (blk_below (g := gb150) (o := .cells #[.int .i64 a0_0, .string a0_1, .string a0_2] 28 (0, 0)) (by (with_reducible repeat (first | refine blk_drewN ?_ _ | refine blk_drew ?_ | refine blk_alloc ?_ _)); exact BK150.out) hb); have n1_ := Aside0.mk (below_step (by repeat (first | (with_reducible first | exact HB.out | apply below_alloc | apply pw_below_drewN | apply below_drew1 | refine below_set ?_ GE150.out) | exact HB.out)) hb); clear BK150; clear HB; have BK150 := n0_; have HB := n1_; clear n0_ n1_; (try clear hb); (try clear hb2); (try clear hk); (try clear hi)))
  (try simp only [Act.put, List.setIfInBounds_toArray, List.set_cons_zero, List.set_cons_succ])
  go_cut [42] (fun v42 wc => ∃ (kq : Nat) (x42_3 : Bool), v42 = .bool x42_3 ∧ Aside0 (spec_PrintMatcher.j0 kq t151 t153 x42_3 a0_0 a0_1 a0_2 = some (r1, r2)) ∧ Aside0 (kq ≤ k) ∧ Aside0 (wc.heap[gb150]? = some (.cells #[.int .i64 a0_0, .string a0_1, .string a0_2] 28 (0, 0))) ∧ Aside0 (Below w.heap.size w wc))
  case first =>
    have H := HC4.out
    clear HC4
    by_cases c10 : t152 = 1
    · rw [if_pos c10] at H
      have c10b0 : (t152 == 1) = true := beq_iff_eq.mpr c10
      have c10b1 : (t152 != 1) = false := bne_eq_false_iff_eq.mpr c10
      clear c10
      (first | rw [c10b0] | (simp only [i64_w, i32_w]; rw [c10b0]) | skip)
      by_cases c11 : t154 = 1
      · rw [if_pos c11] at H
        have c11b0 : (t154 == 1) = true := beq_iff_eq.mpr c11
        have c11b1 : (t154 != 1) = false := bne_eq_false_iff_eq.mpr c11
        clear c11
        by_cases c12 : a0_1.toList = ([] : List UInt8)
        · rw [if_pos c12] at H
          have c12b0 : (a0_1.toList == ([] : List UInt8)) = true := beq_iff_eq.mpr c12
          have c12b1 : (a0_1.toList != ([] : List UInt8)) = false := bne_eq_false_iff_eq.mpr c12
          clear c12
          have H' := Aside0.mk H
          clear H
          have hcz13_0 : w9.cell? ⟨gb150, 0, none⟩ = some (.int .i64 a0_0) := (blk_cell BK150.out 0).trans rfl
          have hcz13_1 : w9.cell? ⟨gb150, 1, none⟩ = some (.string a0_1) := (blk_cell BK150.out 1).trans rfl
          have hcz13_2 : w9.cell? ⟨gb150, 2, none⟩ = some (.string a0_2) := (blk_cell BK150.out 2).trans rfl
          have hfz13_0 := blk_frozen BK150.out 0
          have hfz13_1 := blk_frozen BK150.out 1
          have hfz13_2 := blk_frozen BK150.out 2
          go_wp2
          go_meet
          case rel => exact ⟨_, (true), (by first | rfl | (simp; done) | (simp [*]; done)), H', ⟨by first | omega | exact Nat.le_refl _⟩, ⟨by (with_reducible repeat (first | refine blk_drewN ?_ _ | refine blk_drew ?_ | refine blk_alloc ?_ _)); exact BK150.out⟩, ⟨by repeat (first | (with_reducible first | exact HB.out | apply below_alloc | apply pw_below_drewN | apply below_drew1 | refine below_set ?_ GE150.out) | exact HB.out)⟩⟩
        · rw [if_neg c12] at H
          have c12b0 : (a0_1.toList == ([] : List UInt8)) = false := beq_eq_false_iff_ne.mpr c12
          have c12b1 : (a0_1.toList != ([] : List UInt8)) = true := bne_iff_ne.mpr c12
          by_cases c14 : a0_0 < 0
          · rw [if_pos c14] at H
            have c14b0 : decide (a0_0 < 0) = true := decide_eq_true c14
            clear c14
            have H' := Aside0.mk H
            clear H
            have hcz15_0 : w9.cell? ⟨gb150, 0, none⟩ = some (.int .i64 a0_0) := (blk_cell BK150.out 0).trans rfl
            have hcz15_1 : w9.cell? ⟨gb150, 1, none⟩ = some (.string a0_1) := (blk_cell BK150.out 1).trans rfl
            have hcz15_2 : w9.cell? ⟨gb150, 2, none⟩ = some (.string a0_2) := (blk_cell BK150.out 2).trans rfl
            have hfz15_0 := blk_frozen BK150.out 0
            have hfz15_1 := blk_frozen BK150.out 1
            have hfz15_2 := blk_frozen BK150.out 2
            go_wp2
            go_meet
            case rel => exact ⟨_, (true), (by first | rfl | (simp; done) | (simp [*]; done)), H', ⟨by first | omega | exact Nat.le_refl _⟩, ⟨by (with_reducible repeat (first | refine blk_drewN ?_ _ | refine blk_drew ?_ | refine blk_alloc ?_ _)); exact BK150.out⟩, ⟨by repeat (first | (with_reducible first | exact HB.out | apply below_alloc | apply pw_below_drewN | apply below_drew1 | refine below_set ?_ GE150.out) | exact HB.out)⟩⟩
          · rw [if_neg c14] at H
            have c14b0 : decide (a0_0 < 0) = false := decide_eq_false c14
            clear c14
            have H' := Aside0.mk H
            clear H
            have hcz16_0 : w9.cell? ⟨gb150, 0, none⟩ = some (.int .i64 a0_0) := (blk_cell BK150.out 0).trans rfl
            have hcz16_1 : w9.cell? ⟨gb150, 1, none⟩ = some (.string a0_1) := (blk_cell BK150.out 1).trans rfl
            have hcz16_2 : w9.cell? ⟨gb150, 2, none⟩ = some (.string a0_2) := (blk_cell BK150.out 2).trans rfl
            have hfz16_0 := blk_frozen BK150.out 0
            have hfz16_1 := blk_frozen BK150.out 1
            have hfz16_2 := blk_frozen BK150.out 2
            go_wp2
            go_meet
            case rel => exact ⟨_, (decide (a0_0 > 3)), (by first | rfl | (simp; done) | (simp [*]; done)), H', ⟨by first | omega | exact Nat.le_refl _⟩, ⟨by (with_reducible repeat (first | refine blk_drewN ?_ _ | refine blk_drew ?_ | refine blk_alloc ?_ _)); exact BK150.out⟩, ⟨by repeat (first | (with_reducible first | exact HB.out | apply below_alloc | apply pw_below_drewN | apply below_drew1 | refine below_set ?_ GE150.out) | exact HB.out)⟩⟩
      · rw [if_neg c11] at H
        have c11b0 : (t154 == 1) = false := beq_eq_false_iff_ne.mpr c11
        have c11b1 : (t154 != 1) = true := bne_iff_ne.mpr c11
        have H' := Aside0.mk H
        clear H
        go_wp2
        go_meet
        case rel => exact ⟨_, (true), (by first | rfl | (simp; done) | (simp [*]; done)), H', ⟨by first | omega | exact Nat.le_refl _⟩, ⟨by (with_reducible repeat (first | refine blk_drewN ?_ _ | refine blk_drew ?_ | refine blk_alloc ?_ _)); exact BK150.out⟩, ⟨by repeat (first | (with_reducible first | exact HB.out | apply below_alloc | apply pw_below_drewN | apply below_drew1 | refine below_set ?_ GE150.out) | exact HB.out)⟩⟩
    · rw [if_neg c10] at H
      have c10b0 : (t152 == 1) = false := beq_eq_false_iff_ne.mpr c10
      have c10b1 : (t152 != 1) = true := bne_iff_ne.mpr c10
      (first | rw [c10b0] | (simp only [i64_w, i32_w]; rw [c10b0]) | skip)
      have H' := Aside0.mk H
      clear H
      go_wp2
      go_meet
      case rel => exact ⟨_, (true), (by first | rfl | (simp; done) | (simp [*]; done)), H', ⟨by first | omega | exact Nat.le_refl _⟩, ⟨by (with_reducible repeat (first | refine blk_drewN ?_ _ | refine blk_drew ?_ | refine blk_alloc ?_ _)); exact BK150.out⟩, ⟨by repeat (first | (with_reducible first | exact HB.out | apply below_alloc | apply pw_below_drewN | apply below_drew1 | refine below_set ?_ GE150.out) | exact HB.out)⟩⟩
  case rest =>
    clear HC4
    try clear c1
    try clear c2
    try clear p2
    try clear c10
    try clear c10b0
    try clear c10b1
    try clear c11
    try clear c11b0
    try clear c11b1
    try clear c12
    try clear c12b0
    try clear c12b1
    try clear c14
    try clear c14b0
    try clear hcz13_0
    try clear hcz13_1
    try clear hcz13_2
    try clear hcz15_0
    try clear hcz15_1
    try clear hcz15_2
    try clear hcz16_0
    try clear hcz16_1
    try clear hcz16_2
    try clear hcz6_0
    try clear hcz6_1
    try clear hcz6_2
    try clear hcz8_0
    try clear hcz8_1
    try clear hcz8_2
    try clear hfz13_0
    try clear hfz13_1
    try clear hfz13_2
    try clear hfz15_0
    try clear hfz15_1
    try clear hfz15_2
    try clear hfz16_0
    try clear hfz16_1
    try clear hfz16_2
    try clear hfz6_0
    try clear hfz6_1
    try clear hfz6_2
    try clear hfz8_0
    try clear hfz8_1
    try clear hfz8_2
    obtain ⟨kq, x42_3, rfl, HA, HJ3, BK150, HB⟩ := hcut
    cases kq with
    | zero => exact absurd HA.out (by simp [spec_PrintMatcher.j0])
    | succ kj3 =>
      have H := HA.out
      clear HA
      simp only [spec_PrintMatcher.j0] at H
      by_cases c17 : x42_3 = true
      · subst c17
        have H1 : (some ((⟨#[]⟩ : ByteArray), 2)) = some (r1, r2) := by rw [if_pos rfl] at H; exact H
        clear H
        have H := H1
        clear H1
        simp only [Option.some.injEq, Prod.mk.injEq] at H
        obtain ⟨rfl, rfl⟩ := H
        go_wp2
        go_ret2
        exact ⟨by first | rfl | (simp [errW_none, errW_some] <;> rfl) | (simp [*, errW_none, errW_some] <;> rfl), by repeat (first | (with_reducible first | exact HB.out | apply below_alloc | apply pw_below_drewN | apply below_drew1 | refine below_set ?_ GE150.out) | exact HB.out)⟩
      · replace c17 := Bool.eq_false_iff.mpr c17
        subst c17
        have H1 : (spec_PrintMatcher.l0 kj3 t151 t153 true (a0_1.size : Int) 0 a0_0 a0_1 a0_2) = some (r1, r2) := by rw [if_neg (show ¬ (false = true) by decide)] at H; exact H
        clear H
        have H := H1
        clear H1
        have H' := Aside0.mk H
        clear H
        have hcz18_0 : wc.cell? ⟨gb150, 0, none⟩ = some (.int .i64 a0_0) := (blk_cell BK150.out 0).trans rfl
        have hcz18_1 : wc.cell? ⟨gb150, 1, none⟩ = some (.string a0_1) := (blk_cell BK150.out 1).trans rfl
        have hcz18_2 : wc.cell? ⟨gb150, 2, none⟩ = some (.string a0_2) := (blk_cell BK150.out 2).trans rfl
        have hfz18_0 := blk_frozen BK150.out 0
        have hfz18_1 := blk_frozen BK150.out 1
        have hfz18_2 := blk_frozen BK150.out 2
        go_wp2
        go_loopg [8, 46] kj3 (fun kq v8 v46 w' => ∃ (x8_2 : Bool) (x46_2 : Int), v8 = .bool x8_2 ∧ v46 = .int .i64 x46_2 ∧ Aside0 (spec_PrintMatcher.l0 kq t151 t153 x8_2 (a0_1.size : Int) x46_2 a0_0 a0_1 a0_2 = some (r1, r2)) ∧ Aside0 (kq ≤ kj3) ∧ Aside0 (w'.heap[gb150]? = some (.cells #[.int .i64 a0_0, .string a0_1, .string a0_2] 28 (0, 0))) ∧ Aside0 (Below w.heap.size w w'))
        case atStart => exact ⟨(true), (0), (by first | rfl | (simp; done) | (simp [*]; done)), (by first | rfl | (simp; done) | (simp [*]; done)), H', ⟨Nat.le_refl _⟩, ⟨by (with_reducible repeat (first | refine blk_drewN ?_ _ | refine blk_drew ?_ | refine blk_alloc ?_ _)); exact BK150.out⟩, ⟨by repeat (first | (with_reducible first | exact HB.out | apply below_alloc | apply pw_below_drewN | apply below_drew1 | refine below_set ?_ GE150.out) | exact HB.out)⟩⟩
        case round =>
          clear H'
          try clear c1
          try clear c2
          try clear p2
          try clear c10
          try clear c10b0
          try clear c10b1
          try clear c11
          try clear c11b0
          try clear c11b1
          try clear c12
          try clear c12b0
          try clear c12b1
          try clear c14
          try clear c14b0
          try clear c17
          try clear hcz13_0
          try clear hcz13_1
          try clear hcz13_2
          try clear hcz15_0
          try clear hcz15_1
          try clear hcz15_2
          try clear hcz16_0
          try clear hcz16_1
          try clear hcz16_2
          try clear hcz18_0
          try clear hcz18_1
          try clear hcz18_2
          try clear hcz6_0
          try clear hcz6_1
          try clear hcz6_2
          try clear hcz8_0
          try clear hcz8_1
          try clear hcz8_2
          try clear hfz13_0
          try clear hfz13_1
          try clear hfz13_2
          try clear hfz15_0
          try clear hfz15_1
          try clear hfz15_2
          try clear hfz16_0
          try clear hfz16_1
          try clear hfz16_2
          try clear hfz18_0
          try clear hfz18_1
          try clear hfz18_2
          try clear hfz6_0
          try clear hfz6_1
          try clear hfz6_2
          try clear hfz8_0
          try clear hfz8_1
          try clear hfz8_2
          try clear p2
          obtain ⟨x8_2, x46_2, rfl, rfl, HA, HK2, BK150, HB⟩ := hrel
          cases gk with
          | zero => exact absurd HA.out (by simp [spec_PrintMatcher.l0])
          | succ k2 =>
            have H := HA.out
            clear HA
            simp only [spec_PrintMatcher.l0] at H
            by_cases c19 : x46_2 < (a0_1.size : Int)
            · rw [if_pos c19] at H
              have c19b0 : decide (x46_2 < (a0_1.size : Int)) = true := decide_eq_true c19
              clear c19
              by_cases c20 : x8_2 = true
              · subst c20
                have H1 : (if 0 ≤ x46_2 then (if x46_2 < (a0_1.size : Int) then ((spec_reserved.f (bt a0_1 x46_2)).bind fun t155 => (spec_PrintMatcher.l0 k2 t151 t153 (!t155) (a0_1.size : Int) (wrap64 (x46_2 + 1)) a0_0 a0_1 a0_2)) else (none)) else (none)) = some (r1, r2) := by rw [if_pos rfl] at H; exact H
                clear H
                have H := H1
                clear H1
                by_cases c21 : 0 ≤ x46_2
                · rw [if_pos c21] at H
                  have c21b0 : decide (0 ≤ x46_2) = true := decide_eq_true c21
                  clear c21
                  by_cases c22 : x46_2 < (a0_1.size : Int)
                  · rw [if_pos c22] at H
                    have c22b0 : decide (x46_2 < (a0_1.size : Int)) = true := decide_eq_true c22
                    clear c22
                    replace H := Option.bind_eq_some_iff.mp H
                    obtain ⟨t155, A240, H⟩ := H
                    replace H : (spec_PrintMatcher.l0 k2 t151 t153 (!t155) (a0_1.size : Int) (wrap64 (x46_2 + 1)) a0_0 a0_1 a0_2) = some (r1, r2) := H
                    have A24 := Aside0.mk A240
                    clear A240
                    have H' := Aside0.mk H
                    clear H
                    have hcz25_0 : wr.cell? ⟨gb150, 0, none⟩ = some (.int .i64 a0_0) := (blk_cell BK150.out 0).trans rfl
                    have hcz25_1 : wr.cell? ⟨gb150, 1, none⟩ = some (.string a0_1) := (blk_cell BK150.out 1).trans rfl
                    have hcz25_2 : wr.cell? ⟨gb150, 2, none⟩ = some (.string a0_2) := (blk_cell BK150.out 2).trans rfl
                    have hfz25_0 := blk_frozen BK150.out 0
                    have hfz25_1 := blk_frozen BK150.out 1
                    have hfz25_2 := blk_frozen BK150.out 2
                    have p23 : 0 ≤ (x46_2 : Int) := of_decide_eq_true (by first | (with_reducible assumption) | assumption)
                    have q23 : x46_2 < (a0_1.size : Int) := of_decide_eq_true (by first | (with_reducible assumption) | assumption)
                    have hx23 := bt_at a0_1 x46_2
                    replace p23 := eq_true p23
                    replace q23 := eq_true q23
                    go_wp2_with (first | (go_at_call 28; (with_reducible refine (spec_reserved.calls (bt a0_1 x46_2) t155 _ A24.out).mono ?_); rintro e w' ⟨rfl, ⟨nd, rfl⟩⟩))
                    go_roundg k2
                    case measure => have := HJ3.out; have := HK2.out; omega
                    case rel => exact ⟨(!t155), (wrap64 (x46_2 + 1)), (by first | rfl | (simp; done) | (simp [*]; done)), (by first | rfl | (simp; done) | (simp [*]; done)), H', ⟨by have := HJ3.out; have := HK2.out; omega⟩, ⟨by (with_reducible repeat (first | refine blk_drewN ?_ _ | refine blk_drew ?_ | refine blk_alloc ?_ _)); exact BK150.out⟩, ⟨by repeat (first | (with_reducible first | exact HB.out | apply below_alloc | apply pw_below_drewN | apply below_drew1 | refine below_set ?_ GE150.out) | exact HB.out)⟩⟩
                  · rw [if_neg c22] at H
                    exact absurd H (by simp)
                · rw [if_neg c21] at H
                  exact absurd H (by simp)
              · replace c20 := Bool.eq_false_iff.mpr c20
                subst c20
                have H1 : (spec_PrintMatcher.l0 k2 t151 t153 false (a0_1.size : Int) (wrap64 (x46_2 + 1)) a0_0 a0_1 a0_2) = some (r1, r2) := by rw [if_neg (show ¬ (false = true) by decide)] at H; exact H
                clear H
                have H := H1
                clear H1
                have H' := Aside0.mk H
                clear H
                go_wp2
                go_roundg k2
                case measure => have := HJ3.out; have := HK2.out; omega
                case rel => exact ⟨(false), (wrap64 (x46_2 + 1)), (by first | rfl | (simp; done) | (simp [*]; done)), (by first | rfl | (simp; done) | (simp [*]; done)), H', ⟨by have := HJ3.out; have := HK2.out; omega⟩, ⟨by (with_reducible repeat (first | refine blk_drewN ?_ _ | refine blk_drew ?_ | refine blk_alloc ?_ _)); exact BK150.out⟩, ⟨by repeat (first | (with_reducible first | exact HB.out | apply below_alloc | apply pw_below_drewN | apply below_drew1 | refine below_set ?_ GE150.out) | exact HB.out)⟩⟩
            · rw [if_neg c19] at H
              have c19b0 : decide (x46_2 < (a0_1.size : Int)) = false := decide_eq_false c19
              clear c19
              by_cases c26 : x8_2 = true
              · subst c26
                have H1 : ((spec_Operator.f a0_0).bind fun t156 => (if a0_1.size + t156.size ≤ 9223372036854775807 then (if (a0_1 ++ t156).size + t151.size ≤ 9223372036854775807 then (some ((a0_1 ++ t156) ++ t151, 1)) else (none)) else (none))) = some (r1, r2) := by rw [if_pos rfl] at H; exact H
                clear H
                have H := H1
                clear H1
                replace H := Option.bind_eq_some_iff.mp H
                obtain ⟨t156, A270, H⟩ := H
                replace H : (if a0_1.size + t156.size ≤ 9223372036854775807 then (if (a0_1 ++ t156).size + t151.size ≤ 9223372036854775807 then (some ((a0_1 ++ t156) ++ t151, 1)) else (none)) else (none)) = some (r1, r2) := H
                have A27 := Aside0.mk A270
                clear A270
                by_cases c28 : a0_1.size + t156.size ≤ 9223372036854775807
                · rw [if_pos c28] at H
                  have c28b0 := eq_true c28
                  have c28b1 : decide (a0_1.size + t156.size ≤ 9223372036854775807) = true := decide_eq_true c28
                  try have c28b2 : (9223372036854775807 < a0_1.size + t156.size) = False := eq_false (Nat.not_lt.2 c28)
                  by_cases c29 : (a0_1 ++ t156).size + t151.size ≤ 9223372036854775807
                  · rw [if_pos c29] at H
                    have c29b0 := eq_true c29
                    have c29b1 : decide ((a0_1 ++ t156).size + t151.size ≤ 9223372036854775807) = true := decide_eq_true c29
                    try have c29b2 : (9223372036854775807 < (a0_1 ++ t156).size + t151.size) = False := eq_false (Nat.not_lt.2 c29)
                    try have c29b3 := c29b2
                    try simp only [ByteArray.size_append] at c29b3
                    simp only [Option.some.injEq, Prod.mk.injEq] at H
                    obtain ⟨rfl, rfl⟩ := H
                    have hcz30_0 : wr.cell? ⟨gb150, 0, none⟩ = some (.int .i64 a0_0) := (blk_cell BK150.out 0).trans rfl
                    have hcz30_1 : wr.cell? ⟨gb150, 1, none⟩ = some (.string a0_1) := (blk_cell BK150.out 1).trans rfl
                    have hcz30_2 : wr.cell? ⟨gb150, 2, none⟩ = some (.string a0_2) := (blk_cell BK150.out 2).trans rfl
                    have hfz30_0 := blk_frozen BK150.out 0
                    have hfz30_1 := blk_frozen BK150.out 1
                    have hfz30_2 := blk_frozen BK150.out 2
                    go_wp2_with (first | ((with_reducible refine gate_callee (f := 29) rfl ?_); refine goesL_ (some 65) rfl rfl Tryd.func29 (by kernel_rfl) rfl #[.int .i64 a0_0] rfl (by (try simp only [List.map_toArray, List.map_cons, List.map_nil]); first | done | rfl | (simp only [List.length_drop, List.length_take]; rfl)) ?_; (with_reducible refine (spec_Operator.calls a0_0 t156 _ A27.out).mono ?_); rintro e w' ⟨rfl, ⟨nd, rfl⟩⟩; refine ⟨_, rfl, ?_⟩))
                    go_ret2
                    exact ⟨by first | rfl | (simp [errW_none, errW_some] <;> rfl) | (simp [*, errW_none, errW_some] <;> rfl), by repeat (first | (with_reducible first | exact HB.out | apply below_alloc | apply pw_below_drewN | apply below_drew1 | refine below_set ?_ GE150.out) | exact HB.out)⟩
                  · rw [if_neg c29] at H
                    exact absurd H (by simp)
                · rw [if_neg c28] at H
                  exact absurd H (by simp)
              · replace c26 := Bool.eq_false_iff.mpr c26
                subst c26
                have H1 : ((spec_Operator.f a0_0).bind fun t157 => (if t153.size + t157.size ≤ 9223372036854775807 then (if (t153 ++ t157).size + t151.size ≤ 9223372036854775807 then (some ((t153 ++ t157) ++ t151, 1)) else (none)) else (none))) = some (r1, r2) := by rw [if_neg (show ¬ (false = true) by decide)] at H; exact H
                clear H
                have H := H1
                clear H1
                replace H := Option.bind_eq_some_iff.mp H
                obtain ⟨t157, A310, H⟩ := H
                replace H : (if t153.size + t157.size ≤ 9223372036854775807 then (if (t153 ++ t157).size + t151.size ≤ 9223372036854775807 then (some ((t153 ++ t157) ++ t151, 1)) else (none)) else (none)) = some (r1, r2) := H
                have A31 := Aside0.mk A310
                clear A310
                by_cases c32 : t153.size + t157.size ≤ 9223372036854775807
                · rw [if_pos c32] at H
                  have c32b0 := eq_true c32
                  have c32b1 : decide (t153.size + t157.size ≤ 9223372036854775807) = true := decide_eq_true c32
                  try have c32b2 : (9223372036854775807 < t153.size + t157.size) = False := eq_false (Nat.not_lt.2 c32)
                  by_cases c33 : (t153 ++ t157).size + t151.size ≤ 9223372036854775807
                  · rw [if_pos c33] at H
                    have c33b0 := eq_true c33
                    have c33b1 : decide ((t153 ++ t157).size + t151.size ≤ 9223372036854775807) = true := decide_eq_true c33
                    try have c33b2 : (9223372036854775807 < (t153 ++ t157).size + t151.size) = False := eq_false (Nat.not_lt.2 c33)
                    try have c33b3 := c33b2
                    try simp only [ByteArray.size_append] at c33b3
                    simp only [Option.some.injEq, Prod.mk.injEq] at H
                    obtain ⟨rfl, rfl⟩ := H
                    have hcz34_0 : wr.cell? ⟨gb150, 0, none⟩ = some (.int .i64 a0_0) := (blk_cell BK150.out 0).trans rfl
                    have hcz34_1 : wr.cell? ⟨gb150, 1, none⟩ = some (.string a0_1) := (blk_cell BK150.out 1).trans rfl
                    have hcz34_2 : wr.cell? ⟨gb150, 2, none⟩ = some (.string a0_2) := (blk_cell BK150.out 2).trans rfl
                    have hfz34_0 := blk_frozen BK150.out 0
                    have hfz34_1 := blk_frozen BK150.out 1
                    have hfz34_2 := blk_frozen BK150.out 2
                    go_wp2_with (first | ((with_reducible refine gate_callee (f := 29) rfl ?_); refine goesL_ (some 65) rfl rfl Tryd.func29 (by kernel_rfl) rfl #[.int .i64 a0_0] rfl (by (try simp only [List.map_toArray, List.map_cons, List.map_nil]); first | done | rfl | (simp only [List.length_drop, List.length_take]; rfl)) ?_; (with_reducible refine (spec_Operator.calls a0_0 t157 _ A31.out).mono ?_); rintro e w' ⟨rfl, ⟨nd, rfl⟩⟩; refine ⟨_, rfl, ?_⟩))
                    go_ret2
                    exact ⟨by first | rfl | (simp [errW_none, errW_some] <;> rfl) | (simp [*, errW_none, errW_some] <;> rfl), by repeat (first | (with_reducible first | exact HB.out | apply below_alloc | apply pw_below_drewN | apply below_drew1 | refine below_set ?_ GE150.out) | exact HB.out)⟩
                  · rw [if_neg c33] at H
                    exact absurd H (by simp)
                · rw [if_neg c32] at H
                  exact absurd H (by simp)

end Go.Proofs.YtpdfokdhnalfaaaDoor.Q
