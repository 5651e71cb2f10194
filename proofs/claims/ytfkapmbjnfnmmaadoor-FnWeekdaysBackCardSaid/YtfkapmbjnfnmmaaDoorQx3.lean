-- printed by this project's own program wip/tools/mkprint.py (the kit's print.py with hand-proved contracts put in)
import Derived.Test.YtfkapmbjnfnmmaaDoorQx0
import Derived.Test.YtfkapmbjnfnmmaaDoorQx2
namespace Go.Proofs.YtfkapmbjnfnmmaaDoor.Q
open Go.RowKit Go.Proofs.YtfkapmbjnfnmmaaDoorW.PrintWords Go.Proofs.YtfkapmbjnfnmmaaDoorW.PrintLast Go.Proofs.YtfkapmbjnfnmmaaDoorW.PrintMore
attribute [local go_sem] max2_int min2_int max_two min_two max_three min_three max_four min_four   -- for this text's walks alone
set_option linter.unusedVariables false
set_option linter.unusedSimpArgs false

/-! ### laws_FnWeekdaysBack: function 5 -/
def laws_FnWeekdaysBack.f (a0 : Int) (a1 : Int) : Option (Bool) := if (wrap64 (Int.tmod a0 7)) > (wrap64 (Int.tmod a1 7)) then ((impl_WeekdayText.f (wrap64 (Int.tmod a1 7)) (wrap64 (Int.tmod a0 7))).bind fun bt114 => ((impl_Weekdays.f bt114.1).bind fun bt116 => (if bt114.2 = true then ((spec_WeekdayText.f (wrap64 (Int.tmod a1 7)) (wrap64 (Int.tmod a0 7))).bind fun t119 => (if bt114.1.toList = t119.toList then (if bt116.2.2 = true then (if bt116.1 = (wrap64 (Int.tmod a1 7)) then (some (bt116.2.1 == (wrap64 (Int.tmod a0 7)))) else (some false)) else (some false)) else (some false))) else (some false)))) else ((impl_WeekdayText.f (wrap64 (Int.tmod a0 7)) (wrap64 (Int.tmod a1 7))).bind fun bt120 => ((impl_Weekdays.f bt120.1).bind fun bt122 => (if bt120.2 = true then ((spec_WeekdayText.f (wrap64 (Int.tmod a0 7)) (wrap64 (Int.tmod a1 7))).bind fun t125 => (if bt120.1.toList = t125.toList then (if bt122.2.2 = true then (if bt122.1 = (wrap64 (Int.tmod a0 7)) then (some (bt122.2.1 == (wrap64 (Int.tmod a1 7)))) else (some false)) else (some false)) else (some false))) else (some false))))
set_option maxHeartbeats 8000000 in
set_option maxRecDepth 100000 in
theorem laws_FnWeekdaysBack.calls (a0 : Int) (a1 : Int) (r : Bool) (w : World) (h : laws_FnWeekdaysBack.f a0 a1 = some r) :
    Calls Tryd.prog 5 #[.int .u8 a0, .int .u8 a1] w fun e w' => e = .returned (.bool r) ∧ Below w.heap.size w w' := by
  have HB := Aside0.mk (Below.refl w.heap.size w)
  have H : (if (wrap64 (Int.tmod a0 7)) > (wrap64 (Int.tmod a1 7)) then ((impl_WeekdayText.f (wrap64 (Int.tmod a1 7)) (wrap64 (Int.tmod a0 7))).bind fun bt114 => ((impl_Weekdays.f bt114.1).bind fun bt116 => (if bt114.2 = true then ((spec_WeekdayText.f (wrap64 (Int.tmod a1 7)) (wrap64 (Int.tmod a0 7))).bind fun t119 => (if bt114.1.toList = t119.toList then (if bt116.2.2 = true then (if bt116.1 = (wrap64 (Int.tmod a1 7)) then (some (bt116.2.1 == (wrap64 (Int.tmod a0 7)))) else (some false)) else (some false)) else (some false))) else (some false)))) else ((impl_WeekdayText.f (wrap64 (Int.tmod a0 7)) (wrap64 (Int.tmod a1 7))).bind fun bt120 => ((impl_Weekdays.f bt120.1).bind fun bt122 => (if bt120.2 = true then ((spec_WeekdayText.f (wrap64 (Int.tmod a0 7)) (wrap64 (Int.tmod a1 7))).bind fun t125 => (if bt120.1.toList = t125.toList then (if bt122.2.2 = true then (if bt122.1 = (wrap64 (Int.tmod a0 7)) then (some (bt122.2.1 == (wrap64 (Int.tmod a1 7)))) else (some false)) else (some false)) else (some false))) else (some false))))) = some r := h
  clear h
  by_cases c3 : (wrap64 (Int.tmod a0 7)) > (wrap64 (Int.tmod a1 7))
  · rw [if_pos c3] at H
    have c3b0 : decide ((wrap64 (Int.tmod a1 7)) < (wrap64 (Int.tmod a0 7))) = true := decide_eq_true c3
    clear c3
    replace H := Option.bind_eq_some_iff.mp H
    obtain ⟨⟨t114, t115⟩, A40, H⟩ := H
    replace H : ((impl_Weekdays.f t114).bind fun bt116 => (if t115 = true then ((spec_WeekdayText.f (wrap64 (Int.tmod a1 7)) (wrap64 (Int.tmod a0 7))).bind fun t119 => (if t114.toList = t119.toList then (if bt116.2.2 = true then (if bt116.1 = (wrap64 (Int.tmod a1 7)) then (some (bt116.2.1 == (wrap64 (Int.tmod a0 7)))) else (some false)) else (some false)) else (some false))) else (some false))) = some r := H
    have A4 := Aside0.mk A40
    clear A40
    replace H := Option.bind_eq_some_iff.mp H
    obtain ⟨⟨t116, t117, t118⟩, A50, H⟩ := H
    replace H : (if t115 = true then ((spec_WeekdayText.f (wrap64 (Int.tmod a1 7)) (wrap64 (Int.tmod a0 7))).bind fun t119 => (if t114.toList = t119.toList then (if t118 = true then (if t116 = (wrap64 (Int.tmod a1 7)) then (some (t117 == (wrap64 (Int.tmod a0 7)))) else (some false)) else (some false)) else (some false))) else (some false)) = some r := H
    have A5 := Aside0.mk A50
    clear A50
    by_cases c6 : t115 = true
    · subst c6
      have H1 : ((spec_WeekdayText.f (wrap64 (Int.tmod a1 7)) (wrap64 (Int.tmod a0 7))).bind fun t119 => (if t114.toList = t119.toList then (if t118 = true then (if t116 = (wrap64 (Int.tmod a1 7)) then (some (t117 == (wrap64 (Int.tmod a0 7)))) else (some false)) else (some false)) else (some false))) = some r := by rw [if_pos rfl] at H; exact H
      clear H
      have H := H1
      clear H1
      replace H := Option.bind_eq_some_iff.mp H
      obtain ⟨t119, A70, H⟩ := H
      replace H : (if t114.toList = t119.toList then (if t118 = true then (if t116 = (wrap64 (Int.tmod a1 7)) then (some (t117 == (wrap64 (Int.tmod a0 7)))) else (some false)) else (some false)) else (some false)) = some r := H
      have A7 := Aside0.mk A70
      clear A70
      by_cases c8 : t114.toList = t119.toList
      · rw [if_pos c8] at H
        have c8b0 : (t114.toList == t119.toList) = true := beq_iff_eq.mpr c8
        have c8b1 : (t114.toList != t119.toList) = false := bne_eq_false_iff_eq.mpr c8
        clear c8
        by_cases c9 : t118 = true
        · subst c9
          have H1 : (if t116 = (wrap64 (Int.tmod a1 7)) then (some (t117 == (wrap64 (Int.tmod a0 7)))) else (some false)) = some r := by rw [if_pos rfl] at H; exact H
          clear H
          have H := H1
          clear H1
          by_cases c10 : t116 = (wrap64 (Int.tmod a1 7))
          · rw [if_pos c10] at H
            have c10b0 : (t116 == (wrap64 (Int.tmod a1 7))) = true := beq_iff_eq.mpr c10
            have c10b1 : (t116 != (wrap64 (Int.tmod a1 7))) = false := bne_eq_false_iff_eq.mpr c10
            clear c10
            obtain rfl := Option.some.inj H
            go_enter Tryd.func5, Tryd.ntmps5
            go_wp2_with (first | ((with_reducible refine gate_callee (f := 14) rfl ?_); refine goesL_ (some 26) rfl rfl Tryd.func14 (by kernel_rfl) rfl #[.int .i64 (wrap64 (Int.tmod a1 7)), .int .i64 (wrap64 (Int.tmod a0 7))] rfl (by (try simp only [List.map_toArray, List.map_cons, List.map_nil]); first | done | rfl | (simp only [List.length_drop, List.length_take]; rfl)) ?_; (with_reducible refine (impl_WeekdayText.calls (wrap64 (Int.tmod a1 7)) (wrap64 (Int.tmod a0 7)) t114 true _ A4.out).mono ?_); rintro e w11 ⟨rfl, hb⟩; refine ⟨_, rfl, ?_⟩; have n0_ := Aside0.mk (below_step (by repeat (first | (with_reducible first | exact HB.out | apply below_alloc | apply pw_below_drewN | apply below_drew1) | exact HB.out)) hb); clear HB; have HB := n0_; clear n0_; (try clear hb); (try clear hb2); (try clear hk); (try clear hi)) | ((with_reducible refine gate_callee (f := 12) rfl ?_); refine goesL_ (some 31) rfl rfl Tryd.func12 (by kernel_rfl) rfl #[.string t114] rfl (by (try simp only [List.map_toArray, List.map_cons, List.map_nil]); first | done | rfl | (simp only [List.length_drop, List.length_take]; rfl)) ?_; (with_reducible refine (impl_Weekdays.calls t114 t116 t117 true _ A5.out).mono ?_); rintro e w12 ⟨rfl, hb⟩; refine ⟨_, rfl, ?_⟩; have n0_ := Aside0.mk (below_step (by repeat (first | (with_reducible first | exact HB.out | apply below_alloc | apply pw_below_drewN | apply below_drew1) | exact HB.out)) hb); clear HB; have HB := n0_; clear n0_; (try clear hb); (try clear hb2); (try clear hk); (try clear hi)) | (go_at_call 15; (with_reducible refine (spec_WeekdayText.calls (wrap64 (Int.tmod a1 7)) (wrap64 (Int.tmod a0 7)) t119 _ A7.out).mono ?_); rintro e w' ⟨rfl, ⟨nd, rfl⟩⟩))
            go_ret
            exact ⟨by first | rfl | (simp [errW_none, errW_some] <;> rfl) | (simp [*, errW_none, errW_some] <;> rfl), by repeat (first | (with_reducible first | exact HB.out | apply below_alloc | apply pw_below_drewN | apply below_drew1) | exact HB.out)⟩
          · rw [if_neg c10] at H
            have c10b0 : (t116 == (wrap64 (Int.tmod a1 7))) = false := beq_eq_false_iff_ne.mpr c10
            have c10b1 : (t116 != (wrap64 (Int.tmod a1 7))) = true := bne_iff_ne.mpr c10
            obtain rfl := Option.some.inj H
            go_enter Tryd.func5, Tryd.ntmps5
            go_wp2_with (first | ((with_reducible refine gate_callee (f := 14) rfl ?_); refine goesL_ (some 26) rfl rfl Tryd.func14 (by kernel_rfl) rfl #[.int .i64 (wrap64 (Int.tmod a1 7)), .int .i64 (wrap64 (Int.tmod a0 7))] rfl (by (try simp only [List.map_toArray, List.map_cons, List.map_nil]); first | done | rfl | (simp only [List.length_drop, List.length_take]; rfl)) ?_; (with_reducible refine (impl_WeekdayText.calls (wrap64 (Int.tmod a1 7)) (wrap64 (Int.tmod a0 7)) t114 true _ A4.out).mono ?_); rintro e w13 ⟨rfl, hb⟩; refine ⟨_, rfl, ?_⟩; have n0_ := Aside0.mk (below_step (by repeat (first | (with_reducible first | exact HB.out | apply below_alloc | apply pw_below_drewN | apply below_drew1) | exact HB.out)) hb); clear HB; have HB := n0_; clear n0_; (try clear hb); (try clear hb2); (try clear hk); (try clear hi)) | ((with_reducible refine gate_callee (f := 12) rfl ?_); refine goesL_ (some 31) rfl rfl Tryd.func12 (by kernel_rfl) rfl #[.string t114] rfl (by (try simp only [List.map_toArray, List.map_cons, List.map_nil]); first | done | rfl | (simp only [List.length_drop, List.length_take]; rfl)) ?_; (with_reducible refine (impl_Weekdays.calls t114 t116 t117 true _ A5.out).mono ?_); rintro e w14 ⟨rfl, hb⟩; refine ⟨_, rfl, ?_⟩; have n0_ := Aside0.mk (below_step (by repeat (first | (with_reducible first | exact HB.out | apply below_alloc | apply pw_below_drewN | apply below_drew1) | exact HB.out)) hb); clear HB; have HB := n0_; clear n0_; (try clear hb); (try clear hb2); (try clear hk); (try clear hi)) | (go_at_call 15; (with_reducible refine (spec_WeekdayText.calls (wrap64 (Int.tmod a1 7)) (wrap64 (Int.tmod a0 7)) t119 _ A7.out).mono ?_); rintro e w' ⟨rfl, ⟨nd, rfl⟩⟩))
            go_ret
            exact ⟨by first | rfl | (simp [errW_none, errW_some] <;> rfl) | (simp [*, errW_none, errW_some] <;> rfl), by repeat (first | (with_reducible first | exact HB.out | apply below_alloc | apply pw_below_drewN | apply below_drew1) | exact HB.out)⟩
        · replace c9 := Bool.eq_false_iff.mpr c9
          subst c9
          have H1 : (some false) = some r := by rw [if_neg (show ¬ (false = true) by decide)] at H; exact H
          clear H
          have H := H1
          clear H1
          obtain rfl := Option.some.inj H
          go_enter Tryd.func5, Tryd.ntmps5
          go_wp2_with (first | ((with_reducible refine gate_callee (f := 14) rfl ?_); refine goesL_ (some 26) rfl rfl Tryd.func14 (by kernel_rfl) rfl #[.int .i64 (wrap64 (Int.tmod a1 7)), .int .i64 (wrap64 (Int.tmod a0 7))] rfl (by (try simp only [List.map_toArray, List.map_cons, List.map_nil]); first | done | rfl | (simp only [List.length_drop, List.length_take]; rfl)) ?_; (with_reducible refine (impl_WeekdayText.calls (wrap64 (Int.tmod a1 7)) (wrap64 (Int.tmod a0 7)) t114 true _ A4.out).mono ?_); rintro e w15 ⟨rfl, hb⟩; refine ⟨_, rfl, ?_⟩; have n0_ := Aside0.mk (below_step (by repeat (first | (with_reducible first | exact HB.out | apply below_alloc | apply pw_below_drewN | apply below_drew1) | exact HB.out)) hb); clear HB; have HB := n0_; clear n0_; (try clear hb); (try clear hb2); (try clear hk); (try clear hi)) | ((with_reducible refine gate_callee (f := 12) rfl ?_); refine goesL_ (some 31) rfl rfl Tryd.func12 (by kernel_rfl) rfl #[.string t114] rfl (by (try simp only [List.map_toArray, List.map_cons, List.map_nil]); first | done | rfl | (simp only [List.length_drop, List.length_take]; rfl)) ?_; (with_reducible refine (impl_Weekdays.calls t114 t116 t117 false _ A5.out).mono ?_); rintro e w16 ⟨rfl, hb⟩; refine ⟨_, rfl, ?_⟩; have n0_ := Aside0.mk (below_step (by repeat (first | (with_reducible first | exact HB.out | apply below_alloc | apply pw_below_drewN | apply below_drew1) | exact HB.out)) hb); clear HB; have HB := n0_; clear n0_; (try clear hb); (try clear hb2); (try clear hk); (try clear hi)) | (go_at_call 15; (with_reducible refine (spec_WeekdayText.calls (wrap64 (Int.tmod a1 7)) (wrap64 (Int.tmod a0 7)) t119 _ A7.out).mono ?_); rintro e w' ⟨rfl, ⟨nd, rfl⟩⟩))
          go_ret
          exact ⟨by first | rfl | (simp [errW_none, errW_some] <;> rfl) | (simp [*, errW_none, errW_some] <;> rfl), by repeat (first | (with_reducible first | exact HB.out | apply below_alloc | apply pw_below_drewN | apply below_drew1) | exact HB.out)⟩
      · rw [if_neg c8] at H
        have c8b0 : (t114.toList == t119.toList) = false := beq_eq_false_iff_ne.mpr c8
        have c8b1 : (t114.toList != t119.toList) = true := bne_iff_ne.mpr c8
        obtain rfl := Option.some.inj H
        go_enter Tryd.func5, Tryd.ntmps5
        go_wp2_with (first | ((with_reducible refine gate_callee (f := 14) rfl ?_); refine goesL_ (some 26) rfl rfl Tryd.func14 (by kernel_rfl) rfl #[.int .i64 (wrap64 (Int.tmod a1 7)), .int .i64 (wrap64 (Int.tmod a0 7))] rfl (by (try simp only [List.map_toArray, List.map_cons, List.map_nil]); first | done | rfl | (simp only [List.length_drop, List.length_take]; rfl)) ?_; (with_reducible refine (impl_WeekdayText.calls (wrap64 (Int.tmod a1 7)) (wrap64 (Int.tmod a0 7)) t114 true _ A4.out).mono ?_); rintro e w17 ⟨rfl, hb⟩; refine ⟨_, rfl, ?_⟩; have n0_ := Aside0.mk (below_step (by repeat (first | (with_reducible first | exact HB.out | apply below_alloc | apply pw_below_drewN | apply below_drew1) | exact HB.out)) hb); clear HB; have HB := n0_; clear n0_; (try clear hb); (try clear hb2); (try clear hk); (try clear hi)) | ((with_reducible refine gate_callee (f := 12) rfl ?_); refine goesL_ (some 31) rfl rfl Tryd.func12 (by kernel_rfl) rfl #[.string t114] rfl (by (try simp only [List.map_toArray, List.map_cons, List.map_nil]); first | done | rfl | (simp only [List.length_drop, List.length_take]; rfl)) ?_; (with_reducible refine (impl_Weekdays.calls t114 t116 t117 t118 _ A5.out).mono ?_); rintro e w18 ⟨rfl, hb⟩; refine ⟨_, rfl, ?_⟩; have n0_ := Aside0.mk (below_step (by repeat (first | (with_reducible first | exact HB.out | apply below_alloc | apply pw_below_drewN | apply below_drew1) | exact HB.out)) hb); clear HB; have HB := n0_; clear n0_; (try clear hb); (try clear hb2); (try clear hk); (try clear hi)) | (go_at_call 15; (with_reducible refine (spec_WeekdayText.calls (wrap64 (Int.tmod a1 7)) (wrap64 (Int.tmod a0 7)) t119 _ A7.out).mono ?_); rintro e w' ⟨rfl, ⟨nd, rfl⟩⟩))
        go_ret
        exact ⟨by first | rfl | (simp [errW_none, errW_some] <;> rfl) | (simp [*, errW_none, errW_some] <;> rfl), by repeat (first | (with_reducible first | exact HB.out | apply below_alloc | apply pw_below_drewN | apply below_drew1) | exact HB.out)⟩
    · replace c6 := Bool.eq_false_iff.mpr c6
      subst c6
      have H1 : (some false) = some r := by rw [if_neg (show ¬ (false = true) by decide)] at H; exact H
      clear H
      have H := H1
      clear H1
      obtain rfl := Option.some.inj H
      go_enter Tryd.func5, Tryd.ntmps5
      go_wp2_with (first | ((with_reducible refine gate_callee (f := 14) rfl ?_); refine goesL_ (some 26) rfl rfl Tryd.func14 (by kernel_rfl) rfl #[.int .i64 (wrap64 (Int.tmod a1 7)), .int .i64 (wrap64 (Int.tmod a0 7))] rfl (by (try simp only [List.map_toArray, List.map_cons, List.map_nil]); first | done | rfl | (simp only [List.length_drop, List.length_take]; rfl)) ?_; (with_reducible refine (impl_WeekdayText.calls (wrap64 (Int.tmod a1 7)) (wrap64 (Int.tmod a0 7)) t114 false _ A4.out).mono ?_); rintro e w19 ⟨rfl, hb⟩; refine ⟨_, rfl, ?_⟩; have n0_ := Aside0.mk (below_step (by repeat (first | (with_reducible first | exact HB.out | apply below_alloc | apply pw_below_drewN | apply below_drew1) | exact HB.out)) hb); clear HB; have HB := n0_; clear n0_; (try clear hb); (try clear hb2); (try clear hk); (try clear hi)) | ((with_reducible refine gate_callee (f := 12) rfl ?_); refine goesL_ (some 31) rfl rfl Tryd.func12 (by kernel_rfl) rfl #[.string t114] rfl (by (try simp only [List.map_toArray, List.map_cons, List.map_nil]); first | done | rfl | (simp only [List.length_drop, List.length_take]; rfl)) ?_; (with_reducible refine (impl_Weekdays.calls t114 t116 t117 t118 _ A5.out).mono ?_); rintro e w20 ⟨rfl, hb⟩; refine ⟨_, rfl, ?_⟩; have n0_ := Aside0.mk (below_step (by repeat (first | (with_reducible first | exact HB.out | apply below_alloc | apply pw_below_drewN | apply below_drew1) | exact HB.out)) hb); clear HB; have HB := n0_; clear n0_; (try clear hb); (try clear hb2); (try clear hk); (try clear hi)))
      go_ret
      exact ⟨by first | rfl | (simp [errW_none, errW_some] <;> rfl) | (simp [*, errW_none, errW_some] <;> rfl), by repeat (first | (with_reducible first | exact HB.out | apply below_alloc | apply pw_below_drewN | apply below_drew1) | exact HB.out)⟩
  · rw [if_neg c3] at H
    have c3b0 : decide ((wrap64 (Int.tmod a1 7)) < (wrap64 (Int.tmod a0 7))) = false := decide_eq_false c3
    clear c3
    replace H := Option.bind_eq_some_iff.mp H
    obtain ⟨⟨t120, t121⟩, A210, H⟩ := H
    replace H : ((impl_Weekdays.f t120).bind fun bt122 => (if t121 = true then ((spec_WeekdayText.f (wrap64 (Int.tmod a0 7)) (wrap64 (Int.tmod a1 7))).bind fun t125 => (if t120.toList = t125.toList then (if bt122.2.2 = true then (if bt122.1 = (wrap64 (Int.tmod a0 7)) then (some (bt122.2.1 == (wrap64 (Int.tmod a1 7)))) else (some false)) else (some false)) else (some false))) else (some false))) = some r := H
    have A21 := Aside0.mk A210
    clear A210
    replace H := Option.bind_eq_some_iff.mp H
    obtain ⟨⟨t122, t123, t124⟩, A220, H⟩ := H
    replace H : (if t121 = true then ((spec_WeekdayText.f (wrap64 (Int.tmod a0 7)) (wrap64 (Int.tmod a1 7))).bind fun t125 => (if t120.toList = t125.toList then (if t124 = true then (if t122 = (wrap64 (Int.tmod a0 7)) then (some (t123 == (wrap64 (Int.tmod a1 7)))) else (some false)) else (some false)) else (some false))) else (some false)) = some r := H
    have A22 := Aside0.mk A220
    clear A220
    by_cases c23 : t121 = true
    · subst c23
      have H1 : ((spec_WeekdayText.f (wrap64 (Int.tmod a0 7)) (wrap64 (Int.tmod a1 7))).bind fun t125 => (if t120.toList = t125.toList then (if t124 = true then (if t122 = (wrap64 (Int.tmod a0 7)) then (some (t123 == (wrap64 (Int.tmod a1 7)))) else (some false)) else (some false)) else (some false))) = some r := by rw [if_pos rfl] at H; exact H
      clear H
      have H := H1
      clear H1
      replace H := Option.bind_eq_some_iff.mp H
      obtain ⟨t125, A240, H⟩ := H
      replace H : (if t120.toList = t125.toList then (if t124 = true then (if t122 = (wrap64 (Int.tmod a0 7)) then (some (t123 == (wrap64 (Int.tmod a1 7)))) else (some false)) else (some false)) else (some false)) = some r := H
      have A24 := Aside0.mk A240
      clear A240
      by_cases c25 : t120.toList = t125.toList
      · rw [if_pos c25] at H
        have c25b0 : (t120.toList == t125.toList) = true := beq_iff_eq.mpr c25
        have c25b1 : (t120.toList != t125.toList) = false := bne_eq_false_iff_eq.mpr c25
        clear c25
        by_cases c26 : t124 = true
        · subst c26
          have H1 : (if t122 = (wrap64 (Int.tmod a0 7)) then (some (t123 == (wrap64 (Int.tmod a1 7)))) else (some false)) = some r := by rw [if_pos rfl] at H; exact H
          clear H
          have H := H1
          clear H1
          by_cases c27 : t122 = (wrap64 (Int.tmod a0 7))
          · rw [if_pos c27] at H
            have c27b0 : (t122 == (wrap64 (Int.tmod a0 7))) = true := beq_iff_eq.mpr c27
            have c27b1 : (t122 != (wrap64 (Int.tmod a0 7))) = false := bne_eq_false_iff_eq.mpr c27
            clear c27
            obtain rfl := Option.some.inj H
            go_enter Tryd.func5, Tryd.ntmps5
            go_wp2_with (first | ((with_reducible refine gate_callee (f := 14) rfl ?_); refine goesL_ (some 26) rfl rfl Tryd.func14 (by kernel_rfl) rfl #[.int .i64 (wrap64 (Int.tmod a0 7)), .int .i64 (wrap64 (Int.tmod a1 7))] rfl (by (try simp only [List.map_toArray, List.map_cons, List.map_nil]); first | done | rfl | (simp only [List.length_drop, List.length_take]; rfl)) ?_; (with_reducible refine (impl_WeekdayText.calls (wrap64 (Int.tmod a0 7)) (wrap64 (Int.tmod a1 7)) t120 true _ A21.out).mono ?_); rintro e w28 ⟨rfl, hb⟩; refine ⟨_, rfl, ?_⟩; have n0_ := Aside0.mk (below_step (by repeat (first | (with_reducible first | exact HB.out | apply below_alloc | apply pw_below_drewN | apply below_drew1) | exact HB.out)) hb); clear HB; have HB := n0_; clear n0_; (try clear hb); (try clear hb2); (try clear hk); (try clear hi)) | ((with_reducible refine gate_callee (f := 12) rfl ?_); refine goesL_ (some 31) rfl rfl Tryd.func12 (by kernel_rfl) rfl #[.string t120] rfl (by (try simp only [List.map_toArray, List.map_cons, List.map_nil]); first | done | rfl | (simp only [List.length_drop, List.length_take]; rfl)) ?_; (with_reducible refine (impl_Weekdays.calls t120 t122 t123 true _ A22.out).mono ?_); rintro e w29 ⟨rfl, hb⟩; refine ⟨_, rfl, ?_⟩; have n0_ := Aside0.mk (below_step (by repeat (first | (with_reducible first | exact HB.out | apply below_alloc | apply pw_below_drewN | apply below_drew1) | exact HB.out)) hb); clear HB; have HB := n0_; clear n0_; (try clear hb); (try clear hb2); (try clear hk); (try clear hi)) | (go_at_call 15; (with_reducible refine (spec_WeekdayText.calls (wrap64 (Int.tmod a0 7)) (wrap64 (Int.tmod a1 7)) t125 _ A24.out).mono ?_); rintro e w' ⟨rfl, ⟨nd, rfl⟩⟩))
            go_ret
            exact ⟨by first | rfl | (simp [errW_none, errW_some] <;> rfl) | (simp [*, errW_none, errW_some] <;> rfl), by repeat (first | (with_reducible first | exact HB.out | apply below_alloc | apply pw_below_drewN | apply below_drew1) | exact HB.out)⟩
          · rw [if_neg c27] at H
            have c27b0 : (t122 == (wrap64 (Int.tmod a0 7))) = false := beq_eq_false_iff_ne.mpr c27
            have c27b1 : (t122 != (wrap64 (Int.tmod a0 7))) = true := bne_iff_ne.mpr c27
            obtain rfl := Option.some.inj H
            go_enter Tryd.func5, Tryd.ntmps5
            go_wp2_with (first | ((with_reducible refine gate_callee (f := 14) rfl ?_); refine goesL_ (some 26) rfl rfl Tryd.func14 (by kernel_rfl) rfl #[.int .i64 (wrap64 (Int.tmod a0 7)), .int .i64 (wrap64 (Int.tmod a1 7))] rfl (by (try simp only [List.map_toArray, List.map_cons, List.map_nil]); first | done | rfl | (simp only [List.length_drop, List.length_take]; rfl)) ?_; (with_reducible refine (impl_WeekdayText.calls (wrap64 (Int.tmod a0 7)) (wrap64 (Int.tmod a1 7)) t120 true _ A21.out).mono ?_); rintro e w30 ⟨rfl, hb⟩; refine ⟨_, rfl, ?_⟩; have n0_ := Aside0.mk (below_step (by repeat (first | (with_reducible first | exact HB.out | apply below_alloc | apply pw_below_drewN | apply below_drew1) | exact HB.out)) hb); clear HB; have HB := n0_; clear n0_; (try clear hb); (try clear hb2); (try clear hk); (try clear hi)) | ((with_reducible refine gate_callee (f := 12) rfl ?_); refine goesL_ (some 31) rfl rfl Tryd.func12 (by kernel_rfl) rfl #[.string t120] rfl (by (try simp only [List.map_toArray, List.map_cons, List.map_nil]); first | done | rfl | (simp only [List.length_drop, List.length_take]; rfl)) ?_; (with_reducible refine (impl_Weekdays.calls t120 t122 t123 true _ A22.out).mono ?_); rintro e w31 ⟨rfl, hb⟩; refine ⟨_, rfl, ?_⟩; have n0_ := Aside0.mk (below_step (by repeat (first | (with_reducible first | exact HB.out | apply below_alloc | apply pw_below_drewN | apply below_drew1) | exact HB.out)) hb); clear HB; have HB := n0_; clear n0_; (try clear hb); (try clear hb2); (try clear hk); (try clear hi)) | (go_at_call 15; (with_reducible refine (spec_WeekdayText.calls (wrap64 (Int.tmod a0 7)) (wrap64 (Int.tmod a1 7)) t125 _ A24.out).mono ?_); rintro e w' ⟨rfl, ⟨nd, rfl⟩⟩))
            go_ret
            exact ⟨by first | rfl | (simp [errW_none, errW_some] <;> rfl) | (simp [*, errW_none, errW_some] <;> rfl), by repeat (first | (with_reducible first | exact HB.out | apply below_alloc | apply pw_below_drewN | apply below_drew1) | exact HB.out)⟩
        · replace c26 := Bool.eq_false_iff.mpr c26
          subst c26
          have H1 : (some false) = some r := by rw [if_neg (show ¬ (false = true) by decide)] at H; exact H
          clear H
          have H := H1
          clear H1
          obtain rfl := Option.some.inj H
          go_enter Tryd.func5, Tryd.ntmps5
          go_wp2_with (first | ((with_reducible refine gate_callee (f := 14) rfl ?_); refine goesL_ (some 26) rfl rfl Tryd.func14 (by kernel_rfl) rfl #[.int .i64 (wrap64 (Int.tmod a0 7)), .int .i64 (wrap64 (Int.tmod a1 7))] rfl (by (try simp only [List.map_toArray, List.map_cons, List.map_nil]); first | done | rfl | (simp only [List.length_drop, List.length_take]; rfl)) ?_; (with_reducible refine (impl_WeekdayText.calls (wrap64 (Int.tmod a0 7)) (wrap64 (Int.tmod a1 7)) t120 true _ A21.out).mono ?_); rintro e w32 ⟨rfl, hb⟩; refine ⟨_, rfl, ?_⟩; have n0_ := Aside0.mk (below_step (by repeat (first | (with_reducible first | exact HB.out | apply below_alloc | apply pw_below_drewN | apply below_drew1) | exact HB.out)) hb); clear HB; have HB := n0_; clear n0_; (try clear hb); (try clear hb2); (try clear hk); (try clear hi)) | ((with_reducible refine gate_callee (f := 12) rfl ?_); refine goesL_ (some 31) rfl rfl Tryd.func12 (by kernel_rfl) rfl #[.string t120] rfl (by (try simp only [List.map_toArray, List.map_cons, List.map_nil]); first | done | rfl | (simp only [List.length_drop, List.length_take]; rfl)) ?_; (with_reducible refine (impl_Weekdays.calls t120 t122 t123 false _ A22.out).mono ?_); rintro e w33 ⟨rfl, hb⟩; refine ⟨_, rfl, ?_⟩; have n0_ := Aside0.mk (below_step (by repeat (first | (with_reducible first | exact HB.out | apply below_alloc | apply pw_below_drewN | apply below_drew1) | exact HB.out)) hb); clear HB; have HB := n0_; clear n0_; (try clear hb); (try clear hb2); (try clear hk); (try clear hi)) | (go_at_call 15; (with_reducible refine (spec_WeekdayText.calls (wrap64 (Int.tmod a0 7)) (wrap64 (Int.tmod a1 7)) t125 _ A24.out).mono ?_); rintro e w' ⟨rfl, ⟨nd, rfl⟩⟩))
          go_ret
          exact ⟨by first | rfl | (simp [errW_none, errW_some] <;> rfl) | (simp [*, errW_none, errW_some] <;> rfl), by repeat (first | (with_reducible first | exact HB.out | apply below_alloc | apply pw_below_drewN | apply below_drew1) | exact HB.out)⟩
      · rw [if_neg c25] at H
        have c25b0 : (t120.toList == t125.toList) = false := beq_eq_false_iff_ne.mpr c25
        have c25b1 : (t120.toList != t125.toList) = true := bne_iff_ne.mpr c25
        obtain rfl := Option.some.inj H
        go_enter Tryd.func5, Tryd.ntmps5
        go_wp2_with (first | ((with_reducible refine gate_callee (f := 14) rfl ?_); refine goesL_ (some 26) rfl rfl Tryd.func14 (by kernel_rfl) rfl #[.int .i64 (wrap64 (Int.tmod a0 7)), .int .i64 (wrap64 (Int.tmod a1 7))] rfl (by (try simp only [List.map_toArray, List.map_cons, List.map_nil]); first | done | rfl | (simp only [List.length_drop, List.length_take]; rfl)) ?_; (with_reducible refine (impl_WeekdayText.calls (wrap64 (Int.tmod a0 7)) (wrap64 (Int.tmod a1 7)) t120 true _ A21.out).mono ?_); rintro e w34 ⟨rfl, hb⟩; refine ⟨_, rfl, ?_⟩; have n0_ := Aside0.mk (below_step (by repeat (first | (with_reducible first | exact HB.out | apply below_alloc | apply pw_below_drewN | apply below_drew1) | exact HB.out)) hb); clear HB; have HB := n0_; clear n0_; (try clear hb); (try clear hb2); (try clear hk); (try clear hi)) | ((with_reducible refine gate_callee (f := 12) rfl ?_); refine goesL_ (some 31) rfl rfl Tryd.func12 (by kernel_rfl) rfl #[.string t120] rfl (by (try simp only [List.map_toArray, List.map_cons, List.map_nil]); first | done | rfl | (simp only [List.length_drop, List.length_take]; rfl)) ?_; (with_reducible refine (impl_Weekdays.calls t120 t122 t123 t124 _ A22.out).mono ?_); rintro e w35 ⟨rfl, hb⟩; refine ⟨_, rfl, ?_⟩; have n0_ := Aside0.mk (below_step (by repeat (first | (with_reducible first | exact HB.out | apply below_alloc | apply pw_below_drewN | apply below_drew1) | exact HB.out)) hb); clear HB; have HB := n0_; clear n0_; (try clear hb); (try clear hb2); (try clear hk); (try clear hi)) | (go_at_call 15; (with_reducible refine (spec_WeekdayText.calls (wrap64 (Int.tmod a0 7)) (wrap64 (Int.tmod a1 7)) t125 _ A24.out).mono ?_); rintro e w' ⟨rfl, ⟨nd, rfl⟩⟩))
        go_ret
        exact ⟨by first | rfl | (simp [errW_none, errW_some] <;> rfl) | (simp [*, errW_none, errW_some] <;> rfl), by repeat (first | (with_reducible first | exact HB.out | apply below_alloc | apply pw_below_drewN | apply below_drew1) | exact HB.out)⟩
    · replace c23 := Bool.eq_false_iff.mpr c23
      subst c23
      have H1 : (some false) = some r := by rw [if_neg (show ¬ (false = true) by decide)] at H; exact H
      clear H
      have H := H1
      clear H1
      obtain rfl := Option.some.inj H
      go_enter Tryd.func5, Tryd.ntmps5
      go_wp2_with (first | ((with_reducible refine gate_callee (f := 14) rfl ?_); refine goesL_ (some 26) rfl rfl Tryd.func14 (by kernel_rfl) rfl #[.int .i64 (wrap64 (Int.tmod a0 7)), .int .i64 (wrap64 (Int.tmod a1 7))] rfl (by (try simp only [List.map_toArray, List.map_cons, List.map_nil]); first | done | rfl | (simp only [List.length_drop, List.length_take]; rfl)) ?_; (with_reducible refine (impl_WeekdayText.calls (wrap64 (Int.tmod a0 7)) (wrap64 (Int.tmod a1 7)) t120 false _ A21.out).mono ?_); rintro e w36 ⟨rfl, hb⟩; refine ⟨_, rfl, ?_⟩; have n0_ := Aside0.mk (below_step (by repeat (first | (with_reducible first | exact HB.out | apply below_alloc | apply pw_below_drewN | apply below_drew1) | exact HB.out)) hb); clear HB; have HB := n0_; clear n0_; (try clear hb); (try clear hb2); (try clear hk); (try clear hi)) | ((with_reducible refine gate_callee (f := 12) rfl ?_); refine goesL_ (some 31) rfl rfl Tryd.func12 (by kernel_rfl) rfl #[.string t120] rfl (by (try simp only [List.map_toArray, List.map_cons, List.map_nil]); first | done | rfl | (simp only [List.length_drop, List.length_take]; rfl)) ?_; (with_reducible refine (impl_Weekdays.calls t120 t122 t123 t124 _ A22.out).mono ?_); rintro e w37 ⟨rfl, hb⟩; refine ⟨_, rfl, ?_⟩; have n0_ := Aside0.mk (below_step (by repeat (first | (with_reducible first | exact HB.out | apply below_alloc | apply pw_below_drewN | apply below_drew1) | exact HB.out)) hb); clear HB; have HB := n0_; clear n0_; (try clear hb); (try clear hb2); (try clear hk); (try clear hi)))
      go_ret
      exact ⟨by first | rfl | (simp [errW_none, errW_some] <;> rfl) | (simp [*, errW_none, errW_some] <;> rfl), by repeat (first | (with_reducible first | exact HB.out | apply below_alloc | apply pw_below_drewN | apply below_drew1) | exact HB.out)⟩

/-- THE ONE PURE STATEMENT of laws_FnWeekdaysBack: yours. -/
def laws_FnWeekdaysBack.Pure : Prop := ∀ (a0 : Int) (a1 : Int), (Lit.int .u8 a0).wf = true → (Lit.int .u8 a1).wf = true → laws_FnWeekdaysBack.f a0 a1 = some true

end Go.Proofs.YtfkapmbjnfnmmaaDoor.Q
