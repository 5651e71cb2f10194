-- printed by this project's own program wip/tools/mkprint.py (the kit's print.py with hand-proved contracts put in)
import Derived.Test.YtmjoebnphacadaaDoorQx0
import Derived.Test.YtmjoebnphacadaaDoorQx31
import Derived.Test.YtmjoebnphacadaaDoorQx32
import Derived.Test.YtmjoebnphacadaaDoorQx44
import Derived.Test.YtmjoebnphacadaaDoorQx46
namespace Go.Proofs.YtmjoebnphacadaaDoor.Q
open Go.RowKit Go.Proofs.YtmjoebnphacadaaDoorW.PrintWords Go.Proofs.YtmjoebnphacadaaDoorW.PrintLast Go.Proofs.YtmjoebnphacadaaDoorW.PrintMore
attribute [local go_sem] max2_int min2_int max_two min_two max_three min_three max_four min_four   -- for this text's walks alone
set_option linter.unusedVariables false
set_option linter.unusedSimpArgs false

/-! ### laws_FnComma: function 8 -/
noncomputable def laws_FnComma.j0 : Nat → ByteArray → List (S35) → Bool → Option (Bool)
  | 0, _, _, _ => none
  | k + 1, x0, x3, x30 => if x30 = true then (some true) else (if x0.size + 1 ≤ 9223372036854775807 then ((impl_ParseMatchers.f (x0 ++ (⟨#[44]⟩ : ByteArray))).bind fun bt197 => (if bt197.2 = true then ((laws_eqMatchers.f k bt197.1 x3).bind fun t201 => (some t201)) else (some false))) else (none))
noncomputable def laws_FnComma.f (k : Nat) (a0 : ByteArray) : Option (Bool) := if (a0.size : Int) > 2147483647 then (some true) else ((laws_one.f).bind fun t188 => (if t188 = true then ((laws_bare.f k a0).bind fun bt189 => (if bt189.2.2 = true then (if 0 ≤ (wrap64 ((bt189.2.1.length : Int) - 1)) then (if (wrap64 ((bt189.2.1.length : Int) - 1)) < (bt189.2.1.length : Int) then (laws_FnComma.j0 k a0 bt189.1 (((rd_T27 bt189.2.1 (wrap64 ((bt189.2.1.length : Int) - 1))).f0) == 3)) else (none)) else (none)) else (laws_FnComma.j0 k a0 bt189.1 true))) else (some false)))
theorem laws_FnComma.mono_l : ∀ k, (∀ y0 y1 y2, LeO (laws_FnComma.j0 k y0 y1 y2) (laws_FnComma.j0 (k + 1) y0 y1 y2))
  | 0 => fun _ _ _ r h => by simp [laws_FnComma.j0] at h
  | k + 1 => by
    have ih0 := laws_FnComma.mono_l k
    · intro y0 y1 y2
      unfold laws_FnComma.j0
      repeat' first
      | (with_reducible exact ih0 _ _ _)
      | (with_reducible exact laws_bare.mono _ _)
      | (with_reducible exact laws_eqMatchers.mono _ _ _)
      | (with_reducible exact LeO.refl _)
      | (with_reducible exact LeO.none _)
      | (with_reducible refine LeO.ite ?_ ?_)
      | (with_reducible refine LeO.bind ?_ (fun _ => ?_))
      | exact ih0 _ _ _
      | exact laws_bare.mono _ _
      | exact laws_eqMatchers.mono _ _ _
      | exact LeO.none _
      | refine LeO.ite ?_ ?_
      | refine LeO.bind ?_ (fun _ => ?_)
theorem laws_FnComma.mono : ∀ a0 k, LeO (laws_FnComma.f k a0) (laws_FnComma.f (k + 1) a0) := by
  intro a0 k
  have ih0 := laws_FnComma.mono_l k
  unfold laws_FnComma.f
  repeat' first
      | (with_reducible exact ih0 _ _ _)
      | (with_reducible exact laws_bare.mono _ _)
      | (with_reducible exact laws_eqMatchers.mono _ _ _)
      | (with_reducible exact LeO.refl _)
      | (with_reducible exact LeO.none _)
      | (with_reducible refine LeO.ite ?_ ?_)
      | (with_reducible refine LeO.bind ?_ (fun _ => ?_))
      | exact ih0 _ _ _
      | exact laws_bare.mono _ _
      | exact laws_eqMatchers.mono _ _ _
      | exact LeO.none _
      | refine LeO.ite ?_ ?_
      | refine LeO.bind ?_ (fun _ => ?_)
set_option maxHeartbeats 8000000 in
set_option maxRecDepth 100000 in
theorem laws_FnComma.calls (k : Nat) (a0 : ByteArray) (r : Bool) (w : World) (hT_ : Go.Proofs.YtmjoebnphacadaaDoor.Lex.ETx w) (h : laws_FnComma.f k a0 = some r) :
    Calls Tryd.prog 8 #[.string a0] w fun e w' => e = .returned (.bool r) ∧ Below w.heap.size w w' := by
  have HT_ := Aside0.mk hT_
  clear hT_
  have HB := Aside0.mk (Below.refl w.heap.size w)
  have H : (if (a0.size : Int) > 2147483647 then (some true) else ((laws_one.f).bind fun t188 => (if t188 = true then ((laws_bare.f k a0).bind fun bt189 => (if bt189.2.2 = true then (if 0 ≤ (wrap64 ((bt189.2.1.length : Int) - 1)) then (if (wrap64 ((bt189.2.1.length : Int) - 1)) < (bt189.2.1.length : Int) then (laws_FnComma.j0 k a0 bt189.1 (((rd_T27 bt189.2.1 (wrap64 ((bt189.2.1.length : Int) - 1))).f0) == 3)) else (none)) else (none)) else (laws_FnComma.j0 k a0 bt189.1 true))) else (some false)))) = some r := h
  clear h
  by_cases c2 : (a0.size : Int) > 2147483647
  · rw [if_pos c2] at H
    have c2b0 : decide (2147483647 < (a0.size : Int)) = true := decide_eq_true c2
    have c2b1 : decide (2147483647 < a0.size) = true := decide_eq_true (by omega)
    clear c2
    obtain rfl := Option.some.inj H
    go_enter Tryd.func8, Tryd.ntmps8
    go_wp2
    go_ret
    exact ⟨by first | rfl | (simp [errW_none, errW_some] <;> rfl) | (simp [*, errW_none, errW_some] <;> rfl), by repeat (first | (with_reducible first | exact HB.out | apply below_alloc | apply pw_below_drewN | apply below_drew1) | exact HB.out)⟩
  · rw [if_neg c2] at H
    have c2b0 : decide (2147483647 < (a0.size : Int)) = false := decide_eq_false c2
    have c2b1 : decide (2147483647 < a0.size) = false := decide_eq_false (by omega)
    clear c2
    replace H := Option.bind_eq_some_iff.mp H
    obtain ⟨t188, A30, H⟩ := H
    replace H : (if t188 = true then ((laws_bare.f k a0).bind fun bt189 => (if bt189.2.2 = true then (if 0 ≤ (wrap64 ((bt189.2.1.length : Int) - 1)) then (if (wrap64 ((bt189.2.1.length : Int) - 1)) < (bt189.2.1.length : Int) then (laws_FnComma.j0 k a0 bt189.1 (((rd_T27 bt189.2.1 (wrap64 ((bt189.2.1.length : Int) - 1))).f0) == 3)) else (none)) else (none)) else (laws_FnComma.j0 k a0 bt189.1 true))) else (some false)) = some r := H
    have A3 := Aside0.mk A30
    clear A30
    by_cases c4 : t188 = true
    · subst c4
      have H1 : ((laws_bare.f k a0).bind fun bt189 => (if bt189.2.2 = true then (if 0 ≤ (wrap64 ((bt189.2.1.length : Int) - 1)) then (if (wrap64 ((bt189.2.1.length : Int) - 1)) < (bt189.2.1.length : Int) then (laws_FnComma.j0 k a0 bt189.1 (((rd_T27 bt189.2.1 (wrap64 ((bt189.2.1.length : Int) - 1))).f0) == 3)) else (none)) else (none)) else (laws_FnComma.j0 k a0 bt189.1 true))) = some r := by rw [if_pos rfl] at H; exact H
      clear H
      have H := H1
      clear H1
      replace H := Option.bind_eq_some_iff.mp H
      obtain ⟨⟨t189, t190, t191⟩, A50, H⟩ := H
      replace H : (if t191 = true then (if 0 ≤ (wrap64 ((t190.length : Int) - 1)) then (if (wrap64 ((t190.length : Int) - 1)) < (t190.length : Int) then (laws_FnComma.j0 k a0 t189 (((rd_T27 t190 (wrap64 ((t190.length : Int) - 1))).f0) == 3)) else (none)) else (none)) else (laws_FnComma.j0 k a0 t189 true)) = some r := H
      have A5 := Aside0.mk A50
      clear A50
      have HC6 := Aside0.mk H
      clear H
      go_enter Tryd.func8, Tryd.ntmps8
      go_upto_region 6 with (first | ((with_reducible refine gate_callee (f := 13) rfl ?_); refine goesL_ (some 11) rfl rfl Tryd.func13 (by kernel_rfl) rfl #[] rfl (by (try simp only [List.map_toArray, List.map_cons, List.map_nil]); first | done | rfl | (simp only [List.length_drop, List.length_take]; rfl)) ?_; (with_reducible refine (laws_one.calls  true _ ?side1 A3.out).mono ?_); (case side1 => exact Go.Proofs.YtmjoebnphacadaaDoor.Lex.ETx.below HT_.out (by repeat (first | (with_reducible first | exact HB.out | apply below_alloc | apply pw_below_drewN | apply below_drew1) | exact HB.out))); rintro e w7 ⟨rfl, hb⟩; refine ⟨_, rfl, ?_⟩; have n0_ := Aside0.mk (below_step (by repeat (first | (with_reducible first | exact HB.out | apply below_alloc | apply pw_below_drewN | apply below_drew1) | exact HB.out)) hb); clear HB; have HB := n0_; clear n0_; (try clear hb); (try clear hb2); (try clear hk); (try clear hi)) | ((with_reducible refine gate_callee (f := 21) rfl ?_); refine goesL_ (some 15) rfl rfl Tryd.func21 (by kernel_rfl) rfl #[.string a0] rfl (by (try simp only [List.map_toArray, List.map_cons, List.map_nil]); first | done | rfl | (simp only [List.length_drop, List.length_take]; rfl)) ?_; (with_reducible refine (laws_bare.calls k a0 t189 t190 t191 _ ?side1 A5.out).mono ?_); (case side1 => exact Go.Proofs.YtmjoebnphacadaaDoor.Lex.ETx.below HT_.out (by repeat (first | (with_reducible first | exact HB.out | apply below_alloc | apply pw_below_drewN | apply below_drew1) | exact HB.out))); rintro e w8 ⟨v192, v194, rfl, ho0, ho1, hb⟩; refine ⟨_, rfl, ?_⟩; have n0_ := Aside0.mk (Kd.R_lower ho0 (below_size (by repeat (first | (with_reducible first | exact HB.out | apply below_alloc | apply pw_below_drewN | apply below_drew1) | exact HB.out)))); have n1_ := Aside0.mk (Kd.R_lower ho1 (below_size (by repeat (first | (with_reducible first | exact HB.out | apply below_alloc | apply pw_below_drewN | apply below_drew1) | exact HB.out)))); have n2_ := Aside0.mk (below_step (by repeat (first | (with_reducible first | exact HB.out | apply below_alloc | apply pw_below_drewN | apply below_drew1) | exact HB.out)) hb); clear HB; have HO193 := n0_; have HO195 := n1_; have HB := n2_; clear n0_ n1_ n2_; (try clear hb); (try clear hb2); (try clear hk); (try clear hi); (try clear ho0); (try clear ho1)))
      (try simp only [Act.put, List.setIfInBounds_toArray, List.set_cons_zero, List.set_cons_succ])
      go_cut [30] (fun v30 wc => ∃ (kq : Nat) (x30_5 : Bool), v30 = .bool x30_5 ∧ Aside0 (laws_FnComma.j0 kq a0 t189 x30_5 = some r) ∧ Aside0 (kq ≤ k) ∧ Aside0 (Kd.R k35 35 wc w.heap.size (fun _ => True) v192 t189) ∧ Aside0 (Below w.heap.size w wc))
      case first =>
        have H := HC6.out
        clear HC6
        by_cases c9 : t191 = true
        · subst c9
          have H1 : (if 0 ≤ (wrap64 ((t190.length : Int) - 1)) then (if (wrap64 ((t190.length : Int) - 1)) < (t190.length : Int) then (laws_FnComma.j0 k a0 t189 (((rd_T27 t190 (wrap64 ((t190.length : Int) - 1))).f0) == 3)) else (none)) else (none)) = some r := by rw [if_pos rfl] at H; exact H
          clear H
          have H := H1
          clear H1
          obtain ⟨ji10, hji10⟩ : ∃ j_ : Int, (wrap64 ((t190.length : Int) - 1)) = j_ := ⟨_, rfl⟩
          replace H : (if 0 ≤ (ji10) then (if (ji10) < (t190.length : Int) then (laws_FnComma.j0 k a0 t189 (((rd_T27 t190 (ji10)).f0) == 3)) else (none)) else (none)) = some r := by first | (rw [hji10] at H; exact H) | (simp only [hji10] at H ⊢; exact H)
          have hji10w : (IntKind.i64.wrap ((t190.length : Int) - 1)) = ji10 := (i64_w _).trans hji10
          by_cases c11 : 0 ≤ (ji10)
          · rw [if_pos c11] at H
            have c11b0 : decide (0 ≤ (ji10)) = true := decide_eq_true c11
            clear c11
            (first | rw [c11b0] | (simp only [i64_w, i32_w]; rw [c11b0]) | skip)
            by_cases c12 : (ji10) < (t190.length : Int)
            · rw [if_pos c12] at H
              have c12b0 : decide ((ji10) < (t190.length : Int)) = true := decide_eq_true c12
              clear c12
              have H' := Aside0.mk H
              clear H
              obtain ⟨Ao13, co13, eo13⟩ := Kd.R_slice HO195.out
              subst eo13
              have p196 : 0 ≤ ((ji10) : Int) := of_decide_eq_true (by first | (with_reducible assumption) | assumption)
              have q196 : (ji10) < (t190.length : Int) := of_decide_eq_true (by first | (with_reducible assumption) | assumption)
              obtain ⟨ad196, e196, hx196_0, hx196_1, hx196_2, hx196_3, hx196_4, hx196_5⟩ := at_T27 (Kd.R_reads' HO195.out).2.2 (ji10) p196 q196
              cases e196
              replace p196 := eq_true p196
              replace q196 := eq_true q196
              go_wp2
              go_meet
              case rel => exact ⟨_, ((((rd_T27 t190 (ji10)).f0) == 3)), (by first | rfl | (simp; done) | (simp only [← hji10] <;> (first | rfl | simp)) | (simp [*]; done)), H', ⟨by first | omega | exact Nat.le_refl _⟩, ⟨by (with_reducible repeat (first | apply Kd.R_alloc | apply Kd.R_drewN | apply Kd.R_drew)); exact HO193.out⟩, ⟨by repeat (first | (with_reducible first | exact HB.out | apply below_alloc | apply pw_below_drewN | apply below_drew1) | exact HB.out)⟩⟩
            · rw [if_neg c12] at H
              exact absurd H (by simp)
          · rw [if_neg c11] at H
            exact absurd H (by simp)
        · replace c9 := Bool.eq_false_iff.mpr c9
          subst c9
          have H1 : (laws_FnComma.j0 k a0 t189 true) = some r := by rw [if_neg (show ¬ (false = true) by decide)] at H; exact H
          clear H
          have H := H1
          clear H1
          have H' := Aside0.mk H
          clear H
          go_wp2
          go_meet
          case rel => exact ⟨_, (true), (by first | rfl | (simp; done) | (simp [*]; done)), H', ⟨by first | omega | exact Nat.le_refl _⟩, ⟨by (with_reducible repeat (first | apply Kd.R_alloc | apply Kd.R_drewN | apply Kd.R_drew)); exact HO193.out⟩, ⟨by repeat (first | (with_reducible first | exact HB.out | apply below_alloc | apply pw_below_drewN | apply below_drew1) | exact HB.out)⟩⟩
      case rest =>
        clear HC6
        try clear c1
        try clear p1
        try clear q1
        try clear hx1
        try clear c2
        try clear c2b0
        try clear c2b1
        try clear p2
        try clear c4
        try clear p6
        try clear c8
        try clear c9
        try clear c11
        try clear c11b0
        try clear c12
        try clear c12b0
        try clear c13
        try clear hx196_0
        try clear hx196_1
        try clear hx196_2
        try clear hx196_3
        try clear hx196_4
        try clear hx196_5
        try clear p196
        try clear q196
        obtain ⟨kq, x30_5, rfl, HA, HJ5, HO_3, HB⟩ := hcut
        cases kq with
        | zero => exact absurd HA.out (by simp [laws_FnComma.j0])
        | succ kj5 =>
          have H := HA.out
          clear HA
          simp only [laws_FnComma.j0] at H
          by_cases c14 : x30_5 = true
          · subst c14
            have H1 : (some true) = some r := by rw [if_pos rfl] at H; exact H
            clear H
            have H := H1
            clear H1
            obtain rfl := Option.some.inj H
            go_wp2
            go_ret
            exact ⟨by first | rfl | (simp [errW_none, errW_some] <;> rfl) | (simp [*, errW_none, errW_some] <;> rfl), by repeat (first | (with_reducible first | exact HB.out | apply below_alloc | apply pw_below_drewN | apply below_drew1) | exact HB.out)⟩
          · replace c14 := Bool.eq_false_iff.mpr c14
            subst c14
            have H1 : (if a0.size + 1 ≤ 9223372036854775807 then ((impl_ParseMatchers.f (a0 ++ (⟨#[44]⟩ : ByteArray))).bind fun bt197 => (if bt197.2 = true then ((laws_eqMatchers.f kj5 bt197.1 t189).bind fun t201 => (some t201)) else (some false))) else (none)) = some r := by rw [if_neg (show ¬ (false = true) by decide)] at H; exact H
            clear H
            have H := H1
            clear H1
            by_cases c15 : a0.size + 1 ≤ 9223372036854775807
            · rw [if_pos c15] at H
              have c15b0 := eq_true c15
              have c15b1 : decide (a0.size + 1 ≤ 9223372036854775807) = true := decide_eq_true c15
              try have c15b2 : (9223372036854775807 < a0.size + 1) = False := eq_false (Nat.not_lt.2 c15)
              replace H := Option.bind_eq_some_iff.mp H
              obtain ⟨⟨t197, t198⟩, A160, H⟩ := H
              replace H : (if t198 = true then ((laws_eqMatchers.f kj5 t197 t189).bind fun t201 => (some t201)) else (some false)) = some r := H
              have A16 := Aside0.mk A160
              clear A160
              by_cases c17 : t198 = true
              · subst c17
                have H1 : ((laws_eqMatchers.f kj5 t197 t189).bind fun t201 => (some t201)) = some r := by rw [if_pos rfl] at H; exact H
                clear H
                have H := H1
                clear H1
                replace H := Option.bind_eq_some_iff.mp H
                obtain ⟨t201, A180, H⟩ := H
                replace H : (some t201) = some r := H
                have A18 := Aside0.mk A180
                clear A180
                obtain rfl := Option.some.inj H
                go_wp2_with (first | ((with_reducible refine gate_callee (f := 15) rfl ?_); refine goesL_ (some 34) rfl rfl Tryd.func15 (by kernel_rfl) rfl #[.string (a0 ++ (⟨#[44]⟩ : ByteArray))] rfl (by (try simp only [List.map_toArray, List.map_cons, List.map_nil]); first | done | rfl | (simp only [List.length_drop, List.length_take]; rfl)) ?_; (with_reducible refine (impl_ParseMatchers.calls (a0 ++ (⟨#[44]⟩ : ByteArray)) t197 true _ ?side1 A16.out).mono ?_); (case side1 => exact Go.Proofs.YtmjoebnphacadaaDoor.Lex.ETx.below HT_.out (by repeat (first | (with_reducible first | exact HB.out | apply below_alloc | apply pw_below_drewN | apply below_drew1) | exact HB.out))); rintro e w19 ⟨v199, rfl, ho0, hb⟩; refine ⟨_, rfl, ?_⟩; have n0_ := Aside0.mk (Kd.R_elder' (by (with_reducible repeat (first | apply Kd.R_alloc | apply Kd.R_drewN | apply Kd.R_drew)); exact HO_3.out) (Kd.R_base ho0) hb); have n1_ := Aside0.mk (Kd.R_lower (Kd.R_new' ho0 (Kd.R_lt (by (with_reducible repeat (first | apply Kd.R_alloc | apply Kd.R_drewN | apply Kd.R_drew)); exact HO_3.out))) (below_size (by repeat (first | (with_reducible first | exact HB.out | apply below_alloc | apply pw_below_drewN | apply below_drew1) | exact HB.out)))); have n2_ := Aside0.mk (below_step (by repeat (first | (with_reducible first | exact HB.out | apply below_alloc | apply pw_below_drewN | apply below_drew1) | exact HB.out)) hb); clear HO_3; clear HB; have HO_3 := n0_; have HO200 := n1_; have HB := n2_; clear n0_ n1_ n2_; (try clear hb); (try clear hb2); (try clear hk); (try clear hi); (try clear ho0); obtain ⟨Ao20, co20, eo20⟩ := Kd.R_slice HO200.out; subst eo20; obtain ⟨Ao21, co21, eo21⟩ := Kd.R_slice HO_3.out; subst eo21) | (go_at_call 20; (with_reducible refine (laws_eqMatchers.calls kj5 _ _ t197 _ _ t189 t201 _ ?side1 ?side2 ?side3 ?side4 A18.out).mono ?_); (case side1 => repeat (first | exact (Kd.R_reads' HO200.out).2.2 | (with_reducible refine Kd.C_alloc ?_ _) | (with_reducible refine Kd.C_drewN ?_ _) | (with_reducible refine Kd.C_drew ?_))); (case side2 => exact (Kd.R_reads' HO200.out).2.1); (case side3 => repeat (first | exact (Kd.R_reads' HO_3.out).2.2 | (with_reducible refine Kd.C_alloc ?_ _) | (with_reducible refine Kd.C_drewN ?_ _) | (with_reducible refine Kd.C_drew ?_))); (case side4 => exact (Kd.R_reads' HO_3.out).2.1); rintro e w' ⟨rfl, ⟨nd, rfl⟩⟩))
                go_ret
                exact ⟨by first | rfl | (simp [errW_none, errW_some] <;> rfl) | (simp [*, errW_none, errW_some] <;> rfl), by repeat (first | (with_reducible first | exact HB.out | apply below_alloc | apply pw_below_drewN | apply below_drew1) | exact HB.out)⟩
              · replace c17 := Bool.eq_false_iff.mpr c17
                subst c17
                have H1 : (some false) = some r := by rw [if_neg (show ¬ (false = true) by decide)] at H; exact H
                clear H
                have H := H1
                clear H1
                obtain rfl := Option.some.inj H
                go_wp2_with (first | ((with_reducible refine gate_callee (f := 15) rfl ?_); refine goesL_ (some 34) rfl rfl Tryd.func15 (by kernel_rfl) rfl #[.string (a0 ++ (⟨#[44]⟩ : ByteArray))] rfl (by (try simp only [List.map_toArray, List.map_cons, List.map_nil]); first | done | rfl | (simp only [List.length_drop, List.length_take]; rfl)) ?_; (with_reducible refine (impl_ParseMatchers.calls (a0 ++ (⟨#[44]⟩ : ByteArray)) t197 false _ ?side1 A16.out).mono ?_); (case side1 => exact Go.Proofs.YtmjoebnphacadaaDoor.Lex.ETx.below HT_.out (by repeat (first | (with_reducible first | exact HB.out | apply below_alloc | apply pw_below_drewN | apply below_drew1) | exact HB.out))); rintro e w22 ⟨v199, rfl, ho0, hb⟩; refine ⟨_, rfl, ?_⟩; have n0_ := Aside0.mk (Kd.R_elder' (by (with_reducible repeat (first | apply Kd.R_alloc | apply Kd.R_drewN | apply Kd.R_drew)); exact HO_3.out) (Kd.R_base ho0) hb); have n1_ := Aside0.mk (Kd.R_lower (Kd.R_new' ho0 (Kd.R_lt (by (with_reducible repeat (first | apply Kd.R_alloc | apply Kd.R_drewN | apply Kd.R_drew)); exact HO_3.out))) (below_size (by repeat (first | (with_reducible first | exact HB.out | apply below_alloc | apply pw_below_drewN | apply below_drew1) | exact HB.out)))); have n2_ := Aside0.mk (below_step (by repeat (first | (with_reducible first | exact HB.out | apply below_alloc | apply pw_below_drewN | apply below_drew1) | exact HB.out)) hb); clear HO_3; clear HB; have HO_3 := n0_; have HO200 := n1_; have HB := n2_; clear n0_ n1_ n2_; (try clear hb); (try clear hb2); (try clear hk); (try clear hi); (try clear ho0)))
                go_ret
                exact ⟨by first | rfl | (simp [errW_none, errW_some] <;> rfl) | (simp [*, errW_none, errW_some] <;> rfl), by repeat (first | (with_reducible first | exact HB.out | apply below_alloc | apply pw_below_drewN | apply below_drew1) | exact HB.out)⟩
            · rw [if_neg c15] at H
              exact absurd H (by simp)
    · replace c4 := Bool.eq_false_iff.mpr c4
      subst c4
      have H1 : (some false) = some r := by rw [if_neg (show ¬ (false = true) by decide)] at H; exact H
      clear H
      have H := H1
      clear H1
      obtain rfl := Option.some.inj H
      go_enter Tryd.func8, Tryd.ntmps8
      go_wp2_with (first | ((with_reducible refine gate_callee (f := 13) rfl ?_); refine goesL_ (some 11) rfl rfl Tryd.func13 (by kernel_rfl) rfl #[] rfl (by (try simp only [List.map_toArray, List.map_cons, List.map_nil]); first | done | rfl | (simp only [List.length_drop, List.length_take]; rfl)) ?_; (with_reducible refine (laws_one.calls  false _ ?side1 A3.out).mono ?_); (case side1 => exact Go.Proofs.YtmjoebnphacadaaDoor.Lex.ETx.below HT_.out (by repeat (first | (with_reducible first | exact HB.out | apply below_alloc | apply pw_below_drewN | apply below_drew1) | exact HB.out))); rintro e w23 ⟨rfl, hb⟩; refine ⟨_, rfl, ?_⟩; have n0_ := Aside0.mk (below_step (by repeat (first | (with_reducible first | exact HB.out | apply below_alloc | apply pw_below_drewN | apply below_drew1) | exact HB.out)) hb); clear HB; have HB := n0_; clear n0_; (try clear hb); (try clear hb2); (try clear hk); (try clear hi)))
      go_ret
      exact ⟨by first | rfl | (simp [errW_none, errW_some] <;> rfl) | (simp [*, errW_none, errW_some] <;> rfl), by repeat (first | (with_reducible first | exact HB.out | apply below_alloc | apply pw_below_drewN | apply below_drew1) | exact HB.out)⟩

/-- THE ONE PURE STATEMENT of laws_FnComma: yours. -/
noncomputable def laws_FnComma.Pure : Prop := ∀ (a0 : ByteArray), a0.size ≤ maxLen → ∃ k, laws_FnComma.f k a0 = some true

end Go.Proofs.YtmjoebnphacadaaDoor.Q
