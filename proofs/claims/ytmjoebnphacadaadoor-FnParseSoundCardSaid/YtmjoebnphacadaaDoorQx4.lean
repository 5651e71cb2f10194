-- printed by this project's own program wip/tools/mkprint.py (the kit's print.py with hand-proved contracts put in)
import Derived.Test.YtmjoebnphacadaaDoorMc
import Derived.Test.YtmjoebnphacadaaDoorQx0
import Derived.Test.YtmjoebnphacadaaDoorQx2
import Derived.Test.YtmjoebnphacadaaDoorQx3
namespace Go.Proofs.YtmjoebnphacadaaDoor.Q
open Go.RowKit Go.Proofs.YtmjoebnphacadaaDoorW.PrintWords Go.Proofs.YtmjoebnphacadaaDoorW.PrintLast Go.Proofs.YtmjoebnphacadaaDoorW.PrintMore
attribute [local go_sem] max2_int min2_int max_two min_two max_three min_three max_four min_four   -- for this text's walks alone
set_option linter.unusedVariables false
set_option linter.unusedSimpArgs false

/-! ### laws_FnParseSound: function 5 -/
mutual
noncomputable def laws_FnParseSound.j0 : Nat → ByteArray → Bool → Option (Bool)
  | 0, _, _ => none
  | k + 1, x0, x17 => if x17 = true then (some true) else ((impl_ParseMatchers.f x0).bind fun bt126 => (if bt126.2 = true then (laws_FnParseSound.l0 k x0 bt126.1 (bt126.1.length : Int) 0) else (some ((bt126.1.length : Int) == 0))))
noncomputable def laws_FnParseSound.l0 : Nat → ByteArray → List (S35) → Int → Int → Option (Bool)
  | 0, _, _, _, _ => none
  | k + 1, x0, x28, x29, x30 => if x30 < x29 then (if 0 ≤ x30 then (if x30 < (x28.length : Int) then (if ((rd_T35 x28 x30).f0) = 0 then ((utf8_ValidString.f x0).bind fun t132 => (if t132 = true then ((utf8_ValidString.f ((rd_T35 x28 x30).f1)).bind fun t133 => (if t133 = true then ((utf8_ValidString.f ((rd_T35 x28 x30).f2)).bind fun t134 => (if t134 = true then (laws_FnParseSound.l0 k x0 x28 x29 (wrap64 (x30 + 1))) else (some false))) else (some false))) else (laws_FnParseSound.l0 k x0 x28 x29 (wrap64 (x30 + 1))))) else (if ((rd_T35 x28 x30).f0) = 1 then ((utf8_ValidString.f x0).bind fun t135 => (if t135 = true then ((utf8_ValidString.f ((rd_T35 x28 x30).f1)).bind fun t136 => (if t136 = true then ((utf8_ValidString.f ((rd_T35 x28 x30).f2)).bind fun t137 => (if t137 = true then (laws_FnParseSound.l0 k x0 x28 x29 (wrap64 (x30 + 1))) else (some false))) else (some false))) else (laws_FnParseSound.l0 k x0 x28 x29 (wrap64 (x30 + 1))))) else (some false))) else (none)) else (none)) else (some true)
end
noncomputable def laws_FnParseSound.f (k : Nat) (a0 : ByteArray) : Option (Bool) := if (a0.size : Int) > 2147483647 then (some true) else ((laws_one.f).bind fun t123 => (if t123 = true then ((laws_long.f a0).bind fun t124 => (if t124 = true then (laws_FnParseSound.j0 k a0 true) else ((laws_has.f k a0 126).bind fun t125 => (laws_FnParseSound.j0 k a0 t125)))) else (some false)))
theorem laws_FnParseSound.mono_l : ∀ k, (∀ y0 y1, LeO (laws_FnParseSound.j0 k y0 y1) (laws_FnParseSound.j0 (k + 1) y0 y1)) ∧ (∀ y0 y1 y2 y3, LeO (laws_FnParseSound.l0 k y0 y1 y2 y3) (laws_FnParseSound.l0 (k + 1) y0 y1 y2 y3))
  | 0 => ⟨fun _ _ r h => by simp [laws_FnParseSound.j0] at h, fun _ _ _ _ r h => by simp [laws_FnParseSound.l0] at h⟩
  | k + 1 => by
    obtain ⟨ih0, ih1⟩ := laws_FnParseSound.mono_l k
    refine ⟨?_, ?_⟩
    · intro y0 y1
      unfold laws_FnParseSound.j0
      repeat' first
      | (with_reducible exact ih0 _ _)
      | (with_reducible exact ih1 _ _ _ _)
      | (with_reducible exact laws_has.mono _ _ _)
      | (with_reducible exact LeO.refl _)
      | (with_reducible exact LeO.none _)
      | (with_reducible refine LeO.ite ?_ ?_)
      | (with_reducible refine LeO.bind ?_ (fun _ => ?_))
      | exact ih0 _ _
      | exact ih1 _ _ _ _
      | exact laws_has.mono _ _ _
      | exact LeO.none _
      | refine LeO.ite ?_ ?_
      | refine LeO.bind ?_ (fun _ => ?_)
    · intro y0 y1 y2 y3
      unfold laws_FnParseSound.l0
      repeat' first
      | (with_reducible exact ih0 _ _)
      | (with_reducible exact ih1 _ _ _ _)
      | (with_reducible exact laws_has.mono _ _ _)
      | (with_reducible exact LeO.refl _)
      | (with_reducible exact LeO.none _)
      | (with_reducible refine LeO.ite ?_ ?_)
      | (with_reducible refine LeO.bind ?_ (fun _ => ?_))
      | exact ih0 _ _
      | exact ih1 _ _ _ _
      | exact laws_has.mono _ _ _
      | exact LeO.none _
      | refine LeO.ite ?_ ?_
      | refine LeO.bind ?_ (fun _ => ?_)
theorem laws_FnParseSound.mono : ∀ a0 k, LeO (laws_FnParseSound.f k a0) (laws_FnParseSound.f (k + 1) a0) := by
  intro a0 k
  obtain ⟨ih0, ih1⟩ := laws_FnParseSound.mono_l k
  unfold laws_FnParseSound.f
  repeat' first
      | (with_reducible exact ih0 _ _)
      | (with_reducible exact ih1 _ _ _ _)
      | (with_reducible exact laws_has.mono _ _ _)
      | (with_reducible exact LeO.refl _)
      | (with_reducible exact LeO.none _)
      | (with_reducible refine LeO.ite ?_ ?_)
      | (with_reducible refine LeO.bind ?_ (fun _ => ?_))
      | exact ih0 _ _
      | exact ih1 _ _ _ _
      | exact laws_has.mono _ _ _
      | exact LeO.none _
      | refine LeO.ite ?_ ?_
      | refine LeO.bind ?_ (fun _ => ?_)
set_option maxHeartbeats 8000000 in
set_option maxRecDepth 100000 in
theorem laws_FnParseSound.calls (k : Nat) (a0 : ByteArray) (r : Bool) (w : World) (hT_ : Go.Proofs.YtmjoebnphacadaaDoor.Lex.ETx w) (h : laws_FnParseSound.f k a0 = some r) :
    Calls Tryd.prog 5 #[.string a0] w fun e w' => e = .returned (.bool r) ∧ Below w.heap.size w w' := by
  have HT_ := Aside0.mk hT_
  clear hT_
  have hu35 := Tryd.underlying35
  have HB := Aside0.mk (Below.refl w.heap.size w)
  have H : (if (a0.size : Int) > 2147483647 then (some true) else ((laws_one.f).bind fun t123 => (if t123 = true then ((laws_long.f a0).bind fun t124 => (if t124 = true then (laws_FnParseSound.j0 k a0 true) else ((laws_has.f k a0 126).bind fun t125 => (laws_FnParseSound.j0 k a0 t125)))) else (some false)))) = some r := h
  clear h
  by_cases c2 : (a0.size : Int) > 2147483647
  · rw [if_pos c2] at H
    have c2b0 : decide (2147483647 < (a0.size : Int)) = true := decide_eq_true c2
    have c2b1 : decide (2147483647 < a0.size) = true := decide_eq_true (by omega)
    clear c2
    obtain rfl := Option.some.inj H
    go_enter Tryd.func5, Tryd.ntmps5
    go_wp2
    go_ret
    exact ⟨by first | rfl | (simp [errW_none, errW_some] <;> rfl) | (simp [*, errW_none, errW_some] <;> rfl), by repeat (first | (with_reducible first | exact HB.out | apply below_alloc | apply pw_below_drewN | apply below_drew1) | exact HB.out)⟩
  · rw [if_neg c2] at H
    have c2b0 : decide (2147483647 < (a0.size : Int)) = false := decide_eq_false c2
    have c2b1 : decide (2147483647 < a0.size) = false := decide_eq_false (by omega)
    clear c2
    replace H := Option.bind_eq_some_iff.mp H
    obtain ⟨t123, A30, H⟩ := H
    replace H : (if t123 = true then ((laws_long.f a0).bind fun t124 => (if t124 = true then (laws_FnParseSound.j0 k a0 true) else ((laws_has.f k a0 126).bind fun t125 => (laws_FnParseSound.j0 k a0 t125)))) else (some false)) = some r := H
    have A3 := Aside0.mk A30
    clear A30
    by_cases c4 : t123 = true
    · subst c4
      have H1 : ((laws_long.f a0).bind fun t124 => (if t124 = true then (laws_FnParseSound.j0 k a0 true) else ((laws_has.f k a0 126).bind fun t125 => (laws_FnParseSound.j0 k a0 t125)))) = some r := by rw [if_pos rfl] at H; exact H
      clear H
      have H := H1
      clear H1
      have HC5 := Aside0.mk H
      clear H
      go_enter Tryd.func5, Tryd.ntmps5
      go_upto_region 5 with (first | ((with_reducible refine gate_callee (f := 13) rfl ?_); refine goesL_ (some 10) rfl rfl Tryd.func13 (by kernel_rfl) rfl #[] rfl (by (try simp only [List.map_toArray, List.map_cons, List.map_nil]); first | done | rfl | (simp only [List.length_drop, List.length_take]; rfl)) ?_; (with_reducible refine (laws_one.calls  true _ ?side1 A3.out).mono ?_); (case side1 => exact Go.Proofs.YtmjoebnphacadaaDoor.Lex.ETx.below HT_.out (by repeat (first | (with_reducible first | exact HB.out | apply below_alloc | apply pw_below_drewN | apply below_drew1) | exact HB.out))); rintro e w6 ⟨rfl, hb⟩; refine ⟨_, rfl, ?_⟩; have n0_ := Aside0.mk (below_step (by repeat (first | (with_reducible first | exact HB.out | apply below_alloc | apply pw_below_drewN | apply below_drew1) | exact HB.out)) hb); clear HB; have HB := n0_; clear n0_; (try clear hb); (try clear hb2); (try clear hk); (try clear hi)))
      (try simp only [Act.put, List.setIfInBounds_toArray, List.set_cons_zero, List.set_cons_succ])
      go_cut [17] (fun v17 wc => ∃ (kq : Nat) (x17_4 : Bool), v17 = .bool x17_4 ∧ Aside0 (laws_FnParseSound.j0 kq a0 x17_4 = some r) ∧ Aside0 (kq ≤ k) ∧ Aside0 (Below w.heap.size w wc))
      case first =>
        have H := HC5.out
        clear HC5
        replace H := Option.bind_eq_some_iff.mp H
        obtain ⟨t124, A70, H⟩ := H
        replace H : (if t124 = true then (laws_FnParseSound.j0 k a0 true) else ((laws_has.f k a0 126).bind fun t125 => (laws_FnParseSound.j0 k a0 t125))) = some r := H
        have A7 := Aside0.mk A70
        clear A70
        by_cases c8 : t124 = true
        · subst c8
          have H1 : (laws_FnParseSound.j0 k a0 true) = some r := by rw [if_pos rfl] at H; exact H
          clear H
          have H := H1
          clear H1
          have H' := Aside0.mk H
          clear H
          go_wp2_with (first | ((with_reducible refine gate_callee (f := 10) rfl ?_); refine goesL_ (some 13) rfl rfl Tryd.func10 (by kernel_rfl) rfl #[.string a0] rfl (by (try simp only [List.map_toArray, List.map_cons, List.map_nil]); first | done | rfl | (simp only [List.length_drop, List.length_take]; rfl)) ?_; (with_reducible refine (laws_long.calls a0 true _ A7.out).mono ?_); rintro e w' ⟨rfl, ⟨nd, rfl⟩⟩; refine ⟨_, rfl, ?_⟩))
          go_meet
          case rel => exact ⟨_, (true), (by first | rfl | (simp; done) | (simp [*]; done)), H', ⟨by first | omega | exact Nat.le_refl _⟩, ⟨by repeat (first | (with_reducible first | exact HB.out | apply below_alloc | apply pw_below_drewN | apply below_drew1) | exact HB.out)⟩⟩
        · replace c8 := Bool.eq_false_iff.mpr c8
          subst c8
          have H1 : ((laws_has.f k a0 126).bind fun t125 => (laws_FnParseSound.j0 k a0 t125)) = some r := by rw [if_neg (show ¬ (false = true) by decide)] at H; exact H
          clear H
          have H := H1
          clear H1
          replace H := Option.bind_eq_some_iff.mp H
          obtain ⟨t125, A90, H⟩ := H
          replace H : (laws_FnParseSound.j0 k a0 t125) = some r := H
          have A9 := Aside0.mk A90
          clear A90
          have H' := Aside0.mk H
          clear H
          go_wp2_with (first | ((with_reducible refine gate_callee (f := 10) rfl ?_); refine goesL_ (some 13) rfl rfl Tryd.func10 (by kernel_rfl) rfl #[.string a0] rfl (by (try simp only [List.map_toArray, List.map_cons, List.map_nil]); first | done | rfl | (simp only [List.length_drop, List.length_take]; rfl)) ?_; (with_reducible refine (laws_long.calls a0 false _ A7.out).mono ?_); rintro e w' ⟨rfl, ⟨nd, rfl⟩⟩; refine ⟨_, rfl, ?_⟩) | (go_at_call 14; (with_reducible refine (laws_has.calls k a0 126 t125 _ A9.out).mono ?_); rintro e w' ⟨rfl, ⟨nd, rfl⟩⟩))
          go_meet
          case rel => exact ⟨_, (t125), (by first | rfl | (simp; done) | (simp [*]; done)), H', ⟨by first | omega | exact Nat.le_refl _⟩, ⟨by repeat (first | (with_reducible first | exact HB.out | apply below_alloc | apply pw_below_drewN | apply below_drew1) | exact HB.out)⟩⟩
      case rest =>
        clear HC5
        try clear c1
        try clear c2
        try clear c2b0
        try clear c2b1
        try clear p2
        try clear c4
        try clear c5
        try clear c8
        obtain ⟨kq, x17_4, rfl, HA, HJ4, HB⟩ := hcut
        cases kq with
        | zero => exact absurd HA.out (by simp [laws_FnParseSound.j0])
        | succ kj4 =>
          have H := HA.out
          clear HA
          simp only [laws_FnParseSound.j0] at H
          by_cases c10 : x17_4 = true
          · subst c10
            have H1 : (some true) = some r := by rw [if_pos rfl] at H; exact H
            clear H
            have H := H1
            clear H1
            obtain rfl := Option.some.inj H
            go_wp2
            go_ret
            exact ⟨by first | rfl | (simp [errW_none, errW_some] <;> rfl) | (simp [*, errW_none, errW_some] <;> rfl), by repeat (first | (with_reducible first | exact HB.out | apply below_alloc | apply pw_below_drewN | apply below_drew1) | exact HB.out)⟩
          · replace c10 := Bool.eq_false_iff.mpr c10
            subst c10
            have H1 : ((impl_ParseMatchers.f a0).bind fun bt126 => (if bt126.2 = true then (laws_FnParseSound.l0 kj4 a0 bt126.1 (bt126.1.length : Int) 0) else (some ((bt126.1.length : Int) == 0)))) = some r := by rw [if_neg (show ¬ (false = true) by decide)] at H; exact H
            clear H
            have H := H1
            clear H1
            replace H := Option.bind_eq_some_iff.mp H
            obtain ⟨⟨t126, t127⟩, A110, H⟩ := H
            replace H : (if t127 = true then (laws_FnParseSound.l0 kj4 a0 t126 (t126.length : Int) 0) else (some ((t126.length : Int) == 0))) = some r := H
            have A11 := Aside0.mk A110
            clear A110
            by_cases c12 : t127 = true
            · subst c12
              have H1 : (laws_FnParseSound.l0 kj4 a0 t126 (t126.length : Int) 0) = some r := by rw [if_pos rfl] at H; exact H
              clear H
              have H := H1
              clear H1
              have H' := Aside0.mk H
              clear H
              go_wp2_with (first | ((with_reducible refine gate_callee (f := 15) rfl ?_); refine goesL_ (some 20) rfl rfl Tryd.func15 (by kernel_rfl) rfl #[.string a0] rfl (by (try simp only [List.map_toArray, List.map_cons, List.map_nil]); first | done | rfl | (simp only [List.length_drop, List.length_take]; rfl)) ?_; (with_reducible refine (impl_ParseMatchers.calls a0 t126 true _ ?side1 A11.out).mono ?_); (case side1 => exact Go.Proofs.YtmjoebnphacadaaDoor.Lex.ETx.below HT_.out (by repeat (first | (with_reducible first | exact HB.out | apply below_alloc | apply pw_below_drewN | apply below_drew1) | exact HB.out))); rintro e w13 ⟨v128, rfl, ho0, hb⟩; refine ⟨_, rfl, ?_⟩; have n0_ := Aside0.mk (Kd.R_lower ho0 (below_size (by repeat (first | (with_reducible first | exact HB.out | apply below_alloc | apply pw_below_drewN | apply below_drew1) | exact HB.out)))); have n1_ := Aside0.mk (below_step (by repeat (first | (with_reducible first | exact HB.out | apply below_alloc | apply pw_below_drewN | apply below_drew1) | exact HB.out)) hb); clear HB; have HO129 := n0_; have HB := n1_; clear n0_ n1_; (try clear hb); (try clear hb2); (try clear hk); (try clear hi); (try clear ho0); obtain ⟨Ao14, co14, eo14⟩ := Kd.R_slice HO129.out; subst eo14))
              go_loopg [30] kj4 (fun kq v30 w' => ∃ (x30_2 : Int), v30 = .int .i64 x30_2 ∧ Aside0 (laws_FnParseSound.l0 kq a0 t126 (t126.length : Int) x30_2 = some r) ∧ Aside0 (kq ≤ kj4) ∧ Aside0 (Kd.R k35 35 w' w.heap.size (fun _ => True) (.slice Ao14 t126.length co14) t126) ∧ Aside0 (Below w.heap.size w w'))
              case atStart => exact ⟨(0), (by first | rfl | (simp; done) | (simp [*]; done)), H', ⟨Nat.le_refl _⟩, ⟨by (with_reducible repeat (first | apply Kd.R_alloc | apply Kd.R_drewN | apply Kd.R_drew)); exact HO129.out⟩, ⟨by repeat (first | (with_reducible first | exact HB.out | apply below_alloc | apply pw_below_drewN | apply below_drew1) | exact HB.out)⟩⟩
              case round =>
                clear H'
                try clear c1
                try clear c2
                try clear c2b0
                try clear c2b1
                try clear p2
                try clear c4
                try clear c5
                try clear c8
                try clear c10
                try clear c12
                try clear c13
                try clear p2
                obtain ⟨x30_2, rfl, HA, HK2, HO_28, HB⟩ := hrel
                cases gk with
                | zero => exact absurd HA.out (by simp [laws_FnParseSound.l0])
                | succ k2 =>
                  have H := HA.out
                  clear HA
                  simp only [laws_FnParseSound.l0] at H
                  by_cases c15 : x30_2 < (t126.length : Int)
                  · rw [if_pos c15] at H
                    have c15b0 : decide (x30_2 < (t126.length : Int)) = true := decide_eq_true c15
                    clear c15
                    by_cases c16 : 0 ≤ x30_2
                    · rw [if_pos c16] at H
                      have c16b0 : decide (0 ≤ x30_2) = true := decide_eq_true c16
                      clear c16
                      by_cases c17 : x30_2 < (t126.length : Int)
                      · rw [if_pos c17] at H
                        have c17b0 : decide (x30_2 < (t126.length : Int)) = true := decide_eq_true c17
                        clear c17
                        by_cases c18 : ((rd_T35 t126 x30_2).f0) = 0
                        · rw [if_pos c18] at H
                          have c18b0 : (((rd_T35 t126 x30_2).f0) == 0) = true := beq_iff_eq.mpr c18
                          have c18b1 : (((rd_T35 t126 x30_2).f0) != 0) = false := bne_eq_false_iff_eq.mpr c18
                          clear c18
                          replace H := Option.bind_eq_some_iff.mp H
                          obtain ⟨t132, A190, H⟩ := H
                          replace H : (if t132 = true then ((utf8_ValidString.f ((rd_T35 t126 x30_2).f1)).bind fun t133 => (if t133 = true then ((utf8_ValidString.f ((rd_T35 t126 x30_2).f2)).bind fun t134 => (if t134 = true then (laws_FnParseSound.l0 k2 a0 t126 (t126.length : Int) (wrap64 (x30_2 + 1))) else (some false))) else (some false))) else (laws_FnParseSound.l0 k2 a0 t126 (t126.length : Int) (wrap64 (x30_2 + 1)))) = some r := H
                          have A19 := Aside0.mk A190
                          clear A190
                          by_cases c20 : t132 = true
                          · subst c20
                            have H1 : ((utf8_ValidString.f ((rd_T35 t126 x30_2).f1)).bind fun t133 => (if t133 = true then ((utf8_ValidString.f ((rd_T35 t126 x30_2).f2)).bind fun t134 => (if t134 = true then (laws_FnParseSound.l0 k2 a0 t126 (t126.length : Int) (wrap64 (x30_2 + 1))) else (some false))) else (some false))) = some r := by rw [if_pos rfl] at H; exact H
                            clear H
                            have H := H1
                            clear H1
                            replace H := Option.bind_eq_some_iff.mp H
                            obtain ⟨t133, A210, H⟩ := H
                            replace H : (if t133 = true then ((utf8_ValidString.f ((rd_T35 t126 x30_2).f2)).bind fun t134 => (if t134 = true then (laws_FnParseSound.l0 k2 a0 t126 (t126.length : Int) (wrap64 (x30_2 + 1))) else (some false))) else (some false)) = some r := H
                            have A21 := Aside0.mk A210
                            clear A210
                            by_cases c22 : t133 = true
                            · subst c22
                              have H1 : ((utf8_ValidString.f ((rd_T35 t126 x30_2).f2)).bind fun t134 => (if t134 = true then (laws_FnParseSound.l0 k2 a0 t126 (t126.length : Int) (wrap64 (x30_2 + 1))) else (some false))) = some r := by rw [if_pos rfl] at H; exact H
                              clear H
                              have H := H1
                              clear H1
                              replace H := Option.bind_eq_some_iff.mp H
                              obtain ⟨t134, A230, H⟩ := H
                              replace H : (if t134 = true then (laws_FnParseSound.l0 k2 a0 t126 (t126.length : Int) (wrap64 (x30_2 + 1))) else (some false)) = some r := H
                              have A23 := Aside0.mk A230
                              clear A230
                              by_cases c24 : t134 = true
                              · subst c24
                                have H1 : (laws_FnParseSound.l0 k2 a0 t126 (t126.length : Int) (wrap64 (x30_2 + 1))) = some r := by rw [if_pos rfl] at H; exact H
                                clear H
                                have H := H1
                                clear H1
                                have H' := Aside0.mk H
                                clear H
                                have p130 : 0 ≤ (x30_2 : Int) := of_decide_eq_true (by first | (with_reducible assumption) | assumption)
                                have q130 : x30_2 < (t126.length : Int) := of_decide_eq_true (by first | (with_reducible assumption) | assumption)
                                obtain ⟨ad130, e130, hx130_0, hx130_1, hx130_2⟩ := at_T35 (Kd.R_reads' HO_28.out).2.2 x30_2 p130 q130
                                cases e130
                                replace p130 := eq_true p130
                                replace q130 := eq_true q130
                                go_wp2_with (first | ((with_reducible refine gate_dst (N := 6) rfl ?_); refine box_event ?hg (N := 6) ?hd (cs := #[.int .i64 0, .string (⟨#[]⟩ : ByteArray), .string (⟨#[]⟩ : ByteArray)]) (t := 35) ?hr ?_; (case hd => rfl); (case hg => rfl); (case hr => first | (go_simp; done) | (go_simp; rfl)); intro gb131 hg w25 hbox hb; have n0_ := Aside0.mk (Kd.R_below (Kd.R_elderB (by (with_reducible repeat (first | apply Kd.R_alloc | apply Kd.R_drewN | apply Kd.R_drew)); exact HO_28.out) gb131 (Nat.le_of_eq hg.symm)) hb); have n1_ := Aside0.mk (below_step (by repeat (first | (with_reducible first | exact HB.out | apply below_alloc | apply pw_below_drewN | apply below_drew1) | exact HB.out)) hb); have n2_ := Aside0.mk (hbox); have n3_ := Aside0.mk ((by rw [hg]; exact (below_size (by repeat (first | (with_reducible first | exact HB.out | apply below_alloc | apply pw_below_drewN | apply below_drew1) | exact HB.out))) : w.heap.size ≤ gb131)); have n4_ := Aside0.mk ((by rw [hg]; exact (below_size (by repeat (first | (with_reducible first | exact HB.out | apply below_alloc | apply pw_below_drewN | apply below_drew1) | exact HB.out))) : w.heap.size ≤ gb131)); clear HO_28; clear HB; have HO_28 := n0_; have HB := n1_; have BK131 := n2_; have GW131 := n3_; have GE131 := n4_; clear n0_ n1_ n2_ n3_ n4_; clear hb hbox hg; have hcz26_0 : w25.cell? ⟨gb131, 0, none⟩ = some (.int .i64 0) := (blk_cell BK131.out 0).trans rfl; have hcz26_1 : w25.cell? ⟨gb131, 1, none⟩ = some (.string (⟨#[]⟩ : ByteArray)) := (blk_cell BK131.out 1).trans rfl; have hcz26_2 : w25.cell? ⟨gb131, 2, none⟩ = some (.string (⟨#[]⟩ : ByteArray)) := (blk_cell BK131.out 2).trans rfl; have hfz26_0 := blk_frozen BK131.out 0; have hfz26_1 := blk_frozen BK131.out 1; have hfz26_2 := blk_frozen BK131.out 2) | (go_at_call 16; (with_reducible refine (utf8_ValidString.calls a0 true _ ?side1 A19.out).mono ?_); (case side1 => exact Go.Proofs.YtmjoebnphacadaaDoor.Lex.ETx.below HT_.out (by repeat (first | (with_reducible first | exact HB.out | apply below_alloc | apply pw_below_drewN | apply below_drew1 | refine below_set ?_ GE131.out) | exact HB.out))); rintro e w27 ⟨rfl, hb⟩; have n0_ := Aside0.mk (Kd.R_below (by (with_reducible repeat (first | apply Kd.R_alloc | apply Kd.R_drewN | apply Kd.R_drew)); exact (Kd.R_mono (Kd.R_far (p := ⟨gb131, 2, none⟩) (Kd.R_far (p := ⟨gb131, 1, none⟩) (Kd.R_far (p := ⟨gb131, 0, none⟩) (Kd.R_mono HO_28.out (fun k_ hk => (⟨hk, hk.2⟩ : _ ∧ k_ ≠ gb131))) (fun _ hk => hk.2) (.int .i64 ((rd_T35 t126 x30_2).f0))) (fun _ hk => hk.2) (.string ((rd_T35 t126 x30_2).f1))) (fun _ hk => hk.2) (.string ((rd_T35 t126 x30_2).f2))) (fun _ h_ => h_.1))) hb); have n1_ := Aside0.mk (blk_below (g := gb131) (o := .cells #[.int .i64 ((rd_T35 t126 x30_2).f0), .string ((rd_T35 t126 x30_2).f1), .string ((rd_T35 t126 x30_2).f2)] 35 (0, 0)) (by (with_reducible repeat (first | refine blk_drewN ?_ _ | refine blk_drew ?_ | refine blk_alloc ?_ _)); refine blk_put (cs := #[.int .i64 ((rd_T35 t126 x30_2).f0), .string ((rd_T35 t126 x30_2).f1), .string (⟨#[]⟩ : ByteArray)]) ?_ 2 _ rfl; (with_reducible repeat (first | refine blk_drewN ?_ _ | refine blk_drew ?_ | refine blk_alloc ?_ _)); refine blk_put (cs := #[.int .i64 ((rd_T35 t126 x30_2).f0), .string (⟨#[]⟩ : ByteArray), .string (⟨#[]⟩ : ByteArray)]) ?_ 1 _ rfl; (with_reducible repeat (first | refine blk_drewN ?_ _ | refine blk_drew ?_ | refine blk_alloc ?_ _)); refine blk_put (cs := #[.int .i64 0, .string (⟨#[]⟩ : ByteArray), .string (⟨#[]⟩ : ByteArray)]) ?_ 0 _ rfl; (with_reducible repeat (first | refine blk_drewN ?_ _ | refine blk_drew ?_ | refine blk_alloc ?_ _)); exact BK131.out) hb); have n2_ := Aside0.mk (below_step (by repeat (first | (with_reducible first | exact HB.out | apply below_alloc | apply pw_below_drewN | apply below_drew1 | refine below_set ?_ GE131.out) | exact HB.out)) hb); clear HO_28; clear BK131; clear HB; have HO_28 := n0_; have BK131 := n1_; have HB := n2_; clear n0_ n1_ n2_; (try clear hb); (try clear hb2); (try clear hk); (try clear hi); have hcz28_0 : w27.cell? ⟨gb131, 0, none⟩ = some (.int .i64 ((rd_T35 t126 x30_2).f0)) := (blk_cell BK131.out 0).trans rfl; have hcz28_1 : w27.cell? ⟨gb131, 1, none⟩ = some (.string ((rd_T35 t126 x30_2).f1)) := (blk_cell BK131.out 1).trans rfl; have hcz28_2 : w27.cell? ⟨gb131, 2, none⟩ = some (.string ((rd_T35 t126 x30_2).f2)) := (blk_cell BK131.out 2).trans rfl; have hfz28_0 := blk_frozen BK131.out 0; have hfz28_1 := blk_frozen BK131.out 1; have hfz28_2 := blk_frozen BK131.out 2) | (go_at_call 16; (with_reducible refine (utf8_ValidString.calls ((rd_T35 t126 x30_2).f1) true _ ?side1 A21.out).mono ?_); (case side1 => exact Go.Proofs.YtmjoebnphacadaaDoor.Lex.ETx.below HT_.out (by repeat (first | (with_reducible first | exact HB.out | apply below_alloc | apply pw_below_drewN | apply below_drew1 | refine below_set ?_ GE131.out) | exact HB.out))); rintro e w29 ⟨rfl, hb⟩; have n0_ := Aside0.mk (Kd.R_below (by (with_reducible repeat (first | apply Kd.R_alloc | apply Kd.R_drewN | apply Kd.R_drew)); exact HO_28.out) hb); have n1_ := Aside0.mk (blk_below (g := gb131) (o := .cells #[.int .i64 ((rd_T35 t126 x30_2).f0), .string ((rd_T35 t126 x30_2).f1), .string ((rd_T35 t126 x30_2).f2)] 35 (0, 0)) (by (with_reducible repeat (first | refine blk_drewN ?_ _ | refine blk_drew ?_ | refine blk_alloc ?_ _)); exact BK131.out) hb); have n2_ := Aside0.mk (below_step (by repeat (first | (with_reducible first | exact HB.out | apply below_alloc | apply pw_below_drewN | apply below_drew1 | refine below_set ?_ GE131.out) | exact HB.out)) hb); clear HO_28; clear BK131; clear HB; have HO_28 := n0_; have BK131 := n1_; have HB := n2_; clear n0_ n1_ n2_; (try clear hb); (try clear hb2); (try clear hk); (try clear hi); have hcz30_0 : w29.cell? ⟨gb131, 0, none⟩ = some (.int .i64 ((rd_T35 t126 x30_2).f0)) := (blk_cell BK131.out 0).trans rfl; have hcz30_1 : w29.cell? ⟨gb131, 1, none⟩ = some (.string ((rd_T35 t126 x30_2).f1)) := (blk_cell BK131.out 1).trans rfl; have hcz30_2 : w29.cell? ⟨gb131, 2, none⟩ = some (.string ((rd_T35 t126 x30_2).f2)) := (blk_cell BK131.out 2).trans rfl; have hfz30_0 := blk_frozen BK131.out 0; have hfz30_1 := blk_frozen BK131.out 1; have hfz30_2 := blk_frozen BK131.out 2) | (go_at_call 16; (with_reducible refine (utf8_ValidString.calls ((rd_T35 t126 x30_2).f2) true _ ?side1 A23.out).mono ?_); (case side1 => exact Go.Proofs.YtmjoebnphacadaaDoor.Lex.ETx.below HT_.out (by repeat (first | (with_reducible first | exact HB.out | apply below_alloc | apply pw_below_drewN | apply below_drew1 | refine below_set ?_ GE131.out) | exact HB.out))); rintro e w31 ⟨rfl, hb⟩; have n0_ := Aside0.mk (Kd.R_below (by (with_reducible repeat (first | apply Kd.R_alloc | apply Kd.R_drewN | apply Kd.R_drew)); exact HO_28.out) hb); have n1_ := Aside0.mk (blk_below (g := gb131) (o := .cells #[.int .i64 ((rd_T35 t126 x30_2).f0), .string ((rd_T35 t126 x30_2).f1), .string ((rd_T35 t126 x30_2).f2)] 35 (0, 0)) (by (with_reducible repeat (first | refine blk_drewN ?_ _ | refine blk_drew ?_ | refine blk_alloc ?_ _)); exact BK131.out) hb); have n2_ := Aside0.mk (below_step (by repeat (first | (with_reducible first | exact HB.out | apply below_alloc | apply pw_below_drewN | apply below_drew1 | refine below_set ?_ GE131.out) | exact HB.out)) hb); clear HO_28; clear BK131; clear HB; have HO_28 := n0_; have BK131 := n1_; have HB := n2_; clear n0_ n1_ n2_; (try clear hb); (try clear hb2); (try clear hk); (try clear hi)))
                                go_roundg k2
                                case measure => have := HJ4.out; have := HK2.out; omega
                                case rel => exact ⟨(wrap64 (x30_2 + 1)), (by first | rfl | (simp; done) | (simp [*]; done)), H', ⟨by have := HJ4.out; have := HK2.out; omega⟩, ⟨by (with_reducible repeat (first | apply Kd.R_alloc | apply Kd.R_drewN | apply Kd.R_drew)); exact Kd.R_mono HO_28.out (fun _ hk => trivial)⟩, ⟨by repeat (first | (with_reducible first | exact HB.out | apply below_alloc | apply pw_below_drewN | apply below_drew1 | refine below_set ?_ GE131.out) | exact HB.out)⟩⟩
                              · replace c24 := Bool.eq_false_iff.mpr c24
                                subst c24
                                have H1 : (some false) = some r := by rw [if_neg (show ¬ (false = true) by decide)] at H; exact H
                                clear H
                                have H := H1
                                clear H1
                                obtain rfl := Option.some.inj H
                                have p130 : 0 ≤ (x30_2 : Int) := of_decide_eq_true (by first | (with_reducible assumption) | assumption)
                                have q130 : x30_2 < (t126.length : Int) := of_decide_eq_true (by first | (with_reducible assumption) | assumption)
                                obtain ⟨ad130, e130, hx130_0, hx130_1, hx130_2⟩ := at_T35 (Kd.R_reads' HO_28.out).2.2 x30_2 p130 q130
                                cases e130
                                replace p130 := eq_true p130
                                replace q130 := eq_true q130
                                go_wp2_with (first | ((with_reducible refine gate_dst (N := 6) rfl ?_); refine box_event ?hg (N := 6) ?hd (cs := #[.int .i64 0, .string (⟨#[]⟩ : ByteArray), .string (⟨#[]⟩ : ByteArray)]) (t := 35) ?hr ?_; (case hd => rfl); (case hg => rfl); (case hr => first | (go_simp; done) | (go_simp; rfl)); intro gb131 hg w32 hbox hb; have n0_ := Aside0.mk (Kd.R_below (Kd.R_elderB (by (with_reducible repeat (first | apply Kd.R_alloc | apply Kd.R_drewN | apply Kd.R_drew)); exact HO_28.out) gb131 (Nat.le_of_eq hg.symm)) hb); have n1_ := Aside0.mk (below_step (by repeat (first | (with_reducible first | exact HB.out | apply below_alloc | apply pw_below_drewN | apply below_drew1) | exact HB.out)) hb); have n2_ := Aside0.mk (hbox); have n3_ := Aside0.mk ((by rw [hg]; exact (below_size (by repeat (first | (with_reducible first | exact HB.out | apply below_alloc | apply pw_below_drewN | apply below_drew1) | exact HB.out))) : w.heap.size ≤ gb131)); have n4_ := Aside0.mk ((by rw [hg]; exact (below_size (by repeat (first | (with_reducible first | exact HB.out | apply below_alloc | apply pw_below_drewN | apply below_drew1) | exact HB.out))) : w.heap.size ≤ gb131)); clear HO_28; clear HB; have HO_28 := n0_; have HB := n1_; have BK131 := n2_; have GW131 := n3_; have GE131 := n4_; clear n0_ n1_ n2_ n3_ n4_; clear hb hbox hg; have hcz33_0 : w32.cell? ⟨gb131, 0, none⟩ = some (.int .i64 0) := (blk_cell BK131.out 0).trans rfl; have hcz33_1 : w32.cell? ⟨gb131, 1, none⟩ = some (.string (⟨#[]⟩ : ByteArray)) := (blk_cell BK131.out 1).trans rfl; have hcz33_2 : w32.cell? ⟨gb131, 2, none⟩ = some (.string (⟨#[]⟩ : ByteArray)) := (blk_cell BK131.out 2).trans rfl; have hfz33_0 := blk_frozen BK131.out 0; have hfz33_1 := blk_frozen BK131.out 1; have hfz33_2 := blk_frozen BK131.out 2) | (go_at_call 16; (with_reducible refine (utf8_ValidString.calls a0 true _ ?side1 A19.out).mono ?_); (case side1 => exact Go.Proofs.YtmjoebnphacadaaDoor.Lex.ETx.below HT_.out (by repeat (first | (with_reducible first | exact HB.out | apply below_alloc | apply pw_below_drewN | apply below_drew1 | refine below_set ?_ GE131.out) | exact HB.out))); rintro e w34 ⟨rfl, hb⟩; have n0_ := Aside0.mk (Kd.R_below (by (with_reducible repeat (first | apply Kd.R_alloc | apply Kd.R_drewN | apply Kd.R_drew)); exact (Kd.R_mono (Kd.R_far (p := ⟨gb131, 2, none⟩) (Kd.R_far (p := ⟨gb131, 1, none⟩) (Kd.R_far (p := ⟨gb131, 0, none⟩) (Kd.R_mono HO_28.out (fun k_ hk => (⟨hk, hk.2⟩ : _ ∧ k_ ≠ gb131))) (fun _ hk => hk.2) (.int .i64 ((rd_T35 t126 x30_2).f0))) (fun _ hk => hk.2) (.string ((rd_T35 t126 x30_2).f1))) (fun _ hk => hk.2) (.string ((rd_T35 t126 x30_2).f2))) (fun _ h_ => h_.1))) hb); have n1_ := Aside0.mk (blk_below (g := gb131) (o := .cells #[.int .i64 ((rd_T35 t126 x30_2).f0), .string ((rd_T35 t126 x30_2).f1), .string ((rd_T35 t126 x30_2).f2)] 35 (0, 0)) (by (with_reducible repeat (first | refine blk_drewN ?_ _ | refine blk_drew ?_ | refine blk_alloc ?_ _)); refine blk_put (cs := #[.int .i64 ((rd_T35 t126 x30_2).f0), .string ((rd_T35 t126 x30_2).f1), .string (⟨#[]⟩ : ByteArray)]) ?_ 2 _ rfl; (with_reducible repeat (first | refine blk_drewN ?_ _ | refine blk_drew ?_ | refine blk_alloc ?_ _)); refine blk_put (cs := #[.int .i64 ((rd_T35 t126 x30_2).f0), .string (⟨#[]⟩ : ByteArray), .string (⟨#[]⟩ : ByteArray)]) ?_ 1 _ rfl; (with_reducible repeat (first | refine blk_drewN ?_ _ | refine blk_drew ?_ | refine blk_alloc ?_ _)); refine blk_put (cs := #[.int .i64 0, .string (⟨#[]⟩ : ByteArray), .string (⟨#[]⟩ : ByteArray)]) ?_ 0 _ rfl; (with_reducible repeat (first | refine blk_drewN ?_ _ | refine blk_drew ?_ | refine blk_alloc ?_ _)); exact BK131.out) hb); have n2_ := Aside0.mk (below_step (by repeat (first | (with_reducible first | exact HB.out | apply below_alloc | apply pw_below_drewN | apply below_drew1 | refine below_set ?_ GE131.out) | exact HB.out)) hb); clear HO_28; clear BK131; clear HB; have HO_28 := n0_; have BK131 := n1_; have HB := n2_; clear n0_ n1_ n2_; (try clear hb); (try clear hb2); (try clear hk); (try clear hi); have hcz35_0 : w34.cell? ⟨gb131, 0, none⟩ = some (.int .i64 ((rd_T35 t126 x30_2).f0)) := (blk_cell BK131.out 0).trans rfl; have hcz35_1 : w34.cell? ⟨gb131, 1, none⟩ = some (.string ((rd_T35 t126 x30_2).f1)) := (blk_cell BK131.out 1).trans rfl; have hcz35_2 : w34.cell? ⟨gb131, 2, none⟩ = some (.string ((rd_T35 t126 x30_2).f2)) := (blk_cell BK131.out 2).trans rfl; have hfz35_0 := blk_frozen BK131.out 0; have hfz35_1 := blk_frozen BK131.out 1; have hfz35_2 := blk_frozen BK131.out 2) | (go_at_call 16; (with_reducible refine (utf8_ValidString.calls ((rd_T35 t126 x30_2).f1) true _ ?side1 A21.out).mono ?_); (case side1 => exact Go.Proofs.YtmjoebnphacadaaDoor.Lex.ETx.below HT_.out (by repeat (first | (with_reducible first | exact HB.out | apply below_alloc | apply pw_below_drewN | apply below_drew1 | refine below_set ?_ GE131.out) | exact HB.out))); rintro e w36 ⟨rfl, hb⟩; have n0_ := Aside0.mk (Kd.R_below (by (with_reducible repeat (first | apply Kd.R_alloc | apply Kd.R_drewN | apply Kd.R_drew)); exact HO_28.out) hb); have n1_ := Aside0.mk (blk_below (g := gb131) (o := .cells #[.int .i64 ((rd_T35 t126 x30_2).f0), .string ((rd_T35 t126 x30_2).f1), .string ((rd_T35 t126 x30_2).f2)] 35 (0, 0)) (by (with_reducible repeat (first | refine blk_drewN ?_ _ | refine blk_drew ?_ | refine blk_alloc ?_ _)); exact BK131.out) hb); have n2_ := Aside0.mk (below_step (by repeat (first | (with_reducible first | exact HB.out | apply below_alloc | apply pw_below_drewN | apply below_drew1 | refine below_set ?_ GE131.out) | exact HB.out)) hb); clear HO_28; clear BK131; clear HB; have HO_28 := n0_; have BK131 := n1_; have HB := n2_; clear n0_ n1_ n2_; (try clear hb); (try clear hb2); (try clear hk); (try clear hi); have hcz37_0 : w36.cell? ⟨gb131, 0, none⟩ = some (.int .i64 ((rd_T35 t126 x30_2).f0)) := (blk_cell BK131.out 0).trans rfl; have hcz37_1 : w36.cell? ⟨gb131, 1, none⟩ = some (.string ((rd_T35 t126 x30_2).f1)) := (blk_cell BK131.out 1).trans rfl; have hcz37_2 : w36.cell? ⟨gb131, 2, none⟩ = some (.string ((rd_T35 t126 x30_2).f2)) := (blk_cell BK131.out 2).trans rfl; have hfz37_0 := blk_frozen BK131.out 0; have hfz37_1 := blk_frozen BK131.out 1; have hfz37_2 := blk_frozen BK131.out 2) | (go_at_call 16; (with_reducible refine (utf8_ValidString.calls ((rd_T35 t126 x30_2).f2) false _ ?side1 A23.out).mono ?_); (case side1 => exact Go.Proofs.YtmjoebnphacadaaDoor.Lex.ETx.below HT_.out (by repeat (first | (with_reducible first | exact HB.out | apply below_alloc | apply pw_below_drewN | apply below_drew1 | refine below_set ?_ GE131.out) | exact HB.out))); rintro e w38 ⟨rfl, hb⟩; have n0_ := Aside0.mk (Kd.R_below (by (with_reducible repeat (first | apply Kd.R_alloc | apply Kd.R_drewN | apply Kd.R_drew)); exact HO_28.out) hb); have n1_ := Aside0.mk (blk_below (g := gb131) (o := .cells #[.int .i64 ((rd_T35 t126 x30_2).f0), .string ((rd_T35 t126 x30_2).f1), .string ((rd_T35 t126 x30_2).f2)] 35 (0, 0)) (by (with_reducible repeat (first | refine blk_drewN ?_ _ | refine blk_drew ?_ | refine blk_alloc ?_ _)); exact BK131.out) hb); have n2_ := Aside0.mk (below_step (by repeat (first | (with_reducible first | exact HB.out | apply below_alloc | apply pw_below_drewN | apply below_drew1 | refine below_set ?_ GE131.out) | exact HB.out)) hb); clear HO_28; clear BK131; clear HB; have HO_28 := n0_; have BK131 := n1_; have HB := n2_; clear n0_ n1_ n2_; (try clear hb); (try clear hb2); (try clear hk); (try clear hi)))
                                go_ret
                                exact ⟨by first | rfl | (simp [errW_none, errW_some] <;> rfl) | (simp [*, errW_none, errW_some] <;> rfl), by repeat (first | (with_reducible first | exact HB.out | apply below_alloc | apply pw_below_drewN | apply below_drew1 | refine below_set ?_ GE131.out) | exact HB.out)⟩
                            · replace c22 := Bool.eq_false_iff.mpr c22
                              subst c22
                              have H1 : (some false) = some r := by rw [if_neg (show ¬ (false = true) by decide)] at H; exact H
                              clear H
                              have H := H1
                              clear H1
                              obtain rfl := Option.some.inj H
                              have p130 : 0 ≤ (x30_2 : Int) := of_decide_eq_true (by first | (with_reducible assumption) | assumption)
                              have q130 : x30_2 < (t126.length : Int) := of_decide_eq_true (by first | (with_reducible assumption) | assumption)
                              obtain ⟨ad130, e130, hx130_0, hx130_1, hx130_2⟩ := at_T35 (Kd.R_reads' HO_28.out).2.2 x30_2 p130 q130
                              cases e130
                              replace p130 := eq_true p130
                              replace q130 := eq_true q130
                              go_wp2_with (first | ((with_reducible refine gate_dst (N := 6) rfl ?_); refine box_event ?hg (N := 6) ?hd (cs := #[.int .i64 0, .string (⟨#[]⟩ : ByteArray), .string (⟨#[]⟩ : ByteArray)]) (t := 35) ?hr ?_; (case hd => rfl); (case hg => rfl); (case hr => first | (go_simp; done) | (go_simp; rfl)); intro gb131 hg w39 hbox hb; have n0_ := Aside0.mk (Kd.R_below (Kd.R_elderB (by (with_reducible repeat (first | apply Kd.R_alloc | apply Kd.R_drewN | apply Kd.R_drew)); exact HO_28.out) gb131 (Nat.le_of_eq hg.symm)) hb); have n1_ := Aside0.mk (below_step (by repeat (first | (with_reducible first | exact HB.out | apply below_alloc | apply pw_below_drewN | apply below_drew1) | exact HB.out)) hb); have n2_ := Aside0.mk (hbox); have n3_ := Aside0.mk ((by rw [hg]; exact (below_size (by repeat (first | (with_reducible first | exact HB.out | apply below_alloc | apply pw_below_drewN | apply below_drew1) | exact HB.out))) : w.heap.size ≤ gb131)); have n4_ := Aside0.mk ((by rw [hg]; exact (below_size (by repeat (first | (with_reducible first | exact HB.out | apply below_alloc | apply pw_below_drewN | apply below_drew1) | exact HB.out))) : w.heap.size ≤ gb131)); clear HO_28; clear HB; have HO_28 := n0_; have HB := n1_; have BK131 := n2_; have GW131 := n3_; have GE131 := n4_; clear n0_ n1_ n2_ n3_ n4_; clear hb hbox hg; have hcz40_0 : w39.cell? ⟨gb131, 0, none⟩ = some (.int .i64 0) := (blk_cell BK131.out 0).trans rfl; have hcz40_1 : w39.cell? ⟨gb131, 1, none⟩ = some (.string (⟨#[]⟩ : ByteArray)) := (blk_cell BK131.out 1).trans rfl; have hcz40_2 : w39.cell? ⟨gb131, 2, none⟩ = some (.string (⟨#[]⟩ : ByteArray)) := (blk_cell BK131.out 2).trans rfl; have hfz40_0 := blk_frozen BK131.out 0; have hfz40_1 := blk_frozen BK131.out 1; have hfz40_2 := blk_frozen BK131.out 2) | (go_at_call 16; (with_reducible refine (utf8_ValidString.calls a0 true _ ?side1 A19.out).mono ?_); (case side1 => exact Go.Proofs.YtmjoebnphacadaaDoor.Lex.ETx.below HT_.out (by repeat (first | (with_reducible first | exact HB.out | apply below_alloc | apply pw_below_drewN | apply below_drew1 | refine below_set ?_ GE131.out) | exact HB.out))); rintro e w41 ⟨rfl, hb⟩; have n0_ := Aside0.mk (Kd.R_below (by (with_reducible repeat (first | apply Kd.R_alloc | apply Kd.R_drewN | apply Kd.R_drew)); exact (Kd.R_mono (Kd.R_far (p := ⟨gb131, 2, none⟩) (Kd.R_far (p := ⟨gb131, 1, none⟩) (Kd.R_far (p := ⟨gb131, 0, none⟩) (Kd.R_mono HO_28.out (fun k_ hk => (⟨hk, hk.2⟩ : _ ∧ k_ ≠ gb131))) (fun _ hk => hk.2) (.int .i64 ((rd_T35 t126 x30_2).f0))) (fun _ hk => hk.2) (.string ((rd_T35 t126 x30_2).f1))) (fun _ hk => hk.2) (.string ((rd_T35 t126 x30_2).f2))) (fun _ h_ => h_.1))) hb); have n1_ := Aside0.mk (blk_below (g := gb131) (o := .cells #[.int .i64 ((rd_T35 t126 x30_2).f0), .string ((rd_T35 t126 x30_2).f1), .string ((rd_T35 t126 x30_2).f2)] 35 (0, 0)) (by (with_reducible repeat (first | refine blk_drewN ?_ _ | refine blk_drew ?_ | refine blk_alloc ?_ _)); refine blk_put (cs := #[.int .i64 ((rd_T35 t126 x30_2).f0), .string ((rd_T35 t126 x30_2).f1), .string (⟨#[]⟩ : ByteArray)]) ?_ 2 _ rfl; (with_reducible repeat (first | refine blk_drewN ?_ _ | refine blk_drew ?_ | refine blk_alloc ?_ _)); refine blk_put (cs := #[.int .i64 ((rd_T35 t126 x30_2).f0), .string (⟨#[]⟩ : ByteArray), .string (⟨#[]⟩ : ByteArray)]) ?_ 1 _ rfl; (with_reducible repeat (first | refine blk_drewN ?_ _ | refine blk_drew ?_ | refine blk_alloc ?_ _)); refine blk_put (cs := #[.int .i64 0, .string (⟨#[]⟩ : ByteArray), .string (⟨#[]⟩ : ByteArray)]) ?_ 0 _ rfl; (with_reducible repeat (first | refine blk_drewN ?_ _ | refine blk_drew ?_ | refine blk_alloc ?_ _)); exact BK131.out) hb); have n2_ := Aside0.mk (below_step (by repeat (first | (with_reducible first | exact HB.out | apply below_alloc | apply pw_below_drewN | apply below_drew1 | refine below_set ?_ GE131.out) | exact HB.out)) hb); clear HO_28; clear BK131; clear HB; have HO_28 := n0_; have BK131 := n1_; have HB := n2_; clear n0_ n1_ n2_; (try clear hb); (try clear hb2); (try clear hk); (try clear hi); have hcz42_0 : w41.cell? ⟨gb131, 0, none⟩ = some (.int .i64 ((rd_T35 t126 x30_2).f0)) := (blk_cell BK131.out 0).trans rfl; have hcz42_1 : w41.cell? ⟨gb131, 1, none⟩ = some (.string ((rd_T35 t126 x30_2).f1)) := (blk_cell BK131.out 1).trans rfl; have hcz42_2 : w41.cell? ⟨gb131, 2, none⟩ = some (.string ((rd_T35 t126 x30_2).f2)) := (blk_cell BK131.out 2).trans rfl; have hfz42_0 := blk_frozen BK131.out 0; have hfz42_1 := blk_frozen BK131.out 1; have hfz42_2 := blk_frozen BK131.out 2) | (go_at_call 16; (with_reducible refine (utf8_ValidString.calls ((rd_T35 t126 x30_2).f1) false _ ?side1 A21.out).mono ?_); (case side1 => exact Go.Proofs.YtmjoebnphacadaaDoor.Lex.ETx.below HT_.out (by repeat (first | (with_reducible first | exact HB.out | apply below_alloc | apply pw_below_drewN | apply below_drew1 | refine below_set ?_ GE131.out) | exact HB.out))); rintro e w43 ⟨rfl, hb⟩; have n0_ := Aside0.mk (Kd.R_below (by (with_reducible repeat (first | apply Kd.R_alloc | apply Kd.R_drewN | apply Kd.R_drew)); exact HO_28.out) hb); have n1_ := Aside0.mk (blk_below (g := gb131) (o := .cells #[.int .i64 ((rd_T35 t126 x30_2).f0), .string ((rd_T35 t126 x30_2).f1), .string ((rd_T35 t126 x30_2).f2)] 35 (0, 0)) (by (with_reducible repeat (first | refine blk_drewN ?_ _ | refine blk_drew ?_ | refine blk_alloc ?_ _)); exact BK131.out) hb); have n2_ := Aside0.mk (below_step (by repeat (first | (with_reducible first | exact HB.out | apply below_alloc | apply pw_below_drewN | apply below_drew1 | refine below_set ?_ GE131.out) | exact HB.out)) hb); clear HO_28; clear BK131; clear HB; have HO_28 := n0_; have BK131 := n1_; have HB := n2_; clear n0_ n1_ n2_; (try clear hb); (try clear hb2); (try clear hk); (try clear hi)))
                              go_ret
                              exact ⟨by first | rfl | (simp [errW_none, errW_some] <;> rfl) | (simp [*, errW_none, errW_some] <;> rfl), by repeat (first | (with_reducible first | exact HB.out | apply below_alloc | apply pw_below_drewN | apply below_drew1 | refine below_set ?_ GE131.out) | exact HB.out)⟩
                          · replace c20 := Bool.eq_false_iff.mpr c20
                            subst c20
                            have H1 : (laws_FnParseSound.l0 k2 a0 t126 (t126.length : Int) (wrap64 (x30_2 + 1))) = some r := by rw [if_neg (show ¬ (false = true) by decide)] at H; exact H
                            clear H
                            have H := H1
                            clear H1
                            have H' := Aside0.mk H
                            clear H
                            have p130 : 0 ≤ (x30_2 : Int) := of_decide_eq_true (by first | (with_reducible assumption) | assumption)
                            have q130 : x30_2 < (t126.length : Int) := of_decide_eq_true (by first | (with_reducible assumption) | assumption)
                            obtain ⟨ad130, e130, hx130_0, hx130_1, hx130_2⟩ := at_T35 (Kd.R_reads' HO_28.out).2.2 x30_2 p130 q130
                            cases e130
                            replace p130 := eq_true p130
                            replace q130 := eq_true q130
                            go_wp2_with (first | ((with_reducible refine gate_dst (N := 6) rfl ?_); refine box_event ?hg (N := 6) ?hd (cs := #[.int .i64 0, .string (⟨#[]⟩ : ByteArray), .string (⟨#[]⟩ : ByteArray)]) (t := 35) ?hr ?_; (case hd => rfl); (case hg => rfl); (case hr => first | (go_simp; done) | (go_simp; rfl)); intro gb131 hg w44 hbox hb; have n0_ := Aside0.mk (Kd.R_below (Kd.R_elderB (by (with_reducible repeat (first | apply Kd.R_alloc | apply Kd.R_drewN | apply Kd.R_drew)); exact HO_28.out) gb131 (Nat.le_of_eq hg.symm)) hb); have n1_ := Aside0.mk (below_step (by repeat (first | (with_reducible first | exact HB.out | apply below_alloc | apply pw_below_drewN | apply below_drew1) | exact HB.out)) hb); have n2_ := Aside0.mk (hbox); have n3_ := Aside0.mk ((by rw [hg]; exact (below_size (by repeat (first | (with_reducible first | exact HB.out | apply below_alloc | apply pw_below_drewN | apply below_drew1) | exact HB.out))) : w.heap.size ≤ gb131)); have n4_ := Aside0.mk ((by rw [hg]; exact (below_size (by repeat (first | (with_reducible first | exact HB.out | apply below_alloc | apply pw_below_drewN | apply below_drew1) | exact HB.out))) : w.heap.size ≤ gb131)); clear HO_28; clear HB; have HO_28 := n0_; have HB := n1_; have BK131 := n2_; have GW131 := n3_; have GE131 := n4_; clear n0_ n1_ n2_ n3_ n4_; clear hb hbox hg; have hcz45_0 : w44.cell? ⟨gb131, 0, none⟩ = some (.int .i64 0) := (blk_cell BK131.out 0).trans rfl; have hcz45_1 : w44.cell? ⟨gb131, 1, none⟩ = some (.string (⟨#[]⟩ : ByteArray)) := (blk_cell BK131.out 1).trans rfl; have hcz45_2 : w44.cell? ⟨gb131, 2, none⟩ = some (.string (⟨#[]⟩ : ByteArray)) := (blk_cell BK131.out 2).trans rfl; have hfz45_0 := blk_frozen BK131.out 0; have hfz45_1 := blk_frozen BK131.out 1; have hfz45_2 := blk_frozen BK131.out 2) | (go_at_call 16; (with_reducible refine (utf8_ValidString.calls a0 false _ ?side1 A19.out).mono ?_); (case side1 => exact Go.Proofs.YtmjoebnphacadaaDoor.Lex.ETx.below HT_.out (by repeat (first | (with_reducible first | exact HB.out | apply below_alloc | apply pw_below_drewN | apply below_drew1 | refine below_set ?_ GE131.out) | exact HB.out))); rintro e w46 ⟨rfl, hb⟩; have n0_ := Aside0.mk (Kd.R_below (by (with_reducible repeat (first | apply Kd.R_alloc | apply Kd.R_drewN | apply Kd.R_drew)); exact (Kd.R_mono (Kd.R_far (p := ⟨gb131, 2, none⟩) (Kd.R_far (p := ⟨gb131, 1, none⟩) (Kd.R_far (p := ⟨gb131, 0, none⟩) (Kd.R_mono HO_28.out (fun k_ hk => (⟨hk, hk.2⟩ : _ ∧ k_ ≠ gb131))) (fun _ hk => hk.2) (.int .i64 ((rd_T35 t126 x30_2).f0))) (fun _ hk => hk.2) (.string ((rd_T35 t126 x30_2).f1))) (fun _ hk => hk.2) (.string ((rd_T35 t126 x30_2).f2))) (fun _ h_ => h_.1))) hb); have n1_ := Aside0.mk (blk_below (g := gb131) (o := .cells #[.int .i64 ((rd_T35 t126 x30_2).f0), .string ((rd_T35 t126 x30_2).f1), .string ((rd_T35 t126 x30_2).f2)] 35 (0, 0)) (by (with_reducible repeat (first | refine blk_drewN ?_ _ | refine blk_drew ?_ | refine blk_alloc ?_ _)); refine blk_put (cs := #[.int .i64 ((rd_T35 t126 x30_2).f0), .string ((rd_T35 t126 x30_2).f1), .string (⟨#[]⟩ : ByteArray)]) ?_ 2 _ rfl; (with_reducible repeat (first | refine blk_drewN ?_ _ | refine blk_drew ?_ | refine blk_alloc ?_ _)); refine blk_put (cs := #[.int .i64 ((rd_T35 t126 x30_2).f0), .string (⟨#[]⟩ : ByteArray), .string (⟨#[]⟩ : ByteArray)]) ?_ 1 _ rfl; (with_reducible repeat (first | refine blk_drewN ?_ _ | refine blk_drew ?_ | refine blk_alloc ?_ _)); refine blk_put (cs := #[.int .i64 0, .string (⟨#[]⟩ : ByteArray), .string (⟨#[]⟩ : ByteArray)]) ?_ 0 _ rfl; (with_reducible repeat (first | refine blk_drewN ?_ _ | refine blk_drew ?_ | refine blk_alloc ?_ _)); exact BK131.out) hb); have n2_ := Aside0.mk (below_step (by repeat (first | (with_reducible first | exact HB.out | apply below_alloc | apply pw_below_drewN | apply below_drew1 | refine below_set ?_ GE131.out) | exact HB.out)) hb); clear HO_28; clear BK131; clear HB; have HO_28 := n0_; have BK131 := n1_; have HB := n2_; clear n0_ n1_ n2_; (try clear hb); (try clear hb2); (try clear hk); (try clear hi)))
                            go_roundg k2
                            case measure => have := HJ4.out; have := HK2.out; omega
                            case rel => exact ⟨(wrap64 (x30_2 + 1)), (by first | rfl | (simp; done) | (simp [*]; done)), H', ⟨by have := HJ4.out; have := HK2.out; omega⟩, ⟨by (with_reducible repeat (first | apply Kd.R_alloc | apply Kd.R_drewN | apply Kd.R_drew)); exact Kd.R_mono HO_28.out (fun _ hk => trivial)⟩, ⟨by repeat (first | (with_reducible first | exact HB.out | apply below_alloc | apply pw_below_drewN | apply below_drew1 | refine below_set ?_ GE131.out) | exact HB.out)⟩⟩
                        · rw [if_neg c18] at H
                          have c18b0 : (((rd_T35 t126 x30_2).f0) == 0) = false := beq_eq_false_iff_ne.mpr c18
                          have c18b1 : (((rd_T35 t126 x30_2).f0) != 0) = true := bne_iff_ne.mpr c18
                          by_cases c47 : ((rd_T35 t126 x30_2).f0) = 1
                          · rw [if_pos c47] at H
                            have c47b0 : (((rd_T35 t126 x30_2).f0) == 1) = true := beq_iff_eq.mpr c47
                            have c47b1 : (((rd_T35 t126 x30_2).f0) != 1) = false := bne_eq_false_iff_eq.mpr c47
                            clear c47
                            replace H := Option.bind_eq_some_iff.mp H
                            obtain ⟨t135, A480, H⟩ := H
                            replace H : (if t135 = true then ((utf8_ValidString.f ((rd_T35 t126 x30_2).f1)).bind fun t136 => (if t136 = true then ((utf8_ValidString.f ((rd_T35 t126 x30_2).f2)).bind fun t137 => (if t137 = true then (laws_FnParseSound.l0 k2 a0 t126 (t126.length : Int) (wrap64 (x30_2 + 1))) else (some false))) else (some false))) else (laws_FnParseSound.l0 k2 a0 t126 (t126.length : Int) (wrap64 (x30_2 + 1)))) = some r := H
                            have A48 := Aside0.mk A480
                            clear A480
                            by_cases c49 : t135 = true
                            · subst c49
                              have H1 : ((utf8_ValidString.f ((rd_T35 t126 x30_2).f1)).bind fun t136 => (if t136 = true then ((utf8_ValidString.f ((rd_T35 t126 x30_2).f2)).bind fun t137 => (if t137 = true then (laws_FnParseSound.l0 k2 a0 t126 (t126.length : Int) (wrap64 (x30_2 + 1))) else (some false))) else (some false))) = some r := by rw [if_pos rfl] at H; exact H
                              clear H
                              have H := H1
                              clear H1
                              replace H := Option.bind_eq_some_iff.mp H
                              obtain ⟨t136, A500, H⟩ := H
                              replace H : (if t136 = true then ((utf8_ValidString.f ((rd_T35 t126 x30_2).f2)).bind fun t137 => (if t137 = true then (laws_FnParseSound.l0 k2 a0 t126 (t126.length : Int) (wrap64 (x30_2 + 1))) else (some false))) else (some false)) = some r := H
                              have A50 := Aside0.mk A500
                              clear A500
                              by_cases c51 : t136 = true
                              · subst c51
                                have H1 : ((utf8_ValidString.f ((rd_T35 t126 x30_2).f2)).bind fun t137 => (if t137 = true then (laws_FnParseSound.l0 k2 a0 t126 (t126.length : Int) (wrap64 (x30_2 + 1))) else (some false))) = some r := by rw [if_pos rfl] at H; exact H
                                clear H
                                have H := H1
                                clear H1
                                replace H := Option.bind_eq_some_iff.mp H
                                obtain ⟨t137, A520, H⟩ := H
                                replace H : (if t137 = true then (laws_FnParseSound.l0 k2 a0 t126 (t126.length : Int) (wrap64 (x30_2 + 1))) else (some false)) = some r := H
                                have A52 := Aside0.mk A520
                                clear A520
                                by_cases c53 : t137 = true
                                · subst c53
                                  have H1 : (laws_FnParseSound.l0 k2 a0 t126 (t126.length : Int) (wrap64 (x30_2 + 1))) = some r := by rw [if_pos rfl] at H; exact H
                                  clear H
                                  have H := H1
                                  clear H1
                                  have H' := Aside0.mk H
                                  clear H
                                  have p130 : 0 ≤ (x30_2 : Int) := of_decide_eq_true (by first | (with_reducible assumption) | assumption)
                                  have q130 : x30_2 < (t126.length : Int) := of_decide_eq_true (by first | (with_reducible assumption) | assumption)
                                  obtain ⟨ad130, e130, hx130_0, hx130_1, hx130_2⟩ := at_T35 (Kd.R_reads' HO_28.out).2.2 x30_2 p130 q130
                                  cases e130
                                  replace p130 := eq_true p130
                                  replace q130 := eq_true q130
                                  go_wp2_with (first | ((with_reducible refine gate_dst (N := 6) rfl ?_); refine box_event ?hg (N := 6) ?hd (cs := #[.int .i64 0, .string (⟨#[]⟩ : ByteArray), .string (⟨#[]⟩ : ByteArray)]) (t := 35) ?hr ?_; (case hd => rfl); (case hg => rfl); (case hr => first | (go_simp; done) | (go_simp; rfl)); intro gb131 hg w54 hbox hb; have n0_ := Aside0.mk (Kd.R_below (Kd.R_elderB (by (with_reducible repeat (first | apply Kd.R_alloc | apply Kd.R_drewN | apply Kd.R_drew)); exact HO_28.out) gb131 (Nat.le_of_eq hg.symm)) hb); have n1_ := Aside0.mk (below_step (by repeat (first | (with_reducible first | exact HB.out | apply below_alloc | apply pw_below_drewN | apply below_drew1) | exact HB.out)) hb); have n2_ := Aside0.mk (hbox); have n3_ := Aside0.mk ((by rw [hg]; exact (below_size (by repeat (first | (with_reducible first | exact HB.out | apply below_alloc | apply pw_below_drewN | apply below_drew1) | exact HB.out))) : w.heap.size ≤ gb131)); have n4_ := Aside0.mk ((by rw [hg]; exact (below_size (by repeat (first | (with_reducible first | exact HB.out | apply below_alloc | apply pw_below_drewN | apply below_drew1) | exact HB.out))) : w.heap.size ≤ gb131)); clear HO_28; clear HB; have HO_28 := n0_; have HB := n1_; have BK131 := n2_; have GW131 := n3_; have GE131 := n4_; clear n0_ n1_ n2_ n3_ n4_; clear hb hbox hg; have hcz55_0 : w54.cell? ⟨gb131, 0, none⟩ = some (.int .i64 0) := (blk_cell BK131.out 0).trans rfl; have hcz55_1 : w54.cell? ⟨gb131, 1, none⟩ = some (.string (⟨#[]⟩ : ByteArray)) := (blk_cell BK131.out 1).trans rfl; have hcz55_2 : w54.cell? ⟨gb131, 2, none⟩ = some (.string (⟨#[]⟩ : ByteArray)) := (blk_cell BK131.out 2).trans rfl; have hfz55_0 := blk_frozen BK131.out 0; have hfz55_1 := blk_frozen BK131.out 1; have hfz55_2 := blk_frozen BK131.out 2) | (go_at_call 16; (with_reducible refine (utf8_ValidString.calls a0 true _ ?side1 A48.out).mono ?_); (case side1 => exact Go.Proofs.YtmjoebnphacadaaDoor.Lex.ETx.below HT_.out (by repeat (first | (with_reducible first | exact HB.out | apply below_alloc | apply pw_below_drewN | apply below_drew1 | refine below_set ?_ GE131.out) | exact HB.out))); rintro e w56 ⟨rfl, hb⟩; have n0_ := Aside0.mk (Kd.R_below (by (with_reducible repeat (first | apply Kd.R_alloc | apply Kd.R_drewN | apply Kd.R_drew)); exact (Kd.R_mono (Kd.R_far (p := ⟨gb131, 2, none⟩) (Kd.R_far (p := ⟨gb131, 1, none⟩) (Kd.R_far (p := ⟨gb131, 0, none⟩) (Kd.R_mono HO_28.out (fun k_ hk => (⟨hk, hk.2⟩ : _ ∧ k_ ≠ gb131))) (fun _ hk => hk.2) (.int .i64 ((rd_T35 t126 x30_2).f0))) (fun _ hk => hk.2) (.string ((rd_T35 t126 x30_2).f1))) (fun _ hk => hk.2) (.string ((rd_T35 t126 x30_2).f2))) (fun _ h_ => h_.1))) hb); have n1_ := Aside0.mk (blk_below (g := gb131) (o := .cells #[.int .i64 ((rd_T35 t126 x30_2).f0), .string ((rd_T35 t126 x30_2).f1), .string ((rd_T35 t126 x30_2).f2)] 35 (0, 0)) (by (with_reducible repeat (first | refine blk_drewN ?_ _ | refine blk_drew ?_ | refine blk_alloc ?_ _)); refine blk_put (cs := #[.int .i64 ((rd_T35 t126 x30_2).f0), .string ((rd_T35 t126 x30_2).f1), .string (⟨#[]⟩ : ByteArray)]) ?_ 2 _ rfl; (with_reducible repeat (first | refine blk_drewN ?_ _ | refine blk_drew ?_ | refine blk_alloc ?_ _)); refine blk_put (cs := #[.int .i64 ((rd_T35 t126 x30_2).f0), .string (⟨#[]⟩ : ByteArray), .string (⟨#[]⟩ : ByteArray)]) ?_ 1 _ rfl; (with_reducible repeat (first | refine blk_drewN ?_ _ | refine blk_drew ?_ | refine blk_alloc ?_ _)); refine blk_put (cs := #[.int .i64 0, .string (⟨#[]⟩ : ByteArray), .string (⟨#[]⟩ : ByteArray)]) ?_ 0 _ rfl; (with_reducible repeat (first | refine blk_drewN ?_ _ | refine blk_drew ?_ | refine blk_alloc ?_ _)); exact BK131.out) hb); have n2_ := Aside0.mk (below_step (by repeat (first | (with_reducible first | exact HB.out | apply below_alloc | apply pw_below_drewN | apply below_drew1 | refine below_set ?_ GE131.out) | exact HB.out)) hb); clear HO_28; clear BK131; clear HB; have HO_28 := n0_; have BK131 := n1_; have HB := n2_; clear n0_ n1_ n2_; (try clear hb); (try clear hb2); (try clear hk); (try clear hi); have hcz57_0 : w56.cell? ⟨gb131, 0, none⟩ = some (.int .i64 ((rd_T35 t126 x30_2).f0)) := (blk_cell BK131.out 0).trans rfl; have hcz57_1 : w56.cell? ⟨gb131, 1, none⟩ = some (.string ((rd_T35 t126 x30_2).f1)) := (blk_cell BK131.out 1).trans rfl; have hcz57_2 : w56.cell? ⟨gb131, 2, none⟩ = some (.string ((rd_T35 t126 x30_2).f2)) := (blk_cell BK131.out 2).trans rfl; have hfz57_0 := blk_frozen BK131.out 0; have hfz57_1 := blk_frozen BK131.out 1; have hfz57_2 := blk_frozen BK131.out 2) | (go_at_call 16; (with_reducible refine (utf8_ValidString.calls ((rd_T35 t126 x30_2).f1) true _ ?side1 A50.out).mono ?_); (case side1 => exact Go.Proofs.YtmjoebnphacadaaDoor.Lex.ETx.below HT_.out (by repeat (first | (with_reducible first | exact HB.out | apply below_alloc | apply pw_below_drewN | apply below_drew1 | refine below_set ?_ GE131.out) | exact HB.out))); rintro e w58 ⟨rfl, hb⟩; have n0_ := Aside0.mk (Kd.R_below (by (with_reducible repeat (first | apply Kd.R_alloc | apply Kd.R_drewN | apply Kd.R_drew)); exact HO_28.out) hb); have n1_ := Aside0.mk (blk_below (g := gb131) (o := .cells #[.int .i64 ((rd_T35 t126 x30_2).f0), .string ((rd_T35 t126 x30_2).f1), .string ((rd_T35 t126 x30_2).f2)] 35 (0, 0)) (by (with_reducible repeat (first | refine blk_drewN ?_ _ | refine blk_drew ?_ | refine blk_alloc ?_ _)); exact BK131.out) hb); have n2_ := Aside0.mk (below_step (by repeat (first | (with_reducible first | exact HB.out | apply below_alloc | apply pw_below_drewN | apply below_drew1 | refine below_set ?_ GE131.out) | exact HB.out)) hb); clear HO_28; clear BK131; clear HB; have HO_28 := n0_; have BK131 := n1_; have HB := n2_; clear n0_ n1_ n2_; (try clear hb); (try clear hb2); (try clear hk); (try clear hi); have hcz59_0 : w58.cell? ⟨gb131, 0, none⟩ = some (.int .i64 ((rd_T35 t126 x30_2).f0)) := (blk_cell BK131.out 0).trans rfl; have hcz59_1 : w58.cell? ⟨gb131, 1, none⟩ = some (.string ((rd_T35 t126 x30_2).f1)) := (blk_cell BK131.out 1).trans rfl; have hcz59_2 : w58.cell? ⟨gb131, 2, none⟩ = some (.string ((rd_T35 t126 x30_2).f2)) := (blk_cell BK131.out 2).trans rfl; have hfz59_0 := blk_frozen BK131.out 0; have hfz59_1 := blk_frozen BK131.out 1; have hfz59_2 := blk_frozen BK131.out 2) | (go_at_call 16; (with_reducible refine (utf8_ValidString.calls ((rd_T35 t126 x30_2).f2) true _ ?side1 A52.out).mono ?_); (case side1 => exact Go.Proofs.YtmjoebnphacadaaDoor.Lex.ETx.below HT_.out (by repeat (first | (with_reducible first | exact HB.out | apply below_alloc | apply pw_below_drewN | apply below_drew1 | refine below_set ?_ GE131.out) | exact HB.out))); rintro e w60 ⟨rfl, hb⟩; have n0_ := Aside0.mk (Kd.R_below (by (with_reducible repeat (first | apply Kd.R_alloc | apply Kd.R_drewN | apply Kd.R_drew)); exact HO_28.out) hb); have n1_ := Aside0.mk (blk_below (g := gb131) (o := .cells #[.int .i64 ((rd_T35 t126 x30_2).f0), .string ((rd_T35 t126 x30_2).f1), .string ((rd_T35 t126 x30_2).f2)] 35 (0, 0)) (by (with_reducible repeat (first | refine blk_drewN ?_ _ | refine blk_drew ?_ | refine blk_alloc ?_ _)); exact BK131.out) hb); have n2_ := Aside0.mk (below_step (by repeat (first | (with_reducible first | exact HB.out | apply below_alloc | apply pw_below_drewN | apply below_drew1 | refine below_set ?_ GE131.out) | exact HB.out)) hb); clear HO_28; clear BK131; clear HB; have HO_28 := n0_; have BK131 := n1_; have HB := n2_; clear n0_ n1_ n2_; (try clear hb); (try clear hb2); (try clear hk); (try clear hi)))
                                  go_roundg k2
                                  case measure => have := HJ4.out; have := HK2.out; omega
                                  case rel => exact ⟨(wrap64 (x30_2 + 1)), (by first | rfl | (simp; done) | (simp [*]; done)), H', ⟨by have := HJ4.out; have := HK2.out; omega⟩, ⟨by (with_reducible repeat (first | apply Kd.R_alloc | apply Kd.R_drewN | apply Kd.R_drew)); exact Kd.R_mono HO_28.out (fun _ hk => trivial)⟩, ⟨by repeat (first | (with_reducible first | exact HB.out | apply below_alloc | apply pw_below_drewN | apply below_drew1 | refine below_set ?_ GE131.out) | exact HB.out)⟩⟩
                                · replace c53 := Bool.eq_false_iff.mpr c53
                                  subst c53
                                  have H1 : (some false) = some r := by rw [if_neg (show ¬ (false = true) by decide)] at H; exact H
                                  clear H
                                  have H := H1
                                  clear H1
                                  obtain rfl := Option.some.inj H
                                  have p130 : 0 ≤ (x30_2 : Int) := of_decide_eq_true (by first | (with_reducible assumption) | assumption)
                                  have q130 : x30_2 < (t126.length : Int) := of_decide_eq_true (by first | (with_reducible assumption) | assumption)
                                  obtain ⟨ad130, e130, hx130_0, hx130_1, hx130_2⟩ := at_T35 (Kd.R_reads' HO_28.out).2.2 x30_2 p130 q130
                                  cases e130
                                  replace p130 := eq_true p130
                                  replace q130 := eq_true q130
                                  go_wp2_with (first | ((with_reducible refine gate_dst (N := 6) rfl ?_); refine box_event ?hg (N := 6) ?hd (cs := #[.int .i64 0, .string (⟨#[]⟩ : ByteArray), .string (⟨#[]⟩ : ByteArray)]) (t := 35) ?hr ?_; (case hd => rfl); (case hg => rfl); (case hr => first | (go_simp; done) | (go_simp; rfl)); intro gb131 hg w61 hbox hb; have n0_ := Aside0.mk (Kd.R_below (Kd.R_elderB (by (with_reducible repeat (first | apply Kd.R_alloc | apply Kd.R_drewN | apply Kd.R_drew)); exact HO_28.out) gb131 (Nat.le_of_eq hg.symm)) hb); have n1_ := Aside0.mk (below_step (by repeat (first | (with_reducible first | exact HB.out | apply below_alloc | apply pw_below_drewN | apply below_drew1) | exact HB.out)) hb); have n2_ := Aside0.mk (hbox); have n3_ := Aside0.mk ((by rw [hg]; exact (below_size (by repeat (first | (with_reducible first | exact HB.out | apply below_alloc | apply pw_below_drewN | apply below_drew1) | exact HB.out))) : w.heap.size ≤ gb131)); have n4_ := Aside0.mk ((by rw [hg]; exact (below_size (by repeat (first | (with_reducible first | exact HB.out | apply below_alloc | apply pw_below_drewN | apply below_drew1) | exact HB.out))) : w.heap.size ≤ gb131)); clear HO_28; clear HB; have HO_28 := n0_; have HB := n1_; have BK131 := n2_; have GW131 := n3_; have GE131 := n4_; clear n0_ n1_ n2_ n3_ n4_; clear hb hbox hg; have hcz62_0 : w61.cell? ⟨gb131, 0, none⟩ = some (.int .i64 0) := (blk_cell BK131.out 0).trans rfl; have hcz62_1 : w61.cell? ⟨gb131, 1, none⟩ = some (.string (⟨#[]⟩ : ByteArray)) := (blk_cell BK131.out 1).trans rfl; have hcz62_2 : w61.cell? ⟨gb131, 2, none⟩ = some (.string (⟨#[]⟩ : ByteArray)) := (blk_cell BK131.out 2).trans rfl; have hfz62_0 := blk_frozen BK131.out 0; have hfz62_1 := blk_frozen BK131.out 1; have hfz62_2 := blk_frozen BK131.out 2) | (go_at_call 16; (with_reducible refine (utf8_ValidString.calls a0 true _ ?side1 A48.out).mono ?_); (case side1 => exact Go.Proofs.YtmjoebnphacadaaDoor.Lex.ETx.below HT_.out (by repeat (first | (with_reducible first | exact HB.out | apply below_alloc | apply pw_below_drewN | apply below_drew1 | refine below_set ?_ GE131.out) | exact HB.out))); rintro e w63 ⟨rfl, hb⟩; have n0_ := Aside0.mk (Kd.R_below (by (with_reducible repeat (first | apply Kd.R_alloc | apply Kd.R_drewN | apply Kd.R_drew)); exact (Kd.R_mono (Kd.R_far (p := ⟨gb131, 2, none⟩) (Kd.R_far (p := ⟨gb131, 1, none⟩) (Kd.R_far (p := ⟨gb131, 0, none⟩) (Kd.R_mono HO_28.out (fun k_ hk => (⟨hk, hk.2⟩ : _ ∧ k_ ≠ gb131))) (fun _ hk => hk.2) (.int .i64 ((rd_T35 t126 x30_2).f0))) (fun _ hk => hk.2) (.string ((rd_T35 t126 x30_2).f1))) (fun _ hk => hk.2) (.string ((rd_T35 t126 x30_2).f2))) (fun _ h_ => h_.1))) hb); have n1_ := Aside0.mk (blk_below (g := gb131) (o := .cells #[.int .i64 ((rd_T35 t126 x30_2).f0), .string ((rd_T35 t126 x30_2).f1), .string ((rd_T35 t126 x30_2).f2)] 35 (0, 0)) (by (with_reducible repeat (first | refine blk_drewN ?_ _ | refine blk_drew ?_ | refine blk_alloc ?_ _)); refine blk_put (cs := #[.int .i64 ((rd_T35 t126 x30_2).f0), .string ((rd_T35 t126 x30_2).f1), .string (⟨#[]⟩ : ByteArray)]) ?_ 2 _ rfl; (with_reducible repeat (first | refine blk_drewN ?_ _ | refine blk_drew ?_ | refine blk_alloc ?_ _)); refine blk_put (cs := #[.int .i64 ((rd_T35 t126 x30_2).f0), .string (⟨#[]⟩ : ByteArray), .string (⟨#[]⟩ : ByteArray)]) ?_ 1 _ rfl; (with_reducible repeat (first | refine blk_drewN ?_ _ | refine blk_drew ?_ | refine blk_alloc ?_ _)); refine blk_put (cs := #[.int .i64 0, .string (⟨#[]⟩ : ByteArray), .string (⟨#[]⟩ : ByteArray)]) ?_ 0 _ rfl; (with_reducible repeat (first | refine blk_drewN ?_ _ | refine blk_drew ?_ | refine blk_alloc ?_ _)); exact BK131.out) hb); have n2_ := Aside0.mk (below_step (by repeat (first | (with_reducible first | exact HB.out | apply below_alloc | apply pw_below_drewN | apply below_drew1 | refine below_set ?_ GE131.out) | exact HB.out)) hb); clear HO_28; clear BK131; clear HB; have HO_28 := n0_; have BK131 := n1_; have HB := n2_; clear n0_ n1_ n2_; (try clear hb); (try clear hb2); (try clear hk); (try clear hi); have hcz64_0 : w63.cell? ⟨gb131, 0, none⟩ = some (.int .i64 ((rd_T35 t126 x30_2).f0)) := (blk_cell BK131.out 0).trans rfl; have hcz64_1 : w63.cell? ⟨gb131, 1, none⟩ = some (.string ((rd_T35 t126 x30_2).f1)) := (blk_cell BK131.out 1).trans rfl; have hcz64_2 : w63.cell? ⟨gb131, 2, none⟩ = some (.string ((rd_T35 t126 x30_2).f2)) := (blk_cell BK131.out 2).trans rfl; have hfz64_0 := blk_frozen BK131.out 0; have hfz64_1 := blk_frozen BK131.out 1; have hfz64_2 := blk_frozen BK131.out 2) | (go_at_call 16; (with_reducible refine (utf8_ValidString.calls ((rd_T35 t126 x30_2).f1) true _ ?side1 A50.out).mono ?_); (case side1 => exact Go.Proofs.YtmjoebnphacadaaDoor.Lex.ETx.below HT_.out (by repeat (first | (with_reducible first | exact HB.out | apply below_alloc | apply pw_below_drewN | apply below_drew1 | refine below_set ?_ GE131.out) | exact HB.out))); rintro e w65 ⟨rfl, hb⟩; have n0_ := Aside0.mk (Kd.R_below (by (with_reducible repeat (first | apply Kd.R_alloc | apply Kd.R_drewN | apply Kd.R_drew)); exact HO_28.out) hb); have n1_ := Aside0.mk (blk_below (g := gb131) (o := .cells #[.int .i64 ((rd_T35 t126 x30_2).f0), .string ((rd_T35 t126 x30_2).f1), .string ((rd_T35 t126 x30_2).f2)] 35 (0, 0)) (by (with_reducible repeat (first | refine blk_drewN ?_ _ | refine blk_drew ?_ | refine blk_alloc ?_ _)); exact BK131.out) hb); have n2_ := Aside0.mk (below_step (by repeat (first | (with_reducible first | exact HB.out | apply below_alloc | apply pw_below_drewN | apply below_drew1 | refine below_set ?_ GE131.out) | exact HB.out)) hb); clear HO_28; clear BK131; clear HB; have HO_28 := n0_; have BK131 := n1_; have HB := n2_; clear n0_ n1_ n2_; (try clear hb); (try clear hb2); (try clear hk); (try clear hi); have hcz66_0 : w65.cell? ⟨gb131, 0, none⟩ = some (.int .i64 ((rd_T35 t126 x30_2).f0)) := (blk_cell BK131.out 0).trans rfl; have hcz66_1 : w65.cell? ⟨gb131, 1, none⟩ = some (.string ((rd_T35 t126 x30_2).f1)) := (blk_cell BK131.out 1).trans rfl; have hcz66_2 : w65.cell? ⟨gb131, 2, none⟩ = some (.string ((rd_T35 t126 x30_2).f2)) := (blk_cell BK131.out 2).trans rfl; have hfz66_0 := blk_frozen BK131.out 0; have hfz66_1 := blk_frozen BK131.out 1; have hfz66_2 := blk_frozen BK131.out 2) | (go_at_call 16; (with_reducible refine (utf8_ValidString.calls ((rd_T35 t126 x30_2).f2) false _ ?side1 A52.out).mono ?_); (case side1 => exact Go.Proofs.YtmjoebnphacadaaDoor.Lex.ETx.below HT_.out (by repeat (first | (with_reducible first | exact HB.out | apply below_alloc | apply pw_below_drewN | apply below_drew1 | refine below_set ?_ GE131.out) | exact HB.out))); rintro e w67 ⟨rfl, hb⟩; have n0_ := Aside0.mk (Kd.R_below (by (with_reducible repeat (first | apply Kd.R_alloc | apply Kd.R_drewN | apply Kd.R_drew)); exact HO_28.out) hb); have n1_ := Aside0.mk (blk_below (g := gb131) (o := .cells #[.int .i64 ((rd_T35 t126 x30_2).f0), .string ((rd_T35 t126 x30_2).f1), .string ((rd_T35 t126 x30_2).f2)] 35 (0, 0)) (by (with_reducible repeat (first | refine blk_drewN ?_ _ | refine blk_drew ?_ | refine blk_alloc ?_ _)); exact BK131.out) hb); have n2_ := Aside0.mk (below_step (by repeat (first | (with_reducible first | exact HB.out | apply below_alloc | apply pw_below_drewN | apply below_drew1 | refine below_set ?_ GE131.out) | exact HB.out)) hb); clear HO_28; clear BK131; clear HB; have HO_28 := n0_; have BK131 := n1_; have HB := n2_; clear n0_ n1_ n2_; (try clear hb); (try clear hb2); (try clear hk); (try clear hi)))
                                  go_ret
                                  exact ⟨by first | rfl | (simp [errW_none, errW_some] <;> rfl) | (simp [*, errW_none, errW_some] <;> rfl), by repeat (first | (with_reducible first | exact HB.out | apply below_alloc | apply pw_below_drewN | apply below_drew1 | refine below_set ?_ GE131.out) | exact HB.out)⟩
                              · replace c51 := Bool.eq_false_iff.mpr c51
                                subst c51
                                have H1 : (some false) = some r := by rw [if_neg (show ¬ (false = true) by decide)] at H; exact H
                                clear H
                                have H := H1
                                clear H1
                                obtain rfl := Option.some.inj H
                                have p130 : 0 ≤ (x30_2 : Int) := of_decide_eq_true (by first | (with_reducible assumption) | assumption)
                                have q130 : x30_2 < (t126.length : Int) := of_decide_eq_true (by first | (with_reducible assumption) | assumption)
                                obtain ⟨ad130, e130, hx130_0, hx130_1, hx130_2⟩ := at_T35 (Kd.R_reads' HO_28.out).2.2 x30_2 p130 q130
                                cases e130
                                replace p130 := eq_true p130
                                replace q130 := eq_true q130
                                go_wp2_with (first | ((with_reducible refine gate_dst (N := 6) rfl ?_); refine box_event ?hg (N := 6) ?hd (cs := #[.int .i64 0, .string (⟨#[]⟩ : ByteArray), .string (⟨#[]⟩ : ByteArray)]) (t := 35) ?hr ?_; (case hd => rfl); (case hg => rfl); (case hr => first | (go_simp; done) | (go_simp; rfl)); intro gb131 hg w68 hbox hb; have n0_ := Aside0.mk (Kd.R_below (Kd.R_elderB (by (with_reducible repeat (first | apply Kd.R_alloc | apply Kd.R_drewN | apply Kd.R_drew)); exact HO_28.out) gb131 (Nat.le_of_eq hg.symm)) hb); have n1_ := Aside0.mk (below_step (by repeat (first | (with_reducible first | exact HB.out | apply below_alloc | apply pw_below_drewN | apply below_drew1) | exact HB.out)) hb); have n2_ := Aside0.mk (hbox); have n3_ := Aside0.mk ((by rw [hg]; exact (below_size (by repeat (first | (with_reducible first | exact HB.out | apply below_alloc | apply pw_below_drewN | apply below_drew1) | exact HB.out))) : w.heap.size ≤ gb131)); have n4_ := Aside0.mk ((by rw [hg]; exact (below_size (by repeat (first | (with_reducible first | exact HB.out | apply below_alloc | apply pw_below_drewN | apply below_drew1) | exact HB.out))) : w.heap.size ≤ gb131)); clear HO_28; clear HB; have HO_28 := n0_; have HB := n1_; have BK131 := n2_; have GW131 := n3_; have GE131 := n4_; clear n0_ n1_ n2_ n3_ n4_; clear hb hbox hg; have hcz69_0 : w68.cell? ⟨gb131, 0, none⟩ = some (.int .i64 0) := (blk_cell BK131.out 0).trans rfl; have hcz69_1 : w68.cell? ⟨gb131, 1, none⟩ = some (.string (⟨#[]⟩ : ByteArray)) := (blk_cell BK131.out 1).trans rfl; have hcz69_2 : w68.cell? ⟨gb131, 2, none⟩ = some (.string (⟨#[]⟩ : ByteArray)) := (blk_cell BK131.out 2).trans rfl; have hfz69_0 := blk_frozen BK131.out 0; have hfz69_1 := blk_frozen BK131.out 1; have hfz69_2 := blk_frozen BK131.out 2) | (go_at_call 16; (with_reducible refine (utf8_ValidString.calls a0 true _ ?side1 A48.out).mono ?_); (case side1 => exact Go.Proofs.YtmjoebnphacadaaDoor.Lex.ETx.below HT_.out (by repeat (first | (with_reducible first | exact HB.out | apply below_alloc | apply pw_below_drewN | apply below_drew1 | refine below_set ?_ GE131.out) | exact HB.out))); rintro e w70 ⟨rfl, hb⟩; have n0_ := Aside0.mk (Kd.R_below (by (with_reducible repeat (first | apply Kd.R_alloc | apply Kd.R_drewN | apply Kd.R_drew)); exact (Kd.R_mono (Kd.R_far (p := ⟨gb131, 2, none⟩) (Kd.R_far (p := ⟨gb131, 1, none⟩) (Kd.R_far (p := ⟨gb131, 0, none⟩) (Kd.R_mono HO_28.out (fun k_ hk => (⟨hk, hk.2⟩ : _ ∧ k_ ≠ gb131))) (fun _ hk => hk.2) (.int .i64 ((rd_T35 t126 x30_2).f0))) (fun _ hk => hk.2) (.string ((rd_T35 t126 x30_2).f1))) (fun _ hk => hk.2) (.string ((rd_T35 t126 x30_2).f2))) (fun _ h_ => h_.1))) hb); have n1_ := Aside0.mk (blk_below (g := gb131) (o := .cells #[.int .i64 ((rd_T35 t126 x30_2).f0), .string ((rd_T35 t126 x30_2).f1), .string ((rd_T35 t126 x30_2).f2)] 35 (0, 0)) (by (with_reducible repeat (first | refine blk_drewN ?_ _ | refine blk_drew ?_ | refine blk_alloc ?_ _)); refine blk_put (cs := #[.int .i64 ((rd_T35 t126 x30_2).f0), .string ((rd_T35 t126 x30_2).f1), .string (⟨#[]⟩ : ByteArray)]) ?_ 2 _ rfl; (with_reducible repeat (first | refine blk_drewN ?_ _ | refine blk_drew ?_ | refine blk_alloc ?_ _)); refine blk_put (cs := #[.int .i64 ((rd_T35 t126 x30_2).f0), .string (⟨#[]⟩ : ByteArray), .string (⟨#[]⟩ : ByteArray)]) ?_ 1 _ rfl; (with_reducible repeat (first | refine blk_drewN ?_ _ | refine blk_drew ?_ | refine blk_alloc ?_ _)); refine blk_put (cs := #[.int .i64 0, .string (⟨#[]⟩ : ByteArray), .string (⟨#[]⟩ : ByteArray)]) ?_ 0 _ rfl; (with_reducible repeat (first | refine blk_drewN ?_ _ | refine blk_drew ?_ | refine blk_alloc ?_ _)); exact BK131.out) hb); have n2_ := Aside0.mk (below_step (by repeat (first | (with_reducible first | exact HB.out | apply below_alloc | apply pw_below_drewN | apply below_drew1 | refine below_set ?_ GE131.out) | exact HB.out)) hb); clear HO_28; clear BK131; clear HB; have HO_28 := n0_; have BK131 := n1_; have HB := n2_; clear n0_ n1_ n2_; (try clear hb); (try clear hb2); (try clear hk); (try clear hi); have hcz71_0 : w70.cell? ⟨gb131, 0, none⟩ = some (.int .i64 ((rd_T35 t126 x30_2).f0)) := (blk_cell BK131.out 0).trans rfl; have hcz71_1 : w70.cell? ⟨gb131, 1, none⟩ = some (.string ((rd_T35 t126 x30_2).f1)) := (blk_cell BK131.out 1).trans rfl; have hcz71_2 : w70.cell? ⟨gb131, 2, none⟩ = some (.string ((rd_T35 t126 x30_2).f2)) := (blk_cell BK131.out 2).trans rfl; have hfz71_0 := blk_frozen BK131.out 0; have hfz71_1 := blk_frozen BK131.out 1; have hfz71_2 := blk_frozen BK131.out 2) | (go_at_call 16; (with_reducible refine (utf8_ValidString.calls ((rd_T35 t126 x30_2).f1) false _ ?side1 A50.out).mono ?_); (case side1 => exact Go.Proofs.YtmjoebnphacadaaDoor.Lex.ETx.below HT_.out (by repeat (first | (with_reducible first | exact HB.out | apply below_alloc | apply pw_below_drewN | apply below_drew1 | refine below_set ?_ GE131.out) | exact HB.out))); rintro e w72 ⟨rfl, hb⟩; have n0_ := Aside0.mk (Kd.R_below (by (with_reducible repeat (first | apply Kd.R_alloc | apply Kd.R_drewN | apply Kd.R_drew)); exact HO_28.out) hb); have n1_ := Aside0.mk (blk_below (g := gb131) (o := .cells #[.int .i64 ((rd_T35 t126 x30_2).f0), .string ((rd_T35 t126 x30_2).f1), .string ((rd_T35 t126 x30_2).f2)] 35 (0, 0)) (by (with_reducible repeat (first | refine blk_drewN ?_ _ | refine blk_drew ?_ | refine blk_alloc ?_ _)); exact BK131.out) hb); have n2_ := Aside0.mk (below_step (by repeat (first | (with_reducible first | exact HB.out | apply below_alloc | apply pw_below_drewN | apply below_drew1 | refine below_set ?_ GE131.out) | exact HB.out)) hb); clear HO_28; clear BK131; clear HB; have HO_28 := n0_; have BK131 := n1_; have HB := n2_; clear n0_ n1_ n2_; (try clear hb); (try clear hb2); (try clear hk); (try clear hi)))
                                go_ret
                                exact ⟨by first | rfl | (simp [errW_none, errW_some] <;> rfl) | (simp [*, errW_none, errW_some] <;> rfl), by repeat (first | (with_reducible first | exact HB.out | apply below_alloc | apply pw_below_drewN | apply below_drew1 | refine below_set ?_ GE131.out) | exact HB.out)⟩
                            · replace c49 := Bool.eq_false_iff.mpr c49
                              subst c49
                              have H1 : (laws_FnParseSound.l0 k2 a0 t126 (t126.length : Int) (wrap64 (x30_2 + 1))) = some r := by rw [if_neg (show ¬ (false = true) by decide)] at H; exact H
                              clear H
                              have H := H1
                              clear H1
                              have H' := Aside0.mk H
                              clear H
                              have p130 : 0 ≤ (x30_2 : Int) := of_decide_eq_true (by first | (with_reducible assumption) | assumption)
                              have q130 : x30_2 < (t126.length : Int) := of_decide_eq_true (by first | (with_reducible assumption) | assumption)
                              obtain ⟨ad130, e130, hx130_0, hx130_1, hx130_2⟩ := at_T35 (Kd.R_reads' HO_28.out).2.2 x30_2 p130 q130
                              cases e130
                              replace p130 := eq_true p130
                              replace q130 := eq_true q130
                              go_wp2_with (first | ((with_reducible refine gate_dst (N := 6) rfl ?_); refine box_event ?hg (N := 6) ?hd (cs := #[.int .i64 0, .string (⟨#[]⟩ : ByteArray), .string (⟨#[]⟩ : ByteArray)]) (t := 35) ?hr ?_; (case hd => rfl); (case hg => rfl); (case hr => first | (go_simp; done) | (go_simp; rfl)); intro gb131 hg w73 hbox hb; have n0_ := Aside0.mk (Kd.R_below (Kd.R_elderB (by (with_reducible repeat (first | apply Kd.R_alloc | apply Kd.R_drewN | apply Kd.R_drew)); exact HO_28.out) gb131 (Nat.le_of_eq hg.symm)) hb); have n1_ := Aside0.mk (below_step (by repeat (first | (with_reducible first | exact HB.out | apply below_alloc | apply pw_below_drewN | apply below_drew1) | exact HB.out)) hb); have n2_ := Aside0.mk (hbox); have n3_ := Aside0.mk ((by rw [hg]; exact (below_size (by repeat (first | (with_reducible first | exact HB.out | apply below_alloc | apply pw_below_drewN | apply below_drew1) | exact HB.out))) : w.heap.size ≤ gb131)); have n4_ := Aside0.mk ((by rw [hg]; exact (below_size (by repeat (first | (with_reducible first | exact HB.out | apply below_alloc | apply pw_below_drewN | apply below_drew1) | exact HB.out))) : w.heap.size ≤ gb131)); clear HO_28; clear HB; have HO_28 := n0_; have HB := n1_; have BK131 := n2_; have GW131 := n3_; have GE131 := n4_; clear n0_ n1_ n2_ n3_ n4_; clear hb hbox hg; have hcz74_0 : w73.cell? ⟨gb131, 0, none⟩ = some (.int .i64 0) := (blk_cell BK131.out 0).trans rfl; have hcz74_1 : w73.cell? ⟨gb131, 1, none⟩ = some (.string (⟨#[]⟩ : ByteArray)) := (blk_cell BK131.out 1).trans rfl; have hcz74_2 : w73.cell? ⟨gb131, 2, none⟩ = some (.string (⟨#[]⟩ : ByteArray)) := (blk_cell BK131.out 2).trans rfl; have hfz74_0 := blk_frozen BK131.out 0; have hfz74_1 := blk_frozen BK131.out 1; have hfz74_2 := blk_frozen BK131.out 2) | (go_at_call 16; (with_reducible refine (utf8_ValidString.calls a0 false _ ?side1 A48.out).mono ?_); (case side1 => exact Go.Proofs.YtmjoebnphacadaaDoor.Lex.ETx.below HT_.out (by repeat (first | (with_reducible first | exact HB.out | apply below_alloc | apply pw_below_drewN | apply below_drew1 | refine below_set ?_ GE131.out) | exact HB.out))); rintro e w75 ⟨rfl, hb⟩; have n0_ := Aside0.mk (Kd.R_below (by (with_reducible repeat (first | apply Kd.R_alloc | apply Kd.R_drewN | apply Kd.R_drew)); exact (Kd.R_mono (Kd.R_far (p := ⟨gb131, 2, none⟩) (Kd.R_far (p := ⟨gb131, 1, none⟩) (Kd.R_far (p := ⟨gb131, 0, none⟩) (Kd.R_mono HO_28.out (fun k_ hk => (⟨hk, hk.2⟩ : _ ∧ k_ ≠ gb131))) (fun _ hk => hk.2) (.int .i64 ((rd_T35 t126 x30_2).f0))) (fun _ hk => hk.2) (.string ((rd_T35 t126 x30_2).f1))) (fun _ hk => hk.2) (.string ((rd_T35 t126 x30_2).f2))) (fun _ h_ => h_.1))) hb); have n1_ := Aside0.mk (blk_below (g := gb131) (o := .cells #[.int .i64 ((rd_T35 t126 x30_2).f0), .string ((rd_T35 t126 x30_2).f1), .string ((rd_T35 t126 x30_2).f2)] 35 (0, 0)) (by (with_reducible repeat (first | refine blk_drewN ?_ _ | refine blk_drew ?_ | refine blk_alloc ?_ _)); refine blk_put (cs := #[.int .i64 ((rd_T35 t126 x30_2).f0), .string ((rd_T35 t126 x30_2).f1), .string (⟨#[]⟩ : ByteArray)]) ?_ 2 _ rfl; (with_reducible repeat (first | refine blk_drewN ?_ _ | refine blk_drew ?_ | refine blk_alloc ?_ _)); refine blk_put (cs := #[.int .i64 ((rd_T35 t126 x30_2).f0), .string (⟨#[]⟩ : ByteArray), .string (⟨#[]⟩ : ByteArray)]) ?_ 1 _ rfl; (with_reducible repeat (first | refine blk_drewN ?_ _ | refine blk_drew ?_ | refine blk_alloc ?_ _)); refine blk_put (cs := #[.int .i64 0, .string (⟨#[]⟩ : ByteArray), .string (⟨#[]⟩ : ByteArray)]) ?_ 0 _ rfl; (with_reducible repeat (first | refine blk_drewN ?_ _ | refine blk_drew ?_ | refine blk_alloc ?_ _)); exact BK131.out) hb); have n2_ := Aside0.mk (below_step (by repeat (first | (with_reducible first | exact HB.out | apply below_alloc | apply pw_below_drewN | apply below_drew1 | refine below_set ?_ GE131.out) | exact HB.out)) hb); clear HO_28; clear BK131; clear HB; have HO_28 := n0_; have BK131 := n1_; have HB := n2_; clear n0_ n1_ n2_; (try clear hb); (try clear hb2); (try clear hk); (try clear hi)))
                              go_roundg k2
                              case measure => have := HJ4.out; have := HK2.out; omega
                              case rel => exact ⟨(wrap64 (x30_2 + 1)), (by first | rfl | (simp; done) | (simp [*]; done)), H', ⟨by have := HJ4.out; have := HK2.out; omega⟩, ⟨by (with_reducible repeat (first | apply Kd.R_alloc | apply Kd.R_drewN | apply Kd.R_drew)); exact Kd.R_mono HO_28.out (fun _ hk => trivial)⟩, ⟨by repeat (first | (with_reducible first | exact HB.out | apply below_alloc | apply pw_below_drewN | apply below_drew1 | refine below_set ?_ GE131.out) | exact HB.out)⟩⟩
                          · rw [if_neg c47] at H
                            have c47b0 : (((rd_T35 t126 x30_2).f0) == 1) = false := beq_eq_false_iff_ne.mpr c47
                            have c47b1 : (((rd_T35 t126 x30_2).f0) != 1) = true := bne_iff_ne.mpr c47
                            obtain rfl := Option.some.inj H
                            have p130 : 0 ≤ (x30_2 : Int) := of_decide_eq_true (by first | (with_reducible assumption) | assumption)
                            have q130 : x30_2 < (t126.length : Int) := of_decide_eq_true (by first | (with_reducible assumption) | assumption)
                            obtain ⟨ad130, e130, hx130_0, hx130_1, hx130_2⟩ := at_T35 (Kd.R_reads' HO_28.out).2.2 x30_2 p130 q130
                            cases e130
                            replace p130 := eq_true p130
                            replace q130 := eq_true q130
                            go_wp2_with (first | ((with_reducible refine gate_dst (N := 6) rfl ?_); refine box_event ?hg (N := 6) ?hd (cs := #[.int .i64 0, .string (⟨#[]⟩ : ByteArray), .string (⟨#[]⟩ : ByteArray)]) (t := 35) ?hr ?_; (case hd => rfl); (case hg => rfl); (case hr => first | (go_simp; done) | (go_simp; rfl)); intro gb131 hg w76 hbox hb; have n0_ := Aside0.mk (Kd.R_below (Kd.R_elderB (by (with_reducible repeat (first | apply Kd.R_alloc | apply Kd.R_drewN | apply Kd.R_drew)); exact HO_28.out) gb131 (Nat.le_of_eq hg.symm)) hb); have n1_ := Aside0.mk (below_step (by repeat (first | (with_reducible first | exact HB.out | apply below_alloc | apply pw_below_drewN | apply below_drew1) | exact HB.out)) hb); have n2_ := Aside0.mk (hbox); have n3_ := Aside0.mk ((by rw [hg]; exact (below_size (by repeat (first | (with_reducible first | exact HB.out | apply below_alloc | apply pw_below_drewN | apply below_drew1) | exact HB.out))) : w.heap.size ≤ gb131)); have n4_ := Aside0.mk ((by rw [hg]; exact (below_size (by repeat (first | (with_reducible first | exact HB.out | apply below_alloc | apply pw_below_drewN | apply below_drew1) | exact HB.out))) : w.heap.size ≤ gb131)); clear HO_28; clear HB; have HO_28 := n0_; have HB := n1_; have BK131 := n2_; have GW131 := n3_; have GE131 := n4_; clear n0_ n1_ n2_ n3_ n4_; clear hb hbox hg; have hcz77_0 : w76.cell? ⟨gb131, 0, none⟩ = some (.int .i64 0) := (blk_cell BK131.out 0).trans rfl; have hcz77_1 : w76.cell? ⟨gb131, 1, none⟩ = some (.string (⟨#[]⟩ : ByteArray)) := (blk_cell BK131.out 1).trans rfl; have hcz77_2 : w76.cell? ⟨gb131, 2, none⟩ = some (.string (⟨#[]⟩ : ByteArray)) := (blk_cell BK131.out 2).trans rfl; have hfz77_0 := blk_frozen BK131.out 0; have hfz77_1 := blk_frozen BK131.out 1; have hfz77_2 := blk_frozen BK131.out 2))
                            go_ret
                            exact ⟨by first | rfl | (simp [errW_none, errW_some] <;> rfl) | (simp [*, errW_none, errW_some] <;> rfl), by repeat (first | (with_reducible first | exact HB.out | apply below_alloc | apply pw_below_drewN | apply below_drew1 | refine below_set ?_ GE131.out) | exact HB.out)⟩
                      · rw [if_neg c17] at H
                        exact absurd H (by simp)
                    · rw [if_neg c16] at H
                      exact absurd H (by simp)
                  · rw [if_neg c15] at H
                    have c15b0 : decide (x30_2 < (t126.length : Int)) = false := decide_eq_false c15
                    clear c15
                    obtain rfl := Option.some.inj H
                    go_wp2
                    go_ret
                    exact ⟨by first | rfl | (simp [errW_none, errW_some] <;> rfl) | (simp [*, errW_none, errW_some] <;> rfl), by repeat (first | (with_reducible first | exact HB.out | apply below_alloc | apply pw_below_drewN | apply below_drew1) | exact HB.out)⟩
            · replace c12 := Bool.eq_false_iff.mpr c12
              subst c12
              have H1 : (some ((t126.length : Int) == 0)) = some r := by rw [if_neg (show ¬ (false = true) by decide)] at H; exact H
              clear H
              have H := H1
              clear H1
              obtain rfl := Option.some.inj H
              go_wp2_with (first | ((with_reducible refine gate_callee (f := 15) rfl ?_); refine goesL_ (some 20) rfl rfl Tryd.func15 (by kernel_rfl) rfl #[.string a0] rfl (by (try simp only [List.map_toArray, List.map_cons, List.map_nil]); first | done | rfl | (simp only [List.length_drop, List.length_take]; rfl)) ?_; (with_reducible refine (impl_ParseMatchers.calls a0 t126 false _ ?side1 A11.out).mono ?_); (case side1 => exact Go.Proofs.YtmjoebnphacadaaDoor.Lex.ETx.below HT_.out (by repeat (first | (with_reducible first | exact HB.out | apply below_alloc | apply pw_below_drewN | apply below_drew1) | exact HB.out))); rintro e w78 ⟨v128, rfl, ho0, hb⟩; refine ⟨_, rfl, ?_⟩; have n0_ := Aside0.mk (Kd.R_lower ho0 (below_size (by repeat (first | (with_reducible first | exact HB.out | apply below_alloc | apply pw_below_drewN | apply below_drew1) | exact HB.out)))); have n1_ := Aside0.mk (below_step (by repeat (first | (with_reducible first | exact HB.out | apply below_alloc | apply pw_below_drewN | apply below_drew1) | exact HB.out)) hb); clear HB; have HO129 := n0_; have HB := n1_; clear n0_ n1_; (try clear hb); (try clear hb2); (try clear hk); (try clear hi); (try clear ho0); obtain ⟨Ao79, co79, eo79⟩ := Kd.R_slice HO129.out; subst eo79))
              go_ret
              exact ⟨by first | rfl | (simp [errW_none, errW_some] <;> rfl) | (simp [*, errW_none, errW_some] <;> rfl), by repeat (first | (with_reducible first | exact HB.out | apply below_alloc | apply pw_below_drewN | apply below_drew1) | exact HB.out)⟩
    · replace c4 := Bool.eq_false_iff.mpr c4
      subst c4
      have H1 : (some false) = some r := by rw [if_neg (show ¬ (false = true) by decide)] at H; exact H
      clear H
      have H := H1
      clear H1
      obtain rfl := Option.some.inj H
      go_enter Tryd.func5, Tryd.ntmps5
      go_wp2_with (first | ((with_reducible refine gate_callee (f := 13) rfl ?_); refine goesL_ (some 10) rfl rfl Tryd.func13 (by kernel_rfl) rfl #[] rfl (by (try simp only [List.map_toArray, List.map_cons, List.map_nil]); first | done | rfl | (simp only [List.length_drop, List.length_take]; rfl)) ?_; (with_reducible refine (laws_one.calls  false _ ?side1 A3.out).mono ?_); (case side1 => exact Go.Proofs.YtmjoebnphacadaaDoor.Lex.ETx.below HT_.out (by repeat (first | (with_reducible first | exact HB.out | apply below_alloc | apply pw_below_drewN | apply below_drew1) | exact HB.out))); rintro e w80 ⟨rfl, hb⟩; refine ⟨_, rfl, ?_⟩; have n0_ := Aside0.mk (below_step (by repeat (first | (with_reducible first | exact HB.out | apply below_alloc | apply pw_below_drewN | apply below_drew1) | exact HB.out)) hb); clear HB; have HB := n0_; clear n0_; (try clear hb); (try clear hb2); (try clear hk); (try clear hi)))
      go_ret
      exact ⟨by first | rfl | (simp [errW_none, errW_some] <;> rfl) | (simp [*, errW_none, errW_some] <;> rfl), by repeat (first | (with_reducible first | exact HB.out | apply below_alloc | apply pw_below_drewN | apply below_drew1) | exact HB.out)⟩

/-- THE ONE PURE STATEMENT of laws_FnParseSound: yours. -/
noncomputable def laws_FnParseSound.Pure : Prop := ∀ (a0 : ByteArray), a0.size ≤ maxLen → ∃ k, laws_FnParseSound.f k a0 = some true

/-! ### laws_safe: function 17 -/
noncomputable def laws_safe.l0 : Nat → ByteArray → ByteArray → Int → Option (ByteArray)
  | 0, _, _, _ => none
  | k + 1, x0, x3, x4 => if x4 < (x0.size : Int) then (if 0 ≤ x4 then (if 0 ≤ (Int.tmod (wrap64 (bt x0 x4)) 67) then (if (Int.tmod (wrap64 (bt x0 x4)) 67) ≤ (wrap64 ((Int.tmod (wrap64 (bt x0 x4)) 67) + 1)) then (if (wrap64 ((Int.tmod (wrap64 (bt x0 x4)) 67) + 1)) ≤ 67 then (if x3.size + ((⟨#[97, 98, 99, 100, 101, 102, 103, 104, 105, 106, 107, 108, 109, 110, 111, 112, 113, 114, 115, 116, 117, 118, 119, 120, 121, 122, 65, 66, 67, 68, 69, 70, 71, 72, 73, 74, 75, 76, 77, 78, 79, 80, 81, 82, 83, 84, 85, 86, 87, 88, 89, 90, 48, 49, 50, 51, 52, 53, 54, 55, 56, 57, 95, 58, 46, 45, 47]⟩ : ByteArray).extract ((Int.tmod (wrap64 (bt x0 x4)) 67) : Int).toNat ((wrap64 ((Int.tmod (wrap64 (bt x0 x4)) 67) + 1)) : Int).toNat).size ≤ 9223372036854775807 then (laws_safe.l0 k x0 (x3 ++ ((⟨#[97, 98, 99, 100, 101, 102, 103, 104, 105, 106, 107, 108, 109, 110, 111, 112, 113, 114, 115, 116, 117, 118, 119, 120, 121, 122, 65, 66, 67, 68, 69, 70, 71, 72, 73, 74, 75, 76, 77, 78, 79, 80, 81, 82, 83, 84, 85, 86, 87, 88, 89, 90, 48, 49, 50, 51, 52, 53, 54, 55, 56, 57, 95, 58, 46, 45, 47]⟩ : ByteArray).extract ((Int.tmod (wrap64 (bt x0 x4)) 67) : Int).toNat ((wrap64 ((Int.tmod (wrap64 (bt x0 x4)) 67) + 1)) : Int).toNat)) (wrap64 (x4 + 1))) else (none)) else (none)) else (none)) else (none)) else (none)) else (some x3)
noncomputable def laws_safe.f (k : Nat) (a0 : ByteArray) : Option (ByteArray) := laws_safe.l0 k a0 (⟨#[97]⟩ : ByteArray) 0
theorem laws_safe.mono_l : ∀ k, (∀ y0 y1 y2, LeO (laws_safe.l0 k y0 y1 y2) (laws_safe.l0 (k + 1) y0 y1 y2))
  | 0 => fun _ _ _ r h => by simp [laws_safe.l0] at h
  | k + 1 => by
    have ih0 := laws_safe.mono_l k
    · intro y0 y1 y2
      unfold laws_safe.l0
      repeat' first
      | (with_reducible exact ih0 _ _ _)
      | (with_reducible exact LeO.refl _)
      | (with_reducible exact LeO.none _)
      | (with_reducible refine LeO.ite ?_ ?_)
      | (with_reducible refine LeO.bind ?_ (fun _ => ?_))
      | exact ih0 _ _ _
      | exact LeO.none _
      | refine LeO.ite ?_ ?_
      | refine LeO.bind ?_ (fun _ => ?_)
theorem laws_safe.mono : ∀ a0 k, LeO (laws_safe.f k a0) (laws_safe.f (k + 1) a0) := by
  intro a0 k
  have ih0 := laws_safe.mono_l k
  unfold laws_safe.f
  repeat' first
      | (with_reducible exact ih0 _ _ _)
      | (with_reducible exact LeO.refl _)
      | (with_reducible exact LeO.none _)
      | (with_reducible refine LeO.ite ?_ ?_)
      | (with_reducible refine LeO.bind ?_ (fun _ => ?_))
      | exact ih0 _ _ _
      | exact LeO.none _
      | refine LeO.ite ?_ ?_
      | refine LeO.bind ?_ (fun _ => ?_)
set_option maxHeartbeats 8000000 in
set_option maxRecDepth 100000 in
theorem laws_safe.calls (k : Nat) (a0 : ByteArray) (r : ByteArray) (w : World) (h : laws_safe.f k a0 = some r) :
    Calls Tryd.prog 17 #[.string a0] w fun e w' => e = .returned (.string r) ∧ Drawn0 w w' := by
  have H : (laws_safe.l0 k a0 (⟨#[97]⟩ : ByteArray) 0) = some r := h
  clear h
  have H' := Aside0.mk H
  clear H
  go_enter Tryd.func17, Tryd.ntmps17
  go_wp2
  repeat (go_quiet (fail); try go_wp2)
  go_loopg [3, 4] k (fun kq v3 v4 w' => ∃ (x3_1 : ByteArray) (x4_1 : Int), v3 = .string x3_1 ∧ v4 = .int .i64 x4_1 ∧ Aside0 (laws_safe.l0 kq a0 x3_1 x4_1 = some r) ∧ Aside0 (kq ≤ k) ∧ Drawn0 w w')
  case atStart => exact ⟨((⟨#[97]⟩ : ByteArray)), (0), (by first | rfl | (simp; done) | (simp [*]; done)), (by first | rfl | (simp; done) | (simp [*]; done)), H', ⟨Nat.le_refl _⟩, by repeat (first | exact Drawn0.refl _ | apply Drawn0.step)⟩
  case round =>
    clear H'
    try clear c1
    obtain ⟨x3_1, x4_1, rfl, rfl, HA, HK1, ⟨m1, rfl⟩⟩ := hrel
    cases gk with
    | zero => exact absurd HA.out (by simp [laws_safe.l0])
    | succ k1 =>
      have H := HA.out
      clear HA
      simp only [laws_safe.l0] at H
      by_cases c2 : x4_1 < (a0.size : Int)
      · rw [if_pos c2] at H
        have c2b0 : decide (x4_1 < (a0.size : Int)) = true := decide_eq_true c2
        clear c2
        by_cases c3 : 0 ≤ x4_1
        · rw [if_pos c3] at H
          have c3b0 : decide (0 ≤ x4_1) = true := decide_eq_true c3
          clear c3
          obtain ⟨ji6, hji6⟩ : ∃ j_ : Int, (Int.tmod (wrap64 (bt a0 x4_1)) 67) = j_ := ⟨_, rfl⟩
          replace H : (if 0 ≤ (ji6) then (if (ji6) ≤ (wrap64 ((ji6) + 1)) then (if (wrap64 ((ji6) + 1)) ≤ 67 then (if x3_1.size + ((⟨#[97, 98, 99, 100, 101, 102, 103, 104, 105, 106, 107, 108, 109, 110, 111, 112, 113, 114, 115, 116, 117, 118, 119, 120, 121, 122, 65, 66, 67, 68, 69, 70, 71, 72, 73, 74, 75, 76, 77, 78, 79, 80, 81, 82, 83, 84, 85, 86, 87, 88, 89, 90, 48, 49, 50, 51, 52, 53, 54, 55, 56, 57, 95, 58, 46, 45, 47]⟩ : ByteArray).extract ((ji6) : Int).toNat ((wrap64 ((ji6) + 1)) : Int).toNat).size ≤ 9223372036854775807 then (laws_safe.l0 k1 a0 (x3_1 ++ ((⟨#[97, 98, 99, 100, 101, 102, 103, 104, 105, 106, 107, 108, 109, 110, 111, 112, 113, 114, 115, 116, 117, 118, 119, 120, 121, 122, 65, 66, 67, 68, 69, 70, 71, 72, 73, 74, 75, 76, 77, 78, 79, 80, 81, 82, 83, 84, 85, 86, 87, 88, 89, 90, 48, 49, 50, 51, 52, 53, 54, 55, 56, 57, 95, 58, 46, 45, 47]⟩ : ByteArray).extract ((ji6) : Int).toNat ((wrap64 ((ji6) + 1)) : Int).toNat)) (wrap64 (x4_1 + 1))) else (none)) else (none)) else (none)) else (none)) = some r := by first | (rw [hji6] at H; exact H) | (simp only [hji6] at H ⊢; exact H)
          by_cases c7 : 0 ≤ (ji6)
          · rw [if_pos c7] at H
            have c7b0 := eq_true c7
            have c7b1 : decide (0 ≤ (ji6)) = true := decide_eq_true c7
            clear c7
            by_cases c8 : (ji6) ≤ (wrap64 ((ji6) + 1))
            · rw [if_pos c8] at H
              have c8b0 := eq_true c8
              have c8b1 : decide ((ji6) ≤ (wrap64 ((ji6) + 1))) = true := decide_eq_true c8
              by_cases c9 : (wrap64 ((ji6) + 1)) ≤ 67
              · rw [if_pos c9] at H
                have c9b0 := eq_true c9
                have c9b1 : decide ((wrap64 ((ji6) + 1)) ≤ 67) = true := decide_eq_true c9
                by_cases c10 : x3_1.size + ((⟨#[97, 98, 99, 100, 101, 102, 103, 104, 105, 106, 107, 108, 109, 110, 111, 112, 113, 114, 115, 116, 117, 118, 119, 120, 121, 122, 65, 66, 67, 68, 69, 70, 71, 72, 73, 74, 75, 76, 77, 78, 79, 80, 81, 82, 83, 84, 85, 86, 87, 88, 89, 90, 48, 49, 50, 51, 52, 53, 54, 55, 56, 57, 95, 58, 46, 45, 47]⟩ : ByteArray).extract ((ji6) : Int).toNat ((wrap64 ((ji6) + 1)) : Int).toNat).size ≤ 9223372036854775807
                · rw [if_pos c10] at H
                  have c10b0 := eq_true c10
                  have c10b1 : decide (x3_1.size + ((⟨#[97, 98, 99, 100, 101, 102, 103, 104, 105, 106, 107, 108, 109, 110, 111, 112, 113, 114, 115, 116, 117, 118, 119, 120, 121, 122, 65, 66, 67, 68, 69, 70, 71, 72, 73, 74, 75, 76, 77, 78, 79, 80, 81, 82, 83, 84, 85, 86, 87, 88, 89, 90, 48, 49, 50, 51, 52, 53, 54, 55, 56, 57, 95, 58, 46, 45, 47]⟩ : ByteArray).extract ((ji6) : Int).toNat ((wrap64 ((ji6) + 1)) : Int).toNat).size ≤ 9223372036854775807) = true := decide_eq_true c10
                  try have c10b2 : (9223372036854775807 < x3_1.size + ((⟨#[97, 98, 99, 100, 101, 102, 103, 104, 105, 106, 107, 108, 109, 110, 111, 112, 113, 114, 115, 116, 117, 118, 119, 120, 121, 122, 65, 66, 67, 68, 69, 70, 71, 72, 73, 74, 75, 76, 77, 78, 79, 80, 81, 82, 83, 84, 85, 86, 87, 88, 89, 90, 48, 49, 50, 51, 52, 53, 54, 55, 56, 57, 95, 58, 46, 45, 47]⟩ : ByteArray).extract ((ji6) : Int).toNat ((wrap64 ((ji6) + 1)) : Int).toNat).size) = False := eq_false (Nat.not_lt.2 c10)
                  try have c10b4 : (9223372036854775807 < x3_1.size + (((wrap64 ((ji6) + 1)) : Int).toNat - ((ji6) : Int).toNat)) = False := eq_false (by have h_ := c10; rw [ByteArray.size_extract] at h_; have z_ : (⟨#[97, 98, 99, 100, 101, 102, 103, 104, 105, 106, 107, 108, 109, 110, 111, 112, 113, 114, 115, 116, 117, 118, 119, 120, 121, 122, 65, 66, 67, 68, 69, 70, 71, 72, 73, 74, 75, 76, 77, 78, 79, 80, 81, 82, 83, 84, 85, 86, 87, 88, 89, 90, 48, 49, 50, 51, 52, 53, 54, 55, 56, 57, 95, 58, 46, 45, 47]⟩ : ByteArray).size = 67 := rfl; rw [z_] at h_; omega)
                  have H' := Aside0.mk H
                  clear H
                  have p4 : 0 ≤ (x4_1 : Int) := of_decide_eq_true (by first | (with_reducible assumption) | assumption)
                  have q4 : x4_1 < (a0.size : Int) := of_decide_eq_true (by first | (with_reducible assumption) | assumption)
                  have hx4 := bt_at a0 x4_1
                  replace p4 := eq_true p4
                  replace q4 := eq_true q4
                  have p5 : 0 ≤ (x4_1 : Int) := of_decide_eq_true (by first | (with_reducible assumption) | assumption)
                  have q5 : x4_1 < (a0.size : Int) := of_decide_eq_true (by first | (with_reducible assumption) | assumption)
                  have hx5 := bt_at a0 x4_1
                  replace p5 := eq_true p5
                  replace q5 := eq_true q5
                  go_wp2
                  repeat (go_quiet (fail); try go_wp2)
                  go_roundg k1
                  case measure => have := HK1.out; omega
                  case rel => exact ⟨(x3_1 ++ ((⟨#[97, 98, 99, 100, 101, 102, 103, 104, 105, 106, 107, 108, 109, 110, 111, 112, 113, 114, 115, 116, 117, 118, 119, 120, 121, 122, 65, 66, 67, 68, 69, 70, 71, 72, 73, 74, 75, 76, 77, 78, 79, 80, 81, 82, 83, 84, 85, 86, 87, 88, 89, 90, 48, 49, 50, 51, 52, 53, 54, 55, 56, 57, 95, 58, 46, 45, 47]⟩ : ByteArray).extract ((ji6) : Int).toNat ((wrap64 ((ji6) + 1)) : Int).toNat)), (wrap64 (x4_1 + 1)), (by first | rfl | (simp; done) | (simp only [← hji6] <;> (first | rfl | simp)) | (simp [*]; done)), (by first | rfl | (simp; done) | (simp [*]; done)), H', ⟨by have := HK1.out; omega⟩, by repeat (first | exact Drawn0.refl _ | apply Drawn0.step)⟩
                · rw [if_neg c10] at H
                  exact absurd H (by simp)
              · rw [if_neg c9] at H
                exact absurd H (by simp)
            · rw [if_neg c8] at H
              exact absurd H (by simp)
          · rw [if_neg c7] at H
            exact absurd H (by simp)
        · rw [if_neg c3] at H
          exact absurd H (by simp)
      · rw [if_neg c2] at H
        have c2b0 : decide (x4_1 < (a0.size : Int)) = false := decide_eq_false c2
        clear c2
        obtain rfl := Option.some.inj H
        go_wp2
        repeat (go_quiet (fail); try go_wp2)
        go_ret
        exact ⟨by first | rfl | (simp; done) | (simp [*]; done), by repeat (first | exact Drawn0.refl _ | apply Drawn0.step)⟩

-- NOT PRINTED: function 34 (errors_New)

-- NOT PRINTED: function 28 (parse_Matcher)

/-! ### impl_ParseMatcher: function 18 -/
-- a contract that was proved by hand
noncomputable def impl_ParseMatcher.f (a0 : ByteArray) : Option (Int × ByteArray × ByteArray × Bool) := if a0.size ≤ 1000000 then some ((Go.Proofs.YtmjoebnphacadaaDoor.Lex.poF a0).1.f0, (Go.Proofs.YtmjoebnphacadaaDoor.Lex.poF a0).1.f1, (Go.Proofs.YtmjoebnphacadaaDoor.Lex.poF a0).1.f2, (Go.Proofs.YtmjoebnphacadaaDoor.Lex.poF a0).2) else none
theorem impl_ParseMatcher.calls (a0 : ByteArray) (r1 : Int) (r2 : ByteArray) (r3 : ByteArray) (r4 : Bool) (w : World) (hT_ : Go.Proofs.YtmjoebnphacadaaDoor.Lex.ETx w) (h : impl_ParseMatcher.f a0 = some (r1, r2, r3, r4)) :
    Calls Tryd.prog 18 #[.string a0] w fun e w' => e = .returned (.tuple #[.agg #[.int .i64 r1, .string r2, .string r3], .bool r4]) ∧ Below w.heap.size w w' := by
  unfold impl_ParseMatcher.f at h
  split at h
  · rename_i hs
    obtain ⟨ea, hT⟩ := hT_
    have hq := Option.some.inj h
    have := Go.Proofs.YtmjoebnphacadaaDoor.Lex.parseMatcher_calls hT hs
    simp only [Prod.mk.injEq] at hq
    obtain ⟨rfl, rfl, rfl, rfl⟩ := hq
    exact this
  · exact nomatch h


end Go.Proofs.YtmjoebnphacadaaDoor.Q
