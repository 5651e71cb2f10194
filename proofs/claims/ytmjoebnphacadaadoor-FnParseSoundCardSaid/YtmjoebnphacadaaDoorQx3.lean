-- printed by this project's own program wip/tools/mkprint.py (the kit's print.py with hand-proved contracts put in)
import Derived.Test.YtmjoebnphacadaaDoorQx0
import Derived.Test.YtmjoebnphacadaaDoorQx2
namespace Go.Proofs.YtmjoebnphacadaaDoor.Q
open Go.RowKit Go.Proofs.YtmjoebnphacadaaDoorW.PrintWords Go.Proofs.YtmjoebnphacadaaDoorW.PrintLast Go.Proofs.YtmjoebnphacadaaDoorW.PrintMore
attribute [local go_sem] max2_int min2_int max_two min_two max_three min_three max_four min_four   -- for this text's walks alone
set_option linter.unusedVariables false
set_option linter.unusedSimpArgs false

/-! ### laws_FnParseTokens: function 4 -/
noncomputable def laws_FnParseTokens.j0 : Nat → ByteArray → Bool → Option (Bool)
  | 0, _, _ => none
  | k + 1, x0, x17 => if x17 = true then (some true) else ((impl_ParseMatchers.f x0).bind fun bt115 => ((impl_Tokens.f x0).bind fun bt119 => (if bt119.2 = true then (some true) else (some (!bt115.2)))))
noncomputable def laws_FnParseTokens.f (k : Nat) (a0 : ByteArray) : Option (Bool) := if (a0.size : Int) > 2147483647 then (some true) else ((laws_one.f).bind fun t112 => (if t112 = true then ((laws_long.f a0).bind fun t113 => (if t113 = true then (laws_FnParseTokens.j0 k a0 true) else ((laws_has.f k a0 126).bind fun t114 => (laws_FnParseTokens.j0 k a0 t114)))) else (some false)))
theorem laws_FnParseTokens.mono_l : ∀ k, (∀ y0 y1, LeO (laws_FnParseTokens.j0 k y0 y1) (laws_FnParseTokens.j0 (k + 1) y0 y1))
  | 0 => fun _ _ r h => by simp [laws_FnParseTokens.j0] at h
  | k + 1 => by
    have ih0 := laws_FnParseTokens.mono_l k
    · intro y0 y1
      unfold laws_FnParseTokens.j0
      repeat' first
      | (with_reducible exact ih0 _ _)
      | (with_reducible exact laws_has.mono _ _ _)
      | (with_reducible exact LeO.refl _)
      | (with_reducible exact LeO.none _)
      | (with_reducible refine LeO.ite ?_ ?_)
      | (with_reducible refine LeO.bind ?_ (fun _ => ?_))
      | exact ih0 _ _
      | exact laws_has.mono _ _ _
      | exact LeO.none _
      | refine LeO.ite ?_ ?_
      | refine LeO.bind ?_ (fun _ => ?_)
theorem laws_FnParseTokens.mono : ∀ a0 k, LeO (laws_FnParseTokens.f k a0) (laws_FnParseTokens.f (k + 1) a0) := by
  intro a0 k
  have ih0 := laws_FnParseTokens.mono_l k
  unfold laws_FnParseTokens.f
  repeat' first
      | (with_reducible exact ih0 _ _)
      | (with_reducible exact laws_has.mono _ _ _)
      | (with_reducible exact LeO.refl _)
      | (with_reducible exact LeO.none _)
      | (with_reducible refine LeO.ite ?_ ?_)
      | (with_reducible refine LeO.bind ?_ (fun _ => ?_))
      | exact ih0 _ _
      | exact laws_has.mono _ _ _
      | exact LeO.none _
      | refine LeO.ite ?_ ?_
      | refine LeO.bind ?_ (fun _ => ?_)
set_option maxHeartbeats 8000000 in
set_option maxRecDepth 100000 in
theorem laws_FnParseTokens.calls (k : Nat) (a0 : ByteArray) (r : Bool) (w : World) (hT_ : Go.Proofs.YtmjoebnphacadaaDoor.Lex.ETx w) (h : laws_FnParseTokens.f k a0 = some r) :
    Calls Tryd.prog 4 #[.string a0] w fun e w' => e = .returned (.bool r) ∧ Below w.heap.size w w' := by
  have HT_ := Aside0.mk hT_
  clear hT_
  have HB := Aside0.mk (Below.refl w.heap.size w)
  have H : (if (a0.size : Int) > 2147483647 then (some true) else ((laws_one.f).bind fun t112 => (if t112 = true then ((laws_long.f a0).bind fun t113 => (if t113 = true then (laws_FnParseTokens.j0 k a0 true) else ((laws_has.f k a0 126).bind fun t114 => (laws_FnParseTokens.j0 k a0 t114)))) else (some false)))) = some r := h
  clear h
  by_cases c2 : (a0.size : Int) > 2147483647
  · rw [if_pos c2] at H
    have c2b0 : decide (2147483647 < (a0.size : Int)) = true := decide_eq_true c2
    have c2b1 : decide (2147483647 < a0.size) = true := decide_eq_true (by omega)
    clear c2
    obtain rfl := Option.some.inj H
    go_enter Tryd.func4, Tryd.ntmps4
    go_wp2
    go_ret
    exact ⟨by first | rfl | (simp [errW_none, errW_some] <;> rfl) | (simp [*, errW_none, errW_some] <;> rfl), by repeat (first | (with_reducible first | exact HB.out | apply below_alloc | apply pw_below_drewN | apply below_drew1) | exact HB.out)⟩
  · rw [if_neg c2] at H
    have c2b0 : decide (2147483647 < (a0.size : Int)) = false := decide_eq_false c2
    have c2b1 : decide (2147483647 < a0.size) = false := decide_eq_false (by omega)
    clear c2
    replace H := Option.bind_eq_some_iff.mp H
    obtain ⟨t112, A30, H⟩ := H
    replace H : (if t112 = true then ((laws_long.f a0).bind fun t113 => (if t113 = true then (laws_FnParseTokens.j0 k a0 true) else ((laws_has.f k a0 126).bind fun t114 => (laws_FnParseTokens.j0 k a0 t114)))) else (some false)) = some r := H
    have A3 := Aside0.mk A30
    clear A30
    by_cases c4 : t112 = true
    · subst c4
      have H1 : ((laws_long.f a0).bind fun t113 => (if t113 = true then (laws_FnParseTokens.j0 k a0 true) else ((laws_has.f k a0 126).bind fun t114 => (laws_FnParseTokens.j0 k a0 t114)))) = some r := by rw [if_pos rfl] at H; exact H
      clear H
      have H := H1
      clear H1
      have HC5 := Aside0.mk H
      clear H
      go_enter Tryd.func4, Tryd.ntmps4
      go_upto_region 5 with (first | ((with_reducible refine gate_callee (f := 13) rfl ?_); refine goesL_ (some 10) rfl rfl Tryd.func13 (by kernel_rfl) rfl #[] rfl (by (try simp only [List.map_toArray, List.map_cons, List.map_nil]); first | done | rfl | (simp only [List.length_drop, List.length_take]; rfl)) ?_; (with_reducible refine (laws_one.calls  true _ ?side1 A3.out).mono ?_); (case side1 => exact Go.Proofs.YtmjoebnphacadaaDoor.Lex.ETx.below HT_.out (by repeat (first | (with_reducible first | exact HB.out | apply below_alloc | apply pw_below_drewN | apply below_drew1) | exact HB.out))); rintro e w6 ⟨rfl, hb⟩; refine ⟨_, rfl, ?_⟩; have n0_ := Aside0.mk (below_step (by repeat (first | (with_reducible first | exact HB.out | apply below_alloc | apply pw_below_drewN | apply below_drew1) | exact HB.out)) hb); clear HB; have HB := n0_; clear n0_; (try clear hb); (try clear hb2); (try clear hk); (try clear hi)))
      (try simp only [Act.put, List.setIfInBounds_toArray, List.set_cons_zero, List.set_cons_succ])
      go_cut [17] (fun v17 wc => ∃ (kq : Nat) (x17_4 : Bool), v17 = .bool x17_4 ∧ Aside0 (laws_FnParseTokens.j0 kq a0 x17_4 = some r) ∧ Aside0 (kq ≤ k) ∧ Aside0 (Below w.heap.size w wc))
      case first =>
        have H := HC5.out
        clear HC5
        replace H := Option.bind_eq_some_iff.mp H
        obtain ⟨t113, A70, H⟩ := H
        replace H : (if t113 = true then (laws_FnParseTokens.j0 k a0 true) else ((laws_has.f k a0 126).bind fun t114 => (laws_FnParseTokens.j0 k a0 t114))) = some r := H
        have A7 := Aside0.mk A70
        clear A70
        by_cases c8 : t113 = true
        · subst c8
          have H1 : (laws_FnParseTokens.j0 k a0 true) = some r := by rw [if_pos rfl] at H; exact H
          clear H
          have H := H1
          clear H1
          have H' := Aside0.mk H
          clear H
          go_wp2_with (first | ((with_reducible refine gate_callee (f := 10) rfl ?_); refine goesL_ (some 13) rfl rfl Tryd.func10 (by kernel_rfl) rfl #[.string a0] rfl (by (try simp only [List.map_toArray, List.map_cons, List.map_nil]); first | done | rfl | (simp only [List.length_drop, List.length_take]; rfl)) ?_; (with_reducible refine (laws_long.calls a0 true _ A7.out).mono ?_); rintro e w' ⟨rfl, ⟨nd, rfl⟩⟩; refine ⟨_, rfl, ?_⟩))
          go_meet
          case rel => exact ⟨_, (true), (by first | rfl | (simp; done) | (simp [*]; done)), H', ⟨by first | omega | exact Nat.le_refl _⟩, ⟨by repeat (first | (with_reducible first | exact HB.out | apply below_alloc | apply pw_below_drewN | apply below_drew1) | exact HB.out)⟩⟩
        · replace c8 := Bool.eq_false_iff.mpr c8
          subst c8
          have H1 : ((laws_has.f k a0 126).bind fun t114 => (laws_FnParseTokens.j0 k a0 t114)) = some r := by rw [if_neg (show ¬ (false = true) by decide)] at H; exact H
          clear H
          have H := H1
          clear H1
          replace H := Option.bind_eq_some_iff.mp H
          obtain ⟨t114, A90, H⟩ := H
          replace H : (laws_FnParseTokens.j0 k a0 t114) = some r := H
          have A9 := Aside0.mk A90
          clear A90
          have H' := Aside0.mk H
          clear H
          go_wp2_with (first | ((with_reducible refine gate_callee (f := 10) rfl ?_); refine goesL_ (some 13) rfl rfl Tryd.func10 (by kernel_rfl) rfl #[.string a0] rfl (by (try simp only [List.map_toArray, List.map_cons, List.map_nil]); first | done | rfl | (simp only [List.length_drop, List.length_take]; rfl)) ?_; (with_reducible refine (laws_long.calls a0 false _ A7.out).mono ?_); rintro e w' ⟨rfl, ⟨nd, rfl⟩⟩; refine ⟨_, rfl, ?_⟩) | (go_at_call 14; (with_reducible refine (laws_has.calls k a0 126 t114 _ A9.out).mono ?_); rintro e w' ⟨rfl, ⟨nd, rfl⟩⟩))
          go_meet
          case rel => exact ⟨_, (t114), (by first | rfl | (simp; done) | (simp [*]; done)), H', ⟨by first | omega | exact Nat.le_refl _⟩, ⟨by repeat (first | (with_reducible first | exact HB.out | apply below_alloc | apply pw_below_drewN | apply below_drew1) | exact HB.out)⟩⟩
      case rest =>
        clear HC5
        try clear c1
        try clear c2
        try clear c2b0
        try clear c2b1
        try clear p2
        try clear c4
        try clear c8
        obtain ⟨kq, x17_4, rfl, HA, HJ4, HB⟩ := hcut
        cases kq with
        | zero => exact absurd HA.out (by simp [laws_FnParseTokens.j0])
        | succ kj4 =>
          have H := HA.out
          clear HA
          simp only [laws_FnParseTokens.j0] at H
          by_cases c10 : x17_4 = true
          · subst c10
            have H1 : (some true) = some r := by rw [if_pos rfl] at H; exact H
            clear H
            have H := H1
            clear H1
            obtain rfl := Option.some.inj H
            go_wp2
            go_ret
            exact ⟨by first | rfl | (simp [errW_none, errW_some] <;> rfl) | (simp [*, errW_none, errW_some] <;> rfl), by repeat (first | (with_reducible first | exact HB.out | apply below_alloc | apply pw_below_drewN | apply below_drew1) | exact HB.out)⟩
          · replace c10 := Bool.eq_false_iff.mpr c10
            subst c10
            have H1 : ((impl_ParseMatchers.f a0).bind fun bt115 => ((impl_Tokens.f a0).bind fun bt119 => (if bt119.2 = true then (some true) else (some (!bt115.2))))) = some r := by rw [if_neg (show ¬ (false = true) by decide)] at H; exact H
            clear H
            have H := H1
            clear H1
            replace H := Option.bind_eq_some_iff.mp H
            obtain ⟨⟨t115, t116⟩, A110, H⟩ := H
            replace H : ((impl_Tokens.f a0).bind fun bt119 => (if bt119.2 = true then (some true) else (some (!t116)))) = some r := H
            have A11 := Aside0.mk A110
            clear A110
            replace H := Option.bind_eq_some_iff.mp H
            obtain ⟨⟨t119, t120⟩, A120, H⟩ := H
            replace H : (if t120 = true then (some true) else (some (!t116))) = some r := H
            have A12 := Aside0.mk A120
            clear A120
            by_cases c13 : t120 = true
            · subst c13
              have H1 : (some true) = some r := by rw [if_pos rfl] at H; exact H
              clear H
              have H := H1
              clear H1
              obtain rfl := Option.some.inj H
              go_wp2_with (first | ((with_reducible refine gate_callee (f := 15) rfl ?_); refine goesL_ (some 20) rfl rfl Tryd.func15 (by kernel_rfl) rfl #[.string a0] rfl (by (try simp only [List.map_toArray, List.map_cons, List.map_nil]); first | done | rfl | (simp only [List.length_drop, List.length_take]; rfl)) ?_; (with_reducible refine (impl_ParseMatchers.calls a0 t115 t116 _ ?side1 A11.out).mono ?_); (case side1 => exact Go.Proofs.YtmjoebnphacadaaDoor.Lex.ETx.below HT_.out (by repeat (first | (with_reducible first | exact HB.out | apply below_alloc | apply pw_below_drewN | apply below_drew1) | exact HB.out))); rintro e w14 ⟨v117, rfl, ho0, hb⟩; refine ⟨_, rfl, ?_⟩; have n0_ := Aside0.mk (Kd.R_lower ho0 (below_size (by repeat (first | (with_reducible first | exact HB.out | apply below_alloc | apply pw_below_drewN | apply below_drew1) | exact HB.out)))); have n1_ := Aside0.mk (below_step (by repeat (first | (with_reducible first | exact HB.out | apply below_alloc | apply pw_below_drewN | apply below_drew1) | exact HB.out)) hb); clear HB; have HO118 := n0_; have HB := n1_; clear n0_ n1_; (try clear hb); (try clear hb2); (try clear hk); (try clear hi); (try clear ho0)) | ((with_reducible refine gate_callee (f := 9) rfl ?_); refine goesL_ (some 25) rfl rfl Tryd.func9 (by kernel_rfl) rfl #[.string a0] rfl (by (try simp only [List.map_toArray, List.map_cons, List.map_nil]); first | done | rfl | (simp only [List.length_drop, List.length_take]; rfl)) ?_; (with_reducible refine (impl_Tokens.calls a0 t119 true _ ?side1 A12.out).mono ?_); (case side1 => exact Go.Proofs.YtmjoebnphacadaaDoor.Lex.ETx.below HT_.out (by repeat (first | (with_reducible first | exact HB.out | apply below_alloc | apply pw_below_drewN | apply below_drew1) | exact HB.out))); rintro e w15 ⟨v121, rfl, ho0, hb⟩; refine ⟨_, rfl, ?_⟩; have n0_ := Aside0.mk (Kd.R_below (by (with_reducible repeat (first | apply Kd.R_alloc | apply Kd.R_drewN | apply Kd.R_drew)); exact HO118.out) hb); have n1_ := Aside0.mk (Kd.R_lower ho0 (below_size (by repeat (first | (with_reducible first | exact HB.out | apply below_alloc | apply pw_below_drewN | apply below_drew1) | exact HB.out)))); have n2_ := Aside0.mk (below_step (by repeat (first | (with_reducible first | exact HB.out | apply below_alloc | apply pw_below_drewN | apply below_drew1) | exact HB.out)) hb); clear HO118; clear HB; have HO118 := n0_; have HO122 := n1_; have HB := n2_; clear n0_ n1_ n2_; (try clear hb); (try clear hb2); (try clear hk); (try clear hi); (try clear ho0)))
              go_ret
              exact ⟨by first | rfl | (simp [errW_none, errW_some] <;> rfl) | (simp [*, errW_none, errW_some] <;> rfl), by repeat (first | (with_reducible first | exact HB.out | apply below_alloc | apply pw_below_drewN | apply below_drew1) | exact HB.out)⟩
            · replace c13 := Bool.eq_false_iff.mpr c13
              subst c13
              have H1 : (some (!t116)) = some r := by rw [if_neg (show ¬ (false = true) by decide)] at H; exact H
              clear H
              have H := H1
              clear H1
              obtain rfl := Option.some.inj H
              go_wp2_with (first | ((with_reducible refine gate_callee (f := 15) rfl ?_); refine goesL_ (some 20) rfl rfl Tryd.func15 (by kernel_rfl) rfl #[.string a0] rfl (by (try simp only [List.map_toArray, List.map_cons, List.map_nil]); first | done | rfl | (simp only [List.length_drop, List.length_take]; rfl)) ?_; (with_reducible refine (impl_ParseMatchers.calls a0 t115 t116 _ ?side1 A11.out).mono ?_); (case side1 => exact Go.Proofs.YtmjoebnphacadaaDoor.Lex.ETx.below HT_.out (by repeat (first | (with_reducible first | exact HB.out | apply below_alloc | apply pw_below_drewN | apply below_drew1) | exact HB.out))); rintro e w16 ⟨v117, rfl, ho0, hb⟩; refine ⟨_, rfl, ?_⟩; have n0_ := Aside0.mk (Kd.R_lower ho0 (below_size (by repeat (first | (with_reducible first | exact HB.out | apply below_alloc | apply pw_below_drewN | apply below_drew1) | exact HB.out)))); have n1_ := Aside0.mk (below_step (by repeat (first | (with_reducible first | exact HB.out | apply below_alloc | apply pw_below_drewN | apply below_drew1) | exact HB.out)) hb); clear HB; have HO118 := n0_; have HB := n1_; clear n0_ n1_; (try clear hb); (try clear hb2); (try clear hk); (try clear hi); (try clear ho0)) | ((with_reducible refine gate_callee (f := 9) rfl ?_); refine goesL_ (some 25) rfl rfl Tryd.func9 (by kernel_rfl) rfl #[.string a0] rfl (by (try simp only [List.map_toArray, List.map_cons, List.map_nil]); first | done | rfl | (simp only [List.length_drop, List.length_take]; rfl)) ?_; (with_reducible refine (impl_Tokens.calls a0 t119 false _ ?side1 A12.out).mono ?_); (case side1 => exact Go.Proofs.YtmjoebnphacadaaDoor.Lex.ETx.below HT_.out (by repeat (first | (with_reducible first | exact HB.out | apply below_alloc | apply pw_below_drewN | apply below_drew1) | exact HB.out))); rintro e w17 ⟨v121, rfl, ho0, hb⟩; refine ⟨_, rfl, ?_⟩; have n0_ := Aside0.mk (Kd.R_below (by (with_reducible repeat (first | apply Kd.R_alloc | apply Kd.R_drewN | apply Kd.R_drew)); exact HO118.out) hb); have n1_ := Aside0.mk (Kd.R_lower ho0 (below_size (by repeat (first | (with_reducible first | exact HB.out | apply below_alloc | apply pw_below_drewN | apply below_drew1) | exact HB.out)))); have n2_ := Aside0.mk (below_step (by repeat (first | (with_reducible first | exact HB.out | apply below_alloc | apply pw_below_drewN | apply below_drew1) | exact HB.out)) hb); clear HO118; clear HB; have HO118 := n0_; have HO122 := n1_; have HB := n2_; clear n0_ n1_ n2_; (try clear hb); (try clear hb2); (try clear hk); (try clear hi); (try clear ho0)))
              go_ret
              exact ⟨by first | rfl | (simp [errW_none, errW_some] <;> rfl) | (simp [*, errW_none, errW_some] <;> rfl), by repeat (first | (with_reducible first | exact HB.out | apply below_alloc | apply pw_below_drewN | apply below_drew1) | exact HB.out)⟩
    · replace c4 := Bool.eq_false_iff.mpr c4
      subst c4
      have H1 : (some false) = some r := by rw [if_neg (show ¬ (false = true) by decide)] at H; exact H
      clear H
      have H := H1
      clear H1
      obtain rfl := Option.some.inj H
      go_enter Tryd.func4, Tryd.ntmps4
      go_wp2_with (first | ((with_reducible refine gate_callee (f := 13) rfl ?_); refine goesL_ (some 10) rfl rfl Tryd.func13 (by kernel_rfl) rfl #[] rfl (by (try simp only [List.map_toArray, List.map_cons, List.map_nil]); first | done | rfl | (simp only [List.length_drop, List.length_take]; rfl)) ?_; (with_reducible refine (laws_one.calls  false _ ?side1 A3.out).mono ?_); (case side1 => exact Go.Proofs.YtmjoebnphacadaaDoor.Lex.ETx.below HT_.out (by repeat (first | (with_reducible first | exact HB.out | apply below_alloc | apply pw_below_drewN | apply below_drew1) | exact HB.out))); rintro e w18 ⟨rfl, hb⟩; refine ⟨_, rfl, ?_⟩; have n0_ := Aside0.mk (below_step (by repeat (first | (with_reducible first | exact HB.out | apply below_alloc | apply pw_below_drewN | apply below_drew1) | exact HB.out)) hb); clear HB; have HB := n0_; clear n0_; (try clear hb); (try clear hb2); (try clear hk); (try clear hi)))
      go_ret
      exact ⟨by first | rfl | (simp [errW_none, errW_some] <;> rfl) | (simp [*, errW_none, errW_some] <;> rfl), by repeat (first | (with_reducible first | exact HB.out | apply below_alloc | apply pw_below_drewN | apply below_drew1) | exact HB.out)⟩

/-- THE ONE PURE STATEMENT of laws_FnParseTokens: yours. -/
noncomputable def laws_FnParseTokens.Pure : Prop := ∀ (a0 : ByteArray), a0.size ≤ maxLen → ∃ k, laws_FnParseTokens.f k a0 = some true

/-! ### utf8_word_string: function 27 -/
noncomputable def utf8_word_string.f (a0 : ByteArray) : Option (Int) := if 0 < (a0.size : Int) then (if 1 < (a0.size : Int) then (if 2 < (a0.size : Int) then (if 3 < (a0.size : Int) then (if 4 < (a0.size : Int) then (if 5 < (a0.size : Int) then (if 6 < (a0.size : Int) then (if 7 < (a0.size : Int) then (some (Go.bits .or .u64 (Go.bits .or .u64 (Go.bits .or .u64 (Go.bits .or .u64 (Go.bits .or .u64 (Go.bits .or .u64 (Go.bits .or .u64 (IntKind.u64.wrap (bt a0 0)) (IntKind.u64.wrap ((IntKind.u64.wrap (bt a0 1)) * 256))) (IntKind.u64.wrap ((IntKind.u64.wrap (bt a0 2)) * 65536))) (IntKind.u64.wrap ((IntKind.u64.wrap (bt a0 3)) * 16777216))) (IntKind.u64.wrap ((IntKind.u64.wrap (bt a0 4)) * 4294967296))) (IntKind.u64.wrap ((IntKind.u64.wrap (bt a0 5)) * 1099511627776))) (IntKind.u64.wrap ((IntKind.u64.wrap (bt a0 6)) * 281474976710656))) (IntKind.u64.wrap ((IntKind.u64.wrap (bt a0 7)) * 72057594037927936)))) else (none)) else (none)) else (none)) else (none)) else (none)) else (none)) else (none)) else (none)
set_option maxHeartbeats 8000000 in
set_option maxRecDepth 100000 in
theorem utf8_word_string.calls (a0 : ByteArray) (r : Int) (w : World) (h : utf8_word_string.f a0 = some r) :
    Calls Tryd.prog 27 #[.string a0] w fun e w' => e = .returned (.int .u64 r) ∧ Drawn0 w w' := by
  have H : (if 0 < (a0.size : Int) then (if 1 < (a0.size : Int) then (if 2 < (a0.size : Int) then (if 3 < (a0.size : Int) then (if 4 < (a0.size : Int) then (if 5 < (a0.size : Int) then (if 6 < (a0.size : Int) then (if 7 < (a0.size : Int) then (some (Go.bits .or .u64 (Go.bits .or .u64 (Go.bits .or .u64 (Go.bits .or .u64 (Go.bits .or .u64 (Go.bits .or .u64 (Go.bits .or .u64 (IntKind.u64.wrap (bt a0 0)) (IntKind.u64.wrap ((IntKind.u64.wrap (bt a0 1)) * 256))) (IntKind.u64.wrap ((IntKind.u64.wrap (bt a0 2)) * 65536))) (IntKind.u64.wrap ((IntKind.u64.wrap (bt a0 3)) * 16777216))) (IntKind.u64.wrap ((IntKind.u64.wrap (bt a0 4)) * 4294967296))) (IntKind.u64.wrap ((IntKind.u64.wrap (bt a0 5)) * 1099511627776))) (IntKind.u64.wrap ((IntKind.u64.wrap (bt a0 6)) * 281474976710656))) (IntKind.u64.wrap ((IntKind.u64.wrap (bt a0 7)) * 72057594037927936)))) else (none)) else (none)) else (none)) else (none)) else (none)) else (none)) else (none)) else (none)) = some r := h
  clear h
  by_cases c2 : 0 < (a0.size : Int)
  · rw [if_pos c2] at H
    have c2b0 : decide (0 < (a0.size : Int)) = true := decide_eq_true c2
    have c2b1 : decide (0 < a0.size) = true := decide_eq_true (by omega)
    clear c2
    by_cases c4 : 1 < (a0.size : Int)
    · rw [if_pos c4] at H
      have c4b0 : decide (1 < (a0.size : Int)) = true := decide_eq_true c4
      have c4b1 : decide (1 < a0.size) = true := decide_eq_true (by omega)
      clear c4
      by_cases c6 : 2 < (a0.size : Int)
      · rw [if_pos c6] at H
        have c6b0 : decide (2 < (a0.size : Int)) = true := decide_eq_true c6
        have c6b1 : decide (2 < a0.size) = true := decide_eq_true (by omega)
        clear c6
        by_cases c8 : 3 < (a0.size : Int)
        · rw [if_pos c8] at H
          have c8b0 : decide (3 < (a0.size : Int)) = true := decide_eq_true c8
          have c8b1 : decide (3 < a0.size) = true := decide_eq_true (by omega)
          clear c8
          by_cases c10 : 4 < (a0.size : Int)
          · rw [if_pos c10] at H
            have c10b0 : decide (4 < (a0.size : Int)) = true := decide_eq_true c10
            have c10b1 : decide (4 < a0.size) = true := decide_eq_true (by omega)
            clear c10
            by_cases c12 : 5 < (a0.size : Int)
            · rw [if_pos c12] at H
              have c12b0 : decide (5 < (a0.size : Int)) = true := decide_eq_true c12
              have c12b1 : decide (5 < a0.size) = true := decide_eq_true (by omega)
              clear c12
              by_cases c14 : 6 < (a0.size : Int)
              · rw [if_pos c14] at H
                have c14b0 : decide (6 < (a0.size : Int)) = true := decide_eq_true c14
                have c14b1 : decide (6 < a0.size) = true := decide_eq_true (by omega)
                clear c14
                by_cases c16 : 7 < (a0.size : Int)
                · rw [if_pos c16] at H
                  have c16b0 : decide (7 < (a0.size : Int)) = true := decide_eq_true c16
                  have c16b1 : decide (7 < a0.size) = true := decide_eq_true (by omega)
                  clear c16
                  obtain rfl := Option.some.inj H
                  have p3 : 0 ≤ (0 : Int) := (by omega)
                  have q3 : 0 < a0.size := (by have : (0 : Int) < (a0.size : Int) := of_decide_eq_true (by first | (with_reducible assumption) | assumption); omega)
                  have hx3 : ∀ h : 0 < a0.size, ((a0[0]'h).toNat : Int) = bt a0 0 := bt_at a0 0
                  clear p3
                  have qi3 : (0 < (a0.size : Int)) = True := eq_true (of_decide_eq_true (by first | (with_reducible assumption) | assumption))
                  replace q3 := eq_true q3
                  have p5 : 0 ≤ (1 : Int) := (by omega)
                  have q5 : 1 < a0.size := (by have : (1 : Int) < (a0.size : Int) := of_decide_eq_true (by first | (with_reducible assumption) | assumption); omega)
                  have hx5 : ∀ h : 1 < a0.size, ((a0[1]'h).toNat : Int) = bt a0 1 := bt_at a0 1
                  clear p5
                  have qi5 : (1 < (a0.size : Int)) = True := eq_true (of_decide_eq_true (by first | (with_reducible assumption) | assumption))
                  replace q5 := eq_true q5
                  have p7 : 0 ≤ (2 : Int) := (by omega)
                  have q7 : 2 < a0.size := (by have : (2 : Int) < (a0.size : Int) := of_decide_eq_true (by first | (with_reducible assumption) | assumption); omega)
                  have hx7 : ∀ h : 2 < a0.size, ((a0[2]'h).toNat : Int) = bt a0 2 := bt_at a0 2
                  clear p7
                  have qi7 : (2 < (a0.size : Int)) = True := eq_true (of_decide_eq_true (by first | (with_reducible assumption) | assumption))
                  replace q7 := eq_true q7
                  have p9 : 0 ≤ (3 : Int) := (by omega)
                  have q9 : 3 < a0.size := (by have : (3 : Int) < (a0.size : Int) := of_decide_eq_true (by first | (with_reducible assumption) | assumption); omega)
                  have hx9 : ∀ h : 3 < a0.size, ((a0[3]'h).toNat : Int) = bt a0 3 := bt_at a0 3
                  clear p9
                  have qi9 : (3 < (a0.size : Int)) = True := eq_true (of_decide_eq_true (by first | (with_reducible assumption) | assumption))
                  replace q9 := eq_true q9
                  have p11 : 0 ≤ (4 : Int) := (by omega)
                  have q11 : 4 < a0.size := (by have : (4 : Int) < (a0.size : Int) := of_decide_eq_true (by first | (with_reducible assumption) | assumption); omega)
                  have hx11 : ∀ h : 4 < a0.size, ((a0[4]'h).toNat : Int) = bt a0 4 := bt_at a0 4
                  clear p11
                  have qi11 : (4 < (a0.size : Int)) = True := eq_true (of_decide_eq_true (by first | (with_reducible assumption) | assumption))
                  replace q11 := eq_true q11
                  have p13 : 0 ≤ (5 : Int) := (by omega)
                  have q13 : 5 < a0.size := (by have : (5 : Int) < (a0.size : Int) := of_decide_eq_true (by first | (with_reducible assumption) | assumption); omega)
                  have hx13 : ∀ h : 5 < a0.size, ((a0[5]'h).toNat : Int) = bt a0 5 := bt_at a0 5
                  clear p13
                  have qi13 : (5 < (a0.size : Int)) = True := eq_true (of_decide_eq_true (by first | (with_reducible assumption) | assumption))
                  replace q13 := eq_true q13
                  have p15 : 0 ≤ (6 : Int) := (by omega)
                  have q15 : 6 < a0.size := (by have : (6 : Int) < (a0.size : Int) := of_decide_eq_true (by first | (with_reducible assumption) | assumption); omega)
                  have hx15 : ∀ h : 6 < a0.size, ((a0[6]'h).toNat : Int) = bt a0 6 := bt_at a0 6
                  clear p15
                  have qi15 : (6 < (a0.size : Int)) = True := eq_true (of_decide_eq_true (by first | (with_reducible assumption) | assumption))
                  replace q15 := eq_true q15
                  have p17 : 0 ≤ (7 : Int) := (by omega)
                  have q17 : 7 < a0.size := (by have : (7 : Int) < (a0.size : Int) := of_decide_eq_true (by first | (with_reducible assumption) | assumption); omega)
                  have hx17 : ∀ h : 7 < a0.size, ((a0[7]'h).toNat : Int) = bt a0 7 := bt_at a0 7
                  clear p17
                  have qi17 : (7 < (a0.size : Int)) = True := eq_true (of_decide_eq_true (by first | (with_reducible assumption) | assumption))
                  replace q17 := eq_true q17
                  go_enter Tryd.func27, Tryd.ntmps27
                  go_wp2
                  repeat (go_quiet (fail); try go_wp2)
                  go_ret
                  exact ⟨by first | rfl | (simp; done) | (simp [*]; done), by repeat (first | exact Drawn0.refl _ | apply Drawn0.step)⟩
                · rw [if_neg c16] at H
                  exact absurd H (by simp)
              · rw [if_neg c14] at H
                exact absurd H (by simp)
            · rw [if_neg c12] at H
              exact absurd H (by simp)
          · rw [if_neg c10] at H
            exact absurd H (by simp)
        · rw [if_neg c8] at H
          exact absurd H (by simp)
      · rw [if_neg c6] at H
        exact absurd H (by simp)
    · rw [if_neg c4] at H
      exact absurd H (by simp)
  · rw [if_neg c2] at H
    exact absurd H (by simp)

/-! ### utf8_ValidString: function 16 -/
-- a contract that was proved by hand
noncomputable def utf8_ValidString.f (a0 : ByteArray) : Option Bool := if a0.size ≤ 2147483647 then some (Lib.validD a0.data.toList) else none
theorem utf8_ValidString.calls (a0 : ByteArray) (r1 : Bool) (w : World) (hT_ : Go.Proofs.YtmjoebnphacadaaDoor.Lex.ETx w) (h : utf8_ValidString.f a0 = some r1) :
    Calls Tryd.prog 16 #[.string a0] w fun e w' => e = .returned (.bool r1) ∧ Below w.heap.size w w' := by
  unfold utf8_ValidString.f at h
  split at h
  · rename_i hs
    have hq := Option.some.inj h
    subst hq
    obtain ⟨ea, hT⟩ := hT_
    exact Tryd.utf8_ValidString a0 w (by omega) hT.t.1
  · exact nomatch h


end Go.Proofs.YtmjoebnphacadaaDoor.Q
