/- Joined by wip/tools/pack.py: what the claim uses of Qx25 Qx26 Read Lib Tk Snd Rl Ra Rb Bk Uq2 Uq3 Uq4 Norm Set Sb Eva Evb Evc Runes Clen Valid RuneList RunesCount Evd Eve Evf Cm0 Pl2 Evg Evh Evi Evj PureFnParse PayL. No conditions beyond each theorem's own. -/
import Derived.Test.YtmjoebnphacadaaGreatDoorP0
import Derived.Test.YtmjoebnphacadaaGreatDoorP3
import Derived.Test.YtmjoebnphacadaaGreatDoorP4
import Derived.Deep.Slices
import Derived.Deep.Fields
import Derived.ChangeSame
import Derived.Lib.SpaceUEq
import Derived.Lib.ValidLaws
import Derived.Lib.TrimUEq
import Derived.Lib.MapLaws
import Derived.Lib.SmallJoins
import Derived.Laws.Cover4
import Derived.Laws.IdiomStrings
import Derived.Stop.FmtQuoteTie
import Derived.Test.YtmjoebnphacadaaGreatDoorP1
import Derived.Lib.LaidU8
import Derived.PinnedBridge
-- printed by this project's own program wip/tools/mkprint.py (the kit's print.py with hand-proved contracts put in)
namespace Go.Proofs.YtmjoebnphacadaaGreatDoor.Q
open Go.RowKit Go.Proofs.YtmjoebnphacadaaGreatDoorW.PrintWords Go.Proofs.YtmjoebnphacadaaGreatDoorW.PrintLast Go.Proofs.YtmjoebnphacadaaGreatDoorW.PrintMore
attribute [local go_sem] max2_int min2_int max_two min_two max_three min_three max_four min_four   -- for this text's walks alone
set_option linter.unusedVariables false
set_option linter.unusedSimpArgs false
theorem eqA45 (d : Nat) (w : World) (x0 y0 : Int) (x1 y1 : ByteArray) (x2 y2 : ByteArray) :
    (Op.equalIn (d + 2) 45 (.agg #[.int .i64 x0, .string x1, .string x2]) (.agg #[.int .i64 y0, .string y1, .string y2])).run Tryz.prog w = .ok (x0 == y0 && (x1.toList == y1.toList && (x2.toList == y2.toList))) w := by
  refine eqA_of Tryz.underlying45 (by kernel_rfl) ?_
  refine eqf_cons (by rfl) (by go_simp; rfl) (by go_simp; rfl) (by go_simp) ?_
  refine eqf_cons (by rfl) (by go_simp; rfl) (by go_simp; rfl) (by go_simp) ?_
  exact eqf_last (by rfl) (by go_simp; rfl) (by go_simp; rfl) (by go_simp)
attribute [local go_sem high] eqA33 eqA45
/-! ### laws_eqRead: function 8 -/
noncomputable def laws_eqRead.l0 : Nat → List (S33) → List (S45) → Int → Int → Option (Bool)
  | 0, _, _, _, _ => none
  | k + 1, x0, x1, x12, x13 => if x13 < x12 then (if 0 ≤ x13 then (if x13 < (x0.length : Int) then (if x13 < (x1.length : Int) then (if (!(((rd_T33 x0 x13).f0) == ((rd_T45 x1 x13).f0)) || (!((((rd_T33 x0 x13).f1).toList) == (((rd_T45 x1 x13).f1).toList)) || (!((((rd_T33 x0 x13).f2).toList) == (((rd_T45 x1 x13).f2).toList))))) = true then (some false) else (laws_eqRead.l0 k x0 x1 x12 (wrap64 (x13 + 1)))) else (none)) else (none)) else (none)) else (some true)
noncomputable def laws_eqRead.f (k : Nat) (l0 : List (S33)) (l1 : List (S45)) : Option (Bool) := if (l0.length : Int) = (l1.length : Int) then (laws_eqRead.l0 k l0 l1 (l0.length : Int) 0) else (some false)
theorem laws_eqRead.mono_l : ∀ k, (∀ y0 y1 y2 y3, LeO (laws_eqRead.l0 k y0 y1 y2 y3) (laws_eqRead.l0 (k + 1) y0 y1 y2 y3))
  | 0 => fun _ _ _ _ r h => by simp [laws_eqRead.l0] at h
  | k + 1 => by
    have ih0 := laws_eqRead.mono_l k
    · intro y0 y1 y2 y3
      unfold laws_eqRead.l0
      repeat' first
      | (with_reducible exact ih0 _ _ _ _)
      | (with_reducible exact LeO.refl _)
      | (with_reducible exact LeO.none _)
      | (with_reducible refine LeO.ite ?_ ?_)
      | (with_reducible refine LeO.bind ?_ (fun _ => ?_))
      | exact ih0 _ _ _ _
      | exact LeO.none _
      | refine LeO.ite ?_ ?_
      | refine LeO.bind ?_ (fun _ => ?_)
theorem laws_eqRead.mono : ∀ a0 a1 k, LeO (laws_eqRead.f k a0 a1) (laws_eqRead.f (k + 1) a0 a1) := by
  intro a0 a1 k
  have ih0 := laws_eqRead.mono_l k
  unfold laws_eqRead.f
  repeat' first
      | (with_reducible exact ih0 _ _ _ _)
      | (with_reducible exact LeO.refl _)
      | (with_reducible exact LeO.none _)
      | (with_reducible refine LeO.ite ?_ ?_)
      | (with_reducible refine LeO.bind ?_ (fun _ => ?_))
      | exact ih0 _ _ _ _
      | exact LeO.none _
      | refine LeO.ite ?_ ?_
      | refine LeO.bind ?_ (fun _ => ?_)
set_option maxHeartbeats 8000000 in
set_option maxRecDepth 100000 in
theorem laws_eqRead.calls (k : Nat) (A0 : Option Addr) (c0 : Nat) (l0 : List (S33)) (A1 : Option Addr) (c1 : Nat) (l1 : List (S45)) (r : Bool) (w : World) (hr0 : Kd.C k33 w A0 l0.length l0) (hc0 : l0.length ≤ c0) (hr1 : Kd.C k45 w A1 l1.length l1) (hc1 : l1.length ≤ c1) (h : laws_eqRead.f k l0 l1 = some r) :
    Calls Tryz.prog 8 #[.slice A0 l0.length c0, .slice A1 l1.length c1] w fun e w' => e = .returned (.bool r) ∧ Drawn0 w w' := by
  have hu33 := Tryz.underlying33
  have hu45 := Tryz.underlying45
  have HR0 := Aside0.mk hr0
  have HC0 := Aside0.mk hc0
  clear hr0 hc0
  have HR1 := Aside0.mk hr1
  have HC1 := Aside0.mk hc1
  clear hr1 hc1
  have H : (if (l0.length : Int) = (l1.length : Int) then (laws_eqRead.l0 k l0 l1 (l0.length : Int) 0) else (some false)) = some r := h
  clear h
  by_cases c3 : (l0.length : Int) = (l1.length : Int)
  · rw [if_pos c3] at H
    have c3b0 : ((l0.length : Int) == (l1.length : Int)) = true := beq_iff_eq.mpr c3
    have c3b1 : ((l0.length : Int) != (l1.length : Int)) = false := bne_eq_false_iff_eq.mpr c3
    have c3b2 : (l0.length == l1.length) = true := by first | simpa using c3 | (simp at c3 ⊢; omega)
    clear c3
    have H' := Aside0.mk H
    clear H
    go_enter Tryz.func8, Tryz.ntmps8
    go_wp2
    repeat (go_quiet (fail); try go_wp2)
    go_loopg [13] k (fun kq v13 w' => ∃ (x13_1 : Int), v13 = .int .i64 x13_1 ∧ Aside0 (laws_eqRead.l0 kq l0 l1 (l0.length : Int) x13_1 = some r) ∧ Aside0 (kq ≤ k) ∧ Drawn0 w w')
    case atStart => exact ⟨(0), (by first | rfl | (simp; done) | (simp [*]; done)), H', ⟨Nat.le_refl _⟩, by repeat (first | exact Drawn0.refl _ | apply Drawn0.step)⟩
    case round =>
      clear H'
      try clear c1
      try clear p2
      try clear c3
      try clear c3b0
      try clear c3b1
      try clear c3b2
      obtain ⟨x13_1, rfl, HA, HK1, ⟨m1, rfl⟩⟩ := hrel
      cases gk with
      | zero => exact absurd HA.out (by simp [laws_eqRead.l0])
      | succ k1 =>
        have H := HA.out
        clear HA
        simp only [laws_eqRead.l0] at H
        by_cases c4 : x13_1 < (l0.length : Int)
        · rw [if_pos c4] at H
          have c4b0 : decide (x13_1 < (l0.length : Int)) = true := decide_eq_true c4
          clear c4
          by_cases c5 : 0 ≤ x13_1
          · rw [if_pos c5] at H
            have c5b0 : decide (0 ≤ x13_1) = true := decide_eq_true c5
            clear c5
            by_cases c6 : x13_1 < (l0.length : Int)
            · rw [if_pos c6] at H
              have c6b0 : decide (x13_1 < (l0.length : Int)) = true := decide_eq_true c6
              clear c6
              by_cases c7 : x13_1 < (l1.length : Int)
              · rw [if_pos c7] at H
                have c7b0 : decide (x13_1 < (l1.length : Int)) = true := decide_eq_true c7
                clear c7
                by_cases c8 : (!(((rd_T33 l0 x13_1).f0) == ((rd_T45 l1 x13_1).f0)) || (!((((rd_T33 l0 x13_1).f1).toList) == (((rd_T45 l1 x13_1).f1).toList)) || (!((((rd_T33 l0 x13_1).f2).toList) == (((rd_T45 l1 x13_1).f2).toList))))) = true
                · rw [if_pos c8] at H
                  have c8b0 : (!(((rd_T33 l0 x13_1).f0) == ((rd_T45 l1 x13_1).f0)) || (!((((rd_T33 l0 x13_1).f1).toList) == (((rd_T45 l1 x13_1).f1).toList)) || (!((((rd_T33 l0 x13_1).f2).toList) == (((rd_T45 l1 x13_1).f2).toList))))) = true := c8
                  clear c8
                  obtain rfl := Option.some.inj H
                  have p159 : 0 ≤ (x13_1 : Int) := of_decide_eq_true (by first | (with_reducible assumption) | assumption)
                  have q159 : x13_1 < (l0.length : Int) := of_decide_eq_true (by first | (with_reducible assumption) | assumption)
                  obtain ⟨ad159, e159, hx159_0, hx159_1, hx159_2⟩ := at_T33 HR0.out x13_1 p159 q159
                  cases e159
                  replace p159 := eq_true p159
                  replace q159 := eq_true q159
                  have p160 : 0 ≤ (x13_1 : Int) := of_decide_eq_true (by first | (with_reducible assumption) | assumption)
                  have q160 : x13_1 < (l1.length : Int) := of_decide_eq_true (by first | (with_reducible assumption) | assumption)
                  obtain ⟨ad160, e160, hx160_0, hx160_1, hx160_2⟩ := at_T45 HR1.out x13_1 p160 q160
                  cases e160
                  replace p160 := eq_true p160
                  replace q160 := eq_true q160
                  go_wp2
                  repeat (go_quiet (fail); try go_wp2)
                  go_ret
                  exact ⟨by first | rfl | (simp; done) | (simp [*]; done), by repeat (first | exact Drawn0.refl _ | apply Drawn0.step)⟩
                · rw [if_neg c8] at H
                  have c8b0 : (!(((rd_T33 l0 x13_1).f0) == ((rd_T45 l1 x13_1).f0)) || (!((((rd_T33 l0 x13_1).f1).toList) == (((rd_T45 l1 x13_1).f1).toList)) || (!((((rd_T33 l0 x13_1).f2).toList) == (((rd_T45 l1 x13_1).f2).toList))))) = false := by simpa using c8
                  clear c8
                  have H' := Aside0.mk H
                  clear H
                  have p159 : 0 ≤ (x13_1 : Int) := of_decide_eq_true (by first | (with_reducible assumption) | assumption)
                  have q159 : x13_1 < (l0.length : Int) := of_decide_eq_true (by first | (with_reducible assumption) | assumption)
                  obtain ⟨ad159, e159, hx159_0, hx159_1, hx159_2⟩ := at_T33 HR0.out x13_1 p159 q159
                  cases e159
                  replace p159 := eq_true p159
                  replace q159 := eq_true q159
                  have p160 : 0 ≤ (x13_1 : Int) := of_decide_eq_true (by first | (with_reducible assumption) | assumption)
                  have q160 : x13_1 < (l1.length : Int) := of_decide_eq_true (by first | (with_reducible assumption) | assumption)
                  obtain ⟨ad160, e160, hx160_0, hx160_1, hx160_2⟩ := at_T45 HR1.out x13_1 p160 q160
                  cases e160
                  replace p160 := eq_true p160
                  replace q160 := eq_true q160
                  go_wp2
                  repeat (go_quiet (fail); try go_wp2)
                  go_roundg k1
                  case measure => have := HK1.out; omega
                  case rel => exact ⟨(wrap64 (x13_1 + 1)), (by first | rfl | (simp; done) | (simp [*]; done)), H', ⟨by have := HK1.out; omega⟩, by repeat (first | exact Drawn0.refl _ | apply Drawn0.step)⟩
              · rw [if_neg c7] at H
                exact absurd H (by simp)
            · rw [if_neg c6] at H
              exact absurd H (by simp)
          · rw [if_neg c5] at H
            exact absurd H (by simp)
        · rw [if_neg c4] at H
          have c4b0 : decide (x13_1 < (l0.length : Int)) = false := decide_eq_false c4
          clear c4
          obtain rfl := Option.some.inj H
          go_wp2
          repeat (go_quiet (fail); try go_wp2)
          go_ret
          exact ⟨by first | rfl | (simp; done) | (simp [*]; done), by repeat (first | exact Drawn0.refl _ | apply Drawn0.step)⟩
  · rw [if_neg c3] at H
    have c3b0 : ((l0.length : Int) == (l1.length : Int)) = false := beq_eq_false_iff_ne.mpr c3
    have c3b1 : ((l0.length : Int) != (l1.length : Int)) = true := bne_iff_ne.mpr c3
    have c3b2 : (l0.length == l1.length) = false := by first | simpa using c3 | (simp at c3 ⊢; omega)
    obtain rfl := Option.some.inj H
    go_enter Tryz.func8, Tryz.ntmps8
    go_wp2
    repeat (go_quiet (fail); try go_wp2)
    go_ret
    exact ⟨by first | rfl | (simp; done) | (simp [*]; done), by repeat (first | exact Drawn0.refl _ | apply Drawn0.step)⟩
end Go.Proofs.YtmjoebnphacadaaGreatDoor.Q
-- printed by this project's own program wip/tools/mkprint.py (the kit's print.py with hand-proved contracts put in)
namespace Go.Proofs.YtmjoebnphacadaaGreatDoor.Q
open Go.RowKit Go.Proofs.YtmjoebnphacadaaGreatDoorW.PrintWords Go.Proofs.YtmjoebnphacadaaGreatDoorW.PrintLast Go.Proofs.YtmjoebnphacadaaGreatDoorW.PrintMore
attribute [local go_sem] max2_int min2_int max_two min_two max_three min_three max_four min_four   -- for this text's walks alone
set_option linter.unusedVariables false
set_option linter.unusedSimpArgs false
/-! ### laws_FnParse: function 3 -/
noncomputable def laws_FnParse.j0 : Nat → ByteArray → Bool → Option (Bool)
  | 0, _, _ => none
  | k + 1, x0, x18 => if x18 = true then (some true) else ((impl_ParseMatchers.f x0).bind fun bt163 => ((spec_ParseMatchers.f k x0).bind fun bt167 => (if bt167.2 = 1 then (if bt163.2 = true then ((laws_eqRead.f k bt163.1 bt167.1).bind fun t171 => (some t171)) else (some false)) else (if bt167.2 = 0 then (some (!bt163.2)) else (some true)))))
noncomputable def laws_FnParse.f (k : Nat) (a0 : ByteArray) : Option (Bool) := if (a0.size : Int) > 2147483647 then (some true) else ((laws_one.f).bind fun t161 => (if t161 = true then (if (a0.size : Int) > 20000 then (laws_FnParse.j0 k a0 true) else ((laws_has.f k a0 126).bind fun t162 => (laws_FnParse.j0 k a0 t162))) else (some false)))
theorem laws_FnParse.mono_l : ∀ k, (∀ y0 y1, LeO (laws_FnParse.j0 k y0 y1) (laws_FnParse.j0 (k + 1) y0 y1))
  | 0 => fun _ _ r h => by simp [laws_FnParse.j0] at h
  | k + 1 => by
    have ih0 := laws_FnParse.mono_l k
    · intro y0 y1
      unfold laws_FnParse.j0
      repeat' first
      | (with_reducible exact ih0 _ _)
      | (with_reducible exact laws_eqRead.mono _ _ _)
      | (with_reducible exact laws_has.mono _ _ _)
      | (with_reducible exact spec_ParseMatchers.mono _ _)
      | (with_reducible exact LeO.refl _)
      | (with_reducible exact LeO.none _)
      | (with_reducible refine LeO.ite ?_ ?_)
      | (with_reducible refine LeO.bind ?_ (fun _ => ?_))
      | exact ih0 _ _
      | exact laws_eqRead.mono _ _ _
      | exact laws_has.mono _ _ _
      | exact spec_ParseMatchers.mono _ _
      | exact LeO.none _
      | refine LeO.ite ?_ ?_
      | refine LeO.bind ?_ (fun _ => ?_)
theorem laws_FnParse.mono : ∀ a0 k, LeO (laws_FnParse.f k a0) (laws_FnParse.f (k + 1) a0) := by
  intro a0 k
  have ih0 := laws_FnParse.mono_l k
  unfold laws_FnParse.f
  repeat' first
      | (with_reducible exact ih0 _ _)
      | (with_reducible exact laws_eqRead.mono _ _ _)
      | (with_reducible exact laws_has.mono _ _ _)
      | (with_reducible exact spec_ParseMatchers.mono _ _)
      | (with_reducible exact LeO.refl _)
      | (with_reducible exact LeO.none _)
      | (with_reducible refine LeO.ite ?_ ?_)
      | (with_reducible refine LeO.bind ?_ (fun _ => ?_))
      | exact ih0 _ _
      | exact laws_eqRead.mono _ _ _
      | exact laws_has.mono _ _ _
      | exact spec_ParseMatchers.mono _ _
      | exact LeO.none _
      | refine LeO.ite ?_ ?_
      | refine LeO.bind ?_ (fun _ => ?_)
set_option maxHeartbeats 8000000 in
set_option maxRecDepth 100000 in
theorem laws_FnParse.calls (k : Nat) (a0 : ByteArray) (r : Bool) (w : World) (hT_ : Go.Proofs.YtmjoebnphacadaaGreatDoor.Lex.ETx w) (h : laws_FnParse.f k a0 = some r) :
    Calls Tryz.prog 3 #[.string a0] w fun e w' => e = .returned (.bool r) ∧ Below w.heap.size w w' := by
  have HTW_ := Aside0.mk hT_
  clear hT_
  have HB := Aside0.mk (Below.refl w.heap.size w)
  have H : (if (a0.size : Int) > 2147483647 then (some true) else ((laws_one.f).bind fun t161 => (if t161 = true then (if (a0.size : Int) > 20000 then (laws_FnParse.j0 k a0 true) else ((laws_has.f k a0 126).bind fun t162 => (laws_FnParse.j0 k a0 t162))) else (some false)))) = some r := h
  clear h
  by_cases c2 : (a0.size : Int) > 2147483647
  · rw [if_pos c2] at H
    have c2b0 : decide (2147483647 < (a0.size : Int)) = true := decide_eq_true c2
    have c2b1 : decide (2147483647 < a0.size) = true := decide_eq_true (by omega)
    clear c2
    obtain rfl := Option.some.inj H
    go_enter Tryz.func3, Tryz.ntmps3
    go_wp2
    go_ret
    exact ⟨by first | rfl | (simp [errW_none, errW_some] <;> rfl) | (simp [*, errW_none, errW_some] <;> rfl), by repeat (first | (with_reducible first | exact HB.out | apply below_alloc | apply pw_below_drewN | apply below_drew1) | exact HB.out)⟩
  · rw [if_neg c2] at H
    have c2b0 : decide (2147483647 < (a0.size : Int)) = false := decide_eq_false c2
    have c2b1 : decide (2147483647 < a0.size) = false := decide_eq_false (by omega)
    clear c2
    replace H := Option.bind_eq_some_iff.mp H
    obtain ⟨t161, A30, H⟩ := H
    replace H : (if t161 = true then (if (a0.size : Int) > 20000 then (laws_FnParse.j0 k a0 true) else ((laws_has.f k a0 126).bind fun t162 => (laws_FnParse.j0 k a0 t162))) else (some false)) = some r := H
    have A3 := Aside0.mk A30
    clear A30
    by_cases c4 : t161 = true
    · subst c4
      have H1 : (if (a0.size : Int) > 20000 then (laws_FnParse.j0 k a0 true) else ((laws_has.f k a0 126).bind fun t162 => (laws_FnParse.j0 k a0 t162))) = some r := by rw [if_pos rfl] at H; exact H
      clear H
      have H := H1
      clear H1
      have HC5 := Aside0.mk H
      clear H
      go_enter Tryz.func3, Tryz.ntmps3
      go_upto_region 5 with (first | ((with_reducible refine gate_callee (f := 4) rfl ?_); refine goesL_ (some 10) rfl rfl Tryz.func4 (by kernel_rfl) rfl #[] rfl (by (try simp only [List.map_toArray, List.map_cons, List.map_nil]); first | done | rfl | (simp only [List.length_drop, List.length_take]; rfl)) ?_; (with_reducible refine (laws_one.calls  true _ ?side1 A3.out).mono ?_); (case side1 => exact Go.Proofs.YtmjoebnphacadaaGreatDoor.Lex.ETx.below HTW_.out (by repeat (first | (with_reducible first | exact HB.out | apply below_alloc | apply pw_below_drewN | apply below_drew1) | exact HB.out))); rintro e w6 ⟨rfl, hb⟩; refine ⟨_, rfl, ?_⟩; have n0_ := Aside0.mk (below_step (by repeat (first | (with_reducible first | exact HB.out | apply below_alloc | apply pw_below_drewN | apply below_drew1) | exact HB.out)) hb); clear HB; have HB := n0_; clear n0_; (try clear hb); (try clear hb2); (try clear hk); (try clear hi)))
      (try simp only [Act.put, List.setIfInBounds_toArray, List.set_cons_zero, List.set_cons_succ])
      go_cut [18] (fun v18 wc => ∃ (kq : Nat) (x18_4 : Bool), v18 = .bool x18_4 ∧ Aside0 (laws_FnParse.j0 kq a0 x18_4 = some r) ∧ Aside0 (kq ≤ k) ∧ Aside0 (Below w.heap.size w wc))
      case first =>
        have H := HC5.out
        clear HC5
        by_cases c7 : (a0.size : Int) > 20000
        · rw [if_pos c7] at H
          have c7b0 : decide (20000 < (a0.size : Int)) = true := decide_eq_true c7
          have c7b1 : decide (20000 < a0.size) = true := decide_eq_true (by omega)
          clear c7
          (first | rw [c7b0] | (simp only [i64_w, i32_w]; rw [c7b0]) | skip)
          have H' := Aside0.mk H
          clear H
          go_wp2
          go_meet
          case rel => exact ⟨_, (true), (by first | rfl | (simp; done) | (simp [*]; done)), H', ⟨by first | omega | exact Nat.le_refl _⟩, ⟨by repeat (first | (with_reducible first | exact HB.out | apply below_alloc | apply pw_below_drewN | apply below_drew1) | exact HB.out)⟩⟩
        · rw [if_neg c7] at H
          have c7b0 : decide (20000 < (a0.size : Int)) = false := decide_eq_false c7
          have c7b1 : decide (20000 < a0.size) = false := decide_eq_false (by omega)
          clear c7
          (first | rw [c7b0] | (simp only [i64_w, i32_w]; rw [c7b0]) | skip)
          replace H := Option.bind_eq_some_iff.mp H
          obtain ⟨t162, A80, H⟩ := H
          replace H : (laws_FnParse.j0 k a0 t162) = some r := H
          have A8 := Aside0.mk A80
          clear A80
          have H' := Aside0.mk H
          clear H
          go_wp2_with (first | (go_at_call 5; (with_reducible refine (laws_has.calls k a0 126 t162 _ A8.out).mono ?_); rintro e w' ⟨rfl, ⟨nd, rfl⟩⟩))
          go_meet
          case rel => exact ⟨_, (t162), (by first | rfl | (simp; done) | (simp [*]; done)), H', ⟨by first | omega | exact Nat.le_refl _⟩, ⟨by repeat (first | (with_reducible first | exact HB.out | apply below_alloc | apply pw_below_drewN | apply below_drew1) | exact HB.out)⟩⟩
      case rest =>
        clear HC5
        try clear c2
        try clear c2b0
        try clear c2b1
        try clear p2
        try clear c3
        try clear c4
        try clear c7
        try clear c7b0
        try clear c7b1
        obtain ⟨kq, x18_4, rfl, HA, HJ4, HB⟩ := hcut
        cases kq with
        | zero => exact absurd HA.out (by simp [laws_FnParse.j0])
        | succ kj4 =>
          have H := HA.out
          clear HA
          simp only [laws_FnParse.j0] at H
          by_cases c9 : x18_4 = true
          · subst c9
            have H1 : (some true) = some r := by rw [if_pos rfl] at H; exact H
            clear H
            have H := H1
            clear H1
            obtain rfl := Option.some.inj H
            go_wp2
            go_ret
            exact ⟨by first | rfl | (simp [errW_none, errW_some] <;> rfl) | (simp [*, errW_none, errW_some] <;> rfl), by repeat (first | (with_reducible first | exact HB.out | apply below_alloc | apply pw_below_drewN | apply below_drew1) | exact HB.out)⟩
          · replace c9 := Bool.eq_false_iff.mpr c9
            subst c9
            have H1 : ((impl_ParseMatchers.f a0).bind fun bt163 => ((spec_ParseMatchers.f kj4 a0).bind fun bt167 => (if bt167.2 = 1 then (if bt163.2 = true then ((laws_eqRead.f kj4 bt163.1 bt167.1).bind fun t171 => (some t171)) else (some false)) else (if bt167.2 = 0 then (some (!bt163.2)) else (some true))))) = some r := by rw [if_neg (show ¬ (false = true) by decide)] at H; exact H
            clear H
            have H := H1
            clear H1
            replace H := Option.bind_eq_some_iff.mp H
            obtain ⟨⟨t163, t164⟩, A100, H⟩ := H
            replace H : ((spec_ParseMatchers.f kj4 a0).bind fun bt167 => (if bt167.2 = 1 then (if t164 = true then ((laws_eqRead.f kj4 t163 bt167.1).bind fun t171 => (some t171)) else (some false)) else (if bt167.2 = 0 then (some (!t164)) else (some true)))) = some r := H
            have A10 := Aside0.mk A100
            clear A100
            replace H := Option.bind_eq_some_iff.mp H
            obtain ⟨⟨t167, t168⟩, A110, H⟩ := H
            replace H : (if t168 = 1 then (if t164 = true then ((laws_eqRead.f kj4 t163 t167).bind fun t171 => (some t171)) else (some false)) else (if t168 = 0 then (some (!t164)) else (some true))) = some r := H
            have A11 := Aside0.mk A110
            clear A110
            by_cases c12 : t168 = 1
            · rw [if_pos c12] at H
              have c12b0 : (t168 == 1) = true := beq_iff_eq.mpr c12
              have c12b1 : (t168 != 1) = false := bne_eq_false_iff_eq.mpr c12
              clear c12
              by_cases c13 : t164 = true
              · subst c13
                have H1 : ((laws_eqRead.f kj4 t163 t167).bind fun t171 => (some t171)) = some r := by rw [if_pos rfl] at H; exact H
                clear H
                have H := H1
                clear H1
                replace H := Option.bind_eq_some_iff.mp H
                obtain ⟨t171, A140, H⟩ := H
                replace H : (some t171) = some r := H
                have A14 := Aside0.mk A140
                clear A140
                obtain rfl := Option.some.inj H
                go_wp2_with (first | ((with_reducible refine gate_callee (f := 6) rfl ?_); refine goesL_ (some 21) rfl rfl Tryz.func6 (by kernel_rfl) rfl #[.string a0] rfl (by (try simp only [List.map_toArray, List.map_cons, List.map_nil]); first | done | rfl | (simp only [List.length_drop, List.length_take]; rfl)) ?_; (with_reducible refine (impl_ParseMatchers.calls a0 t163 true _ ?side1 A10.out).mono ?_); (case side1 => exact Go.Proofs.YtmjoebnphacadaaGreatDoor.Lex.ETx.below HTW_.out (by repeat (first | (with_reducible first | exact HB.out | apply below_alloc | apply pw_below_drewN | apply below_drew1) | exact HB.out))); rintro e w15 ⟨v165, rfl, ho0, hb⟩; refine ⟨_, rfl, ?_⟩; have n0_ := Aside0.mk (Kd.R_lower ho0 (below_size (by repeat (first | (with_reducible first | exact HB.out | apply below_alloc | apply pw_below_drewN | apply below_drew1) | exact HB.out)))); have n1_ := Aside0.mk (below_step (by repeat (first | (with_reducible first | exact HB.out | apply below_alloc | apply pw_below_drewN | apply below_drew1) | exact HB.out)) hb); clear HB; have HO166 := n0_; have HB := n1_; clear n0_ n1_; (try clear hb); (try clear hb2); (try clear hk); (try clear hi); (try clear ho0)) | ((with_reducible refine gate_callee (f := 7) rfl ?_); refine goesL_ (some 26) rfl rfl Tryz.func7 (by kernel_rfl) rfl #[.string a0] rfl (by (try simp only [List.map_toArray, List.map_cons, List.map_nil]); first | done | rfl | (simp only [List.length_drop, List.length_take]; rfl)) ?_; (with_reducible refine (spec_ParseMatchers.calls kj4 a0 t167 t168 _ A11.out).mono ?_); rintro e w16 ⟨v169, rfl, ho0, hb⟩; refine ⟨_, rfl, ?_⟩; have n0_ := Aside0.mk (Kd.R_below (by (with_reducible repeat (first | apply Kd.R_alloc | apply Kd.R_drewN | apply Kd.R_drew)); exact HO166.out) hb); have n1_ := Aside0.mk (Kd.R_lower ho0 (below_size (by repeat (first | (with_reducible first | exact HB.out | apply below_alloc | apply pw_below_drewN | apply below_drew1) | exact HB.out)))); have n2_ := Aside0.mk (below_step (by repeat (first | (with_reducible first | exact HB.out | apply below_alloc | apply pw_below_drewN | apply below_drew1) | exact HB.out)) hb); clear HO166; clear HB; have HO166 := n0_; have HO170 := n1_; have HB := n2_; clear n0_ n1_ n2_; (try clear hb); (try clear hb2); (try clear hk); (try clear hi); (try clear ho0); obtain ⟨Ao17, co17, eo17⟩ := Kd.R_slice HO166.out; subst eo17; obtain ⟨Ao18, co18, eo18⟩ := Kd.R_slice HO170.out; subst eo18) | (go_at_call 8; (with_reducible refine (laws_eqRead.calls kj4 _ _ t163 _ _ t167 t171 _ ?side1 ?side2 ?side3 ?side4 A14.out).mono ?_); (case side1 => repeat (first | exact (Kd.R_reads' HO166.out).2.2 | (with_reducible refine Kd.C_alloc ?_ _) | (with_reducible refine Kd.C_drewN ?_ _) | (with_reducible refine Kd.C_drew ?_))); (case side2 => exact (Kd.R_reads' HO166.out).2.1); (case side3 => repeat (first | exact (Kd.R_reads' HO170.out).2.2 | (with_reducible refine Kd.C_alloc ?_ _) | (with_reducible refine Kd.C_drewN ?_ _) | (with_reducible refine Kd.C_drew ?_))); (case side4 => exact (Kd.R_reads' HO170.out).2.1); rintro e w' ⟨rfl, ⟨nd, rfl⟩⟩))
                go_ret
                exact ⟨by first | rfl | (simp [errW_none, errW_some] <;> rfl) | (simp [*, errW_none, errW_some] <;> rfl), by repeat (first | (with_reducible first | exact HB.out | apply below_alloc | apply pw_below_drewN | apply below_drew1) | exact HB.out)⟩
              · replace c13 := Bool.eq_false_iff.mpr c13
                subst c13
                have H1 : (some false) = some r := by rw [if_neg (show ¬ (false = true) by decide)] at H; exact H
                clear H
                have H := H1
                clear H1
                obtain rfl := Option.some.inj H
                go_wp2_with (first | ((with_reducible refine gate_callee (f := 6) rfl ?_); refine goesL_ (some 21) rfl rfl Tryz.func6 (by kernel_rfl) rfl #[.string a0] rfl (by (try simp only [List.map_toArray, List.map_cons, List.map_nil]); first | done | rfl | (simp only [List.length_drop, List.length_take]; rfl)) ?_; (with_reducible refine (impl_ParseMatchers.calls a0 t163 false _ ?side1 A10.out).mono ?_); (case side1 => exact Go.Proofs.YtmjoebnphacadaaGreatDoor.Lex.ETx.below HTW_.out (by repeat (first | (with_reducible first | exact HB.out | apply below_alloc | apply pw_below_drewN | apply below_drew1) | exact HB.out))); rintro e w19 ⟨v165, rfl, ho0, hb⟩; refine ⟨_, rfl, ?_⟩; have n0_ := Aside0.mk (Kd.R_lower ho0 (below_size (by repeat (first | (with_reducible first | exact HB.out | apply below_alloc | apply pw_below_drewN | apply below_drew1) | exact HB.out)))); have n1_ := Aside0.mk (below_step (by repeat (first | (with_reducible first | exact HB.out | apply below_alloc | apply pw_below_drewN | apply below_drew1) | exact HB.out)) hb); clear HB; have HO166 := n0_; have HB := n1_; clear n0_ n1_; (try clear hb); (try clear hb2); (try clear hk); (try clear hi); (try clear ho0)) | ((with_reducible refine gate_callee (f := 7) rfl ?_); refine goesL_ (some 26) rfl rfl Tryz.func7 (by kernel_rfl) rfl #[.string a0] rfl (by (try simp only [List.map_toArray, List.map_cons, List.map_nil]); first | done | rfl | (simp only [List.length_drop, List.length_take]; rfl)) ?_; (with_reducible refine (spec_ParseMatchers.calls kj4 a0 t167 t168 _ A11.out).mono ?_); rintro e w20 ⟨v169, rfl, ho0, hb⟩; refine ⟨_, rfl, ?_⟩; have n0_ := Aside0.mk (Kd.R_below (by (with_reducible repeat (first | apply Kd.R_alloc | apply Kd.R_drewN | apply Kd.R_drew)); exact HO166.out) hb); have n1_ := Aside0.mk (Kd.R_lower ho0 (below_size (by repeat (first | (with_reducible first | exact HB.out | apply below_alloc | apply pw_below_drewN | apply below_drew1) | exact HB.out)))); have n2_ := Aside0.mk (below_step (by repeat (first | (with_reducible first | exact HB.out | apply below_alloc | apply pw_below_drewN | apply below_drew1) | exact HB.out)) hb); clear HO166; clear HB; have HO166 := n0_; have HO170 := n1_; have HB := n2_; clear n0_ n1_ n2_; (try clear hb); (try clear hb2); (try clear hk); (try clear hi); (try clear ho0)))
                go_ret
                exact ⟨by first | rfl | (simp [errW_none, errW_some] <;> rfl) | (simp [*, errW_none, errW_some] <;> rfl), by repeat (first | (with_reducible first | exact HB.out | apply below_alloc | apply pw_below_drewN | apply below_drew1) | exact HB.out)⟩
            · rw [if_neg c12] at H
              have c12b0 : (t168 == 1) = false := beq_eq_false_iff_ne.mpr c12
              have c12b1 : (t168 != 1) = true := bne_iff_ne.mpr c12
              by_cases c21 : t168 = 0
              · rw [if_pos c21] at H
                have c21b0 : (t168 == 0) = true := beq_iff_eq.mpr c21
                have c21b1 : (t168 != 0) = false := bne_eq_false_iff_eq.mpr c21
                clear c21
                obtain rfl := Option.some.inj H
                go_wp2_with (first | ((with_reducible refine gate_callee (f := 6) rfl ?_); refine goesL_ (some 21) rfl rfl Tryz.func6 (by kernel_rfl) rfl #[.string a0] rfl (by (try simp only [List.map_toArray, List.map_cons, List.map_nil]); first | done | rfl | (simp only [List.length_drop, List.length_take]; rfl)) ?_; (with_reducible refine (impl_ParseMatchers.calls a0 t163 t164 _ ?side1 A10.out).mono ?_); (case side1 => exact Go.Proofs.YtmjoebnphacadaaGreatDoor.Lex.ETx.below HTW_.out (by repeat (first | (with_reducible first | exact HB.out | apply below_alloc | apply pw_below_drewN | apply below_drew1) | exact HB.out))); rintro e w22 ⟨v165, rfl, ho0, hb⟩; refine ⟨_, rfl, ?_⟩; have n0_ := Aside0.mk (Kd.R_lower ho0 (below_size (by repeat (first | (with_reducible first | exact HB.out | apply below_alloc | apply pw_below_drewN | apply below_drew1) | exact HB.out)))); have n1_ := Aside0.mk (below_step (by repeat (first | (with_reducible first | exact HB.out | apply below_alloc | apply pw_below_drewN | apply below_drew1) | exact HB.out)) hb); clear HB; have HO166 := n0_; have HB := n1_; clear n0_ n1_; (try clear hb); (try clear hb2); (try clear hk); (try clear hi); (try clear ho0)) | ((with_reducible refine gate_callee (f := 7) rfl ?_); refine goesL_ (some 26) rfl rfl Tryz.func7 (by kernel_rfl) rfl #[.string a0] rfl (by (try simp only [List.map_toArray, List.map_cons, List.map_nil]); first | done | rfl | (simp only [List.length_drop, List.length_take]; rfl)) ?_; (with_reducible refine (spec_ParseMatchers.calls kj4 a0 t167 t168 _ A11.out).mono ?_); rintro e w23 ⟨v169, rfl, ho0, hb⟩; refine ⟨_, rfl, ?_⟩; have n0_ := Aside0.mk (Kd.R_below (by (with_reducible repeat (first | apply Kd.R_alloc | apply Kd.R_drewN | apply Kd.R_drew)); exact HO166.out) hb); have n1_ := Aside0.mk (Kd.R_lower ho0 (below_size (by repeat (first | (with_reducible first | exact HB.out | apply below_alloc | apply pw_below_drewN | apply below_drew1) | exact HB.out)))); have n2_ := Aside0.mk (below_step (by repeat (first | (with_reducible first | exact HB.out | apply below_alloc | apply pw_below_drewN | apply below_drew1) | exact HB.out)) hb); clear HO166; clear HB; have HO166 := n0_; have HO170 := n1_; have HB := n2_; clear n0_ n1_ n2_; (try clear hb); (try clear hb2); (try clear hk); (try clear hi); (try clear ho0)))
                go_ret
                exact ⟨by first | rfl | (simp [errW_none, errW_some] <;> rfl) | (simp [*, errW_none, errW_some] <;> rfl), by repeat (first | (with_reducible first | exact HB.out | apply below_alloc | apply pw_below_drewN | apply below_drew1) | exact HB.out)⟩
              · rw [if_neg c21] at H
                have c21b0 : (t168 == 0) = false := beq_eq_false_iff_ne.mpr c21
                have c21b1 : (t168 != 0) = true := bne_iff_ne.mpr c21
                obtain rfl := Option.some.inj H
                go_wp2_with (first | ((with_reducible refine gate_callee (f := 6) rfl ?_); refine goesL_ (some 21) rfl rfl Tryz.func6 (by kernel_rfl) rfl #[.string a0] rfl (by (try simp only [List.map_toArray, List.map_cons, List.map_nil]); first | done | rfl | (simp only [List.length_drop, List.length_take]; rfl)) ?_; (with_reducible refine (impl_ParseMatchers.calls a0 t163 t164 _ ?side1 A10.out).mono ?_); (case side1 => exact Go.Proofs.YtmjoebnphacadaaGreatDoor.Lex.ETx.below HTW_.out (by repeat (first | (with_reducible first | exact HB.out | apply below_alloc | apply pw_below_drewN | apply below_drew1) | exact HB.out))); rintro e w24 ⟨v165, rfl, ho0, hb⟩; refine ⟨_, rfl, ?_⟩; have n0_ := Aside0.mk (Kd.R_lower ho0 (below_size (by repeat (first | (with_reducible first | exact HB.out | apply below_alloc | apply pw_below_drewN | apply below_drew1) | exact HB.out)))); have n1_ := Aside0.mk (below_step (by repeat (first | (with_reducible first | exact HB.out | apply below_alloc | apply pw_below_drewN | apply below_drew1) | exact HB.out)) hb); clear HB; have HO166 := n0_; have HB := n1_; clear n0_ n1_; (try clear hb); (try clear hb2); (try clear hk); (try clear hi); (try clear ho0)) | ((with_reducible refine gate_callee (f := 7) rfl ?_); refine goesL_ (some 26) rfl rfl Tryz.func7 (by kernel_rfl) rfl #[.string a0] rfl (by (try simp only [List.map_toArray, List.map_cons, List.map_nil]); first | done | rfl | (simp only [List.length_drop, List.length_take]; rfl)) ?_; (with_reducible refine (spec_ParseMatchers.calls kj4 a0 t167 t168 _ A11.out).mono ?_); rintro e w25 ⟨v169, rfl, ho0, hb⟩; refine ⟨_, rfl, ?_⟩; have n0_ := Aside0.mk (Kd.R_below (by (with_reducible repeat (first | apply Kd.R_alloc | apply Kd.R_drewN | apply Kd.R_drew)); exact HO166.out) hb); have n1_ := Aside0.mk (Kd.R_lower ho0 (below_size (by repeat (first | (with_reducible first | exact HB.out | apply below_alloc | apply pw_below_drewN | apply below_drew1) | exact HB.out)))); have n2_ := Aside0.mk (below_step (by repeat (first | (with_reducible first | exact HB.out | apply below_alloc | apply pw_below_drewN | apply below_drew1) | exact HB.out)) hb); clear HO166; clear HB; have HO166 := n0_; have HO170 := n1_; have HB := n2_; clear n0_ n1_ n2_; (try clear hb); (try clear hb2); (try clear hk); (try clear hi); (try clear ho0)))
                go_ret
                exact ⟨by first | rfl | (simp [errW_none, errW_some] <;> rfl) | (simp [*, errW_none, errW_some] <;> rfl), by repeat (first | (with_reducible first | exact HB.out | apply below_alloc | apply pw_below_drewN | apply below_drew1) | exact HB.out)⟩
    · replace c4 := Bool.eq_false_iff.mpr c4
      subst c4
      have H1 : (some false) = some r := by rw [if_neg (show ¬ (false = true) by decide)] at H; exact H
      clear H
      have H := H1
      clear H1
      obtain rfl := Option.some.inj H
      go_enter Tryz.func3, Tryz.ntmps3
      go_wp2_with (first | ((with_reducible refine gate_callee (f := 4) rfl ?_); refine goesL_ (some 10) rfl rfl Tryz.func4 (by kernel_rfl) rfl #[] rfl (by (try simp only [List.map_toArray, List.map_cons, List.map_nil]); first | done | rfl | (simp only [List.length_drop, List.length_take]; rfl)) ?_; (with_reducible refine (laws_one.calls  false _ ?side1 A3.out).mono ?_); (case side1 => exact Go.Proofs.YtmjoebnphacadaaGreatDoor.Lex.ETx.below HTW_.out (by repeat (first | (with_reducible first | exact HB.out | apply below_alloc | apply pw_below_drewN | apply below_drew1) | exact HB.out))); rintro e w26 ⟨rfl, hb⟩; refine ⟨_, rfl, ?_⟩; have n0_ := Aside0.mk (below_step (by repeat (first | (with_reducible first | exact HB.out | apply below_alloc | apply pw_below_drewN | apply below_drew1) | exact HB.out)) hb); clear HB; have HB := n0_; clear n0_; (try clear hb); (try clear hb2); (try clear hk); (try clear hi)))
      go_ret
      exact ⟨by first | rfl | (simp [errW_none, errW_some] <;> rfl) | (simp [*, errW_none, errW_some] <;> rfl), by repeat (first | (with_reducible first | exact HB.out | apply below_alloc | apply pw_below_drewN | apply below_drew1) | exact HB.out)⟩
/-- THE ONE PURE STATEMENT of laws_FnParse: yours. -/
noncomputable def laws_FnParse.Pure : Prop := ∀ (a0 : ByteArray), a0.size ≤ maxLen → ∃ k, laws_FnParse.f k a0 = some true
end Go.Proofs.YtmjoebnphacadaaGreatDoor.Q
/- What came in, read kind by kind: whatever can be read as data of a type is a value of its kind, within the bounds of the model. -/
set_option linter.unusedVariables false
set_option linter.unusedSimpArgs false
namespace Go.Proofs.YtmjoebnphacadaaGreatDoor.Read
open Go.ChangeShapes Go.WideShapes Go.Deep Go.RowKit Go.Proofs.YtmjoebnphacadaaGreatDoorW.PrintWords
/-- Whatever is read as data of type t is of kind k, and fulfills Q. -/
def Rd {α : Type} (P : Program) (t : TypeId) (k : Kd α) (Q : α → Prop) : Prop :=
  ∀ (H : Type) (enc : TypeId × Value → H) (w : World) (base : Nat) (sp : Nat → Bool) (held : Bool) (fuel : Nat) (cs : List Value) (x : DataW H × List MemPlace),
    DataW.trod enc P w base sp held fuel t cs = some x → ∃ a, k.K w a cs ∧ Q a
theorem Rd.int {P : Program} {t : TypeId} {q : IntKind} (ht : P.underlying t = some (.int q)) : Rd P t (Kd.int q) (fun n => (Lit.int q n).wf = true) := by
  intro H enc w base sp held fuel cs x h
  obtain ⟨n, rfl, _, hw⟩ := DataW.trod_int ht h
  exact ⟨n, rfl, hw⟩
theorem Rd.bool {P : Program} {t : TypeId} (ht : P.underlying t = some .bool) : Rd P t Kd.bool (fun _ => True) := by
  intro H enc w base sp held fuel cs x h
  obtain ⟨n, rfl, _⟩ := DataW.trod_bool ht h
  exact ⟨n, rfl, trivial⟩
theorem Rd.string {P : Program} {t : TypeId} (ht : P.underlying t = some .string) : Rd P t Kd.string (fun s => s.size ≤ maxLen) := by
  intro H enc w base sp held fuel cs x h
  obtain ⟨n, rfl, _, hw⟩ := DataW.trod_string ht h
  exact ⟨n, rfl, hw⟩
theorem Rd.iso {α β : Type} {P : Program} {t : TypeId} {k : Kd α} {Q : α → Prop} (h : Rd P t k Q) (f : β → α) (g : α → β) (hfg : ∀ a, f (g a) = a) : Rd P t (Kd.iso k f) (fun b => Q (f b)) := by
  intro H enc w base sp held fuel cs x hx
  obtain ⟨a, hk, hq⟩ := h H enc w base sp held fuel cs x hx
  refine ⟨g a, ?_, ?_⟩
  · show k.K w (f (g a)) cs
    rw [hfg]
    exact hk
  · show Q (f (g a))
    rw [hfg]
    exact hq
/-- The fields of a struct from the i-th on, in the cells from off on. -/
def RdFrom {α : Type} (P : Program) (fs : Array Field) (i off : Nat) (k : Kd α) (Q : α → Prop) : Prop :=
  ∀ (H : Type) (enc : TypeId × Value → H) (w : World) (base : Nat) (sp : Nat → Bool) (held : Bool) (n : Nat) (cs : List Value) (xs : List (DataW H × List MemPlace)),
    (∀ (j : Nat) (f : Field), fs[j]? = some f → DataW.trod enc P w base sp held n f.type ((cs.drop f.offset).take (P.cellsOf f.type)) = xs[j]?) → xs.length = fs.size → cs.length = off + k.sz →
    ∃ a, k.K w a (cs.drop off) ∧ Q a
theorem RdFrom.cons {α β : Type} {P : Program} {fs : Array Field} {i off : Nat} {k : Kd α} {Q : α → Prop} {k2 : Kd β} {Q2 : β → Prop} (f : Field) (hf : fs[i]? = some f) (ho : f.offset = off) (hc : P.cellsOf f.type = k.sz) (h : Rd P f.type k Q)
    (h2 : RdFrom P fs (i + 1) (off + k.sz) k2 Q2) : RdFrom P fs i off (Kd.pair k k2) (fun x => Q x.1 ∧ Q2 x.2) := by
  intro H enc w base sp held n cs xs hx hl hcs
  have hsz : (Kd.pair k k2).sz = k.sz + k2.sz := rfl
  have h1 := hx i f hf
  have hi : i < xs.length := by rw [hl]; exact (Array.getElem?_eq_some_iff.1 hf).1
  rw [List.getElem?_eq_getElem hi] at h1
  obtain ⟨a, hk, hq⟩ := h _ _ _ _ _ _ _ _ _ h1
  obtain ⟨b, hk2, hq2⟩ := h2 H enc w base sp held n cs xs hx hl (by omega)
  refine ⟨(a, b), ⟨_, _, ?_, hk, hk2⟩, hq, hq2⟩
  rw [ho, hc]
  conv => lhs; rw [← List.take_append_drop k.sz (cs.drop off)]
  rw [List.drop_drop]
theorem Rd.struct {α : Type} {P : Program} {t : TypeId} {fs : Array Field} {k : Kd α} {Q : α → Prop} (ht : P.underlying t = some (.struct fs)) (hc : P.cellsOf t = k.sz) (h : RdFrom P fs 0 0 k Q) : Rd P t k Q := by
  intro H enc w base sp held fuel cs x hx
  obtain ⟨xs, n, _, _, hlen, hl, hf⟩ := DataW.trod_struct ht hx
  obtain ⟨a, hk, hq⟩ := h H enc w base sp held n cs xs hf hl (by rw [hlen, hc]; omega)
  exact ⟨a, by simpa using hk, hq⟩
theorem list_of {α : Type} {P : Nat → α → Prop} : ∀ n : Nat, (∀ i, i < n → ∃ a, P i a) → ∃ l : List α, l.length = n ∧ ∀ (i : Nat) (a : α), l[i]? = some a → P i a
  | 0, _ => ⟨[], rfl, fun i a h => by simp at h⟩
  | n + 1, h => by
    obtain ⟨l, hl, hp⟩ := list_of n (fun i hi => h i (by omega))
    obtain ⟨a, ha⟩ := h n (by omega)
    refine ⟨l ++ [a], by simp [hl], fun i b hb => ?_⟩
    rcases Nat.lt_or_ge i l.length with hi | hi
    · rw [List.getElem?_append_left hi] at hb
      exact hp i b hb
    · rw [List.getElem?_append_right hi] at hb
      have : i - l.length = 0 := by
        have := (List.getElem?_eq_some_iff.1 hb).1
        simp at this
        omega
      rw [this] at hb
      simp at hb
      subst hb
      have : i = n := by omega
      rw [this]
      exact ha
theorem Rd.slice {α : Type} {P : Program} {t e : TypeId} {k : Kd α} {Q : α → Prop} (ht : P.underlying t = some (.slice e)) (hc : P.cellsOf e = k.sz) (h : Rd P e k Q) : Rd P t (Kd.slice e k) (fun l => l.length ≤ maxLen ∧ ∀ x ∈ l, Q x) := by
  intro H enc w base sp held fuel cs x hx
  rcases open_slice ht hx with ⟨rfl, _⟩ | ⟨a, len, cap, m, n, D, Pl, rfl, hb, hl, hm, hmm, _, hi⟩
  · exact ⟨[], ⟨none, 0, rfl, Nat.le_refl _, rfl, by simp, fun h => absurd h (by simp)⟩, by simp [maxLen], fun x hx => by simp at hx⟩
  · have hle : len ≤ m := by rw [hmm]; split <;> omega
    have hel : ∀ i, i < len → ∃ y : α, Q y ∧ ∃ c, c.length = k.sz ∧ k.K w y c ∧ ∀ j u, c[j]? = some u → w.cell? (a.add (i * k.sz + j)) = some u := by
      intro i hil
      obtain ⟨c, hcell, htr⟩ := hi i (by omega)
      rw [hc] at hcell
      obtain ⟨y, hy, hq⟩ := h _ _ _ _ _ _ _ _ _ htr
      obtain ⟨_, hcl, hat⟩ := World.cells?_some hcell
      refine ⟨y, hq, c, hcl, hy, fun j u hj => ?_⟩
      have hjl : j < k.sz := by rw [← hcl]; exact (List.getElem?_eq_some_iff.1 hj).1
      have := hat j hjl
      rw [hj, Go.Deep.add_add] at this
      exact this
    obtain ⟨l, hll, hp⟩ := list_of len hel
    subst hll
    refine ⟨l, ⟨some a, cap, rfl, hl, rfl, ?_, fun _ => ⟨a, rfl, fun j p hj => ?_⟩⟩, by omega, fun x hx => ?_⟩
    · have := hm
      unfold maxLen at this
      omega
    · obtain ⟨_, c, h1, h2, h3⟩ := hp j p hj
      exact ⟨c, h1, h2, h3⟩
    · obtain ⟨i, hi⟩ := List.getElem?_of_mem hx
      exact (hp i x hi).1
end Go.Proofs.YtmjoebnphacadaaGreatDoor.Read
/- Plain lemmas that this seat's laws share: bounds of whole numbers, rounds, the order of bytes. -/
set_option linter.unusedVariables false
set_option linter.unusedSimpArgs false
namespace Go.Proofs.YtmjoebnphacadaaGreatDoor.Pure
open Go.RowKit Go.Proofs.YtmjoebnphacadaaGreatDoorW.PrintWords Go.Proofs.YtmjoebnphacadaaGreatDoorW.PrintLast
theorem ev_succ {α : Type} {g : Nat → Option α} {r : α} (h : ∀ k, g (k + 1) = some r) : Ev g r := Ev.step h (Ev.now r)
theorem ev_ite_pos {α : Type} {c : Prop} [Decidable c] {g f : Nat → Option α} {r : α} (hc : c) (h : Ev g r) : Ev (fun k => if c then g k else f k) r := Ev.congr (fun k => if_pos hc) h
theorem ev_ite_neg {α : Type} {c : Prop} [Decidable c] {g f : Nat → Option α} {r : α} (hc : ¬ c) (h : Ev f r) : Ev (fun k => if c then g k else f k) r := Ev.congr (fun k => if_neg hc) h
theorem ev_bind_some {α β : Type} {a : α} {f : Nat → α → Option β} {r : β} (h : Ev (fun k => f k a) r) : Ev (fun k => (some a).bind (f k)) r := h
/-- A loop that counts up to n. -/
theorem ev_up {β : Type} {L : Nat → Nat → Option β} (r : Nat → β) (n : Nat) (hend : Ev (fun k => L k n) (r n)) (hstep : ∀ i, i < n → Ev (fun k => L k (i + 1)) (r (i + 1)) → Ev (fun k => L k i) (r i)) :
    ∀ d i, i + d = n → Ev (fun k => L k i) (r i)
  | 0, i, h => by
    obtain rfl : i = n := by omega
    exact hend
  | d + 1, i, h => hstep i (by omega) (ev_up r n hend hstep d (i + 1) (by omega))
end Go.Proofs.YtmjoebnphacadaaGreatDoor.Pure
/- impl.Tokens and the stream; laws.one, laws.has evaluated. -/
namespace Go.Proofs.YtmjoebnphacadaaGreatDoor.Lex
open Go.RowKit Go.Lib Go.Proofs.YtmjoebnphacadaaGreatDoor.Pure Go.Proofs.YtmjoebnphacadaaGreatDoor.Q Go.Proofs.YtmjoebnphacadaaGreatDoorW.PrintWords Go.Proofs.YtmjoebnphacadaaGreatDoorW.PrintLast
set_option linter.unusedVariables false
set_option linter.unusedSimpArgs false
theorem one_parse : parseL ⟨#[123, 97, 61, 34, 98, 34, 125]⟩ = some [⟨0, ⟨#[97]⟩, ⟨#[98]⟩⟩] := by kernel_rfl
theorem one_ev : laws_one.f = some true := by
  have h : impl_ParseMatchers.f (⟨#[123, 97, 61, 34, 98, 34, 125]⟩ : ByteArray) = some ([⟨0, ⟨#[97]⟩, ⟨#[98]⟩⟩], true) := by
    unfold impl_ParseMatchers.f pmF
    rw [one_parse, if_pos (by decide)]
    rfl
  unfold laws_one.f
  rw [h, Option.bind_some, if_pos rfl, if_pos (by decide), if_pos (by decide), Go.Lib.toList_data, Go.Lib.toList_data]
  decide
theorem runT_end {e : Bool} {f : Nat} : ∀ {q : PS} {has : Bool} {ts : List Tk} {l m : List SMt}, runT e f q has ts l = some m → e = true := by
  induction f with
  | zero => intro q has ts l m h; exact nomatch h
  | succ f ih =>
    intro q has ts l m h
    unfold runT at h
    cases hst : stT q has l ts e with
    | fail => rw [hst] at h; exact nomatch h
    | next q2 has2 ts2 l2 => rw [hst] at h; exact ih h
    | done l2 =>
      cases q <;> unfold stT at hst <;> dsimp only at hst
      case opn =>
        split at hst
        · split at hst <;> (simp at hst; done)
        · unfold opnT2 at hst
          repeat' split at hst
          all_goals (simp at hst; done)
      case mat =>
        repeat' split at hst
        all_goals (simp at hst; done)
      case eof =>
        split at hst
        · split at hst
          · assumption
          · exact nomatch hst
        · exact nomatch hst
      all_goals
        repeat' split at hst
        all_goals (simp at hst; done)
theorem bt_natP {s : ByteArray} {i : Nat} (h : i < s.size) : bt s (i : Int) = ((s[i]'h).toNat : Int) := by simp [bt, h]
/-- Does a text have a byte? -/
def hasC (s : ByteArray) (c : Int) : Bool := s.data.toList.any fun b => decide ((b.toNat : Int) = c)
theorem has_ev (s : ByteArray) (c : Int) (hs : s.size ≤ 2147483647) : Ev (fun k => laws_has.f k s c) (hasC s c) := by
  have g := ev_up (L := fun k i => laws_has.l0 k s c (i : Int)) (fun i => (s.data.toList.drop i).any fun b => decide ((b.toNat : Int) = c)) s.size (ev_succ (fun k => by
      simp only [laws_has.l0]
      rw [if_neg (by omega), List.drop_of_length_le (by simp)]
      rfl)) (fun i hi g => by
    refine Ev.step (f := fun k => if bt s (i : Int) = c then some true else laws_has.l0 k s c (wrap64 ((i : Int) + 1))) (fun k => ?_) ?_
    · simp only [laws_has.l0]
      rw [if_pos (by omega), if_pos (by omega)]
    have hl : i < s.data.toList.length := by simpa using hi
    have eb : bt s (i : Int) = ((s.data.toList[i]'hl).toNat : Int) := by rw [bt_natP hi]; rfl
    have ew : wrap64 ((i : Int) + 1) = ((i + 1 : Nat) : Int) := by simp [wrap64]; omega
    rw [eb, List.drop_eq_getElem_cons hl, List.any_cons, ew]
    by_cases hc : ((s.data.toList[i]'hl).toNat : Int) = c
    · simp only [hc, if_true, decide_true, Bool.true_or]
      exact Ev.now true
    · simp only [hc, if_false, decide_false, Bool.false_or]
      exact g) s.size 0 (by omega)
  exact g
end Go.Proofs.YtmjoebnphacadaaGreatDoor.Lex
/- What a token's text is: valid, where the text is; the kinds of operators. -/
namespace Go.Proofs.YtmjoebnphacadaaGreatDoor.Lex
open Go.RowKit Go.Lib Go.Proofs.YtmjoebnphacadaaGreatDoor.Pure Go.Proofs.YtmjoebnphacadaaGreatDoor.Q Go.Proofs.YtmjoebnphacadaaGreatDoorW.PrintWords Go.Proofs.YtmjoebnphacadaaGreatDoorW.PrintLast
set_option linter.unusedVariables false
set_option linter.unusedSimpArgs false
/-- Is a text UTF-8 from a place on? -/
def VD (s : ByteArray) (p : Nat) : Bool := Lib.validD (s.extract p s.size).data.toList
theorem ext_list (s : ByteArray) (p : Nat) : (s.extract p s.size).data.toList = s.data.toList.drop p := by
  rw [Lib.extract_data, List.take_of_length_le]
  rw [List.length_drop, Array.length_toList]
  exact Nat.le_refl _
theorem vd_end {s : ByteArray} {p : Nat} (h : s.size ≤ p) : VD s p = true := by
  unfold VD
  rw [ext_list, List.drop_eq_nil_of_le (by rw [Array.length_toList]; exact h)]
  rfl
theorem vd_step {s : ByteArray} {p : Nat} (hp : p < s.size) : VD s p = if rn s p = 65533 ∧ wdt s p = 1 then false else VD s (p + wdt s p) := by
  have hl : (s.extract p s.size).data.toList ≠ [] := by
    rw [ext_list]
    intro h
    have := congrArg List.length h
    rw [List.length_drop, Array.length_toList] at this
    have h2 : s.data.size = s.size := rfl
    simp only [List.length_nil] at this
    omega
  have hd : Lib.decodeL (s.extract p s.size).data.toList = Utf8.decode s p := by
    unfold Lib.decodeL
    rw [show (⟨(s.extract p s.size).data.toList.toArray⟩ : ByteArray) = s.extract p s.size from rfl, ext_decode (Nat.le_refl _) (by omega) (by have := adv_le s p hp; simpa using this)]
    rfl
  unfold VD
  rw [Lib.validD_step _ hl, hd]
  by_cases h : rn s p = 65533 ∧ wdt s p = 1
  · rw [if_pos h, if_pos h]
  · rw [if_neg h, if_neg h, ext_list, ext_list, List.drop_drop]
theorem Steps.weak {s : ByteArray} {P Q : Nat → Prop} {p c e ce : Nat} (h : Steps s P p c e ce) (hw : ∀ r, P r → Q r) : Steps s Q p c e ce := by
  induction h with
  | refl => exact .refl _ _
  | step h hP t ih => exact .step h (hw _ hP) ih
theorem vd_run {s : ByteArray} {P : Nat → Prop} {p c e ce : Nat} (h : Steps s P p c e ce) (hv : VD s p = true) : VD s e = true := by
  induction h with
  | refl => exact hv
  | @step p c e ce h hP t ih =>
    rw [vd_step h] at hv
    by_cases hx : rn s p = 65533 ∧ wdt s p = 1
    · rw [if_pos hx] at hv; exact nomatch hv
    · rw [if_neg hx] at hv; exact ih hv
theorem vd_piece {s : ByteArray} {P : Nat → Prop} {a e : Nat} (he : e ≤ s.size) {p c q ce : Nat} (h : Steps s P p c q ce) : q = e → a ≤ p → VD s p = true → VD (s.extract a e) (p - a) = true := by
  induction h with
  | refl p c =>
    intro hq ha hv
    subst hq
    exact vd_end (by rw [ext_size he]; exact Nat.le_refl _)
  | @step p c q ce h hP t ih =>
    intro hq ha hv
    subst hq
    have hle := t.le.1
    have hw := adv_pos s p
    have hd : Utf8.decode (s.extract a q) (p - a) = Utf8.decode s p := by
      have := ext_decode (s := s) (a := a) (e := q) (j := p - a) he (by omega) (by rw [show a + (p - a) = p by omega]; exact hle)
      rwa [show a + (p - a) = p by omega] at this
    rw [vd_step h] at hv
    rw [vd_step (by rw [ext_size he]; omega)]
    rw [show rn (s.extract a q) (p - a) = rn s p by rw [rn, hd], show wdt (s.extract a q) (p - a) = wdt s p by rw [wdt, hd]]
    by_cases hx : rn s p = 65533 ∧ wdt s p = 1
    · rw [if_pos hx] at hv; exact nomatch hv
    · rw [if_neg hx] at hv
      rw [if_neg hx]
      have := ih rfl (by omega) hv
      rwa [show p + wdt s p - a = p - a + wdt s p by omega] at this
theorem valid_vd (s : ByteArray) : VD s 0 = Lib.validD s.data.toList := by
  unfold VD
  rw [ext_list]
  rfl
theorem zz_one {b : UInt8} (hb : b.toNat < 128) {r : Int} (h : zzIdx ⟨#[b]⟩ r ≥ 0) : r = b.toNat := by
  unfold zzIdx at h
  split at h
  · omega
  · rw [show (⟨#[b]⟩ : ByteArray).size = 1 from rfl, idxR_step (by show 0 < 1; omega)] at h
    split at h
    · rename_i h2
      rw [← h2, Go.decode_ascii ⟨#[b]⟩ 0 (by show 0 < 1; omega) hb]
      rfl
    · simp [idxR] at h
/-- What holds of each token of a stream. -/
theorem strm_all {s : ByteArray} {Q : Tk → Prop} (hQ : ∀ p c k a e ca ce, p ≤ s.size → c ≤ p → Steps s AnyP 0 0 p c → sc s p c = .tok k a e ca ce → Q (k, s.extract a e)) :
    ∀ (f p c : Nat), p ≤ s.size → c ≤ p → Steps s AnyP 0 0 p c → ∀ t ∈ (strm s f p c).1, Q t := by
  intro f
  induction f with
  | zero => intro p c _ _ _ t ht; exact absurd ht (by simp [strm])
  | succ f ih =>
    intro p c hp hc hst t ht
    cases hs : sc s p c with
    | bad => rw [strm_bad hs] at ht; exact absurd ht (by simp)
    | eof u v => rw [strm_eof hs] at ht; exact absurd ht (by simp)
    | tok k a e ca ce =>
      rw [strm_tok hs] at ht
      have hl := sc_le hp hc hs
      have h2 := scanE_steps _ _ _ _ _ _ _ _ hs
      rcases List.mem_cons.1 ht with rfl | ht
      · exact hQ p c k a e ca ce hp hc hst hs
      · exact ih e ce hl.2.1 hl.2.2 (hst.trans ((h2.1.weak (fun _ _ => trivial)).trans h2.2)) t ht
end Go.Proofs.YtmjoebnphacadaaGreatDoor.Lex
/- The scanner over the list of a text's runes. -/
namespace Go.Proofs.YtmjoebnphacadaaGreatDoor.Lex
open Go.RowKit Go.Lib Go.Proofs.YtmjoebnphacadaaGreatDoor.Pure Go.Proofs.YtmjoebnphacadaaGreatDoor.Q Go.Proofs.YtmjoebnphacadaaGreatDoorW.PrintWords Go.Proofs.YtmjoebnphacadaaGreatDoorW.PrintLast
set_option linter.unusedVariables false
set_option linter.unusedSimpArgs false
/-- A rune and its bytes. -/
abbrev RB := Nat × List UInt8
def cut (s : ByteArray) (a e : Nat) : List UInt8 := (s.extract a e).data.toList
def rl (s : ByteArray) : Nat → Nat → List RB
  | 0, _ => []
  | f + 1, p => if p < s.size then (rn s p, cut s p (p + wdt s p)) :: rl s f (p + wdt s p) else []
/-- The runes from a place on. -/
def RL (s : ByteArray) (p : Nat) : List RB := rl s (s.size - p) p
theorem rl_fed {s : ByteArray} {f : Nat} : ∀ {g p : Nat}, s.size ≤ p + f → s.size ≤ p + g → rl s f p = rl s g p := by
  induction f with
  | zero =>
    intro g p h1 h2
    cases g with
    | zero => rfl
    | succ g => exact (if_neg (by omega)).symm
  | succ f ih =>
    intro g p h1 h2
    by_cases hp : p < s.size
    · obtain ⟨g, rfl⟩ : ∃ m, g = m + 1 := ⟨g - 1, by omega⟩
      have := adv_pos s p
      show (if p < s.size then _ else _) = (if p < s.size then _ else _)
      rw [if_pos hp, if_pos hp, ih (g := g) (by omega) (by omega)]
    · cases g with
      | zero => exact if_neg hp
      | succ g => exact (if_neg hp).trans (if_neg hp).symm
theorem RL_end {s : ByteArray} {p : Nat} (h : ¬ p < s.size) : RL s p = [] := by
  unfold RL
  rw [show s.size - p = 0 by omega]
  rfl
theorem RL_step {s : ByteArray} {p : Nat} (h : p < s.size) : RL s p = (rn s p, cut s p (p + wdt s p)) :: RL s (p + wdt s p) := by
  have := adv_pos s p
  unfold RL
  obtain ⟨g, hg⟩ : ∃ g, s.size - p = g + 1 := ⟨s.size - p - 1, by omega⟩
  rw [hg]
  show (if p < s.size then _ else _) = _
  rw [if_pos h, rl_fed (g := s.size - (p + wdt s p)) (by omega) (by omega)]
theorem cut_self (s : ByteArray) (p : Nat) : cut s p p = [] := by
  unfold cut
  rw [Lib.extract_data, Nat.sub_self]
  rfl
theorem cut_app {s : ByteArray} {a b e : Nat} (h1 : a ≤ b) (h2 : b ≤ e) : cut s a b ++ cut s b e = cut s a e := by
  unfold cut
  rw [Lib.extract_data, Lib.extract_data, Lib.extract_data, show e - a = (b - a) + (e - b) by omega, List.take_add, List.drop_drop, show a + (b - a) = b by omega]
def nr (r : RB) : Bool := !resR r.1
inductive LR
  | eof
  | bad
  | tok (k : Nat) (T rest : List RB)
/-- What stands up to the closing quote, and what is behind it. -/
def quoL : Bool → List RB → Option (List RB × List RB)
  | _, [] => none
  | true, r :: L => (quoL false L).map fun q => (r :: q.1, q.2)
  | false, r :: L => if r.1 = 92 then (quoL true L).map fun q => (r :: q.1, q.2) else if r.1 = 34 then some ([r], L) else (quoL false L).map fun q => (r :: q.1, q.2)
def opL (r : RB) : List RB → LR
  | [] => if r.1 = 33 then .bad else .tok 4 [r] []
  | x :: L => if r.1 = 33 then (if x.1 = 61 then .tok 5 [r, x] L else if x.1 = 126 then .tok 7 [r, x] L else .bad) else if x.1 = 126 then .tok 6 [r, x] L else .tok 4 [r] (x :: L)
/-- The next token of a list of runes. -/
def scanL : List RB → LR
  | [] => .eof
  | r :: L =>
    if r.1 = 123 then .tok 1 [r] L
    else if r.1 = 125 then .tok 2 [r] L
    else if r.1 = 44 then .tok 3 [r] L
    else if r.1 = 61 ∨ r.1 = 33 then opL r L
    else if r.1 = 34 then (match quoL false L with | some q => .tok 8 (r :: q.1) q.2 | none => .bad)
    else if resR r.1 = false then .tok 9 ((r :: L).takeWhile nr) ((r :: L).dropWhile nr)
    else if Lib.isSpaceZ r.1 = true then scanL L else .bad
def txt (T : List RB) : List UInt8 := T.flatMap (·.2)
/-- A scan of the text, and of its runes. -/
def SameLR (s : ByteArray) : TR → LR → Prop
  | .eof _ _, .eof => True
  | .bad, .bad => True
  | .tok k a e _ _, .tok k2 T rest => k = k2 ∧ rest = RL s e ∧ txt T = cut s a e ∧ e ≤ s.size ∧ a ≤ e
  | _, _ => False
theorem unqE_list {s : ByteArray} : ∀ (f p c : Nat), p ≤ s.size → s.size ≤ p + f → (RL s p).dropWhile nr = RL s (unqE s f p c).1 ∧ txt ((RL s p).takeWhile nr) = cut s p (unqE s f p c).1 ∧ (unqE s f p c).1 ≤ s.size ∧ p ≤ (unqE s f p c).1 := by
  intro f
  induction f with
  | zero =>
    intro p c hp hf
    rw [RL_end (by omega)]
    show [] = RL s p ∧ _ = cut s p p ∧ _
    rw [RL_end (by omega), cut_self]
    exact ⟨rfl, rfl, hp, Nat.le_refl _⟩
  | succ f ih =>
    intro p c hp hf
    by_cases h : p < s.size
    · by_cases h2 : resR (rn s p) = false
      · have a1 := adv_le s p h
        have a2 := adv_pos s p
        obtain ⟨i1, i2, i3, i4⟩ := ih (p + wdt s p) (c + 1) a1 (by omega)
        rw [unqE_step h h2, RL_step h]
        have hn : nr (rn s p, cut s p (p + wdt s p)) = true := by unfold nr; simp [h2]
        rw [List.dropWhile_cons_of_pos hn, List.takeWhile_cons_of_pos hn]
        refine ⟨i1, ?_, i3, by omega⟩
        show cut s p (p + wdt s p) ++ txt _ = _
        rw [i2, cut_app (by omega) i4]
      · rw [unqE_stop (by intro hh; exact h2 hh.2), RL_step h]
        have hn : ¬ nr (rn s p, cut s p (p + wdt s p)) = true := by unfold nr; simp [h2]
        rw [List.dropWhile_cons_of_neg hn, List.takeWhile_cons_of_neg hn, ← RL_step h, cut_self]
        exact ⟨rfl, rfl, hp, Nat.le_refl _⟩
    · rw [unqE_stop (by intro hh; exact h hh.1), RL_end h, cut_self]
      exact ⟨rfl, rfl, hp, Nat.le_refl _⟩
theorem quoE_list {s : ByteArray} : ∀ (f : Nat) (esc : Bool) (p c : Nat), p ≤ s.size → s.size ≤ p + f → match quoE s f esc p c with
    | none => quoL esc (RL s p) = none
    | some (E, _) => ∃ T, quoL esc (RL s p) = some (T, RL s (E + wdt s E)) ∧ txt T = cut s p (E + wdt s E) ∧ E + wdt s E ≤ s.size ∧ p ≤ E := by
  intro f
  induction f with
  | zero =>
    intro esc p c hp hf
    show quoL esc (RL s p) = none
    rw [RL_end (by omega)]
    cases esc <;> rfl
  | succ f ih =>
    intro esc p c hp hf
    by_cases h : p < s.size
    · have a1 := adv_le s p h
      have a2 := adv_pos s p
      have go : ∀ (b : Bool), quoL esc (RL s p) = (quoL b (RL s (p + wdt s p))).map (fun q => ((rn s p, cut s p (p + wdt s p)) :: q.1, q.2)) → quoE s (f + 1) esc p c = quoE s f b (p + wdt s p) (c + 1) → match quoE s (f + 1) esc p c with
          | none => quoL esc (RL s p) = none
          | some (E, _) => ∃ T, quoL esc (RL s p) = some (T, RL s (E + wdt s E)) ∧ txt T = cut s p (E + wdt s E) ∧ E + wdt s E ≤ s.size ∧ p ≤ E := by
        intro b h1 h2
        have := ih b (p + wdt s p) (c + 1) a1 (by omega)
        rw [h2]
        revert this
        cases hq : quoE s f b (p + wdt s p) (c + 1) with
        | none => intro this; dsimp only at this ⊢; rw [h1, this]; rfl
        | some q =>
          obtain ⟨E, CE⟩ := q
          intro this
          dsimp only at this ⊢
          obtain ⟨T, t1, t2, t3, t4⟩ := this
          refine ⟨_, by rw [h1, t1]; rfl, ?_, t3, by omega⟩
          show cut s p (p + wdt s p) ++ txt T = _
          rw [t2, cut_app (by omega) (by omega)]
      cases esc with
      | true => exact go false (by rw [RL_step h]; rfl) (quoE_esc h)
      | false =>
        by_cases h92 : rn s p = 92
        · exact go true (by rw [RL_step h]; exact if_pos h92) (quoE_back h h92)
        · by_cases h34 : rn s p = 34
          · rw [quoE_quote h h34]
            dsimp only
            refine ⟨[(rn s p, cut s p (p + wdt s p))], ?_, ?_, a1, Nat.le_refl _⟩
            · rw [RL_step h]
              exact (if_neg h92).trans (if_pos h34)
            · show cut s p (p + wdt s p) ++ [] = _
              rw [List.append_nil]
          · exact go false (by rw [RL_step h]; exact (if_neg h92).trans (if_neg h34)) (quoE_more h h92 h34)
    · rw [quoE_end h]
      dsimp only
      rw [RL_end h]
      cases esc <;> rfl
theorem zz_self {b : UInt8} (hb : b.toNat < 128) : zzIdx ⟨#[b]⟩ (b.toNat : Int) ≥ 0 := by
  unfold zzIdx
  have hn : badR (b.toNat : Int) = false := by
    unfold badR
    simp
    omega
  rw [hn, if_neg (by simp), show (⟨#[b]⟩ : ByteArray).size = 1 from rfl, idxR_step (by show 0 < 1; omega), Go.decode_ascii ⟨#[b]⟩ 0 (by show 0 < 1; omega) hb]
  split
  · omega
  · rename_i h
    exact absurd rfl h
theorem acc_one {s : ByteArray} {b : UInt8} (hb : b.toNat < 128) (p : Nat) : accB s ⟨#[b]⟩ p = true ↔ p < s.size ∧ rn s p = b.toNat := by
  unfold accB
  rw [Bool.and_eq_true, decide_eq_true_eq, decide_eq_true_eq]
  constructor
  · rintro ⟨h1, h2⟩
    have := zz_one hb h2
    exact ⟨h1, by omega⟩
  · rintro ⟨h1, h2⟩
    rw [h2]
    exact ⟨h1, zz_self hb⟩
theorem opR_list {s : ByteArray} {p c : Nat} (hp : p < s.size) (ho : rn s p = 61 ∨ rn s p = 33) : SameLR s (opR s p c) (opL (rn s p, cut s p (p + wdt s p)) (RL s (p + wdt s p))) := by
  have a1 := adv_le s p hp
  have a2 := adv_pos s p
  have eX : accB s xB p = true ↔ rn s p = 33 := ⟨fun h => ((acc_one (b := 33) (by decide) p).1 h).2, fun h => (acc_one (b := 33) (by decide) p).2 ⟨hp, h⟩⟩
  have eE : ∀ q, accB s eB q = true ↔ q < s.size ∧ rn s q = 61 := fun q => acc_one (b := 61) (by decide) q
  have eT : ∀ q, accB s tB q = true ↔ q < s.size ∧ rn s q = 126 := fun q => acc_one (b := 126) (by decide) q
  have two : ∀ q w, q = p + wdt s p → txt [(rn s p, cut s p (p + wdt s p)), (rn s q, cut s q (q + w))] = cut s p (q + w) := by
    intro q w hq
    show cut s p (p + wdt s p) ++ (cut s q (q + w) ++ []) = _
    rw [List.append_nil, ← hq, cut_app (by omega) (by omega)]
  have one : txt [(rn s p, cut s p (p + wdt s p))] = cut s p (p + wdt s p) := by
    show cut s p (p + wdt s p) ++ [] = _
    rw [List.append_nil]
  unfold opR
  by_cases h33 : rn s p = 33
  · rw [if_pos (eX.2 h33)]
    by_cases hq : p + wdt s p < s.size
    · have b1 := adv_le s _ hq
      rw [RL_step hq]
      show SameLR s _ (if _ = 33 then (if _ then _ else if _ then _ else _) else _)
      rw [if_pos h33]
      by_cases h61 : rn s (p + wdt s p) = 61
      · rw [if_pos ((eE _).2 ⟨hq, h61⟩), if_pos h61]
        exact ⟨rfl, rfl, two _ _ rfl, b1, by omega⟩
      · rw [if_neg (fun h => h61 ((eE _).1 h).2), if_neg h61]
        by_cases h126 : rn s (p + wdt s p) = 126
        · rw [if_pos ((eT _).2 ⟨hq, h126⟩), if_pos h126]
          exact ⟨rfl, rfl, two _ _ rfl, b1, by omega⟩
        · rw [if_neg (fun h => h126 ((eT _).1 h).2), if_neg h126]
          trivial
    · rw [RL_end hq, if_neg (fun h => hq ((eE _).1 h).1), if_neg (fun h => hq ((eT _).1 h).1)]
      show SameLR s _ (if _ = 33 then _ else _)
      rw [if_pos h33]
      trivial
  · have h61 : rn s p = 61 := by omega
    rw [if_neg (fun h => h33 (eX.1 h)), if_pos ((eE _).2 ⟨hp, h61⟩)]
    by_cases hq : p + wdt s p < s.size
    · have b1 := adv_le s _ hq
      rw [RL_step hq]
      show SameLR s _ (if _ = 33 then _ else if _ then _ else _)
      rw [if_neg h33]
      by_cases h126 : rn s (p + wdt s p) = 126
      · rw [if_pos ((eT _).2 ⟨hq, h126⟩), if_pos h126]
        exact ⟨rfl, rfl, two _ _ rfl, b1, by omega⟩
      · rw [if_neg (fun h => h126 ((eT _).1 h).2), if_neg h126]
        exact ⟨rfl, (RL_step hq).symm, one, a1, by omega⟩
    · rw [RL_end hq, if_neg (fun h => hq ((eT _).1 h).1)]
      show SameLR s _ (if _ = 33 then _ else _)
      rw [if_neg h33]
      exact ⟨rfl, (RL_end hq).symm, one, a1, by omega⟩
theorem scanE_list {s : ByteArray} : ∀ (f p c : Nat), p ≤ s.size → s.size < p + f → SameLR s (scanE s f p c) (scanL (RL s p)) := by
  intro f
  induction f with
  | zero => intro p c hp hf; omega
  | succ f ih =>
    intro p c hp hf
    by_cases h : p < s.size
    · have a1 := adv_le s p h
      have a2 := adv_pos s p
      have one : txt [(rn s p, cut s p (p + wdt s p))] = cut s p (p + wdt s p) := by
        show cut s p (p + wdt s p) ++ [] = _
        rw [List.append_nil]
      rw [RL_step h]
      unfold scanE scanL
      rw [if_pos h]
      dsimp only
      by_cases h1 : rn s p = 123
      · rw [if_pos h1, if_pos h1]; exact ⟨rfl, rfl, one, a1, by omega⟩
      rw [if_neg h1, if_neg h1]
      by_cases h2 : rn s p = 125
      · rw [if_pos h2, if_pos h2]; exact ⟨rfl, rfl, one, a1, by omega⟩
      rw [if_neg h2, if_neg h2]
      by_cases h3 : rn s p = 44
      · rw [if_pos h3, if_pos h3]; exact ⟨rfl, rfl, one, a1, by omega⟩
      rw [if_neg h3, if_neg h3]
      by_cases h4 : rn s p = 61 ∨ rn s p = 33
      · rw [if_pos h4, if_pos h4]; exact opR_list h h4
      rw [if_neg h4, if_neg h4]
      by_cases h5 : rn s p = 34
      · rw [if_pos h5, if_pos h5]
        unfold quoR
        have := quoE_list s.size false (p + wdt s p) (c + 1) a1 (by omega)
        revert this
        cases hq : quoE s s.size false (p + wdt s p) (c + 1) with
        | none => intro this; dsimp only at this ⊢; rw [this]; trivial
        | some q =>
          obtain ⟨E, CE⟩ := q
          intro this
          dsimp only at this ⊢
          obtain ⟨T, t1, t2, t3, t4⟩ := this
          rw [t1]
          refine ⟨rfl, rfl, ?_, t3, by omega⟩
          show cut s p (p + wdt s p) ++ txt T = _
          rw [t2, cut_app (by omega) (by omega)]
      rw [if_neg h5, if_neg h5]
      by_cases h6 : resR (rn s p) = false
      · rw [if_pos h6, if_pos h6]
        obtain ⟨i1, i2, i3, i4⟩ := unqE_list s.size p c hp (by omega)
        rw [← RL_step h]
        exact ⟨rfl, i1, i2, i3, i4⟩
      rw [if_neg h6, if_neg h6]
      by_cases h7 : Lib.isSpaceZ (rn s p) = true
      · rw [if_pos h7, if_pos h7]
        exact ih (p + wdt s p) (c + 1) a1 (by omega)
      · rw [if_neg h7, if_neg h7]; trivial
    · rw [RL_end h, scanE_end h]; trivial
/-- The tokens of a list of runes. -/
def strmL : Nat → List RB → List Tk × Bool
  | 0, _ => ([], false)
  | f + 1, L => match scanL L with
    | .eof => ([], true)
    | .bad => ([], false)
    | .tok k T rest => ((k, ⟨(txt T).toArray⟩) :: (strmL f rest).1, (strmL f rest).2)
theorem strmL_def (f : Nat) (L : List RB) : strmL (f + 1) L = (match scanL L with
    | .eof => (([], true) : List Tk × Bool)
    | .bad => ([], false)
    | .tok k T rest => ((k, ⟨(txt T).toArray⟩) :: (strmL f rest).1, (strmL f rest).2)) := rfl
theorem strm_list {s : ByteArray} : ∀ (f p c : Nat), p ≤ s.size → strm s f p c = strmL f (RL s p) := by
  intro f
  induction f with
  | zero => intro p c _; rfl
  | succ f ih =>
    intro p c hp
    have h := scanE_list (s := s) (s.size + 1) p c hp (by omega)
    show (match sc s p c with | .eof _ _ => _ | .bad => _ | .tok k a e _ ce => _) = (match scanL (RL s p) with | .eof => _ | .bad => _ | .tok k T rest => _)
    unfold sc
    revert h
    cases scanE s (s.size + 1) p c with
    | eof u v => cases scanL (RL s p) <;> first | (intro h; rfl) | (intro h; exact h.elim)
    | bad => cases scanL (RL s p) <;> first | (intro h; rfl) | (intro h; exact h.elim)
    | tok k a e ca ce =>
      cases scanL (RL s p) with
      | eof => intro h; exact h.elim
      | bad => intro h; exact h.elim
      | tok k2 T rest =>
        intro h
        obtain ⟨rfl, rfl, ht, he, _⟩ := h
        dsimp only
        rw [ih e ce he, ht]
        rfl
end Go.Proofs.YtmjoebnphacadaaGreatDoor.Lex
/- The runes of joined texts, of ASCII texts. -/
namespace Go.Proofs.YtmjoebnphacadaaGreatDoor.Lex
open Go.RowKit Go.Lib Go.Proofs.YtmjoebnphacadaaGreatDoor.Pure Go.Proofs.YtmjoebnphacadaaGreatDoor.Q Go.Proofs.YtmjoebnphacadaaGreatDoorW.PrintWords Go.Proofs.YtmjoebnphacadaaGreatDoorW.PrintLast
set_option linter.unusedVariables false
set_option linter.unusedSimpArgs false
theorem decodeN_stop {n n' b0 b1 b2 b3 c1 c2 c3 : Nat} (hn : 1 ≤ n) (hnn : n ≤ n') (h1 : 1 < n → c1 = b1) (h2 : 2 < n → c2 = b2) (h3 : 3 < n → c3 = b3)
    (s1 : n < n' → n = 1 → c1 / 64 ≠ 2) (s2 : n < n' → n = 2 → c2 / 64 ≠ 2) (s3 : n < n' → n = 3 → c3 / 64 ≠ 2) : Lib.decodeN n' b0 c1 c2 c3 = Lib.decodeN n b0 b1 b2 b3 := by
  have key : ∀ (i : Nat) (b c : Nat), (i < n → c = b) → (n < n' → n = i → c / 64 ≠ 2) → (n ≠ i → n < i → n < n' → True) → ((i < n' ∧ c / 64 = 2) → i ≤ n → (i < n ∧ b / 64 = 2)) := by
    intro i b c ha hb _ ⟨hc, hd⟩ hi
    by_cases hin : i < n
    · exact ⟨hin, by rw [← ha hin]; exact hd⟩
    · exact absurd hd (hb (by omega) (by omega))
  have e1 : (1 < n' ∧ c1 / 64 = 2) ↔ (1 < n ∧ b1 / 64 = 2) := ⟨fun h => key 1 b1 c1 h1 s1 (fun _ _ _ => trivial) h hn, fun h => ⟨by omega, by rw [h1 h.1]; exact h.2⟩⟩
  unfold Lib.decodeN
  by_cases k1 : 1 < n ∧ b1 / 64 = 2
  · have k1' := e1.2 k1
    have g1 := h1 k1.1
    subst g1
    have e2 : (2 < n' ∧ c2 / 64 = 2) ↔ (2 < n ∧ b2 / 64 = 2) := ⟨fun h => key 2 b2 c2 h2 s2 (fun _ _ _ => trivial) h (by omega), fun h => ⟨by omega, by rw [h2 h.1]; exact h.2⟩⟩
    by_cases k2 : 2 < n ∧ b2 / 64 = 2
    · have k2' := e2.2 k2
      have g2 := h2 k2.1
      subst g2
      have e3 : (3 < n' ∧ c3 / 64 = 2) ↔ (3 < n ∧ b3 / 64 = 2) := ⟨fun h => key 3 b3 c3 h3 s3 (fun _ _ _ => trivial) h (by omega), fun h => ⟨by omega, by rw [h3 h.1]; exact h.2⟩⟩
      by_cases k3 : 3 < n ∧ b3 / 64 = 2
      · have k3' := e3.2 k3
        have g3 := h3 k3.1
        subst g3
        simp only [k1, k1', k2, k2', k3, k3', and_self, true_and]
      · have k3' : ¬ (3 < n' ∧ c3 / 64 = 2) := fun h => k3 (e3.1 h)
        simp only [k1, k1', k2, k2', k3, k3', and_self, true_and, and_false, if_false]
    · have k2' : ¬ (2 < n' ∧ c2 / 64 = 2) := fun h => k2 (e2.1 h)
      simp only [k1, k1', k2, k2', and_self, true_and, and_false, false_and, if_false]
  · have k1' : ¬ (1 < n' ∧ c1 / 64 = 2) := fun h => k1 (e1.1 h)
    simp only [k1, k1', and_false, false_and, if_false]
theorem app_list (x y : ByteArray) : (x ++ y).data.toList = x.data.toList ++ y.data.toList := by
  rw [ByteArray.data_append, Array.toList_append]
theorem get_list (s : ByteArray) (i : Nat) : s.get! i = s.data.toList.getD i 0 := (Lib.getD_get!' s i).symm
theorem app_get_l {x y : ByteArray} {i : Nat} (h : i < x.size) : (x ++ y).get! i = x.get! i := by
  have h2 : i < x.data.toList.length := by rw [Array.length_toList]; exact h
  rw [get_list, get_list, app_list, List.getD_eq_getElem?_getD, List.getD_eq_getElem?_getD, List.getElem?_append_left h2]
theorem app_get_r {x y : ByteArray} (i : Nat) : (x ++ y).get! (x.size + i) = y.get! i := by
  have h2 : x.data.toList.length ≤ x.size + i := by rw [Array.length_toList]; exact Nat.le_add_right _ _
  rw [get_list, get_list, app_list, List.getD_eq_getElem?_getD, List.getD_eq_getElem?_getD, List.getElem?_append_right h2]
  rw [show x.size + i - x.data.toList.length = i by rw [Array.length_toList]; show x.size + i - x.size = i; omega]
/-- What may stand behind a text without changing its runes: nothing, or a byte that goes on no rune. -/
def Fresh (y : ByteArray) : Prop := 0 < y.size → (y.get! 0).toNat / 64 ≠ 2
theorem app_size (x y : ByteArray) : (x ++ y).size = x.size + y.size := ByteArray.size_append
theorem app_decode {x y : ByteArray} (hy : Fresh y) {p : Nat} (hp : p < x.size) : Utf8.decode (x ++ y) p = Utf8.decode x p := by
  rw [Lib.decode_at, Lib.decode_at, app_size, app_get_l hp]
  have at1 : ∀ j, x.size - p = j → 0 < y.size → ((x ++ y).get! (p + j)).toNat / 64 ≠ 2 := by
    intro j hj h0
    rw [show p + j = x.size + 0 by omega, app_get_r]
    exact hy h0
  refine decodeN_stop (by omega) (by omega) (fun h => ?_) (fun h => ?_) (fun h => ?_) (fun h e => at1 1 e (by omega)) (fun h e => at1 2 e (by omega)) (fun h e => at1 3 e (by omega))
  · rw [app_get_l (by omega)]
  · rw [app_get_l (by omega)]
  · rw [app_get_l (by omega)]
theorem cut_list (s : ByteArray) (a e : Nat) : cut s a e = (s.data.toList.drop a).take (e - a) := Lib.extract_data s a e
end Go.Proofs.YtmjoebnphacadaaGreatDoor.Lex
/- A token's runes, and what may stand behind them. -/
namespace Go.Proofs.YtmjoebnphacadaaGreatDoor.Lex
open Go.RowKit Go.Lib Go.Proofs.YtmjoebnphacadaaGreatDoor.Pure Go.Proofs.YtmjoebnphacadaaGreatDoor.Q Go.Proofs.YtmjoebnphacadaaGreatDoorW.PrintWords Go.Proofs.YtmjoebnphacadaaGreatDoorW.PrintLast
set_option linter.unusedVariables false
set_option linter.unusedSimpArgs false
/-- White space alone. -/
def Wh (w : List RB) : Prop := ∀ r ∈ w, Lib.isSpaceZ (r.1 : Int) = true
/-- What may stand behind a token of a kind. -/
def Cond (k : Nat) (R : List RB) : Prop := ∀ r ∈ R.head?, (k = 9 → nr r = false) ∧ (k = 4 → r.1 ≠ 126)
theorem space_not {r : Nat} (h : Lib.isSpaceZ (r : Int) = true) : r ≠ 123 ∧ r ≠ 125 ∧ r ≠ 44 ∧ r ≠ 61 ∧ r ≠ 33 ∧ r ≠ 34 ∧ r ≠ 126 ∧ resR (r : Int) = true := by
  refine ⟨?_, ?_, ?_, ?_, ?_, ?_, ?_, ?_⟩
  iterate 7 (rintro rfl; exact absurd h (by decide))
  unfold resR
  rw [h]
  rfl
theorem scan_white {w R : List RB} (hw : Wh w) : scanL (w ++ R) = scanL R := by
  induction w with
  | nil => rfl
  | cons r w ih =>
    have hr := hw r (by simp)
    obtain ⟨h1, h2, h3, h4, h5, h6, h7, h8⟩ := space_not hr
    show scanL (r :: (w ++ R)) = _
    rw [scanL.eq_def]
    dsimp only
    rw [if_neg h1, if_neg h2, if_neg h3, if_neg (by omega), if_neg h6, if_neg (by rw [h8]; simp), if_pos hr]
    exact ih (fun r hr => hw r (by simp [hr]))
theorem quoL_app {b : Bool} {L T rest : List RB} (h : quoL b L = some (T, rest)) : L = T ++ rest ∧ ∀ R, quoL b (T ++ R) = some (T, R) := by
  induction L generalizing b T rest with
  | nil => cases b <;> exact nomatch h
  | cons r L ih =>
    have go : ∀ (b2 : Bool), quoL b (r :: L) = (quoL b2 L).map (fun q => (r :: q.1, q.2)) → (∀ M, quoL b (r :: M) = (quoL b2 M).map (fun q => (r :: q.1, q.2))) → r :: L = T ++ rest ∧ ∀ R, quoL b (T ++ R) = some (T, R) := by
      intro b2 h1 h2
      rw [h1] at h
      cases hq : quoL b2 L with
      | none => rw [hq] at h; exact nomatch h
      | some q =>
        rw [hq] at h
        have := Option.some.inj h
        simp only [Prod.mk.injEq] at this
        obtain ⟨rfl, rfl⟩ := this
        obtain ⟨i1, i2⟩ := ih (b := b2) (T := q.1) (rest := q.2) hq
        refine ⟨by rw [i1]; simp, fun R => ?_⟩
        show quoL b (r :: (q.1 ++ R)) = _
        rw [h2, i2]
        rfl
    cases b with
    | true => exact go false rfl (fun _ => rfl)
    | false =>
      by_cases h92 : r.1 = 92
      · exact go true (if_pos h92) (fun _ => if_pos h92)
      · by_cases h34 : r.1 = 34
        · have e : ∀ M, quoL false (r :: M) = some ([r], M) := fun M => (if_neg h92).trans (if_pos h34)
          rw [e] at h
          have := Option.some.inj h
          simp only [Prod.mk.injEq] at this
          obtain ⟨rfl, rfl⟩ := this
          exact ⟨rfl, fun R => e R⟩
        · exact go false ((if_neg h92).trans (if_neg h34)) (fun _ => (if_neg h92).trans (if_neg h34))
theorem takeWhile_all {p : RB → Bool} {l : List RB} {y : RB} (h : y ∈ l.takeWhile p) : p y = true := by
  induction l with
  | nil => exact absurd h (by simp)
  | cons x l ih =>
    by_cases hx : p x = true
    · rw [List.takeWhile_cons_of_pos hx] at h
      rcases List.mem_cons.1 h with rfl | h
      · exact hx
      · exact ih h
    · rw [List.takeWhile_cons_of_neg hx] at h
      exact absurd h (by simp)
theorem cond_other {k : Nat} {R : List RB} (h9 : k ≠ 9) (h4 : k ≠ 4) : Cond k R := fun r _ => ⟨fun h => absurd h h9, fun h => absurd h h4⟩
theorem scan_app {L : List RB} : ∀ {k : Nat} {T rest : List RB}, scanL L = .tok k T rest → ∃ w, L = w ++ T ++ rest ∧ Wh w ∧ T ≠ [] ∧ Cond k rest ∧ ∀ R, Cond k R → scanL (T ++ R) = .tok k T R := by
  induction L with
  | nil => intro k T rest h; exact nomatch h
  | cons r L ih =>
    intro k T rest h
    have w0 : Wh [] := fun r hr => absurd hr (by simp)
    unfold scanL at h
    by_cases h1 : r.1 = 123
    · rw [if_pos h1] at h
      injection h with e1 e2 e3
      subst e1 e2 e3
      exact ⟨[], rfl, w0, by simp, cond_other (by decide) (by decide), fun R _ => if_pos h1⟩
    rw [if_neg h1] at h
    by_cases h2 : r.1 = 125
    · rw [if_pos h2] at h
      injection h with e1 e2 e3
      subst e1 e2 e3
      exact ⟨[], rfl, w0, by simp, cond_other (by decide) (by decide), fun R _ => (if_neg h1).trans (if_pos h2)⟩
    rw [if_neg h2] at h
    by_cases h3 : r.1 = 44
    · rw [if_pos h3] at h
      injection h with e1 e2 e3
      subst e1 e2 e3
      exact ⟨[], rfl, w0, by simp, cond_other (by decide) (by decide), fun R _ => (if_neg h1).trans ((if_neg h2).trans (if_pos h3))⟩
    rw [if_neg h3] at h
    by_cases h4 : r.1 = 61 ∨ r.1 = 33
    · rw [if_pos h4] at h
      have ho : ∀ M, scanL (r :: M) = opL r M := fun M => (if_neg h1).trans ((if_neg h2).trans ((if_neg h3).trans (if_pos h4)))
      cases L with
      | nil =>
        by_cases h33 : r.1 = 33
        · rw [show opL r [] = .bad from if_pos h33] at h; exact nomatch h
        · rw [show opL r [] = .tok 4 [r] [] from if_neg h33] at h
          injection h with e1 e2 e3
          subst e1 e2 e3
          refine ⟨[], rfl, w0, by simp, fun x hx => by simp at hx, fun R hR => ?_⟩
          show scanL (r :: R) = _
          rw [ho]
          cases R with
          | nil => exact if_neg h33
          | cons x R => exact (if_neg h33).trans (if_neg ((hR x rfl).2 rfl))
      | cons x L2 =>
        by_cases h33 : r.1 = 33
        · have e : ∀ M, opL r (x :: M) = (if x.1 = 61 then .tok 5 [r, x] M else if x.1 = 126 then .tok 7 [r, x] M else .bad) := fun M => if_pos h33
          rw [e] at h
          by_cases h61 : x.1 = 61
          · rw [if_pos h61] at h
            injection h with e1 e2 e3
            subst e1 e2 e3
            exact ⟨[], rfl, w0, by simp, cond_other (by decide) (by decide), fun R _ => (ho _).trans ((e _).trans (if_pos h61))⟩
          · rw [if_neg h61] at h
            by_cases h126 : x.1 = 126
            · rw [if_pos h126] at h
              injection h with e1 e2 e3
              subst e1 e2 e3
              exact ⟨[], rfl, w0, by simp, cond_other (by decide) (by decide), fun R _ => (ho _).trans ((e _).trans ((if_neg h61).trans (if_pos h126)))⟩
            · rw [if_neg h126] at h; exact nomatch h
        · have e : ∀ M, opL r (x :: M) = (if x.1 = 126 then .tok 6 [r, x] M else .tok 4 [r] (x :: M)) := fun M => if_neg h33
          rw [e] at h
          by_cases h126 : x.1 = 126
          · rw [if_pos h126] at h
            injection h with e1 e2 e3
            subst e1 e2 e3
            exact ⟨[], rfl, w0, by simp, cond_other (by decide) (by decide), fun R _ => (ho _).trans ((e _).trans (if_pos h126))⟩
          · rw [if_neg h126] at h
            injection h with e1 e2 e3
            subst e1 e2 e3
            refine ⟨[], rfl, w0, by simp, fun y hy => ?_, fun R hR => ?_⟩
            · obtain rfl := Option.some.inj hy
              exact ⟨fun h => absurd h (by decide), fun _ => h126⟩
            · show scanL (r :: R) = _
              rw [ho]
              cases R with
              | nil => exact if_neg h33
              | cons x R => exact (if_neg h33).trans (if_neg ((hR x rfl).2 rfl))
    rw [if_neg h4] at h
    by_cases h5 : r.1 = 34
    · rw [if_pos h5] at h
      have ho : ∀ M, scanL (r :: M) = (match quoL false M with | some q => .tok 8 (r :: q.1) q.2 | none => .bad) := fun M => (if_neg h1).trans ((if_neg h2).trans ((if_neg h3).trans ((if_neg h4).trans (if_pos h5))))
      cases hq : quoL false L with
      | none => rw [hq] at h; exact nomatch h
      | some q =>
        rw [hq] at h
        injection h with e1 e2 e3
        subst e1 e2 e3
        obtain ⟨i1, i2⟩ := quoL_app (T := q.1) (rest := q.2) hq
        refine ⟨[], by rw [i1]; simp, w0, by simp, cond_other (by decide) (by decide), fun R _ => ?_⟩
        show scanL (r :: (q.1 ++ R)) = _
        rw [ho, i2]
    rw [if_neg h5] at h
    by_cases h6 : resR (r.1 : Int) = false
    · rw [if_pos h6] at h
      have hn : nr r = true := by unfold nr; rw [h6]; rfl
      have ho : ∀ M, scanL (r :: M) = .tok 9 ((r :: M).takeWhile nr) ((r :: M).dropWhile nr) := fun M => (if_neg h1).trans ((if_neg h2).trans ((if_neg h3).trans ((if_neg h4).trans ((if_neg h5).trans (if_pos h6)))))
      injection h with e1 e2 e3
      subst e1 e2 e3
      refine ⟨[], by simp [List.takeWhile_append_dropWhile], w0, by rw [List.takeWhile_cons_of_pos hn]; simp, fun x hx => ⟨fun _ => ?_, fun h => absurd h (by decide)⟩, fun R hR => ?_⟩
      · have := List.head?_dropWhile_not nr (r :: L)
        rw [Option.mem_def] at hx
        rw [hx] at this
        simpa using this
      · have hall : ∀ y ∈ (r :: L).takeWhile nr, nr y = true := fun y hy => takeWhile_all hy
        have e1 : R.takeWhile nr = [] := by
          cases R with
          | nil => rfl
          | cons x R => rw [List.takeWhile_cons_of_neg (by rw [(hR x rfl).1 rfl]; simp)]
        have e2 : R.dropWhile nr = R := by
          cases R with
          | nil => rfl
          | cons x R => rw [List.dropWhile_cons_of_neg (by rw [(hR x rfl).1 rfl]; simp)]
        have e3 : (r :: L).takeWhile nr ++ R = r :: (L.takeWhile nr ++ R) := by rw [List.takeWhile_cons_of_pos hn]; rfl
        rw [e3, ho, ← e3, List.takeWhile_append_of_pos hall, List.dropWhile_append_of_pos hall, e1, e2, List.append_nil]
    rw [if_neg h6] at h
    by_cases h7 : Lib.isSpaceZ (r.1 : Int) = true
    · rw [if_pos h7] at h
      obtain ⟨w, k1, k2, k3, k4, k5⟩ := ih h
      refine ⟨r :: w, by rw [k1]; simp, fun x hx => ?_, k3, k4, k5⟩
      rcases List.mem_cons.1 hx with rfl | hx
      · exact h7
      · exact k2 x hx
    · rw [if_neg h7] at h; exact nomatch h
end Go.Proofs.YtmjoebnphacadaaGreatDoor.Lex
/- White space between the tokens changes no token. -/
namespace Go.Proofs.YtmjoebnphacadaaGreatDoor.Lex
open Go.RowKit Go.Lib Go.Proofs.YtmjoebnphacadaaGreatDoor.Pure Go.Proofs.YtmjoebnphacadaaGreatDoor.Q Go.Proofs.YtmjoebnphacadaaGreatDoorW.PrintWords Go.Proofs.YtmjoebnphacadaaGreatDoorW.PrintLast
set_option linter.unusedVariables false
set_option linter.unusedSimpArgs false
theorem decodeN_grow {n n' b0 b1 b2 b3 c1 c2 c3 : Nat} (hnn : n ≤ n') (h1 : 1 < n → c1 = b1) (h2 : 2 < n → c2 = b2) (h3 : 3 < n → c3 = b3) (hv : ¬ Lib.decodeN n b0 b1 b2 b3 = (65533, 1)) : Lib.decodeN n' b0 c1 c2 c3 = Lib.decodeN n b0 b1 b2 b3 := by
  unfold Lib.decodeN at hv ⊢
  by_cases k0 : b0 < 128
  · simp only [k0, if_true]
  simp only [k0, if_false] at hv ⊢
  by_cases k1 : b0 / 32 = 6 ∧ (1 < n ∧ b1 / 64 = 2)
  · obtain rfl := h1 k1.2.1
    have e1 : 1 < n' := by omega
    simp only [k1, e1, and_self, true_and, if_true]
  simp only [k1, if_false] at hv ⊢
  by_cases k2 : b0 / 16 = 14 ∧ (1 < n ∧ b1 / 64 = 2) ∧ (2 < n ∧ b2 / 64 = 2)
  · obtain rfl := h1 k2.2.1.1
    obtain rfl := h2 k2.2.2.1
    have e1 : 1 < n' := by omega
    have e2 : 2 < n' := by omega
    have e3 : ¬ b0 / 32 = 6 := by omega
    simp only [k2, e1, e2, e3, and_self, true_and, false_and, if_true, if_false]
  simp only [k2, if_false] at hv ⊢
  by_cases k3 : b0 / 8 = 30 ∧ (1 < n ∧ b1 / 64 = 2) ∧ (2 < n ∧ b2 / 64 = 2) ∧ (3 < n ∧ b3 / 64 = 2)
  · obtain rfl := h1 k3.2.1.1
    obtain rfl := h2 k3.2.2.1.1
    obtain rfl := h3 k3.2.2.2.1
    have e1 : 1 < n' := by omega
    have e2 : 2 < n' := by omega
    have e4 : 3 < n' := by omega
    have e3 : ¬ b0 / 32 = 6 := by omega
    have e5 : ¬ b0 / 16 = 14 := by omega
    simp only [k3, e1, e2, e3, e4, e5, and_self, true_and, false_and, if_true, if_false]
  simp only [k3, if_false] at hv
  exact absurd trivial hv
theorem get_at (s : ByteArray) (i : Nat) (h : i < s.size) : s.get! i = s[i]'h := by simp [ByteArray.get!, h]; rfl
theorem list_size (x : ByteArray) : x.data.toList.length = x.size := Array.length_toList
end Go.Proofs.YtmjoebnphacadaaGreatDoor.Lex
/- strconv.Unquote at texts whose escapes are those of a quote, a line feed and a backslash. -/
namespace Go.Proofs.YtmjoebnphacadaaGreatDoor.Lex
open Go.RowKit Go.Lib Go.Proofs.YtmjoebnphacadaaGreatDoor.Pure Go.Proofs.YtmjoebnphacadaaGreatDoor.Q Go.Proofs.YtmjoebnphacadaaGreatDoorW.PrintWords Go.Proofs.YtmjoebnphacadaaGreatDoorW.PrintLast
set_option linter.unusedVariables false
set_option linter.unusedSimpArgs false
/-- What the bytes between two quotes stand for; none: an escape or a byte that is not told. -/
def wiL : List UInt8 → Option (List UInt8)
  | [] => some []
  | [c] => if c.toNat < 32 ∨ c.toNat = 127 then none else if c.toNat = 92 then none else some [c]
  | c :: d :: r => if c.toNat < 32 ∨ c.toNat = 127 then none else if c.toNat = 92 then
      (if d.toNat = 110 then (wiL r).map (10 :: ·) else if d.toNat = 34 ∨ d.toNat = 92 then (wiL r).map (d :: ·) else none)
    else (wiL (d :: r)).map (c :: ·)
/-- No quote that is not escaped. -/
def nq : List UInt8 → Bool
  | [] => true
  | [c] => decide (c.toNat ≠ 92) && decide (c.toNat ≠ 34)
  | c :: d :: r => if c.toNat = 92 then nq r else if c.toNat = 34 then false else nq (d :: r)
theorem wiL_one {c : UInt8} {r b : List UInt8} (h32 : ¬ (c.toNat < 32 ∨ c.toNat = 127)) (h92 : ¬ c.toNat = 92) (h : wiL (c :: r) = some b) : ∃ b2, wiL r = some b2 ∧ b = c :: b2 := by
  cases r with
  | nil =>
    unfold wiL at h
    rw [if_neg h32, if_neg h92] at h
    exact ⟨[], rfl, (Option.some.inj h).symm⟩
  | cons d r =>
    unfold wiL at h
    rw [if_neg h32, if_neg h92] at h
    cases hw : wiL (d :: r) with
    | none => rw [hw] at h; exact nomatch h
    | some b2 => rw [hw] at h; exact ⟨b2, rfl, (Option.some.inj h).symm⟩
theorem nq_one {c : UInt8} {r : List UInt8} (h92 : ¬ c.toNat = 92) (h : nq (c :: r) = true) : c.toNat ≠ 34 ∧ nq r = true := by
  cases r with
  | nil =>
    unfold nq at h
    simp only [Bool.and_eq_true, decide_eq_true_eq] at h
    exact ⟨h.2, rfl⟩
  | cons d r =>
    unfold nq at h
    rw [if_neg h92] at h
    split at h
    · exact nomatch h
    · rename_i h34
      exact ⟨h34, h⟩
theorem wiL_high {w : List UInt8} (hw : ∀ x ∈ w, 128 ≤ x.toNat) : ∀ {o b : List UInt8}, wiL (w ++ o) = some b → ∃ b2, wiL o = some b2 ∧ b = w ++ b2 := by
  induction w with
  | nil => intro o b h; exact ⟨b, h, rfl⟩
  | cons x w ih =>
    intro o b h
    have hx := hw x (by simp)
    obtain ⟨b2, h2, rfl⟩ := wiL_one (c := x) (r := w ++ o) (by omega) (by omega) h
    obtain ⟨b3, h3, rfl⟩ := ih (fun y hy => hw y (by simp [hy])) h2
    exact ⟨b3, h3, rfl⟩
theorem nq_high {w : List UInt8} (hw : ∀ x ∈ w, 128 ≤ x.toNat) : ∀ {o : List UInt8}, nq (w ++ o) = true → nq o = true := by
  induction w with
  | nil => intro o h; exact h
  | cons x w ih =>
    intro o h
    have hx := hw x (by simp)
    exact ih (fun y hy => hw y (by simp [hy])) (nq_one (c := x) (r := w ++ o) (by omega) h).2
theorem decodeL_grow {l o : List UInt8} (hne : l ≠ []) (hv : ¬ ((Lib.decodeL l).1 = 65533 ∧ (Lib.decodeL l).2 = 1)) : Lib.decodeL (l ++ o) = Lib.decodeL l := by
  have h0 : 0 < l.length := List.length_pos_iff.2 hne
  have g : ∀ j, j < l.length → ((l ++ o).getD j 0).toNat = (l.getD j 0).toNat := by
    intro j hj
    rw [List.getD_eq_getElem?_getD, List.getD_eq_getElem?_getD, List.getElem?_append_left hj]
  rw [Lib.decodeL_N] at hv
  rw [Lib.decodeL_N, Lib.decodeL_N, g 0 h0, List.length_append]
  exact decodeN_grow (by omega) (fun h => g 1 h) (fun h => g 2 h) (fun h => g 3 h) (fun h => hv (by rw [h]; exact ⟨rfl, rfl⟩))
theorem decodeL_take {l : List UInt8} (hne : l ≠ []) (hv : ¬ ((Lib.decodeL l).1 = 65533 ∧ (Lib.decodeL l).2 = 1)) : Lib.decodeL (l.take (Lib.decodeL l).2) = Lib.decodeL l := by
  have h0 : 0 < l.length := List.length_pos_iff.2 hne
  obtain ⟨n, hn⟩ : ∃ n, (Lib.decodeL l).2 = n := ⟨_, rfl⟩
  have h1 : 1 ≤ n := by have := Lib.decodeL_width l; omega
  have h2 : n ≤ l.length := by have := Lib.decodeL_le l hne; omega
  rw [hn]
  have hl : (l.take n).length = n := by rw [List.length_take]; omega
  have g : ∀ j, j < n → ((l.take n).getD j 0).toNat = (l.getD j 0).toNat := by
    intro j hj
    rw [List.getD_eq_getElem?_getD, List.getD_eq_getElem?_getD, List.getElem?_take, if_pos hj]
  rw [Lib.decodeL_N] at hn
  rw [Lib.decodeL_N, Lib.decodeL_N, hl, g 0 (by omega)]
  exact decodeN_cut h1 h2 (by omega) (fun h => g 1 h) (fun h => g 2 h) (fun h => g 3 h)
theorem valid_app {l o : List UInt8} (hne : l ≠ []) (hv : ¬ ((Lib.decodeL l).1 = 65533 ∧ (Lib.decodeL l).2 = 1)) (ho : Lib.validD o = true) : Lib.validD (l.take (Lib.decodeL l).2 ++ o) = true := by
  have h0 : 0 < l.length := List.length_pos_iff.2 hne
  have h1 := Lib.decodeL_width l
  have ht := decodeL_take hne hv
  have hne2 : l.take (Lib.decodeL l).2 ≠ [] := by
    intro h
    have := congrArg List.length h
    rw [List.length_take] at this
    simp only [List.length_nil] at this
    omega
  have hg := decodeL_grow (o := o) hne2 (by rw [ht]; exact hv)
  rw [ht] at hg
  rw [Lib.validD_step _ (by simp [hne2]), hg, if_neg hv]
  have h2 := Lib.decodeL_le l hne
  rw [List.drop_append_of_le_length (by rw [List.length_take]; omega), List.drop_of_length_le (by rw [List.length_take]; omega)]
  exact ho
/-- A rune of more than one byte has none below 128. -/
theorem high_bytes {l : List UInt8} (hne : l ≠ []) (hv : ¬ ((Lib.decodeL l).1 = 65533 ∧ (Lib.decodeL l).2 = 1)) (h0 : 128 ≤ (l.getD 0 0).toNat) : ∀ x ∈ l.take (Lib.decodeL l).2, 128 ≤ x.toNat := by
  have hl : 0 < l.length := List.length_pos_iff.2 hne
  have key : ∀ (n : Nat), (∀ j, j < n → 128 ≤ (l.getD j 0).toNat) → ∀ x ∈ l.take n, 128 ≤ x.toNat := by
    intro n hn x hx
    obtain ⟨j, hj, rfl⟩ := List.mem_iff_getElem.1 hx
    rw [List.length_take] at hj
    have := hn j (by omega)
    rw [List.getD_eq_getElem?_getD, List.getElem?_eq_getElem (by omega)] at this
    rw [List.getElem_take]
    exact this
  rw [Lib.decodeL_N] at hv ⊢
  refine key _ ?_
  unfold Lib.decodeN at hv ⊢
  intro j hj
  by_cases j0 : j = 0
  · subst j0; exact h0
  rw [if_neg (by omega)] at hj hv
  split at hj
  · rename_i k1
    rw [if_pos k1] at hv
    split at hj
    · have : j = 1 := by omega
      subst this; omega
    · have : j = 0 := by omega
      exact absurd this j0
  · rename_i k1
    rw [if_neg k1] at hv
    split at hj
    · rename_i k2
      split at hj
      · have : j = 1 ∨ j = 2 := by omega
        rcases this with rfl | rfl <;> omega
      · have : j = 0 := by omega
        exact absurd this j0
    · rename_i k2
      split at hj
      · rename_i k3
        split at hj
        · have : j = 1 ∨ j = 2 ∨ j = 3 := by omega
          rcases this with rfl | rfl | rfl <;> omega
        · have : j = 0 := by omega
          exact absurd this j0
      · have : j = 0 := by omega
        exact absurd this j0
end Go.Proofs.YtmjoebnphacadaaGreatDoor.Lex
/- strconv.Unquote at such texts: its run. -/
namespace Go.Proofs.YtmjoebnphacadaaGreatDoor.Lex
open Go.RowKit Go.Lib Go.Proofs.YtmjoebnphacadaaGreatDoor.Pure Go.Proofs.YtmjoebnphacadaaGreatDoor.Q Go.Proofs.YtmjoebnphacadaaGreatDoorW.PrintWords Go.Proofs.YtmjoebnphacadaaGreatDoorW.PrintLast
set_option linter.unusedVariables false
set_option linter.unusedSimpArgs false
def bl (l : List UInt8) : ByteArray := ⟨l.toArray⟩
theorem bl_list (l : List UInt8) : (bl l).data.toList = l := rfl
theorem bl_size (l : List UInt8) : (bl l).size = l.length := by rw [← list_size]; rfl
theorem bl_drop (l : List UInt8) (k : Nat) : (bl l).extract k (bl l).size = bl (l.drop k) := by
  refine ByteArray.ext (Array.toList_inj.1 ?_)
  rw [ext_list]
  rfl
theorem bl_byte (c : UInt8) (r : List UInt8) : bN (bl (c :: r)) 0 = c.toNat := by
  unfold bN
  rw [dif_pos (by rw [bl_size]; simp)]
  rfl
theorem bl_byte1 (c d : UInt8) (r : List UInt8) : bN (bl (c :: d :: r)) 1 = d.toNat := by
  unfold bN
  rw [dif_pos (by rw [bl_size]; simp)]
  rfl
theorem bl_dec (l : List UInt8) : Utf8.decode (bl l) 0 = Lib.decodeL l := rfl
/-- One step of the loop, at a byte that stands for itself or what an escape says. -/
theorem uq_byte {c : UInt8} {r acc : List UInt8} {f : Nat} (h : c.toNat < 128) (h34 : c.toNat ≠ 34) (h92 : c.toNat ≠ 92) (h10 : c.toNat ≠ 10) : uqL (f + 1) (bl (c :: r)) acc = uqL f (bl r) (acc ++ [c]) := by
  have hb := bl_byte c r
  have hc : uqC (bl (c :: r)) = some ⟨(c.toNat : Nat), false, bl r⟩ := by
    unfold uqC
    rw [hb, if_neg (by omega), if_pos h92, bl_drop]
    rfl
  rw [uqL_step (by rw [bl_size, hb]; simp only [List.length_cons]; omega) hc (by rw [hb]; exact h10)]
  have e : uqB ⟨(c.toNat : Nat), false, bl r⟩ = [c] := by
    unfold uqB
    rw [if_pos (.inr rfl)]
    have := c.toNat_lt
    show [UInt8.ofNat (((c.toNat : Nat) : Int) % 256).toNat] = [c]
    rw [show (((c.toNat : Nat) : Int) % 256).toNat = c.toNat by omega, UInt8.ofNat_toNat]
  rw [e]
theorem uq_esc {d v : UInt8} {c : UInt8} {r acc : List UInt8} {f : Nat} (h92 : c.toNat = 92) (hv : uqE d.toNat (bl r) = some ⟨(v.toNat : Nat), false, bl r⟩) : uqL (f + 1) (bl (c :: d :: r)) acc = uqL f (bl r) (acc ++ [v]) := by
  have hb := bl_byte c (d :: r)
  have hb1 := bl_byte1 c d r
  have hc : uqC (bl (c :: d :: r)) = some ⟨(v.toNat : Nat), false, bl r⟩ := by
    unfold uqC
    rw [hb, hb1, if_neg (by omega), if_neg (by omega), if_neg (by rw [bl_size]; simp only [List.length_cons]; omega), bl_drop]
    exact hv
  rw [uqL_step (by rw [bl_size, hb]; simp only [List.length_cons]; omega) hc (by rw [hb]; omega)]
  have e : uqB ⟨(v.toNat : Nat), false, bl r⟩ = [v] := by
    unfold uqB
    rw [if_pos (.inr rfl)]
    have := v.toNat_lt
    show [UInt8.ofNat (((v.toNat : Nat) : Int) % 256).toNat] = [v]
    rw [show (((v.toNat : Nat) : Int) % 256).toNat = v.toNat by omega, UInt8.ofNat_toNat]
  rw [e]
theorem uq_rune {c : UInt8} {r acc : List UInt8} {f : Nat} (h : 128 ≤ c.toNat) (hv : ¬ ((Lib.decodeL (c :: r)).1 = 65533 ∧ (Lib.decodeL (c :: r)).2 = 1)) :
    uqL (f + 1) (bl (c :: r)) acc = uqL f (bl ((c :: r).drop (Lib.decodeL (c :: r)).2)) (acc ++ (c :: r).take (Lib.decodeL (c :: r)).2) := by
  have hb := bl_byte c r
  have hd := bl_dec (c :: r)
  have hc : uqC (bl (c :: r)) = some ⟨((Lib.decodeL (c :: r)).1 : Nat), true, bl ((c :: r).drop (Lib.decodeL (c :: r)).2)⟩ := by
    unfold uqC
    rw [hb, if_pos h]
    rw [show wdt (bl (c :: r)) 0 = (Lib.decodeL (c :: r)).2 from rfl, bl_drop]
    rfl
  have hbig : ¬ (Lib.decodeL (c :: r)).1 < 128 := by
    intro hs
    have h2 := (decode_small (bl (c :: r)) 0 hs).2
    have h3 : ((bl (c :: r)).get! 0).toNat = c.toNat := by
      rw [get_list, bl_list]
      rfl
    have h4 : (Utf8.decode (bl (c :: r)) 0).1 = (Lib.decodeL (c :: r)).1 := rfl
    omega
  rw [uqL_step (by rw [bl_size, hb]; simp only [List.length_cons]; omega) hc (by rw [hb]; omega)]
  have e : uqB ⟨((Lib.decodeL (c :: r)).1 : Nat), true, bl ((c :: r).drop (Lib.decodeL (c :: r)).2)⟩ = (c :: r).take (Lib.decodeL (c :: r)).2 := by
    unfold uqB
    rw [if_neg (by simp only [Bool.true_eq_false, or_false]; omega)]
    exact Lib.encode_decode (c :: r) (by simp) hv
  rw [e]
/-- The loop over what stands between the quotes. -/
theorem uq_run : ∀ (n : Nat) (body : List UInt8), body.length ≤ n → ∀ (b acc : List UInt8) (f : Nat), nq body = true → wiL body = some b → Lib.validD body = true → body.length < f →
    uqL f (bl (body ++ [34])) acc = some (acc ++ b, bl [34]) ∧ Lib.validD b = true := by
  intro n
  induction n with
  | zero =>
    intro body hn b acc f _ hw _ hf
    obtain rfl := List.eq_nil_of_length_eq_zero (show body.length = 0 by omega)
    have hb : b = [] := (Option.some.inj hw).symm
    subst hb
    obtain ⟨g, rfl⟩ : ∃ g, f = g + 1 := ⟨f - 1, by simp only [List.length_nil] at hf; omega⟩
    rw [List.append_nil]
    exact ⟨uqL_end (.inr (bl_byte 34 [])), rfl⟩
  | succ n ih =>
    intro body hn b acc f hq hw hv hf
    obtain ⟨g, rfl⟩ : ∃ g, f = g + 1 := ⟨f - 1, by omega⟩
    cases body with
    | nil =>
      have hb : b = [] := (Option.some.inj hw).symm
      subst hb
      rw [List.append_nil]
      exact ⟨uqL_end (.inr (bl_byte 34 [])), rfl⟩
    | cons c r =>
      simp only [List.length_cons] at hn hf
      by_cases h128 : 128 ≤ c.toNat
      · have hne : c :: r ≠ [] := by simp
        rw [Lib.validD_step _ hne] at hv
        have hdv : ¬ ((Lib.decodeL (c :: r)).1 = 65533 ∧ (Lib.decodeL (c :: r)).2 = 1) := by
          intro h
          rw [if_pos h] at hv
          exact nomatch hv
        rw [if_neg hdv] at hv
        have hg := decodeL_grow (o := [34]) hne hdv
        have hw1 := Lib.decodeL_width (c :: r)
        have hw2 := Lib.decodeL_le (c :: r) hne
        have hhigh := high_bytes hne hdv h128
        have hsplit : c :: r = (c :: r).take (Lib.decodeL (c :: r)).2 ++ (c :: r).drop (Lib.decodeL (c :: r)).2 := (List.take_append_drop _ _).symm
        have hw' : wiL ((c :: r).take (Lib.decodeL (c :: r)).2 ++ (c :: r).drop (Lib.decodeL (c :: r)).2) = some b := by rw [← hsplit]; exact hw
        have hq' : nq ((c :: r).take (Lib.decodeL (c :: r)).2 ++ (c :: r).drop (Lib.decodeL (c :: r)).2) = true := by rw [← hsplit]; exact hq
        obtain ⟨b2, hb2, rfl⟩ := wiL_high hhigh hw'
        have hq2 := nq_high hhigh hq'
        obtain ⟨i1, i2⟩ := ih ((c :: r).drop (Lib.decodeL (c :: r)).2) (by rw [List.length_drop]; simp only [List.length_cons]; omega) b2 (acc ++ (c :: r).take (Lib.decodeL (c :: r)).2) g hq2 hb2 hv (by rw [List.length_drop]; simp only [List.length_cons]; omega)
        have e1 : uqL (g + 1) (bl (c :: (r ++ [34]))) acc = uqL g (bl ((c :: (r ++ [34])).drop (Lib.decodeL (c :: (r ++ [34]))).2)) (acc ++ (c :: (r ++ [34])).take (Lib.decodeL (c :: (r ++ [34]))).2) := uq_rune h128 (by
          have : c :: (r ++ [34]) = (c :: r) ++ [34] := rfl
          rw [this, hg]
          exact hdv)
        have e2 : c :: (r ++ [34]) = (c :: r) ++ [34] := rfl
        rw [e2, hg, List.drop_append_of_le_length hw2, List.take_append_of_le_length hw2] at e1
        refine ⟨?_, valid_app hne hdv i2⟩
        show uqL (g + 1) (bl ((c :: r) ++ [34])) acc = _
        rw [e1, i1, List.append_assoc]
      · by_cases h92 : c.toNat = 92
        · cases r with
          | nil =>
            unfold nq at hq
            simp [h92] at hq
          | cons d r =>
            have hq2 : nq r = true := by
              unfold nq at hq
              rw [if_pos h92] at hq
              exact hq
            have hcd : Lib.validD (c :: d :: r) = Lib.validD (d :: r) := Lib.validD_cons c _ (by omega)
            rw [hcd] at hv
            unfold wiL at hw
            rw [if_neg (by omega), if_pos h92] at hw
            simp only [List.length_cons] at hn hf
            have go : ∀ (v : UInt8), v.toNat < 128 → d.toNat < 128 → uqE d.toNat (bl (r ++ [34])) = some ⟨(v.toNat : Nat), false, bl (r ++ [34])⟩ → (wiL r).map (v :: ·) = some b → uqL (g + 1) (bl ((c :: d :: r) ++ [34])) acc = some (acc ++ b, bl [34]) ∧ Lib.validD b = true := by
              intro v hv128 hd128 hE hm
              rw [Lib.validD_cons d _ hd128] at hv
              cases hb2 : wiL r with
              | none => rw [hb2] at hm; exact nomatch hm
              | some b2 =>
                rw [hb2] at hm
                obtain rfl := Option.some.inj hm
                obtain ⟨i1, i2⟩ := ih r (by omega) b2 (acc ++ [v]) g hq2 hb2 hv (by omega)
                refine ⟨?_, by rw [Lib.validD_cons v _ hv128]; exact i2⟩
                show uqL (g + 1) (bl (c :: d :: (r ++ [34]))) acc = _
                rw [uq_esc h92 hE, i1, List.append_assoc]
                rfl
            by_cases h110 : d.toNat = 110
            · rw [if_pos h110] at hw
              exact go 10 (by decide) (by omega) (by rw [h110]; rfl) hw
            · rw [if_neg h110] at hw
              by_cases hd : d.toNat = 34 ∨ d.toNat = 92
              · rw [if_pos hd] at hw
                refine go d (by omega) (by omega) ?_ hw
                rcases hd with hd | hd <;> (rw [hd]; rfl)
              · rw [if_neg hd] at hw
                exact nomatch hw
        · obtain ⟨h34, hq2⟩ := nq_one h92 hq
          have h32 : ¬ (c.toNat < 32 ∨ c.toNat = 127) := by
            intro h
            cases r with
            | nil => unfold wiL at hw; rw [if_pos h] at hw; exact nomatch hw
            | cons d r => unfold wiL at hw; rw [if_pos h] at hw; exact nomatch hw
          obtain ⟨b2, hb2, rfl⟩ := wiL_one h32 h92 hw
          rw [Lib.validD_cons c _ (by omega)] at hv
          obtain ⟨i1, i2⟩ := ih r (by omega) b2 (acc ++ [c]) g hq2 hb2 hv (by omega)
          refine ⟨?_, by rw [Lib.validD_cons c _ (by omega)]; exact i2⟩
          show uqL (g + 1) (bl (c :: (r ++ [34]))) acc = _
          rw [uq_byte (by omega) h34 h92 (by omega), i1, List.append_assoc]
          rfl
end Go.Proofs.YtmjoebnphacadaaGreatDoor.Lex
/- A quoted token whose escapes are told: what it stands for. -/
namespace Go.Proofs.YtmjoebnphacadaaGreatDoor.Lex
open Go.RowKit Go.Lib Go.Proofs.YtmjoebnphacadaaGreatDoor.Pure Go.Proofs.YtmjoebnphacadaaGreatDoor.Q Go.Proofs.YtmjoebnphacadaaGreatDoorW.PrintWords Go.Proofs.YtmjoebnphacadaaGreatDoorW.PrintLast
set_option linter.unusedVariables false
set_option linter.unusedSimpArgs false
theorem wiL_plain : ∀ (n : Nat) (body b : List UInt8), body.length ≤ n → (∀ x ∈ body, x.toNat ≠ 92) → wiL body = some b → b = body := by
  intro n
  induction n with
  | zero =>
    intro body b hn _ hw
    obtain rfl := List.eq_nil_of_length_eq_zero (show body.length = 0 by omega)
    exact (Option.some.inj hw).symm
  | succ n ih =>
    intro body b hn h hw
    cases body with
    | nil => exact (Option.some.inj hw).symm
    | cons c r =>
      have h92 := h c (by simp)
      have h32 : ¬ (c.toNat < 32 ∨ c.toNat = 127) := by
        intro hx
        cases r with
        | nil => unfold wiL at hw; rw [if_pos hx] at hw; exact nomatch hw
        | cons d r => unfold wiL at hw; rw [if_pos hx] at hw; exact nomatch hw
      obtain ⟨b2, hb2, rfl⟩ := wiL_one h32 h92 hw
      simp only [List.length_cons] at hn
      rw [ih r b2 (by omega) (fun x hx => h x (by simp [hx])) hb2]
theorem ix_cons (b c : UInt8) (l : List UInt8) : (Lib.indexByte (b :: l) c).toNat = if b = c then 0 else if Lib.indexByte l c < 0 then 0 else (Lib.indexByte l c).toNat + 1 := by
  have h1 := Lib.indexByte_ge l c
  have e : Lib.indexByte (b :: l) c = if b == c then 0 else if Lib.indexByte l c == -1 then -1 else Lib.indexByte l c + 1 := rfl
  rw [e]
  by_cases hb : b = c
  · rw [if_pos (by simpa using hb), if_pos hb]
    rfl
  · rw [if_neg (by simpa using hb), if_neg hb]
    by_cases hl : Lib.indexByte l c = -1
    · rw [if_pos (by simpa using hl), if_pos (by omega)]
      rfl
    · rw [if_neg (by simpa using hl), if_neg (by omega)]
      omega
theorem ix_end : ∀ (body : List UInt8), 0 ≤ Lib.indexByte (body ++ [34]) 34 := by
  intro body
  obtain ⟨k, hk, _⟩ := indexByte_has (body ++ [34]) 34 (by simp)
  omega
/-- The first quote is the closing one, where no backslash stands ahead of it. -/
theorem nq_ix : ∀ (body : List UInt8), nq body = true → (∀ x ∈ (body ++ [34]).take ((Lib.indexByte (body ++ [34]) 34).toNat + 1), x.toNat ≠ 92) → (Lib.indexByte (body ++ [34]) 34).toNat = body.length ∧ (∀ x ∈ body, x.toNat ≠ 92) := by
  intro body
  induction body with
  | nil => intro _ _; exact ⟨rfl, fun x hx => absurd hx (by simp)⟩
  | cons c r ih =>
    intro hq h
    have hi := ix_end r
    have e := ix_cons c 34 (r ++ [34])
    have e2 : (c :: r) ++ [34] = c :: (r ++ [34]) := rfl
    rw [e2] at h ⊢
    have hc : c.toNat ≠ 92 := h c (by rw [List.take_succ_cons]; simp)
    obtain ⟨h34, hq2⟩ := nq_one hc hq
    have hne : ¬ c = 34 := by
      intro he
      rw [he] at h34
      exact h34 rfl
    rw [if_neg hne, if_neg (by omega)] at e
    rw [e] at h ⊢
    rw [List.take_succ_cons] at h
    obtain ⟨i1, i2⟩ := ih hq2 (fun x hx => h x (by simp [hx]))
    refine ⟨by rw [i1]; rfl, fun x hx => ?_⟩
    rcases List.mem_cons.1 hx with rfl | hx
    · exact hc
    · exact i2 x hx
theorem unqS_ok {body b : List UInt8} (hq : nq body = true) (hw : wiL body = some b) (hv : Lib.validD body = true) : unqS (bl (34 :: (body ++ [34]))) = some (bl b) ∧ Lib.validD b = true := by
  have hs : (bl (34 :: (body ++ [34]))).extract 1 (bl (34 :: (body ++ [34]))).size = bl (body ++ [34]) := bl_drop (34 :: (body ++ [34])) 1
  obtain ⟨r1, r2⟩ := uq_run body.length body (Nat.le_refl _) b [] ((bl (34 :: (body ++ [34]))).size + 1) hq hw hv (by rw [bl_size]; simp only [List.length_cons, List.length_append, List.length_nil]; omega)
  refine ⟨?_, r2⟩
  have hz : (bl (34 :: (body ++ [34]))).size = body.length + 2 := by rw [bl_size]; simp
  have key : untR (bl (34 :: (body ++ [34]))) = some (bl b, ⟨#[]⟩) := by
    unfold untR unqK
    rw [hs, bl_list]
    split
    · rename_i hc
      obtain ⟨c1, c2, c3⟩ := hc
      have e34 : UInt8.ofNat 34 = 34 := rfl
      rw [e34] at c1 c2 c3 ⊢
      have hno : ∀ x ∈ (body ++ [34]).take ((Lib.indexByte (body ++ [34]) 34).toNat + 1), x.toNat ≠ 92 := by
        intro x hx h92
        have hx2 : x = UInt8.ofNat 92 := by rw [← h92, UInt8.ofNat_toNat]
        have : hasB ((bl (34 :: (body ++ [34]))).extract 0 ((Lib.indexByte (body ++ [34]) 34).toNat + 2)) (UInt8.ofNat 92) = true := by
          unfold hasB
          rw [Lib.extract_data, List.drop_zero, Nat.sub_zero, bl_list, List.take_succ_cons]
          rw [List.contains_eq_mem, decide_eq_true_eq, ← hx2]
          exact List.mem_cons_of_mem _ hx
        rw [this] at c1
        exact nomatch c1
      obtain ⟨k1, k2⟩ := nq_ix body hq hno
      rw [k1]
      have hb := wiL_plain _ body b (Nat.le_refl _) k2 hw
      subst hb
      have p1 : (bl (34 :: (b ++ [34]))).extract 1 (b.length + 1) = bl b := by
        refine ByteArray.ext (Array.toList_inj.1 ?_)
        rw [Lib.extract_data, bl_list]
        show (b ++ [34]).take (b.length + 1 - 1) = b
        rw [show b.length + 1 - 1 = b.length by omega, List.take_append_of_le_length (Nat.le_refl _), List.take_length]
      have p2 : (bl (34 :: (b ++ [34]))).extract (b.length + 2) (bl (34 :: (b ++ [34]))).size = ⟨#[]⟩ := by
        refine ByteArray.ext (Array.toList_inj.1 ?_)
        rw [ext_list, bl_list, List.drop_of_length_le (by simp)]
      rw [p1, p2]
    · rw [r1, List.nil_append]
      show (if 0 < (bl [34]).size ∧ bN (bl [34]) 0 = 34 then some ((⟨b.toArray⟩ : ByteArray), (bl [34]).extract 1 (bl [34]).size) else none) = _
      rw [if_pos ⟨by decide, rfl⟩]
      rfl
  unfold unqS
  rw [key]
  rfl
theorem unqT_ok {body b : List UInt8} (hq : nq body = true) (hw : wiL body = some b) (hv : Lib.validD body = true) : unqT 8 (bl (34 :: (body ++ [34]))) = some (bl b) := by
  obtain ⟨h1, h2⟩ := unqS_ok hq hw hv
  unfold unqT
  rw [if_pos rfl, h1]
  show (if Lib.validD b = true then some (bl b) else none) = _
  rw [if_pos h2]
end Go.Proofs.YtmjoebnphacadaaGreatDoor.Lex
/- The scanner over bytes, at texts without white space of more than one byte. -/
namespace Go.Proofs.YtmjoebnphacadaaGreatDoor.Lex
open Go.RowKit Go.Lib Go.Proofs.YtmjoebnphacadaaGreatDoor.Pure Go.Proofs.YtmjoebnphacadaaGreatDoor.Q Go.Proofs.YtmjoebnphacadaaGreatDoorW.PrintWords Go.Proofs.YtmjoebnphacadaaGreatDoorW.PrintLast
set_option linter.unusedVariables false
set_option linter.unusedSimpArgs false
def blB (c : UInt8) : Bool := decide (c.toNat = 32) || (decide (9 ≤ c.toNat) && decide (c.toNat ≤ 13))
def resB (c : UInt8) : Bool := decide (c.toNat = 123) || decide (c.toNat = 125) || decide (c.toNat = 33) || decide (c.toNat = 61) || decide (c.toNat = 126) || decide (c.toNat = 44) || decide (c.toNat = 92) || decide (c.toNat = 34) || decide (c.toNat = 39) || decide (c.toNat = 96) || blB c
theorem res_ascii : ∀ n, n < 128 → resR ((n : Nat) : Int) = resB (UInt8.ofNat n) ∧ Lib.isSpaceZ ((n : Nat) : Int) = blB (UInt8.ofNat n) := by decide +kernel
/-- A rune and its bytes, as they are in such a text. -/
def Nm (r : RB) : Prop := (r.1 < 128 ∧ r.2 = [UInt8.ofNat r.1]) ∨ (128 ≤ r.1 ∧ resR (r.1 : Int) = false ∧ r.2 ≠ [] ∧ ∀ x ∈ r.2, 128 ≤ x.toNat)
def Norm (L : List RB) : Prop := ∀ r ∈ L, Nm r
theorem high_res {x : UInt8} (h : 128 ≤ x.toNat) : resB x = false ∧ blB x = false := by
  have h2 : blB x = false := by
    unfold blB
    simp
    omega
  refine ⟨?_, h2⟩
  unfold resB
  rw [h2]
  simp
  omega
theorem nm_nr {r : RB} (h : Nm r) : (∀ x ∈ r.2, resB x = !(nr r)) ∧ r.2 ≠ [] := by
  rcases h with ⟨h1, h2⟩ | ⟨h1, h2, h3, h4⟩
  · rw [h2]
    refine ⟨fun x hx => ?_, by simp⟩
    obtain rfl := List.mem_singleton.1 hx
    show _ = !(!resR (r.1 : Int))
    rw [Bool.not_not]
    exact (res_ascii r.1 h1).1.symm
  · refine ⟨fun x hx => ?_, h3⟩
    show _ = !(!resR (r.1 : Int))
    rw [h2]
    exact (high_res (h4 x hx)).1
theorem txt_cons (r : RB) (L : List RB) : txt (r :: L) = r.2 ++ txt L := rfl
theorem tw_app {p : UInt8 → Bool} {w o : List UInt8} (h : ∀ x ∈ w, p x = true) : (w ++ o).takeWhile p = w ++ o.takeWhile p ∧ (w ++ o).dropWhile p = o.dropWhile p := ⟨List.takeWhile_append_of_pos h, List.dropWhile_append_of_pos h⟩
/-- A word, over bytes and over runes. -/
theorem word_list {L : List RB} (hL : Norm L) : (txt L).takeWhile (fun x => !resB x) = txt (L.takeWhile nr) ∧ (txt L).dropWhile (fun x => !resB x) = txt (L.dropWhile nr) := by
  induction L with
  | nil => exact ⟨rfl, rfl⟩
  | cons r L ih =>
    obtain ⟨i1, i2⟩ := ih (fun x hx => hL x (by simp [hx]))
    obtain ⟨k1, k2⟩ := nm_nr (hL r (by simp))
    by_cases hn : nr r = true
    · rw [List.takeWhile_cons_of_pos hn, List.dropWhile_cons_of_pos hn, txt_cons, txt_cons]
      obtain ⟨t1, t2⟩ := tw_app (p := fun x => !resB x) (w := r.2) (o := txt L) (fun x hx => by rw [k1 x hx, hn]; rfl)
      rw [t1, t2, i1, i2]
      exact ⟨rfl, rfl⟩
    · rw [List.takeWhile_cons_of_neg hn, List.dropWhile_cons_of_neg hn, txt_cons]
      cases hr : r.2 with
      | nil => exact absurd hr k2
      | cons x w =>
        have hx := k1 x (by rw [hr]; simp)
        have hx2 : ¬ (!resB x) = true := by rw [hx]; simpa using hn
        rw [List.cons_append]
        exact ⟨List.takeWhile_cons_of_neg (p := fun x => !resB x) hx2, List.dropWhile_cons_of_neg (p := fun x => !resB x) hx2⟩
/-- Up to the closing quote, over bytes. -/
def closeB : Bool → List UInt8 → Option (List UInt8 × List UInt8)
  | _, [] => none
  | true, c :: r => (closeB false r).map fun q => (c :: q.1, q.2)
  | false, c :: r => if c.toNat = 92 then (closeB true r).map fun q => (c :: q.1, q.2) else if c.toNat = 34 then some ([c], r) else (closeB false r).map fun q => (c :: q.1, q.2)
theorem close_high {w : List UInt8} (hw : ∀ x ∈ w, 128 ≤ x.toNat) (o : List UInt8) : closeB false (w ++ o) = (closeB false o).map fun q => (w ++ q.1, q.2) := by
  induction w with
  | nil => show closeB false o = (closeB false o).map fun q => (q.1, q.2); cases closeB false o <;> rfl
  | cons x w ih =>
    have hx := hw x (by simp)
    have e : closeB false (x :: (w ++ o)) = (closeB false (w ++ o)).map fun q => (x :: q.1, q.2) := (if_neg (by omega)).trans (if_neg (by omega))
    rw [List.cons_append, e, ih (fun y hy => hw y (by simp [hy])), Option.map_map]
    rfl
theorem close_list {L : List RB} (hL : Norm L) : ∀ (b : Bool), closeB b (txt L) = (quoL b L).map fun q => (txt q.1, txt q.2) := by
  induction L with
  | nil => intro b; cases b <;> rfl
  | cons r L ih =>
    intro b
    have hLt : Norm L := fun x hx => hL x (by simp [hx])
    have i := ih hLt
    rw [txt_cons]
    rcases hL r (by simp) with ⟨h1, h2⟩ | ⟨h1, h2, h3, h4⟩
    · rw [h2]
      have hc : (UInt8.ofNat r.1).toNat = r.1 := by rw [UInt8.toNat_ofNat']; omega
      show closeB b (UInt8.ofNat r.1 :: txt L) = _
      have mp : ∀ (b2 : Bool), ((closeB b2 (txt L)).map fun q => (UInt8.ofNat r.1 :: q.1, q.2)) = ((quoL b2 L).map fun q => (r :: q.1, q.2)).map fun q => (txt q.1, txt q.2) := by
        intro b2
        rw [i b2, Option.map_map, Option.map_map]
        congr 1
        funext q
        show (UInt8.ofNat r.1 :: txt q.1, txt q.2) = (r.2 ++ txt q.1, txt q.2)
        rw [h2]
        rfl
      cases b with
      | true => exact mp false
      | false =>
        have e1 : closeB false (UInt8.ofNat r.1 :: txt L) = if (UInt8.ofNat r.1).toNat = 92 then (closeB true (txt L)).map fun q => (UInt8.ofNat r.1 :: q.1, q.2) else if (UInt8.ofNat r.1).toNat = 34 then some ([UInt8.ofNat r.1], txt L) else (closeB false (txt L)).map fun q => (UInt8.ofNat r.1 :: q.1, q.2) := rfl
        have e2 : quoL false (r :: L) = if r.1 = 92 then (quoL true L).map (fun q => (r :: q.1, q.2)) else if r.1 = 34 then some ([r], L) else (quoL false L).map fun q => (r :: q.1, q.2) := rfl
        rw [e1, e2, hc]
        by_cases k1 : r.1 = 92
        · rw [if_pos k1, if_pos k1]; exact mp true
        · rw [if_neg k1, if_neg k1]
          by_cases k2 : r.1 = 34
          · rw [if_pos k2, if_pos k2]
            show some ([UInt8.ofNat r.1], txt L) = some (r.2 ++ [], txt L)
            rw [h2]
            rfl
          · rw [if_neg k2, if_neg k2]; exact mp false
    · cases hr : r.2 with
      | nil => exact absurd hr h3
      | cons x w =>
        have hx : 128 ≤ x.toNat := h4 x (by rw [hr]; simp)
        have hw : ∀ y ∈ w, 128 ≤ y.toNat := fun y hy => h4 y (by rw [hr]; simp [hy])
        have fin : ((closeB false (w ++ txt L)).map fun q => (x :: q.1, q.2)) = ((quoL false L).map fun q => (r :: q.1, q.2)).map fun q => (txt q.1, txt q.2) := by
          rw [close_high hw, i false, Option.map_map, Option.map_map, Option.map_map]
          congr 1
          funext q
          show (x :: (w ++ txt q.1), txt q.2) = (r.2 ++ txt q.1, txt q.2)
          rw [hr]
          rfl
        show closeB b (x :: (w ++ txt L)) = _
        cases b with
        | true => exact fin
        | false =>
          rw [show closeB false (x :: (w ++ txt L)) = (closeB false (w ++ txt L)).map (fun q => (x :: q.1, q.2)) from (if_neg (by omega)).trans (if_neg (by omega)), show quoL false (r :: L) = (quoL false L).map (fun q => (r :: q.1, q.2)) from (if_neg (by omega)).trans (if_neg (by omega))]
          exact fin
inductive LB
  | eof
  | bad
  | tok (k : Nat) (w rest : List UInt8)
def opB (c : UInt8) : List UInt8 → LB
  | [] => if c.toNat = 33 then .bad else .tok 4 [c] []
  | x :: r => if c.toNat = 33 then (if x.toNat = 61 then .tok 5 [c, x] r else if x.toNat = 126 then .tok 7 [c, x] r else .bad) else if x.toNat = 126 then .tok 6 [c, x] r else .tok 4 [c] (x :: r)
/-- The next token of a list of bytes. -/
def scanB : List UInt8 → LB
  | [] => .eof
  | c :: r =>
    if blB c = true then scanB r
    else if c.toNat = 123 then .tok 1 [c] r
    else if c.toNat = 125 then .tok 2 [c] r
    else if c.toNat = 44 then .tok 3 [c] r
    else if c.toNat = 61 ∨ c.toNat = 33 then opB c r
    else if c.toNat = 34 then (match closeB false r with | some q => .tok 8 (c :: q.1) q.2 | none => .bad)
    else if resB c = false then .tok 9 ((c :: r).takeWhile fun x => !resB x) ((c :: r).dropWhile fun x => !resB x)
    else .bad
def SameLB : LR → LB → Prop
  | .eof, .eof => True
  | .bad, .bad => True
  | .tok k T rest, .tok k2 w o => k = k2 ∧ w = txt T ∧ o = txt rest
  | _, _ => False
theorem Norm.suffix {L T rest w : List RB} (h : Norm L) (e : L = w ++ T ++ rest) : Norm rest := fun r hr => h r (by rw [e]; simp [hr])
theorem opB_list {r : RB} {L : List RB} (hr : r.1 < 128) (hL : Norm L) (h4 : r.1 = 61 ∨ r.1 = 33) (h2 : r.2 = [UInt8.ofNat r.1]) : SameLB (opL r L) (opB (UInt8.ofNat r.1) (txt L)) := by
  have hc : (UInt8.ofNat r.1).toNat = r.1 := by rw [UInt8.toNat_ofNat']; omega
  have t1 : txt [r] = [UInt8.ofNat r.1] := by show r.2 ++ [] = _; rw [h2]; rfl
  cases L with
  | nil =>
    show SameLB (if r.1 = 33 then .bad else .tok 4 [r] []) (if (UInt8.ofNat r.1).toNat = 33 then .bad else .tok 4 [UInt8.ofNat r.1] [])
    rw [hc]
    split
    · trivial
    · exact ⟨rfl, t1.symm, rfl⟩
  | cons x L =>
    rw [txt_cons]
    rcases hL x (by simp) with ⟨x1, x2⟩ | ⟨x1, x2, x3, x4⟩
    · rw [x2]
      have hx : (UInt8.ofNat x.1).toNat = x.1 := by rw [UInt8.toNat_ofNat']; omega
      have t2 : txt [r, x] = [UInt8.ofNat r.1, UInt8.ofNat x.1] := by show r.2 ++ (x.2 ++ []) = _; rw [h2, x2]; rfl
      show SameLB (if r.1 = 33 then (if x.1 = 61 then .tok 5 [r, x] L else if x.1 = 126 then .tok 7 [r, x] L else .bad) else if x.1 = 126 then .tok 6 [r, x] L else .tok 4 [r] (x :: L)) (if (UInt8.ofNat r.1).toNat = 33 then (if (UInt8.ofNat x.1).toNat = 61 then .tok 5 [UInt8.ofNat r.1, UInt8.ofNat x.1] (txt L) else if (UInt8.ofNat x.1).toNat = 126 then .tok 7 [UInt8.ofNat r.1, UInt8.ofNat x.1] (txt L) else .bad) else if (UInt8.ofNat x.1).toNat = 126 then .tok 6 [UInt8.ofNat r.1, UInt8.ofNat x.1] (txt L) else .tok 4 [UInt8.ofNat r.1] (UInt8.ofNat x.1 :: txt L))
      rw [hc, hx]
      repeat' split
      all_goals first | trivial | exact ⟨rfl, t2.symm, rfl⟩ | exact ⟨rfl, t1.symm, by show _ = x.2 ++ txt L; rw [x2]; rfl⟩
    · cases hxw : x.2 with
      | nil => exact absurd hxw x3
      | cons y w =>
        have hy : 128 ≤ y.toNat := x4 y (by rw [hxw]; simp)
        show SameLB (if r.1 = 33 then (if x.1 = 61 then .tok 5 [r, x] L else if x.1 = 126 then .tok 7 [r, x] L else .bad) else if x.1 = 126 then .tok 6 [r, x] L else .tok 4 [r] (x :: L)) (if (UInt8.ofNat r.1).toNat = 33 then (if y.toNat = 61 then .tok 5 [UInt8.ofNat r.1, y] (w ++ txt L) else if y.toNat = 126 then .tok 7 [UInt8.ofNat r.1, y] (w ++ txt L) else .bad) else if y.toNat = 126 then .tok 6 [UInt8.ofNat r.1, y] (w ++ txt L) else .tok 4 [UInt8.ofNat r.1] (y :: (w ++ txt L)))
        rw [hc]
        rw [if_neg (show ¬ x.1 = 61 by omega), if_neg (show ¬ x.1 = 126 by omega), if_neg (show ¬ x.1 = 126 by omega), if_neg (show ¬ y.toNat = 61 by omega), if_neg (show ¬ y.toNat = 126 by omega), if_neg (show ¬ y.toNat = 126 by omega)]
        split
        · trivial
        · exact ⟨rfl, t1.symm, by show _ = x.2 ++ txt L; rw [hxw]; rfl⟩
/-- The scanner over bytes finds the scanner's tokens. -/
theorem scanB_list {L : List RB} (hL : Norm L) : SameLB (scanL L) (scanB (txt L)) := by
  induction L with
  | nil => trivial
  | cons r L ih =>
    have hLt : Norm L := fun x hx => hL x (by simp [hx])
    have hm := hL r (by simp)
    rcases hm with ⟨h1, h2⟩ | ⟨h1, h2, h3, h4⟩
    · obtain ⟨q1, q2⟩ := res_ascii r.1 h1
      have hc : (UInt8.ofNat r.1).toNat = r.1 := by rw [UInt8.toNat_ofNat']; omega
      have t1 : txt [r] = [UInt8.ofNat r.1] := by show r.2 ++ [] = _; rw [h2]; rfl
      have eB : scanB (txt (r :: L)) = (if blB (UInt8.ofNat r.1) = true then scanB (txt L)
        else if r.1 = 123 then .tok 1 [UInt8.ofNat r.1] (txt L)
        else if r.1 = 125 then .tok 2 [UInt8.ofNat r.1] (txt L)
        else if r.1 = 44 then .tok 3 [UInt8.ofNat r.1] (txt L)
        else if r.1 = 61 ∨ r.1 = 33 then opB (UInt8.ofNat r.1) (txt L)
        else if r.1 = 34 then (match closeB false (txt L) with | some q => .tok 8 (UInt8.ofNat r.1 :: q.1) q.2 | none => .bad)
        else if resB (UInt8.ofNat r.1) = false then .tok 9 ((txt (r :: L)).takeWhile fun x => !resB x) ((txt (r :: L)).dropWhile fun x => !resB x)
        else .bad) := by
        rw [txt_cons, h2]
        show scanB (UInt8.ofNat r.1 :: txt L) = _
        rw [scanB, hc]
        rfl
      rw [eB]
      by_cases hb : blB (UInt8.ofNat r.1) = true
      · rw [if_pos hb]
        have := scan_white (w := [r]) (R := L) (fun x hx => by obtain rfl := List.mem_singleton.1 hx; rw [q2]; exact hb)
        rw [show r :: L = [r] ++ L from rfl, this]
        exact ih hLt
      · rw [if_neg hb]
        have hsp : ¬ Lib.isSpaceZ (r.1 : Int) = true := by rw [q2]; exact hb
        unfold scanL
        by_cases k1 : r.1 = 123
        · rw [if_pos k1, if_pos k1]; exact ⟨rfl, t1.symm, rfl⟩
        rw [if_neg k1, if_neg k1]
        by_cases k2 : r.1 = 125
        · rw [if_pos k2, if_pos k2]; exact ⟨rfl, t1.symm, rfl⟩
        rw [if_neg k2, if_neg k2]
        by_cases k3 : r.1 = 44
        · rw [if_pos k3, if_pos k3]; exact ⟨rfl, t1.symm, rfl⟩
        rw [if_neg k3, if_neg k3]
        by_cases k4 : r.1 = 61 ∨ r.1 = 33
        · rw [if_pos k4, if_pos k4]; exact opB_list h1 hLt k4 h2
        rw [if_neg k4, if_neg k4]
        by_cases k5 : r.1 = 34
        · rw [if_pos k5, if_pos k5, close_list hLt false]
          cases quoL false L with
          | none => trivial
          | some q => exact ⟨rfl, by show _ = r.2 ++ txt q.1; rw [h2]; rfl, rfl⟩
        rw [if_neg k5, if_neg k5, q1]
        by_cases k6 : resB (UInt8.ofNat r.1) = false
        · rw [if_pos k6, if_pos k6]
          obtain ⟨w1, w2⟩ := word_list hL
          exact ⟨rfl, w1, w2⟩
        · rw [if_neg k6, if_neg k6, if_neg hsp]; trivial
    · obtain ⟨w1, w2⟩ := word_list hL
      have eL : scanL (r :: L) = .tok 9 ((r :: L).takeWhile nr) ((r :: L).dropWhile nr) := by
        rw [scanL.eq_def]
        dsimp only
        rw [if_neg (by omega), if_neg (by omega), if_neg (by omega), if_neg (by omega), if_neg (by omega), if_pos h2]
      cases hr : r.2 with
      | nil => exact absurd hr h3
      | cons x w =>
        have hx : 128 ≤ x.toNat := h4 x (by rw [hr]; simp)
        obtain ⟨y1, y2⟩ := high_res hx
        have et : txt (r :: L) = x :: (w ++ txt L) := by rw [txt_cons, hr]; rfl
        have eB : scanB (txt (r :: L)) = .tok 9 ((txt (r :: L)).takeWhile fun x => !resB x) ((txt (r :: L)).dropWhile fun x => !resB x) := by
          rw [et, scanB]
          rw [if_neg (by rw [y2]; simp), if_neg (by omega), if_neg (by omega), if_neg (by omega), if_neg (by omega), if_neg (by omega), if_pos y1]
        rw [eL, eB]
        exact ⟨rfl, w1, w2⟩
end Go.Proofs.YtmjoebnphacadaaGreatDoor.Lex
/- Texts that are UTF-8 without white space of more than one byte. -/
namespace Go.Proofs.YtmjoebnphacadaaGreatDoor.Lex
open Go.RowKit Go.Lib Go.Proofs.YtmjoebnphacadaaGreatDoor.Pure Go.Proofs.YtmjoebnphacadaaGreatDoor.Q Go.Proofs.YtmjoebnphacadaaGreatDoorW.PrintWords Go.Proofs.YtmjoebnphacadaaGreatDoorW.PrintLast
set_option linter.unusedVariables false
set_option linter.unusedSimpArgs false
def wideSeqs : List (List UInt8) := [[194, 133], [194, 160], [225, 154, 128], [226, 128, 168], [226, 128, 169], [226, 128, 175], [226, 129, 159], [227, 128, 128]]
def wideB (l : List UInt8) : Bool := wideSeqs.any (fun q => decide (l.take q.length = q)) || (decide (2 < l.length) && decide ((l.getD 0 0).toNat = 226) && decide ((l.getD 1 0).toNat = 128) && decide (128 ≤ (l.getD 2 0).toNat) && decide ((l.getD 2 0).toNat ≤ 138))
theorem idx_has {r : Int} {s : ByteArray} : ∀ (f pos : Nat), idxR r s f pos ≥ 0 → ∃ q, q < s.size ∧ (rn s q : Int) = r := by
  intro f
  induction f with
  | zero => intro pos h; simp [idxR] at h
  | succ f ih =>
    intro pos h
    by_cases hp : pos < s.size
    · rw [idxR_step hp] at h
      by_cases hr : ((Utf8.decode s pos).1 : Int) = r
      · exact ⟨pos, hp, hr⟩
      · rw [if_neg hr] at h
        exact ih _ h
    · rw [idxR_end r s _ pos hp] at h
      omega
theorem space_zr {r : Nat} (h : Lib.isSpaceZ (r : Int) = true) : Lib.isSpaceR r = true := by
  unfold Lib.isSpaceZ at h
  rw [if_pos (by omega), Int.toNat_natCast] at h
  exact h
theorem res_set : ∀ q, q < 10 → rn resSet q < 128 := by decide +kernel
theorem res_high {r : Nat} (h : 128 ≤ r) (hs : Lib.isSpaceZ (r : Int) = false) : resR (r : Int) = false := by
  unfold resR
  rw [hs, Bool.false_or]
  refine decide_eq_false fun hz => ?_
  unfold zzIdx at hz
  split at hz
  · omega
  · obtain ⟨q, hq, hr⟩ := idx_has _ _ hz
    have := res_set q hq
    omega
theorem txt_RL {s : ByteArray} : ∀ (d p : Nat), p ≤ s.size → s.size ≤ p + d → txt (RL s p) = s.data.toList.drop p := by
  intro d
  induction d with
  | zero =>
    intro p hp h
    rw [RL_end (by omega), List.drop_of_length_le (by rw [list_size]; omega)]
    rfl
  | succ d ih =>
    intro p hp h
    by_cases hq : p < s.size
    · have a1 := adv_le s p hq
      have a2 := adv_pos s p
      rw [RL_step hq, txt_cons, ih _ a1 (by omega)]
      show cut s p (p + wdt s p) ++ _ = _
      rw [cut_list, show p + wdt s p - p = wdt s p by omega, ← List.drop_drop, List.take_append_drop]
    · rw [RL_end hq, List.drop_of_length_le (by rw [list_size]; omega)]
      rfl
theorem dec_drop {s : ByteArray} {p : Nat} (hp : p < s.size) : Lib.decodeL (s.data.toList.drop p) = Utf8.decode s p := by
  rw [← ext_list]
  show Utf8.decode (s.extract p s.size) 0 = _
  rw [ext_decode (Nat.le_refl _) (by omega) (by have := adv_le s p hp; simpa using this)]
  rfl
theorem wide_all : ∀ q ∈ Lib.spaceSeqs, (∀ x ∈ q, 128 ≤ x.toNat) → wideB q = true := by decide
theorem wide_seq (q : List UInt8) (h : q ∈ Lib.spaceSeqs) (hq : ∀ x ∈ q, 128 ≤ x.toNat) : wideB q = true := wide_all q h hq
theorem wide_take {l : List UInt8} {n : Nat} (h : wideB (l.take n) = true) : wideB l = true := by
  unfold wideB at h ⊢
  rw [Bool.or_eq_true] at h ⊢
  rcases h with h | h
  · left
    rw [List.any_eq_true] at h ⊢
    obtain ⟨q, hq, h⟩ := h
    refine ⟨q, hq, ?_⟩
    rw [decide_eq_true_eq] at h ⊢
    rw [List.take_take] at h
    have := congrArg List.length h
    rw [List.length_take] at this
    rwa [show min q.length n = q.length by omega] at h
  · right
    simp only [Bool.and_eq_true, decide_eq_true_eq] at h ⊢
    obtain ⟨⟨⟨⟨h1, h2⟩, h3⟩, h4⟩, h5⟩ := h
    rw [List.length_take] at h1
    have g : ∀ j, j < 3 → (l.take n).getD j 0 = l.getD j 0 := by
      intro j hj
      rw [List.getD_eq_getElem?_getD, List.getD_eq_getElem?_getD, List.getElem?_take, if_pos (by omega)]
    rw [g 0 (by omega)] at h2
    rw [g 1 (by omega)] at h3
    rw [g 2 (by omega)] at h4 h5
    exact ⟨⟨⟨⟨by omega, h2⟩, h3⟩, h4⟩, h5⟩
theorem norm_of {s : ByteArray} (hv : VD s 0 = true) (hw : ∀ i, i < s.size → wideB (s.data.toList.drop i) = false) : Norm (RL s 0) := by
  have key : ∀ (d p : Nat), p ≤ s.size → s.size ≤ p + d → VD s p = true → Norm (RL s p) := by
    intro d
    induction d with
    | zero =>
      intro p hp h _
      rw [RL_end (by omega)]
      exact fun r hr => absurd hr (by simp)
    | succ d ih =>
      intro p hp h hvp
      by_cases hq : p < s.size
      · have a1 := adv_le s p hq
        have a2 := adv_pos s p
        rw [vd_step hq] at hvp
        have hdv : ¬ (rn s p = 65533 ∧ wdt s p = 1) := by
          intro hx
          rw [if_pos hx] at hvp
          exact nomatch hvp
        rw [if_neg hdv] at hvp
        rw [RL_step hq]
        intro r hr
        rcases List.mem_cons.1 hr with rfl | hr
        · have hne : s.data.toList.drop p ≠ [] := by
            intro h
            have := congrArg List.length h
            rw [List.length_drop, list_size] at this
            simp only [List.length_nil] at this
            omega
          have hd := dec_drop hq
          have hcut : cut s p (p + wdt s p) = (s.data.toList.drop p).take (Lib.decodeL (s.data.toList.drop p)).2 := by
            rw [cut_list, hd, show p + wdt s p - p = wdt s p by omega]
          by_cases h128 : rn s p < 128
          · obtain ⟨d1, d2⟩ := decode_small s p h128
            refine .inl ⟨h128, ?_⟩
            show cut s p (p + wdt s p) = [UInt8.ofNat (rn s p)]
            have hw1 : wdt s p = 1 := d1
            have hl : p < s.data.toList.length := by rw [list_size]; exact hq
            have hg : s.get! p = s.data.toList[p] := by rw [get_list, List.getD_eq_getElem?_getD, List.getElem?_eq_getElem hl]; rfl
            have hr2 : rn s p = (s.get! p).toNat := d2
            rw [cut_list, hw1, show p + 1 - p = 1 by omega, List.drop_eq_getElem_cons hl, hr2, hg, UInt8.ofNat_toNat]
            rfl
          · have hv2 : ¬ ((Lib.decodeL (s.data.toList.drop p)).1 = 65533 ∧ (Lib.decodeL (s.data.toList.drop p)).2 = 1) := by rw [hd]; exact hdv
            have h0 : 128 ≤ ((s.data.toList.drop p).getD 0 0).toNat := by
              rw [List.getD_eq_getElem?_getD, List.getElem?_drop, Nat.add_zero, ← List.getD_eq_getElem?_getD, ← get_list]
              have hge : s.get! p = s[p]'hq := get_at s p hq
              rw [hge]
              by_cases ha : (s[p]'hq).toNat < 128
              · have := Go.decode_ascii s p hq ha
                have h3 : rn s p = (s[p]'hq).toNat := congrArg Prod.fst this
                omega
              · omega
            have hhigh := high_bytes hne hv2 h0
            have hsp : Lib.isSpaceZ (rn s p : Int) = false := by
              cases hs : Lib.isSpaceZ (rn s p : Int) with
              | false => rfl
              | true =>
                exfalso
                have hsr : Lib.isSpaceR (Lib.decodeL (s.data.toList.drop p)).1 = true := by rw [hd]; exact space_zr hs
                obtain ⟨m1, m2⟩ := Lib.space_has_seq _ hne hsr
                have hwd := hw p hq
                have := wide_seq _ m1 hhigh
                rw [wide_take this] at hwd
                exact nomatch hwd
            refine .inr ⟨by show 128 ≤ rn s p; omega, res_high (by omega) hsp, ?_, ?_⟩
            · show cut s p (p + wdt s p) ≠ []
              rw [hcut]
              intro h
              have := congrArg List.length h
              rw [List.length_take] at this
              have h2 := Lib.decodeL_width (s.data.toList.drop p)
              have h3 : 0 < (s.data.toList.drop p).length := List.length_pos_iff.2 hne
              simp only [List.length_nil] at this
              omega
            · intro x hx
              have hx2 : x ∈ cut s p (p + wdt s p) := hx
              rw [hcut] at hx2
              exact hhigh x hx2
        · exact ih _ a1 (by omega) hvp r hr
      · rw [RL_end hq]
        exact fun r hr => absurd hr (by simp)
  exact key s.size 0 (Nat.zero_le _) (by omega) hv
end Go.Proofs.YtmjoebnphacadaaGreatDoor.Lex
/- The tokens of a settled text, over bytes. -/
namespace Go.Proofs.YtmjoebnphacadaaGreatDoor.Lex
open Go.RowKit Go.Lib Go.Proofs.YtmjoebnphacadaaGreatDoor.Pure Go.Proofs.YtmjoebnphacadaaGreatDoor.Q Go.Proofs.YtmjoebnphacadaaGreatDoorW.PrintWords Go.Proofs.YtmjoebnphacadaaGreatDoorW.PrintLast
set_option linter.unusedVariables false
set_option linter.unusedSimpArgs false
def strmB : Nat → List UInt8 → List Tk × Bool
  | 0, _ => ([], false)
  | f + 1, l => match scanB l with
    | .eof => ([], true)
    | .bad => ([], false)
    | .tok k w rest => ((k, bl w) :: (strmB f rest).1, (strmB f rest).2)
theorem strmB_def (f : Nat) (l : List UInt8) : strmB (f + 1) l = (match scanB l with
    | .eof => (([], true) : List Tk × Bool)
    | .bad => ([], false)
    | .tok k w rest => ((k, bl w) :: (strmB f rest).1, (strmB f rest).2)) := rfl
theorem strmB_list : ∀ (f : Nat) {L : List RB}, Norm L → strmL f L = strmB f (txt L) := by
  intro f
  induction f with
  | zero => intro L _; rfl
  | succ f ih =>
    intro L hL
    have h := scanB_list hL
    rw [strmL_def, strmB_def]
    cases hs : scanL L with
    | eof =>
      rw [hs] at h
      cases hb : scanB (txt L) with
      | eof => rfl
      | bad => rw [hb] at h; exact h.elim
      | tok k w o => rw [hb] at h; exact h.elim
    | bad =>
      rw [hs] at h
      cases hb : scanB (txt L) with
      | eof => rw [hb] at h; exact h.elim
      | bad => rfl
      | tok k w o => rw [hb] at h; exact h.elim
    | tok k T rest =>
      rw [hs] at h
      obtain ⟨w0, e, _⟩ := scan_app hs
      cases hb : scanB (txt L) with
      | eof => rw [hb] at h; exact h.elim
      | bad => rw [hb] at h; exact h.elim
      | tok k2 w o =>
        rw [hb] at h
        obtain ⟨rfl, rfl, rfl⟩ := h
        dsimp only
        rw [ih (hL.suffix e)]
        rfl
theorem s0_bytes {s : ByteArray} (hv : VD s 0 = true) (hw : ∀ i, i < s.size → wideB (s.data.toList.drop i) = false) : S0 s 0 0 = strmB (s.size + 1) s.data.toList := by
  unfold S0
  rw [strm_list _ _ _ (Nat.zero_le _), strmB_list _ (norm_of hv hw), txt_RL s.size 0 (Nat.zero_le _) (by omega), List.drop_zero]
/-- A scan's token and what is left, of the list. -/
theorem close_split {b : Bool} {l : List UInt8} {q : List UInt8 × List UInt8} (h : closeB b l = some q) : l = q.1 ++ q.2 ∧ q.1 ≠ [] := by
  induction l generalizing b q with
  | nil => cases b <;> exact nomatch h
  | cons c r ih =>
    have go : ∀ (b2 : Bool), (closeB b2 r).map (fun q => (c :: q.1, q.2)) = some q → c :: r = q.1 ++ q.2 ∧ q.1 ≠ [] := by
      intro b2 h
      cases hq : closeB b2 r with
      | none => rw [hq] at h; exact nomatch h
      | some p =>
        rw [hq] at h
        obtain rfl := Option.some.inj h
        have := ih hq
        exact ⟨by show c :: r = c :: (p.1 ++ p.2); rw [← this.1], by simp⟩
    cases b with
    | true => exact go false h
    | false =>
      have e : closeB false (c :: r) = if c.toNat = 92 then (closeB true r).map (fun q => (c :: q.1, q.2)) else if c.toNat = 34 then some ([c], r) else (closeB false r).map fun q => (c :: q.1, q.2) := rfl
      rw [e] at h
      split at h
      · exact go true h
      · split at h
        · obtain rfl := Option.some.inj h
          exact ⟨rfl, by simp⟩
        · exact go false h
/-- What stands in the quotes, and the closing one. -/
theorem close_nq : ∀ {l : List UInt8} {q : List UInt8 × List UInt8}, closeB false l = some q → ∃ body, q.1 = body ++ [34] ∧ nq body = true := by
  have key : ∀ (n : Nat) {l : List UInt8} {q : List UInt8 × List UInt8}, l.length ≤ n → closeB false l = some q → ∃ body, q.1 = body ++ [34] ∧ nq body = true := by
    intro n
    induction n with
    | zero =>
      intro l q hn h
      obtain rfl := List.eq_nil_of_length_eq_zero (show l.length = 0 by omega)
      exact nomatch h
    | succ n ih =>
      intro l q hn h
      cases l with
      | nil => exact nomatch h
      | cons c r =>
        simp only [List.length_cons] at hn
        have e : closeB false (c :: r) = if c.toNat = 92 then (closeB true r).map (fun q => (c :: q.1, q.2)) else if c.toNat = 34 then some ([c], r) else (closeB false r).map fun q => (c :: q.1, q.2) := rfl
        rw [e] at h
        by_cases h92 : c.toNat = 92
        · rw [if_pos h92] at h
          cases r with
          | nil => exact nomatch h
          | cons d r =>
            simp only [List.length_cons] at hn
            have e2 : closeB true (d :: r) = (closeB false r).map fun q => (d :: q.1, q.2) := rfl
            rw [e2] at h
            cases hq : closeB false r with
            | none => rw [hq] at h; exact nomatch h
            | some p =>
              rw [hq] at h
              obtain rfl := Option.some.inj h
              obtain ⟨body, hb, hnq⟩ := ih (by omega) hq
              refine ⟨c :: d :: body, by show c :: d :: p.1 = _; rw [hb]; rfl, ?_⟩
              unfold nq
              rw [if_pos h92]
              exact hnq
        · rw [if_neg h92] at h
          by_cases h34 : c.toNat = 34
          · rw [if_pos h34] at h
            obtain rfl := Option.some.inj h
            have hc : c = 34 := by rw [← UInt8.ofNat_toNat (x := c), h34]; rfl
            exact ⟨[], by rw [hc]; rfl, rfl⟩
          · rw [if_neg h34] at h
            cases hq : closeB false r with
            | none => rw [hq] at h; exact nomatch h
            | some p =>
              rw [hq] at h
              obtain rfl := Option.some.inj h
              obtain ⟨body, hb, hnq⟩ := ih (by omega) hq
              refine ⟨c :: body, by show c :: p.1 = _; rw [hb]; rfl, ?_⟩
              cases body with
              | nil =>
                unfold nq
                simp only [Bool.and_eq_true, decide_eq_true_eq]
                exact ⟨h92, h34⟩
              | cons d b =>
                unfold nq
                rw [if_neg h92, if_neg h34]
                exact hnq
  exact fun {l q} h => key l.length (Nat.le_refl _) h
end Go.Proofs.YtmjoebnphacadaaGreatDoor.Lex
/- spec.blank, spec.reserved, spec.closed: what they answer. -/
namespace Go.Proofs.YtmjoebnphacadaaGreatDoor.Lex
open Go.RowKit Go.Lib Go.Proofs.YtmjoebnphacadaaGreatDoor.Pure Go.Proofs.YtmjoebnphacadaaGreatDoor.Q Go.Proofs.YtmjoebnphacadaaGreatDoorW.PrintWords Go.Proofs.YtmjoebnphacadaaGreatDoorW.PrintLast
set_option linter.unusedVariables false
set_option linter.unusedSimpArgs false
theorem blank_all : ∀ n : Nat, n < 256 → spec_blank.f (n : Int) = some (blB (UInt8.ofNat n)) := by decide +kernel
theorem res_all : ∀ n : Nat, n < 256 → spec_reserved.f (n : Int) = some (resB (UInt8.ofNat n)) := by decide +kernel
theorem bt_list {s : ByteArray} {i : Nat} (h : i < s.size) : bt s (i : Int) = ((s.data.toList[i]'(by rw [list_size]; exact h)).toNat : Int) := by
  rw [bt_natP h]
  rfl
theorem blank_ev {s : ByteArray} {i : Nat} (h : i < s.size) : spec_blank.f (bt s (i : Int)) = some (blB (s.data.toList[i]'(by rw [list_size]; exact h))) := by
  rw [bt_list h, blank_all _ (UInt8.toNat_lt _), UInt8.ofNat_toNat]
theorem res_ev {s : ByteArray} {i : Nat} (h : i < s.size) : spec_reserved.f (bt s (i : Int)) = some (resB (s.data.toList[i]'(by rw [list_size]; exact h))) := by
  rw [bt_list h, res_all _ (UInt8.toNat_lt _), UInt8.ofNat_toNat]
/-- How many backslashes stand one behind the other at the end of the first d bytes behind a place. -/
def nbk (s : ByteArray) (p : Nat) : Nat → Nat
  | 0 => 0
  | d + 1 => if bt s ((p + d : Nat) : Int) = 92 then nbk s p d + 1 else 0
/-- The place behind the closing quote; -1: none. -/
def clR (s : ByteArray) (p : Nat) (b : Bool) (i : Nat) : Int := match closeB b (s.data.toList.drop i) with
  | some q => ((i + q.1.length : Nat) : Int)
  | none => -1
section
variable {s : ByteArray} {a : Nat}
/-- What is done at a place once the backslashes ahead of it are counted. -/
noncomputable def clC (k : Nat) (s : ByteArray) (a i n : Nat) : Option Int := if bt s (i : Int) = 34 then (if Int.tmod (n : Int) 2 = 0 then some (wrap64 ((i : Int) + 1)) else spec_closed.l0 k s (a : Int) (wrap64 ((i : Int) + 1))) else spec_closed.l0 k s (a : Int) (wrap64 ((i : Int) + 1))
theorem l1_ev (hs : s.size ≤ 2147483647) {i : Nat} (hi : i < s.size) {r : Int} : ∀ (d m : Nat), a + 1 + d ≤ i → m + d ≤ i → Ev (fun k => clC k s a i (m + nbk s (a + 1) d)) r → Ev (fun k => spec_closed.l1 k s (a : Int) (i : Int) (m : Int) ((a + d : Nat) : Int)) r := by
  intro d
  induction d with
  | zero =>
    intro m h hm hev
    refine Ev.step (fun k => ?_) hev
    simp only [spec_closed.l1]
    rw [if_neg (by omega), if_pos (by omega), if_pos (by omega)]
    rfl
  | succ d ih =>
    intro m h hm hev
    have hj : a + (d + 1) < s.size := by omega
    have hn : nbk s (a + 1) (d + 1) = if bt s ((a + 1 + d : Nat) : Int) = 92 then nbk s (a + 1) d + 1 else 0 := rfl
    rw [hn, show a + 1 + d = a + (d + 1) by omega] at hev
    by_cases h92 : bt s ((a + (d + 1) : Nat) : Int) = 92
    · rw [if_pos h92] at hev
      have e1 : wrap64 ((m : Int) + 1) = ((m + 1 : Nat) : Int) := by unfold wrap64; omega
      have e2 : wrap64 (((a + (d + 1) : Nat) : Int) - 1) = ((a + d : Nat) : Int) := by unfold wrap64; omega
      refine Ev.step (f := fun k => spec_closed.l1 k s (a : Int) (i : Int) ((m + 1 : Nat) : Int) ((a + d : Nat) : Int)) (fun k => ?_) (ih (m + 1) (by omega) (by omega) (by rw [show m + 1 + nbk s (a + 1) d = m + (nbk s (a + 1) d + 1) by omega]; exact hev))
      simp only [spec_closed.l1]
      rw [if_pos (by omega), if_pos (by omega), if_pos (by omega), if_pos h92, e1, e2]
    · rw [if_neg h92, Nat.add_zero] at hev
      refine Ev.step (fun k => ?_) hev
      simp only [spec_closed.l1]
      rw [if_pos (by omega), if_pos (by omega), if_pos (by omega), if_neg h92, if_pos (by omega), if_pos (by omega)]
      rfl
theorem clR_more {b b2 : Bool} {i : Nat} {c : UInt8} {r : List UInt8} (hd : s.data.toList.drop i = c :: r) (hd2 : s.data.toList.drop (i + 1) = r) (h : closeB b (c :: r) = (closeB b2 r).map fun q => (c :: q.1, q.2)) : clR s a b i = clR s a b2 (i + 1) := by
  unfold clR
  rw [hd, hd2, h]
  cases closeB b2 r with
  | none => rfl
  | some q =>
    show ((i + (c :: q.1).length : Nat) : Int) = ((i + 1 + q.1.length : Nat) : Int)
    simp only [List.length_cons]
    omega
theorem closed_loop (hs : s.size ≤ 2147483647) : ∀ (d i : Nat) (b : Bool), i + d = s.size → a + 1 ≤ i → b = decide (nbk s (a + 1) (i - (a + 1)) % 2 = 1) → Ev (fun k => spec_closed.l0 k s (a : Int) (i : Int)) (clR s a b i) := by
  intro d
  induction d with
  | zero =>
    intro i b hi ha hb
    have e : clR s a b i = -1 := by
      unfold clR
      rw [List.drop_of_length_le (by rw [list_size]; omega)]
      cases b <;> rfl
    rw [e]
    refine ev_succ (fun k => ?_)
    simp only [spec_closed.l0]
    rw [if_neg (by omega)]
  | succ d ih =>
    intro i b hi ha hb
    have hlt : i < s.size := by omega
    have hl : i < s.data.toList.length := by rw [list_size]; exact hlt
    have hd := List.drop_eq_getElem_cons hl
    obtain ⟨c, hc⟩ : ∃ c, s.data.toList[i] = c := ⟨_, rfl⟩
    rw [hc] at hd
    have hbt : bt s (i : Int) = (c.toNat : Int) := by rw [bt_list hlt, hc]
    obtain ⟨e, he⟩ : ∃ e, i - (a + 1) = e := ⟨_, rfl⟩
    rw [he] at hb
    have hn : nbk s (a + 1) (i + 1 - (a + 1)) = if (c.toNat : Int) = 92 then nbk s (a + 1) e + 1 else 0 := by
      rw [show i + 1 - (a + 1) = e + 1 by omega]
      show (if bt s ((a + 1 + e : Nat) : Int) = 92 then _ else _) = _
      rw [show a + 1 + e = i by omega, hbt]
    have EW := Aside0.mk (show wrap64 ((i : Int) + 1) = ((i + 1 : Nat) : Int) by unfold wrap64; omega)
    have EM := Aside0.mk (show Int.tmod ((nbk s (a + 1) e : Nat) : Int) 2 = ((nbk s (a + 1) e % 2 : Nat) : Int) by
      rw [Int.tmod_eq_emod_of_nonneg (by omega)]
      rfl)
    have go : Ev (fun k => clC k s a i (nbk s (a + 1) e)) (clR s a b i) := by
      unfold clC
      rw [hbt, EW.out, EM.out]
      cases b with
      | true =>
        have hodd : nbk s (a + 1) e % 2 = 1 := by simpa using hb.symm
        have nx := ih (i + 1) false (by omega) (by omega) (by
          rw [hn]
          split
          · exact (decide_eq_false (by omega)).symm
          · rfl)
        rw [← clR_more (a := a) (b := true) (b2 := false) hd rfl rfl] at nx
        by_cases h34 : (c.toNat : Int) = 34
        · exact ev_ite_pos h34 (ev_ite_neg (by omega) nx)
        · exact ev_ite_neg h34 nx
      | false =>
        have heven : ¬ nbk s (a + 1) e % 2 = 1 := by simpa using hb.symm
        have e2 : closeB false (c :: s.data.toList.drop (i + 1)) = if c.toNat = 92 then (closeB true (s.data.toList.drop (i + 1))).map (fun q => (c :: q.1, q.2)) else if c.toNat = 34 then some ([c], s.data.toList.drop (i + 1)) else (closeB false (s.data.toList.drop (i + 1))).map fun q => (c :: q.1, q.2) := rfl
        by_cases h92 : c.toNat = 92
        · have nx := ih (i + 1) true (by omega) (by omega) (by
            rw [hn, if_pos (by omega)]
            exact (decide_eq_true (by omega)).symm)
          rw [← clR_more (a := a) (b := false) (b2 := true) hd rfl (by rw [e2, if_pos h92])] at nx
          exact ev_ite_neg (by omega) nx
        · by_cases h34 : c.toNat = 34
          · have e3 : clR s a false i = ((i + 1 : Nat) : Int) := by
              unfold clR
              rw [hd, e2, if_neg h92, if_pos h34]
              rfl
            rw [e3]
            exact ev_ite_pos (by omega) (ev_ite_pos (by omega) (Ev.now _))
          · have nx := ih (i + 1) false (by omega) (by omega) (by
              rw [hn, if_neg (by omega)]
              rfl)
            rw [← clR_more (a := a) (b := false) (b2 := false) hd rfl (by rw [e2, if_neg h92, if_neg h34])] at nx
            exact ev_ite_neg (by omega) nx
    refine Ev.step (f := fun k => spec_closed.l1 k s (a : Int) (i : Int) ((0 : Nat) : Int) ((a + e : Nat) : Int)) (fun k => ?_) (l1_ev hs hlt e 0 (by omega) (by omega) (by rw [Nat.zero_add]; exact go))
    have E1 := Aside0.mk (show wrap64 ((i : Int) - 1) = ((a + e : Nat) : Int) by unfold wrap64; omega)
    simp only [spec_closed.l0]
    rw [if_pos (by omega), E1.out]
    rfl
theorem closed_ev (hs : s.size ≤ 2147483647) (ha : a < s.size) : Ev (fun k => spec_closed.f k s (a : Int)) (clR s a false (a + 1)) := by
  have e1 : wrap64 ((a : Int) + 1) = ((a + 1 : Nat) : Int) := by unfold wrap64; omega
  unfold spec_closed.f
  rw [e1]
  exact closed_loop hs (s.size - (a + 1)) (a + 1) false (by omega) (Nat.le_refl _) (by rw [Nat.sub_self]; rfl)
end
end Go.Proofs.YtmjoebnphacadaaGreatDoor.Lex
/- spec.token: what it answers. -/
namespace Go.Proofs.YtmjoebnphacadaaGreatDoor.Lex
open Go.RowKit Go.Lib Go.Proofs.YtmjoebnphacadaaGreatDoor.Pure Go.Proofs.YtmjoebnphacadaaGreatDoor.Q Go.Proofs.YtmjoebnphacadaaGreatDoorW.PrintWords Go.Proofs.YtmjoebnphacadaaGreatDoorW.PrintLast
set_option linter.unusedVariables false
set_option linter.unusedSimpArgs false
section
variable {s : ByteArray}
theorem word_ev (hs : s.size ≤ 2147483647) : ∀ (d i : Nat), i + d = s.size → Ev (fun k => spec_token.l0 k s (i : Int)) ((9 : Int), ((i + ((s.data.toList.drop i).takeWhile fun x => !resB x).length : Nat) : Int)) := by
  intro d
  induction d with
  | zero =>
    intro i hi
    rw [List.drop_of_length_le (by rw [list_size]; omega)]
    refine ev_succ (fun k => ?_)
    simp only [spec_token.l0]
    rw [if_neg (by omega)]
    rfl
  | succ d ih =>
    intro i hi
    have hlt : i < s.size := by omega
    have hl : i < s.data.toList.length := by rw [list_size]; exact hlt
    have hr := res_ev hlt
    have nx := ih (i + 1) (by omega)
    rw [List.drop_eq_getElem_cons hl]
    obtain ⟨c, hc⟩ : ∃ c, s.data.toList[i] = c := ⟨_, rfl⟩
    rw [hc] at hr ⊢
    have EW := Aside0.mk (show wrap64 ((i : Int) + 1) = ((i + 1 : Nat) : Int) by unfold wrap64; omega)
    cases hb : resB c with
    | true =>
      rw [List.takeWhile_cons_of_neg (by rw [hb]; simp)]
      refine ev_succ (fun k => ?_)
      simp only [spec_token.l0]
      rw [if_pos (by omega), if_pos (by omega), hr, Option.bind_some, hb, if_pos rfl]
      rfl
    | false =>
      rw [List.takeWhile_cons_of_pos (by rw [hb]; rfl)]
      refine Ev.step (f := fun k => spec_token.l0 k s ((i + 1 : Nat) : Int)) (fun k => ?_) (by
        rw [List.length_cons, show i + (((s.data.toList.drop (i + 1)).takeWhile fun x => !resB x).length + 1) = i + 1 + ((s.data.toList.drop (i + 1)).takeWhile fun x => !resB x).length by omega]
        exact nx)
      simp only [spec_token.l0]
      rw [if_pos (by omega), if_pos (by omega), hr, Option.bind_some, hb, if_neg (by simp), EW.out]
/-- A token's kind, and the place behind it. -/
def tokR (a : Nat) : LB → Int × Int
  | .eof => (0, (a : Int))
  | .bad => (0, (a : Int))
  | .tok k w _ => ((k : Int), ((a + w.length : Nat) : Int))
def twoL (c : UInt8) : List UInt8 → List UInt8
  | [] => []
  | d :: _ => [c, d]
theorem u8_of {c : UInt8} {n : Nat} (h : c.toNat = n) : c = UInt8.ofNat n := by rw [← h, UInt8.ofNat_toNat]
/-- j0 of spec.token, the two bytes given as a list. -/
theorem j0_ev (hs : s.size ≤ 2147483647) {a : Nat} (ha : a < s.size) {c : UInt8} {r : List UInt8} (hd : s.data.toList.drop a = c :: r) (hd2 : s.data.toList.drop (a + 1) = r) (hbl : blB c = false) (x6 : ByteArray) (h6 : x6.toList = twoL c r) :
    Ev (fun k => spec_token.j0 k s (a : Int) x6) (tokR a (scanB (c :: r))) := by
  have hl : a < s.data.toList.length := by rw [list_size]; exact ha
  have hg : s.data.toList[a] = c := by
    have := List.drop_eq_getElem_cons hl
    rw [hd] at this
    exact (List.cons.inj this).1.symm
  have HB := Aside0.mk (show bt s (a : Int) = (c.toNat : Int) by rw [bt_list ha, hg])
  have hr := res_ev ha
  rw [hg] at hr
  have E1 := Aside0.mk (show wrap64 ((a : Int) + 1) = ((a + 1 : Nat) : Int) by unfold wrap64; omega)
  have E2 := Aside0.mk (show wrap64 ((a : Int) + 2) = ((a + 2 : Nat) : Int) by unfold wrap64; omega)
  have eS : scanB (c :: r) = (if c.toNat = 123 then .tok 1 [c] r
    else if c.toNat = 125 then .tok 2 [c] r
    else if c.toNat = 44 then .tok 3 [c] r
    else if c.toNat = 61 ∨ c.toNat = 33 then opB c r
    else if c.toNat = 34 then (match closeB false r with | some q => .tok 8 (c :: q.1) q.2 | none => .bad)
    else if resB c = false then .tok 9 ((c :: r).takeWhile fun x => !resB x) ((c :: r).dropWhile fun x => !resB x)
    else .bad) := by
    rw [scanB, if_neg (by rw [hbl]; simp)]
    first | done | rfl
  rw [eS]
  -- one step of j0
  have step : ∀ k, spec_token.j0 (k + 1) s (a : Int) x6 = (if bt s (a : Int) = 123 then some (1, wrap64 ((a : Int) + 1)) else if bt s (a : Int) = 125 then some (2, wrap64 ((a : Int) + 1)) else if bt s (a : Int) = 44 then some (3, wrap64 ((a : Int) + 1)) else if x6.toList = ([61, 126] : List UInt8) then some (6, wrap64 ((a : Int) + 2)) else if x6.toList = ([33, 61] : List UInt8) then some (5, wrap64 ((a : Int) + 2)) else if x6.toList = ([33, 126] : List UInt8) then some (7, wrap64 ((a : Int) + 2)) else if bt s (a : Int) = 61 then some (4, wrap64 ((a : Int) + 1)) else if bt s (a : Int) = 34 then ((spec_closed.f k s (a : Int)).bind fun t115 => (if t115 > 0 then some (8, t115) else some (0, (a : Int)))) else ((spec_reserved.f (bt s (a : Int))).bind fun t116 => (if t116 = true then some (0, (a : Int)) else spec_token.l0 k s (a : Int)))) := by
    intro k
    simp only [spec_token.j0]
    rw [if_pos (by omega), if_pos (by omega)]
  refine Ev.step (f := fun k => (if bt s (a : Int) = 123 then some (1, wrap64 ((a : Int) + 1)) else if bt s (a : Int) = 125 then some (2, wrap64 ((a : Int) + 1)) else if bt s (a : Int) = 44 then some (3, wrap64 ((a : Int) + 1)) else if x6.toList = ([61, 126] : List UInt8) then some (6, wrap64 ((a : Int) + 2)) else if x6.toList = ([33, 61] : List UInt8) then some (5, wrap64 ((a : Int) + 2)) else if x6.toList = ([33, 126] : List UInt8) then some (7, wrap64 ((a : Int) + 2)) else if bt s (a : Int) = 61 then some (4, wrap64 ((a : Int) + 1)) else if bt s (a : Int) = 34 then ((spec_closed.f k s (a : Int)).bind fun t115 => (if t115 > 0 then some (8, t115) else some (0, (a : Int)))) else ((spec_reserved.f (bt s (a : Int))).bind fun t116 => (if t116 = true then some (0, (a : Int)) else spec_token.l0 k s (a : Int))))) step ?_
  rw [HB.out, E1.out, E2.out]
  by_cases k1 : c.toNat = 123
  · rw [if_pos k1]; exact ev_ite_pos (by omega) (Ev.now _)
  rw [if_neg k1]
  refine ev_ite_neg (by omega) ?_
  by_cases k2 : c.toNat = 125
  · rw [if_pos k2]; exact ev_ite_pos (by omega) (Ev.now _)
  rw [if_neg k2]
  refine ev_ite_neg (by omega) ?_
  by_cases k3 : c.toNat = 44
  · rw [if_pos k3]; exact ev_ite_pos (by omega) (Ev.now _)
  rw [if_neg k3]
  refine ev_ite_neg (by omega) ?_
  have res_bad : resB c = true → Ev (fun k => (spec_reserved.f (c.toNat : Int)).bind fun t116 => (if t116 = true then some (0, (a : Int)) else spec_token.l0 k s (a : Int))) ((0 : Int), (a : Int)) := by
    intro h
    rw [HB.out] at hr
    rw [hr]
    refine ev_bind_some ?_
    rw [h]
    exact ev_ite_pos rfl (Ev.now _)
  by_cases k4 : c.toNat = 61 ∨ c.toNat = 33
  · rw [if_pos k4, h6]
    cases r with
    | nil =>
      refine ev_ite_neg (by simp [twoL]) (ev_ite_neg (by simp [twoL]) (ev_ite_neg (by simp [twoL]) ?_))
      by_cases k61 : c.toNat = 61
      · rw [show opB c [] = .tok 4 [c] [] from if_neg (by omega)]
        exact ev_ite_pos (by omega) (Ev.now _)
      · rw [show opB c [] = .bad from if_pos (by omega)]
        refine ev_ite_neg (by omega) (ev_ite_neg (by omega) (res_bad ?_))
        have : c = UInt8.ofNat 33 := u8_of (by omega)
        rw [this]
        decide
    | cons d r2 =>
      have e2 : ∀ (x y : UInt8), twoL c (d :: r2) = [x, y] ↔ c = x ∧ d = y := by
        intro x y
        show [c, d] = [x, y] ↔ _
        simp
      by_cases k61 : c.toNat = 61
      · have hc : c = 61 := u8_of k61
        by_cases kd : d.toNat = 126
        · have hdd : d = 126 := u8_of kd
          rw [show opB c (d :: r2) = .tok 6 [c, d] r2 from (if_neg (by omega)).trans (if_pos kd)]
          exact ev_ite_pos ((e2 _ _).2 ⟨hc, hdd⟩) (Ev.now _)
        · rw [show opB c (d :: r2) = .tok 4 [c] (d :: r2) from (if_neg (by omega)).trans (if_neg kd)]
          refine ev_ite_neg (fun h => kd (by rw [((e2 _ _).1 h).2]; rfl)) (ev_ite_neg (fun h => ?_) (ev_ite_neg (fun h => ?_) (ev_ite_pos (by omega) (Ev.now _))))
          · have := ((e2 _ _).1 h).1; rw [this] at k61; exact absurd k61 (by decide)
          · have := ((e2 _ _).1 h).1; rw [this] at k61; exact absurd k61 (by decide)
      · have k33 : c.toNat = 33 := by omega
        have hc : c = 33 := u8_of k33
        refine ev_ite_neg (fun h => ?_) ?_
        · have := ((e2 _ _).1 h).1; rw [this] at k33; exact absurd k33 (by decide)
        · by_cases kd : d.toNat = 61
          · have hdd : d = 61 := u8_of kd
            rw [show opB c (d :: r2) = .tok 5 [c, d] r2 from (if_pos k33).trans (if_pos kd)]
            exact ev_ite_pos ((e2 _ _).2 ⟨hc, hdd⟩) (Ev.now _)
          · refine ev_ite_neg (fun h => kd (by rw [((e2 _ _).1 h).2]; rfl)) ?_
            by_cases kt : d.toNat = 126
            · have hdd : d = 126 := u8_of kt
              rw [show opB c (d :: r2) = .tok 7 [c, d] r2 from (if_pos k33).trans ((if_neg kd).trans (if_pos kt))]
              exact ev_ite_pos ((e2 _ _).2 ⟨hc, hdd⟩) (Ev.now _)
            · rw [show opB c (d :: r2) = .bad from (if_pos k33).trans ((if_neg kd).trans (if_neg kt))]
              refine ev_ite_neg (fun h => kt (by rw [((e2 _ _).1 h).2]; rfl)) (ev_ite_neg (by omega) (ev_ite_neg (by omega) (res_bad ?_)))
              rw [hc]
              decide
  · rw [if_neg k4]
    have no : ∀ (x y : UInt8), x.toNat = 61 ∨ x.toNat = 33 → ¬ x6.toList = [x, y] := by
      intro x y hx h
      rw [h6] at h
      cases r with
      | nil => exact nomatch h
      | cons d r2 =>
        have : c = x := (List.cons.inj h).1
        rw [this] at k4
        exact k4 hx
    refine ev_ite_neg (no _ _ (.inl rfl)) (ev_ite_neg (no _ _ (.inr rfl)) (ev_ite_neg (no _ _ (.inr rfl)) (ev_ite_neg (by omega) ?_)))
    by_cases k5 : c.toNat = 34
    · rw [if_pos k5]
      refine ev_ite_pos (by omega) (Ev.bind (closed_ev hs ha) ?_)
      unfold clR
      rw [hd2]
      cases closeB false r with
      | none => exact ev_ite_neg (by show ¬ ((-1 : Int) > 0); decide) (Ev.now _)
      | some q =>
        refine ev_ite_pos (by show ((a + 1 + q.1.length : Nat) : Int) > 0; omega) ?_
        have e : tokR a (.tok 8 (c :: q.1) q.2) = ((8 : Int), ((a + 1 + q.1.length : Nat) : Int)) := by
          refine Prod.ext rfl ?_
          show ((a + (c :: q.1).length : Nat) : Int) = _
          rw [List.length_cons, show a + (q.1.length + 1) = a + 1 + q.1.length by omega]
        show Ev _ (tokR a (.tok 8 (c :: q.1) q.2))
        rw [e]
        exact Ev.now _
    · rw [if_neg k5]
      refine ev_ite_neg (by omega) ?_
      cases hb : resB c with
      | true =>
        rw [if_neg (by simp)]
        exact res_bad hb
      | false =>
        rw [if_pos rfl]
        rw [HB.out] at hr
        rw [hr]
        refine ev_bind_some ?_
        rw [hb]
        refine ev_ite_neg (by simp) ?_
        have := word_ev hs (s.size - a) a (by omega)
        rw [hd] at this
        exact this
theorem token_ev (hs : s.size ≤ 2147483647) {a : Nat} (ha : a < s.size) {c : UInt8} {r : List UInt8} (hd : s.data.toList.drop a = c :: r) (hbl : blB c = false) : Ev (fun k => spec_token.f k s (a : Int)) (tokR a (scanB (c :: r))) := by
  have hd2 : s.data.toList.drop (a + 1) = r := by
    rw [← List.drop_drop, hd]
    rfl
  have E2 := Aside0.mk (show wrap64 ((a : Int) + 2) = ((a + 2 : Nat) : Int) by unfold wrap64; omega)
  unfold spec_token.f
  rw [E2.out]
  by_cases h2 : a + 2 ≤ s.size
  · refine ev_ite_pos (by omega) (ev_ite_pos (by omega) (ev_ite_pos (by omega) (j0_ev hs ha hd hd2 hbl _ ?_)))
    rw [Go.Lib.toList_data, Int.toNat_natCast, Int.toNat_natCast, Lib.extract_data, hd, show a + 2 - a = 2 by omega]
    cases r with
    | nil =>
      have := congrArg List.length hd
      rw [List.length_drop, list_size] at this
      simp only [List.length_cons, List.length_nil] at this
      omega
    | cons d r2 => rfl
  · refine ev_ite_neg (by omega) (j0_ev hs ha hd hd2 hbl _ ?_)
    have hr : r = [] := by
      have := congrArg List.length hd
      rw [List.length_drop, list_size, List.length_cons] at this
      exact List.eq_nil_of_length_eq_zero (by omega)
    rw [hr, Go.Lib.toList_data]
    rfl
end
end Go.Proofs.YtmjoebnphacadaaGreatDoor.Lex
/- spec.Tokens' loop: what it answers. -/
namespace Go.Proofs.YtmjoebnphacadaaGreatDoor.Lex
open Go.RowKit Go.Lib Go.Proofs.YtmjoebnphacadaaGreatDoor.Pure Go.Proofs.YtmjoebnphacadaaGreatDoor.Q Go.Proofs.YtmjoebnphacadaaGreatDoorW.PrintWords Go.Proofs.YtmjoebnphacadaaGreatDoorW.PrintLast
set_option linter.unusedVariables false
set_option linter.unusedSimpArgs false
theorem opB_split {c : UInt8} {r w rest : List UInt8} {k : Nat} (h : opB c r = .tok k w rest) : c :: r = w ++ rest ∧ w ≠ [] ∧ 1 ≤ k := by
  unfold opB at h
  repeat' split at h
  all_goals first | (simp at h; done) | (injection h with e1 e2 e3; subst e1 e2 e3; exact ⟨rfl, by simp, by omega⟩)
theorem scanB_split {c : UInt8} {r w rest : List UInt8} {k : Nat} (hb : blB c = false) (h : scanB (c :: r) = .tok k w rest) : c :: r = w ++ rest ∧ w ≠ [] ∧ 1 ≤ k := by
  rw [scanB, if_neg (by rw [hb]; simp)] at h
  split at h
  · injection h with e1 e2 e3; subst e1 e2 e3; exact ⟨rfl, by simp, by omega⟩
  · split at h
    · injection h with e1 e2 e3; subst e1 e2 e3; exact ⟨rfl, by simp, by omega⟩
    · split at h
      · injection h with e1 e2 e3; subst e1 e2 e3; exact ⟨rfl, by simp, by omega⟩
      · split at h
        · exact opB_split h
        · split at h
          · cases hq : closeB false r with
            | none => rw [hq] at h; exact nomatch h
            | some q =>
              rw [hq] at h
              injection h with e1 e2 e3
              subst e1 e2 e3
              exact ⟨by show c :: r = c :: (q.1 ++ q.2); rw [← (close_split hq).1], by simp, by omega⟩
          · split at h
            · rename_i hr
              injection h with e1 e2 e3
              subst e1 e2 e3
              refine ⟨(List.takeWhile_append_dropWhile ..).symm, ?_, by omega⟩
              rw [List.takeWhile_cons_of_pos (by rw [hr]; rfl)]
              simp
            · exact nomatch h
def kt2 (t : S49) : Tk := (t.f0.toNat, t.f1)
theorem strmB_blank {c : UInt8} {r : List UInt8} (h : blB c = true) (f : Nat) : strmB (f + 1) (c :: r) = strmB (f + 1) r := by
  rw [strmB_def, strmB_def, scanB, if_pos h]
theorem tokens_loop {s : ByteArray} (hs : s.size ≤ 2147483647) (hR : ∀ x : ByteArray, x.size ≤ 2147483647 → ∃ n, Ev (fun k => spec_Runes.f k x) n) :
    ∀ (d i f : Nat) (x4 : List S49), s.size ≤ i + d → i ≤ s.size → s.size < i + f → x4.length ≤ i →
      ∃ ts st, Ev (fun k => spec_Tokens.l0 k s x4 (i : Int)) (x4 ++ ts, st) ∧ ts.map kt2 = (strmB f (s.data.toList.drop i)).1 ∧ ts.length ≤ s.size - i ∧ ((st = 1 ∧ (strmB f (s.data.toList.drop i)).2 = true) ∨ (st = 0 ∧ (strmB f (s.data.toList.drop i)).2 = false)) := by
  intro d
  induction d with
  | zero =>
    intro i f x4 hd hi hf hx
    obtain ⟨g, rfl⟩ : ∃ g, f = g + 1 := ⟨f - 1, by omega⟩
    refine ⟨[], 1, ?_, ?_, Nat.zero_le _, .inl ⟨rfl, ?_⟩⟩
    · rw [List.append_nil]
      refine ev_succ (fun k => ?_)
      simp only [spec_Tokens.l0]
      rw [if_neg (by omega)]
    · rw [List.drop_of_length_le (by rw [list_size]; omega)]; rfl
    · rw [List.drop_of_length_le (by rw [list_size]; omega)]; rfl
  | succ d ih =>
    intro i f x4 hd hi hf hx
    obtain ⟨g, rfl⟩ : ∃ g, f = g + 1 := ⟨f - 1, by omega⟩
    by_cases hlt : i < s.size
    · have hl : i < s.data.toList.length := by rw [list_size]; exact hlt
      have hdr := List.drop_eq_getElem_cons hl
      have hb := blank_ev hlt
      obtain ⟨c, hc⟩ : ∃ c, s.data.toList[i] = c := ⟨_, rfl⟩
      rw [hc] at hdr hb
      have EW := Aside0.mk (show wrap64 ((i : Int) + 1) = ((i + 1 : Nat) : Int) by unfold wrap64; omega)
      cases hbl : blB c with
      | true =>
        obtain ⟨ts, st, k1, k2, k3, k4⟩ := ih (i + 1) (g + 1) x4 (by omega) (by omega) (by omega) (by omega)
        rw [hdr, strmB_blank hbl]
        refine ⟨ts, st, Ev.step (fun k => ?_) k1, k2, by omega, k4⟩
        simp only [spec_Tokens.l0]
        rw [if_pos (by omega), if_pos (by omega), hb, Option.bind_some, hbl, if_pos rfl, EW.out]
      | false =>
        have ht := token_ev hs hlt hdr hbl
        rw [hdr]
        have step : ∀ k, spec_Tokens.l0 (k + 1) s x4 (i : Int) = ((spec_token.f k s (i : Int)).bind fun bt121 => (if bt121.1 = 0 then (some (x4, 0)) else (if (i : Int) ≤ bt121.2 then (if bt121.2 ≤ (s.size : Int) then (if (i : Int) ≤ (s.size : Int) then ((spec_Runes.f k (s.extract 0 ((i : Int)).toNat)).bind fun t123 => (if 0 ≤ bt121.2 then ((spec_Runes.f k (s.extract 0 (bt121.2 : Int).toNat)).bind fun t124 => (if x4.length < 2513169434916 then (spec_Tokens.l0 k s (x4 ++ [(⟨bt121.1, s.extract ((i : Int)).toNat (bt121.2 : Int).toNat, (i : Int), bt121.2, t123, t124⟩ : S49)]) bt121.2) else (none))) else (none))) else (none)) else (none)) else (none)))) := by
          intro k
          simp only [spec_Tokens.l0]
          rw [if_pos (by omega), if_pos (by omega), hb, Option.bind_some, hbl, if_neg (by simp)]
        rw [strmB_def]
        cases hsc : scanB (c :: s.data.toList.drop (i + 1)) with
        | eof =>
          exfalso
          rw [scanB, if_neg (by rw [hbl]; simp)] at hsc
          repeat' split at hsc
          all_goals first | (simp at hsc; done) | (unfold opB at hsc; repeat' split at hsc) | skip
          all_goals (simp at hsc; done)
        | bad =>
          rw [hsc] at ht
          refine ⟨[], 0, ?_, rfl, Nat.zero_le _, .inr ⟨rfl, rfl⟩⟩
          rw [List.append_nil]
          exact Ev.step step (Ev.bind ht (ev_ite_pos rfl (Ev.now _)))
        | tok kd w rest =>
          rw [hsc] at ht
          obtain ⟨e1, e2, e3⟩ := scanB_split hbl hsc
          have hw : 0 < w.length := List.length_pos_iff.2 e2
          have hlen : i + w.length + rest.length = s.size := by
            have := congrArg List.length e1
            rw [← hdr, List.length_drop, list_size, List.length_append] at this
            omega
          have hdrop : s.data.toList.drop (i + w.length) = rest := by
            rw [← List.drop_drop, hdr, e1, List.drop_left]
          have hext : s.extract i (i + w.length) = bl w := by
            refine ByteArray.ext (Array.toList_inj.1 ?_)
            rw [Lib.extract_data, hdr, e1, show i + w.length - i = w.length by omega, List.take_left]
            rfl
          obtain ⟨n1, m1⟩ := hR (s.extract 0 i) (by rw [ByteArray.size_extract]; omega)
          obtain ⟨n2, m2⟩ := hR (s.extract 0 (i + w.length)) (by rw [ByteArray.size_extract]; omega)
          obtain ⟨ts, st, k1, k2, k3, k4⟩ := ih (i + w.length) g (x4 ++ [(⟨(kd : Int), bl w, (i : Int), ((i + w.length : Nat) : Int), n1, n2⟩ : S49)]) (by omega) (by omega) (by omega) (by rw [List.length_append]; simp only [List.length_cons, List.length_nil]; omega)
          rw [hdrop] at k2 k4
          refine ⟨(⟨(kd : Int), bl w, (i : Int), ((i + w.length : Nat) : Int), n1, n2⟩ : S49) :: ts, st, ?_, ?_, ?_, k4⟩
          · rw [List.append_assoc] at k1
            refine Ev.step step (Ev.bind ht ?_)
            show Ev (fun k => if ((kd : Nat) : Int) = 0 then _ else _) _
            refine ev_ite_neg (by omega) (ev_ite_pos (by show (i : Int) ≤ ((i + w.length : Nat) : Int); omega) (ev_ite_pos (by show ((i + w.length : Nat) : Int) ≤ _; omega) (ev_ite_pos (by omega) ?_)))
            refine Ev.bind (a := n1) m1 (ev_ite_pos (by show 0 ≤ ((i + w.length : Nat) : Int); omega) (Ev.bind (a := n2) ?_ (ev_ite_pos (by omega) ?_)))
            · show Ev (fun k => spec_Runes.f k (s.extract 0 (((i + w.length : Nat) : Int)).toNat)) n2
              rw [Int.toNat_natCast]
              exact m2
            · show Ev (fun k => spec_Tokens.l0 k s (x4 ++ [(⟨((kd : Nat) : Int), s.extract ((i : Int)).toNat (((i + w.length : Nat) : Int)).toNat, (i : Int), ((i + w.length : Nat) : Int), n1, n2⟩ : S49)]) ((i + w.length : Nat) : Int)) _
              rw [Int.toNat_natCast, Int.toNat_natCast, hext]
              exact k1
          · show kt2 _ :: ts.map kt2 = (kd, bl w) :: (strmB g rest).1
            rw [k2]
            rfl
          · rw [List.length_cons]; omega
    · refine ⟨[], 1, ?_, ?_, Nat.zero_le _, .inl ⟨rfl, ?_⟩⟩
      · rw [List.append_nil]
        refine ev_succ (fun k => ?_)
        simp only [spec_Tokens.l0]
        rw [if_neg (by omega)]
      · rw [List.drop_of_length_le (by rw [list_size]; omega)]; rfl
      · rw [List.drop_of_length_le (by rw [list_size]; omega)]; rfl
end Go.Proofs.YtmjoebnphacadaaGreatDoor.Lex
/- What spec.runeLen answers, over the bytes of a text: the size of the first character, as utf8's own switch has it. -/
set_option linter.unusedVariables false
set_option linter.unusedSimpArgs false
namespace Go.Proofs.YtmjoebnphacadaaGreatDoor.Pure
open Go.RowKit Go.Lib Go.Proofs.YtmjoebnphacadaaGreatDoor.Q Go.Proofs.YtmjoebnphacadaaGreatDoorW.PrintWords Go.Proofs.YtmjoebnphacadaaGreatDoorW.PrintLast
/-- The byte at a place, as a number; 0 past the end. -/
abbrev bn (s : ByteArray) (i : Nat) : Nat := (s.data.toList.getD i 0).toNat
theorem bt_bn (s : ByteArray) (i : Nat) : bt s (i : Int) = (bn s i : Int) := by
  have hz : s.data.toList.length = s.size := by rw [Array.length_toList]; rfl
  unfold bt bn
  split
  · rename_i h
    simp only [Int.toNat_natCast] at h ⊢
    rw [List.getD_eq_getElem?_getD, List.getElem?_eq_getElem (by omega)]
    rfl
  · rename_i h
    simp only [Int.toNat_natCast] at h
    rw [List.getD_eq_getElem?_getD, List.getElem?_eq_none (by omega)]
    rfl
theorem bt0 (s : ByteArray) : bt s 0 = (bn s 0 : Int) := bt_bn s 0
theorem bt1 (s : ByteArray) : bt s 1 = (bn s 1 : Int) := bt_bn s 1
theorem bt2 (s : ByteArray) : bt s 2 = (bn s 2 : Int) := bt_bn s 2
theorem bt3 (s : ByteArray) : bt s 3 = (bn s 3 : Int) := bt_bn s 3
theorem check_two (n b1 b2 b3 lo hi : Nat) : checkN n b1 b2 b3 2 lo hi = if n < 2 ∨ b1 < lo ∨ hi < b1 then none else some 2 := rfl
theorem check_three (n b1 b2 b3 lo hi : Nat) : checkN n b1 b2 b3 3 lo hi = if n < 3 ∨ b1 < lo ∨ hi < b1 ∨ b2 < 128 ∨ 191 < b2 then none else some 3 := rfl
theorem check_four (n b1 b2 b3 lo hi : Nat) : checkN n b1 b2 b3 4 lo hi = if n < 4 ∨ b1 < lo ∨ hi < b1 ∨ b2 < 128 ∨ 191 < b2 ∨ b3 < 128 ∨ 191 < b3 then none else some 4 := rfl
def sizeOr : Option Nat → Nat
  | none => 1
  | some k => k
theorem lo_one : wrap64 (1 + 1) = 2 := by unfold wrap64; omega
theorem lo_two : wrap64 (2 + 1) = 3 := by unfold wrap64; omega
theorem lo_three : wrap64 (3 + 1) = 4 := by unfold wrap64; omega
theorem j3_one (s : ByteArray) (a b : Int) (h : 0 < s.size) : Ev (fun k => spec_runeLen.j3 k s 1 a b) ((1 : Nat) : Int) := by
  refine ⟨10, fun k hk => ?_⟩
  obtain ⟨k, rfl⟩ : ∃ j, k = j + 10 := ⟨k - 10, by omega⟩
  simp only [spec_runeLen.j3, spec_runeLen.l0]
  rw [if_neg (by omega), if_neg (by omega)]
  rfl
theorem j3_two (s : ByteArray) (lo hi : Nat) : Ev (fun k => spec_runeLen.j3 k s 2 (lo : Int) (hi : Int)) ((sizeOr (checkN s.size (bn s 1) (bn s 2) (bn s 3) 2 lo hi) : Nat) : Int) := by
  refine ⟨3, fun k hk => ?_⟩
  obtain ⟨k, rfl⟩ : ∃ j, k = j + 3 := ⟨k - 3, by omega⟩
  simp only [spec_runeLen.j3, spec_runeLen.l0, check_two, lo_one, bt1, Int.reduceLT, Int.reduceLE, if_true, if_false]
  repeat' split
  all_goals first | rfl | (exfalso; omega)
theorem j3_three (s : ByteArray) (lo hi : Nat) : Ev (fun k => spec_runeLen.j3 k s 3 (lo : Int) (hi : Int)) ((sizeOr (checkN s.size (bn s 1) (bn s 2) (bn s 3) 3 lo hi) : Nat) : Int) := by
  refine ⟨4, fun k hk => ?_⟩
  obtain ⟨k, rfl⟩ : ∃ j, k = j + 4 := ⟨k - 4, by omega⟩
  simp only [spec_runeLen.j3, spec_runeLen.l0, check_three, lo_one, lo_two, bt1, bt2, Int.reduceLT, Int.reduceLE, if_true, if_false]
  repeat' split
  all_goals first | rfl | (exfalso; omega)
theorem j3_four (s : ByteArray) (lo hi : Nat) : Ev (fun k => spec_runeLen.j3 k s 4 (lo : Int) (hi : Int)) ((sizeOr (checkN s.size (bn s 1) (bn s 2) (bn s 3) 4 lo hi) : Nat) : Int) := by
  refine ⟨5, fun k hk => ?_⟩
  obtain ⟨k, rfl⟩ : ∃ j, k = j + 5 := ⟨k - 5, by omega⟩
  simp only [spec_runeLen.j3, spec_runeLen.l0, check_four, lo_one, lo_two, lo_three, bt1, bt2, bt3, Int.reduceLT, Int.reduceLE, if_true, if_false]
  repeat' split
  all_goals first | rfl | (exfalso; omega)
/-- The size of the first character; 1 for a byte that is part of none. -/
def clen (l : List UInt8) : Nat :=
  if (l.getD 0 0).toNat < 128 then 1
  else sizeOr (checkN l.length (l.getD 1 0).toNat (l.getD 2 0).toNat (l.getD 3 0).toNat (firstT (l.getD 0 0).toNat % 8) (accLo (firstT (l.getD 0 0).toNat / 16)) (accHi (firstT (l.getD 0 0).toNat / 16)))
theorem size_length (s : ByteArray) : s.data.toList.length = s.size := by rw [Array.length_toList]; rfl
theorem ft3 {c : Nat} (h : 224 < c ∧ c < 240 ∧ c ≠ 237) : firstT c = 3 := by
  unfold firstT
  repeat' split
  all_goals first | rfl | omega
theorem ft4 {c : Nat} (h : 240 < c ∧ c < 244) : firstT c = 4 := by
  unfold firstT
  repeat' split
  all_goals first | rfl | omega
theorem ft5 {c : Nat} (h : 244 < c) : firstT c = 241 := by
  unfold firstT
  repeat' split
  all_goals first | rfl | omega
set_option maxHeartbeats 4000000 in
theorem runeLen_ev (s : ByteArray) (h : 0 < s.size) : Ev (fun k => spec_runeLen.f k s) ((clen s.data.toList : Nat) : Int) := by
  have hb : bn s 0 < 256 := (s.data.toList.getD 0 0).toNat_lt
  have ec : clen s.data.toList = (if bn s 0 < 128 then 1 else sizeOr (checkN s.size (bn s 1) (bn s 2) (bn s 3) (firstT (bn s 0) % 8) (accLo (firstT (bn s 0) / 16)) (accHi (firstT (bn s 0) / 16)))) := by unfold clen; rw [size_length]
  unfold spec_runeLen.f
  rw [ec, bt0]
  generalize hc : bn s 0 = c at *
  by_cases c0 : c < 194
  · have er : (if c < 128 then 1 else sizeOr (checkN s.size (bn s 1) (bn s 2) (bn s 3) (firstT c % 8) (accLo (firstT c / 16)) (accHi (firstT c / 16)))) = 1 := by
      by_cases c1 : c < 128
      · rw [if_pos c1]
      · rw [if_neg c1]
        simp [firstT, checkN, c1, c0, sizeOr]
    rw [er]
    refine ev_ite_pos (by omega) (ev_ite_neg (by omega) ?_)
    refine Ev.step (f := fun k => spec_runeLen.j1 k s c 1 128 191 false) (fun k => ?_) (Ev.step (f := fun k => spec_runeLen.j2 k s c 1 128 191 false) (fun k => ?_) (Ev.step (fun k => ?_) (j3_one s 128 191 h)))
    all_goals simp only [spec_runeLen.j0, spec_runeLen.j1, spec_runeLen.j2, Bool.false_eq_true, if_false]
    · rw [if_neg (by omega)]
    · rw [if_neg (by omega)]
  rw [if_neg (show ¬ c < 128 by omega)]
  refine ev_ite_pos (by omega) (ev_ite_pos (by omega) ?_)
  have fin : ∀ sz lo hi, firstT c % 8 = sz → accLo (firstT c / 16) = lo → accHi (firstT c / 16) = hi → (sz = 2 ∨ sz = 3 ∨ sz = 4) →
      Ev (fun k => spec_runeLen.j3 k s (sz : Int) (lo : Int) (hi : Int)) ((sizeOr (checkN s.size (bn s 1) (bn s 2) (bn s 3) (firstT c % 8) (accLo (firstT c / 16)) (accHi (firstT c / 16))) : Nat) : Int) := fun sz lo hi e1 e2 e3 e => by
    rw [e1, e2, e3]
    rcases e with rfl | rfl | rfl
    · exact j3_two s lo hi
    · exact j3_three s lo hi
    · exact j3_four s lo hi
  by_cases c1 : c < 224
  · refine Ev.step (fun k => ?_) (fin 2 128 191 (by simp [firstT, show ¬ c < 128 by omega, c0, c1]) (by simp [firstT, accLo, show ¬ c < 128 by omega, c0, c1]) (by simp [firstT, accHi, show ¬ c < 128 by omega, c0, c1]) (by omega))
    simp only [spec_runeLen.j0]
    rw [if_pos (decide_eq_true (by omega))]
    rfl
  have g0 : decide ((c : Int) ≤ 223) = false := decide_eq_false (by omega)
  rw [g0]
  by_cases c2 : c < 240
  · refine Ev.step (f := fun k => spec_runeLen.j1 k s c 1 128 191 true) (fun k => ?_) ?_
    · simp only [spec_runeLen.j0, Bool.false_eq_true, if_false]
      rw [if_pos (by omega), decide_eq_true (by omega)]
    by_cases c3 : c = 224
    · subst c3
      refine Ev.step (fun k => ?_) (fin 3 160 191 (by decide) (by decide) (by decide) (by omega))
      simp only [spec_runeLen.j1]
      rfl
    by_cases c4 : c = 237
    · subst c4
      refine Ev.step (fun k => ?_) (fin 3 128 159 (by decide) (by decide) (by decide) (by omega))
      simp only [spec_runeLen.j1]
      rfl
    refine Ev.step (fun k => ?_) (fin 3 128 191 (by rw [ft3 (by omega)]) (by rw [ft3 (by omega)]; rfl) (by rw [ft3 (by omega)]; rfl) (by omega))
    simp only [spec_runeLen.j1, if_true]
    rw [if_neg (by omega), if_neg (by omega)]
    rfl
  refine Ev.step (f := fun k => spec_runeLen.j1 k s c 1 128 191 false) (fun k => ?_) ?_
  · simp only [spec_runeLen.j0, Bool.false_eq_true, if_false]
    rw [if_pos (by omega), decide_eq_false (by omega)]
  refine Ev.step (f := fun k => spec_runeLen.j2 k s c 1 128 191 (decide ((c : Int) ≤ 244))) (fun k => ?_) ?_
  · simp only [spec_runeLen.j1, Bool.false_eq_true, if_false]
    rw [if_pos (by omega)]
  by_cases c5 : c ≤ 244
  · rw [decide_eq_true (by omega)]
    by_cases c6 : c = 240
    · subst c6
      refine Ev.step (fun k => ?_) (fin 4 144 191 (by decide) (by decide) (by decide) (by omega))
      simp only [spec_runeLen.j2]
      rfl
    by_cases c7 : c = 244
    · subst c7
      refine Ev.step (fun k => ?_) (fin 4 128 143 (by decide) (by decide) (by decide) (by omega))
      simp only [spec_runeLen.j2]
      rfl
    refine Ev.step (fun k => ?_) (fin 4 128 191 (by rw [ft4 (by omega)]) (by rw [ft4 (by omega)]; rfl) (by rw [ft4 (by omega)]; rfl) (by omega))
    simp only [spec_runeLen.j2, if_true]
    rw [if_neg (by omega), if_neg (by omega)]
    rfl
  · rw [decide_eq_false (by omega)]
    have er : sizeOr (checkN s.size (bn s 1) (bn s 2) (bn s 3) (firstT c % 8) (accLo (firstT c / 16)) (accHi (firstT c / 16))) = 1 := by
      have e : firstT c = 241 := ft5 (by omega)
      rw [e]
      rfl
    rw [er]
    refine Ev.step (fun k => ?_) (j3_one s 128 191 h)
    simp only [spec_runeLen.j2, Bool.false_eq_true, if_false]
end Go.Proofs.YtmjoebnphacadaaGreatDoor.Pure
/- The size of a text's first character, and what it says of the text's being UTF-8. -/
set_option linter.unusedVariables false
set_option linter.unusedSimpArgs false
namespace Go.Proofs.YtmjoebnphacadaaGreatDoor.Pure
open Go.RowKit Go.Lib Go.Proofs.YtmjoebnphacadaaGreatDoor.Q Go.Proofs.YtmjoebnphacadaaGreatDoorW.PrintWords Go.Proofs.YtmjoebnphacadaaGreatDoorW.PrintLast
theorem check_bound {n b1 b2 b3 sz lo hi k : Nat} (h : checkN n b1 b2 b3 sz lo hi = some k) : 2 ≤ k ∧ k ≤ n := by
  unfold checkN at h
  repeat' split at h
  all_goals first | (cases h; done) | (injection h with h; omega)
/-- What the size of the first character says. -/
theorem clen_cases (l : List UInt8) (hne : l ≠ []) :
    ((l.getD 0 0).toNat < 128 ∧ clen l = 1 ∧ validD l = validD (l.drop 1)) ∨ (128 ≤ (l.getD 0 0).toNat ∧ clen l = 1 ∧ validD l = false) ∨
      (128 ≤ (l.getD 0 0).toNat ∧ 2 ≤ clen l ∧ clen l ≤ l.length ∧ validD l = validD (l.drop (clen l))) := by
  by_cases h0 : (l.getD 0 0).toNat < 128
  · left
    refine ⟨h0, by unfold clen; rw [if_pos h0], ?_⟩
    cases l with
    | nil => exact absurd rfl hne
    | cons b t => exact validD_cons b t h0
  · right
    have hv := validD_lead l hne (by omega)
    have hc : clen l = sizeOr (checkN l.length (l.getD 1 0).toNat (l.getD 2 0).toNat (l.getD 3 0).toNat (firstT (l.getD 0 0).toNat % 8) (accLo (firstT (l.getD 0 0).toNat / 16)) (accHi (firstT (l.getD 0 0).toNat / 16))) := by
      unfold clen; rw [if_neg h0]
    cases hk : checkN l.length (l.getD 1 0).toNat (l.getD 2 0).toNat (l.getD 3 0).toNat (firstT (l.getD 0 0).toNat % 8) (accLo (firstT (l.getD 0 0).toNat / 16)) (accHi (firstT (l.getD 0 0).toNat / 16)) with
    | none =>
      rw [hk] at hv hc
      exact .inl ⟨by omega, hc, hv⟩
    | some k =>
      rw [hk] at hv hc
      have hb := check_bound hk
      have hc' : clen l = k := hc
      exact .inr ⟨by omega, by omega, by omega, by rw [hc']; exact hv⟩
theorem clen_pos (l : List UInt8) (hne : l ≠ []) : 1 ≤ clen l ∧ clen l ≤ l.length := by
  have : 0 < l.length := List.length_pos_iff.2 hne
  rcases clen_cases l hne with ⟨_, h, _⟩ | ⟨_, h, _⟩ | ⟨_, h1, h2, _⟩ <;> omega
theorem extract_list (s : ByteArray) (n : Nat) : (s.extract n s.size).data.toList = s.data.toList.drop n := by
  have hz : s.data.toList.length = s.size := size_length s
  rw [ByteArray.data_extract, Array.toList_extract, List.extract_eq_take_drop, List.take_of_length_le (by rw [List.length_drop, hz]; omega)]
theorem extract_size (s : ByteArray) (n : Nat) : (s.extract n s.size).size = s.size - n := by
  rw [← size_length, extract_list, List.length_drop, size_length]
end Go.Proofs.YtmjoebnphacadaaGreatDoor.Pure
/- spec.Valid is utf8's own word. -/
set_option linter.unusedVariables false
set_option linter.unusedSimpArgs false
namespace Go.Proofs.YtmjoebnphacadaaGreatDoor.Pure
open Go.RowKit Go.Lib Go.Proofs.YtmjoebnphacadaaGreatDoor.Q Go.Proofs.YtmjoebnphacadaaGreatDoorW.PrintWords Go.Proofs.YtmjoebnphacadaaGreatDoorW.PrintLast
theorem valid_ev : ∀ (n : Nat) (s : ByteArray), s.size ≤ n → Ev (fun k => spec_Valid.l0 k s) (validD s.data.toList)
  | n, s, hn => by
    by_cases h0 : s.size = 0
    · have : s.data.toList = [] := List.eq_nil_of_length_eq_zero (by rw [size_length]; exact h0)
      rw [this]
      refine ev_succ fun k => ?_
      simp only [spec_Valid.l0]
      rw [if_neg (by omega)]
      rfl
    cases n with
    | zero => omega
    | succ n =>
    have hne : s.data.toList ≠ [] := fun e => h0 (by rw [← size_length, e]; rfl)
    obtain ⟨p1, p2⟩ := clen_pos _ hne
    rw [size_length] at p2
    have hr := runeLen_ev s (by omega)
    have ih := valid_ev n (s.extract (clen s.data.toList) s.size) (by rw [extract_size]; omega)
    rw [extract_list] at ih
    refine Ev.step (f := fun k => (spec_runeLen.f k s).bind fun t101 => _) (fun k => by simp only [spec_Valid.l0]; rw [if_pos (by omega)]) (Ev.bind hr ?_)
    rw [bt0, Int.toNat_natCast]
    rcases clen_cases _ hne with ⟨a, b, c⟩ | ⟨a, b, c⟩ | ⟨a, b, b', c⟩
    · rw [b] at ih ⊢
      rw [c]
      refine ev_ite_pos rfl (ev_ite_pos (by omega) (ev_ite_neg (by unfold bn; omega) (ev_ite_pos (by omega) (ev_ite_pos (by omega) ih))))
    · rw [b, c]
      refine ev_ite_pos rfl (ev_ite_pos (by omega) (ev_ite_pos (by unfold bn; omega) (Ev.now _)))
    · rw [c]
      exact ev_ite_neg (by omega) (ev_ite_pos (by omega) (ev_ite_pos (by omega) ih))
theorem specValid_ev (s : ByteArray) : Ev (fun k => spec_Valid.f k s) (validD s.data.toList) := valid_ev s.size s (Nat.le_refl _)
end Go.Proofs.YtmjoebnphacadaaGreatDoor.Pure
/- A text's characters, one behind the other: how many, what is cut of them, and what the cut reads as. -/
set_option linter.unusedVariables false
set_option linter.unusedSimpArgs false
namespace Go.Proofs.YtmjoebnphacadaaGreatDoor.Pure
open Go.RowKit Go.Lib
/-- How many characters. -/
def cnt : Nat → List UInt8 → Nat
  | 0, _ => 0
  | f + 1, l => if l = [] then 0 else 1 + cnt f (l.drop (clen l))
def count (l : List UInt8) : Nat := cnt l.length l
theorem cnt_nil : ∀ n, cnt n [] = 0
  | 0 => rfl
  | _ + 1 => rfl
theorem cnt_fuel : ∀ (n m : Nat) (l : List UInt8), l.length ≤ n → l.length ≤ m → cnt n l = cnt m l
  | 0, m, l, hn, _ => by
    have : l = [] := List.eq_nil_of_length_eq_zero (by omega)
    subst this
    rw [cnt_nil, cnt_nil]
  | n + 1, 0, l, _, hm => by
    have : l = [] := List.eq_nil_of_length_eq_zero (by omega)
    subst this
    rw [cnt_nil, cnt_nil]
  | n + 1, m + 1, l, hn, hm => by
    unfold cnt
    by_cases hne : l = []
    · rw [if_pos hne, if_pos hne]
    · have := clen_pos l hne
      rw [if_neg hne, if_neg hne, cnt_fuel n m _ (by rw [List.length_drop]; omega) (by rw [List.length_drop]; omega)]
theorem count_step (l : List UInt8) (hne : l ≠ []) : count l = 1 + count (l.drop (clen l)) := by
  have hl : 0 < l.length := List.length_pos_iff.2 hne
  have := clen_pos l hne
  obtain ⟨n, hn⟩ : ∃ n, l.length = n + 1 := ⟨l.length - 1, by omega⟩
  unfold count
  rw [hn]
  show (if l = [] then 0 else 1 + cnt n (l.drop (clen l))) = _
  rw [if_neg hne, cnt_fuel n (l.drop (clen l)).length _ (by rw [List.length_drop]; omega) (Nat.le_refl _)]
end Go.Proofs.YtmjoebnphacadaaGreatDoor.Pure
/- spec.Runes counts the characters. -/
set_option linter.unusedVariables false
set_option linter.unusedSimpArgs false
namespace Go.Proofs.YtmjoebnphacadaaGreatDoor.Pure
open Go.RowKit Go.Lib Go.Proofs.YtmjoebnphacadaaGreatDoor.Q Go.Proofs.YtmjoebnphacadaaGreatDoorW.PrintWords Go.Proofs.YtmjoebnphacadaaGreatDoorW.PrintLast
theorem runes_ev : ∀ (n : Nat) (s : ByteArray) (a : Nat), s.size ≤ n → a + n ≤ 9223372036854775807 → Ev (fun k => spec_Runes.l0 k s (a : Int)) ((a + count s.data.toList : Nat) : Int)
  | n, s, a, hn, ha => by
    by_cases h0 : s.size = 0
    · have : s.data.toList = [] := List.eq_nil_of_length_eq_zero (by rw [size_length]; exact h0)
      rw [this]
      refine ev_succ fun k => ?_
      simp only [spec_Runes.l0]
      rw [if_neg (by omega)]
      rfl
    cases n with
    | zero => omega
    | succ n =>
    have hne : s.data.toList ≠ [] := fun e => h0 (by rw [← size_length, e]; rfl)
    obtain ⟨p1, p2⟩ := clen_pos _ hne
    rw [size_length] at p2
    have hr := runeLen_ev s (by omega)
    have ih := runes_ev n (s.extract (clen s.data.toList) s.size) (a + 1) (by rw [extract_size]; omega) (by omega)
    rw [extract_list] at ih
    have hw : wrap64 ((a : Int) + 1) = ((a + 1 : Nat) : Int) := by unfold wrap64; omega
    refine Ev.step (f := fun k => (spec_runeLen.f k s).bind fun t => _) (fun k => by simp only [spec_Runes.l0]; rw [if_pos (by omega)]) (Ev.bind hr ?_)
    rw [Int.toNat_natCast, count_step _ hne, ← Nat.add_assoc, hw]
    exact ev_ite_pos (by omega) (ev_ite_pos (by omega) ih)
theorem specRunes_ev (s : ByteArray) (h : s.size ≤ 9223372036854775807) : Ev (fun k => spec_Runes.f k s) ((count s.data.toList : Nat) : Int) := by
  have := runes_ev s.size s 0 (Nat.le_refl _) (by omega)
  rw [Nat.zero_add] at this
  exact this
end Go.Proofs.YtmjoebnphacadaaGreatDoor.Pure
/- spec.Settled, spec.Tokens: what they answer. -/
namespace Go.Proofs.YtmjoebnphacadaaGreatDoor.Lex
open Go.RowKit Go.Lib Go.Proofs.YtmjoebnphacadaaGreatDoor.Pure Go.Proofs.YtmjoebnphacadaaGreatDoor.Q Go.Proofs.YtmjoebnphacadaaGreatDoorW.PrintWords Go.Proofs.YtmjoebnphacadaaGreatDoorW.PrintLast
set_option linter.unusedVariables false
set_option linter.unusedSimpArgs false
theorem begins_ev (x q : ByteArray) : spec_Begins.f x q = some (decide (x.data.toList.take q.size = q.data.toList)) := by
  unfold spec_Begins.f
  by_cases h : (q.size : Int) ≤ (x.size : Int)
  · rw [if_pos h, if_pos (by omega), Int.toNat_natCast, Go.Lib.toList_data, Go.Lib.toList_data, Lib.extract_data, List.drop_zero, Nat.sub_zero]
    congr 1
    rw [Bool.eq_iff_iff, beq_iff_eq, decide_eq_true_eq]
  · rw [if_neg h]
    congr 1
    symm
    refine decide_eq_false fun he => ?_
    have := congrArg List.length he
    rw [List.length_take, list_size, list_size] at this
    omega
def wideA : List ByteArray := [(⟨#[194, 133]⟩ : ByteArray), (⟨#[194, 160]⟩ : ByteArray), (⟨#[225, 154, 128]⟩ : ByteArray), (⟨#[226, 128, 168]⟩ : ByteArray), (⟨#[226, 128, 169]⟩ : ByteArray), (⟨#[226, 128, 175]⟩ : ByteArray), (⟨#[226, 129, 159]⟩ : ByteArray), (⟨#[227, 128, 128]⟩ : ByteArray)]
def tail3 (l : List UInt8) : Bool := decide (2 < l.length) && decide ((l.getD 0 0).toNat = 226) && decide ((l.getD 1 0).toNat = 128) && decide (128 ≤ (l.getD 2 0).toNat) && decide ((l.getD 2 0).toNat ≤ 138)
theorem bt_getD {s : ByteArray} {i : Nat} (h : i < s.size) : bt s (i : Int) = (((s.data.toList.getD i 0).toNat : Nat) : Int) := by
  rw [bt_list h, List.getD_eq_getElem?_getD, List.getElem?_eq_getElem (by rw [list_size]; exact h)]
  rfl
theorem wide_loop (x : ByteArray) : Ev (fun k => spec_wideBlank.l0 k x wideA 8 0) (wideB x.data.toList) := by
  have g := ev_up (L := fun k i => spec_wideBlank.l0 k x wideA 8 (i : Int)) (fun i => ((wideA.drop i).any fun q => decide (x.data.toList.take q.size = q.data.toList)) || tail3 x.data.toList) 8 (ev_succ (fun k => by
      simp only [spec_wideBlank.l0]
      rw [if_neg (by decide)]
      show _ = some (false || tail3 x.data.toList)
      rw [Bool.false_or]
      by_cases h2 : (x.size : Int) > 2
      · have b0 := bt_getD (s := x) (i := 0) (by omega)
        have b1 := bt_getD (s := x) (i := 1) (by omega)
        have b2 := bt_getD (s := x) (i := 2) (by omega)
        have hl : decide (2 < x.data.toList.length) = true := decide_eq_true (by rw [list_size]; omega)
        rw [if_pos h2, if_pos (by omega)]
        unfold tail3
        rw [hl]
        by_cases k0 : bt x 0 = 226
        · rw [if_pos k0, if_pos (by omega), decide_eq_true (show (x.data.toList.getD 0 0).toNat = 226 by have := b0.symm.trans k0; omega)]
          by_cases k1 : bt x 1 = 128
          · rw [if_pos k1, if_pos (by omega), decide_eq_true (show (x.data.toList.getD 1 0).toNat = 128 by have := b1.symm.trans k1; omega)]
            have b2' : bt x 2 = (((x.data.toList.getD 2 0).toNat : Nat) : Int) := b2
            by_cases k2 : bt x 2 ≥ 128
            · rw [if_pos k2, decide_eq_true (show 128 ≤ (x.data.toList.getD 2 0).toNat by omega)]
              rw [b2']
              simp only [Bool.and_true, Bool.true_and]
              congr 1
              rw [Bool.eq_iff_iff, decide_eq_true_eq, decide_eq_true_eq]
              omega
            · rw [if_neg k2, decide_eq_false (show ¬ 128 ≤ (x.data.toList.getD 2 0).toNat by omega)]
              simp
          · rw [if_neg k1, decide_eq_false (show ¬ (x.data.toList.getD 1 0).toNat = 128 by intro h; apply k1; rw [show bt x 1 = _ from b1, h]; rfl)]
            simp
        · rw [if_neg k0, decide_eq_false (show ¬ (x.data.toList.getD 0 0).toNat = 226 by intro h; apply k0; rw [show bt x 0 = _ from b0, h]; rfl)]
          simp
      · rw [if_neg h2]
        unfold tail3
        rw [decide_eq_false (show ¬ 2 < x.data.toList.length by rw [list_size]; omega)]
        rfl)) (fun i hi g => by
    have hl : i < wideA.length := hi
    rw [List.drop_eq_getElem_cons hl, List.any_cons, Bool.or_assoc]
    have er : rdOf ByteArray.empty wideA (i : Int) = wideA[i] := by
      show wideA.getD (i : Int).toNat _ = _
      rw [Int.toNat_natCast, List.getD_eq_getElem?_getD, List.getElem?_eq_getElem hl]
      rfl
    have EW := Aside0.mk (show wrap64 ((i : Int) + 1) = ((i + 1 : Nat) : Int) by unfold wrap64; omega)
    have h8 : (wideA.length : Int) = 8 := rfl
    cases hb : decide (x.data.toList.take (wideA[i]).size = (wideA[i]).data.toList) with
    | true =>
      refine ev_succ (fun k => ?_)
      simp only [spec_wideBlank.l0]
      rw [if_pos (by omega), if_pos (by omega), if_pos (by omega), er, begins_ev, hb, Option.bind_some, if_pos rfl]
      rfl
    | false =>
      rw [Bool.false_or]
      refine Ev.step (f := fun k => spec_wideBlank.l0 k x wideA 8 ((i + 1 : Nat) : Int)) (fun k => ?_) g
      simp only [spec_wideBlank.l0]
      rw [if_pos (by omega), if_pos (by omega), if_pos (by omega), er, begins_ev, hb, Option.bind_some, if_neg (by simp), EW.out]) 8 0 (by omega)
  exact g
theorem wide_ev (x : ByteArray) : Ev (fun k => spec_wideBlank.f k x) (wideB x.data.toList) := wide_loop x
theorem set_loop (s : ByteArray) (hs : s.size ≤ 2147483647) : ∀ (d i : Nat), i + d = s.size → ∃ b, Ev (fun k => spec_Settled.l0 k s (s.size : Int) (i : Int)) b ∧ (b = true ↔ ∀ j, i ≤ j → j < s.size → wideB (s.data.toList.drop j) = false) := by
  intro d
  induction d with
  | zero =>
    intro i hi
    refine ⟨true, ev_succ (fun k => ?_), by simp; omega⟩
    simp only [spec_Settled.l0]
    rw [if_neg (by omega)]
  | succ d ih =>
    intro i hi
    obtain ⟨b, h1, h2⟩ := ih (i + 1) (by omega)
    have hw := wide_ev (s.extract i s.size)
    rw [ext_list] at hw
    have EW := Aside0.mk (show wrap64 ((i : Int) + 1) = ((i + 1 : Nat) : Int) by unfold wrap64; omega)
    have step : ∀ k, spec_Settled.l0 (k + 1) s (s.size : Int) (i : Int) = ((spec_wideBlank.f k (s.extract i s.size)).bind fun t113 => (if t113 = true then (some false) else (spec_Settled.l0 k s (s.size : Int) ((i + 1 : Nat) : Int)))) := by
      intro k
      simp only [spec_Settled.l0]
      rw [if_pos (by omega), if_pos (by omega), if_pos (by omega), EW.out, Int.toNat_natCast]
    cases hb : wideB (s.data.toList.drop i) with
    | true =>
      rw [hb] at hw
      refine ⟨false, Ev.step step (Ev.bind hw (ev_ite_pos rfl (Ev.now _))), ?_⟩
      constructor
      · intro h; exact nomatch h
      · intro h
        have := h i (Nat.le_refl _) (by omega)
        rw [hb] at this
        exact nomatch this
    | false =>
      rw [hb] at hw
      refine ⟨b, Ev.step step (Ev.bind hw (ev_ite_neg (by simp) h1)), ?_⟩
      rw [h2]
      constructor
      · intro h j hj hlt
        by_cases e : j = i
        · rw [e]; exact hb
        · exact h j (by omega) hlt
      · intro h j hj hlt
        exact h j (by omega) hlt
/-- spec.Tokens of a text: Open, or the tokens of the scanner. -/
theorem specTokens_ev (s : ByteArray) (hs : s.size ≤ 2147483647) : ∃ t, Ev (fun k => spec_Tokens.f k s) t ∧ (t.2 = 2 ∨ (Lib.validD s.data.toList = true ∧ t.1.length ≤ s.size ∧ S0 s 0 0 = strmB (s.size + 1) s.data.toList ∧ t.1.map kt2 = (S0 s 0 0).1 ∧ ((t.2 = 1 ∧ (S0 s 0 0).2 = true) ∨ (t.2 = 0 ∧ (S0 s 0 0).2 = false)))) := by
  have hv := specValid_ev s
  obtain ⟨b, h1, h2⟩ := set_loop s hs s.size 0 (by omega)
  unfold spec_Tokens.f spec_Settled.f
  cases hval : Lib.validD s.data.toList with
  | false =>
    rw [hval] at hv
    exact ⟨([], 2), Ev.bind (Ev.bind hv (ev_ite_neg (by simp) (Ev.now false))) (ev_ite_neg (by simp) (Ev.now _)), .inl rfl⟩
  | true =>
    rw [hval] at hv
    cases b with
    | false => exact ⟨([], 2), Ev.bind (Ev.bind hv (ev_ite_pos rfl h1)) (ev_ite_neg (by simp) (Ev.now _)), .inl rfl⟩
    | true =>
      have hw := h2.1 rfl
      obtain ⟨ts, st, k1, k2, k3, k4⟩ := tokens_loop hs (fun x hx => ⟨_, specRunes_ev x (by omega)⟩) s.size 0 (s.size + 1) [] (by omega) (Nat.zero_le _) (by omega) (by simp)
      have e := s0_bytes (s := s) (by rw [valid_vd]; exact hval) (fun i hi => hw i (Nat.zero_le _) hi)
      rw [List.drop_zero] at k2 k4
      rw [← e] at k2 k4
      refine ⟨(ts, st), Ev.bind (Ev.bind hv (ev_ite_pos rfl h1)) (ev_ite_pos rfl k1), .inr ⟨rfl, by omega, e, k2, k4⟩⟩
end Go.Proofs.YtmjoebnphacadaaGreatDoor.Lex
/- spec.within: what it answers at a quoted token. -/
namespace Go.Proofs.YtmjoebnphacadaaGreatDoor.Lex
open Go.RowKit Go.Lib Go.Proofs.YtmjoebnphacadaaGreatDoor.Pure Go.Proofs.YtmjoebnphacadaaGreatDoor.Q Go.Proofs.YtmjoebnphacadaaGreatDoorW.PrintWords Go.Proofs.YtmjoebnphacadaaGreatDoorW.PrintLast
set_option linter.unusedVariables false
set_option linter.unusedSimpArgs false
def numL (l : List UInt8) : List Int := l.map fun x => (x.toNat : Int)
theorem numL_str (l : List UInt8) : strOfNums (numL l) = bl l := by
  unfold strOfNums numL bl
  rw [List.map_map]
  congr 2
  conv => rhs; rw [← List.map_id l]
  congr 1
  funext x
  show UInt8.ofNat ((x.toNat : Int)).toNat = x
  rw [Int.toNat_natCast, UInt8.ofNat_toNat]
def wiR (acc : List UInt8) : Option (List UInt8) → ByteArray × Int
  | some b => (bl (acc ++ b), 1)
  | none => (⟨#[]⟩, 2)
theorem wiR_cons (acc : List UInt8) (c : UInt8) (o : Option (List UInt8)) : wiR acc (o.map (c :: ·)) = wiR (acc ++ [c]) o := by
  cases o with
  | none => rfl
  | some b => show (bl (acc ++ (c :: b)), (1 : Int)) = (bl (acc ++ [c] ++ b), 1); rw [List.append_assoc]; rfl
theorem within_loop {s : ByteArray} (hs : s.size ≤ 2147483647) : ∀ (n : Nat) (rest : List UInt8) (i : Nat) (acc : List UInt8), rest.length ≤ n → s.data.toList.drop i = rest ++ [34] → nq rest = true → acc.length ≤ i →
    Ev (fun k => spec_within.l0 k s (numL acc) (i : Int)) (wiR acc (wiL rest)) := by
  intro n
  have size : ∀ (rest : List UInt8) (i : Nat), s.data.toList.drop i = rest ++ [34] → i + rest.length + 1 = s.size := by
    intro rest i h
    have := congrArg List.length h
    rw [List.length_drop, list_size, List.length_append] at this
    simp only [List.length_cons, List.length_nil] at this
    omega
  have numc : ∀ (acc : List UInt8) (c : UInt8), numL acc ++ [(c.toNat : Int)] = numL (acc ++ [c]) := by
    intro acc c
    unfold numL
    rw [List.map_append]
    rfl
  have stop : ∀ (i : Nat) (acc : List UInt8), s.data.toList.drop i = [] ++ [34] → Ev (fun k => spec_within.l0 k s (numL acc) (i : Int)) (wiR acc (wiL [])) := by
    intro i acc h
    have hz := size [] i h
    have E1 := Aside0.mk (show wrap64 ((s.size : Int) - 1) = ((s.size - 1 : Nat) : Int) by unfold wrap64; simp only [List.length_nil] at hz; omega)
    refine ev_succ (fun k => ?_)
    simp only [spec_within.l0]
    rw [E1.out, if_neg (by simp only [List.length_nil] at hz; omega), numL_str]
    show _ = some (bl (acc ++ []), (1 : Int))
    rw [List.append_nil]
  induction n with
  | zero =>
    intro rest i acc hn h hq ha
    obtain rfl := List.eq_nil_of_length_eq_zero (show rest.length = 0 by omega)
    exact stop i acc h
  | succ n ih =>
    intro rest i acc hn h hq ha
    cases rest with
    | nil => exact stop i acc h
    | cons c r =>
      have hz := size (c :: r) i h
      simp only [List.length_cons] at hz hn
      have hlt : i < s.size := by omega
      have hl : i < s.data.toList.length := by rw [list_size]; exact hlt
      have hdr := List.drop_eq_getElem_cons hl
      rw [h] at hdr
      obtain ⟨g1, g2⟩ := List.cons.inj (show c :: (r ++ [34]) = s.data.toList[i] :: s.data.toList.drop (i + 1) from hdr)
      have HB := Aside0.mk (show bt s (i : Int) = (c.toNat : Int) by rw [bt_list hlt, ← g1])
      have E1 := Aside0.mk (show wrap64 ((s.size : Int) - 1) = ((s.size - 1 : Nat) : Int) by unfold wrap64; omega)
      have EW := Aside0.mk (show wrap64 ((i : Int) + 1) = ((i + 1 : Nat) : Int) by unfold wrap64; omega)
      have EW2 := Aside0.mk (show wrap64 (((i + 1 : Nat) : Int) + 1) = ((i + 2 : Nat) : Int) by unfold wrap64; omega)
      have lenA : ∀ (a : List UInt8), (numL a).length = a.length := fun a => List.length_map ..
      have open_ : Ev (fun k => spec_within.j1 k s (numL acc) (i : Int) (c.toNat : Int) true) ((⟨#[]⟩ : ByteArray), (2 : Int)) := ev_succ (fun k => rfl)
      have step : ∀ k, spec_within.l0 (k + 1) s (numL acc) (i : Int) = (if (c.toNat : Int) < 32 then spec_within.j1 k s (numL acc) (i : Int) (c.toNat : Int) true else spec_within.j1 k s (numL acc) (i : Int) (c.toNat : Int) ((c.toNat : Int) == 127)) := by
        intro k
        simp only [spec_within.l0]
        rw [E1.out, if_pos (by omega), if_pos (by omega), if_pos (by omega), HB.out]
      refine Ev.step step ?_
      by_cases h32 : c.toNat < 32 ∨ c.toNat = 127
      · have e : wiL (c :: r) = none := by
          cases r <;> (unfold wiL; rw [if_pos h32])
        rw [e]
        by_cases k1 : c.toNat < 32
        · exact ev_ite_pos (by omega) open_
        · refine ev_ite_neg (by omega) ?_
          rw [show ((c.toNat : Int) == 127) = true by rw [beq_iff_eq]; omega]
          exact open_
      · refine ev_ite_neg (by omega) ?_
        rw [show ((c.toNat : Int) == 127) = false by rw [beq_eq_false_iff_ne]; omega]
        by_cases h92 : c.toNat = 92
        · cases r with
          | nil => unfold nq at hq; simp [h92] at hq
          | cons d r =>
            simp only [List.length_cons] at hz hn
            have hq2 : nq r = true := by
              unfold nq at hq
              rw [if_pos h92] at hq
              exact hq
            have hlt1 : i + 1 < s.size := by omega
            have hl1 : i + 1 < s.data.toList.length := by rw [list_size]; exact hlt1
            have hdr1 := List.drop_eq_getElem_cons hl1
            rw [← g2] at hdr1
            obtain ⟨g3, g4⟩ := List.cons.inj (show d :: (r ++ [34]) = s.data.toList[i + 1] :: s.data.toList.drop (i + 1 + 1) from hdr1)
            have HB1 := Aside0.mk (show bt s ((i + 1 : Nat) : Int) = (d.toNat : Int) by rw [bt_list hlt1, ← g3])
            have e : wiL (c :: d :: r) = if d.toNat = 110 then (wiL r).map (10 :: ·) else if d.toNat = 34 ∨ d.toNat = 92 then (wiL r).map (d :: ·) else none := by
              rw [wiL, if_neg h32, if_pos h92]
            rw [e]
            have nx : ∀ (v : UInt8), Ev (fun k => spec_within.l0 k s (numL acc ++ [(v.toNat : Int)]) ((i + 2 : Nat) : Int)) (wiR acc ((wiL r).map (v :: ·))) := by
              intro v
              rw [wiR_cons, numc]
              exact ih r (i + 2) (acc ++ [v]) (by omega) g4.symm hq2 (by rw [List.length_append]; simp only [List.length_cons, List.length_nil]; omega)
            have step2 : ∀ k, spec_within.j1 (k + 1) s (numL acc) (i : Int) (c.toNat : Int) false = (if (d.toNat : Int) = 110 then spec_within.l0 k s (numL acc ++ [10]) ((i + 2 : Nat) : Int) else if (d.toNat : Int) = 34 then spec_within.l0 k s (numL acc ++ [(d.toNat : Int)]) ((i + 2 : Nat) : Int) else if (d.toNat : Int) = 92 then spec_within.l0 k s (numL acc ++ [(d.toNat : Int)]) ((i + 2 : Nat) : Int) else some ((⟨#[]⟩ : ByteArray), 2)) := by
              intro k
              have hacc : ((numL acc).length < 140737488355328) = True := eq_true (by rw [lenA]; omega)
              simp only [spec_within.j1]
              rw [if_neg (by simp), if_pos (by omega), EW.out, if_pos (by omega), if_pos (by omega), HB1.out, EW2.out]
              simp only [hacc, if_true]
            refine Ev.step step2 ?_
            by_cases k110 : d.toNat = 110
            · rw [if_pos k110]
              exact ev_ite_pos (by omega) (nx 10)
            · rw [if_neg k110]
              refine ev_ite_neg (by omega) ?_
              by_cases kd : d.toNat = 34 ∨ d.toNat = 92
              · rw [if_pos kd]
                by_cases k34 : d.toNat = 34
                · exact ev_ite_pos (by omega) (nx d)
                · exact ev_ite_neg (by omega) (ev_ite_pos (by omega) (nx d))
              · rw [if_neg kd]
                exact ev_ite_neg (by omega) (ev_ite_neg (by omega) (Ev.now _))
        · have hq2 := (nq_one h92 hq).2
          have e : wiL (c :: r) = (wiL r).map (c :: ·) := by
            cases r with
            | nil =>
              have e1 : wiL [c] = if c.toNat < 32 ∨ c.toNat = 127 then none else if c.toNat = 92 then none else some [c] := by unfold wiL; rfl
              rw [e1, if_neg h32, if_neg h92]
              rfl
            | cons d r => rw [wiL, if_neg h32, if_neg h92]
          rw [e, wiR_cons]
          refine Ev.step (f := fun k => spec_within.l0 k s (numL acc ++ [(c.toNat : Int)]) ((i + 1 : Nat) : Int)) (fun k => ?_) (by
            rw [numc]
            exact ih r (i + 1) (acc ++ [c]) (by omega) g2.symm hq2 (by rw [List.length_append]; simp only [List.length_cons, List.length_nil]; omega))
          have hacc : ((numL acc).length < 140737488355328) = True := eq_true (by rw [lenA]; omega)
          simp only [spec_within.j1]
          rw [if_neg (by simp), if_neg (by omega), EW.out]
          simp only [hacc, if_true]
theorem within_ev {body : List UInt8} (hs : body.length + 2 ≤ 2147483647) (hq : nq body = true) : Ev (fun k => spec_within.f k (bl (34 :: (body ++ [34])))) (wiR [] (wiL body)) := by
  have hz : (bl (34 :: (body ++ [34]))).size = body.length + 2 := by rw [bl_size]; simp
  exact within_loop (s := bl (34 :: (body ++ [34]))) (by omega) body.length body 1 [] (Nat.le_refl _) rfl hq (by simp)
end Go.Proofs.YtmjoebnphacadaaGreatDoor.Lex
/- spec.word, laws.eqRead: what they answer. -/
namespace Go.Proofs.YtmjoebnphacadaaGreatDoor.Lex
open Go.RowKit Go.Lib Go.Proofs.YtmjoebnphacadaaGreatDoor.Pure Go.Proofs.YtmjoebnphacadaaGreatDoor.Q Go.Proofs.YtmjoebnphacadaaGreatDoorW.PrintWords Go.Proofs.YtmjoebnphacadaaGreatDoorW.PrintLast
set_option linter.unusedVariables false
set_option linter.unusedSimpArgs false
/-- A token as the scanner leaves it in valid text. -/
structure TokOK (t : S49) : Prop where
  n : 0 ≤ t.f0
  q : t.f0 = 8 → ∃ body, t.f1 = bl (34 :: (body ++ [34])) ∧ nq body = true ∧ Lib.validD body = true ∧ body.length + 2 ≤ 2147483647
/-- What a token says as a name or a value: 0 nothing, 1 a text, 2 not told. -/
theorem word_says {t : S49} (h : TokOK t) : ∃ v st, Ev (fun k => spec_word.f k t.f0 t.f1 t.f2 t.f3 t.f4 t.f5) (v, st) ∧ ((st = 0 ∧ t.f0 ≠ 8 ∧ t.f0 ≠ 9) ∨ (st = 1 ∧ (t.f0 = 8 ∨ t.f0 = 9) ∧ unqT t.f0.toNat t.f1 = some v) ∨ (st = 2 ∧ (t.f0 = 8 ∨ t.f0 = 9))) := by
  unfold spec_word.f
  by_cases h8 : t.f0 = 8
  · obtain ⟨body, e, hq, hv, hl⟩ := h.q h8
    have hw := within_ev hl hq
    rw [← e] at hw
    cases hb : wiL body with
    | none =>
      rw [hb] at hw
      exact ⟨⟨#[]⟩, 2, ev_ite_pos h8 (Ev.bind hw (Ev.now _)), .inr (.inr ⟨rfl, .inl h8⟩)⟩
    | some b =>
      rw [hb] at hw
      refine ⟨bl ([] ++ b), 1, ev_ite_pos h8 (Ev.bind hw (Ev.now _)), .inr (.inl ⟨rfl, .inl h8, ?_⟩)⟩
      rw [h8, e]
      exact unqT_ok hq hb hv
  · by_cases h9 : t.f0 = 9
    · refine ⟨t.f1, 1, ev_ite_neg h8 (ev_ite_pos h9 (Ev.now _)), .inr (.inl ⟨rfl, .inr h9, ?_⟩)⟩
      unfold unqT
      rw [if_neg (by omega)]
    · exact ⟨⟨#[]⟩, 0, ev_ite_neg h8 (ev_ite_neg h9 (Ev.now _)), .inl ⟨rfl, h8, h9⟩⟩
end Go.Proofs.YtmjoebnphacadaaGreatDoor.Lex
/- Steps of the run over tokens. -/
namespace Go.Proofs.YtmjoebnphacadaaGreatDoor.Lex
open Go.RowKit Go.Lib Go.Proofs.YtmjoebnphacadaaGreatDoor.Pure Go.Proofs.YtmjoebnphacadaaGreatDoor.Q Go.Proofs.YtmjoebnphacadaaGreatDoorW.PrintWords Go.Proofs.YtmjoebnphacadaaGreatDoorW.PrintLast
set_option linter.unusedVariables false
set_option linter.unusedSimpArgs false
theorem runT_next {e : Bool} {f : Nat} {q q2 : PS} {has has2 : Bool} {ts ts2 : List Tk} {l l2 : List SMt} (h : stT q has l ts e = .next q2 has2 ts2 l2) : runT e (f + 1) q has ts l = runT e f q2 has2 ts2 l2 := by
  have e1 : runT e (f + 1) q has ts l = (match stT q has l ts e with | .fail => none | .done l => some l | .next q has ts l => runT e f q has ts l) := rfl
  rw [e1, h]
theorem runT_fail {e : Bool} {f : Nat} {q : PS} {has : Bool} {ts : List Tk} {l : List SMt} (h : stT q has l ts e = .fail) : runT e f q has ts l = none := by
  cases f with
  | zero => rfl
  | succ f =>
    have e1 : runT e (f + 1) q has ts l = (match stT q has l ts e with | .fail => none | .done l => some l | .next q has ts l => runT e f q has ts l) := rfl
    rw [e1, h]
end Go.Proofs.YtmjoebnphacadaaGreatDoor.Lex
/- The parser's run over tokens, as a list of matchers with commas between, in braces or not. -/
namespace Go.Proofs.YtmjoebnphacadaaGreatDoor.Lex
open Go.RowKit Go.Lib Go.Proofs.YtmjoebnphacadaaGreatDoor.Pure Go.Proofs.YtmjoebnphacadaaGreatDoor.Q Go.Proofs.YtmjoebnphacadaaGreatDoorW.PrintWords Go.Proofs.YtmjoebnphacadaaGreatDoorW.PrintLast
set_option linter.unusedVariables false
set_option linter.unusedSimpArgs false
/-- Matchers with commas between them, and one behind the last one or not. -/
noncomputable def plist : List Tk → Option (List SMt)
  | [] => some []
  | x :: y :: z :: [] => (mkT x y z).map fun m => [m]
  | x :: y :: z :: c :: r => (mkT x y z).bind fun m => if c.1 = 3 then (plist r).map (m :: ·) else none
  | _ => none
theorem mkT_kinds {x y z : Tk} {m : SMt} (h : mkT x y z = some m) : (x.1 = 8 ∨ x.1 = 9) ∧ (y.1 = 4 ∨ y.1 = 5 ∨ y.1 = 6 ∨ y.1 = 7) ∧ (z.1 = 9 ∨ z.1 = 8) := by
  unfold mkT at h
  split at h
  · rename_i hx
    split at h
    · exact nomatch h
    · split at h
      · rename_i hy
        split at h
        · rename_i hz
          exact ⟨hx, hy, hz⟩
        · exact nomatch h
      · exact nomatch h
  · exact nomatch h
theorem plist_bad {t : Tk} {r : List Tk} (h : ¬ (t.1 = 8 ∨ t.1 = 9)) : plist (t :: r) = none := by
  match r with
  | [] => rfl
  | [_] => rfl
  | [y, z] =>
    show (mkT t y z).map _ = none
    cases hm : mkT t y z with
    | none => rfl
    | some m => exact absurd (mkT_kinds hm).1 h
  | y :: z :: c :: r =>
    show (mkT t y z).bind _ = none
    cases hm : mkT t y z with
    | none => rfl
    | some m => exact absurd (mkT_kinds hm).1 h
/-- The value of a run that has fuel to spare. -/
noncomputable def big (q : PS) (has : Bool) (ts : List Tk) (l : List SMt) : Option (List SMt) := runT true (8 * ts.length + q.rank + 1) q has ts l
theorem big_eq {q : PS} {has : Bool} {ts : List Tk} {l : List SMt} {f : Nat} (h : 8 * ts.length + q.rank < f) : runT true f q has ts l = big q has ts l := by
  obtain ⟨g, rfl⟩ : ∃ g, f = 8 * ts.length + q.rank + 1 + g := ⟨f - (8 * ts.length + q.rank + 1), by omega⟩
  exact runT_enough g (by omega)
theorem big_next {q q2 : PS} {has has2 : Bool} {ts ts2 : List Tk} {l l2 : List SMt} (h : stT q has l ts true = .next q2 has2 ts2 l2) (hr : 8 * ts2.length + q2.rank < 8 * ts.length + q.rank) : big q has ts l = big q2 has2 ts2 l2 := by
  unfold big
  rw [runT_next h]
  exact big_eq (by omega)
theorem big_fail {q : PS} {has : Bool} {ts : List Tk} {l : List SMt} (h : stT q has l ts true = .fail) : big q has ts l = none := runT_fail h
theorem eof_nil (has : Bool) (l : List SMt) : big .eof has [] l = some l := rfl
theorem eof_cons (has : Bool) (t : Tk) (r : List Tk) (l : List SMt) : big .eof has (t :: r) l = none := big_fail rfl
theorem cls_nil_f (l : List SMt) : big .cls false [] l = some l := rfl
theorem cls_nil_t (l : List SMt) : big .cls true [] l = none := rfl
theorem cls_two_f {t : Tk} (r : List Tk) (l : List SMt) (h : t.1 = 2) : big .cls false (t :: r) l = none := big_fail (if_pos h)
theorem cls_two_t {t : Tk} (r : List Tk) (l : List SMt) (h : t.1 = 2) : big .cls true (t :: r) l = big .eof true r l := big_next (show stT .cls true l (t :: r) true = .next .eof true r l from if_pos h) (by simp [PS.rank] <;> omega)
theorem mat_step {x y z : Tk} {m : SMt} (has : Bool) (r : List Tk) (l : List SMt) (h : mkT x y z = some m) : big .mat has (x :: y :: z :: r) l = big .emt has r (l ++ [m]) := by
  have e : stT .mat has l (x :: y :: z :: r) true = .next .emt has r (l ++ [m]) := by
    show (match mkT x y z with | none => TT.fail | some m => .next .emt has r (l ++ [m])) = _
    rw [h]
  exact big_next e (by simp [PS.rank] <;> omega)
theorem mat_none {x y z : Tk} (has : Bool) (r : List Tk) (l : List SMt) (h : mkT x y z = none) : big .mat has (x :: y :: z :: r) l = none := by
  refine big_fail ?_
  show (match mkT x y z with | none => TT.fail | some m => .next .emt has r (l ++ [m])) = _
  rw [h]
theorem emt_nil (has : Bool) (l : List SMt) : big .emt has [] l = big .cls has [] l := big_next rfl (by simp [PS.rank])
theorem emt_three {c : Tk} (has : Bool) (r : List Tk) (l : List SMt) (h : c.1 = 3) : big .emt has (c :: r) l = big .com has (c :: r) l := big_next (show stT .emt has l (c :: r) true = .next .com has (c :: r) l from if_pos h) (by simp [PS.rank] <;> omega)
theorem emt_two {c : Tk} (has : Bool) (r : List Tk) (l : List SMt) (h : c.1 = 2) : big .emt has (c :: r) l = big .cls has (c :: r) l :=
  big_next (show stT .emt has l (c :: r) true = .next .cls has (c :: r) l from (if_neg (by omega)).trans (if_pos h)) (by simp [PS.rank] <;> omega)
theorem emt_other {c : Tk} (has : Bool) (r : List Tk) (l : List SMt) (h3 : c.1 ≠ 3) (h2 : c.1 ≠ 2) : big .emt has (c :: r) l = none :=
  big_fail (show stT .emt has l (c :: r) true = .fail from (if_neg h3).trans (if_neg h2))
theorem com_nil {c : Tk} (has : Bool) (l : List SMt) (h : c.1 = 3) : big .com has [c] l = big .cls has [] l := big_next (show stT .com has l [c] true = .next .cls has [] l from if_pos h) (by simp [PS.rank])
theorem com_two {c v : Tk} (has : Bool) (r : List Tk) (l : List SMt) (h : c.1 = 3) (hv : v.1 = 2) : big .com has (c :: v :: r) l = big .cls has (v :: r) l :=
  big_next (show stT .com has l (c :: v :: r) true = .next .cls has (v :: r) l from (if_pos h).trans (if_pos hv)) (by simp [PS.rank] <;> omega)
theorem com_mat {c v : Tk} (has : Bool) (r : List Tk) (l : List SMt) (h : c.1 = 3) (hv : v.1 = 9 ∨ v.1 = 8) : big .com has (c :: v :: r) l = big .mat has (v :: r) l :=
  big_next (show stT .com has l (c :: v :: r) true = .next .mat has (v :: r) l from (if_pos h).trans ((if_neg (by omega)).trans (if_pos hv))) (by simp [PS.rank] <;> omega)
theorem com_other {c v : Tk} (has : Bool) (r : List Tk) (l : List SMt) (h : c.1 = 3) (h2 : v.1 ≠ 2) (hv : ¬ (v.1 = 9 ∨ v.1 = 8)) : big .com has (c :: v :: r) l = none :=
  big_fail (show stT .com has l (c :: v :: r) true = .fail from (if_pos h).trans ((if_neg h2).trans (if_neg hv)))
/-- Outside of braces. -/
theorem mat_out : ∀ (n : Nat) (ts : List Tk) (l : List SMt), ts.length ≤ n → ts ≠ [] → big .mat false ts l = (plist ts).map (l ++ ·) := by
  intro n
  induction n with
  | zero => intro ts l h h0; exact absurd (List.eq_nil_of_length_eq_zero (by omega)) h0
  | succ n ih =>
    intro ts l h h0
    match ts, h with
    | [], _ => exact absurd rfl h0
    | [_], _ => exact big_fail rfl
    | [_, _], _ => exact big_fail rfl
    | [x, y, z], _ =>
      show _ = ((mkT x y z).map fun m => [m]).map (l ++ ·)
      cases hm : mkT x y z with
      | none => rw [mat_none _ _ _ hm]; rfl
      | some m => rw [mat_step _ _ _ hm, emt_nil, cls_nil_f]; rfl
    | x :: y :: z :: c :: r, h =>
      show _ = ((mkT x y z).bind fun m => if c.1 = 3 then (plist r).map (m :: ·) else none).map (l ++ ·)
      cases hm : mkT x y z with
      | none => rw [mat_none _ _ _ hm]; rfl
      | some m =>
        rw [mat_step _ _ _ hm, Option.bind_some]
        by_cases h3 : c.1 = 3
        · rw [if_pos h3, emt_three _ _ _ h3]
          match r, h with
          | [], _ => rw [com_nil _ _ h3, cls_nil_f]; rfl
          | v :: r, h =>
            by_cases hv : v.1 = 9 ∨ v.1 = 8
            · rw [com_mat _ _ _ h3 hv, ih (v :: r) _ (by simp only [List.length_cons] at h ⊢; omega) (by simp)]
              cases plist (v :: r) with
              | none => rfl
              | some q => simp
            · rw [plist_bad (by omega)]
              by_cases h2 : v.1 = 2
              · rw [com_two _ _ _ h3 h2, cls_two_f _ _ h2]; rfl
              · rw [com_other _ _ _ h3 h2 hv]; rfl
        · rw [if_neg h3]
          by_cases h2 : c.1 = 2
          · rw [emt_two _ _ _ h2, cls_two_f _ _ h2]; rfl
          · rw [emt_other _ _ _ h3 h2]; rfl
/-- What stands in braces that are closed at the end. -/
noncomputable def closed (ts : List Tk) : Option (List SMt) := match ts.getLast? with
  | none => none
  | some t => if t.1 = 2 then plist ts.dropLast else none
theorem closed_cons2 (x y : Tk) (r : List Tk) : closed (x :: y :: r) = match (y :: r).getLast? with
  | none => none
  | some t => if t.1 = 2 then plist (x :: (y :: r).dropLast) else none := by
  unfold closed
  rw [List.getLast?_cons_cons]
  rfl
theorem closed_one (t : Tk) : closed [t] = if t.1 = 2 then some [] else none := rfl
/-- Inside of braces. -/
theorem mat_in : ∀ (n : Nat) (ts : List Tk) (l : List SMt), ts.length ≤ n → (∀ t ∈ ts.head?, t.1 ≠ 2) → big .mat true ts l = (closed ts).map (l ++ ·) := by
  intro n
  induction n with
  | zero =>
    intro ts l h h0
    obtain rfl := List.eq_nil_of_length_eq_zero (show ts.length = 0 by omega)
    exact big_fail rfl
  | succ n ih =>
    intro ts l h h0
    match ts, h, h0 with
    | [], _, _ => exact big_fail rfl
    | [x], _, h0 =>
      rw [closed_one, if_neg (h0 x rfl)]
      exact big_fail rfl
    | [x, y], _, h0 =>
      rw [show big .mat true [x, y] l = none from big_fail rfl]
      show none = (if y.1 = 2 then plist [x] else none).map _
      split <;> rfl
    | [x, y, z], _, h0 =>
      have e : closed [x, y, z] = none := by
        show (if z.1 = 2 then plist [x, y] else none) = none
        split <;> rfl
      rw [e]
      cases hm : mkT x y z with
      | none => rw [mat_none _ _ _ hm]; rfl
      | some m => rw [mat_step _ _ _ hm, emt_nil, cls_nil_t]; rfl
    | [x, y, z, c], _, h0 =>
      have e : closed [x, y, z, c] = if c.1 = 2 then (mkT x y z).map (fun m => [m]) else none := rfl
      rw [e]
      cases hm : mkT x y z with
      | none => rw [mat_none _ _ _ hm]; split <;> rfl
      | some m =>
        rw [mat_step _ _ _ hm]
        by_cases h2 : c.1 = 2
        · rw [emt_two _ _ _ h2, cls_two_t _ _ h2, eof_nil, if_pos h2]; rfl
        · rw [if_neg h2]
          by_cases h3 : c.1 = 3
          · rw [emt_three _ _ _ h3, com_nil _ _ h3, cls_nil_t]; rfl
          · rw [emt_other _ _ _ h3 h2]; rfl
    | x :: y :: z :: c :: v :: r, h, h0 =>
      have e : closed (x :: y :: z :: c :: v :: r) = (match (v :: r).getLast? with
        | none => none
        | some t => if t.1 = 2 then (mkT x y z).bind (fun m => if c.1 = 3 then (plist (v :: r).dropLast).map (m :: ·) else none) else none) := by
        unfold closed
        rw [List.getLast?_cons_cons, List.getLast?_cons_cons, List.getLast?_cons_cons, List.getLast?_cons_cons]
        rfl
      rw [e]
      cases hm : mkT x y z with
      | none =>
        rw [mat_none _ _ _ hm]
        cases (v :: r).getLast? with
        | none => rfl
        | some t => dsimp only [Option.bind]; split <;> rfl
      | some m =>
        rw [mat_step _ _ _ hm]
        have e2 : (match (v :: r).getLast? with
          | none => none
          | some t => if t.1 = 2 then (some m).bind (fun m => if c.1 = 3 then (plist (v :: r).dropLast).map (m :: ·) else none) else none) = if c.1 = 3 then (closed (v :: r)).map (m :: ·) else none := by
          unfold closed
          cases (v :: r).getLast? with
          | none => dsimp only; split <;> rfl
          | some t =>
            dsimp only [Option.bind]
            by_cases k2 : t.1 = 2
            · rw [if_pos k2, if_pos k2]
            · rw [if_neg k2, if_neg k2]; split <;> rfl
        rw [e2]
        by_cases h3 : c.1 = 3
        · rw [if_pos h3, emt_three _ _ _ h3]
          by_cases hv2 : v.1 = 2
          · rw [com_two _ _ _ h3 hv2, cls_two_t _ _ hv2]
            cases r with
            | nil => rw [eof_nil, closed_one, if_pos hv2]; rfl
            | cons w r =>
              rw [eof_cons, closed_cons2]
              cases (w :: r).getLast? with
              | none => rfl
              | some t =>
                dsimp only
                rw [plist_bad (show ¬ (v.1 = 8 ∨ v.1 = 9) by omega)]
                split <;> rfl
          · by_cases hv : v.1 = 9 ∨ v.1 = 8
            · rw [com_mat _ _ _ h3 hv, ih (v :: r) _ (by simp only [List.length_cons] at h ⊢; omega) (fun t ht => by obtain rfl := Option.some.inj ht; exact hv2)]
              cases closed (v :: r) with
              | none => rfl
              | some q => simp
            · rw [com_other _ _ _ h3 hv2 hv]
              cases r with
              | nil => rw [closed_one, if_neg hv2]; rfl
              | cons w r =>
                rw [closed_cons2]
                cases (w :: r).getLast? with
                | none => rfl
                | some t =>
                  dsimp only
                  rw [plist_bad (show ¬ (v.1 = 8 ∨ v.1 = 9) by omega)]
                  split <;> rfl
        · rw [if_neg h3]
          by_cases h2 : c.1 = 2
          · rw [emt_two _ _ _ h2, cls_two_t _ _ h2, eof_cons]; rfl
          · rw [emt_other _ _ _ h3 h2]; rfl
/-- The parser, told by lists. -/
theorem parseT_list (ts : List Tk) : parseT (ts, true) = match ts with
    | [] => some []
    | t :: r => if t.1 = 1 then closed r else plist (t :: r) := by
  have hb : parseT (ts, true) = big .opn false ts [] := by
    show runT true (8 * ts.length + 7) .opn false ts [] = _
    exact big_eq (by simp [PS.rank])
  rw [hb]
  cases ts with
  | nil => rfl
  | cons t r =>
    dsimp only
    by_cases h1 : t.1 = 1
    · rw [if_pos h1]
      have e : stT .opn false [] (t :: r) true = opnT2 true [] r true := if_pos h1
      cases r with
      | nil =>
        rw [big_next (show stT .opn false [] [t] true = .next .cls true [] [] by rw [e]; rfl) (by simp [PS.rank])]
        rfl
      | cons u r =>
        by_cases h2 : u.1 = 2
        · rw [big_next (show stT .opn false [] (t :: u :: r) true = .next .cls true (u :: r) [] by rw [e]; exact if_pos h2) (by simp [PS.rank] <;> omega), cls_two_t _ _ h2]
          cases r with
          | nil => rw [eof_nil, closed_one, if_pos h2]
          | cons w r =>
            rw [eof_cons, closed_cons2]
            cases (w :: r).getLast? with
            | none => rfl
            | some t =>
              dsimp only
              rw [plist_bad (show ¬ (u.1 = 8 ∨ u.1 = 9) by omega)]
              split <;> rfl
        · rw [big_next (show stT .opn false [] (t :: u :: r) true = .next .mat true (u :: r) [] by rw [e]; exact if_neg h2) (by simp [PS.rank] <;> omega), mat_in _ _ _ (Nat.le_refl _) (fun x hx => by obtain rfl := Option.some.inj hx; exact h2)]
          cases closed (u :: r) <;> rfl
    · rw [if_neg h1]
      have e : stT .opn false [] (t :: r) true = opnT2 false [] (t :: r) true := if_neg h1
      by_cases h2 : t.1 = 2
      · rw [big_next (show stT .opn false [] (t :: r) true = .next .cls false (t :: r) [] by rw [e]; exact if_pos h2) (by simp [PS.rank] <;> omega), cls_two_f _ _ h2, plist_bad (by omega)]
      · rw [big_next (show stT .opn false [] (t :: r) true = .next .mat false (t :: r) [] by rw [e]; exact if_neg h2) (by simp [PS.rank] <;> omega), mat_out _ _ _ (Nat.le_refl _) (by simp)]
        cases plist (t :: r) <;> rfl
end Go.Proofs.YtmjoebnphacadaaGreatDoor.Lex
/- spec.three: what it answers. -/
namespace Go.Proofs.YtmjoebnphacadaaGreatDoor.Lex
open Go.RowKit Go.Lib Go.Proofs.YtmjoebnphacadaaGreatDoor.Pure Go.Proofs.YtmjoebnphacadaaGreatDoor.Q Go.Proofs.YtmjoebnphacadaaGreatDoorW.PrintWords Go.Proofs.YtmjoebnphacadaaGreatDoorW.PrintLast
set_option linter.unusedVariables false
set_option linter.unusedSimpArgs false
abbrev TR3 := Int × ByteArray × ByteArray × Int
theorem three_short {l : List S49} (h : l.length < 3) : Ev (fun k => spec_three.f k l) ((0, (⟨#[]⟩ : ByteArray), (⟨#[]⟩ : ByteArray), 0) : TR3) := by
  unfold spec_three.f
  exact ev_ite_pos (by omega) (ev_succ (fun k => rfl))
theorem mkT_bad {x y z : Tk} (h : ¬ ((x.1 = 8 ∨ x.1 = 9) ∧ (y.1 = 4 ∨ y.1 = 5 ∨ y.1 = 6 ∨ y.1 = 7) ∧ (z.1 = 9 ∨ z.1 = 8))) : mkT x y z = none := by
  cases hm : mkT x y z with
  | none => rfl
  | some m => exact absurd (mkT_kinds hm) h
theorem three_says {x y z : S49} (r : List S49) (hx : TokOK x) (hy : TokOK y) (hz : TokOK z) :
    ∃ R : TR3, Ev (fun k => spec_three.f k (x :: y :: z :: r)) R ∧ ((R.2.2.2 = 0 ∧ mkT (kt2 x) (kt2 y) (kt2 z) = none) ∨ (R.2.2.2 = 1 ∧ mkT (kt2 x) (kt2 y) (kt2 z) = some ⟨R.1, R.2.1, R.2.2.1⟩) ∨ R.2.2.2 = 2) := by
  have hlen : ((x :: y :: z :: r).length : Int) = (r.length : Int) + 3 := by simp only [List.length_cons]; omega
  have no : ∀ (R : Int), Ev (fun k => spec_three.j0 k (x :: y :: z :: r) true) ((0, (⟨#[]⟩ : ByteArray), (⟨#[]⟩ : ByteArray), 0) : TR3) := fun _ => ev_succ (fun k => rfl)
  have n1 : 0 ≤ y.f0 := hy.n
  unfold spec_three.f
  show ∃ R : TR3, Ev (fun k => if ((x :: y :: z :: r).length : Int) < 3 then spec_three.j0 k (x :: y :: z :: r) true else if 1 < ((x :: y :: z :: r).length : Int) then (if y.f0 < 4 then spec_three.j0 k (x :: y :: z :: r) true else spec_three.j0 k (x :: y :: z :: r) (decide (y.f0 > 7))) else none) R ∧ _
  by_cases h4 : y.f0 < 4
  · refine ⟨_, ev_ite_neg (by omega) (ev_ite_pos (by omega) (ev_ite_pos h4 (no 0))), .inl ⟨rfl, mkT_bad ?_⟩⟩
    rintro ⟨_, h, _⟩
    have : (kt2 y).1 = y.f0.toNat := rfl
    omega
  by_cases h7 : y.f0 > 7
  · refine ⟨_, ev_ite_neg (by omega) (ev_ite_pos (by omega) (ev_ite_neg h4 (by rw [decide_eq_true h7]; exact no 0))), .inl ⟨rfl, mkT_bad ?_⟩⟩
    rintro ⟨_, h, _⟩
    have : (kt2 y).1 = y.f0.toNat := rfl
    omega
  obtain ⟨v1, s1, w1, k1⟩ := word_says hx
  obtain ⟨v2, s2, w2, k2⟩ := word_says hz
  have ky : (kt2 y).1 = 4 ∨ (kt2 y).1 = 5 ∨ (kt2 y).1 = 6 ∨ (kt2 y).1 = 7 := by
    have : (kt2 y).1 = y.f0.toNat := rfl
    omega
  have go : ∀ (R : TR3) (b : Bool), (∀ k, (if s1 = 0 then spec_three.j1 k (x :: y :: z :: r) v1 s1 v2 s2 true else spec_three.j1 k (x :: y :: z :: r) v1 s1 v2 s2 (s2 == 0)) = spec_three.j1 k (x :: y :: z :: r) v1 s1 v2 s2 b) → Ev (fun k => spec_three.j1 k (x :: y :: z :: r) v1 s1 v2 s2 b) R →
      Ev (fun k => if ((x :: y :: z :: r).length : Int) < 3 then spec_three.j0 k (x :: y :: z :: r) true else if 1 < ((x :: y :: z :: r).length : Int) then (if y.f0 < 4 then spec_three.j0 k (x :: y :: z :: r) true else spec_three.j0 k (x :: y :: z :: r) (decide (y.f0 > 7))) else none) R := by
    intro R b hb hR
    refine ev_ite_neg (by omega) (ev_ite_pos (by omega) (ev_ite_neg h4 ?_))
    rw [decide_eq_false h7]
    refine Ev.step (f := fun k => (spec_word.f k x.f0 x.f1 x.f2 x.f3 x.f4 x.f5).bind fun bt153 => (if 2 < ((x :: y :: z :: r).length : Int) then ((spec_word.f k z.f0 z.f1 z.f2 z.f3 z.f4 z.f5).bind fun bt156 => (if bt153.2 = 0 then (spec_three.j1 k (x :: y :: z :: r) bt153.1 bt153.2 bt156.1 bt156.2 true) else (spec_three.j1 k (x :: y :: z :: r) bt153.1 bt153.2 bt156.1 bt156.2 (bt156.2 == 0)))) else none)) (fun k => ?_) (Ev.bind w1 (ev_ite_pos (by omega) (Ev.bind w2 (Ev.congr hb hR))))
    simp only [spec_three.j0]
    rw [if_neg (by simp), if_pos (by omega)]
    rfl
  have j1t : Ev (fun k => spec_three.j1 k (x :: y :: z :: r) v1 s1 v2 s2 true) ((0, (⟨#[]⟩ : ByteArray), (⟨#[]⟩ : ByteArray), 0) : TR3) := ev_succ (fun k => rfl)
  have ex : (kt2 x).1 = x.f0.toNat := rfl
  have ez : (kt2 z).1 = z.f0.toNat := rfl
  have nx := hx.n
  have nz := hz.n
  by_cases a0 : s1 = 0
  · refine ⟨_, go _ true (fun k => if_pos a0) j1t, .inl ⟨rfl, mkT_bad ?_⟩⟩
    rintro ⟨h, _, _⟩
    omega
  by_cases b0 : s2 = 0
  · refine ⟨_, go _ true (fun k => by rw [if_neg a0, show (s2 == 0) = true by rw [beq_iff_eq]; exact b0]) j1t, .inl ⟨rfl, mkT_bad ?_⟩⟩
    rintro ⟨_, _, h⟩
    omega
  have hb : ∀ k, (if s1 = 0 then spec_three.j1 k (x :: y :: z :: r) v1 s1 v2 s2 true else spec_three.j1 k (x :: y :: z :: r) v1 s1 v2 s2 (s2 == 0)) = spec_three.j1 k (x :: y :: z :: r) v1 s1 v2 s2 false := fun k => by rw [if_neg a0, show (s2 == 0) = false by rw [beq_eq_false_iff_ne]; exact b0]
  have step : ∀ k, spec_three.j1 (k + 1) (x :: y :: z :: r) v1 s1 v2 s2 false = (if s1 = 2 then some (0, (⟨#[]⟩ : ByteArray), (⟨#[]⟩ : ByteArray), 2) else if s2 = 2 then some (0, (⟨#[]⟩ : ByteArray), (⟨#[]⟩ : ByteArray), 2) else if v1.toList = ([] : List UInt8) then some (0, (⟨#[]⟩ : ByteArray), (⟨#[]⟩ : ByteArray), 2) else some (wrap64 (y.f0 - 4), v1, v2, 1)) := by
    intro k
    simp only [spec_three.j1]
    rw [if_neg (by simp)]
    have hp : (1 < ((x :: y :: z :: r).length : Int)) = True := eq_true (by omega)
    simp only [hp, if_true]
    rfl
  by_cases a2 : s1 = 2
  · exact ⟨((0, (⟨#[]⟩ : ByteArray), (⟨#[]⟩ : ByteArray), 2) : TR3), go _ false hb (Ev.step step (ev_ite_pos a2 (Ev.now _))), .inr (.inr rfl)⟩
  by_cases b2 : s2 = 2
  · exact ⟨((0, (⟨#[]⟩ : ByteArray), (⟨#[]⟩ : ByteArray), 2) : TR3), go _ false hb (Ev.step step (ev_ite_neg a2 (ev_ite_pos b2 (Ev.now _)))), .inr (.inr rfl)⟩
  by_cases c0 : v1.toList = ([] : List UInt8)
  · exact ⟨((0, (⟨#[]⟩ : ByteArray), (⟨#[]⟩ : ByteArray), 2) : TR3), go _ false hb (Ev.step step (ev_ite_neg a2 (ev_ite_neg b2 (ev_ite_pos c0 (Ev.now _))))), .inr (.inr rfl)⟩
  refine ⟨((wrap64 (y.f0 - 4), v1, v2, 1) : TR3), go _ false hb (Ev.step step (ev_ite_neg a2 (ev_ite_neg b2 (ev_ite_neg c0 (Ev.now _))))), .inr (.inl ⟨rfl, ?_⟩)⟩
  have u1 : (x.f0 = 8 ∨ x.f0 = 9) ∧ unqT x.f0.toNat x.f1 = some v1 := by
    rcases k1 with ⟨h, _⟩ | ⟨_, h⟩ | ⟨h, _⟩
    · exact absurd h a0
    · exact h
    · exact absurd h a2
  have u2 : (z.f0 = 8 ∨ z.f0 = 9) ∧ unqT z.f0.toNat z.f1 = some v2 := by
    rcases k2 with ⟨h, _⟩ | ⟨_, h⟩ | ⟨h, _⟩
    · exact absurd h b0
    · exact h
    · exact absurd h b2
  have ew : wrap64 (y.f0 - 4) = (((kt2 y).1 : Nat) : Int) - 4 := by
    have : (kt2 y).1 = y.f0.toNat := rfl
    rw [this]
    unfold wrap64
    omega
  have q1 : unqT (kt2 x).1 (kt2 x).2 = some v1 := u1.2
  have q2 : unqT (kt2 z).1 (kt2 z).2 = some v2 := u2.2
  unfold mkT
  rw [if_pos (by omega), q1]
  dsimp only
  rw [if_pos ky, if_pos (by omega), q2, ew]
end Go.Proofs.YtmjoebnphacadaaGreatDoor.Lex
/- spec.ParseMatchers' loop against the parser's list. -/
namespace Go.Proofs.YtmjoebnphacadaaGreatDoor.Lex
open Go.RowKit Go.Lib Go.Proofs.YtmjoebnphacadaaGreatDoor.Pure Go.Proofs.YtmjoebnphacadaaGreatDoor.Q Go.Proofs.YtmjoebnphacadaaGreatDoor.Spm Go.Proofs.YtmjoebnphacadaaGreatDoorW.PrintWords Go.Proofs.YtmjoebnphacadaaGreatDoorW.PrintLast
set_option linter.unusedVariables false
set_option linter.unusedSimpArgs false
def toSM (m : SMt) : S45 := ⟨m.f0, m.f1, m.f2⟩
theorem pmL_def (k n : Nat) (l : List S49) (out : List S45) (st : Int) : pmL k (n + 1) l out st = if l.length = 0 then some (if st = 2 then ([], 2) else (out, 1)) else
    (spec_three.f k l).bind fun t => if t.2.2.2 = 0 then some ([], 0) else
      if 3 ≤ l.length then
        (if l.length = 3 then some (if (if t.2.2.2 = 2 then 2 else st) = 2 then ([], 2) else (out ++ [(⟨t.1, t.2.1, t.2.2.1⟩ : S45)], 1))
         else if (rd_T49 l 3).f0 = 3 then pmL k n (l.drop 4) (out ++ [(⟨t.1, t.2.1, t.2.2.1⟩ : S45)]) (if t.2.2.2 = 2 then 2 else st) else some ([], 0)) else none := rfl
/-- What the loop's answer says of the list. -/
def Says (l : List Tk) (out : List S45) (st : Int) (R : List S45 × Int) : Prop :=
  (R.2 = 0 ∧ plist l = none) ∨ (R.2 = 1 ∧ st ≠ 2 ∧ ∃ ms, plist l = some ms ∧ R.1 = out ++ ms.map toSM) ∨ R.2 = 2
theorem pm_start {n : Nat} {l : List S49} {out : List S45} {st : Int} {R : List S45 × Int} (h : Ev (fun k => if l.length = 0 then some (if st = 2 then ([], 2) else (out, 1)) else
    (spec_three.f k l).bind fun t => if t.2.2.2 = 0 then some ([], 0) else
      if 3 ≤ l.length then
        (if l.length = 3 then some (if (if t.2.2.2 = 2 then 2 else st) = 2 then ([], 2) else (out ++ [(⟨t.1, t.2.1, t.2.2.1⟩ : S45)], 1))
         else if (rd_T49 l 3).f0 = 3 then pmL k n (l.drop 4) (out ++ [(⟨t.1, t.2.1, t.2.2.1⟩ : S45)]) (if t.2.2.2 = 2 then 2 else st) else some ([], 0)) else none) R) : Ev (fun k => pmL k (n + 1) l out st) R := Ev.congr (fun k => pmL_def k n l out st) h
theorem pm_says : ∀ (n : Nat) (l : List S49) (out : List S45) (st : Int), l.length < n → (∀ t ∈ l, TokOK t) → ∃ R, Ev (fun k => pmL k n l out st) R ∧ Says (l.map kt2) out st R := by
  intro n
  induction n with
  | zero => intro l out st h; omega
  | succ n ih =>
    intro l out st hn hl
    match l, hn, hl with
    | [], hn, hl =>
      by_cases hst : st = 2
      · exact ⟨([], 2), pm_start (ev_ite_pos rfl (by rw [if_pos hst]; exact Ev.now _)), .inr (.inr rfl)⟩
      · exact ⟨(out, 1), pm_start (ev_ite_pos rfl (by rw [if_neg hst]; exact Ev.now _)), .inr (.inl ⟨rfl, hst, [], rfl, by simp⟩)⟩
    | [x], hn, hl => exact ⟨([], 0), pm_start (ev_ite_neg (by simp) (Ev.bind (three_short (by simp)) (ev_ite_pos rfl (Ev.now _)))), .inl ⟨rfl, rfl⟩⟩
    | [x, y], hn, hl => exact ⟨([], 0), pm_start (ev_ite_neg (by simp) (Ev.bind (three_short (by simp)) (ev_ite_pos rfl (Ev.now _)))), .inl ⟨rfl, rfl⟩⟩
    | x :: y :: z :: r, hn, hl =>
      obtain ⟨R, hR, hc⟩ := three_says r (hl x (by simp)) (hl y (by simp)) (hl z (by simp))
      have l3 : (3 ≤ (x :: y :: z :: r).length) := by simp only [List.length_cons]; omega
      have l0 : ¬ (x :: y :: z :: r).length = 0 := by simp
      by_cases h0 : R.2.2.2 = 0
      · have hm : mkT (kt2 x) (kt2 y) (kt2 z) = none := by
          rcases hc with ⟨_, h⟩ | ⟨h, _⟩ | h
          · exact h
          · omega
          · omega
        refine ⟨([], 0), pm_start (ev_ite_neg l0 (Ev.bind hR (ev_ite_pos h0 (Ev.now _)))), .inl ⟨rfl, ?_⟩⟩
        cases r with
        | nil => show (mkT (kt2 x) (kt2 y) (kt2 z)).map _ = none; rw [hm]; rfl
        | cons c r => show (mkT (kt2 x) (kt2 y) (kt2 z)).bind _ = none; rw [hm]; rfl
      obtain ⟨st2, hst2⟩ : ∃ s, (if R.2.2.2 = 2 then 2 else st) = s := ⟨_, rfl⟩
      have hy : st2 ≠ 2 → st ≠ 2 ∧ ∃ m, mkT (kt2 x) (kt2 y) (kt2 z) = some m ∧ toSM m = ⟨R.1, R.2.1, R.2.2.1⟩ := by
        intro h2
        by_cases hr2 : R.2.2.2 = 2
        · rw [if_pos hr2] at hst2; exact absurd hst2.symm h2
        · rw [if_neg hr2] at hst2
          rcases hc with ⟨h, _⟩ | ⟨_, h⟩ | h
          · exact absurd h h0
          · exact ⟨by rw [hst2]; exact h2, _, h, rfl⟩
          · exact absurd h hr2
      cases r with
      | nil =>
        by_cases hs : st2 = 2
        · exact ⟨([], 2), pm_start (ev_ite_neg l0 (Ev.bind hR (ev_ite_neg h0 (ev_ite_pos l3 (ev_ite_pos rfl (by rw [hst2, if_pos hs]; exact Ev.now _)))))), .inr (.inr rfl)⟩
        · obtain ⟨k1, m, k2, k3⟩ := hy hs
          refine ⟨(out ++ [(⟨R.1, R.2.1, R.2.2.1⟩ : S45)], 1), pm_start (ev_ite_neg l0 (Ev.bind hR (ev_ite_neg h0 (ev_ite_pos l3 (ev_ite_pos rfl (by rw [hst2, if_neg hs]; exact Ev.now _)))))), .inr (.inl ⟨rfl, k1, [m], ?_, ?_⟩)⟩
          · show (mkT (kt2 x) (kt2 y) (kt2 z)).map _ = _
            rw [k2]
            rfl
          · show _ = out ++ [toSM m]
            rw [k3]
      | cons c r =>
        have l4 : ¬ (x :: y :: z :: c :: r).length = 3 := by simp
        have hcn := (hl c (by simp)).n
        have pe : plist ((x :: y :: z :: c :: r).map kt2) = (mkT (kt2 x) (kt2 y) (kt2 z)).bind fun m => if (kt2 c).1 = 3 then (plist (r.map kt2)).map (m :: ·) else none := rfl
        by_cases hc3 : c.f0 = 3
        · obtain ⟨R2, g1, g2⟩ := ih r (out ++ [(⟨R.1, R.2.1, R.2.2.1⟩ : S45)]) st2 (by simp only [List.length_cons] at hn; omega) (fun t ht => hl t (by simp [ht]))
          refine ⟨R2, pm_start (ev_ite_neg l0 (Ev.bind hR (ev_ite_neg h0 (ev_ite_pos l3 (ev_ite_neg l4 (ev_ite_pos hc3 (by rw [hst2]; exact g1))))))), ?_⟩
          have k3 : (kt2 c).1 = 3 := by show c.f0.toNat = 3; omega
          unfold Says
          rw [pe]
          rcases g2 with ⟨a1, a2⟩ | ⟨a1, a2, ms, a3, a4⟩ | a1
          · left
            refine ⟨a1, ?_⟩
            cases mkT (kt2 x) (kt2 y) (kt2 z) with
            | none => rfl
            | some m => rw [Option.bind_some, if_pos k3, a2]; rfl
          · right; left
            obtain ⟨k1, m, k2, k4⟩ := hy a2
            refine ⟨a1, k1, m :: ms, ?_, ?_⟩
            · rw [k2, Option.bind_some, if_pos k3, a3]; rfl
            · rw [a4, List.append_assoc, List.map_cons, k4]; rfl
          · exact .inr (.inr a1)
        · refine ⟨([], 0), pm_start (ev_ite_neg l0 (Ev.bind hR (ev_ite_neg h0 (ev_ite_pos l3 (ev_ite_neg l4 (ev_ite_neg hc3 (Ev.now _))))))), .inl ⟨rfl, ?_⟩⟩
          have k3 : ¬ (kt2 c).1 = 3 := by show ¬ c.f0.toNat = 3; omega
          rw [pe]
          cases mkT (kt2 x) (kt2 y) (kt2 z) with
          | none => rfl
          | some m => rw [Option.bind_some, if_neg k3]
end Go.Proofs.YtmjoebnphacadaaGreatDoor.Lex
/- The tokens of a settled text: their kinds and their quotes. -/
namespace Go.Proofs.YtmjoebnphacadaaGreatDoor.Lex
open Go.RowKit Go.Lib Go.Proofs.YtmjoebnphacadaaGreatDoor.Pure Go.Proofs.YtmjoebnphacadaaGreatDoor.Q Go.Proofs.YtmjoebnphacadaaGreatDoorW.PrintWords Go.Proofs.YtmjoebnphacadaaGreatDoorW.PrintLast
set_option linter.unusedVariables false
set_option linter.unusedSimpArgs false
def KQ (k : Nat) (w : List UInt8) : Prop := 1 ≤ k ∧ (k = 8 → ∃ body, w = 34 :: (body ++ [34]) ∧ nq body = true)
theorem opB_kq {c : UInt8} {r w rest : List UInt8} {k : Nat} (h : opB c r = .tok k w rest) : KQ k w := by
  unfold opB at h
  repeat' split at h
  all_goals first | (simp at h; done) | (injection h with e1 e2 e3; subst e1 e2 e3; exact ⟨by omega, fun h => by omega⟩)
theorem scanB_kq {l w rest : List UInt8} {k : Nat} (h : scanB l = .tok k w rest) : KQ k w := by
  induction l with
  | nil => exact nomatch h
  | cons c r ih =>
    rw [scanB] at h
    split at h
    · exact ih h
    · split at h
      · injection h with e1 e2 e3; subst e1 e2 e3; exact ⟨by omega, fun h => by omega⟩
      · split at h
        · injection h with e1 e2 e3; subst e1 e2 e3; exact ⟨by omega, fun h => by omega⟩
        · split at h
          · injection h with e1 e2 e3; subst e1 e2 e3; exact ⟨by omega, fun h => by omega⟩
          · split at h
            · exact opB_kq h
            · split at h
              · rename_i h34
                cases hq : closeB false r with
                | none => rw [hq] at h; exact nomatch h
                | some q =>
                  rw [hq] at h
                  injection h with e1 e2 e3
                  subst e1 e2 e3
                  obtain ⟨body, hb, hn⟩ := close_nq hq
                  have hc : c = 34 := by rw [← UInt8.ofNat_toNat (x := c), h34]; rfl
                  exact ⟨by omega, fun _ => ⟨body, by rw [hb, hc], hn⟩⟩
              · split at h
                · injection h with e1 e2 e3
                  subst e1 e2 e3
                  exact ⟨by omega, fun h => by omega⟩
                · exact nomatch h
theorem strmB_kq : ∀ (f : Nat) (l : List UInt8), ∀ t ∈ (strmB f l).1, ∃ w, t.2 = bl w ∧ KQ t.1 w := by
  intro f
  induction f with
  | zero => intro l t ht; exact absurd ht (by simp [strmB])
  | succ f ih =>
    intro l t ht
    rw [strmB_def] at ht
    cases hs : scanB l with
    | eof => rw [hs] at ht; exact absurd ht (by simp)
    | bad => rw [hs] at ht; exact absurd ht (by simp)
    | tok k w rest =>
      rw [hs] at ht
      rcases List.mem_cons.1 ht with rfl | ht
      · exact ⟨w, rfl, scanB_kq hs⟩
      · exact ih rest t ht
theorem vd_left {x y : ByteArray} (hy : Fresh y) : ∀ (d p : Nat), p ≤ x.size → x.size ≤ p + d → VD (x ++ y) p = true → VD x p = true := by
  intro d
  induction d with
  | zero => intro p hp h _; exact vd_end (by omega)
  | succ d ih =>
    intro p hp h hv
    by_cases hq : p < x.size
    · have a1 := adv_le x p hq
      have a2 := adv_pos x p
      have hd := app_decode hy hq
      rw [vd_step (show p < (x ++ y).size by rw [app_size]; omega), show rn (x ++ y) p = rn x p by rw [rn, hd], show wdt (x ++ y) p = wdt x p by rw [wdt, hd]] at hv
      rw [vd_step hq]
      by_cases hx : rn x p = 65533 ∧ wdt x p = 1
      · rw [if_pos hx] at hv; exact nomatch hv
      · rw [if_neg hx] at hv ⊢
        exact ih _ a1 (by omega) hv
    · exact vd_end (by omega)
theorem body_valid {body : List UInt8} (h : Lib.validD (34 :: (body ++ [34])) = true) : Lib.validD body = true := by
  obtain ⟨s, hs⟩ : ∃ s : ByteArray, bl (34 :: (body ++ [34])) = s := ⟨_, rfl⟩
  have hl : s.data.toList = 34 :: (body ++ [34]) := by rw [← hs]; rfl
  have h0 : 0 < s.size := by rw [← list_size, hl]; simp
  have hv : VD s 0 = true := by rw [valid_vd, hl]; exact h
  have hb : (s[0]'h0).toNat < 128 := by
    have e : s[0]'h0 = s.data.toList[0]'(by rw [list_size]; exact h0) := rfl
    rw [e]
    simp only [hl]
    show (34 : UInt8).toNat < 128
    decide
  have hd := Go.decode_ascii s 0 h0 hb
  have e2 : (s[0]'h0).toNat = 34 := by
    have e : s[0]'h0 = s.data.toList[0]'(by rw [list_size]; exact h0) := rfl
    rw [e]
    simp only [hl]
    rfl
  rw [vd_step h0, show rn s 0 = 34 by rw [rn, hd]; exact e2, show wdt s 0 = 1 by rw [wdt, hd], if_neg (by omega)] at hv
  have h2 : VD (bl body ++ bl [34]) 0 = true := by
    rw [valid_vd, app_list]
    unfold VD at hv
    rw [ext_list, hl] at hv
    exact hv
  have h3 := vd_left (x := bl body) (y := bl [34]) (fun _ => by decide) (bl body).size 0 (Nat.zero_le _) (by omega) h2
  rw [valid_vd] at h3
  exact h3
/-- The tokens of a text that is not open. -/
theorem toks_ok {s : ByteArray} (hs : s.size ≤ 2147483647) (hv : Lib.validD s.data.toList = true) (he : S0 s 0 0 = strmB (s.size + 1) s.data.toList) {ts : List S49} (hm : ts.map kt2 = (S0 s 0 0).1) : ∀ t ∈ ts, TokOK t := by
  intro t ht
  have hA : ∀ t ∈ (S0 s 0 0).1, t.2.size ≤ s.size ∧ Lib.validD t.2.data.toList = true := by
    refine strm_all (fun p c k a e ca ce hp hc hst hs => ?_) _ 0 0 (Nat.zero_le _) (Nat.le_refl _) (.refl _ _)
    have hl := scanE_le _ _ _ _ _ _ _ _ hp hc hs
    have hst2 := scanE_steps _ _ _ _ _ _ _ _ hs
    refine ⟨by rw [ext_size (by omega)]; omega, ?_⟩
    rw [← valid_vd] at hv
    have h1 := vd_run (hst.trans (hst2.1.weak (fun _ _ => trivial))) hv
    have h2 := vd_piece (s := s) (a := a) (e := e) (by omega) hst2.2 rfl (Nat.le_refl _) h1
    rw [Nat.sub_self, valid_vd] at h2
    exact h2
  have hk : kt2 t ∈ (S0 s 0 0).1 := by rw [← hm]; exact List.mem_map_of_mem ht
  obtain ⟨a1, a2⟩ := hA _ hk
  rw [he] at hk
  obtain ⟨w, b1, b2, b3⟩ := strmB_kq _ _ _ hk
  have c1 : (kt2 t).1 = t.f0.toNat := rfl
  have c2 : (kt2 t).2 = t.f1 := rfl
  refine ⟨by omega, fun h8 => ?_⟩
  obtain ⟨body, e1, e2⟩ := b3 (by omega)
  rw [c2] at b1 a1 a2
  subst e1
  rw [b1] at a1 a2
  refine ⟨body, b1, e2, body_valid a2, ?_⟩
  have : (bl (34 :: (body ++ [34]))).size = body.length + 2 := by
    rw [← list_size]
    show (34 :: (body ++ [34])).length = _
    simp
  omega
end Go.Proofs.YtmjoebnphacadaaGreatDoor.Lex
/- spec.ParseMatchers against the parser; laws.eqRead of equal lists. -/
namespace Go.Proofs.YtmjoebnphacadaaGreatDoor.Lex
open Go.RowKit Go.Lib Go.Proofs.YtmjoebnphacadaaGreatDoor.Pure Go.Proofs.YtmjoebnphacadaaGreatDoor.Q Go.Proofs.YtmjoebnphacadaaGreatDoor.Spm Go.Proofs.YtmjoebnphacadaaGreatDoorW.PrintWords Go.Proofs.YtmjoebnphacadaaGreatDoorW.PrintLast
set_option linter.unusedVariables false
set_option linter.unusedSimpArgs false
theorem plist_last : ∀ (n : Nat) (l : List Tk) (t : Tk), l.length ≤ n → t.1 = 2 → plist (l ++ [t]) = none := by
  intro n
  induction n with
  | zero =>
    intro l t h ht
    obtain rfl := List.eq_nil_of_length_eq_zero (show l.length = 0 by omega)
    rfl
  | succ n ih =>
    intro l t h ht
    match l, h with
    | [], _ => rfl
    | [_], _ => rfl
    | [x, y], _ =>
      show (mkT x y t).map _ = none
      rw [mkT_bad (by omega)]
      rfl
    | [x, y, z], _ =>
      show (mkT x y z).bind (fun m => if t.1 = 3 then _ else none) = none
      cases mkT x y z with
      | none => rfl
      | some m => rw [Option.bind_some, if_neg (by omega)]
    | x :: y :: z :: c :: r, h =>
      show (mkT x y z).bind (fun m => if c.1 = 3 then (plist (r ++ [t])).map (m :: ·) else none) = none
      rw [ih r t (by simp only [List.length_cons] at h; omega) ht]
      cases mkT x y z with
      | none => rfl
      | some m => rw [Option.bind_some]; split <;> rfl
theorem closed_app (r : List Tk) (t : Tk) : closed (r ++ [t]) = if t.1 = 2 then plist r else none := by
  unfold closed
  rw [List.getLast?_concat, List.dropLast_concat]
/-- The braces. -/
theorem inside_says (l : List S49) (hl : ∀ t ∈ l, TokOK t) : match insideL l with
    | none => parseT (l.map kt2, true) = none
    | some m => parseT (l.map kt2, true) = plist (m.map kt2) ∧ m.length ≤ l.length ∧ ∀ t ∈ m, TokOK t := by
  cases l with
  | nil => exact ⟨rfl, Nat.le_refl _, hl⟩
  | cons x r =>
    have hx : rd_T49 (x :: r) 0 = x := rfl
    have p0 : 0 < (x :: r).length := by simp
    have nx := (hl x (by simp)).n
    have kx : (kt2 x).1 = x.f0.toNat := rfl
    have hp := parseT_list ((x :: r).map kt2)
    rw [List.map_cons] at hp
    dsimp only at hp
    rw [List.map_cons]
    rcases List.eq_nil_or_concat r with rfl | ⟨init, y, rfl⟩
    · have hy : rd_T49 [x] ((([x] : List S49).length - 1 : Nat) : Int) = x := rfl
      unfold insideL
      rw [hx, hy]
      simp only [p0, true_and]
      rw [hp]
      by_cases h1 : x.f0 = 1
      · have h2 : ¬ x.f0 = 2 := by omega
        rw [if_neg (by simp [h1, h2]), if_pos (by omega)]
        rfl
      · by_cases h2 : x.f0 = 2
        · rw [if_neg (by simp [h1, h2]), if_neg (by omega)]
          exact plist_last 0 [] _ (Nat.le_refl _) (by omega)
        · rw [if_pos (by simp [h1, h2]), if_neg h1, if_neg (by omega)]
          exact ⟨rfl, Nat.le_refl _, hl⟩
    · simp only [List.concat_eq_append] at *
      have hy : rd_T49 (x :: (init ++ [y])) (((x :: (init ++ [y])).length - 1 : Nat) : Int) = y := by
        show (x :: (init ++ [y])).getD (((x :: (init ++ [y])).length - 1 : Nat) : Int).toNat _ = y
        rw [Int.toNat_natCast, List.getD_eq_getElem?_getD]
        simp
      have ny := (hl y (by simp)).n
      have ky : (kt2 y).1 = y.f0.toNat := rfl
      unfold insideL
      rw [hx, hy]
      simp only [p0, true_and]
      rw [hp, List.map_append]
      by_cases h1 : x.f0 = 1
      · rw [if_pos (show (kt2 x).1 = 1 by omega)]
        have hc : closed (init.map kt2 ++ [y].map kt2) = if (kt2 y).1 = 2 then plist (init.map kt2) else none := closed_app _ _
        rw [hc]
        by_cases h2 : y.f0 = 2
        · have e : ((x :: (init ++ [y])).take ((x :: (init ++ [y])).length - 1)).drop 1 = init := by
            rw [show (x :: (init ++ [y])).length - 1 = init.length + 1 by simp, List.take_succ_cons, List.take_left' rfl]
            rfl
          rw [if_pos (by simp [h1, h2]), if_pos h1, if_neg (by simp), e, if_pos (by omega)]
          exact ⟨rfl, by simp; omega, fun t ht => hl t (by simp [ht])⟩
        · rw [if_neg (by simp [h1, h2]), if_neg (by omega)]
      · rw [if_neg (show ¬ (kt2 x).1 = 1 by omega)]
        by_cases h2 : y.f0 = 2
        · rw [if_neg (by simp [h1, h2])]
          exact plist_last _ (kt2 x :: init.map kt2) (kt2 y) (Nat.le_refl _) (by omega)
        · rw [if_pos (by simp [h1, h2]), if_neg h1]
          exact ⟨by rw [List.map_cons (l := init ++ [y]), List.map_append], Nat.le_refl _, hl⟩
theorem tilde_has (s : ByteArray) : tilde s = hasC s 126 := by
  unfold tilde hasC
  congr 1
  funext b
  rw [Bool.eq_iff_iff, decide_eq_true_eq, decide_eq_true_eq]
  omega
/-- spec.ParseMatchers: what it answers. -/
theorem pms_says {s : ByteArray} (hs : s.size ≤ 20000) (ht : hasC s 126 = false) : ∃ R, Ev (fun k => spec_ParseMatchers.f k s) R ∧ ((R.2 = 0 ∧ parseL s = none) ∨ (R.2 = 1 ∧ ∃ ms, parseL s = some ms ∧ R.1 = ms.map toSM) ∨ R.2 = 2) := by
  obtain ⟨t, h1, h2⟩ := specTokens_ev s (by omega)
  have start : ∀ {R : List S45 × Int}, Ev (fun k => if t.2 = 1 then (if t.1.length ≤ 2147483647 then (match insideL t.1 with | none => some ([], 0) | some l => pmL k (l.length + 1) l [] 1) else none) else some ([], t.2)) R → Ev (fun k => spec_ParseMatchers.f k s) R := by
    intro R h
    unfold spec_ParseMatchers.f pmS
    refine ev_ite_neg (by rw [tilde_has, ht]; simp) (ev_ite_pos (by omega) (Ev.bind h1 h))
  rw [parseL_eq]
  rcases h2 with h2 | ⟨hv, hlen, he, hm, ⟨h1, hS⟩ | ⟨h0, hS⟩⟩
  · exact ⟨([], t.2), start (ev_ite_neg (by omega) (Ev.now _)), .inr (.inr h2)⟩
  · have hok := toks_ok (by omega) hv he hm
    have hi := inside_says t.1 hok
    have hp : S0 s 0 0 = (t.1.map kt2, true) := by rw [hm, ← hS]
    rw [hp]
    cases hin : insideL t.1 with
    | none =>
      rw [hin] at hi
      exact ⟨([], 0), start (ev_ite_pos h1 (ev_ite_pos (by omega) (by rw [hin]; exact Ev.now _))), .inl ⟨rfl, hi⟩⟩
    | some m =>
      rw [hin] at hi
      obtain ⟨i1, i2, i3⟩ := hi
      obtain ⟨R, r1, r2⟩ := pm_says (m.length + 1) m [] 1 (by omega) i3
      refine ⟨R, start (ev_ite_pos h1 (ev_ite_pos (by omega) (by rw [hin]; exact r1))), ?_⟩
      rw [i1]
      rcases r2 with r2 | ⟨r2, _, ms, r3, r4⟩ | r2
      · exact .inl r2
      · exact .inr (.inl ⟨r2, ms, r3, by rw [r4]; rfl⟩)
      · exact .inr (.inr r2)
  · refine ⟨([], t.2), start (ev_ite_neg (by omega) (Ev.now _)), .inl ⟨h0, ?_⟩⟩
    cases hp : parseT (S0 s 0 0) with
    | none => rfl
    | some m =>
      have := runT_end hp
      rw [hS] at this
      exact nomatch this
end Go.Proofs.YtmjoebnphacadaaGreatDoor.Lex
/- The law FnParse over plain values. -/
set_option linter.unusedVariables false
set_option linter.unusedSimpArgs false
namespace Go.Proofs.YtmjoebnphacadaaGreatDoor.Pure
open Go.RowKit Go.Proofs.YtmjoebnphacadaaGreatDoor.Q Go.Proofs.YtmjoebnphacadaaGreatDoor.Lex Go.Proofs.YtmjoebnphacadaaGreatDoorW.PrintWords Go.Proofs.YtmjoebnphacadaaGreatDoorW.PrintLast
theorem rdT_map {α β : Type} {f : α → β} {l : List α} {z : β} {w : α} (i : Nat) (h : i < l.length) : (l.map f).getD (i : Int).toNat z = f (l.getD i w) := by
  rw [Int.toNat_natCast, List.getD_eq_getElem?_getD, List.getD_eq_getElem?_getD, List.getElem?_map, List.getElem?_eq_getElem h]
  rfl
theorem eqr_same (l : List SMt) (hl : l.length ≤ 2147483647) : Ev (fun k => laws_eqRead.f k (l.map ofMat) (l.map toSM)) true := by
  unfold laws_eqRead.f
  have e1 : ((l.map ofMat).length : Int) = (l.length : Int) := by rw [List.length_map]
  have e2 : ((l.map toSM).length : Int) = (l.length : Int) := by rw [List.length_map]
  rw [e1, e2]
  refine ev_ite_pos rfl ?_
  have g := ev_up (L := fun k i => laws_eqRead.l0 k (l.map ofMat) (l.map toSM) (l.length : Int) (i : Int)) (fun _ => true) l.length (ev_succ (fun k => by
      simp only [laws_eqRead.l0]
      rw [if_neg (by omega)])) (fun i hi g => by
    refine Ev.step (f := fun k => laws_eqRead.l0 k (l.map ofMat) (l.map toSM) (l.length : Int) ((i + 1 : Nat) : Int)) (fun k => ?_) g
    simp only [laws_eqRead.l0]
    rw [if_pos (by omega), if_pos (by omega), if_pos (by omega), if_pos (by omega)]
    have w : SMt := l[i]
    have a1 : rd_T33 (l.map ofMat) (i : Int) = ofMat (l.getD i w) := rdT_map i hi
    have a2 : rd_T45 (l.map toSM) (i : Int) = toSM (l.getD i w) := rdT_map i hi
    rw [a1, a2]
    show (if (!((l.getD i w).f0 == (l.getD i w).f0) || (!((l.getD i w).f1.toList == (l.getD i w).f1.toList) || !((l.getD i w).f2.toList == (l.getD i w).f2.toList))) = true then _ else _) = _
    simp only [beq_self_eq_true, Bool.not_true, Bool.or_self, Bool.false_eq_true, if_false]
    have ew : wrap64 ((i : Int) + 1) = ((i + 1 : Nat) : Int) := by unfold wrap64; omega
    rw [ew]) l.length 0 (by omega)
  exact g
theorem FnParse : laws_FnParse.Pure := by
  intro a ha
  refine Ev.rounds (g := fun k => laws_FnParse.f k a) ?_
  unfold laws_FnParse.f
  by_cases h1 : (a.size : Int) > 2147483647
  · exact ev_ite_pos h1 (Ev.now true)
  refine ev_ite_neg h1 ?_
  rw [one_ev]
  refine ev_bind_some (ev_ite_pos rfl ?_)
  by_cases h2 : (a.size : Int) > 20000
  · exact ev_ite_pos h2 (ev_succ (fun k => rfl))
  refine ev_ite_neg h2 ?_
  refine Ev.bind (has_ev a 126 (by omega)) ?_
  cases ht : hasC a 126 with
  | true => exact ev_succ (fun k => rfl)
  | false =>
    obtain ⟨R, r1, r2⟩ := pms_says (s := a) (by omega) ht
    refine Ev.step (f := fun k => (spec_ParseMatchers.f k a).bind fun bt167 => (if bt167.2 = 1 then (if (pmF a).2 = true then ((laws_eqRead.f k (pmF a).1 bt167.1).bind fun t171 => (some t171)) else (some false)) else (if bt167.2 = 0 then (some (!(pmF a).2)) else (some true)))) (fun k => ?_) (Ev.bind r1 ?_)
    · show ((impl_ParseMatchers.f a).bind fun bt163 => ((spec_ParseMatchers.f k a).bind fun bt167 => (if bt167.2 = 1 then (if bt163.2 = true then ((laws_eqRead.f k bt163.1 bt167.1).bind fun t171 => (some t171)) else (some false)) else (if bt167.2 = 0 then (some (!bt163.2)) else (some true))))) = _
      unfold impl_ParseMatchers.f
      rw [if_pos (by omega), Option.bind_some]
    · rcases r2 with ⟨r2, r3⟩ | ⟨r2, ms, r3, r4⟩ | r2
      · have e : pmF a = ([], false) := by unfold pmF; rw [r3]
        rw [e]
        refine ev_ite_neg (by omega) (ev_ite_pos r2 (Ev.now _))
      · have e : pmF a = (ms.map ofMat, true) := by unfold pmF; rw [r3]
        rw [e, r4]
        have hlen : ms.length ≤ 2147483647 := by
          have h3 := parseL_len r3
          omega
        refine ev_ite_pos r2 (ev_ite_pos rfl (Ev.bind (eqr_same ms hlen) (Ev.now true)))
      · exact ev_ite_neg (by omega) (ev_ite_neg (by omega) (Ev.now _))
end Go.Proofs.YtmjoebnphacadaaGreatDoor.Pure
/- From what a row lists to what the lexer's walks ask: LT. -/
set_option linter.unusedVariables false
set_option linter.unusedSimpArgs false
namespace Go.Proofs.YtmjoebnphacadaaGreatDoor.Lex
open Go.RowKit Go.Lib
theorem LT_of_reads {w : World} (h1 : VarReads Tryz.prog w "unicode/utf8.first" Go.Pinned.utf8First) (h2 : VarReads Tryz.prog w "unicode/utf8.acceptRanges" acceptData) (h3 : VarReads Tryz.prog w "unicode.White_Space" whiteData) : LT w := by
  rw [Pinned.utf8First_eq] at h1
  exact ⟨utf8Tabs_of_reads (ρ := Tryz.lays260_ren) Tryz.lays260 ⟨by kernel_rfl, by kernel_rfl, by kernel_rfl, by kernel_rfl, by kernel_rfl, by kernel_rfl, by kernel_rfl⟩ h1 h2,
    whiteTab_of_reads (ρ := Tryz.lays199_ren) Tryz.lays199 ⟨by kernel_rfl, by kernel_rfl, by kernel_rfl, by kernel_rfl, by kernel_rfl, by kernel_rfl, by kernel_rfl, by kernel_rfl⟩ h3⟩
end Go.Proofs.YtmjoebnphacadaaGreatDoor.Lex
