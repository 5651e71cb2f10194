-- printed by this project's own program wip/tools/mkprint.py (the kit's print.py with hand-proved contracts put in)
import Derived.Test.YtmjoebnphacadaaDoorQx0
import Derived.Test.YtmjoebnphacadaaDoorQx25
import Derived.Test.YtmjoebnphacadaaDoorQx31
import Derived.Test.YtmjoebnphacadaaDoorQx32
import Derived.Test.YtmjoebnphacadaaDoorQx33
import Derived.Test.YtmjoebnphacadaaDoorQx43
import Derived.Test.YtmjoebnphacadaaDoorQx44
namespace Go.Proofs.YtmjoebnphacadaaDoor.Q
open Go.RowKit Go.Proofs.YtmjoebnphacadaaDoorW.PrintWords Go.Proofs.YtmjoebnphacadaaDoorW.PrintLast Go.Proofs.YtmjoebnphacadaaDoorW.PrintMore
attribute [local go_sem] max2_int min2_int max_two min_two max_three min_three max_four min_four   -- for this text's walks alone
set_option linter.unusedVariables false
set_option linter.unusedSimpArgs false

/-! ### laws_FnBlanks: function 7 -/
mutual
noncomputable def laws_FnBlanks.j0 : Nat → ByteArray → List Int → Bool → Option (Bool)
  | 0, _, _, _ => none
  | k + 1, x0, x1, x22 => if x22 = true then (some true) else ((laws_one.f).bind fun t157 => (if t157 = true then (if (x0.size : Int) > 5000 then (laws_FnBlanks.j1 k x0 x1 true) else ((laws_has.f k x0 126).bind fun t158 => (if t158 = true then (laws_FnBlanks.j1 k x0 x1 true) else (laws_FnBlanks.j1 k x0 x1 ((x1.length : Int) == 0))))) else (some false)))
noncomputable def laws_FnBlanks.j1 : Nat → ByteArray → List Int → Bool → Option (Bool)
  | 0, _, _, _ => none
  | k + 1, x0, x1, x36 => if x36 = true then (some true) else ((impl_Tokens.f x0).bind fun bt159 => (if bt159.2 = true then (laws_FnBlanks.l0 k x0 x1 bt159.1 (⟨#[]⟩ : ByteArray) 0 bt159.1 (bt159.1.length : Int) 0) else (some true)))
noncomputable def laws_FnBlanks.l0 : Nat → ByteArray → List Int → List (S27) → ByteArray → Int → List (S27) → Int → Int → Option (Bool)
  | 0, _, _, _, _, _, _, _, _ => none
  | k + 1, x0, x1, x5, x7, x8, x44, x45, x46 => if x46 < x45 then (if 0 ≤ x46 then (if x46 < (x44.length : Int) then (if ((rd_T27 x44 x46).f2) < x8 then (some false) else (if ((rd_T27 x44 x46).f3) < ((rd_T27 x44 x46).f2) then (some false) else (if ((rd_T27 x44 x46).f3) > (x0.size : Int) then (some false) else (if 0 ≤ x8 then (if x8 ≤ ((rd_T27 x44 x46).f2) then (if ((rd_T27 x44 x46).f2) ≤ (x0.size : Int) then (if (x1.length : Int) = 0 then (none) else (if 0 ≤ (Int.tmod x46 (x1.length : Int)) then (if (Int.tmod x46 (x1.length : Int)) < (x1.length : Int) then ((laws_gap.f (rd x1 (Int.tmod x46 (x1.length : Int)))).bind fun t166 => (if (x0.extract (x8 : Int).toNat (((rd_T27 x44 x46).f2) : Int).toNat).size + t166.size ≤ 9223372036854775807 then (if 0 ≤ ((rd_T27 x44 x46).f2) then (if ((rd_T27 x44 x46).f2) ≤ ((rd_T27 x44 x46).f3) then (if ((rd_T27 x44 x46).f3) ≤ (x0.size : Int) then (if ((x0.extract (x8 : Int).toNat (((rd_T27 x44 x46).f2) : Int).toNat) ++ t166).size + (x0.extract (((rd_T27 x44 x46).f2) : Int).toNat (((rd_T27 x44 x46).f3) : Int).toNat).size ≤ 9223372036854775807 then (if x7.size + (((x0.extract (x8 : Int).toNat (((rd_T27 x44 x46).f2) : Int).toNat) ++ t166) ++ (x0.extract (((rd_T27 x44 x46).f2) : Int).toNat (((rd_T27 x44 x46).f3) : Int).toNat)).size ≤ 9223372036854775807 then (laws_FnBlanks.l0 k x0 x1 x5 (x7 ++ (((x0.extract (x8 : Int).toNat (((rd_T27 x44 x46).f2) : Int).toNat) ++ t166) ++ (x0.extract (((rd_T27 x44 x46).f2) : Int).toNat (((rd_T27 x44 x46).f3) : Int).toNat))) ((rd_T27 x44 x46).f3) x44 x45 (wrap64 (x46 + 1))) else (none)) else (none)) else (none)) else (none)) else (none)) else (none))) else (none)) else (none))) else (none)) else (none)) else (none))))) else (none)) else (none)) else (if (x1.length : Int) = 0 then (none) else (if 0 ≤ ((x5.length : Int) % (x1.length : Int)) then (if ((x5.length : Int) % (x1.length : Int)) < (x1.length : Int) then ((laws_gap.f (rd x1 ((x5.length : Int) % (x1.length : Int)))).bind fun t168 => (if 0 ≤ x8 then (if x8 ≤ (x0.size : Int) then (if t168.size + (x0.extract (x8 : Int).toNat x0.size).size ≤ 9223372036854775807 then (if x7.size + (t168 ++ (x0.extract (x8 : Int).toNat x0.size)).size ≤ 9223372036854775807 then ((impl_ParseMatchers.f x0).bind fun bt169 => ((impl_ParseMatchers.f (x7 ++ (t168 ++ (x0.extract (x8 : Int).toNat x0.size)))).bind fun bt173 => (if (bt169.2 == bt173.2) = true then ((laws_eqMatchers.f k bt169.1 bt173.1).bind fun t177 => (some t177)) else (some false)))) else (none)) else (none)) else (none)) else (none))) else (none)) else (none)))
end
noncomputable def laws_FnBlanks.f (k : Nat) (a0 : ByteArray) (l1 : List Int) : Option (Bool) := if (a0.size : Int) > 2147483647 then (laws_FnBlanks.j0 k a0 l1 true) else (laws_FnBlanks.j0 k a0 l1 (decide ((l1.length : Int) > 2147483647)))
theorem laws_FnBlanks.mono_l : ∀ k, (∀ y0 y1 y2, LeO (laws_FnBlanks.j0 k y0 y1 y2) (laws_FnBlanks.j0 (k + 1) y0 y1 y2)) ∧ (∀ y0 y1 y2, LeO (laws_FnBlanks.j1 k y0 y1 y2) (laws_FnBlanks.j1 (k + 1) y0 y1 y2)) ∧ (∀ y0 y1 y2 y3 y4 y5 y6 y7, LeO (laws_FnBlanks.l0 k y0 y1 y2 y3 y4 y5 y6 y7) (laws_FnBlanks.l0 (k + 1) y0 y1 y2 y3 y4 y5 y6 y7))
  | 0 => ⟨fun _ _ _ r h => by simp [laws_FnBlanks.j0] at h, fun _ _ _ r h => by simp [laws_FnBlanks.j1] at h, fun _ _ _ _ _ _ _ _ r h => by simp [laws_FnBlanks.l0] at h⟩
  | k + 1 => by
    obtain ⟨ih0, ih1, ih2⟩ := laws_FnBlanks.mono_l k
    refine ⟨?_, ?_, ?_⟩
    · intro y0 y1 y2
      unfold laws_FnBlanks.j0
      repeat' first
      | (with_reducible exact ih0 _ _ _)
      | (with_reducible exact ih1 _ _ _)
      | (with_reducible exact ih2 _ _ _ _ _ _ _ _)
      | (with_reducible exact laws_eqMatchers.mono _ _ _)
      | (with_reducible exact laws_has.mono _ _ _)
      | (with_reducible exact LeO.refl _)
      | (with_reducible exact LeO.none _)
      | (with_reducible refine LeO.ite ?_ ?_)
      | (with_reducible refine LeO.bind ?_ (fun _ => ?_))
      | exact ih0 _ _ _
      | exact ih1 _ _ _
      | exact ih2 _ _ _ _ _ _ _ _
      | exact laws_eqMatchers.mono _ _ _
      | exact laws_has.mono _ _ _
      | exact LeO.none _
      | refine LeO.ite ?_ ?_
      | refine LeO.bind ?_ (fun _ => ?_)
    · intro y0 y1 y2
      unfold laws_FnBlanks.j1
      repeat' first
      | (with_reducible exact ih0 _ _ _)
      | (with_reducible exact ih1 _ _ _)
      | (with_reducible exact ih2 _ _ _ _ _ _ _ _)
      | (with_reducible exact laws_eqMatchers.mono _ _ _)
      | (with_reducible exact laws_has.mono _ _ _)
      | (with_reducible exact LeO.refl _)
      | (with_reducible exact LeO.none _)
      | (with_reducible refine LeO.ite ?_ ?_)
      | (with_reducible refine LeO.bind ?_ (fun _ => ?_))
      | exact ih0 _ _ _
      | exact ih1 _ _ _
      | exact ih2 _ _ _ _ _ _ _ _
      | exact laws_eqMatchers.mono _ _ _
      | exact laws_has.mono _ _ _
      | exact LeO.none _
      | refine LeO.ite ?_ ?_
      | refine LeO.bind ?_ (fun _ => ?_)
    · intro y0 y1 y2 y3 y4 y5 y6 y7
      unfold laws_FnBlanks.l0
      repeat' first
      | (with_reducible exact ih0 _ _ _)
      | (with_reducible exact ih1 _ _ _)
      | (with_reducible exact ih2 _ _ _ _ _ _ _ _)
      | (with_reducible exact laws_eqMatchers.mono _ _ _)
      | (with_reducible exact laws_has.mono _ _ _)
      | (with_reducible exact LeO.refl _)
      | (with_reducible exact LeO.none _)
      | (with_reducible refine LeO.ite ?_ ?_)
      | (with_reducible refine LeO.bind ?_ (fun _ => ?_))
      | exact ih0 _ _ _
      | exact ih1 _ _ _
      | exact ih2 _ _ _ _ _ _ _ _
      | exact laws_eqMatchers.mono _ _ _
      | exact laws_has.mono _ _ _
      | exact LeO.none _
      | refine LeO.ite ?_ ?_
      | refine LeO.bind ?_ (fun _ => ?_)
theorem laws_FnBlanks.mono : ∀ a0 a1 k, LeO (laws_FnBlanks.f k a0 a1) (laws_FnBlanks.f (k + 1) a0 a1) := by
  intro a0 a1 k
  obtain ⟨ih0, ih1, ih2⟩ := laws_FnBlanks.mono_l k
  unfold laws_FnBlanks.f
  repeat' first
      | (with_reducible exact ih0 _ _ _)
      | (with_reducible exact ih1 _ _ _)
      | (with_reducible exact ih2 _ _ _ _ _ _ _ _)
      | (with_reducible exact laws_eqMatchers.mono _ _ _)
      | (with_reducible exact laws_has.mono _ _ _)
      | (with_reducible exact LeO.refl _)
      | (with_reducible exact LeO.none _)
      | (with_reducible refine LeO.ite ?_ ?_)
      | (with_reducible refine LeO.bind ?_ (fun _ => ?_))
      | exact ih0 _ _ _
      | exact ih1 _ _ _
      | exact ih2 _ _ _ _ _ _ _ _
      | exact laws_eqMatchers.mono _ _ _
      | exact laws_has.mono _ _ _
      | exact LeO.none _
      | refine LeO.ite ?_ ?_
      | refine LeO.bind ?_ (fun _ => ?_)
noncomputable def laws_FnBlanks.T16 : Bool × List (List Nat × List Nat) := (true, [([], []), ([], []), ([], []), ([], []), ([3], [3]), ([1, 2, 4], [1, 2, 4]), ([], []), ([], []), ([], []), ([8], [8]), ([7, 9], [7, 9]), ([6, 10], [6, 10]), ([11], [11]), ([12], [12]), ([5, 13], [5, 13]), ([], []), ([], []), ([16], [16]), ([], []), ([18], [18]), ([15, 17, 19], [15, 17, 19]), ([14, 20], [14, 20]), ([0, 21], [0, 21]), ([22, 13, 0, 1, 2, 3, 4, 5, 6, 7, 8, 9, 10, 11, 12, 13, 14, 15, 16, 17, 18, 19, 20, 21, 22], [0, 22])])
noncomputable def laws_FnBlanks.B16 : List Nat := [0, 0, 0, 0, 8, 30, 0, 0, 0, 256, 896, 1984, 4032, 8128, 16382, 0, 0, 65536, 0, 262144, 1015808, 2097150, 4194303, 8388607]
theorem laws_FnBlanks.tab16 : rtab .any (opsOf Tryd.f7 16) = laws_FnBlanks.T16 := by kernel_rfl
theorem laws_FnBlanks.bits16 : waitsOk laws_FnBlanks.T16.2 laws_FnBlanks.B16 = true := by kernel_rfl
noncomputable def laws_FnBlanks.T19 : Bool × List (List Nat × List Nat) := (true, [([], []), ([], []), ([], []), ([2], [2]), ([], []), ([4], [4]), ([3, 5], [3, 5]), ([1, 6], [1, 6]), ([7], [7]), ([8], [8]), ([], []), ([], []), ([10, 11], [10, 11]), ([9, 12], [9, 12]), ([0, 13], [0, 13]), ([14, 9, 0, 1, 2, 3, 4, 5, 6, 7, 8, 9, 10, 11, 12, 13, 14], [0, 14])])
noncomputable def laws_FnBlanks.B19 : List Nat := [0, 0, 0, 4, 0, 16, 60, 126, 254, 510, 0, 0, 3072, 8190, 16383, 32767]
theorem laws_FnBlanks.tab19 : rtab .any (opsOf Tryd.f7 19) = laws_FnBlanks.T19 := by kernel_rfl
theorem laws_FnBlanks.bits19 : waitsOk laws_FnBlanks.T19.2 laws_FnBlanks.B19 = true := by kernel_rfl
set_option maxHeartbeats 8000000 in
set_option maxRecDepth 100000 in
theorem laws_FnBlanks.calls (k : Nat) (a0 : ByteArray) (A1 : Option Addr) (c1 : Nat) (l1 : List Int) (r : Bool) (w : World) (hr1 : Kd.C (Kd.int .u8) w A1 l1.length l1) (hc1 : l1.length ≤ c1) (hT_ : Go.Proofs.YtmjoebnphacadaaDoor.Lex.ETx w) (h : laws_FnBlanks.f k a0 l1 = some r) :
    Calls Tryd.prog 7 #[.string a0, .slice A1 l1.length c1] w fun e w' => e = .returned (.bool r) ∧ Below w.heap.size w w' := by
  have HTW_ := Aside0.mk hT_
  clear hT_
  have hu27 := Tryd.underlying27
  have HR1 := Aside0.mk hr1
  have HC1 := Aside0.mk hc1
  clear hr1 hc1
  have HB := Aside0.mk (Below.refl w.heap.size w)
  have H : (if (a0.size : Int) > 2147483647 then (laws_FnBlanks.j0 k a0 l1 true) else (laws_FnBlanks.j0 k a0 l1 (decide ((l1.length : Int) > 2147483647)))) = some r := h
  clear h
  have HC3 := Aside0.mk H
  clear H
  go_enter Tryd.func7, Tryd.ntmps7
  go_upto_region 1 with (fail)
  go_cut [22] (fun v22 wc => ∃ (kq : Nat) (x22_2 : Bool), v22 = .bool x22_2 ∧ Aside0 (laws_FnBlanks.j0 kq a0 l1 x22_2 = some r) ∧ Aside0 (kq ≤ k) ∧ Aside0 (Below w.heap.size w wc))
  case first =>
    have H := HC3.out
    clear HC3
    by_cases c4 : (a0.size : Int) > 2147483647
    · rw [if_pos c4] at H
      have c4b0 : decide (2147483647 < (a0.size : Int)) = true := decide_eq_true c4
      have c4b1 : decide (2147483647 < a0.size) = true := decide_eq_true (by omega)
      clear c4
      (first | rw [c4b0] | (simp only [i64_w, i32_w]; rw [c4b0]) | skip)
      have H' := Aside0.mk H
      clear H
      go_wp2
      go_meet
      case rel => exact ⟨_, (true), (by first | rfl | (simp; done) | (simp [*]; done)), H', ⟨by first | omega | exact Nat.le_refl _⟩, ⟨by repeat (first | (with_reducible first | exact HB.out | apply below_alloc | apply pw_below_drewN | apply below_drew1) | exact HB.out)⟩⟩
    · rw [if_neg c4] at H
      have c4b0 : decide (2147483647 < (a0.size : Int)) = false := decide_eq_false c4
      have c4b1 : decide (2147483647 < a0.size) = false := decide_eq_false (by omega)
      clear c4
      (first | rw [c4b0] | (simp only [i64_w, i32_w]; rw [c4b0]) | skip)
      have H' := Aside0.mk H
      clear H
      go_wp2
      go_meet
      case rel => exact ⟨_, (decide ((l1.length : Int) > 2147483647)), (by first | rfl | (simp; done) | (simp [*]; done)), H', ⟨by first | omega | exact Nat.le_refl _⟩, ⟨by repeat (first | (with_reducible first | exact HB.out | apply below_alloc | apply pw_below_drewN | apply below_drew1) | exact HB.out)⟩⟩
  case rest =>
    clear HC3
    try clear c1
    try clear p2
    try clear c4
    try clear c4b0
    try clear c4b1
    obtain ⟨kq, x22_2, rfl, HA, HJ2, HB⟩ := hcut
    cases kq with
    | zero => exact absurd HA.out (by simp [laws_FnBlanks.j0])
    | succ kj2 =>
      have H := HA.out
      clear HA
      simp only [laws_FnBlanks.j0] at H
      by_cases c5 : x22_2 = true
      · subst c5
        have H1 : (some true) = some r := by rw [if_pos rfl] at H; exact H
        clear H
        have H := H1
        clear H1
        obtain rfl := Option.some.inj H
        go_wp2
        go_ret
        exact ⟨by first | rfl | (simp [errW_none, errW_some] <;> rfl) | (simp [*, errW_none, errW_some] <;> rfl), by repeat (first | (with_reducible first | exact HB.out | apply below_alloc | apply pw_below_drewN | apply below_drew1) | exact HB.out)⟩
      · replace c5 := Bool.eq_false_iff.mpr c5
        subst c5
        have H1 : ((laws_one.f).bind fun t157 => (if t157 = true then (if (a0.size : Int) > 5000 then (laws_FnBlanks.j1 kj2 a0 l1 true) else ((laws_has.f kj2 a0 126).bind fun t158 => (if t158 = true then (laws_FnBlanks.j1 kj2 a0 l1 true) else (laws_FnBlanks.j1 kj2 a0 l1 ((l1.length : Int) == 0))))) else (some false))) = some r := by rw [if_neg (show ¬ (false = true) by decide)] at H; exact H
        clear H
        have H := H1
        clear H1
        replace H := Option.bind_eq_some_iff.mp H
        obtain ⟨t157, A60, H⟩ := H
        replace H : (if t157 = true then (if (a0.size : Int) > 5000 then (laws_FnBlanks.j1 kj2 a0 l1 true) else ((laws_has.f kj2 a0 126).bind fun t158 => (if t158 = true then (laws_FnBlanks.j1 kj2 a0 l1 true) else (laws_FnBlanks.j1 kj2 a0 l1 ((l1.length : Int) == 0))))) else (some false)) = some r := H
        have A6 := Aside0.mk A60
        clear A60
        by_cases c7 : t157 = true
        · subst c7
          have H1 : (if (a0.size : Int) > 5000 then (laws_FnBlanks.j1 kj2 a0 l1 true) else ((laws_has.f kj2 a0 126).bind fun t158 => (if t158 = true then (laws_FnBlanks.j1 kj2 a0 l1 true) else (laws_FnBlanks.j1 kj2 a0 l1 ((l1.length : Int) == 0))))) = some r := by rw [if_pos rfl] at H; exact H
          clear H
          have H := H1
          clear H1
          have HC8 := Aside0.mk H
          clear H
          go_upto_region 5 with (first | ((with_reducible refine gate_callee (f := 13) rfl ?_); refine goesL_ (some 23) rfl rfl Tryd.func13 (by kernel_rfl) rfl #[] rfl (by (try simp only [List.map_toArray, List.map_cons, List.map_nil]); first | done | rfl | (simp only [List.length_drop, List.length_take]; rfl)) ?_; (with_reducible refine (laws_one.calls  true _ ?side1 A6.out).mono ?_); (case side1 => exact Go.Proofs.YtmjoebnphacadaaDoor.Lex.ETx.below HTW_.out (by repeat (first | (with_reducible first | exact HB.out | apply below_alloc | apply pw_below_drewN | apply below_drew1) | exact HB.out))); rintro e w9 ⟨rfl, hb⟩; refine ⟨_, rfl, ?_⟩; have n0_ := Aside0.mk (below_step (by repeat (first | (with_reducible first | exact HB.out | apply below_alloc | apply pw_below_drewN | apply below_drew1) | exact HB.out)) hb); clear HB; have HB := n0_; clear n0_; (try clear hb); (try clear hb2); (try clear hk); (try clear hi)))
          (try simp only [Act.put, List.setIfInBounds_toArray, List.set_cons_zero, List.set_cons_succ])
          go_cut [36] (fun v36 wc => ∃ (kq : Nat) (x36_7 : Bool), v36 = .bool x36_7 ∧ Aside0 (laws_FnBlanks.j1 kq a0 l1 x36_7 = some r) ∧ Aside0 (kq ≤ kj2) ∧ Aside0 (Below w.heap.size w wc))
          case first =>
            have H := HC8.out
            clear HC8
            by_cases c10 : (a0.size : Int) > 5000
            · rw [if_pos c10] at H
              have c10b0 : decide (5000 < (a0.size : Int)) = true := decide_eq_true c10
              have c10b1 : decide (5000 < a0.size) = true := decide_eq_true (by omega)
              clear c10
              (first | rw [c10b0] | (simp only [i64_w, i32_w]; rw [c10b0]) | skip)
              have H' := Aside0.mk H
              clear H
              go_wp2
              go_meet
              case rel => exact ⟨_, (true), (by first | rfl | (simp; done) | (simp [*]; done)), H', ⟨by have := HJ2.out; first | omega | exact Nat.le_refl _⟩, ⟨by repeat (first | (with_reducible first | exact HB.out | apply below_alloc | apply pw_below_drewN | apply below_drew1) | exact HB.out)⟩⟩
            · rw [if_neg c10] at H
              have c10b0 : decide (5000 < (a0.size : Int)) = false := decide_eq_false c10
              have c10b1 : decide (5000 < a0.size) = false := decide_eq_false (by omega)
              clear c10
              (first | rw [c10b0] | (simp only [i64_w, i32_w]; rw [c10b0]) | skip)
              replace H := Option.bind_eq_some_iff.mp H
              obtain ⟨t158, A110, H⟩ := H
              replace H : (if t158 = true then (laws_FnBlanks.j1 kj2 a0 l1 true) else (laws_FnBlanks.j1 kj2 a0 l1 ((l1.length : Int) == 0))) = some r := H
              have A11 := Aside0.mk A110
              clear A110
              by_cases c12 : t158 = true
              · subst c12
                have H1 : (laws_FnBlanks.j1 kj2 a0 l1 true) = some r := by rw [if_pos rfl] at H; exact H
                clear H
                have H := H1
                clear H1
                have H' := Aside0.mk H
                clear H
                go_wp2_with (first | (go_at_call 14; (with_reducible refine (laws_has.calls kj2 a0 126 true _ A11.out).mono ?_); rintro e w' ⟨rfl, ⟨nd, rfl⟩⟩))
                go_meet
                case rel => exact ⟨_, (true), (by first | rfl | (simp; done) | (simp [*]; done)), H', ⟨by have := HJ2.out; first | omega | exact Nat.le_refl _⟩, ⟨by repeat (first | (with_reducible first | exact HB.out | apply below_alloc | apply pw_below_drewN | apply below_drew1) | exact HB.out)⟩⟩
              · replace c12 := Bool.eq_false_iff.mpr c12
                subst c12
                have H1 : (laws_FnBlanks.j1 kj2 a0 l1 ((l1.length : Int) == 0)) = some r := by rw [if_neg (show ¬ (false = true) by decide)] at H; exact H
                clear H
                have H := H1
                clear H1
                have H' := Aside0.mk H
                clear H
                go_wp2_with (first | (go_at_call 14; (with_reducible refine (laws_has.calls kj2 a0 126 false _ A11.out).mono ?_); rintro e w' ⟨rfl, ⟨nd, rfl⟩⟩))
                go_meet
                case rel => exact ⟨_, (((l1.length : Int) == 0)), (by first | rfl | (simp; done) | (simp [*]; done)), H', ⟨by have := HJ2.out; first | omega | exact Nat.le_refl _⟩, ⟨by repeat (first | (with_reducible first | exact HB.out | apply below_alloc | apply pw_below_drewN | apply below_drew1) | exact HB.out)⟩⟩
          case rest =>
            clear HC8
            try clear c1
            try clear p2
            try clear c4
            try clear c4b0
            try clear c4b1
            try clear c5
            try clear c7
            try clear c10
            try clear c10b0
            try clear c10b1
            try clear c12
            try clear p2
            obtain ⟨kq, x36_7, rfl, HA, HJ7, HB⟩ := hcut
            cases kq with
            | zero => exact absurd HA.out (by simp [laws_FnBlanks.j1])
            | succ kj7 =>
              have H := HA.out
              clear HA
              simp only [laws_FnBlanks.j1] at H
              by_cases c13 : x36_7 = true
              · subst c13
                have H1 : (some true) = some r := by rw [if_pos rfl] at H; exact H
                clear H
                have H := H1
                clear H1
                obtain rfl := Option.some.inj H
                go_wp2
                go_ret
                exact ⟨by first | rfl | (simp [errW_none, errW_some] <;> rfl) | (simp [*, errW_none, errW_some] <;> rfl), by repeat (first | (with_reducible first | exact HB.out | apply below_alloc | apply pw_below_drewN | apply below_drew1) | exact HB.out)⟩
              · replace c13 := Bool.eq_false_iff.mpr c13
                subst c13
                have H1 : ((impl_Tokens.f a0).bind fun bt159 => (if bt159.2 = true then (laws_FnBlanks.l0 kj7 a0 l1 bt159.1 (⟨#[]⟩ : ByteArray) 0 bt159.1 (bt159.1.length : Int) 0) else (some true))) = some r := by rw [if_neg (show ¬ (false = true) by decide)] at H; exact H
                clear H
                have H := H1
                clear H1
                replace H := Option.bind_eq_some_iff.mp H
                obtain ⟨⟨t159, t160⟩, A140, H⟩ := H
                replace H : (if t160 = true then (laws_FnBlanks.l0 kj7 a0 l1 t159 (⟨#[]⟩ : ByteArray) 0 t159 (t159.length : Int) 0) else (some true)) = some r := H
                have A14 := Aside0.mk A140
                clear A140
                by_cases c15 : t160 = true
                · subst c15
                  have H1 : (laws_FnBlanks.l0 kj7 a0 l1 t159 (⟨#[]⟩ : ByteArray) 0 t159 (t159.length : Int) 0) = some r := by rw [if_pos rfl] at H; exact H
                  clear H
                  have H := H1
                  clear H1
                  have H' := Aside0.mk H
                  clear H
                  go_wp2_with (first | ((with_reducible refine gate_callee (f := 9) rfl ?_); refine goesL_ (some 39) rfl rfl Tryd.func9 (by kernel_rfl) rfl #[.string a0] rfl (by (try simp only [List.map_toArray, List.map_cons, List.map_nil]); first | done | rfl | (simp only [List.length_drop, List.length_take]; rfl)) ?_; (with_reducible refine (impl_Tokens.calls a0 t159 true _ ?side1 A14.out).mono ?_); (case side1 => exact Go.Proofs.YtmjoebnphacadaaDoor.Lex.ETx.below HTW_.out (by repeat (first | (with_reducible first | exact HB.out | apply below_alloc | apply pw_below_drewN | apply below_drew1) | exact HB.out))); rintro e w16 ⟨v161, rfl, ho0, hb⟩; refine ⟨_, rfl, ?_⟩; have n0_ := Aside0.mk (Kd.R_lower ho0 (below_size (by repeat (first | (with_reducible first | exact HB.out | apply below_alloc | apply pw_below_drewN | apply below_drew1) | exact HB.out)))); have n1_ := Aside0.mk (below_step (by repeat (first | (with_reducible first | exact HB.out | apply below_alloc | apply pw_below_drewN | apply below_drew1) | exact HB.out)) hb); clear HB; have HO162 := n0_; have HB := n1_; clear n0_ n1_; (try clear hb); (try clear hb2); (try clear hk); (try clear hi); (try clear ho0); obtain ⟨Ao17, co17, eo17⟩ := Kd.R_slice HO162.out; subst eo17))
                  go_loopg [7, 8, 46] kj7 (fun kq v7 v8 v46 w' => ∃ (x7_3 : ByteArray) (x8_3 : Int) (x46_3 : Int), v7 = .string x7_3 ∧ v8 = .int .i64 x8_3 ∧ v46 = .int .i64 x46_3 ∧ Aside0 (laws_FnBlanks.l0 kq a0 l1 t159 x7_3 x8_3 t159 (t159.length : Int) x46_3 = some r) ∧ Aside0 (kq ≤ kj7) ∧ Aside0 (Kd.R k27 27 w' w.heap.size (fun _ => True) (.slice Ao17 t159.length co17) t159) ∧ Aside0 (Kd.R k27 27 w' w.heap.size (fun _ => True) (.slice Ao17 t159.length co17) t159) ∧ Aside0 (Below w.heap.size w w'))
                  case atStart => exact ⟨((⟨#[]⟩ : ByteArray)), (0), (0), (by first | rfl | (simp; done) | (simp [*]; done)), (by first | rfl | (simp; done) | (simp [*]; done)), (by first | rfl | (simp; done) | (simp [*]; done)), H', ⟨Nat.le_refl _⟩, ⟨by (with_reducible repeat (first | apply Kd.R_alloc | apply Kd.R_drewN | apply Kd.R_drew)); exact HO162.out⟩, ⟨by (with_reducible repeat (first | apply Kd.R_alloc | apply Kd.R_drewN | apply Kd.R_drew)); exact HO162.out⟩, ⟨by repeat (first | (with_reducible first | exact HB.out | apply below_alloc | apply pw_below_drewN | apply below_drew1) | exact HB.out)⟩⟩
                  case round =>
                    clear H'
                    try clear c1
                    try clear p2
                    try clear c4
                    try clear c4b0
                    try clear c4b1
                    try clear c5
                    try clear c7
                    try clear c9
                    try clear c10
                    try clear c10b0
                    try clear c10b1
                    try clear c12
                    try clear c13
                    try clear c15
                    try clear p2
                    obtain ⟨x7_3, x8_3, x46_3, rfl, rfl, rfl, HA, HK3, HO_5, HO_44, HB⟩ := hrel
                    cases gk with
                    | zero => exact absurd HA.out (by simp [laws_FnBlanks.l0])
                    | succ k3 =>
                      have H := HA.out
                      clear HA
                      simp only [laws_FnBlanks.l0] at H
                      by_cases c18 : x46_3 < (t159.length : Int)
                      · rw [if_pos c18] at H
                        have c18b0 : decide (x46_3 < (t159.length : Int)) = true := decide_eq_true c18
                        clear c18
                        by_cases c19 : 0 ≤ x46_3
                        · rw [if_pos c19] at H
                          have c19b0 : decide (0 ≤ x46_3) = true := decide_eq_true c19
                          clear c19
                          by_cases c20 : x46_3 < (t159.length : Int)
                          · rw [if_pos c20] at H
                            have c20b0 : decide (x46_3 < (t159.length : Int)) = true := decide_eq_true c20
                            clear c20
                            by_cases c21 : ((rd_T27 t159 x46_3).f2) < x8_3
                            · rw [if_pos c21] at H
                              have c21b0 : decide (((rd_T27 t159 x46_3).f2) < x8_3) = true := decide_eq_true c21
                              clear c21
                              obtain rfl := Option.some.inj H
                              have p163 : 0 ≤ (x46_3 : Int) := of_decide_eq_true (by first | (with_reducible assumption) | assumption)
                              have q163 : x46_3 < (t159.length : Int) := of_decide_eq_true (by first | (with_reducible assumption) | assumption)
                              obtain ⟨ad163, e163, hx163_0, hx163_1, hx163_2, hx163_3, hx163_4, hx163_5⟩ := at_T27 (Kd.R_reads' HO_44.out).2.2 x46_3 p163 q163
                              cases e163
                              replace p163 := eq_true p163
                              replace q163 := eq_true q163
                              go_wp2_with (first | ((with_reducible refine gate_dst (N := 10) rfl ?_); (try (refine gate_guard (by rfl) ?_; dsimp only)); refine box_event ?hg (N := 10) ?hd (cs := #[.int .i64 0, .string (⟨#[]⟩ : ByteArray), .int .i64 0, .int .i64 0, .int .i64 0, .int .i64 0]) (t := 27) ?hr ?_; (case hd => rfl); (case hg => rfl); (case hr => first | (go_simp; done) | (go_simp; rfl)); intro gb164 hg w22 hbox hb; have n0_ := Aside0.mk (Kd.R_below (Kd.R_elderB (by (with_reducible repeat (first | apply Kd.R_alloc | apply Kd.R_drewN | apply Kd.R_drew)); exact HO_5.out) gb164 (Nat.le_of_eq hg.symm)) hb); have n1_ := Aside0.mk (Kd.R_below (Kd.R_elderB (by (with_reducible repeat (first | apply Kd.R_alloc | apply Kd.R_drewN | apply Kd.R_drew)); exact HO_44.out) gb164 (Nat.le_of_eq hg.symm)) hb); have n2_ := Aside0.mk (below_step (by repeat (first | (with_reducible first | exact HB.out | apply below_alloc | apply pw_below_drewN | apply below_drew1) | exact HB.out)) hb); have n3_ := Aside0.mk (hbox); have n4_ := Aside0.mk ((by rw [hg]; exact (below_size (by repeat (first | (with_reducible first | exact HB.out | apply below_alloc | apply pw_below_drewN | apply below_drew1) | exact HB.out))) : w.heap.size ≤ gb164)); have n5_ := Aside0.mk ((by rw [hg]; exact (below_size (by repeat (first | (with_reducible first | exact HB.out | apply below_alloc | apply pw_below_drewN | apply below_drew1) | exact HB.out))) : w.heap.size ≤ gb164)); clear HO_5; clear HO_44; clear HB; have HO_5 := n0_; have HO_44 := n1_; have HB := n2_; have BK164 := n3_; have GW164 := n4_; have GE164 := n5_; clear n0_ n1_ n2_ n3_ n4_ n5_; clear hb hbox hg; have hcz23_0 : w22.cell? ⟨gb164, 0, none⟩ = some (.int .i64 0) := (blk_cell BK164.out 0).trans rfl; have hcz23_1 : w22.cell? ⟨gb164, 1, none⟩ = some (.string (⟨#[]⟩ : ByteArray)) := (blk_cell BK164.out 1).trans rfl; have hcz23_2 : w22.cell? ⟨gb164, 2, none⟩ = some (.int .i64 0) := (blk_cell BK164.out 2).trans rfl; have hcz23_3 : w22.cell? ⟨gb164, 3, none⟩ = some (.int .i64 0) := (blk_cell BK164.out 3).trans rfl; have hcz23_4 : w22.cell? ⟨gb164, 4, none⟩ = some (.int .i64 0) := (blk_cell BK164.out 4).trans rfl; have hcz23_5 : w22.cell? ⟨gb164, 5, none⟩ = some (.int .i64 0) := (blk_cell BK164.out 5).trans rfl; have hfz23_0 := blk_frozen BK164.out 0; have hfz23_1 := blk_frozen BK164.out 1; have hfz23_2 := blk_frozen BK164.out 2; have hfz23_3 := blk_frozen BK164.out 3; have hfz23_4 := blk_frozen BK164.out 4; have hfz23_5 := blk_frozen BK164.out 5))
                              go_ret
                              exact ⟨by first | rfl | (simp [errW_none, errW_some] <;> rfl) | (simp [*, errW_none, errW_some] <;> rfl), by repeat (first | (with_reducible first | exact HB.out | apply below_alloc | apply pw_below_drewN | apply below_drew1 | refine below_set ?_ GE164.out) | exact HB.out)⟩
                            · rw [if_neg c21] at H
                              have c21b0 : decide (((rd_T27 t159 x46_3).f2) < x8_3) = false := decide_eq_false c21
                              clear c21
                              by_cases c24 : ((rd_T27 t159 x46_3).f3) < ((rd_T27 t159 x46_3).f2)
                              · rw [if_pos c24] at H
                                have c24b0 : decide (((rd_T27 t159 x46_3).f3) < ((rd_T27 t159 x46_3).f2)) = true := decide_eq_true c24
                                clear c24
                                obtain rfl := Option.some.inj H
                                have p163 : 0 ≤ (x46_3 : Int) := of_decide_eq_true (by first | (with_reducible assumption) | assumption)
                                have q163 : x46_3 < (t159.length : Int) := of_decide_eq_true (by first | (with_reducible assumption) | assumption)
                                obtain ⟨ad163, e163, hx163_0, hx163_1, hx163_2, hx163_3, hx163_4, hx163_5⟩ := at_T27 (Kd.R_reads' HO_44.out).2.2 x46_3 p163 q163
                                cases e163
                                replace p163 := eq_true p163
                                replace q163 := eq_true q163
                                go_wp2_with (first | ((with_reducible refine gate_dst (N := 10) rfl ?_); (try (refine gate_guard (by rfl) ?_; dsimp only)); refine box_event ?hg (N := 10) ?hd (cs := #[.int .i64 0, .string (⟨#[]⟩ : ByteArray), .int .i64 0, .int .i64 0, .int .i64 0, .int .i64 0]) (t := 27) ?hr ?_; (case hd => rfl); (case hg => rfl); (case hr => first | (go_simp; done) | (go_simp; rfl)); intro gb164 hg w25 hbox hb; have n0_ := Aside0.mk (Kd.R_below (Kd.R_elderB (by (with_reducible repeat (first | apply Kd.R_alloc | apply Kd.R_drewN | apply Kd.R_drew)); exact HO_5.out) gb164 (Nat.le_of_eq hg.symm)) hb); have n1_ := Aside0.mk (Kd.R_below (Kd.R_elderB (by (with_reducible repeat (first | apply Kd.R_alloc | apply Kd.R_drewN | apply Kd.R_drew)); exact HO_44.out) gb164 (Nat.le_of_eq hg.symm)) hb); have n2_ := Aside0.mk (below_step (by repeat (first | (with_reducible first | exact HB.out | apply below_alloc | apply pw_below_drewN | apply below_drew1) | exact HB.out)) hb); have n3_ := Aside0.mk (hbox); have n4_ := Aside0.mk ((by rw [hg]; exact (below_size (by repeat (first | (with_reducible first | exact HB.out | apply below_alloc | apply pw_below_drewN | apply below_drew1) | exact HB.out))) : w.heap.size ≤ gb164)); have n5_ := Aside0.mk ((by rw [hg]; exact (below_size (by repeat (first | (with_reducible first | exact HB.out | apply below_alloc | apply pw_below_drewN | apply below_drew1) | exact HB.out))) : w.heap.size ≤ gb164)); clear HO_5; clear HO_44; clear HB; have HO_5 := n0_; have HO_44 := n1_; have HB := n2_; have BK164 := n3_; have GW164 := n4_; have GE164 := n5_; clear n0_ n1_ n2_ n3_ n4_ n5_; clear hb hbox hg; have hcz26_0 : w25.cell? ⟨gb164, 0, none⟩ = some (.int .i64 0) := (blk_cell BK164.out 0).trans rfl; have hcz26_1 : w25.cell? ⟨gb164, 1, none⟩ = some (.string (⟨#[]⟩ : ByteArray)) := (blk_cell BK164.out 1).trans rfl; have hcz26_2 : w25.cell? ⟨gb164, 2, none⟩ = some (.int .i64 0) := (blk_cell BK164.out 2).trans rfl; have hcz26_3 : w25.cell? ⟨gb164, 3, none⟩ = some (.int .i64 0) := (blk_cell BK164.out 3).trans rfl; have hcz26_4 : w25.cell? ⟨gb164, 4, none⟩ = some (.int .i64 0) := (blk_cell BK164.out 4).trans rfl; have hcz26_5 : w25.cell? ⟨gb164, 5, none⟩ = some (.int .i64 0) := (blk_cell BK164.out 5).trans rfl; have hfz26_0 := blk_frozen BK164.out 0; have hfz26_1 := blk_frozen BK164.out 1; have hfz26_2 := blk_frozen BK164.out 2; have hfz26_3 := blk_frozen BK164.out 3; have hfz26_4 := blk_frozen BK164.out 4; have hfz26_5 := blk_frozen BK164.out 5))
                                go_ret
                                exact ⟨by first | rfl | (simp [errW_none, errW_some] <;> rfl) | (simp [*, errW_none, errW_some] <;> rfl), by repeat (first | (with_reducible first | exact HB.out | apply below_alloc | apply pw_below_drewN | apply below_drew1 | refine below_set ?_ GE164.out) | exact HB.out)⟩
                              · rw [if_neg c24] at H
                                have c24b0 : decide (((rd_T27 t159 x46_3).f3) < ((rd_T27 t159 x46_3).f2)) = false := decide_eq_false c24
                                clear c24
                                by_cases c27 : ((rd_T27 t159 x46_3).f3) > (a0.size : Int)
                                · rw [if_pos c27] at H
                                  have c27b0 : decide ((a0.size : Int) < ((rd_T27 t159 x46_3).f3)) = true := decide_eq_true c27
                                  clear c27
                                  obtain rfl := Option.some.inj H
                                  have p163 : 0 ≤ (x46_3 : Int) := of_decide_eq_true (by first | (with_reducible assumption) | assumption)
                                  have q163 : x46_3 < (t159.length : Int) := of_decide_eq_true (by first | (with_reducible assumption) | assumption)
                                  obtain ⟨ad163, e163, hx163_0, hx163_1, hx163_2, hx163_3, hx163_4, hx163_5⟩ := at_T27 (Kd.R_reads' HO_44.out).2.2 x46_3 p163 q163
                                  cases e163
                                  replace p163 := eq_true p163
                                  replace q163 := eq_true q163
                                  go_wp2_with (first | ((with_reducible refine gate_dst (N := 10) rfl ?_); (try (refine gate_guard (by rfl) ?_; dsimp only)); refine box_event ?hg (N := 10) ?hd (cs := #[.int .i64 0, .string (⟨#[]⟩ : ByteArray), .int .i64 0, .int .i64 0, .int .i64 0, .int .i64 0]) (t := 27) ?hr ?_; (case hd => rfl); (case hg => rfl); (case hr => first | (go_simp; done) | (go_simp; rfl)); intro gb164 hg w28 hbox hb; have n0_ := Aside0.mk (Kd.R_below (Kd.R_elderB (by (with_reducible repeat (first | apply Kd.R_alloc | apply Kd.R_drewN | apply Kd.R_drew)); exact HO_5.out) gb164 (Nat.le_of_eq hg.symm)) hb); have n1_ := Aside0.mk (Kd.R_below (Kd.R_elderB (by (with_reducible repeat (first | apply Kd.R_alloc | apply Kd.R_drewN | apply Kd.R_drew)); exact HO_44.out) gb164 (Nat.le_of_eq hg.symm)) hb); have n2_ := Aside0.mk (below_step (by repeat (first | (with_reducible first | exact HB.out | apply below_alloc | apply pw_below_drewN | apply below_drew1) | exact HB.out)) hb); have n3_ := Aside0.mk (hbox); have n4_ := Aside0.mk ((by rw [hg]; exact (below_size (by repeat (first | (with_reducible first | exact HB.out | apply below_alloc | apply pw_below_drewN | apply below_drew1) | exact HB.out))) : w.heap.size ≤ gb164)); have n5_ := Aside0.mk ((by rw [hg]; exact (below_size (by repeat (first | (with_reducible first | exact HB.out | apply below_alloc | apply pw_below_drewN | apply below_drew1) | exact HB.out))) : w.heap.size ≤ gb164)); clear HO_5; clear HO_44; clear HB; have HO_5 := n0_; have HO_44 := n1_; have HB := n2_; have BK164 := n3_; have GW164 := n4_; have GE164 := n5_; clear n0_ n1_ n2_ n3_ n4_ n5_; clear hb hbox hg; have hcz29_0 : w28.cell? ⟨gb164, 0, none⟩ = some (.int .i64 0) := (blk_cell BK164.out 0).trans rfl; have hcz29_1 : w28.cell? ⟨gb164, 1, none⟩ = some (.string (⟨#[]⟩ : ByteArray)) := (blk_cell BK164.out 1).trans rfl; have hcz29_2 : w28.cell? ⟨gb164, 2, none⟩ = some (.int .i64 0) := (blk_cell BK164.out 2).trans rfl; have hcz29_3 : w28.cell? ⟨gb164, 3, none⟩ = some (.int .i64 0) := (blk_cell BK164.out 3).trans rfl; have hcz29_4 : w28.cell? ⟨gb164, 4, none⟩ = some (.int .i64 0) := (blk_cell BK164.out 4).trans rfl; have hcz29_5 : w28.cell? ⟨gb164, 5, none⟩ = some (.int .i64 0) := (blk_cell BK164.out 5).trans rfl; have hfz29_0 := blk_frozen BK164.out 0; have hfz29_1 := blk_frozen BK164.out 1; have hfz29_2 := blk_frozen BK164.out 2; have hfz29_3 := blk_frozen BK164.out 3; have hfz29_4 := blk_frozen BK164.out 4; have hfz29_5 := blk_frozen BK164.out 5))
                                  go_ret
                                  exact ⟨by first | rfl | (simp [errW_none, errW_some] <;> rfl) | (simp [*, errW_none, errW_some] <;> rfl), by repeat (first | (with_reducible first | exact HB.out | apply below_alloc | apply pw_below_drewN | apply below_drew1 | refine below_set ?_ GE164.out) | exact HB.out)⟩
                                · rw [if_neg c27] at H
                                  have c27b0 : decide ((a0.size : Int) < ((rd_T27 t159 x46_3).f3)) = false := decide_eq_false c27
                                  clear c27
                                  by_cases c30 : 0 ≤ x8_3
                                  · rw [if_pos c30] at H
                                    have c30b0 := eq_true c30
                                    have c30b1 : decide (0 ≤ x8_3) = true := decide_eq_true c30
                                    clear c30
                                    by_cases c31 : x8_3 ≤ ((rd_T27 t159 x46_3).f2)
                                    · rw [if_pos c31] at H
                                      have c31b0 := eq_true c31
                                      have c31b1 : decide (x8_3 ≤ ((rd_T27 t159 x46_3).f2)) = true := decide_eq_true c31
                                      clear c31
                                      by_cases c32 : ((rd_T27 t159 x46_3).f2) ≤ (a0.size : Int)
                                      · rw [if_pos c32] at H
                                        have c32b0 := eq_true c32
                                        have c32b1 : decide (((rd_T27 t159 x46_3).f2) ≤ (a0.size : Int)) = true := decide_eq_true c32
                                        clear c32
                                        by_cases c33 : (l1.length : Int) = 0
                                        · rw [if_pos c33] at H
                                          exact absurd H (by simp)
                                        · rw [if_neg c33] at H
                                          have c33b0 : ((l1.length : Int) == 0) = false := beq_eq_false_iff_ne.mpr c33
                                          have c33b1 : ((l1.length : Int) != 0) = true := bne_iff_ne.mpr c33
                                          have c33b2 : ¬ (l1 = []) := fun h_ => c33 (by rw [h_]; rfl)
                                          obtain ⟨ji34, hji34⟩ : ∃ j_ : Int, (Int.tmod x46_3 (l1.length : Int)) = j_ := ⟨_, rfl⟩
                                          replace H : (if 0 ≤ (ji34) then (if (ji34) < (l1.length : Int) then ((laws_gap.f (rd l1 (ji34))).bind fun t166 => (if (a0.extract (x8_3 : Int).toNat (((rd_T27 t159 x46_3).f2) : Int).toNat).size + t166.size ≤ 9223372036854775807 then (if 0 ≤ ((rd_T27 t159 x46_3).f2) then (if ((rd_T27 t159 x46_3).f2) ≤ ((rd_T27 t159 x46_3).f3) then (if ((rd_T27 t159 x46_3).f3) ≤ (a0.size : Int) then (if ((a0.extract (x8_3 : Int).toNat (((rd_T27 t159 x46_3).f2) : Int).toNat) ++ t166).size + (a0.extract (((rd_T27 t159 x46_3).f2) : Int).toNat (((rd_T27 t159 x46_3).f3) : Int).toNat).size ≤ 9223372036854775807 then (if x7_3.size + (((a0.extract (x8_3 : Int).toNat (((rd_T27 t159 x46_3).f2) : Int).toNat) ++ t166) ++ (a0.extract (((rd_T27 t159 x46_3).f2) : Int).toNat (((rd_T27 t159 x46_3).f3) : Int).toNat)).size ≤ 9223372036854775807 then (laws_FnBlanks.l0 k3 a0 l1 t159 (x7_3 ++ (((a0.extract (x8_3 : Int).toNat (((rd_T27 t159 x46_3).f2) : Int).toNat) ++ t166) ++ (a0.extract (((rd_T27 t159 x46_3).f2) : Int).toNat (((rd_T27 t159 x46_3).f3) : Int).toNat))) ((rd_T27 t159 x46_3).f3) t159 (t159.length : Int) (wrap64 (x46_3 + 1))) else (none)) else (none)) else (none)) else (none)) else (none)) else (none))) else (none)) else (none)) = some r := by first | (rw [hji34] at H; exact H) | (simp only [hji34] at H ⊢; exact H)
                                          by_cases c35 : 0 ≤ (ji34)
                                          · rw [if_pos c35] at H
                                            have c35b0 : decide (0 ≤ (ji34)) = true := decide_eq_true c35
                                            clear c35
                                            by_cases c36 : (ji34) < (l1.length : Int)
                                            · rw [if_pos c36] at H
                                              have c36b0 : decide ((ji34) < (l1.length : Int)) = true := decide_eq_true c36
                                              clear c36
                                              replace H := Option.bind_eq_some_iff.mp H
                                              obtain ⟨t166, A370, H⟩ := H
                                              replace H : (if (a0.extract (x8_3 : Int).toNat (((rd_T27 t159 x46_3).f2) : Int).toNat).size + t166.size ≤ 9223372036854775807 then (if 0 ≤ ((rd_T27 t159 x46_3).f2) then (if ((rd_T27 t159 x46_3).f2) ≤ ((rd_T27 t159 x46_3).f3) then (if ((rd_T27 t159 x46_3).f3) ≤ (a0.size : Int) then (if ((a0.extract (x8_3 : Int).toNat (((rd_T27 t159 x46_3).f2) : Int).toNat) ++ t166).size + (a0.extract (((rd_T27 t159 x46_3).f2) : Int).toNat (((rd_T27 t159 x46_3).f3) : Int).toNat).size ≤ 9223372036854775807 then (if x7_3.size + (((a0.extract (x8_3 : Int).toNat (((rd_T27 t159 x46_3).f2) : Int).toNat) ++ t166) ++ (a0.extract (((rd_T27 t159 x46_3).f2) : Int).toNat (((rd_T27 t159 x46_3).f3) : Int).toNat)).size ≤ 9223372036854775807 then (laws_FnBlanks.l0 k3 a0 l1 t159 (x7_3 ++ (((a0.extract (x8_3 : Int).toNat (((rd_T27 t159 x46_3).f2) : Int).toNat) ++ t166) ++ (a0.extract (((rd_T27 t159 x46_3).f2) : Int).toNat (((rd_T27 t159 x46_3).f3) : Int).toNat))) ((rd_T27 t159 x46_3).f3) t159 (t159.length : Int) (wrap64 (x46_3 + 1))) else (none)) else (none)) else (none)) else (none)) else (none)) else (none)) = some r := H
                                              have A37 := Aside0.mk A370
                                              clear A370
                                              by_cases c38 : (a0.extract (x8_3 : Int).toNat (((rd_T27 t159 x46_3).f2) : Int).toNat).size + t166.size ≤ 9223372036854775807
                                              · rw [if_pos c38] at H
                                                have c38b0 := eq_true c38
                                                have c38b1 : decide ((a0.extract (x8_3 : Int).toNat (((rd_T27 t159 x46_3).f2) : Int).toNat).size + t166.size ≤ 9223372036854775807) = true := decide_eq_true c38
                                                try have c38b2 : (9223372036854775807 < (a0.extract (x8_3 : Int).toNat (((rd_T27 t159 x46_3).f2) : Int).toNat).size + t166.size) = False := eq_false (Nat.not_lt.2 c38)
                                                try have c38b5 : (9223372036854775807 < (((rd_T27 t159 x46_3).f2) : Int).toNat - (x8_3 : Int).toNat + t166.size) = False := eq_false (by have i0_ : ((rd_T27 t159 x46_3).f2) ≤ (a0.size : Int) := (by first | assumption | exact of_eq_true (by assumption)); have h_ := c38; simp only [ByteArray.size_append, ByteArray.size_extract] at h_; omega)
                                                by_cases c39 : 0 ≤ ((rd_T27 t159 x46_3).f2)
                                                · rw [if_pos c39] at H
                                                  have c39b0 := eq_true c39
                                                  have c39b1 : decide (0 ≤ ((rd_T27 t159 x46_3).f2)) = true := decide_eq_true c39
                                                  clear c39
                                                  by_cases c40 : ((rd_T27 t159 x46_3).f2) ≤ ((rd_T27 t159 x46_3).f3)
                                                  · rw [if_pos c40] at H
                                                    have c40b0 := eq_true c40
                                                    have c40b1 : decide (((rd_T27 t159 x46_3).f2) ≤ ((rd_T27 t159 x46_3).f3)) = true := decide_eq_true c40
                                                    clear c40
                                                    by_cases c41 : ((rd_T27 t159 x46_3).f3) ≤ (a0.size : Int)
                                                    · rw [if_pos c41] at H
                                                      have c41b0 := eq_true c41
                                                      have c41b1 : decide (((rd_T27 t159 x46_3).f3) ≤ (a0.size : Int)) = true := decide_eq_true c41
                                                      clear c41
                                                      by_cases c42 : ((a0.extract (x8_3 : Int).toNat (((rd_T27 t159 x46_3).f2) : Int).toNat) ++ t166).size + (a0.extract (((rd_T27 t159 x46_3).f2) : Int).toNat (((rd_T27 t159 x46_3).f3) : Int).toNat).size ≤ 9223372036854775807
                                                      · rw [if_pos c42] at H
                                                        have c42b0 := eq_true c42
                                                        have c42b1 : decide (((a0.extract (x8_3 : Int).toNat (((rd_T27 t159 x46_3).f2) : Int).toNat) ++ t166).size + (a0.extract (((rd_T27 t159 x46_3).f2) : Int).toNat (((rd_T27 t159 x46_3).f3) : Int).toNat).size ≤ 9223372036854775807) = true := decide_eq_true c42
                                                        try have c42b2 : (9223372036854775807 < ((a0.extract (x8_3 : Int).toNat (((rd_T27 t159 x46_3).f2) : Int).toNat) ++ t166).size + (a0.extract (((rd_T27 t159 x46_3).f2) : Int).toNat (((rd_T27 t159 x46_3).f3) : Int).toNat).size) = False := eq_false (Nat.not_lt.2 c42)
                                                        try have c42b5 : (9223372036854775807 < (((rd_T27 t159 x46_3).f2) : Int).toNat - (x8_3 : Int).toNat + t166.size + ((((rd_T27 t159 x46_3).f3) : Int).toNat - (((rd_T27 t159 x46_3).f2) : Int).toNat)) = False := eq_false (by have i0_ : ((rd_T27 t159 x46_3).f2) ≤ (a0.size : Int) := (by first | assumption | exact of_eq_true (by assumption)); have i1_ : ((rd_T27 t159 x46_3).f3) ≤ (a0.size : Int) := (by first | assumption | exact of_eq_true (by assumption)); have h_ := c42; simp only [ByteArray.size_append, ByteArray.size_extract] at h_; omega)
                                                        try have c42b3 := c42b2
                                                        try simp only [ByteArray.size_append] at c42b3
                                                        by_cases c43 : x7_3.size + (((a0.extract (x8_3 : Int).toNat (((rd_T27 t159 x46_3).f2) : Int).toNat) ++ t166) ++ (a0.extract (((rd_T27 t159 x46_3).f2) : Int).toNat (((rd_T27 t159 x46_3).f3) : Int).toNat)).size ≤ 9223372036854775807
                                                        · rw [if_pos c43] at H
                                                          have c43b0 := eq_true c43
                                                          have c43b1 : decide (x7_3.size + (((a0.extract (x8_3 : Int).toNat (((rd_T27 t159 x46_3).f2) : Int).toNat) ++ t166) ++ (a0.extract (((rd_T27 t159 x46_3).f2) : Int).toNat (((rd_T27 t159 x46_3).f3) : Int).toNat)).size ≤ 9223372036854775807) = true := decide_eq_true c43
                                                          try have c43b2 : (9223372036854775807 < x7_3.size + (((a0.extract (x8_3 : Int).toNat (((rd_T27 t159 x46_3).f2) : Int).toNat) ++ t166) ++ (a0.extract (((rd_T27 t159 x46_3).f2) : Int).toNat (((rd_T27 t159 x46_3).f3) : Int).toNat)).size) = False := eq_false (Nat.not_lt.2 c43)
                                                          try have c43b5 : (9223372036854775807 < x7_3.size + ((((rd_T27 t159 x46_3).f2) : Int).toNat - (x8_3 : Int).toNat + t166.size + ((((rd_T27 t159 x46_3).f3) : Int).toNat - (((rd_T27 t159 x46_3).f2) : Int).toNat))) = False := eq_false (by have i0_ : ((rd_T27 t159 x46_3).f2) ≤ (a0.size : Int) := (by first | assumption | exact of_eq_true (by assumption)); have i1_ : ((rd_T27 t159 x46_3).f3) ≤ (a0.size : Int) := (by first | assumption | exact of_eq_true (by assumption)); have h_ := c43; simp only [ByteArray.size_append, ByteArray.size_extract] at h_; omega)
                                                          try have c43b3 := c43b2
                                                          try simp only [ByteArray.size_append] at c43b3
                                                          have H' := Aside0.mk H
                                                          clear H
                                                          have p163 : 0 ≤ (x46_3 : Int) := of_decide_eq_true (by first | (with_reducible assumption) | assumption)
                                                          have q163 : x46_3 < (t159.length : Int) := of_decide_eq_true (by first | (with_reducible assumption) | assumption)
                                                          obtain ⟨ad163, e163, hx163_0, hx163_1, hx163_2, hx163_3, hx163_4, hx163_5⟩ := at_T27 (Kd.R_reads' HO_44.out).2.2 x46_3 p163 q163
                                                          cases e163
                                                          replace p163 := eq_true p163
                                                          replace q163 := eq_true q163
                                                          try go_wp2_with (first | ((with_reducible refine gate_dst (N := 10) rfl ?_); (try (refine gate_guard (by rfl) ?_; dsimp only)); refine box_event ?hg (N := 10) ?hd (cs := #[.int .i64 0, .string (⟨#[]⟩ : ByteArray), .int .i64 0, .int .i64 0, .int .i64 0, .int .i64 0]) (t := 27) ?hr ?_; (case hd => rfl); (case hg => rfl); (case hr => first | (go_simp; done) | (go_simp; rfl)); intro gb164 hg w44 hbox hb; have n0_ := Aside0.mk (Kd.R_below (Kd.R_elderB (by (with_reducible repeat (first | apply Kd.R_alloc | apply Kd.R_drewN | apply Kd.R_drew)); exact HO_5.out) gb164 (Nat.le_of_eq hg.symm)) hb); have n1_ := Aside0.mk (Kd.R_below (Kd.R_elderB (by (with_reducible repeat (first | apply Kd.R_alloc | apply Kd.R_drewN | apply Kd.R_drew)); exact HO_44.out) gb164 (Nat.le_of_eq hg.symm)) hb); have n2_ := Aside0.mk (below_step (by repeat (first | (with_reducible first | exact HB.out | apply below_alloc | apply pw_below_drewN | apply below_drew1) | exact HB.out)) hb); have n3_ := Aside0.mk (hbox); have n4_ := Aside0.mk ((by rw [hg]; exact (below_size (by repeat (first | (with_reducible first | exact HB.out | apply below_alloc | apply pw_below_drewN | apply below_drew1) | exact HB.out))) : w.heap.size ≤ gb164)); have n5_ := Aside0.mk ((by rw [hg]; exact (below_size (by repeat (first | (with_reducible first | exact HB.out | apply below_alloc | apply pw_below_drewN | apply below_drew1) | exact HB.out))) : w.heap.size ≤ gb164)); clear HO_5; clear HO_44; clear HB; have HO_5 := n0_; have HO_44 := n1_; have HB := n2_; have BK164 := n3_; have GW164 := n4_; have GE164 := n5_; clear n0_ n1_ n2_ n3_ n4_ n5_; clear hb hbox hg; have hcz45_0 : w44.cell? ⟨gb164, 0, none⟩ = some (.int .i64 0) := (blk_cell BK164.out 0).trans rfl; have hcz45_1 : w44.cell? ⟨gb164, 1, none⟩ = some (.string (⟨#[]⟩ : ByteArray)) := (blk_cell BK164.out 1).trans rfl; have hcz45_2 : w44.cell? ⟨gb164, 2, none⟩ = some (.int .i64 0) := (blk_cell BK164.out 2).trans rfl; have hcz45_3 : w44.cell? ⟨gb164, 3, none⟩ = some (.int .i64 0) := (blk_cell BK164.out 3).trans rfl; have hcz45_4 : w44.cell? ⟨gb164, 4, none⟩ = some (.int .i64 0) := (blk_cell BK164.out 4).trans rfl; have hcz45_5 : w44.cell? ⟨gb164, 5, none⟩ = some (.int .i64 0) := (blk_cell BK164.out 5).trans rfl; have hfz45_0 := blk_frozen BK164.out 0; have hfz45_1 := blk_frozen BK164.out 1; have hfz45_2 := blk_frozen BK164.out 2; have hfz45_3 := blk_frozen BK164.out 3; have hfz45_4 := blk_frozen BK164.out 4; have hfz45_5 := blk_frozen BK164.out 5))
                                                          have n0_ : Aside0 (Kd.R k27 27 ((((((w44.setCell ⟨gb164, 0, none⟩ (.int .i64 ((rd_T27 t159 x46_3).f0))).setCell ⟨gb164, 1, none⟩ (.string ((rd_T27 t159 x46_3).f1))).setCell ⟨gb164, 2, none⟩ (.int .i64 ((rd_T27 t159 x46_3).f2))).setCell ⟨gb164, 3, none⟩ (.int .i64 ((rd_T27 t159 x46_3).f3))).setCell ⟨gb164, 4, none⟩ (.int .i64 ((rd_T27 t159 x46_3).f4))).setCell ⟨gb164, 5, none⟩ (.int .i64 ((rd_T27 t159 x46_3).f5))) w.heap.size (fun k_ => k_ ≠ gb164) (.slice (some ad163) t159.length co17) t159) := ⟨by (with_reducible repeat (first | apply Kd.R_alloc | apply Kd.R_drewN | apply Kd.R_drew)); exact Kd.R_mono (Kd.R_far (p := ⟨gb164, 5, none⟩) (Kd.R_far (p := ⟨gb164, 4, none⟩) (Kd.R_far (p := ⟨gb164, 3, none⟩) (Kd.R_far (p := ⟨gb164, 2, none⟩) (Kd.R_far (p := ⟨gb164, 1, none⟩) (Kd.R_far (p := ⟨gb164, 0, none⟩) (Kd.R_mono HO_5.out (fun k_ hk => (⟨hk, hk.2⟩ : _ ∧ k_ ≠ gb164))) (fun _ hk => hk.2) (.int .i64 ((rd_T27 t159 x46_3).f0))) (fun _ hk => hk.2) (.string ((rd_T27 t159 x46_3).f1))) (fun _ hk => hk.2) (.int .i64 ((rd_T27 t159 x46_3).f2))) (fun _ hk => hk.2) (.int .i64 ((rd_T27 t159 x46_3).f3))) (fun _ hk => hk.2) (.int .i64 ((rd_T27 t159 x46_3).f4))) (fun _ hk => hk.2) (.int .i64 ((rd_T27 t159 x46_3).f5))) (fun _ hk => hk.1.2)⟩
                                                          have n1_ : Aside0 (Kd.R k27 27 ((((((w44.setCell ⟨gb164, 0, none⟩ (.int .i64 ((rd_T27 t159 x46_3).f0))).setCell ⟨gb164, 1, none⟩ (.string ((rd_T27 t159 x46_3).f1))).setCell ⟨gb164, 2, none⟩ (.int .i64 ((rd_T27 t159 x46_3).f2))).setCell ⟨gb164, 3, none⟩ (.int .i64 ((rd_T27 t159 x46_3).f3))).setCell ⟨gb164, 4, none⟩ (.int .i64 ((rd_T27 t159 x46_3).f4))).setCell ⟨gb164, 5, none⟩ (.int .i64 ((rd_T27 t159 x46_3).f5))) w.heap.size (fun k_ => k_ ≠ gb164) (.slice (some ad163) t159.length co17) t159) := ⟨by (with_reducible repeat (first | apply Kd.R_alloc | apply Kd.R_drewN | apply Kd.R_drew)); exact Kd.R_mono (Kd.R_far (p := ⟨gb164, 5, none⟩) (Kd.R_far (p := ⟨gb164, 4, none⟩) (Kd.R_far (p := ⟨gb164, 3, none⟩) (Kd.R_far (p := ⟨gb164, 2, none⟩) (Kd.R_far (p := ⟨gb164, 1, none⟩) (Kd.R_far (p := ⟨gb164, 0, none⟩) (Kd.R_mono HO_44.out (fun k_ hk => (⟨hk, hk.2⟩ : _ ∧ k_ ≠ gb164))) (fun _ hk => hk.2) (.int .i64 ((rd_T27 t159 x46_3).f0))) (fun _ hk => hk.2) (.string ((rd_T27 t159 x46_3).f1))) (fun _ hk => hk.2) (.int .i64 ((rd_T27 t159 x46_3).f2))) (fun _ hk => hk.2) (.int .i64 ((rd_T27 t159 x46_3).f3))) (fun _ hk => hk.2) (.int .i64 ((rd_T27 t159 x46_3).f4))) (fun _ hk => hk.2) (.int .i64 ((rd_T27 t159 x46_3).f5))) (fun _ hk => hk.1.2)⟩
                                                          have n2_ : Aside0 (((((((w44.setCell ⟨gb164, 0, none⟩ (.int .i64 ((rd_T27 t159 x46_3).f0))).setCell ⟨gb164, 1, none⟩ (.string ((rd_T27 t159 x46_3).f1))).setCell ⟨gb164, 2, none⟩ (.int .i64 ((rd_T27 t159 x46_3).f2))).setCell ⟨gb164, 3, none⟩ (.int .i64 ((rd_T27 t159 x46_3).f3))).setCell ⟨gb164, 4, none⟩ (.int .i64 ((rd_T27 t159 x46_3).f4))).setCell ⟨gb164, 5, none⟩ (.int .i64 ((rd_T27 t159 x46_3).f5))).heap[gb164]? = some (.cells #[.int .i64 ((rd_T27 t159 x46_3).f0), .string ((rd_T27 t159 x46_3).f1), .int .i64 ((rd_T27 t159 x46_3).f2), .int .i64 ((rd_T27 t159 x46_3).f3), .int .i64 ((rd_T27 t159 x46_3).f4), .int .i64 ((rd_T27 t159 x46_3).f5)] 27 (0, 0))) := ⟨by (with_reducible repeat (first | refine blk_drewN ?_ _ | refine blk_drew ?_ | refine blk_alloc ?_ _)); refine blk_put (cs := #[.int .i64 ((rd_T27 t159 x46_3).f0), .string ((rd_T27 t159 x46_3).f1), .int .i64 ((rd_T27 t159 x46_3).f2), .int .i64 ((rd_T27 t159 x46_3).f3), .int .i64 ((rd_T27 t159 x46_3).f4), .int .i64 0]) ?_ 5 _ rfl; (with_reducible repeat (first | refine blk_drewN ?_ _ | refine blk_drew ?_ | refine blk_alloc ?_ _)); refine blk_put (cs := #[.int .i64 ((rd_T27 t159 x46_3).f0), .string ((rd_T27 t159 x46_3).f1), .int .i64 ((rd_T27 t159 x46_3).f2), .int .i64 ((rd_T27 t159 x46_3).f3), .int .i64 0, .int .i64 0]) ?_ 4 _ rfl; (with_reducible repeat (first | refine blk_drewN ?_ _ | refine blk_drew ?_ | refine blk_alloc ?_ _)); refine blk_put (cs := #[.int .i64 ((rd_T27 t159 x46_3).f0), .string ((rd_T27 t159 x46_3).f1), .int .i64 ((rd_T27 t159 x46_3).f2), .int .i64 0, .int .i64 0, .int .i64 0]) ?_ 3 _ rfl; (with_reducible repeat (first | refine blk_drewN ?_ _ | refine blk_drew ?_ | refine blk_alloc ?_ _)); refine blk_put (cs := #[.int .i64 ((rd_T27 t159 x46_3).f0), .string ((rd_T27 t159 x46_3).f1), .int .i64 0, .int .i64 0, .int .i64 0, .int .i64 0]) ?_ 2 _ rfl; (with_reducible repeat (first | refine blk_drewN ?_ _ | refine blk_drew ?_ | refine blk_alloc ?_ _)); refine blk_put (cs := #[.int .i64 ((rd_T27 t159 x46_3).f0), .string (⟨#[]⟩ : ByteArray), .int .i64 0, .int .i64 0, .int .i64 0, .int .i64 0]) ?_ 1 _ rfl; (with_reducible repeat (first | refine blk_drewN ?_ _ | refine blk_drew ?_ | refine blk_alloc ?_ _)); refine blk_put (cs := #[.int .i64 0, .string (⟨#[]⟩ : ByteArray), .int .i64 0, .int .i64 0, .int .i64 0, .int .i64 0]) ?_ 0 _ rfl; (with_reducible repeat (first | refine blk_drewN ?_ _ | refine blk_drew ?_ | refine blk_alloc ?_ _)); exact BK164.out⟩
                                                          have n3_ : Aside0 (Below w.heap.size w ((((((w44.setCell ⟨gb164, 0, none⟩ (.int .i64 ((rd_T27 t159 x46_3).f0))).setCell ⟨gb164, 1, none⟩ (.string ((rd_T27 t159 x46_3).f1))).setCell ⟨gb164, 2, none⟩ (.int .i64 ((rd_T27 t159 x46_3).f2))).setCell ⟨gb164, 3, none⟩ (.int .i64 ((rd_T27 t159 x46_3).f3))).setCell ⟨gb164, 4, none⟩ (.int .i64 ((rd_T27 t159 x46_3).f4))).setCell ⟨gb164, 5, none⟩ (.int .i64 ((rd_T27 t159 x46_3).f5)))) := ⟨by repeat (first | (with_reducible first | exact HB.out | apply below_alloc | apply pw_below_drewN | apply below_drew1 | refine below_set ?_ GE164.out) | exact HB.out)⟩
                                                          (try clear HO_5)
                                                          (try clear HO_44)
                                                          (try clear BK164)
                                                          (try clear HB)
                                                          generalize ((((((w44.setCell ⟨gb164, 0, none⟩ (.int .i64 ((rd_T27 t159 x46_3).f0))).setCell ⟨gb164, 1, none⟩ (.string ((rd_T27 t159 x46_3).f1))).setCell ⟨gb164, 2, none⟩ (.int .i64 ((rd_T27 t159 x46_3).f2))).setCell ⟨gb164, 3, none⟩ (.int .i64 ((rd_T27 t159 x46_3).f3))).setCell ⟨gb164, 4, none⟩ (.int .i64 ((rd_T27 t159 x46_3).f4))).setCell ⟨gb164, 5, none⟩ (.int .i64 ((rd_T27 t159 x46_3).f5))) = w46 at n0_ n1_ n2_ n3_ ⊢
                                                          have HO_5 := n0_
                                                          have HO_44 := n1_
                                                          have BK164 := n2_
                                                          have HB := n3_
                                                          clear n0_ n1_ n2_ n3_
                                                          have n0_ := Aside0.mk (Kd.R_drew HO_5.out)
                                                          have n1_ := Aside0.mk (Kd.R_drew HO_44.out)
                                                          have n2_ := Aside0.mk (blk_drew BK164.out)
                                                          have n3_ := Aside0.mk (below_drew1 HB.out)
                                                          clear HO_5
                                                          clear HO_44
                                                          clear BK164
                                                          clear HB
                                                          have HO_5 := n0_
                                                          have HO_44 := n1_
                                                          have BK164 := n2_
                                                          have HB := n3_
                                                          clear n0_ n1_ n2_ n3_
                                                          have p165 : 0 ≤ ((ji34) : Int) := of_decide_eq_true (by first | (with_reducible assumption) | assumption)
                                                          have q165 : (ji34) < (l1.length : Int) := of_decide_eq_true (by first | (with_reducible assumption) | assumption)
                                                          obtain ⟨ad165, e165, hx165_0⟩ := Kd.at_int HR1.out (ji34) p165 q165
                                                          have hw165_0 := hx165_0
                                                          cases e165
                                                          replace hx165_0 := (HB.out.cell (World.block_lt_of_cell? w _ hx165_0)).trans hx165_0
                                                          replace p165 := eq_true p165
                                                          replace q165 := eq_true q165
                                                          refine start_ (n := 24) (S := fun w' => w'.cell? ⟨gb164, 0, none⟩ = some (.int .i64 ((rd_T27 t159 x46_3).f0)) ∧ w'.cell? ⟨gb164, 1, none⟩ = some (.string ((rd_T27 t159 x46_3).f1)) ∧ w'.cell? ⟨gb164, 2, none⟩ = some (.int .i64 ((rd_T27 t159 x46_3).f2)) ∧ w'.cell? ⟨gb164, 3, none⟩ = some (.int .i64 ((rd_T27 t159 x46_3).f3)) ∧ w'.cell? ⟨gb164, 4, none⟩ = some (.int .i64 ((rd_T27 t159 x46_3).f4)) ∧ w'.cell? ⟨gb164, 5, none⟩ = some (.int .i64 ((rd_T27 t159 x46_3).f5)) ∧ w'.cell? (ad165.add ((ji34)).toNat) = some (.int .u8 (rd l1 (ji34)))) (ds := []) #[false, false, false, false, false, false, false, false, false, false, false, false, false, false, false, false, false, false, false, false, false, false, false, false] (by kernel_rfl) rfl rfl ⟨(blk_cell BK164.out 0).trans rfl, (blk_cell BK164.out 1).trans rfl, (blk_cell BK164.out 2).trans rfl, (blk_cell BK164.out 3).trans rfl, (blk_cell BK164.out 4).trans rfl, (blk_cell BK164.out 5).trans rfl, ((HB.out.cell (World.block_lt_of_cell? w _ hw165_0)).trans hw165_0)⟩ (fun hHeld => ?_); refine with_tabW laws_FnBlanks.tab16 laws_FnBlanks.bits16 (fun HT_ HW_ => ?_)
                                                          generalize w46.drew = w47 at HO_5 HO_44 BK164 HB hx165_0 hHeld ⊢
                                                          refine pure_ (i := 0) (N := some 69) (v := ?_) (a' := ?_) #[true, false, false, false, false, false, false, false, false, false, false, false, false, false, false, false, false, false, false, false, false, false, false, false] rfl rfl (any_of HT_.out (by kernel_rfl)) (fun _ _ _ h => h) (Or.inl ⟨by rfl, ?_⟩) ?_ ?_
                                                          rotate_left
                                                          · intro w'
                                                            go_simp
                                                            with_reducible rfl
                                                          rotate_left
                                                          · simp only [Act.put, List.setIfInBounds_toArray, List.set_cons_zero, List.set_cons_succ, i64_w, i32_w]
                                                            rfl
                                                          refine pure_ (i := 1) (N := some 70) (v := ?_) (a' := ?_) #[true, true, false, false, false, false, false, false, false, false, false, false, false, false, false, false, false, false, false, false, false, false, false, false] rfl rfl (any_of HT_.out (by kernel_rfl)) (fun _ _ _ h => h) (Or.inl ⟨by rfl, ?_⟩) ?_ ?_
                                                          rotate_left
                                                          · intro w'
                                                            go_simp
                                                            with_reducible rfl
                                                          rotate_left
                                                          · simp only [Act.put, List.setIfInBounds_toArray, List.set_cons_zero, List.set_cons_succ, i64_w, i32_w]
                                                            rfl
                                                          refine pure_ (i := 2) (N := some 71) (v := ?_) (a' := ?_) #[true, true, true, false, false, false, false, false, false, false, false, false, false, false, false, false, false, false, false, false, false, false, false, false] rfl rfl (any_of HT_.out (by kernel_rfl)) (fun _ _ _ h => h) (Or.inl ⟨by rfl, ?_⟩) ?_ ?_
                                                          rotate_left
                                                          · intro w'
                                                            go_simp
                                                            with_reducible rfl
                                                          rotate_left
                                                          · simp only [Act.put, List.setIfInBounds_toArray, List.set_cons_zero, List.set_cons_succ, i64_w, i32_w]
                                                            rfl
                                                          refine pure_ (i := 3) (N := some 72) (v := ?_) (a' := ?_) #[true, true, true, true, false, false, false, false, false, false, false, false, false, false, false, false, false, false, false, false, false, false, false, false] rfl rfl (any_of HT_.out (by kernel_rfl)) (fun _ _ _ h => h) (Or.inl ⟨by rfl, ?_⟩) ?_ ?_
                                                          rotate_left
                                                          · intro w'
                                                            go_simp
                                                            with_reducible rfl
                                                          rotate_left
                                                          · simp only [Act.put, List.setIfInBounds_toArray, List.set_cons_zero, List.set_cons_succ, i64_w, i32_w]
                                                            rfl
                                                          refine pure_ (i := 6) (N := some 75) (v := ?_) (a' := ?_) #[true, true, true, true, false, false, true, false, false, false, false, false, false, false, false, false, false, false, false, false, false, false, false, false] rfl rfl (any_of HT_.out (by kernel_rfl)) (fun _ _ _ h => h) (Or.inl ⟨by rfl, ?_⟩) ?_ ?_
                                                          rotate_left
                                                          · intro w'
                                                            go_simp
                                                            with_reducible rfl
                                                          rotate_left
                                                          · simp only [Act.put, List.setIfInBounds_toArray, List.set_cons_zero, List.set_cons_succ, i64_w, i32_w]
                                                            rfl
                                                          refine pure_ (i := 7) (N := some 76) (v := ?_) (a' := ?_) #[true, true, true, true, false, false, true, true, false, false, false, false, false, false, false, false, false, false, false, false, false, false, false, false] rfl rfl (any_of HT_.out (by kernel_rfl)) (fun _ _ _ h => h) (Or.inl ⟨by rfl, ?_⟩) ?_ ?_
                                                          rotate_left
                                                          · intro w'
                                                            go_simp
                                                            with_reducible rfl
                                                          rotate_left
                                                          · simp only [Act.put, List.setIfInBounds_toArray, List.set_cons_zero, List.set_cons_succ, i64_w, i32_w]
                                                            rfl
                                                          refine pure_ (i := 8) (N := some 77) (v := ?_) (a' := ?_) #[true, true, true, true, false, false, true, true, true, false, false, false, false, false, false, false, false, false, false, false, false, false, false, false] rfl rfl (any_of HT_.out (by kernel_rfl)) (fun _ _ _ h => h) (Or.inl ⟨by rfl, ?_⟩) ?_ ?_
                                                          rotate_left
                                                          · intro w'
                                                            go_simp
                                                            with_reducible rfl
                                                          rotate_left
                                                          · simp only [Act.put, List.setIfInBounds_toArray, List.set_cons_zero, List.set_cons_succ, i64_w, i32_w]
                                                            rfl
                                                          refine pure_ (i := 9) (N := some 78) (v := ?_) (a' := ?_) #[true, true, true, true, false, false, true, true, true, true, false, false, false, false, false, false, false, false, false, false, false, false, false, false] rfl rfl (any_of HT_.out (by kernel_rfl)) (fun _ _ _ h => h) (Or.inl ⟨by rfl, ?_⟩) ?_ ?_
                                                          rotate_left
                                                          · intro w'
                                                            go_simp
                                                            with_reducible rfl
                                                          rotate_left
                                                          · simp only [Act.put, List.setIfInBounds_toArray, List.set_cons_zero, List.set_cons_succ, i64_w, i32_w]
                                                            rfl
                                                          refine pure_ (i := 10) (N := some 79) (v := ?_) (a' := ?_) #[true, true, true, true, false, false, true, true, true, true, true, false, false, false, false, false, false, false, false, false, false, false, false, false] rfl rfl (any_of HT_.out (by kernel_rfl)) (fun _ _ _ h => h) (Or.inl ⟨by rfl, ?_⟩) ?_ ?_
                                                          rotate_left
                                                          · intro w'
                                                            go_simp
                                                            with_reducible rfl
                                                          rotate_left
                                                          · simp only [Act.put, List.setIfInBounds_toArray, List.set_cons_zero, List.set_cons_succ, i64_w, i32_w]
                                                            rfl
                                                          refine pure_ (i := 11) (N := some 80) (v := ?_) (a' := ?_) #[true, true, true, true, false, false, true, true, true, true, true, true, false, false, false, false, false, false, false, false, false, false, false, false] rfl rfl (any_of HT_.out (by kernel_rfl)) (fun _ _ _ h => h) (Or.inl ⟨by rfl, ?_⟩) ?_ ?_
                                                          rotate_left
                                                          · intro w'
                                                            go_simp
                                                            with_reducible rfl
                                                          rotate_left
                                                          · simp only [Act.put, List.setIfInBounds_toArray, List.set_cons_zero, List.set_cons_succ, i64_w, i32_w]
                                                            rfl
                                                          refine pure_ (i := 15) (N := some 84) (v := ?_) (a' := ?_) #[true, true, true, true, false, false, true, true, true, true, true, true, false, false, false, true, false, false, false, false, false, false, false, false] rfl rfl (any_of HT_.out (by kernel_rfl)) (fun _ _ _ h => h) (Or.inl ⟨by rfl, ?_⟩) ?_ ?_
                                                          rotate_left
                                                          · intro w'
                                                            go_simp
                                                            with_reducible rfl
                                                          rotate_left
                                                          · simp only [Act.put, List.setIfInBounds_toArray, List.set_cons_zero, List.set_cons_succ, i64_w, i32_w]
                                                            rfl
                                                          refine pure_ (i := 16) (N := some 85) (v := ?_) (a' := ?_) #[true, true, true, true, false, false, true, true, true, true, true, true, false, false, false, true, true, false, false, false, false, false, false, false] rfl rfl (any_of HT_.out (by kernel_rfl)) (fun _ _ _ h => h) (Or.inl ⟨by rfl, ?_⟩) ?_ ?_
                                                          rotate_left
                                                          · intro w'
                                                            go_simp
                                                            with_reducible rfl
                                                          rotate_left
                                                          · simp only [Act.put, List.setIfInBounds_toArray, List.set_cons_zero, List.set_cons_succ, i64_w, i32_w]
                                                            rfl
                                                          refine pure_ (i := 18) (N := some 87) (v := ?_) (a' := ?_) #[true, true, true, true, false, false, true, true, true, true, true, true, false, false, false, true, true, false, true, false, false, false, false, false] rfl rfl (any_of HT_.out (by kernel_rfl)) (fun _ _ _ h => h) (Or.inl ⟨by rfl, ?_⟩) ?_ ?_
                                                          rotate_left
                                                          · intro w'
                                                            go_simp
                                                            with_reducible rfl
                                                          rotate_left
                                                          · simp only [Act.put, List.setIfInBounds_toArray, List.set_cons_zero, List.set_cons_succ, i64_w, i32_w]
                                                            rfl
                                                          refine take_ (i := 4) (N := some 73) (v := ?_) (a' := ?_) #[true, true, true, true, true, false, true, true, true, true, true, true, false, false, false, true, true, false, true, false, false, false, false, false] rfl rfl (take_ofW HT_.out HW_.out (by kernel_rfl)) (fun _ _ _ h => h) (Or.inl ⟨by rfl, ?_⟩) hHeld ?_ ?_
                                                          rotate_left
                                                          · rintro w' ⟨s0, s1, s2, s3, s4, s5, s6⟩
                                                            go_simp
                                                            with_reducible rfl
                                                          rotate_left
                                                          · simp only [Act.put, List.setIfInBounds_toArray, List.set_cons_zero, List.set_cons_succ, i64_w, i32_w]
                                                            rfl
                                                          refine pure_ (i := 5) (N := some 74) (v := ?_) (a' := ?_) #[true, true, true, true, true, true, true, true, true, true, true, true, false, false, false, true, true, false, true, false, false, false, false, false] rfl rfl (any_of HT_.out (by kernel_rfl)) (fun _ _ _ h => h) (Or.inl ⟨by rfl, ?_⟩) ?_ ?_
                                                          rotate_left
                                                          · intro w'
                                                            go_simp
                                                            with_reducible rfl
                                                          rotate_left
                                                          · simp only [Act.put, List.setIfInBounds_toArray, List.set_cons_zero, List.set_cons_succ, i64_w, i32_w]
                                                            rfl
                                                          refine take_ (i := 12) (N := some 81) (v := ?_) (a' := ?_) #[true, true, true, true, true, true, true, true, true, true, true, true, true, false, false, true, true, false, true, false, false, false, false, false] rfl rfl (take_ofW HT_.out HW_.out (by kernel_rfl)) (fun _ _ _ h => h) (Or.inl ⟨by rfl, ?_⟩) hHeld ?_ ?_
                                                          rotate_left
                                                          · rintro w' ⟨s0, s1, s2, s3, s4, s5, s6⟩
                                                            go_simp
                                                            with_reducible rfl
                                                          rotate_left
                                                          · simp only [Act.put, List.setIfInBounds_toArray, List.set_cons_zero, List.set_cons_succ, i64_w, i32_w]
                                                            rfl
                                                          refine take_ (i := 17) (N := some 86) (v := ?_) (a' := ?_) #[true, true, true, true, true, true, true, true, true, true, true, true, true, false, false, true, true, true, true, false, false, false, false, false] rfl rfl (take_ofW HT_.out HW_.out (by kernel_rfl)) (fun _ _ _ h => h) (Or.inl ⟨by rfl, ?_⟩) hHeld ?_ ?_
                                                          rotate_left
                                                          · rintro w' ⟨s0, s1, s2, s3, s4, s5, s6⟩
                                                            go_simp
                                                            with_reducible rfl
                                                          rotate_left
                                                          · simp only [Act.put, List.setIfInBounds_toArray, List.set_cons_zero, List.set_cons_succ, i64_w, i32_w]
                                                            rfl
                                                          refine take_ (i := 19) (N := some 88) (v := ?_) (a' := ?_) #[true, true, true, true, true, true, true, true, true, true, true, true, true, false, false, true, true, true, true, true, false, false, false, false] rfl rfl (take_ofW HT_.out HW_.out (by kernel_rfl)) (fun _ _ _ h => h) (Or.inl ⟨by rfl, ?_⟩) hHeld ?_ ?_
                                                          rotate_left
                                                          · rintro w' ⟨s0, s1, s2, s3, s4, s5, s6⟩
                                                            go_simp
                                                            with_reducible rfl
                                                          rotate_left
                                                          · simp only [Act.put, List.setIfInBounds_toArray, List.set_cons_zero, List.set_cons_succ, i64_w, i32_w]
                                                            rfl
                                                          refine pure_ (i := 20) (N := some 89) (v := ?_) (a' := ?_) #[true, true, true, true, true, true, true, true, true, true, true, true, true, false, false, true, true, true, true, true, true, false, false, false] rfl rfl (any_of HT_.out (by kernel_rfl)) (fun _ _ _ h => h) (Or.inl ⟨by rfl, ?_⟩) ?_ ?_
                                                          rotate_left
                                                          · intro w'
                                                            go_simp
                                                            with_reducible rfl
                                                          rotate_left
                                                          · simp only [Act.put, List.setIfInBounds_toArray, List.set_cons_zero, List.set_cons_succ, i64_w, i32_w]
                                                            rfl
                                                          refine one_ (i := 13) (N := some 82) #[true, true, true, true, true, true, true, true, true, true, true, true, true, true, false, true, true, true, true, true, true, false, false, false] rfl rfl (one_of HT_.out (by kernel_rfl)) (by decide) (fun K hK => ?_)
                                                          refine goes_ Tryd.func19 (by kernel_rfl) rfl #[.int .u8 (rd l1 (ji34))] (by rfl) rfl rfl (by (try simp only [List.map_toArray, List.map_cons, List.map_nil]); first | done | (simp only [hji34]; rfl) | rfl | (simp only [List.length_drop, List.length_take]; rfl)) ?_
                                                          with_reducible refine (laws_gap.calls (rd l1 (ji34)) t166 _ A37.out).mono ?_
                                                          rintro e w48 ⟨rfl, hb⟩
                                                          refine ⟨_, rfl, ?_⟩
                                                          have n0_ := Aside0.mk (Kd.R_below (by (with_reducible repeat (first | apply Kd.R_alloc | apply Kd.R_drewN | apply Kd.R_drew)); exact HO_5.out) hb)
                                                          have n1_ := Aside0.mk (Kd.R_below (by (with_reducible repeat (first | apply Kd.R_alloc | apply Kd.R_drewN | apply Kd.R_drew)); exact HO_44.out) hb)
                                                          have n2_ := Aside0.mk (blk_below (g := gb164) (o := .cells #[.int .i64 ((rd_T27 t159 x46_3).f0), .string ((rd_T27 t159 x46_3).f1), .int .i64 ((rd_T27 t159 x46_3).f2), .int .i64 ((rd_T27 t159 x46_3).f3), .int .i64 ((rd_T27 t159 x46_3).f4), .int .i64 ((rd_T27 t159 x46_3).f5)] 27 (0, 0)) (by (with_reducible repeat (first | refine blk_drewN ?_ _ | refine blk_drew ?_ | refine blk_alloc ?_ _)); exact BK164.out) hb)
                                                          have n3_ := Aside0.mk (below_step (by repeat (first | (with_reducible first | exact HB.out | apply below_alloc | apply pw_below_drewN | apply below_drew1 | refine below_set ?_ GE164.out) | exact HB.out)) hb)
                                                          clear HO_5
                                                          clear HO_44
                                                          clear BK164
                                                          clear HB
                                                          have HO_5 := n0_
                                                          have HO_44 := n1_
                                                          have BK164 := n2_
                                                          have HB := n3_
                                                          clear n0_ n1_ n2_ n3_
                                                          (try clear hb)
                                                          (try clear hb2)
                                                          (try clear hk)
                                                          (try clear hi)
                                                          refine hK.out _ _ ⟨(blk_cell BK164.out 0).trans rfl, (blk_cell BK164.out 1).trans rfl, (blk_cell BK164.out 2).trans rfl, (blk_cell BK164.out 3).trans rfl, (blk_cell BK164.out 4).trans rfl, (blk_cell BK164.out 5).trans rfl, ((HB.out.cell (World.block_lt_of_cell? w _ hw165_0)).trans hw165_0)⟩ (fun hHeld => ?_)
                                                          clear hK K
                                                          refine norm_ (a' := ?_) ?_ ?_
                                                          rotate_left
                                                          · show Act.put _ (some 82) _ = _
                                                            simp only [Act.put, List.setIfInBounds_toArray, List.set_cons_zero, List.set_cons_succ, i64_w, i32_w]
                                                            rfl
                                                          refine pure_ (i := 14) (N := some 83) (v := ?_) (a' := ?_) #[true, true, true, true, true, true, true, true, true, true, true, true, true, true, true, true, true, true, true, true, true, false, false, false] rfl rfl (any_of HT_.out (by kernel_rfl)) (fun _ _ _ h => h) (Or.inl ⟨by rfl, ?_⟩) ?_ ?_
                                                          rotate_left
                                                          · intro w'
                                                            go_simp
                                                            with_reducible rfl
                                                          rotate_left
                                                          · simp only [Act.put, List.setIfInBounds_toArray, List.set_cons_zero, List.set_cons_succ, i64_w, i32_w]
                                                            rfl
                                                          refine pure_ (i := 21) (N := some 90) (v := ?_) (a' := ?_) #[true, true, true, true, true, true, true, true, true, true, true, true, true, true, true, true, true, true, true, true, true, true, false, false] rfl rfl (any_of HT_.out (by kernel_rfl)) (fun _ _ _ h => h) (Or.inl ⟨by rfl, ?_⟩) ?_ ?_
                                                          rotate_left
                                                          · intro w'
                                                            go_simp
                                                            with_reducible rfl
                                                          rotate_left
                                                          · simp only [Act.put, List.setIfInBounds_toArray, List.set_cons_zero, List.set_cons_succ, i64_w, i32_w]
                                                            rfl
                                                          refine pure_ (i := 22) (N := some 91) (v := ?_) (a' := ?_) #[true, true, true, true, true, true, true, true, true, true, true, true, true, true, true, true, true, true, true, true, true, true, true, false] rfl rfl (any_of HT_.out (by kernel_rfl)) (fun _ _ _ h => h) (Or.inl ⟨by rfl, ?_⟩) ?_ ?_
                                                          rotate_left
                                                          · intro w'
                                                            go_simp
                                                            with_reducible rfl
                                                          rotate_left
                                                          · simp only [Act.put, List.setIfInBounds_toArray, List.set_cons_zero, List.set_cons_succ, i64_w, i32_w]
                                                            rfl
                                                          refine pure_ (i := 23) (N := some 7) (v := ?_) (a' := ?_) #[true, true, true, true, true, true, true, true, true, true, true, true, true, true, true, true, true, true, true, true, true, true, true, true] rfl rfl (any_of HT_.out (by kernel_rfl)) (fun _ _ _ h => h) (Or.inl ⟨by rfl, ?_⟩) ?_ ?_
                                                          rotate_left
                                                          · intro w'
                                                            go_simp
                                                            with_reducible rfl
                                                          rotate_left
                                                          · simp only [Act.put, List.setIfInBounds_toArray, List.set_cons_zero, List.set_cons_succ, i64_w, i32_w]
                                                            rfl
                                                          refine done_ (done_of HT_.out (by kernel_rfl)) ?_
                                                          have hcz49_0 : w48.cell? ⟨gb164, 0, none⟩ = some (.int .i64 ((rd_T27 t159 x46_3).f0)) := (blk_cell BK164.out 0).trans rfl
                                                          have hcz49_1 : w48.cell? ⟨gb164, 1, none⟩ = some (.string ((rd_T27 t159 x46_3).f1)) := (blk_cell BK164.out 1).trans rfl
                                                          have hcz49_2 : w48.cell? ⟨gb164, 2, none⟩ = some (.int .i64 ((rd_T27 t159 x46_3).f2)) := (blk_cell BK164.out 2).trans rfl
                                                          have hcz49_3 : w48.cell? ⟨gb164, 3, none⟩ = some (.int .i64 ((rd_T27 t159 x46_3).f3)) := (blk_cell BK164.out 3).trans rfl
                                                          have hcz49_4 : w48.cell? ⟨gb164, 4, none⟩ = some (.int .i64 ((rd_T27 t159 x46_3).f4)) := (blk_cell BK164.out 4).trans rfl
                                                          have hcz49_5 : w48.cell? ⟨gb164, 5, none⟩ = some (.int .i64 ((rd_T27 t159 x46_3).f5)) := (blk_cell BK164.out 5).trans rfl
                                                          have hfz49_0 := blk_frozen BK164.out 0
                                                          have hfz49_1 := blk_frozen BK164.out 1
                                                          have hfz49_2 := blk_frozen BK164.out 2
                                                          have hfz49_3 := blk_frozen BK164.out 3
                                                          have hfz49_4 := blk_frozen BK164.out 4
                                                          have hfz49_5 := blk_frozen BK164.out 5
                                                          try go_wp2
                                                          go_roundg k3
                                                          case measure => have := HJ2.out; have := HJ7.out; have := HK3.out; omega
                                                          case rel => exact ⟨(x7_3 ++ (((a0.extract (x8_3 : Int).toNat (((rd_T27 t159 x46_3).f2) : Int).toNat) ++ t166) ++ (a0.extract (((rd_T27 t159 x46_3).f2) : Int).toNat (((rd_T27 t159 x46_3).f3) : Int).toNat))), ((rd_T27 t159 x46_3).f3), (wrap64 (x46_3 + 1)), (by first | rfl | (simp; done) | (simp [*]; done)), (by first | rfl | (simp; done) | (simp [*]; done)), (by first | rfl | (simp; done) | (simp [*]; done)), H', ⟨by have := HJ2.out; have := HJ7.out; have := HK3.out; omega⟩, ⟨by (with_reducible repeat (first | apply Kd.R_alloc | apply Kd.R_drewN | apply Kd.R_drew)); exact Kd.R_mono HO_5.out (fun _ hk => trivial)⟩, ⟨by (with_reducible repeat (first | apply Kd.R_alloc | apply Kd.R_drewN | apply Kd.R_drew)); exact Kd.R_mono HO_44.out (fun _ hk => trivial)⟩, ⟨by repeat (first | (with_reducible first | exact HB.out | apply below_alloc | apply pw_below_drewN | apply below_drew1 | refine below_set ?_ GE164.out) | exact HB.out)⟩⟩
                                                        · rw [if_neg c43] at H
                                                          exact absurd H (by simp)
                                                      · rw [if_neg c42] at H
                                                        exact absurd H (by simp)
                                                    · rw [if_neg c41] at H
                                                      exact absurd H (by simp)
                                                  · rw [if_neg c40] at H
                                                    exact absurd H (by simp)
                                                · rw [if_neg c39] at H
                                                  exact absurd H (by simp)
                                              · rw [if_neg c38] at H
                                                exact absurd H (by simp)
                                            · rw [if_neg c36] at H
                                              exact absurd H (by simp)
                                          · rw [if_neg c35] at H
                                            exact absurd H (by simp)
                                      · rw [if_neg c32] at H
                                        exact absurd H (by simp)
                                    · rw [if_neg c31] at H
                                      exact absurd H (by simp)
                                  · rw [if_neg c30] at H
                                    exact absurd H (by simp)
                          · rw [if_neg c20] at H
                            exact absurd H (by simp)
                        · rw [if_neg c19] at H
                          exact absurd H (by simp)
                      · rw [if_neg c18] at H
                        have c18b0 : decide (x46_3 < (t159.length : Int)) = false := decide_eq_false c18
                        clear c18
                        by_cases c50 : (l1.length : Int) = 0
                        · rw [if_pos c50] at H
                          exact absurd H (by simp)
                        · rw [if_neg c50] at H
                          have c50b0 : ((l1.length : Int) == 0) = false := beq_eq_false_iff_ne.mpr c50
                          have c50b1 : ((l1.length : Int) != 0) = true := bne_iff_ne.mpr c50
                          have c50b2 : ¬ (l1 = []) := fun h_ => c50 (by rw [h_]; rfl)
                          obtain ⟨ji51, hji51⟩ : ∃ j_ : Int, ((t159.length : Int) % (l1.length : Int)) = j_ := ⟨_, rfl⟩
                          try have hji51t : Int.tmod (t159.length : Int) (l1.length : Int) = ji51 := (Int.tmod_eq_emod_of_nonneg (by omega)).trans hji51
                          replace H : (if 0 ≤ (ji51) then (if (ji51) < (l1.length : Int) then ((laws_gap.f (rd l1 (ji51))).bind fun t168 => (if 0 ≤ x8_3 then (if x8_3 ≤ (a0.size : Int) then (if t168.size + (a0.extract (x8_3 : Int).toNat a0.size).size ≤ 9223372036854775807 then (if x7_3.size + (t168 ++ (a0.extract (x8_3 : Int).toNat a0.size)).size ≤ 9223372036854775807 then ((impl_ParseMatchers.f a0).bind fun bt169 => ((impl_ParseMatchers.f (x7_3 ++ (t168 ++ (a0.extract (x8_3 : Int).toNat a0.size)))).bind fun bt173 => (if (bt169.2 == bt173.2) = true then ((laws_eqMatchers.f k3 bt169.1 bt173.1).bind fun t177 => (some t177)) else (some false)))) else (none)) else (none)) else (none)) else (none))) else (none)) else (none)) = some r := by first | (rw [hji51] at H; exact H) | (simp only [hji51] at H ⊢; exact H)
                          by_cases c52 : 0 ≤ (ji51)
                          · rw [if_pos c52] at H
                            have c52b0 : decide (0 ≤ (ji51)) = true := decide_eq_true c52
                            clear c52
                            by_cases c53 : (ji51) < (l1.length : Int)
                            · rw [if_pos c53] at H
                              have c53b0 : decide ((ji51) < (l1.length : Int)) = true := decide_eq_true c53
                              clear c53
                              replace H := Option.bind_eq_some_iff.mp H
                              obtain ⟨t168, A540, H⟩ := H
                              replace H : (if 0 ≤ x8_3 then (if x8_3 ≤ (a0.size : Int) then (if t168.size + (a0.extract (x8_3 : Int).toNat a0.size).size ≤ 9223372036854775807 then (if x7_3.size + (t168 ++ (a0.extract (x8_3 : Int).toNat a0.size)).size ≤ 9223372036854775807 then ((impl_ParseMatchers.f a0).bind fun bt169 => ((impl_ParseMatchers.f (x7_3 ++ (t168 ++ (a0.extract (x8_3 : Int).toNat a0.size)))).bind fun bt173 => (if (bt169.2 == bt173.2) = true then ((laws_eqMatchers.f k3 bt169.1 bt173.1).bind fun t177 => (some t177)) else (some false)))) else (none)) else (none)) else (none)) else (none)) = some r := H
                              have A54 := Aside0.mk A540
                              clear A540
                              by_cases c55 : 0 ≤ x8_3
                              · rw [if_pos c55] at H
                                have c55b0 := eq_true c55
                                have c55b1 : decide (0 ≤ x8_3) = true := decide_eq_true c55
                                clear c55
                                by_cases c56 : x8_3 ≤ (a0.size : Int)
                                · rw [if_pos c56] at H
                                  have c56b0 := eq_true c56
                                  have c56b1 : decide (x8_3 ≤ (a0.size : Int)) = true := decide_eq_true c56
                                  clear c56
                                  by_cases c57 : t168.size + (a0.extract (x8_3 : Int).toNat a0.size).size ≤ 9223372036854775807
                                  · rw [if_pos c57] at H
                                    have c57b0 := eq_true c57
                                    have c57b1 : decide (t168.size + (a0.extract (x8_3 : Int).toNat a0.size).size ≤ 9223372036854775807) = true := decide_eq_true c57
                                    try have c57b2 : (9223372036854775807 < t168.size + (a0.extract (x8_3 : Int).toNat a0.size).size) = False := eq_false (Nat.not_lt.2 c57)
                                    try have c57b5 : (9223372036854775807 < t168.size + (a0.size - (x8_3 : Int).toNat)) = False := eq_false (by have h_ := c57; simp only [ByteArray.size_append, ByteArray.size_extract] at h_; omega)
                                    by_cases c58 : x7_3.size + (t168 ++ (a0.extract (x8_3 : Int).toNat a0.size)).size ≤ 9223372036854775807
                                    · rw [if_pos c58] at H
                                      have c58b0 := eq_true c58
                                      have c58b1 : decide (x7_3.size + (t168 ++ (a0.extract (x8_3 : Int).toNat a0.size)).size ≤ 9223372036854775807) = true := decide_eq_true c58
                                      try have c58b2 : (9223372036854775807 < x7_3.size + (t168 ++ (a0.extract (x8_3 : Int).toNat a0.size)).size) = False := eq_false (Nat.not_lt.2 c58)
                                      try have c58b5 : (9223372036854775807 < x7_3.size + (t168.size + (a0.size - (x8_3 : Int).toNat))) = False := eq_false (by have h_ := c58; simp only [ByteArray.size_append, ByteArray.size_extract] at h_; omega)
                                      try have c58b3 := c58b2
                                      try simp only [ByteArray.size_append] at c58b3
                                      replace H := Option.bind_eq_some_iff.mp H
                                      obtain ⟨⟨t169, t170⟩, A590, H⟩ := H
                                      replace H : ((impl_ParseMatchers.f (x7_3 ++ (t168 ++ (a0.extract (x8_3 : Int).toNat a0.size)))).bind fun bt173 => (if (t170 == bt173.2) = true then ((laws_eqMatchers.f k3 t169 bt173.1).bind fun t177 => (some t177)) else (some false))) = some r := H
                                      have A59 := Aside0.mk A590
                                      clear A590
                                      replace H := Option.bind_eq_some_iff.mp H
                                      obtain ⟨⟨t173, t174⟩, A600, H⟩ := H
                                      replace H : (if (t170 == t174) = true then ((laws_eqMatchers.f k3 t169 t173).bind fun t177 => (some t177)) else (some false)) = some r := H
                                      have A60 := Aside0.mk A600
                                      clear A600
                                      by_cases c61 : (t170 == t174) = true
                                      · rw [if_pos c61] at H
                                        have c61b0 : (t170 == t174) = true := c61
                                        (try (have c61b1 : decide (t170 = t174) = true := by simpa using c61))
                                        (try (have c61b2 : (t170 == t174) = true := by simpa using c61))
                                        clear c61
                                        replace H := Option.bind_eq_some_iff.mp H
                                        obtain ⟨t177, A620, H⟩ := H
                                        replace H : (some t177) = some r := H
                                        have A62 := Aside0.mk A620
                                        clear A620
                                        obtain rfl := Option.some.inj H
                                        try go_wp2
                                        have n0_ := Aside0.mk (Kd.R_drew HO_5.out)
                                        have n1_ := Aside0.mk (Kd.R_drew HO_44.out)
                                        have n2_ := Aside0.mk (below_drew1 HB.out)
                                        clear HO_5
                                        clear HO_44
                                        clear HB
                                        have HO_5 := n0_
                                        have HO_44 := n1_
                                        have HB := n2_
                                        clear n0_ n1_ n2_
                                        have p167 : 0 ≤ ((ji51) : Int) := of_decide_eq_true (by first | (with_reducible assumption) | assumption)
                                        have q167 : (ji51) < (l1.length : Int) := of_decide_eq_true (by first | (with_reducible assumption) | assumption)
                                        obtain ⟨ad167, e167, hx167_0⟩ := Kd.at_int HR1.out (ji51) p167 q167
                                        have hw167_0 := hx167_0
                                        cases e167
                                        replace hx167_0 := (HB.out.cell (World.block_lt_of_cell? w _ hx167_0)).trans hx167_0
                                        replace p167 := eq_true p167
                                        replace q167 := eq_true q167
                                        refine start_ (n := 16) (S := fun w' => w'.cell? (ad167.add ((ji51)).toNat) = some (.int .u8 (rd l1 (ji51)))) (ds := []) #[false, false, false, false, false, false, false, false, false, false, false, false, false, false, false, false] (by kernel_rfl) rfl rfl (((HB.out.cell (World.block_lt_of_cell? w _ hw167_0)).trans hw167_0)) (fun hHeld => ?_); refine with_tabW laws_FnBlanks.tab19 laws_FnBlanks.bits19 (fun HT_ HW_ => ?_)
                                        generalize wr.drew = w63 at HO_5 HO_44 HB hx167_0 hHeld ⊢
                                        refine pure_ (i := 0) (N := some 95) (v := ?_) (a' := ?_) #[true, false, false, false, false, false, false, false, false, false, false, false, false, false, false, false] rfl rfl (any_of HT_.out (by kernel_rfl)) (fun _ _ _ h => h) (Or.inl ⟨by rfl, ?_⟩) ?_ ?_
                                        rotate_left
                                        · intro w'
                                          go_simp
                                          with_reducible rfl
                                        rotate_left
                                        · simp only [Act.put, List.setIfInBounds_toArray, List.set_cons_zero, List.set_cons_succ, i64_w, i32_w]
                                          rfl
                                        refine pure_ (i := 1) (N := some 96) (v := ?_) (a' := ?_) #[true, true, false, false, false, false, false, false, false, false, false, false, false, false, false, false] rfl rfl (any_of HT_.out (by kernel_rfl)) (fun _ _ _ h => h) (Or.inl ⟨by rfl, ?_⟩) ?_ ?_
                                        rotate_left
                                        · intro w'
                                          go_simp
                                          with_reducible rfl
                                        rotate_left
                                        · simp only [Act.put, List.setIfInBounds_toArray, List.set_cons_zero, List.set_cons_succ, i64_w, i32_w]
                                          rfl
                                        refine pure_ (i := 2) (N := some 97) (v := ?_) (a' := ?_) #[true, true, true, false, false, false, false, false, false, false, false, false, false, false, false, false] rfl rfl (any_of HT_.out (by kernel_rfl)) (fun _ _ _ h => h) (Or.inl ⟨by rfl, ?_⟩) ?_ ?_
                                        rotate_left
                                        · intro w'
                                          go_simp
                                          with_reducible rfl
                                        rotate_left
                                        · simp only [Act.put, List.setIfInBounds_toArray, List.set_cons_zero, List.set_cons_succ, i64_w, i32_w]
                                          rfl
                                        refine pure_ (i := 3) (N := some 98) (v := ?_) (a' := ?_) #[true, true, true, true, false, false, false, false, false, false, false, false, false, false, false, false] rfl rfl (any_of HT_.out (by kernel_rfl)) (fun _ _ _ h => h) (Or.inl ⟨by rfl, ?_⟩) ?_ ?_
                                        rotate_left
                                        · intro w'
                                          go_simp
                                          with_reducible rfl
                                        rotate_left
                                        · simp only [Act.put, List.setIfInBounds_toArray, List.set_cons_zero, List.set_cons_succ, i64_w, i32_w]
                                          rfl
                                        refine pure_ (i := 4) (N := some 99) (v := ?_) (a' := ?_) #[true, true, true, true, true, false, false, false, false, false, false, false, false, false, false, false] rfl rfl (any_of HT_.out (by kernel_rfl)) (fun _ _ _ h => h) (Or.inl ⟨by rfl, ?_⟩) ?_ ?_
                                        rotate_left
                                        · intro w'
                                          go_simp
                                          with_reducible rfl
                                        rotate_left
                                        · simp only [Act.put, List.setIfInBounds_toArray, List.set_cons_zero, List.set_cons_succ, i64_w, i32_w]
                                          rfl
                                        refine pure_ (i := 5) (N := some 100) (v := ?_) (a' := ?_) #[true, true, true, true, true, true, false, false, false, false, false, false, false, false, false, false] rfl rfl (any_of HT_.out (by kernel_rfl)) (fun _ _ _ h => h) (Or.inl ⟨by rfl, ?_⟩) ?_ ?_
                                        rotate_left
                                        · intro w'
                                          go_simp
                                          with_reducible rfl
                                        rotate_left
                                        · simp only [Act.put, List.setIfInBounds_toArray, List.set_cons_zero, List.set_cons_succ, i64_w, i32_w]
                                          rfl
                                        refine pure_ (i := 6) (N := some 101) (v := ?_) (a' := ?_) #[true, true, true, true, true, true, true, false, false, false, false, false, false, false, false, false] rfl rfl (any_of HT_.out (by kernel_rfl)) (fun _ _ _ h => h) (Or.inl ⟨by rfl, ?_⟩) ?_ ?_
                                        rotate_left
                                        · intro w'
                                          go_simp
                                          with_reducible rfl
                                        rotate_left
                                        · simp only [Act.put, List.setIfInBounds_toArray, List.set_cons_zero, List.set_cons_succ, i64_w, i32_w]
                                          rfl
                                        refine pure_ (i := 7) (N := some 102) (v := ?_) (a' := ?_) #[true, true, true, true, true, true, true, true, false, false, false, false, false, false, false, false] rfl rfl (any_of HT_.out (by kernel_rfl)) (fun _ _ _ h => h) (Or.inl ⟨by rfl, ?_⟩) ?_ ?_
                                        rotate_left
                                        · intro w'
                                          go_simp
                                          with_reducible rfl
                                        rotate_left
                                        · simp only [Act.put, List.setIfInBounds_toArray, List.set_cons_zero, List.set_cons_succ, i64_w, i32_w]
                                          rfl
                                        refine pure_ (i := 10) (N := some 105) (v := ?_) (a' := ?_) #[true, true, true, true, true, true, true, true, false, false, true, false, false, false, false, false] rfl rfl (any_of HT_.out (by kernel_rfl)) (fun _ _ _ h => h) (Or.inl ⟨by rfl, ?_⟩) ?_ ?_
                                        rotate_left
                                        · intro w'
                                          go_simp
                                          with_reducible rfl
                                        rotate_left
                                        · simp only [Act.put, List.setIfInBounds_toArray, List.set_cons_zero, List.set_cons_succ, i64_w, i32_w]
                                          rfl
                                        refine pure_ (i := 11) (N := some 106) (v := ?_) (a' := ?_) #[true, true, true, true, true, true, true, true, false, false, true, true, false, false, false, false] rfl rfl (any_of HT_.out (by kernel_rfl)) (fun _ _ _ h => h) (Or.inl ⟨by rfl, ?_⟩) ?_ ?_
                                        rotate_left
                                        · intro w'
                                          go_simp
                                          with_reducible rfl
                                        rotate_left
                                        · simp only [Act.put, List.setIfInBounds_toArray, List.set_cons_zero, List.set_cons_succ, i64_w, i32_w]
                                          rfl
                                        refine pure_ (i := 12) (N := some 107) (v := ?_) (a' := ?_) #[true, true, true, true, true, true, true, true, false, false, true, true, true, false, false, false] rfl rfl (any_of HT_.out (by kernel_rfl)) (fun _ _ _ h => h) (Or.inl ⟨by rfl, ?_⟩) ?_ ?_
                                        rotate_left
                                        · intro w'
                                          go_simp
                                          with_reducible rfl
                                        rotate_left
                                        · simp only [Act.put, List.setIfInBounds_toArray, List.set_cons_zero, List.set_cons_succ, i64_w, i32_w]
                                          rfl
                                        refine take_ (i := 8) (N := some 103) (v := ?_) (a' := ?_) #[true, true, true, true, true, true, true, true, true, false, true, true, true, false, false, false] rfl rfl (take_ofW HT_.out HW_.out (by kernel_rfl)) (fun _ _ _ h => h) (Or.inl ⟨by rfl, ?_⟩) hHeld ?_ ?_
                                        rotate_left
                                        · intro w' s0
                                          go_simp
                                          with_reducible rfl
                                        rotate_left
                                        · simp only [Act.put, List.setIfInBounds_toArray, List.set_cons_zero, List.set_cons_succ, i64_w, i32_w]
                                          rfl
                                        refine one_ (i := 9) (N := some 104) #[true, true, true, true, true, true, true, true, true, true, true, true, true, false, false, false] rfl rfl (one_of HT_.out (by kernel_rfl)) (by decide) (fun K hK => ?_)
                                        refine goes_ Tryd.func19 (by kernel_rfl) rfl #[.int .u8 (rd l1 (ji51))] (by rfl) rfl rfl (by (try simp only [List.map_toArray, List.map_cons, List.map_nil]); first | done | (simp only [hji51]; rfl) | rfl | (simp only [List.length_drop, List.length_take]; rfl)) ?_
                                        with_reducible refine (laws_gap.calls (rd l1 (ji51)) t168 _ A54.out).mono ?_
                                        rintro e w64 ⟨rfl, hb⟩
                                        refine ⟨_, rfl, ?_⟩
                                        have n0_ := Aside0.mk (Kd.R_below (by (with_reducible repeat (first | apply Kd.R_alloc | apply Kd.R_drewN | apply Kd.R_drew)); exact HO_5.out) hb)
                                        have n1_ := Aside0.mk (Kd.R_below (by (with_reducible repeat (first | apply Kd.R_alloc | apply Kd.R_drewN | apply Kd.R_drew)); exact HO_44.out) hb)
                                        have n2_ := Aside0.mk (below_step (by repeat (first | (with_reducible first | exact HB.out | apply below_alloc | apply pw_below_drewN | apply below_drew1) | exact HB.out)) hb)
                                        clear HO_5
                                        clear HO_44
                                        clear HB
                                        have HO_5 := n0_
                                        have HO_44 := n1_
                                        have HB := n2_
                                        clear n0_ n1_ n2_
                                        (try clear hb)
                                        (try clear hb2)
                                        (try clear hk)
                                        (try clear hi)
                                        refine hK.out _ _ (((HB.out.cell (World.block_lt_of_cell? w _ hw167_0)).trans hw167_0)) (fun hHeld => ?_)
                                        clear hK K
                                        refine norm_ (a' := ?_) ?_ ?_
                                        rotate_left
                                        · show Act.put _ (some 104) _ = _
                                          simp only [Act.put, List.setIfInBounds_toArray, List.set_cons_zero, List.set_cons_succ, i64_w, i32_w]
                                          rfl
                                        refine pure_ (i := 13) (N := some 108) (v := ?_) (a' := ?_) #[true, true, true, true, true, true, true, true, true, true, true, true, true, true, false, false] rfl rfl (any_of HT_.out (by kernel_rfl)) (fun _ _ _ h => h) (Or.inl ⟨by rfl, ?_⟩) ?_ ?_
                                        rotate_left
                                        · intro w'
                                          go_simp
                                          with_reducible rfl
                                        rotate_left
                                        · simp only [Act.put, List.setIfInBounds_toArray, List.set_cons_zero, List.set_cons_succ, i64_w, i32_w]
                                          rfl
                                        refine pure_ (i := 14) (N := some 109) (v := ?_) (a' := ?_) #[true, true, true, true, true, true, true, true, true, true, true, true, true, true, true, false] rfl rfl (any_of HT_.out (by kernel_rfl)) (fun _ _ _ h => h) (Or.inl ⟨by rfl, ?_⟩) ?_ ?_
                                        rotate_left
                                        · intro w'
                                          go_simp
                                          with_reducible rfl
                                        rotate_left
                                        · simp only [Act.put, List.setIfInBounds_toArray, List.set_cons_zero, List.set_cons_succ, i64_w, i32_w]
                                          rfl
                                        refine pure_ (i := 15) (N := some 7) (v := ?_) (a' := ?_) #[true, true, true, true, true, true, true, true, true, true, true, true, true, true, true, true] rfl rfl (any_of HT_.out (by kernel_rfl)) (fun _ _ _ h => h) (Or.inl ⟨by rfl, ?_⟩) ?_ ?_
                                        rotate_left
                                        · intro w'
                                          go_simp
                                          with_reducible rfl
                                        rotate_left
                                        · simp only [Act.put, List.setIfInBounds_toArray, List.set_cons_zero, List.set_cons_succ, i64_w, i32_w]
                                          rfl
                                        refine done_ (done_of HT_.out (by kernel_rfl)) ?_
                                        try go_wp2_with (first | ((with_reducible refine gate_callee (f := 15) rfl ?_); refine goesL_ (some 112) rfl rfl Tryd.func15 (by kernel_rfl) rfl #[.string a0] rfl (by (try simp only [List.map_toArray, List.map_cons, List.map_nil]); first | done | rfl | (simp only [List.length_drop, List.length_take]; rfl)) ?_; (with_reducible refine (impl_ParseMatchers.calls a0 t169 t170 _ ?side1 A59.out).mono ?_); (case side1 => exact Go.Proofs.YtmjoebnphacadaaDoor.Lex.ETx.below HTW_.out (by repeat (first | (with_reducible first | exact HB.out | apply below_alloc | apply pw_below_drewN | apply below_drew1) | exact HB.out))); rintro e w65 ⟨v171, rfl, ho0, hb⟩; refine ⟨_, rfl, ?_⟩; have n0_ := Aside0.mk (Kd.R_below (by (with_reducible repeat (first | apply Kd.R_alloc | apply Kd.R_drewN | apply Kd.R_drew)); exact HO_5.out) hb); have n1_ := Aside0.mk (Kd.R_below (by (with_reducible repeat (first | apply Kd.R_alloc | apply Kd.R_drewN | apply Kd.R_drew)); exact HO_44.out) hb); have n2_ := Aside0.mk (Kd.R_lower ho0 (below_size (by repeat (first | (with_reducible first | exact HB.out | apply below_alloc | apply pw_below_drewN | apply below_drew1) | exact HB.out)))); have n3_ := Aside0.mk (below_step (by repeat (first | (with_reducible first | exact HB.out | apply below_alloc | apply pw_below_drewN | apply below_drew1) | exact HB.out)) hb); clear HO_5; clear HO_44; clear HB; have HO_5 := n0_; have HO_44 := n1_; have HO172 := n2_; have HB := n3_; clear n0_ n1_ n2_ n3_; (try clear hb); (try clear hb2); (try clear hk); (try clear hi); (try clear ho0)) | ((with_reducible refine gate_callee (f := 15) rfl ?_); refine goesL_ (some 117) rfl rfl Tryd.func15 (by kernel_rfl) rfl #[.string (x7_3 ++ (t168 ++ (a0.extract (x8_3 : Int).toNat a0.size)))] rfl (by (try simp only [List.map_toArray, List.map_cons, List.map_nil]); first | done | rfl | (simp only [List.length_drop, List.length_take]; rfl)) ?_; (with_reducible refine (impl_ParseMatchers.calls (x7_3 ++ (t168 ++ (a0.extract (x8_3 : Int).toNat a0.size))) t173 t174 _ ?side1 A60.out).mono ?_); (case side1 => exact Go.Proofs.YtmjoebnphacadaaDoor.Lex.ETx.below HTW_.out (by repeat (first | (with_reducible first | exact HB.out | apply below_alloc | apply pw_below_drewN | apply below_drew1) | exact HB.out))); rintro e w66 ⟨v175, rfl, ho0, hb⟩; refine ⟨_, rfl, ?_⟩; have n0_ := Aside0.mk (Kd.R_below (by (with_reducible repeat (first | apply Kd.R_alloc | apply Kd.R_drewN | apply Kd.R_drew)); exact HO_5.out) hb); have n1_ := Aside0.mk (Kd.R_below (by (with_reducible repeat (first | apply Kd.R_alloc | apply Kd.R_drewN | apply Kd.R_drew)); exact HO_44.out) hb); have n2_ := Aside0.mk (Kd.R_elder' (by (with_reducible repeat (first | apply Kd.R_alloc | apply Kd.R_drewN | apply Kd.R_drew)); exact HO172.out) (Kd.R_base ho0) hb); have n3_ := Aside0.mk (Kd.R_lower (Kd.R_new' ho0 (Kd.R_lt (by (with_reducible repeat (first | apply Kd.R_alloc | apply Kd.R_drewN | apply Kd.R_drew)); exact HO172.out))) (below_size (by repeat (first | (with_reducible first | exact HB.out | apply below_alloc | apply pw_below_drewN | apply below_drew1) | exact HB.out)))); have n4_ := Aside0.mk (below_step (by repeat (first | (with_reducible first | exact HB.out | apply below_alloc | apply pw_below_drewN | apply below_drew1) | exact HB.out)) hb); clear HO_5; clear HO_44; clear HO172; clear HB; have HO_5 := n0_; have HO_44 := n1_; have HO172 := n2_; have HO176 := n3_; have HB := n4_; clear n0_ n1_ n2_ n3_ n4_; (try clear hb); (try clear hb2); (try clear hk); (try clear hi); (try clear ho0); obtain ⟨Ao67, co67, eo67⟩ := Kd.R_slice HO172.out; subst eo67; obtain ⟨Ao68, co68, eo68⟩ := Kd.R_slice HO176.out; subst eo68) | (go_at_call 20; (with_reducible refine (laws_eqMatchers.calls k3 _ _ t169 _ _ t173 t177 _ ?side1 ?side2 ?side3 ?side4 A62.out).mono ?_); (case side1 => repeat (first | exact (Kd.R_reads' HO172.out).2.2 | (with_reducible refine Kd.C_alloc ?_ _) | (with_reducible refine Kd.C_drewN ?_ _) | (with_reducible refine Kd.C_drew ?_))); (case side2 => exact (Kd.R_reads' HO172.out).2.1); (case side3 => repeat (first | exact (Kd.R_reads' HO176.out).2.2 | (with_reducible refine Kd.C_alloc ?_ _) | (with_reducible refine Kd.C_drewN ?_ _) | (with_reducible refine Kd.C_drew ?_))); (case side4 => exact (Kd.R_reads' HO176.out).2.1); rintro e w' ⟨rfl, ⟨nd, rfl⟩⟩))
                                        go_ret
                                        exact ⟨by first | rfl | (simp [errW_none, errW_some] <;> rfl) | (simp only [← hji51]; first | rfl | (simp [errW_none, errW_some] <;> rfl)) | (simp [*, errW_none, errW_some] <;> rfl), by repeat (first | (with_reducible first | exact HB.out | apply below_alloc | apply pw_below_drewN | apply below_drew1) | exact HB.out)⟩
                                      · rw [if_neg c61] at H
                                        have c61b0 : (t170 == t174) = false := by simpa using c61
                                        (try (have c61b1 : decide (t170 = t174) = false := by simpa using c61))
                                        (try (have c61b2 : (t170 == t174) = false := by simpa using c61))
                                        (try (have c61b3 : ¬ (t170 = t174) := by simpa using c61))
                                        clear c61
                                        obtain rfl := Option.some.inj H
                                        try go_wp2
                                        have n0_ := Aside0.mk (Kd.R_drew HO_5.out)
                                        have n1_ := Aside0.mk (Kd.R_drew HO_44.out)
                                        have n2_ := Aside0.mk (below_drew1 HB.out)
                                        clear HO_5
                                        clear HO_44
                                        clear HB
                                        have HO_5 := n0_
                                        have HO_44 := n1_
                                        have HB := n2_
                                        clear n0_ n1_ n2_
                                        have p167 : 0 ≤ ((ji51) : Int) := of_decide_eq_true (by first | (with_reducible assumption) | assumption)
                                        have q167 : (ji51) < (l1.length : Int) := of_decide_eq_true (by first | (with_reducible assumption) | assumption)
                                        obtain ⟨ad167, e167, hx167_0⟩ := Kd.at_int HR1.out (ji51) p167 q167
                                        have hw167_0 := hx167_0
                                        cases e167
                                        replace hx167_0 := (HB.out.cell (World.block_lt_of_cell? w _ hx167_0)).trans hx167_0
                                        replace p167 := eq_true p167
                                        replace q167 := eq_true q167
                                        refine start_ (n := 16) (S := fun w' => w'.cell? (ad167.add ((ji51)).toNat) = some (.int .u8 (rd l1 (ji51)))) (ds := []) #[false, false, false, false, false, false, false, false, false, false, false, false, false, false, false, false] (by kernel_rfl) rfl rfl (((HB.out.cell (World.block_lt_of_cell? w _ hw167_0)).trans hw167_0)) (fun hHeld => ?_); refine with_tabW laws_FnBlanks.tab19 laws_FnBlanks.bits19 (fun HT_ HW_ => ?_)
                                        generalize wr.drew = w69 at HO_5 HO_44 HB hx167_0 hHeld ⊢
                                        refine pure_ (i := 0) (N := some 95) (v := ?_) (a' := ?_) #[true, false, false, false, false, false, false, false, false, false, false, false, false, false, false, false] rfl rfl (any_of HT_.out (by kernel_rfl)) (fun _ _ _ h => h) (Or.inl ⟨by rfl, ?_⟩) ?_ ?_
                                        rotate_left
                                        · intro w'
                                          go_simp
                                          with_reducible rfl
                                        rotate_left
                                        · simp only [Act.put, List.setIfInBounds_toArray, List.set_cons_zero, List.set_cons_succ, i64_w, i32_w]
                                          rfl
                                        refine pure_ (i := 1) (N := some 96) (v := ?_) (a' := ?_) #[true, true, false, false, false, false, false, false, false, false, false, false, false, false, false, false] rfl rfl (any_of HT_.out (by kernel_rfl)) (fun _ _ _ h => h) (Or.inl ⟨by rfl, ?_⟩) ?_ ?_
                                        rotate_left
                                        · intro w'
                                          go_simp
                                          with_reducible rfl
                                        rotate_left
                                        · simp only [Act.put, List.setIfInBounds_toArray, List.set_cons_zero, List.set_cons_succ, i64_w, i32_w]
                                          rfl
                                        refine pure_ (i := 2) (N := some 97) (v := ?_) (a' := ?_) #[true, true, true, false, false, false, false, false, false, false, false, false, false, false, false, false] rfl rfl (any_of HT_.out (by kernel_rfl)) (fun _ _ _ h => h) (Or.inl ⟨by rfl, ?_⟩) ?_ ?_
                                        rotate_left
                                        · intro w'
                                          go_simp
                                          with_reducible rfl
                                        rotate_left
                                        · simp only [Act.put, List.setIfInBounds_toArray, List.set_cons_zero, List.set_cons_succ, i64_w, i32_w]
                                          rfl
                                        refine pure_ (i := 3) (N := some 98) (v := ?_) (a' := ?_) #[true, true, true, true, false, false, false, false, false, false, false, false, false, false, false, false] rfl rfl (any_of HT_.out (by kernel_rfl)) (fun _ _ _ h => h) (Or.inl ⟨by rfl, ?_⟩) ?_ ?_
                                        rotate_left
                                        · intro w'
                                          go_simp
                                          with_reducible rfl
                                        rotate_left
                                        · simp only [Act.put, List.setIfInBounds_toArray, List.set_cons_zero, List.set_cons_succ, i64_w, i32_w]
                                          rfl
                                        refine pure_ (i := 4) (N := some 99) (v := ?_) (a' := ?_) #[true, true, true, true, true, false, false, false, false, false, false, false, false, false, false, false] rfl rfl (any_of HT_.out (by kernel_rfl)) (fun _ _ _ h => h) (Or.inl ⟨by rfl, ?_⟩) ?_ ?_
                                        rotate_left
                                        · intro w'
                                          go_simp
                                          with_reducible rfl
                                        rotate_left
                                        · simp only [Act.put, List.setIfInBounds_toArray, List.set_cons_zero, List.set_cons_succ, i64_w, i32_w]
                                          rfl
                                        refine pure_ (i := 5) (N := some 100) (v := ?_) (a' := ?_) #[true, true, true, true, true, true, false, false, false, false, false, false, false, false, false, false] rfl rfl (any_of HT_.out (by kernel_rfl)) (fun _ _ _ h => h) (Or.inl ⟨by rfl, ?_⟩) ?_ ?_
                                        rotate_left
                                        · intro w'
                                          go_simp
                                          with_reducible rfl
                                        rotate_left
                                        · simp only [Act.put, List.setIfInBounds_toArray, List.set_cons_zero, List.set_cons_succ, i64_w, i32_w]
                                          rfl
                                        refine pure_ (i := 6) (N := some 101) (v := ?_) (a' := ?_) #[true, true, true, true, true, true, true, false, false, false, false, false, false, false, false, false] rfl rfl (any_of HT_.out (by kernel_rfl)) (fun _ _ _ h => h) (Or.inl ⟨by rfl, ?_⟩) ?_ ?_
                                        rotate_left
                                        · intro w'
                                          go_simp
                                          with_reducible rfl
                                        rotate_left
                                        · simp only [Act.put, List.setIfInBounds_toArray, List.set_cons_zero, List.set_cons_succ, i64_w, i32_w]
                                          rfl
                                        refine pure_ (i := 7) (N := some 102) (v := ?_) (a' := ?_) #[true, true, true, true, true, true, true, true, false, false, false, false, false, false, false, false] rfl rfl (any_of HT_.out (by kernel_rfl)) (fun _ _ _ h => h) (Or.inl ⟨by rfl, ?_⟩) ?_ ?_
                                        rotate_left
                                        · intro w'
                                          go_simp
                                          with_reducible rfl
                                        rotate_left
                                        · simp only [Act.put, List.setIfInBounds_toArray, List.set_cons_zero, List.set_cons_succ, i64_w, i32_w]
                                          rfl
                                        refine pure_ (i := 10) (N := some 105) (v := ?_) (a' := ?_) #[true, true, true, true, true, true, true, true, false, false, true, false, false, false, false, false] rfl rfl (any_of HT_.out (by kernel_rfl)) (fun _ _ _ h => h) (Or.inl ⟨by rfl, ?_⟩) ?_ ?_
                                        rotate_left
                                        · intro w'
                                          go_simp
                                          with_reducible rfl
                                        rotate_left
                                        · simp only [Act.put, List.setIfInBounds_toArray, List.set_cons_zero, List.set_cons_succ, i64_w, i32_w]
                                          rfl
                                        refine pure_ (i := 11) (N := some 106) (v := ?_) (a' := ?_) #[true, true, true, true, true, true, true, true, false, false, true, true, false, false, false, false] rfl rfl (any_of HT_.out (by kernel_rfl)) (fun _ _ _ h => h) (Or.inl ⟨by rfl, ?_⟩) ?_ ?_
                                        rotate_left
                                        · intro w'
                                          go_simp
                                          with_reducible rfl
                                        rotate_left
                                        · simp only [Act.put, List.setIfInBounds_toArray, List.set_cons_zero, List.set_cons_succ, i64_w, i32_w]
                                          rfl
                                        refine pure_ (i := 12) (N := some 107) (v := ?_) (a' := ?_) #[true, true, true, true, true, true, true, true, false, false, true, true, true, false, false, false] rfl rfl (any_of HT_.out (by kernel_rfl)) (fun _ _ _ h => h) (Or.inl ⟨by rfl, ?_⟩) ?_ ?_
                                        rotate_left
                                        · intro w'
                                          go_simp
                                          with_reducible rfl
                                        rotate_left
                                        · simp only [Act.put, List.setIfInBounds_toArray, List.set_cons_zero, List.set_cons_succ, i64_w, i32_w]
                                          rfl
                                        refine take_ (i := 8) (N := some 103) (v := ?_) (a' := ?_) #[true, true, true, true, true, true, true, true, true, false, true, true, true, false, false, false] rfl rfl (take_ofW HT_.out HW_.out (by kernel_rfl)) (fun _ _ _ h => h) (Or.inl ⟨by rfl, ?_⟩) hHeld ?_ ?_
                                        rotate_left
                                        · intro w' s0
                                          go_simp
                                          with_reducible rfl
                                        rotate_left
                                        · simp only [Act.put, List.setIfInBounds_toArray, List.set_cons_zero, List.set_cons_succ, i64_w, i32_w]
                                          rfl
                                        refine one_ (i := 9) (N := some 104) #[true, true, true, true, true, true, true, true, true, true, true, true, true, false, false, false] rfl rfl (one_of HT_.out (by kernel_rfl)) (by decide) (fun K hK => ?_)
                                        refine goes_ Tryd.func19 (by kernel_rfl) rfl #[.int .u8 (rd l1 (ji51))] (by rfl) rfl rfl (by (try simp only [List.map_toArray, List.map_cons, List.map_nil]); first | done | (simp only [hji51]; rfl) | rfl | (simp only [List.length_drop, List.length_take]; rfl)) ?_
                                        with_reducible refine (laws_gap.calls (rd l1 (ji51)) t168 _ A54.out).mono ?_
                                        rintro e w70 ⟨rfl, hb⟩
                                        refine ⟨_, rfl, ?_⟩
                                        have n0_ := Aside0.mk (Kd.R_below (by (with_reducible repeat (first | apply Kd.R_alloc | apply Kd.R_drewN | apply Kd.R_drew)); exact HO_5.out) hb)
                                        have n1_ := Aside0.mk (Kd.R_below (by (with_reducible repeat (first | apply Kd.R_alloc | apply Kd.R_drewN | apply Kd.R_drew)); exact HO_44.out) hb)
                                        have n2_ := Aside0.mk (below_step (by repeat (first | (with_reducible first | exact HB.out | apply below_alloc | apply pw_below_drewN | apply below_drew1) | exact HB.out)) hb)
                                        clear HO_5
                                        clear HO_44
                                        clear HB
                                        have HO_5 := n0_
                                        have HO_44 := n1_
                                        have HB := n2_
                                        clear n0_ n1_ n2_
                                        (try clear hb)
                                        (try clear hb2)
                                        (try clear hk)
                                        (try clear hi)
                                        refine hK.out _ _ (((HB.out.cell (World.block_lt_of_cell? w _ hw167_0)).trans hw167_0)) (fun hHeld => ?_)
                                        clear hK K
                                        refine norm_ (a' := ?_) ?_ ?_
                                        rotate_left
                                        · show Act.put _ (some 104) _ = _
                                          simp only [Act.put, List.setIfInBounds_toArray, List.set_cons_zero, List.set_cons_succ, i64_w, i32_w]
                                          rfl
                                        refine pure_ (i := 13) (N := some 108) (v := ?_) (a' := ?_) #[true, true, true, true, true, true, true, true, true, true, true, true, true, true, false, false] rfl rfl (any_of HT_.out (by kernel_rfl)) (fun _ _ _ h => h) (Or.inl ⟨by rfl, ?_⟩) ?_ ?_
                                        rotate_left
                                        · intro w'
                                          go_simp
                                          with_reducible rfl
                                        rotate_left
                                        · simp only [Act.put, List.setIfInBounds_toArray, List.set_cons_zero, List.set_cons_succ, i64_w, i32_w]
                                          rfl
                                        refine pure_ (i := 14) (N := some 109) (v := ?_) (a' := ?_) #[true, true, true, true, true, true, true, true, true, true, true, true, true, true, true, false] rfl rfl (any_of HT_.out (by kernel_rfl)) (fun _ _ _ h => h) (Or.inl ⟨by rfl, ?_⟩) ?_ ?_
                                        rotate_left
                                        · intro w'
                                          go_simp
                                          with_reducible rfl
                                        rotate_left
                                        · simp only [Act.put, List.setIfInBounds_toArray, List.set_cons_zero, List.set_cons_succ, i64_w, i32_w]
                                          rfl
                                        refine pure_ (i := 15) (N := some 7) (v := ?_) (a' := ?_) #[true, true, true, true, true, true, true, true, true, true, true, true, true, true, true, true] rfl rfl (any_of HT_.out (by kernel_rfl)) (fun _ _ _ h => h) (Or.inl ⟨by rfl, ?_⟩) ?_ ?_
                                        rotate_left
                                        · intro w'
                                          go_simp
                                          with_reducible rfl
                                        rotate_left
                                        · simp only [Act.put, List.setIfInBounds_toArray, List.set_cons_zero, List.set_cons_succ, i64_w, i32_w]
                                          rfl
                                        refine done_ (done_of HT_.out (by kernel_rfl)) ?_
                                        try go_wp2_with (first | ((with_reducible refine gate_callee (f := 15) rfl ?_); refine goesL_ (some 112) rfl rfl Tryd.func15 (by kernel_rfl) rfl #[.string a0] rfl (by (try simp only [List.map_toArray, List.map_cons, List.map_nil]); first | done | rfl | (simp only [List.length_drop, List.length_take]; rfl)) ?_; (with_reducible refine (impl_ParseMatchers.calls a0 t169 t170 _ ?side1 A59.out).mono ?_); (case side1 => exact Go.Proofs.YtmjoebnphacadaaDoor.Lex.ETx.below HTW_.out (by repeat (first | (with_reducible first | exact HB.out | apply below_alloc | apply pw_below_drewN | apply below_drew1) | exact HB.out))); rintro e w71 ⟨v171, rfl, ho0, hb⟩; refine ⟨_, rfl, ?_⟩; have n0_ := Aside0.mk (Kd.R_below (by (with_reducible repeat (first | apply Kd.R_alloc | apply Kd.R_drewN | apply Kd.R_drew)); exact HO_5.out) hb); have n1_ := Aside0.mk (Kd.R_below (by (with_reducible repeat (first | apply Kd.R_alloc | apply Kd.R_drewN | apply Kd.R_drew)); exact HO_44.out) hb); have n2_ := Aside0.mk (Kd.R_lower ho0 (below_size (by repeat (first | (with_reducible first | exact HB.out | apply below_alloc | apply pw_below_drewN | apply below_drew1) | exact HB.out)))); have n3_ := Aside0.mk (below_step (by repeat (first | (with_reducible first | exact HB.out | apply below_alloc | apply pw_below_drewN | apply below_drew1) | exact HB.out)) hb); clear HO_5; clear HO_44; clear HB; have HO_5 := n0_; have HO_44 := n1_; have HO172 := n2_; have HB := n3_; clear n0_ n1_ n2_ n3_; (try clear hb); (try clear hb2); (try clear hk); (try clear hi); (try clear ho0)) | ((with_reducible refine gate_callee (f := 15) rfl ?_); refine goesL_ (some 117) rfl rfl Tryd.func15 (by kernel_rfl) rfl #[.string (x7_3 ++ (t168 ++ (a0.extract (x8_3 : Int).toNat a0.size)))] rfl (by (try simp only [List.map_toArray, List.map_cons, List.map_nil]); first | done | rfl | (simp only [List.length_drop, List.length_take]; rfl)) ?_; (with_reducible refine (impl_ParseMatchers.calls (x7_3 ++ (t168 ++ (a0.extract (x8_3 : Int).toNat a0.size))) t173 t174 _ ?side1 A60.out).mono ?_); (case side1 => exact Go.Proofs.YtmjoebnphacadaaDoor.Lex.ETx.below HTW_.out (by repeat (first | (with_reducible first | exact HB.out | apply below_alloc | apply pw_below_drewN | apply below_drew1) | exact HB.out))); rintro e w72 ⟨v175, rfl, ho0, hb⟩; refine ⟨_, rfl, ?_⟩; have n0_ := Aside0.mk (Kd.R_below (by (with_reducible repeat (first | apply Kd.R_alloc | apply Kd.R_drewN | apply Kd.R_drew)); exact HO_5.out) hb); have n1_ := Aside0.mk (Kd.R_below (by (with_reducible repeat (first | apply Kd.R_alloc | apply Kd.R_drewN | apply Kd.R_drew)); exact HO_44.out) hb); have n2_ := Aside0.mk (Kd.R_elder' (by (with_reducible repeat (first | apply Kd.R_alloc | apply Kd.R_drewN | apply Kd.R_drew)); exact HO172.out) (Kd.R_base ho0) hb); have n3_ := Aside0.mk (Kd.R_lower (Kd.R_new' ho0 (Kd.R_lt (by (with_reducible repeat (first | apply Kd.R_alloc | apply Kd.R_drewN | apply Kd.R_drew)); exact HO172.out))) (below_size (by repeat (first | (with_reducible first | exact HB.out | apply below_alloc | apply pw_below_drewN | apply below_drew1) | exact HB.out)))); have n4_ := Aside0.mk (below_step (by repeat (first | (with_reducible first | exact HB.out | apply below_alloc | apply pw_below_drewN | apply below_drew1) | exact HB.out)) hb); clear HO_5; clear HO_44; clear HO172; clear HB; have HO_5 := n0_; have HO_44 := n1_; have HO172 := n2_; have HO176 := n3_; have HB := n4_; clear n0_ n1_ n2_ n3_ n4_; (try clear hb); (try clear hb2); (try clear hk); (try clear hi); (try clear ho0)))
                                        go_ret
                                        exact ⟨by first | rfl | (simp [errW_none, errW_some] <;> rfl) | (simp only [← hji51]; first | rfl | (simp [errW_none, errW_some] <;> rfl)) | (simp [*, errW_none, errW_some] <;> rfl), by repeat (first | (with_reducible first | exact HB.out | apply below_alloc | apply pw_below_drewN | apply below_drew1) | exact HB.out)⟩
                                    · rw [if_neg c58] at H
                                      exact absurd H (by simp)
                                  · rw [if_neg c57] at H
                                    exact absurd H (by simp)
                                · rw [if_neg c56] at H
                                  exact absurd H (by simp)
                              · rw [if_neg c55] at H
                                exact absurd H (by simp)
                            · rw [if_neg c53] at H
                              exact absurd H (by simp)
                          · rw [if_neg c52] at H
                            exact absurd H (by simp)
                · replace c15 := Bool.eq_false_iff.mpr c15
                  subst c15
                  have H1 : (some true) = some r := by rw [if_neg (show ¬ (false = true) by decide)] at H; exact H
                  clear H
                  have H := H1
                  clear H1
                  obtain rfl := Option.some.inj H
                  go_wp2_with (first | ((with_reducible refine gate_callee (f := 9) rfl ?_); refine goesL_ (some 39) rfl rfl Tryd.func9 (by kernel_rfl) rfl #[.string a0] rfl (by (try simp only [List.map_toArray, List.map_cons, List.map_nil]); first | done | rfl | (simp only [List.length_drop, List.length_take]; rfl)) ?_; (with_reducible refine (impl_Tokens.calls a0 t159 false _ ?side1 A14.out).mono ?_); (case side1 => exact Go.Proofs.YtmjoebnphacadaaDoor.Lex.ETx.below HTW_.out (by repeat (first | (with_reducible first | exact HB.out | apply below_alloc | apply pw_below_drewN | apply below_drew1) | exact HB.out))); rintro e w73 ⟨v161, rfl, ho0, hb⟩; refine ⟨_, rfl, ?_⟩; have n0_ := Aside0.mk (Kd.R_lower ho0 (below_size (by repeat (first | (with_reducible first | exact HB.out | apply below_alloc | apply pw_below_drewN | apply below_drew1) | exact HB.out)))); have n1_ := Aside0.mk (below_step (by repeat (first | (with_reducible first | exact HB.out | apply below_alloc | apply pw_below_drewN | apply below_drew1) | exact HB.out)) hb); clear HB; have HO162 := n0_; have HB := n1_; clear n0_ n1_; (try clear hb); (try clear hb2); (try clear hk); (try clear hi); (try clear ho0)))
                  go_ret
                  exact ⟨by first | rfl | (simp [errW_none, errW_some] <;> rfl) | (simp [*, errW_none, errW_some] <;> rfl), by repeat (first | (with_reducible first | exact HB.out | apply below_alloc | apply pw_below_drewN | apply below_drew1) | exact HB.out)⟩
        · replace c7 := Bool.eq_false_iff.mpr c7
          subst c7
          have H1 : (some false) = some r := by rw [if_neg (show ¬ (false = true) by decide)] at H; exact H
          clear H
          have H := H1
          clear H1
          obtain rfl := Option.some.inj H
          go_wp2_with (first | ((with_reducible refine gate_callee (f := 13) rfl ?_); refine goesL_ (some 23) rfl rfl Tryd.func13 (by kernel_rfl) rfl #[] rfl (by (try simp only [List.map_toArray, List.map_cons, List.map_nil]); first | done | rfl | (simp only [List.length_drop, List.length_take]; rfl)) ?_; (with_reducible refine (laws_one.calls  false _ ?side1 A6.out).mono ?_); (case side1 => exact Go.Proofs.YtmjoebnphacadaaDoor.Lex.ETx.below HTW_.out (by repeat (first | (with_reducible first | exact HB.out | apply below_alloc | apply pw_below_drewN | apply below_drew1) | exact HB.out))); rintro e w74 ⟨rfl, hb⟩; refine ⟨_, rfl, ?_⟩; have n0_ := Aside0.mk (below_step (by repeat (first | (with_reducible first | exact HB.out | apply below_alloc | apply pw_below_drewN | apply below_drew1) | exact HB.out)) hb); clear HB; have HB := n0_; clear n0_; (try clear hb); (try clear hb2); (try clear hk); (try clear hi)))
          go_ret
          exact ⟨by first | rfl | (simp [errW_none, errW_some] <;> rfl) | (simp [*, errW_none, errW_some] <;> rfl), by repeat (first | (with_reducible first | exact HB.out | apply below_alloc | apply pw_below_drewN | apply below_drew1) | exact HB.out)⟩

/-- THE ONE PURE STATEMENT of laws_FnBlanks: yours. -/
noncomputable def laws_FnBlanks.Pure : Prop := ∀ (a0 : ByteArray) (l1 : List Int), a0.size ≤ maxLen → (l1.length ≤ maxLen ∧ ∀ y ∈ l1, (Lit.int .u8 y).wf = true) → ∃ k, laws_FnBlanks.f k a0 l1 = some true

end Go.Proofs.YtmjoebnphacadaaDoor.Q
