-- printed by this project's own program wip/tools/mkprint.py (the kit's print.py with hand-proved contracts put in)
import Derived.Test.YtmjoebnphacadaaDoorQx0
import Derived.Test.YtmjoebnphacadaaDoorQx1
import Derived.Test.YtmjoebnphacadaaDoorQx38
import Derived.Test.YtmjoebnphacadaaDoorQx41
namespace Go.Proofs.YtmjoebnphacadaaDoor.Q
open Go.RowKit Go.Proofs.YtmjoebnphacadaaDoorW.PrintWords Go.Proofs.YtmjoebnphacadaaDoorW.PrintLast Go.Proofs.YtmjoebnphacadaaDoorW.PrintMore
attribute [local go_sem] max2_int min2_int max_two min_two max_three min_three max_four min_four   -- for this text's walks alone
set_option linter.unusedVariables false
set_option linter.unusedSimpArgs false

attribute [local go_sem high] eqA35
/-! ### laws_FnUnquoted: function 6 -/
mutual
noncomputable def laws_FnUnquoted.j0 : Nat → ByteArray → ByteArray → Bool → Bool → Option (Bool)
  | 0, _, _, _, _ => none
  | k + 1, x0, x1, x2, x20 => if x20 = true then (some true) else (if (x0.size : Int) > 5000 then (laws_FnUnquoted.j1 k x0 x1 x2 true) else (laws_FnUnquoted.j1 k x0 x1 x2 (decide ((x1.size : Int) > 5000))))
noncomputable def laws_FnUnquoted.j1 : Nat → ByteArray → ByteArray → Bool → Bool → Option (Bool)
  | 0, _, _, _, _ => none
  | k + 1, x0, x1, x2, x28 => if x28 = true then (some true) else ((laws_safe.f k x0).bind fun t139 => ((laws_safe.f k x1).bind fun t140 => (if x2 = true then (if t139.size + 2 ≤ 9223372036854775807 then (if (t139 ++ (⟨#[33, 61]⟩ : ByteArray)).size + t140.size ≤ 9223372036854775807 then ((impl_ParseMatcher.f ((t139 ++ (⟨#[33, 61]⟩ : ByteArray)) ++ t140)).bind fun bt141 => (if bt141.2.2.2 = true then (some (bt141.1 == 1 && (bt141.2.1.toList == t139.toList && (bt141.2.2.1.toList == t140.toList)))) else (some false))) else (none)) else (none)) else (if t139.size + 1 ≤ 9223372036854775807 then (if (t139 ++ (⟨#[61]⟩ : ByteArray)).size + t140.size ≤ 9223372036854775807 then ((impl_ParseMatcher.f ((t139 ++ (⟨#[61]⟩ : ByteArray)) ++ t140)).bind fun bt146 => (if bt146.2.2.2 = true then (some (bt146.1 == 0 && (bt146.2.1.toList == t139.toList && (bt146.2.2.1.toList == t140.toList)))) else (some false))) else (none)) else (none)))))
end
noncomputable def laws_FnUnquoted.f (k : Nat) (a0 : ByteArray) (a1 : ByteArray) (a2 : Bool) : Option (Bool) := if (a0.size : Int) > 2147483647 then (laws_FnUnquoted.j0 k a0 a1 a2 true) else (laws_FnUnquoted.j0 k a0 a1 a2 (decide ((a1.size : Int) > 2147483647)))
theorem laws_FnUnquoted.mono_l : ∀ k, (∀ y0 y1 y2 y3, LeO (laws_FnUnquoted.j0 k y0 y1 y2 y3) (laws_FnUnquoted.j0 (k + 1) y0 y1 y2 y3)) ∧ (∀ y0 y1 y2 y3, LeO (laws_FnUnquoted.j1 k y0 y1 y2 y3) (laws_FnUnquoted.j1 (k + 1) y0 y1 y2 y3))
  | 0 => ⟨fun _ _ _ _ r h => by simp [laws_FnUnquoted.j0] at h, fun _ _ _ _ r h => by simp [laws_FnUnquoted.j1] at h⟩
  | k + 1 => by
    obtain ⟨ih0, ih1⟩ := laws_FnUnquoted.mono_l k
    refine ⟨?_, ?_⟩
    · intro y0 y1 y2 y3
      unfold laws_FnUnquoted.j0
      repeat' first
      | (with_reducible exact ih0 _ _ _ _)
      | (with_reducible exact ih1 _ _ _ _)
      | (with_reducible exact laws_safe.mono _ _)
      | (with_reducible exact LeO.refl _)
      | (with_reducible exact LeO.none _)
      | (with_reducible refine LeO.ite ?_ ?_)
      | (with_reducible refine LeO.bind ?_ (fun _ => ?_))
      | exact ih0 _ _ _ _
      | exact ih1 _ _ _ _
      | exact laws_safe.mono _ _
      | exact LeO.none _
      | refine LeO.ite ?_ ?_
      | refine LeO.bind ?_ (fun _ => ?_)
    · intro y0 y1 y2 y3
      unfold laws_FnUnquoted.j1
      repeat' first
      | (with_reducible exact ih0 _ _ _ _)
      | (with_reducible exact ih1 _ _ _ _)
      | (with_reducible exact laws_safe.mono _ _)
      | (with_reducible exact LeO.refl _)
      | (with_reducible exact LeO.none _)
      | (with_reducible refine LeO.ite ?_ ?_)
      | (with_reducible refine LeO.bind ?_ (fun _ => ?_))
      | exact ih0 _ _ _ _
      | exact ih1 _ _ _ _
      | exact laws_safe.mono _ _
      | exact LeO.none _
      | refine LeO.ite ?_ ?_
      | refine LeO.bind ?_ (fun _ => ?_)
theorem laws_FnUnquoted.mono : ∀ a0 a1 a2 k, LeO (laws_FnUnquoted.f k a0 a1 a2) (laws_FnUnquoted.f (k + 1) a0 a1 a2) := by
  intro a0 a1 a2 k
  obtain ⟨ih0, ih1⟩ := laws_FnUnquoted.mono_l k
  unfold laws_FnUnquoted.f
  repeat' first
      | (with_reducible exact ih0 _ _ _ _)
      | (with_reducible exact ih1 _ _ _ _)
      | (with_reducible exact laws_safe.mono _ _)
      | (with_reducible exact LeO.refl _)
      | (with_reducible exact LeO.none _)
      | (with_reducible refine LeO.ite ?_ ?_)
      | (with_reducible refine LeO.bind ?_ (fun _ => ?_))
      | exact ih0 _ _ _ _
      | exact ih1 _ _ _ _
      | exact laws_safe.mono _ _
      | exact LeO.none _
      | refine LeO.ite ?_ ?_
      | refine LeO.bind ?_ (fun _ => ?_)
set_option maxHeartbeats 8000000 in
set_option maxRecDepth 100000 in
theorem laws_FnUnquoted.calls (k : Nat) (a0 : ByteArray) (a1 : ByteArray) (a2 : Bool) (r : Bool) (w : World) (hT_ : Go.Proofs.YtmjoebnphacadaaDoor.Lex.ETx w) (h : laws_FnUnquoted.f k a0 a1 a2 = some r) :
    Calls Tryd.prog 6 #[.string a0, .string a1, .bool a2] w fun e w' => e = .returned (.bool r) ∧ Below w.heap.size w w' := by
  have HT_ := Aside0.mk hT_
  clear hT_
  have hu35 := Tryd.underlying35
  have HB := Aside0.mk (Below.refl w.heap.size w)
  have H : (if (a0.size : Int) > 2147483647 then (laws_FnUnquoted.j0 k a0 a1 a2 true) else (laws_FnUnquoted.j0 k a0 a1 a2 (decide ((a1.size : Int) > 2147483647)))) = some r := h
  clear h
  have HC4 := Aside0.mk H
  clear H
  go_enter Tryd.func6, Tryd.ntmps6
  go_upto_region 1 with (fail)
  go_cut [20] (fun v20 wc => ∃ (kq : Nat) (x20_3 : Bool), v20 = .bool x20_3 ∧ Aside0 (laws_FnUnquoted.j0 kq a0 a1 a2 x20_3 = some r) ∧ Aside0 (kq ≤ k) ∧ Aside0 (Below w.heap.size w wc))
  case first =>
    have H := HC4.out
    clear HC4
    by_cases c5 : (a0.size : Int) > 2147483647
    · rw [if_pos c5] at H
      have c5b0 : decide (2147483647 < (a0.size : Int)) = true := decide_eq_true c5
      have c5b1 : decide (2147483647 < a0.size) = true := decide_eq_true (by omega)
      clear c5
      (first | rw [c5b0] | (simp only [i64_w, i32_w]; rw [c5b0]) | skip)
      have H' := Aside0.mk H
      clear H
      go_wp2
      go_meet
      case rel => exact ⟨_, (true), (by first | rfl | (simp; done) | (simp [*]; done)), H', ⟨by first | omega | exact Nat.le_refl _⟩, ⟨by repeat (first | (with_reducible first | exact HB.out | apply below_alloc | apply pw_below_drewN | apply below_drew1) | exact HB.out)⟩⟩
    · rw [if_neg c5] at H
      have c5b0 : decide (2147483647 < (a0.size : Int)) = false := decide_eq_false c5
      have c5b1 : decide (2147483647 < a0.size) = false := decide_eq_false (by omega)
      clear c5
      (first | rw [c5b0] | (simp only [i64_w, i32_w]; rw [c5b0]) | skip)
      have H' := Aside0.mk H
      clear H
      go_wp2
      go_meet
      case rel => exact ⟨_, (decide ((a1.size : Int) > 2147483647)), (by first | rfl | (simp; done) | (simp [*]; done)), H', ⟨by first | omega | exact Nat.le_refl _⟩, ⟨by repeat (first | (with_reducible first | exact HB.out | apply below_alloc | apply pw_below_drewN | apply below_drew1) | exact HB.out)⟩⟩
  case rest =>
    clear HC4
    try clear p2
    try clear c5
    try clear c5b0
    try clear c5b1
    obtain ⟨kq, x20_3, rfl, HA, HJ3, HB⟩ := hcut
    cases kq with
    | zero => exact absurd HA.out (by simp [laws_FnUnquoted.j0])
    | succ kj3 =>
      have H := HA.out
      clear HA
      simp only [laws_FnUnquoted.j0] at H
      by_cases c6 : x20_3 = true
      · subst c6
        have H1 : (some true) = some r := by rw [if_pos rfl] at H; exact H
        clear H
        have H := H1
        clear H1
        obtain rfl := Option.some.inj H
        go_wp2
        go_ret
        exact ⟨by first | rfl | (simp [errW_none, errW_some] <;> rfl) | (simp [*, errW_none, errW_some] <;> rfl), by repeat (first | (with_reducible first | exact HB.out | apply below_alloc | apply pw_below_drewN | apply below_drew1) | exact HB.out)⟩
      · replace c6 := Bool.eq_false_iff.mpr c6
        subst c6
        have H1 : (if (a0.size : Int) > 5000 then (laws_FnUnquoted.j1 kj3 a0 a1 a2 true) else (laws_FnUnquoted.j1 kj3 a0 a1 a2 (decide ((a1.size : Int) > 5000)))) = some r := by rw [if_neg (show ¬ (false = true) by decide)] at H; exact H
        clear H
        have H := H1
        clear H1
        have HC7 := Aside0.mk H
        clear H
        go_upto_region 3 with (fail)
        go_cut [28] (fun v28 wc => ∃ (kq : Nat) (x28_6 : Bool), v28 = .bool x28_6 ∧ Aside0 (laws_FnUnquoted.j1 kq a0 a1 a2 x28_6 = some r) ∧ Aside0 (kq ≤ kj3) ∧ Aside0 (Below w.heap.size w wc))
        case first =>
          have H := HC7.out
          clear HC7
          by_cases c8 : (a0.size : Int) > 5000
          · rw [if_pos c8] at H
            have c8b0 : decide (5000 < (a0.size : Int)) = true := decide_eq_true c8
            have c8b1 : decide (5000 < a0.size) = true := decide_eq_true (by omega)
            clear c8
            (first | rw [c8b0] | (simp only [i64_w, i32_w]; rw [c8b0]) | skip)
            have H' := Aside0.mk H
            clear H
            go_wp2
            go_meet
            case rel => exact ⟨_, (true), (by first | rfl | (simp; done) | (simp [*]; done)), H', ⟨by have := HJ3.out; first | omega | exact Nat.le_refl _⟩, ⟨by repeat (first | (with_reducible first | exact HB.out | apply below_alloc | apply pw_below_drewN | apply below_drew1) | exact HB.out)⟩⟩
          · rw [if_neg c8] at H
            have c8b0 : decide (5000 < (a0.size : Int)) = false := decide_eq_false c8
            have c8b1 : decide (5000 < a0.size) = false := decide_eq_false (by omega)
            clear c8
            (first | rw [c8b0] | (simp only [i64_w, i32_w]; rw [c8b0]) | skip)
            have H' := Aside0.mk H
            clear H
            go_wp2
            go_meet
            case rel => exact ⟨_, (decide ((a1.size : Int) > 5000)), (by first | rfl | (simp; done) | (simp [*]; done)), H', ⟨by have := HJ3.out; first | omega | exact Nat.le_refl _⟩, ⟨by repeat (first | (with_reducible first | exact HB.out | apply below_alloc | apply pw_below_drewN | apply below_drew1) | exact HB.out)⟩⟩
        case rest =>
          clear HC7
          try clear p2
          try clear c5
          try clear c5b0
          try clear c5b1
          try clear c6
          try clear c8
          try clear c8b0
          try clear c8b1
          try clear p2
          obtain ⟨kq, x28_6, rfl, HA, HJ6, HB⟩ := hcut
          cases kq with
          | zero => exact absurd HA.out (by simp [laws_FnUnquoted.j1])
          | succ kj6 =>
            have H := HA.out
            clear HA
            simp only [laws_FnUnquoted.j1] at H
            by_cases c9 : x28_6 = true
            · subst c9
              have H1 : (some true) = some r := by rw [if_pos rfl] at H; exact H
              clear H
              have H := H1
              clear H1
              obtain rfl := Option.some.inj H
              go_wp2
              go_ret
              exact ⟨by first | rfl | (simp [errW_none, errW_some] <;> rfl) | (simp [*, errW_none, errW_some] <;> rfl), by repeat (first | (with_reducible first | exact HB.out | apply below_alloc | apply pw_below_drewN | apply below_drew1) | exact HB.out)⟩
            · replace c9 := Bool.eq_false_iff.mpr c9
              subst c9
              have H1 : ((laws_safe.f kj6 a0).bind fun t139 => ((laws_safe.f kj6 a1).bind fun t140 => (if a2 = true then (if t139.size + 2 ≤ 9223372036854775807 then (if (t139 ++ (⟨#[33, 61]⟩ : ByteArray)).size + t140.size ≤ 9223372036854775807 then ((impl_ParseMatcher.f ((t139 ++ (⟨#[33, 61]⟩ : ByteArray)) ++ t140)).bind fun bt141 => (if bt141.2.2.2 = true then (some (bt141.1 == 1 && (bt141.2.1.toList == t139.toList && (bt141.2.2.1.toList == t140.toList)))) else (some false))) else (none)) else (none)) else (if t139.size + 1 ≤ 9223372036854775807 then (if (t139 ++ (⟨#[61]⟩ : ByteArray)).size + t140.size ≤ 9223372036854775807 then ((impl_ParseMatcher.f ((t139 ++ (⟨#[61]⟩ : ByteArray)) ++ t140)).bind fun bt146 => (if bt146.2.2.2 = true then (some (bt146.1 == 0 && (bt146.2.1.toList == t139.toList && (bt146.2.2.1.toList == t140.toList)))) else (some false))) else (none)) else (none))))) = some r := by rw [if_neg (show ¬ (false = true) by decide)] at H; exact H
              clear H
              have H := H1
              clear H1
              replace H := Option.bind_eq_some_iff.mp H
              obtain ⟨t139, A100, H⟩ := H
              replace H : ((laws_safe.f kj6 a1).bind fun t140 => (if a2 = true then (if t139.size + 2 ≤ 9223372036854775807 then (if (t139 ++ (⟨#[33, 61]⟩ : ByteArray)).size + t140.size ≤ 9223372036854775807 then ((impl_ParseMatcher.f ((t139 ++ (⟨#[33, 61]⟩ : ByteArray)) ++ t140)).bind fun bt141 => (if bt141.2.2.2 = true then (some (bt141.1 == 1 && (bt141.2.1.toList == t139.toList && (bt141.2.2.1.toList == t140.toList)))) else (some false))) else (none)) else (none)) else (if t139.size + 1 ≤ 9223372036854775807 then (if (t139 ++ (⟨#[61]⟩ : ByteArray)).size + t140.size ≤ 9223372036854775807 then ((impl_ParseMatcher.f ((t139 ++ (⟨#[61]⟩ : ByteArray)) ++ t140)).bind fun bt146 => (if bt146.2.2.2 = true then (some (bt146.1 == 0 && (bt146.2.1.toList == t139.toList && (bt146.2.2.1.toList == t140.toList)))) else (some false))) else (none)) else (none)))) = some r := H
              have A10 := Aside0.mk A100
              clear A100
              replace H := Option.bind_eq_some_iff.mp H
              obtain ⟨t140, A110, H⟩ := H
              replace H : (if a2 = true then (if t139.size + 2 ≤ 9223372036854775807 then (if (t139 ++ (⟨#[33, 61]⟩ : ByteArray)).size + t140.size ≤ 9223372036854775807 then ((impl_ParseMatcher.f ((t139 ++ (⟨#[33, 61]⟩ : ByteArray)) ++ t140)).bind fun bt141 => (if bt141.2.2.2 = true then (some (bt141.1 == 1 && (bt141.2.1.toList == t139.toList && (bt141.2.2.1.toList == t140.toList)))) else (some false))) else (none)) else (none)) else (if t139.size + 1 ≤ 9223372036854775807 then (if (t139 ++ (⟨#[61]⟩ : ByteArray)).size + t140.size ≤ 9223372036854775807 then ((impl_ParseMatcher.f ((t139 ++ (⟨#[61]⟩ : ByteArray)) ++ t140)).bind fun bt146 => (if bt146.2.2.2 = true then (some (bt146.1 == 0 && (bt146.2.1.toList == t139.toList && (bt146.2.2.1.toList == t140.toList)))) else (some false))) else (none)) else (none))) = some r := H
              have A11 := Aside0.mk A110
              clear A110
              by_cases c12 : a2 = true
              · subst c12
                have H1 : (if t139.size + 2 ≤ 9223372036854775807 then (if (t139 ++ (⟨#[33, 61]⟩ : ByteArray)).size + t140.size ≤ 9223372036854775807 then ((impl_ParseMatcher.f ((t139 ++ (⟨#[33, 61]⟩ : ByteArray)) ++ t140)).bind fun bt141 => (if bt141.2.2.2 = true then (some (bt141.1 == 1 && (bt141.2.1.toList == t139.toList && (bt141.2.2.1.toList == t140.toList)))) else (some false))) else (none)) else (none)) = some r := by rw [if_pos rfl] at H; exact H
                clear H
                have H := H1
                clear H1
                by_cases c13 : t139.size + 2 ≤ 9223372036854775807
                · rw [if_pos c13] at H
                  have c13b0 := eq_true c13
                  have c13b1 : decide (t139.size + 2 ≤ 9223372036854775807) = true := decide_eq_true c13
                  try have c13b2 : (9223372036854775807 < t139.size + 2) = False := eq_false (Nat.not_lt.2 c13)
                  by_cases c14 : (t139 ++ (⟨#[33, 61]⟩ : ByteArray)).size + t140.size ≤ 9223372036854775807
                  · rw [if_pos c14] at H
                    have c14b0 := eq_true c14
                    have c14b1 : decide ((t139 ++ (⟨#[33, 61]⟩ : ByteArray)).size + t140.size ≤ 9223372036854775807) = true := decide_eq_true c14
                    try have c14b2 : (9223372036854775807 < (t139 ++ (⟨#[33, 61]⟩ : ByteArray)).size + t140.size) = False := eq_false (Nat.not_lt.2 c14)
                    try have c14b3 := c14b2
                    try simp only [ByteArray.size_append, show (⟨#[33, 61]⟩ : ByteArray).size = 2 from rfl] at c14b3
                    replace H := Option.bind_eq_some_iff.mp H
                    obtain ⟨⟨t141, t142, t143, t144⟩, A150, H⟩ := H
                    replace H : (if t144 = true then (some (t141 == 1 && (t142.toList == t139.toList && (t143.toList == t140.toList)))) else (some false)) = some r := H
                    have A15 := Aside0.mk A150
                    clear A150
                    by_cases c16 : t144 = true
                    · subst c16
                      have H1 : (some (t141 == 1 && (t142.toList == t139.toList && (t143.toList == t140.toList)))) = some r := by rw [if_pos rfl] at H; exact H
                      clear H
                      have H := H1
                      clear H1
                      obtain rfl := Option.some.inj H
                      go_wp2_with (first | ((with_reducible refine gate_callee (f := 17) rfl ?_); refine goesL_ (some 30) rfl rfl Tryd.func17 (by kernel_rfl) rfl #[.string a0] rfl (by (try simp only [List.map_toArray, List.map_cons, List.map_nil]); first | done | rfl | (simp only [List.length_drop, List.length_take]; rfl)) ?_; (with_reducible refine (laws_safe.calls kj6 a0 t139 _ A10.out).mono ?_); rintro e w' ⟨rfl, ⟨nd, rfl⟩⟩; refine ⟨_, rfl, ?_⟩; (try (rw [drewN_self wc]; generalize hq_ : World.drewN wc _ = wc; have n0_ : Aside0 (Below w.heap.size w wc) := ⟨by rw [← hq_]; exact (by repeat (first | (with_reducible first | exact HB.out | apply below_alloc | apply pw_below_drewN | apply below_drew1) | exact HB.out))⟩; clear HB hq_; have HB := n0_; clear n0_))) | ((with_reducible refine gate_callee (f := 17) rfl ?_); refine goesL_ (some 32) rfl rfl Tryd.func17 (by kernel_rfl) rfl #[.string a1] rfl (by (try simp only [List.map_toArray, List.map_cons, List.map_nil]); first | done | rfl | (simp only [List.length_drop, List.length_take]; rfl)) ?_; (with_reducible refine (laws_safe.calls kj6 a1 t140 _ A11.out).mono ?_); rintro e w' ⟨rfl, ⟨nd, rfl⟩⟩; refine ⟨_, rfl, ?_⟩; (try (rw [drewN_self wc]; generalize hq_ : World.drewN wc _ = wc; have n0_ : Aside0 (Below w.heap.size w wc) := ⟨by rw [← hq_]; exact (by repeat (first | (with_reducible first | exact HB.out | apply below_alloc | apply pw_below_drewN | apply below_drew1) | exact HB.out))⟩; clear HB hq_; have HB := n0_; clear n0_))) | ((with_reducible refine gate_callee (f := 18) rfl ?_); refine goesL_ (some 40) rfl rfl Tryd.func18 (by kernel_rfl) rfl #[.string ((t139 ++ (⟨#[33, 61]⟩ : ByteArray)) ++ t140)] rfl (by (try simp only [List.map_toArray, List.map_cons, List.map_nil]); first | done | rfl | (simp only [List.length_drop, List.length_take]; rfl)) ?_; (with_reducible refine (impl_ParseMatcher.calls ((t139 ++ (⟨#[33, 61]⟩ : ByteArray)) ++ t140) t141 t142 t143 true _ ?side1 A15.out).mono ?_); (case side1 => exact Go.Proofs.YtmjoebnphacadaaDoor.Lex.ETx.below HT_.out (by repeat (first | (with_reducible first | exact HB.out | apply below_alloc | apply pw_below_drewN | apply below_drew1) | exact HB.out))); rintro e w17 ⟨rfl, hb⟩; refine ⟨_, rfl, ?_⟩; have n0_ := Aside0.mk (below_step (by repeat (first | (with_reducible first | exact HB.out | apply below_alloc | apply pw_below_drewN | apply below_drew1) | exact HB.out)) hb); clear HB; have HB := n0_; clear n0_; (try clear hb); (try clear hb2); (try clear hk); (try clear hi)) | ((with_reducible refine gate_dst (N := 11) rfl ?_); (try (refine gate_guard (by rfl) ?_; dsimp only)); refine box_event ?hg (N := 11) ?hd (cs := #[.int .i64 0, .string (⟨#[]⟩ : ByteArray), .string (⟨#[]⟩ : ByteArray)]) (t := 35) ?hr ?_; (case hd => rfl); (case hg => rfl); (case hr => first | (go_simp; done) | (go_simp; rfl)); intro gb145 hg w18 hbox hb; have n0_ := Aside0.mk (below_step (by repeat (first | (with_reducible first | exact HB.out | apply below_alloc | apply pw_below_drewN | apply below_drew1) | exact HB.out)) hb); have n1_ := Aside0.mk (hbox); have n2_ := Aside0.mk ((by rw [hg]; exact (below_size (by repeat (first | (with_reducible first | exact HB.out | apply below_alloc | apply pw_below_drewN | apply below_drew1) | exact HB.out))) : w.heap.size ≤ gb145)); have n3_ := Aside0.mk ((by rw [hg]; exact (below_size (by repeat (first | (with_reducible first | exact HB.out | apply below_alloc | apply pw_below_drewN | apply below_drew1) | exact HB.out))) : w.heap.size ≤ gb145)); clear HB; have HB := n0_; have BK145 := n1_; have GW145 := n2_; have GE145 := n3_; clear n0_ n1_ n2_ n3_; clear hb hbox hg; have hcz19_0 : w18.cell? ⟨gb145, 0, none⟩ = some (.int .i64 0) := (blk_cell BK145.out 0).trans rfl; have hcz19_1 : w18.cell? ⟨gb145, 1, none⟩ = some (.string (⟨#[]⟩ : ByteArray)) := (blk_cell BK145.out 1).trans rfl; have hcz19_2 : w18.cell? ⟨gb145, 2, none⟩ = some (.string (⟨#[]⟩ : ByteArray)) := (blk_cell BK145.out 2).trans rfl; have hfz19_0 := blk_frozen BK145.out 0; have hfz19_1 := blk_frozen BK145.out 1; have hfz19_2 := blk_frozen BK145.out 2))
                      go_ret
                      exact ⟨by first | rfl | (simp [errW_none, errW_some] <;> rfl) | (simp [*, errW_none, errW_some] <;> rfl), by repeat (first | (with_reducible first | exact HB.out | apply below_alloc | apply pw_below_drewN | apply below_drew1 | refine below_set ?_ GE145.out) | exact HB.out)⟩
                    · replace c16 := Bool.eq_false_iff.mpr c16
                      subst c16
                      have H1 : (some false) = some r := by rw [if_neg (show ¬ (false = true) by decide)] at H; exact H
                      clear H
                      have H := H1
                      clear H1
                      obtain rfl := Option.some.inj H
                      go_wp2_with (first | ((with_reducible refine gate_callee (f := 17) rfl ?_); refine goesL_ (some 30) rfl rfl Tryd.func17 (by kernel_rfl) rfl #[.string a0] rfl (by (try simp only [List.map_toArray, List.map_cons, List.map_nil]); first | done | rfl | (simp only [List.length_drop, List.length_take]; rfl)) ?_; (with_reducible refine (laws_safe.calls kj6 a0 t139 _ A10.out).mono ?_); rintro e w' ⟨rfl, ⟨nd, rfl⟩⟩; refine ⟨_, rfl, ?_⟩; (try (rw [drewN_self wc]; generalize hq_ : World.drewN wc _ = wc; have n0_ : Aside0 (Below w.heap.size w wc) := ⟨by rw [← hq_]; exact (by repeat (first | (with_reducible first | exact HB.out | apply below_alloc | apply pw_below_drewN | apply below_drew1) | exact HB.out))⟩; clear HB hq_; have HB := n0_; clear n0_))) | ((with_reducible refine gate_callee (f := 17) rfl ?_); refine goesL_ (some 32) rfl rfl Tryd.func17 (by kernel_rfl) rfl #[.string a1] rfl (by (try simp only [List.map_toArray, List.map_cons, List.map_nil]); first | done | rfl | (simp only [List.length_drop, List.length_take]; rfl)) ?_; (with_reducible refine (laws_safe.calls kj6 a1 t140 _ A11.out).mono ?_); rintro e w' ⟨rfl, ⟨nd, rfl⟩⟩; refine ⟨_, rfl, ?_⟩; (try (rw [drewN_self wc]; generalize hq_ : World.drewN wc _ = wc; have n0_ : Aside0 (Below w.heap.size w wc) := ⟨by rw [← hq_]; exact (by repeat (first | (with_reducible first | exact HB.out | apply below_alloc | apply pw_below_drewN | apply below_drew1) | exact HB.out))⟩; clear HB hq_; have HB := n0_; clear n0_))) | ((with_reducible refine gate_callee (f := 18) rfl ?_); refine goesL_ (some 40) rfl rfl Tryd.func18 (by kernel_rfl) rfl #[.string ((t139 ++ (⟨#[33, 61]⟩ : ByteArray)) ++ t140)] rfl (by (try simp only [List.map_toArray, List.map_cons, List.map_nil]); first | done | rfl | (simp only [List.length_drop, List.length_take]; rfl)) ?_; (with_reducible refine (impl_ParseMatcher.calls ((t139 ++ (⟨#[33, 61]⟩ : ByteArray)) ++ t140) t141 t142 t143 false _ ?side1 A15.out).mono ?_); (case side1 => exact Go.Proofs.YtmjoebnphacadaaDoor.Lex.ETx.below HT_.out (by repeat (first | (with_reducible first | exact HB.out | apply below_alloc | apply pw_below_drewN | apply below_drew1) | exact HB.out))); rintro e w20 ⟨rfl, hb⟩; refine ⟨_, rfl, ?_⟩; have n0_ := Aside0.mk (below_step (by repeat (first | (with_reducible first | exact HB.out | apply below_alloc | apply pw_below_drewN | apply below_drew1) | exact HB.out)) hb); clear HB; have HB := n0_; clear n0_; (try clear hb); (try clear hb2); (try clear hk); (try clear hi)) | ((with_reducible refine gate_dst (N := 11) rfl ?_); (try (refine gate_guard (by rfl) ?_; dsimp only)); refine box_event ?hg (N := 11) ?hd (cs := #[.int .i64 0, .string (⟨#[]⟩ : ByteArray), .string (⟨#[]⟩ : ByteArray)]) (t := 35) ?hr ?_; (case hd => rfl); (case hg => rfl); (case hr => first | (go_simp; done) | (go_simp; rfl)); intro gb145 hg w21 hbox hb; have n0_ := Aside0.mk (below_step (by repeat (first | (with_reducible first | exact HB.out | apply below_alloc | apply pw_below_drewN | apply below_drew1) | exact HB.out)) hb); have n1_ := Aside0.mk (hbox); have n2_ := Aside0.mk ((by rw [hg]; exact (below_size (by repeat (first | (with_reducible first | exact HB.out | apply below_alloc | apply pw_below_drewN | apply below_drew1) | exact HB.out))) : w.heap.size ≤ gb145)); have n3_ := Aside0.mk ((by rw [hg]; exact (below_size (by repeat (first | (with_reducible first | exact HB.out | apply below_alloc | apply pw_below_drewN | apply below_drew1) | exact HB.out))) : w.heap.size ≤ gb145)); clear HB; have HB := n0_; have BK145 := n1_; have GW145 := n2_; have GE145 := n3_; clear n0_ n1_ n2_ n3_; clear hb hbox hg; have hcz22_0 : w21.cell? ⟨gb145, 0, none⟩ = some (.int .i64 0) := (blk_cell BK145.out 0).trans rfl; have hcz22_1 : w21.cell? ⟨gb145, 1, none⟩ = some (.string (⟨#[]⟩ : ByteArray)) := (blk_cell BK145.out 1).trans rfl; have hcz22_2 : w21.cell? ⟨gb145, 2, none⟩ = some (.string (⟨#[]⟩ : ByteArray)) := (blk_cell BK145.out 2).trans rfl; have hfz22_0 := blk_frozen BK145.out 0; have hfz22_1 := blk_frozen BK145.out 1; have hfz22_2 := blk_frozen BK145.out 2))
                      go_ret
                      exact ⟨by first | rfl | (simp [errW_none, errW_some] <;> rfl) | (simp [*, errW_none, errW_some] <;> rfl), by repeat (first | (with_reducible first | exact HB.out | apply below_alloc | apply pw_below_drewN | apply below_drew1 | refine below_set ?_ GE145.out) | exact HB.out)⟩
                  · rw [if_neg c14] at H
                    exact absurd H (by simp)
                · rw [if_neg c13] at H
                  exact absurd H (by simp)
              · replace c12 := Bool.eq_false_iff.mpr c12
                subst c12
                have H1 : (if t139.size + 1 ≤ 9223372036854775807 then (if (t139 ++ (⟨#[61]⟩ : ByteArray)).size + t140.size ≤ 9223372036854775807 then ((impl_ParseMatcher.f ((t139 ++ (⟨#[61]⟩ : ByteArray)) ++ t140)).bind fun bt146 => (if bt146.2.2.2 = true then (some (bt146.1 == 0 && (bt146.2.1.toList == t139.toList && (bt146.2.2.1.toList == t140.toList)))) else (some false))) else (none)) else (none)) = some r := by rw [if_neg (show ¬ (false = true) by decide)] at H; exact H
                clear H
                have H := H1
                clear H1
                by_cases c23 : t139.size + 1 ≤ 9223372036854775807
                · rw [if_pos c23] at H
                  have c23b0 := eq_true c23
                  have c23b1 : decide (t139.size + 1 ≤ 9223372036854775807) = true := decide_eq_true c23
                  try have c23b2 : (9223372036854775807 < t139.size + 1) = False := eq_false (Nat.not_lt.2 c23)
                  by_cases c24 : (t139 ++ (⟨#[61]⟩ : ByteArray)).size + t140.size ≤ 9223372036854775807
                  · rw [if_pos c24] at H
                    have c24b0 := eq_true c24
                    have c24b1 : decide ((t139 ++ (⟨#[61]⟩ : ByteArray)).size + t140.size ≤ 9223372036854775807) = true := decide_eq_true c24
                    try have c24b2 : (9223372036854775807 < (t139 ++ (⟨#[61]⟩ : ByteArray)).size + t140.size) = False := eq_false (Nat.not_lt.2 c24)
                    try have c24b3 := c24b2
                    try simp only [ByteArray.size_append, show (⟨#[61]⟩ : ByteArray).size = 1 from rfl] at c24b3
                    replace H := Option.bind_eq_some_iff.mp H
                    obtain ⟨⟨t146, t147, t148, t149⟩, A250, H⟩ := H
                    replace H : (if t149 = true then (some (t146 == 0 && (t147.toList == t139.toList && (t148.toList == t140.toList)))) else (some false)) = some r := H
                    have A25 := Aside0.mk A250
                    clear A250
                    by_cases c26 : t149 = true
                    · subst c26
                      have H1 : (some (t146 == 0 && (t147.toList == t139.toList && (t148.toList == t140.toList)))) = some r := by rw [if_pos rfl] at H; exact H
                      clear H
                      have H := H1
                      clear H1
                      obtain rfl := Option.some.inj H
                      go_wp2_with (first | ((with_reducible refine gate_callee (f := 17) rfl ?_); refine goesL_ (some 30) rfl rfl Tryd.func17 (by kernel_rfl) rfl #[.string a0] rfl (by (try simp only [List.map_toArray, List.map_cons, List.map_nil]); first | done | rfl | (simp only [List.length_drop, List.length_take]; rfl)) ?_; (with_reducible refine (laws_safe.calls kj6 a0 t139 _ A10.out).mono ?_); rintro e w' ⟨rfl, ⟨nd, rfl⟩⟩; refine ⟨_, rfl, ?_⟩; (try (rw [drewN_self wc]; generalize hq_ : World.drewN wc _ = wc; have n0_ : Aside0 (Below w.heap.size w wc) := ⟨by rw [← hq_]; exact (by repeat (first | (with_reducible first | exact HB.out | apply below_alloc | apply pw_below_drewN | apply below_drew1) | exact HB.out))⟩; clear HB hq_; have HB := n0_; clear n0_))) | ((with_reducible refine gate_callee (f := 17) rfl ?_); refine goesL_ (some 32) rfl rfl Tryd.func17 (by kernel_rfl) rfl #[.string a1] rfl (by (try simp only [List.map_toArray, List.map_cons, List.map_nil]); first | done | rfl | (simp only [List.length_drop, List.length_take]; rfl)) ?_; (with_reducible refine (laws_safe.calls kj6 a1 t140 _ A11.out).mono ?_); rintro e w' ⟨rfl, ⟨nd, rfl⟩⟩; refine ⟨_, rfl, ?_⟩; (try (rw [drewN_self wc]; generalize hq_ : World.drewN wc _ = wc; have n0_ : Aside0 (Below w.heap.size w wc) := ⟨by rw [← hq_]; exact (by repeat (first | (with_reducible first | exact HB.out | apply below_alloc | apply pw_below_drewN | apply below_drew1) | exact HB.out))⟩; clear HB hq_; have HB := n0_; clear n0_))) | ((with_reducible refine gate_callee (f := 18) rfl ?_); refine goesL_ (some 40) rfl rfl Tryd.func18 (by kernel_rfl) rfl #[.string ((t139 ++ (⟨#[61]⟩ : ByteArray)) ++ t140)] rfl (by (try simp only [List.map_toArray, List.map_cons, List.map_nil]); first | done | rfl | (simp only [List.length_drop, List.length_take]; rfl)) ?_; (with_reducible refine (impl_ParseMatcher.calls ((t139 ++ (⟨#[61]⟩ : ByteArray)) ++ t140) t146 t147 t148 true _ ?side1 A25.out).mono ?_); (case side1 => exact Go.Proofs.YtmjoebnphacadaaDoor.Lex.ETx.below HT_.out (by repeat (first | (with_reducible first | exact HB.out | apply below_alloc | apply pw_below_drewN | apply below_drew1) | exact HB.out))); rintro e w27 ⟨rfl, hb⟩; refine ⟨_, rfl, ?_⟩; have n0_ := Aside0.mk (below_step (by repeat (first | (with_reducible first | exact HB.out | apply below_alloc | apply pw_below_drewN | apply below_drew1) | exact HB.out)) hb); clear HB; have HB := n0_; clear n0_; (try clear hb); (try clear hb2); (try clear hk); (try clear hi)) | ((with_reducible refine gate_dst (N := 11) rfl ?_); (try (refine gate_guard (by rfl) ?_; dsimp only)); refine box_event ?hg (N := 11) ?hd (cs := #[.int .i64 0, .string (⟨#[]⟩ : ByteArray), .string (⟨#[]⟩ : ByteArray)]) (t := 35) ?hr ?_; (case hd => rfl); (case hg => rfl); (case hr => first | (go_simp; done) | (go_simp; rfl)); intro gb150 hg w28 hbox hb; have n0_ := Aside0.mk (below_step (by repeat (first | (with_reducible first | exact HB.out | apply below_alloc | apply pw_below_drewN | apply below_drew1) | exact HB.out)) hb); have n1_ := Aside0.mk (hbox); have n2_ := Aside0.mk ((by rw [hg]; exact (below_size (by repeat (first | (with_reducible first | exact HB.out | apply below_alloc | apply pw_below_drewN | apply below_drew1) | exact HB.out))) : w.heap.size ≤ gb150)); have n3_ := Aside0.mk ((by rw [hg]; exact (below_size (by repeat (first | (with_reducible first | exact HB.out | apply below_alloc | apply pw_below_drewN | apply below_drew1) | exact HB.out))) : w.heap.size ≤ gb150)); clear HB; have HB := n0_; have BK150 := n1_; have GW150 := n2_; have GE150 := n3_; clear n0_ n1_ n2_ n3_; clear hb hbox hg; have hcz29_0 : w28.cell? ⟨gb150, 0, none⟩ = some (.int .i64 0) := (blk_cell BK150.out 0).trans rfl; have hcz29_1 : w28.cell? ⟨gb150, 1, none⟩ = some (.string (⟨#[]⟩ : ByteArray)) := (blk_cell BK150.out 1).trans rfl; have hcz29_2 : w28.cell? ⟨gb150, 2, none⟩ = some (.string (⟨#[]⟩ : ByteArray)) := (blk_cell BK150.out 2).trans rfl; have hfz29_0 := blk_frozen BK150.out 0; have hfz29_1 := blk_frozen BK150.out 1; have hfz29_2 := blk_frozen BK150.out 2))
                      go_ret
                      exact ⟨by first | rfl | (simp [errW_none, errW_some] <;> rfl) | (simp [*, errW_none, errW_some] <;> rfl), by repeat (first | (with_reducible first | exact HB.out | apply below_alloc | apply pw_below_drewN | apply below_drew1 | refine below_set ?_ GE150.out) | exact HB.out)⟩
                    · replace c26 := Bool.eq_false_iff.mpr c26
                      subst c26
                      have H1 : (some false) = some r := by rw [if_neg (show ¬ (false = true) by decide)] at H; exact H
                      clear H
                      have H := H1
                      clear H1
                      obtain rfl := Option.some.inj H
                      go_wp2_with (first | ((with_reducible refine gate_callee (f := 17) rfl ?_); refine goesL_ (some 30) rfl rfl Tryd.func17 (by kernel_rfl) rfl #[.string a0] rfl (by (try simp only [List.map_toArray, List.map_cons, List.map_nil]); first | done | rfl | (simp only [List.length_drop, List.length_take]; rfl)) ?_; (with_reducible refine (laws_safe.calls kj6 a0 t139 _ A10.out).mono ?_); rintro e w' ⟨rfl, ⟨nd, rfl⟩⟩; refine ⟨_, rfl, ?_⟩; (try (rw [drewN_self wc]; generalize hq_ : World.drewN wc _ = wc; have n0_ : Aside0 (Below w.heap.size w wc) := ⟨by rw [← hq_]; exact (by repeat (first | (with_reducible first | exact HB.out | apply below_alloc | apply pw_below_drewN | apply below_drew1) | exact HB.out))⟩; clear HB hq_; have HB := n0_; clear n0_))) | ((with_reducible refine gate_callee (f := 17) rfl ?_); refine goesL_ (some 32) rfl rfl Tryd.func17 (by kernel_rfl) rfl #[.string a1] rfl (by (try simp only [List.map_toArray, List.map_cons, List.map_nil]); first | done | rfl | (simp only [List.length_drop, List.length_take]; rfl)) ?_; (with_reducible refine (laws_safe.calls kj6 a1 t140 _ A11.out).mono ?_); rintro e w' ⟨rfl, ⟨nd, rfl⟩⟩; refine ⟨_, rfl, ?_⟩; (try (rw [drewN_self wc]; generalize hq_ : World.drewN wc _ = wc; have n0_ : Aside0 (Below w.heap.size w wc) := ⟨by rw [← hq_]; exact (by repeat (first | (with_reducible first | exact HB.out | apply below_alloc | apply pw_below_drewN | apply below_drew1) | exact HB.out))⟩; clear HB hq_; have HB := n0_; clear n0_))) | ((with_reducible refine gate_callee (f := 18) rfl ?_); refine goesL_ (some 40) rfl rfl Tryd.func18 (by kernel_rfl) rfl #[.string ((t139 ++ (⟨#[61]⟩ : ByteArray)) ++ t140)] rfl (by (try simp only [List.map_toArray, List.map_cons, List.map_nil]); first | done | rfl | (simp only [List.length_drop, List.length_take]; rfl)) ?_; (with_reducible refine (impl_ParseMatcher.calls ((t139 ++ (⟨#[61]⟩ : ByteArray)) ++ t140) t146 t147 t148 false _ ?side1 A25.out).mono ?_); (case side1 => exact Go.Proofs.YtmjoebnphacadaaDoor.Lex.ETx.below HT_.out (by repeat (first | (with_reducible first | exact HB.out | apply below_alloc | apply pw_below_drewN | apply below_drew1) | exact HB.out))); rintro e w30 ⟨rfl, hb⟩; refine ⟨_, rfl, ?_⟩; have n0_ := Aside0.mk (below_step (by repeat (first | (with_reducible first | exact HB.out | apply below_alloc | apply pw_below_drewN | apply below_drew1) | exact HB.out)) hb); clear HB; have HB := n0_; clear n0_; (try clear hb); (try clear hb2); (try clear hk); (try clear hi)) | ((with_reducible refine gate_dst (N := 11) rfl ?_); (try (refine gate_guard (by rfl) ?_; dsimp only)); refine box_event ?hg (N := 11) ?hd (cs := #[.int .i64 0, .string (⟨#[]⟩ : ByteArray), .string (⟨#[]⟩ : ByteArray)]) (t := 35) ?hr ?_; (case hd => rfl); (case hg => rfl); (case hr => first | (go_simp; done) | (go_simp; rfl)); intro gb150 hg w31 hbox hb; have n0_ := Aside0.mk (below_step (by repeat (first | (with_reducible first | exact HB.out | apply below_alloc | apply pw_below_drewN | apply below_drew1) | exact HB.out)) hb); have n1_ := Aside0.mk (hbox); have n2_ := Aside0.mk ((by rw [hg]; exact (below_size (by repeat (first | (with_reducible first | exact HB.out | apply below_alloc | apply pw_below_drewN | apply below_drew1) | exact HB.out))) : w.heap.size ≤ gb150)); have n3_ := Aside0.mk ((by rw [hg]; exact (below_size (by repeat (first | (with_reducible first | exact HB.out | apply below_alloc | apply pw_below_drewN | apply below_drew1) | exact HB.out))) : w.heap.size ≤ gb150)); clear HB; have HB := n0_; have BK150 := n1_; have GW150 := n2_; have GE150 := n3_; clear n0_ n1_ n2_ n3_; clear hb hbox hg; have hcz32_0 : w31.cell? ⟨gb150, 0, none⟩ = some (.int .i64 0) := (blk_cell BK150.out 0).trans rfl; have hcz32_1 : w31.cell? ⟨gb150, 1, none⟩ = some (.string (⟨#[]⟩ : ByteArray)) := (blk_cell BK150.out 1).trans rfl; have hcz32_2 : w31.cell? ⟨gb150, 2, none⟩ = some (.string (⟨#[]⟩ : ByteArray)) := (blk_cell BK150.out 2).trans rfl; have hfz32_0 := blk_frozen BK150.out 0; have hfz32_1 := blk_frozen BK150.out 1; have hfz32_2 := blk_frozen BK150.out 2))
                      go_ret
                      exact ⟨by first | rfl | (simp [errW_none, errW_some] <;> rfl) | (simp [*, errW_none, errW_some] <;> rfl), by repeat (first | (with_reducible first | exact HB.out | apply below_alloc | apply pw_below_drewN | apply below_drew1 | refine below_set ?_ GE150.out) | exact HB.out)⟩
                  · rw [if_neg c24] at H
                    exact absurd H (by simp)
                · rw [if_neg c23] at H
                  exact absurd H (by simp)

/-- THE ONE PURE STATEMENT of laws_FnUnquoted: yours. -/
noncomputable def laws_FnUnquoted.Pure : Prop := ∀ (a0 : ByteArray) (a1 : ByteArray) (a2 : Bool), a0.size ≤ maxLen → a1.size ≤ maxLen → ∃ k, laws_FnUnquoted.f k a0 a1 a2 = some true

end Go.Proofs.YtmjoebnphacadaaDoor.Q
