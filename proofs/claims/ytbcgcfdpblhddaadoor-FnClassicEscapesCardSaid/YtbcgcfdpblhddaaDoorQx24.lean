-- printed by this project's own program wip/tools/mkprint.py (the kit's print.py with hand-proved contracts put in)
import Derived.Test.YtbcgcfdpblhddaaDoorQx0
import Derived.Test.YtbcgcfdpblhddaaDoorQx1
import Derived.Test.YtbcgcfdpblhddaaDoorQx22
import Derived.Test.YtbcgcfdpblhddaaDoorQx23
namespace Go.Proofs.YtbcgcfdpblhddaaDoor.Q
open Go.RowKit Go.Proofs.YtbcgcfdpblhddaaDoorW.PrintWords Go.Proofs.YtbcgcfdpblhddaaDoorW.PrintLast Go.Proofs.YtbcgcfdpblhddaaDoorW.PrintMore
attribute [local go_sem] max2_int min2_int max_two min_two max_three min_three max_four min_four   -- for this text's walks alone
set_option linter.unusedVariables false
set_option linter.unusedSimpArgs false

attribute [local go_sem high] eqA24
/-! ### laws_FnClassicEscapes: function 3 -/
mutual
def laws_FnClassicEscapes.j0 : Nat → ByteArray → List Int → Bool → Option (Bool)
  | 0, _, _, _ => none
  | k + 1, x0, x1, x18 => if x18 = true then (some true) else (if (x0.size : Int) > 1000 then (laws_FnClassicEscapes.j1 k x0 x1 true) else (laws_FnClassicEscapes.j1 k x0 x1 (decide ((x1.length : Int) > 3000))))
def laws_FnClassicEscapes.j1 : Nat → ByteArray → List Int → Bool → Option (Bool)
  | 0, _, _, _ => none
  | k + 1, x0, x1, x26 => if x26 = true then (some true) else (laws_FnClassicEscapes.l0 k x0 (⟨#[]⟩ : ByteArray) (⟨#[]⟩ : ByteArray) x1 (x1.length : Int) 0)
def laws_FnClassicEscapes.l0 : Nat → ByteArray → ByteArray → ByteArray → List Int → Int → Int → Option (Bool)
  | 0, _, _, _, _, _, _ => none
  | k + 1, x0, x5, x6, x27, x28, x29 => if x29 < x28 then (if 0 ≤ x29 then (if x29 < (x27.length : Int) then (if (Int.tmod (rd x27 x29) 6) = 0 then (if x5.size + 2 ≤ 9223372036854775807 then (if x6.size + 1 ≤ 9223372036854775807 then (laws_FnClassicEscapes.l0 k x0 (x5 ++ (⟨#[92, 34]⟩ : ByteArray)) (x6 ++ (⟨#[34]⟩ : ByteArray)) x27 x28 (wrap64 (x29 + 1))) else (none)) else (none)) else (if (Int.tmod (rd x27 x29) 6) = 1 then (if x5.size + 2 ≤ 9223372036854775807 then (if x6.size + 1 ≤ 9223372036854775807 then (laws_FnClassicEscapes.l0 k x0 (x5 ++ (⟨#[92, 110]⟩ : ByteArray)) (x6 ++ (⟨#[10]⟩ : ByteArray)) x27 x28 (wrap64 (x29 + 1))) else (none)) else (none)) else (if (Int.tmod (rd x27 x29) 6) = 2 then (if x5.size + 2 ≤ 9223372036854775807 then (if x6.size + 1 ≤ 9223372036854775807 then (laws_FnClassicEscapes.l0 k x0 (x5 ++ (⟨#[92, 92]⟩ : ByteArray)) (x6 ++ (⟨#[92]⟩ : ByteArray)) x27 x28 (wrap64 (x29 + 1))) else (none)) else (none)) else (if (Int.tmod (rd x27 x29) 6) = 3 then (if x5.size + 2 ≤ 9223372036854775807 then (if x6.size + 2 ≤ 9223372036854775807 then (laws_FnClassicEscapes.l0 k x0 (x5 ++ (⟨#[92, 116]⟩ : ByteArray)) (x6 ++ (⟨#[92, 116]⟩ : ByteArray)) x27 x28 (wrap64 (x29 + 1))) else (none)) else (none)) else (if (Int.tmod (rd x27 x29) 6) = 4 then (if x5.size + 1 ≤ 9223372036854775807 then (if x6.size + 1 ≤ 9223372036854775807 then (laws_FnClassicEscapes.l0 k x0 (x5 ++ (⟨#[97]⟩ : ByteArray)) (x6 ++ (⟨#[97]⟩ : ByteArray)) x27 x28 (wrap64 (x29 + 1))) else (none)) else (none)) else (if x5.size + 3 ≤ 9223372036854775807 then (if x6.size + 3 ≤ 9223372036854775807 then (laws_FnClassicEscapes.l0 k x0 (x5 ++ (⟨#[195, 169, 44]⟩ : ByteArray)) (x6 ++ (⟨#[195, 169, 44]⟩ : ByteArray)) x27 x28 (wrap64 (x29 + 1))) else (none)) else (none))))))) else (none)) else (none)) else ((laws_oldName.f k x0).bind fun t159 => (if t159.size + 2 ≤ 9223372036854775807 then (if (t159 ++ (⟨#[61, 34]⟩ : ByteArray)).size + x5.size ≤ 9223372036854775807 then (if ((t159 ++ (⟨#[61, 34]⟩ : ByteArray)) ++ x5).size + 1 ≤ 9223372036854775807 then ((impl_ClassicMatcher.f (((t159 ++ (⟨#[61, 34]⟩ : ByteArray)) ++ x5) ++ (⟨#[34]⟩ : ByteArray))).bind fun bt160 => (if bt160.2.2.2 = true then ((laws_oldName.f k x0).bind fun t165 => (some (bt160.1 == 0 && (bt160.2.1.toList == t165.toList && (bt160.2.2.1.toList == x6.toList))))) else (some false))) else (none)) else (none)) else (none)))
end
def laws_FnClassicEscapes.f (k : Nat) (a0 : ByteArray) (l1 : List Int) : Option (Bool) := if (a0.size : Int) > 2147483647 then (laws_FnClassicEscapes.j0 k a0 l1 true) else (laws_FnClassicEscapes.j0 k a0 l1 (decide ((l1.length : Int) > 2147483647)))
theorem laws_FnClassicEscapes.mono_l : ∀ k, (∀ y0 y1 y2, LeO (laws_FnClassicEscapes.j0 k y0 y1 y2) (laws_FnClassicEscapes.j0 (k + 1) y0 y1 y2)) ∧ (∀ y0 y1 y2, LeO (laws_FnClassicEscapes.j1 k y0 y1 y2) (laws_FnClassicEscapes.j1 (k + 1) y0 y1 y2)) ∧ (∀ y0 y1 y2 y3 y4 y5, LeO (laws_FnClassicEscapes.l0 k y0 y1 y2 y3 y4 y5) (laws_FnClassicEscapes.l0 (k + 1) y0 y1 y2 y3 y4 y5))
  | 0 => ⟨fun _ _ _ r h => by simp [laws_FnClassicEscapes.j0] at h, fun _ _ _ r h => by simp [laws_FnClassicEscapes.j1] at h, fun _ _ _ _ _ _ r h => by simp [laws_FnClassicEscapes.l0] at h⟩
  | k + 1 => by
    obtain ⟨ih0, ih1, ih2⟩ := laws_FnClassicEscapes.mono_l k
    refine ⟨?_, ?_, ?_⟩
    · intro y0 y1 y2
      unfold laws_FnClassicEscapes.j0
      repeat' first
      | (with_reducible exact ih0 _ _ _)
      | (with_reducible exact ih1 _ _ _)
      | (with_reducible exact ih2 _ _ _ _ _ _)
      | (with_reducible exact laws_oldName.mono _ _)
      | (with_reducible exact LeO.refl _)
      | (with_reducible exact LeO.none _)
      | (with_reducible refine LeO.ite ?_ ?_)
      | (with_reducible refine LeO.bind ?_ (fun _ => ?_))
      | exact ih0 _ _ _
      | exact ih1 _ _ _
      | exact ih2 _ _ _ _ _ _
      | exact laws_oldName.mono _ _
      | exact LeO.none _
      | refine LeO.ite ?_ ?_
      | refine LeO.bind ?_ (fun _ => ?_)
    · intro y0 y1 y2
      unfold laws_FnClassicEscapes.j1
      repeat' first
      | (with_reducible exact ih0 _ _ _)
      | (with_reducible exact ih1 _ _ _)
      | (with_reducible exact ih2 _ _ _ _ _ _)
      | (with_reducible exact laws_oldName.mono _ _)
      | (with_reducible exact LeO.refl _)
      | (with_reducible exact LeO.none _)
      | (with_reducible refine LeO.ite ?_ ?_)
      | (with_reducible refine LeO.bind ?_ (fun _ => ?_))
      | exact ih0 _ _ _
      | exact ih1 _ _ _
      | exact ih2 _ _ _ _ _ _
      | exact laws_oldName.mono _ _
      | exact LeO.none _
      | refine LeO.ite ?_ ?_
      | refine LeO.bind ?_ (fun _ => ?_)
    · intro y0 y1 y2 y3 y4 y5
      unfold laws_FnClassicEscapes.l0
      repeat' first
      | (with_reducible exact ih0 _ _ _)
      | (with_reducible exact ih1 _ _ _)
      | (with_reducible exact ih2 _ _ _ _ _ _)
      | (with_reducible exact laws_oldName.mono _ _)
      | (with_reducible exact LeO.refl _)
      | (with_reducible exact LeO.none _)
      | (with_reducible refine LeO.ite ?_ ?_)
      | (with_reducible refine LeO.bind ?_ (fun _ => ?_))
      | exact ih0 _ _ _
      | exact ih1 _ _ _
      | exact ih2 _ _ _ _ _ _
      | exact laws_oldName.mono _ _
      | exact LeO.none _
      | refine LeO.ite ?_ ?_
      | refine LeO.bind ?_ (fun _ => ?_)
theorem laws_FnClassicEscapes.mono : ∀ a0 a1 k, LeO (laws_FnClassicEscapes.f k a0 a1) (laws_FnClassicEscapes.f (k + 1) a0 a1) := by
  intro a0 a1 k
  obtain ⟨ih0, ih1, ih2⟩ := laws_FnClassicEscapes.mono_l k
  unfold laws_FnClassicEscapes.f
  repeat' first
      | (with_reducible exact ih0 _ _ _)
      | (with_reducible exact ih1 _ _ _)
      | (with_reducible exact ih2 _ _ _ _ _ _)
      | (with_reducible exact laws_oldName.mono _ _)
      | (with_reducible exact LeO.refl _)
      | (with_reducible exact LeO.none _)
      | (with_reducible refine LeO.ite ?_ ?_)
      | (with_reducible refine LeO.bind ?_ (fun _ => ?_))
      | exact ih0 _ _ _
      | exact ih1 _ _ _
      | exact ih2 _ _ _ _ _ _
      | exact laws_oldName.mono _ _
      | exact LeO.none _
      | refine LeO.ite ?_ ?_
      | refine LeO.bind ?_ (fun _ => ?_)
set_option maxHeartbeats 8000000 in
set_option maxRecDepth 100000 in
theorem laws_FnClassicEscapes.calls (k : Nat) (a0 : ByteArray) (A1 : Option Addr) (c1 : Nat) (l1 : List Int) (r : Bool) (w : World) (hr1 : Kd.C (Kd.int .u8) w A1 l1.length l1) (hc1 : l1.length ≤ c1) (hT_ : Go.Proofs.YtbcgcfdpblhddaaDoor.Cl.UT w) (h : laws_FnClassicEscapes.f k a0 l1 = some r) :
    Calls Tryd.prog 3 #[.string a0, .slice A1 l1.length c1] w fun e w' => e = .returned (.bool r) ∧ Below w.heap.size w w' := by
  have HTW_ := Aside0.mk hT_
  clear hT_
  have hu24 := Tryd.underlying24
  have HR1 := Aside0.mk hr1
  have HC1 := Aside0.mk hc1
  clear hr1 hc1
  have HB := Aside0.mk (Below.refl w.heap.size w)
  have H : (if (a0.size : Int) > 2147483647 then (laws_FnClassicEscapes.j0 k a0 l1 true) else (laws_FnClassicEscapes.j0 k a0 l1 (decide ((l1.length : Int) > 2147483647)))) = some r := h
  clear h
  have HC3 := Aside0.mk H
  clear H
  go_enter Tryd.func3, Tryd.ntmps3
  go_upto_region 1 with (fail)
  repeat (go_quiet (fail); go_upto_region 1 with (fail))
  go_cut [18] (fun v18 wc => ∃ (kq : Nat) (x18_2 : Bool), v18 = .bool x18_2 ∧ Aside0 (laws_FnClassicEscapes.j0 kq a0 l1 x18_2 = some r) ∧ Aside0 (kq ≤ k) ∧ Aside0 (Below w.heap.size w wc))
  case first =>
    have H := HC3.out
    clear HC3
    by_cases c4 : (a0.size : Int) > 2147483647
    · rw [if_pos c4] at H
      have c4b0 : decide (2147483647 < (a0.size : Int)) = true := decide_eq_true c4
      have c4b1 : decide (2147483647 < a0.size) = true := decide_eq_true (by omega)
      clear c4
      (first | rw [c4b0] | (simp only [i64_w, i32_w]; rw [c4b0]) | skip)
      have H' := Aside0.mk H
      clear H
      go_wp2
      repeat (go_quiet (fail); try go_wp2)
      go_meet
      case rel => exact ⟨_, (true), (by first | rfl | (simp; done) | (simp [*]; done)), H', ⟨by first | omega | exact Nat.le_refl _⟩, ⟨by repeat (first | (with_reducible first | exact HB.out | apply below_alloc | apply pw_below_drewN | apply below_drew1) | exact HB.out)⟩⟩
    · rw [if_neg c4] at H
      have c4b0 : decide (2147483647 < (a0.size : Int)) = false := decide_eq_false c4
      have c4b1 : decide (2147483647 < a0.size) = false := decide_eq_false (by omega)
      clear c4
      (first | rw [c4b0] | (simp only [i64_w, i32_w]; rw [c4b0]) | skip)
      have H' := Aside0.mk H
      clear H
      go_wp2
      repeat (go_quiet (fail); try go_wp2)
      go_meet
      case rel => exact ⟨_, (decide ((l1.length : Int) > 2147483647)), (by first | rfl | (simp; done) | (simp [*]; done)), H', ⟨by first | omega | exact Nat.le_refl _⟩, ⟨by repeat (first | (with_reducible first | exact HB.out | apply below_alloc | apply pw_below_drewN | apply below_drew1) | exact HB.out)⟩⟩
  case rest =>
    clear HC3
    try clear c1
    try clear p2
    try clear c3
    try clear c4
    try clear c4b0
    try clear c4b1
    obtain ⟨kq, x18_2, rfl, HA, HJ2, HB⟩ := hcut
    cases kq with
    | zero => exact absurd HA.out (by simp [laws_FnClassicEscapes.j0])
    | succ kj2 =>
      have H := HA.out
      clear HA
      simp only [laws_FnClassicEscapes.j0] at H
      by_cases c5 : x18_2 = true
      · subst c5
        have H1 : (some true) = some r := by rw [if_pos rfl] at H; exact H
        clear H
        have H := H1
        clear H1
        obtain rfl := Option.some.inj H
        go_wp2
        repeat (go_quiet (fail); try go_wp2)
        go_ret
        exact ⟨by first | rfl | (simp [errW_none, errW_some] <;> rfl) | (simp [*, errW_none, errW_some] <;> rfl), by repeat (first | (with_reducible first | exact HB.out | apply below_alloc | apply pw_below_drewN | apply below_drew1) | exact HB.out)⟩
      · replace c5 := Bool.eq_false_iff.mpr c5
        subst c5
        have H1 : (if (a0.size : Int) > 1000 then (laws_FnClassicEscapes.j1 kj2 a0 l1 true) else (laws_FnClassicEscapes.j1 kj2 a0 l1 (decide ((l1.length : Int) > 3000)))) = some r := by rw [if_neg (show ¬ (false = true) by decide)] at H; exact H
        clear H
        have H := H1
        clear H1
        have HC6 := Aside0.mk H
        clear H
        go_upto_region 3 with (fail)
        repeat (go_quiet (fail); go_upto_region 3 with (fail))
        go_cut [26] (fun v26 wc => ∃ (kq : Nat) (x26_5 : Bool), v26 = .bool x26_5 ∧ Aside0 (laws_FnClassicEscapes.j1 kq a0 l1 x26_5 = some r) ∧ Aside0 (kq ≤ kj2) ∧ Aside0 (Below w.heap.size w wc))
        case first =>
          have H := HC6.out
          clear HC6
          by_cases c7 : (a0.size : Int) > 1000
          · rw [if_pos c7] at H
            have c7b0 : decide (1000 < (a0.size : Int)) = true := decide_eq_true c7
            have c7b1 : decide (1000 < a0.size) = true := decide_eq_true (by omega)
            clear c7
            (first | rw [c7b0] | (simp only [i64_w, i32_w]; rw [c7b0]) | skip)
            have H' := Aside0.mk H
            clear H
            go_wp2
            repeat (go_quiet (fail); try go_wp2)
            go_meet
            case rel => exact ⟨_, (true), (by first | rfl | (simp; done) | (simp [*]; done)), H', ⟨by have := HJ2.out; first | omega | exact Nat.le_refl _⟩, ⟨by repeat (first | (with_reducible first | exact HB.out | apply below_alloc | apply pw_below_drewN | apply below_drew1) | exact HB.out)⟩⟩
          · rw [if_neg c7] at H
            have c7b0 : decide (1000 < (a0.size : Int)) = false := decide_eq_false c7
            have c7b1 : decide (1000 < a0.size) = false := decide_eq_false (by omega)
            clear c7
            (first | rw [c7b0] | (simp only [i64_w, i32_w]; rw [c7b0]) | skip)
            have H' := Aside0.mk H
            clear H
            go_wp2
            repeat (go_quiet (fail); try go_wp2)
            go_meet
            case rel => exact ⟨_, (decide ((l1.length : Int) > 3000)), (by first | rfl | (simp; done) | (simp [*]; done)), H', ⟨by have := HJ2.out; first | omega | exact Nat.le_refl _⟩, ⟨by repeat (first | (with_reducible first | exact HB.out | apply below_alloc | apply pw_below_drewN | apply below_drew1) | exact HB.out)⟩⟩
        case rest =>
          clear HC6
          try clear c1
          try clear p2
          try clear c3
          try clear c4
          try clear c4b0
          try clear c4b1
          try clear c5
          try clear c7
          try clear c7b0
          try clear c7b1
          try clear p2
          obtain ⟨kq, x26_5, rfl, HA, HJ5, HB⟩ := hcut
          cases kq with
          | zero => exact absurd HA.out (by simp [laws_FnClassicEscapes.j1])
          | succ kj5 =>
            have H := HA.out
            clear HA
            simp only [laws_FnClassicEscapes.j1] at H
            by_cases c8 : x26_5 = true
            · subst c8
              have H1 : (some true) = some r := by rw [if_pos rfl] at H; exact H
              clear H
              have H := H1
              clear H1
              obtain rfl := Option.some.inj H
              go_wp2
              repeat (go_quiet (fail); try go_wp2)
              go_ret
              exact ⟨by first | rfl | (simp [errW_none, errW_some] <;> rfl) | (simp [*, errW_none, errW_some] <;> rfl), by repeat (first | (with_reducible first | exact HB.out | apply below_alloc | apply pw_below_drewN | apply below_drew1) | exact HB.out)⟩
            · replace c8 := Bool.eq_false_iff.mpr c8
              subst c8
              have H1 : (laws_FnClassicEscapes.l0 kj5 a0 (⟨#[]⟩ : ByteArray) (⟨#[]⟩ : ByteArray) l1 (l1.length : Int) 0) = some r := by rw [if_neg (show ¬ (false = true) by decide)] at H; exact H
              clear H
              have H := H1
              clear H1
              have H' := Aside0.mk H
              clear H
              go_wp2
              repeat (go_quiet (fail); try go_wp2)
              go_loopg [5, 6, 29] kj5 (fun kq v5 v6 v29 w' => ∃ (x5_3 : ByteArray) (x6_3 : ByteArray) (x29_3 : Int), v5 = .string x5_3 ∧ v6 = .string x6_3 ∧ v29 = .int .i64 x29_3 ∧ Aside0 (laws_FnClassicEscapes.l0 kq a0 x5_3 x6_3 l1 (l1.length : Int) x29_3 = some r) ∧ Aside0 (kq ≤ kj5) ∧ Aside0 (Below w.heap.size w w'))
              case atStart => exact ⟨((⟨#[]⟩ : ByteArray)), ((⟨#[]⟩ : ByteArray)), (0), (by first | rfl | (simp; done) | (simp [*]; done)), (by first | rfl | (simp; done) | (simp [*]; done)), (by first | rfl | (simp; done) | (simp [*]; done)), H', ⟨Nat.le_refl _⟩, ⟨by repeat (first | (with_reducible first | exact HB.out | apply below_alloc | apply pw_below_drewN | apply below_drew1) | exact HB.out)⟩⟩
              case round =>
                clear H'
                try clear c1
                try clear p2
                try clear c3
                try clear c4
                try clear c4b0
                try clear c4b1
                try clear c5
                try clear c7
                try clear c7b0
                try clear c7b1
                try clear c8
                try clear p2
                obtain ⟨x5_3, x6_3, x29_3, rfl, rfl, rfl, HA, HK3, HB⟩ := hrel
                cases gk with
                | zero => exact absurd HA.out (by simp [laws_FnClassicEscapes.l0])
                | succ k3 =>
                  have H := HA.out
                  clear HA
                  simp only [laws_FnClassicEscapes.l0] at H
                  by_cases c9 : x29_3 < (l1.length : Int)
                  · rw [if_pos c9] at H
                    have c9b0 : decide (x29_3 < (l1.length : Int)) = true := decide_eq_true c9
                    clear c9
                    by_cases c10 : 0 ≤ x29_3
                    · rw [if_pos c10] at H
                      have c10b0 : decide (0 ≤ x29_3) = true := decide_eq_true c10
                      clear c10
                      by_cases c11 : x29_3 < (l1.length : Int)
                      · rw [if_pos c11] at H
                        have c11b0 : decide (x29_3 < (l1.length : Int)) = true := decide_eq_true c11
                        clear c11
                        by_cases c12 : (Int.tmod (rd l1 x29_3) 6) = 0
                        · rw [if_pos c12] at H
                          have c12b0 : ((Int.tmod (rd l1 x29_3) 6) == 0) = true := beq_iff_eq.mpr c12
                          have c12b1 : ((Int.tmod (rd l1 x29_3) 6) != 0) = false := bne_eq_false_iff_eq.mpr c12
                          clear c12
                          by_cases c13 : x5_3.size + 2 ≤ 9223372036854775807
                          · rw [if_pos c13] at H
                            have c13b0 := eq_true c13
                            have c13b1 : decide (x5_3.size + 2 ≤ 9223372036854775807) = true := decide_eq_true c13
                            try have c13b2 : (9223372036854775807 < x5_3.size + 2) = False := eq_false (Nat.not_lt.2 c13)
                            by_cases c14 : x6_3.size + 1 ≤ 9223372036854775807
                            · rw [if_pos c14] at H
                              have c14b0 := eq_true c14
                              have c14b1 : decide (x6_3.size + 1 ≤ 9223372036854775807) = true := decide_eq_true c14
                              try have c14b2 : (9223372036854775807 < x6_3.size + 1) = False := eq_false (Nat.not_lt.2 c14)
                              have H' := Aside0.mk H
                              clear H
                              have p166 : 0 ≤ (x29_3 : Int) := of_decide_eq_true (by first | (with_reducible assumption) | assumption)
                              have q166 : x29_3 < (l1.length : Int) := of_decide_eq_true (by first | (with_reducible assumption) | assumption)
                              obtain ⟨ad166, e166, hx166_0⟩ := Kd.at_int HR1.out x29_3 p166 q166
                              cases e166
                              replace hx166_0 := (HB.out.cell (World.block_lt_of_cell? w _ hx166_0)).trans hx166_0
                              replace p166 := eq_true p166
                              replace q166 := eq_true q166
                              go_wp2
                              repeat (go_quiet (fail); try go_wp2)
                              go_roundg k3
                              case measure => have := HJ2.out; have := HJ5.out; have := HK3.out; omega
                              case rel => exact ⟨(x5_3 ++ (⟨#[92, 34]⟩ : ByteArray)), (x6_3 ++ (⟨#[34]⟩ : ByteArray)), (wrap64 (x29_3 + 1)), (by first | rfl | (simp; done) | (simp [*]; done)), (by first | rfl | (simp; done) | (simp [*]; done)), (by first | rfl | (simp; done) | (simp [*]; done)), H', ⟨by have := HJ2.out; have := HJ5.out; have := HK3.out; omega⟩, ⟨by repeat (first | (with_reducible first | exact HB.out | apply below_alloc | apply pw_below_drewN | apply below_drew1) | exact HB.out)⟩⟩
                            · rw [if_neg c14] at H
                              exact absurd H (by simp)
                          · rw [if_neg c13] at H
                            exact absurd H (by simp)
                        · rw [if_neg c12] at H
                          have c12b0 : ((Int.tmod (rd l1 x29_3) 6) == 0) = false := beq_eq_false_iff_ne.mpr c12
                          have c12b1 : ((Int.tmod (rd l1 x29_3) 6) != 0) = true := bne_iff_ne.mpr c12
                          by_cases c15 : (Int.tmod (rd l1 x29_3) 6) = 1
                          · rw [if_pos c15] at H
                            have c15b0 : ((Int.tmod (rd l1 x29_3) 6) == 1) = true := beq_iff_eq.mpr c15
                            have c15b1 : ((Int.tmod (rd l1 x29_3) 6) != 1) = false := bne_eq_false_iff_eq.mpr c15
                            clear c15
                            by_cases c16 : x5_3.size + 2 ≤ 9223372036854775807
                            · rw [if_pos c16] at H
                              have c16b0 := eq_true c16
                              have c16b1 : decide (x5_3.size + 2 ≤ 9223372036854775807) = true := decide_eq_true c16
                              try have c16b2 : (9223372036854775807 < x5_3.size + 2) = False := eq_false (Nat.not_lt.2 c16)
                              by_cases c17 : x6_3.size + 1 ≤ 9223372036854775807
                              · rw [if_pos c17] at H
                                have c17b0 := eq_true c17
                                have c17b1 : decide (x6_3.size + 1 ≤ 9223372036854775807) = true := decide_eq_true c17
                                try have c17b2 : (9223372036854775807 < x6_3.size + 1) = False := eq_false (Nat.not_lt.2 c17)
                                have H' := Aside0.mk H
                                clear H
                                have p166 : 0 ≤ (x29_3 : Int) := of_decide_eq_true (by first | (with_reducible assumption) | assumption)
                                have q166 : x29_3 < (l1.length : Int) := of_decide_eq_true (by first | (with_reducible assumption) | assumption)
                                obtain ⟨ad166, e166, hx166_0⟩ := Kd.at_int HR1.out x29_3 p166 q166
                                cases e166
                                replace hx166_0 := (HB.out.cell (World.block_lt_of_cell? w _ hx166_0)).trans hx166_0
                                replace p166 := eq_true p166
                                replace q166 := eq_true q166
                                go_wp2
                                repeat (go_quiet (fail); try go_wp2)
                                go_roundg k3
                                case measure => have := HJ2.out; have := HJ5.out; have := HK3.out; omega
                                case rel => exact ⟨(x5_3 ++ (⟨#[92, 110]⟩ : ByteArray)), (x6_3 ++ (⟨#[10]⟩ : ByteArray)), (wrap64 (x29_3 + 1)), (by first | rfl | (simp; done) | (simp [*]; done)), (by first | rfl | (simp; done) | (simp [*]; done)), (by first | rfl | (simp; done) | (simp [*]; done)), H', ⟨by have := HJ2.out; have := HJ5.out; have := HK3.out; omega⟩, ⟨by repeat (first | (with_reducible first | exact HB.out | apply below_alloc | apply pw_below_drewN | apply below_drew1) | exact HB.out)⟩⟩
                              · rw [if_neg c17] at H
                                exact absurd H (by simp)
                            · rw [if_neg c16] at H
                              exact absurd H (by simp)
                          · rw [if_neg c15] at H
                            have c15b0 : ((Int.tmod (rd l1 x29_3) 6) == 1) = false := beq_eq_false_iff_ne.mpr c15
                            have c15b1 : ((Int.tmod (rd l1 x29_3) 6) != 1) = true := bne_iff_ne.mpr c15
                            by_cases c18 : (Int.tmod (rd l1 x29_3) 6) = 2
                            · rw [if_pos c18] at H
                              have c18b0 : ((Int.tmod (rd l1 x29_3) 6) == 2) = true := beq_iff_eq.mpr c18
                              have c18b1 : ((Int.tmod (rd l1 x29_3) 6) != 2) = false := bne_eq_false_iff_eq.mpr c18
                              clear c18
                              by_cases c19 : x5_3.size + 2 ≤ 9223372036854775807
                              · rw [if_pos c19] at H
                                have c19b0 := eq_true c19
                                have c19b1 : decide (x5_3.size + 2 ≤ 9223372036854775807) = true := decide_eq_true c19
                                try have c19b2 : (9223372036854775807 < x5_3.size + 2) = False := eq_false (Nat.not_lt.2 c19)
                                by_cases c20 : x6_3.size + 1 ≤ 9223372036854775807
                                · rw [if_pos c20] at H
                                  have c20b0 := eq_true c20
                                  have c20b1 : decide (x6_3.size + 1 ≤ 9223372036854775807) = true := decide_eq_true c20
                                  try have c20b2 : (9223372036854775807 < x6_3.size + 1) = False := eq_false (Nat.not_lt.2 c20)
                                  have H' := Aside0.mk H
                                  clear H
                                  have p166 : 0 ≤ (x29_3 : Int) := of_decide_eq_true (by first | (with_reducible assumption) | assumption)
                                  have q166 : x29_3 < (l1.length : Int) := of_decide_eq_true (by first | (with_reducible assumption) | assumption)
                                  obtain ⟨ad166, e166, hx166_0⟩ := Kd.at_int HR1.out x29_3 p166 q166
                                  cases e166
                                  replace hx166_0 := (HB.out.cell (World.block_lt_of_cell? w _ hx166_0)).trans hx166_0
                                  replace p166 := eq_true p166
                                  replace q166 := eq_true q166
                                  go_wp2
                                  repeat (go_quiet (fail); try go_wp2)
                                  go_roundg k3
                                  case measure => have := HJ2.out; have := HJ5.out; have := HK3.out; omega
                                  case rel => exact ⟨(x5_3 ++ (⟨#[92, 92]⟩ : ByteArray)), (x6_3 ++ (⟨#[92]⟩ : ByteArray)), (wrap64 (x29_3 + 1)), (by first | rfl | (simp; done) | (simp [*]; done)), (by first | rfl | (simp; done) | (simp [*]; done)), (by first | rfl | (simp; done) | (simp [*]; done)), H', ⟨by have := HJ2.out; have := HJ5.out; have := HK3.out; omega⟩, ⟨by repeat (first | (with_reducible first | exact HB.out | apply below_alloc | apply pw_below_drewN | apply below_drew1) | exact HB.out)⟩⟩
                                · rw [if_neg c20] at H
                                  exact absurd H (by simp)
                              · rw [if_neg c19] at H
                                exact absurd H (by simp)
                            · rw [if_neg c18] at H
                              have c18b0 : ((Int.tmod (rd l1 x29_3) 6) == 2) = false := beq_eq_false_iff_ne.mpr c18
                              have c18b1 : ((Int.tmod (rd l1 x29_3) 6) != 2) = true := bne_iff_ne.mpr c18
                              by_cases c21 : (Int.tmod (rd l1 x29_3) 6) = 3
                              · rw [if_pos c21] at H
                                have c21b0 : ((Int.tmod (rd l1 x29_3) 6) == 3) = true := beq_iff_eq.mpr c21
                                have c21b1 : ((Int.tmod (rd l1 x29_3) 6) != 3) = false := bne_eq_false_iff_eq.mpr c21
                                clear c21
                                by_cases c22 : x5_3.size + 2 ≤ 9223372036854775807
                                · rw [if_pos c22] at H
                                  have c22b0 := eq_true c22
                                  have c22b1 : decide (x5_3.size + 2 ≤ 9223372036854775807) = true := decide_eq_true c22
                                  try have c22b2 : (9223372036854775807 < x5_3.size + 2) = False := eq_false (Nat.not_lt.2 c22)
                                  by_cases c23 : x6_3.size + 2 ≤ 9223372036854775807
                                  · rw [if_pos c23] at H
                                    have c23b0 := eq_true c23
                                    have c23b1 : decide (x6_3.size + 2 ≤ 9223372036854775807) = true := decide_eq_true c23
                                    try have c23b2 : (9223372036854775807 < x6_3.size + 2) = False := eq_false (Nat.not_lt.2 c23)
                                    have H' := Aside0.mk H
                                    clear H
                                    have p166 : 0 ≤ (x29_3 : Int) := of_decide_eq_true (by first | (with_reducible assumption) | assumption)
                                    have q166 : x29_3 < (l1.length : Int) := of_decide_eq_true (by first | (with_reducible assumption) | assumption)
                                    obtain ⟨ad166, e166, hx166_0⟩ := Kd.at_int HR1.out x29_3 p166 q166
                                    cases e166
                                    replace hx166_0 := (HB.out.cell (World.block_lt_of_cell? w _ hx166_0)).trans hx166_0
                                    replace p166 := eq_true p166
                                    replace q166 := eq_true q166
                                    go_wp2
                                    repeat (go_quiet (fail); try go_wp2)
                                    go_roundg k3
                                    case measure => have := HJ2.out; have := HJ5.out; have := HK3.out; omega
                                    case rel => exact ⟨(x5_3 ++ (⟨#[92, 116]⟩ : ByteArray)), (x6_3 ++ (⟨#[92, 116]⟩ : ByteArray)), (wrap64 (x29_3 + 1)), (by first | rfl | (simp; done) | (simp [*]; done)), (by first | rfl | (simp; done) | (simp [*]; done)), (by first | rfl | (simp; done) | (simp [*]; done)), H', ⟨by have := HJ2.out; have := HJ5.out; have := HK3.out; omega⟩, ⟨by repeat (first | (with_reducible first | exact HB.out | apply below_alloc | apply pw_below_drewN | apply below_drew1) | exact HB.out)⟩⟩
                                  · rw [if_neg c23] at H
                                    exact absurd H (by simp)
                                · rw [if_neg c22] at H
                                  exact absurd H (by simp)
                              · rw [if_neg c21] at H
                                have c21b0 : ((Int.tmod (rd l1 x29_3) 6) == 3) = false := beq_eq_false_iff_ne.mpr c21
                                have c21b1 : ((Int.tmod (rd l1 x29_3) 6) != 3) = true := bne_iff_ne.mpr c21
                                by_cases c24 : (Int.tmod (rd l1 x29_3) 6) = 4
                                · rw [if_pos c24] at H
                                  have c24b0 : ((Int.tmod (rd l1 x29_3) 6) == 4) = true := beq_iff_eq.mpr c24
                                  have c24b1 : ((Int.tmod (rd l1 x29_3) 6) != 4) = false := bne_eq_false_iff_eq.mpr c24
                                  clear c24
                                  by_cases c25 : x5_3.size + 1 ≤ 9223372036854775807
                                  · rw [if_pos c25] at H
                                    have c25b0 := eq_true c25
                                    have c25b1 : decide (x5_3.size + 1 ≤ 9223372036854775807) = true := decide_eq_true c25
                                    try have c25b2 : (9223372036854775807 < x5_3.size + 1) = False := eq_false (Nat.not_lt.2 c25)
                                    by_cases c26 : x6_3.size + 1 ≤ 9223372036854775807
                                    · rw [if_pos c26] at H
                                      have c26b0 := eq_true c26
                                      have c26b1 : decide (x6_3.size + 1 ≤ 9223372036854775807) = true := decide_eq_true c26
                                      try have c26b2 : (9223372036854775807 < x6_3.size + 1) = False := eq_false (Nat.not_lt.2 c26)
                                      have H' := Aside0.mk H
                                      clear H
                                      have p166 : 0 ≤ (x29_3 : Int) := of_decide_eq_true (by first | (with_reducible assumption) | assumption)
                                      have q166 : x29_3 < (l1.length : Int) := of_decide_eq_true (by first | (with_reducible assumption) | assumption)
                                      obtain ⟨ad166, e166, hx166_0⟩ := Kd.at_int HR1.out x29_3 p166 q166
                                      cases e166
                                      replace hx166_0 := (HB.out.cell (World.block_lt_of_cell? w _ hx166_0)).trans hx166_0
                                      replace p166 := eq_true p166
                                      replace q166 := eq_true q166
                                      go_wp2
                                      repeat (go_quiet (fail); try go_wp2)
                                      go_roundg k3
                                      case measure => have := HJ2.out; have := HJ5.out; have := HK3.out; omega
                                      case rel => exact ⟨(x5_3 ++ (⟨#[97]⟩ : ByteArray)), (x6_3 ++ (⟨#[97]⟩ : ByteArray)), (wrap64 (x29_3 + 1)), (by first | rfl | (simp; done) | (simp [*]; done)), (by first | rfl | (simp; done) | (simp [*]; done)), (by first | rfl | (simp; done) | (simp [*]; done)), H', ⟨by have := HJ2.out; have := HJ5.out; have := HK3.out; omega⟩, ⟨by repeat (first | (with_reducible first | exact HB.out | apply below_alloc | apply pw_below_drewN | apply below_drew1) | exact HB.out)⟩⟩
                                    · rw [if_neg c26] at H
                                      exact absurd H (by simp)
                                  · rw [if_neg c25] at H
                                    exact absurd H (by simp)
                                · rw [if_neg c24] at H
                                  have c24b0 : ((Int.tmod (rd l1 x29_3) 6) == 4) = false := beq_eq_false_iff_ne.mpr c24
                                  have c24b1 : ((Int.tmod (rd l1 x29_3) 6) != 4) = true := bne_iff_ne.mpr c24
                                  by_cases c27 : x5_3.size + 3 ≤ 9223372036854775807
                                  · rw [if_pos c27] at H
                                    have c27b0 := eq_true c27
                                    have c27b1 : decide (x5_3.size + 3 ≤ 9223372036854775807) = true := decide_eq_true c27
                                    try have c27b2 : (9223372036854775807 < x5_3.size + 3) = False := eq_false (Nat.not_lt.2 c27)
                                    by_cases c28 : x6_3.size + 3 ≤ 9223372036854775807
                                    · rw [if_pos c28] at H
                                      have c28b0 := eq_true c28
                                      have c28b1 : decide (x6_3.size + 3 ≤ 9223372036854775807) = true := decide_eq_true c28
                                      try have c28b2 : (9223372036854775807 < x6_3.size + 3) = False := eq_false (Nat.not_lt.2 c28)
                                      have H' := Aside0.mk H
                                      clear H
                                      have p166 : 0 ≤ (x29_3 : Int) := of_decide_eq_true (by first | (with_reducible assumption) | assumption)
                                      have q166 : x29_3 < (l1.length : Int) := of_decide_eq_true (by first | (with_reducible assumption) | assumption)
                                      obtain ⟨ad166, e166, hx166_0⟩ := Kd.at_int HR1.out x29_3 p166 q166
                                      cases e166
                                      replace hx166_0 := (HB.out.cell (World.block_lt_of_cell? w _ hx166_0)).trans hx166_0
                                      replace p166 := eq_true p166
                                      replace q166 := eq_true q166
                                      go_wp2
                                      repeat (go_quiet (fail); try go_wp2)
                                      go_roundg k3
                                      case measure => have := HJ2.out; have := HJ5.out; have := HK3.out; omega
                                      case rel => exact ⟨(x5_3 ++ (⟨#[195, 169, 44]⟩ : ByteArray)), (x6_3 ++ (⟨#[195, 169, 44]⟩ : ByteArray)), (wrap64 (x29_3 + 1)), (by first | rfl | (simp; done) | (simp [*]; done)), (by first | rfl | (simp; done) | (simp [*]; done)), (by first | rfl | (simp; done) | (simp [*]; done)), H', ⟨by have := HJ2.out; have := HJ5.out; have := HK3.out; omega⟩, ⟨by repeat (first | (with_reducible first | exact HB.out | apply below_alloc | apply pw_below_drewN | apply below_drew1) | exact HB.out)⟩⟩
                                    · rw [if_neg c28] at H
                                      exact absurd H (by simp)
                                  · rw [if_neg c27] at H
                                    exact absurd H (by simp)
                      · rw [if_neg c11] at H
                        exact absurd H (by simp)
                    · rw [if_neg c10] at H
                      exact absurd H (by simp)
                  · rw [if_neg c9] at H
                    have c9b0 : decide (x29_3 < (l1.length : Int)) = false := decide_eq_false c9
                    clear c9
                    replace H := Option.bind_eq_some_iff.mp H
                    obtain ⟨t159, A290, H⟩ := H
                    replace H : (if t159.size + 2 ≤ 9223372036854775807 then (if (t159 ++ (⟨#[61, 34]⟩ : ByteArray)).size + x5_3.size ≤ 9223372036854775807 then (if ((t159 ++ (⟨#[61, 34]⟩ : ByteArray)) ++ x5_3).size + 1 ≤ 9223372036854775807 then ((impl_ClassicMatcher.f (((t159 ++ (⟨#[61, 34]⟩ : ByteArray)) ++ x5_3) ++ (⟨#[34]⟩ : ByteArray))).bind fun bt160 => (if bt160.2.2.2 = true then ((laws_oldName.f k3 a0).bind fun t165 => (some (bt160.1 == 0 && (bt160.2.1.toList == t165.toList && (bt160.2.2.1.toList == x6_3.toList))))) else (some false))) else (none)) else (none)) else (none)) = some r := H
                    have A29 := Aside0.mk A290
                    clear A290
                    by_cases c30 : t159.size + 2 ≤ 9223372036854775807
                    · rw [if_pos c30] at H
                      have c30b0 := eq_true c30
                      have c30b1 : decide (t159.size + 2 ≤ 9223372036854775807) = true := decide_eq_true c30
                      try have c30b2 : (9223372036854775807 < t159.size + 2) = False := eq_false (Nat.not_lt.2 c30)
                      by_cases c31 : (t159 ++ (⟨#[61, 34]⟩ : ByteArray)).size + x5_3.size ≤ 9223372036854775807
                      · rw [if_pos c31] at H
                        have c31b0 := eq_true c31
                        have c31b1 : decide ((t159 ++ (⟨#[61, 34]⟩ : ByteArray)).size + x5_3.size ≤ 9223372036854775807) = true := decide_eq_true c31
                        try have c31b2 : (9223372036854775807 < (t159 ++ (⟨#[61, 34]⟩ : ByteArray)).size + x5_3.size) = False := eq_false (Nat.not_lt.2 c31)
                        try have c31b3 := c31b2
                        try simp only [ByteArray.size_append, show (⟨#[61, 34]⟩ : ByteArray).size = 2 from rfl] at c31b3
                        by_cases c32 : ((t159 ++ (⟨#[61, 34]⟩ : ByteArray)) ++ x5_3).size + 1 ≤ 9223372036854775807
                        · rw [if_pos c32] at H
                          have c32b0 := eq_true c32
                          have c32b1 : decide (((t159 ++ (⟨#[61, 34]⟩ : ByteArray)) ++ x5_3).size + 1 ≤ 9223372036854775807) = true := decide_eq_true c32
                          try have c32b2 : (9223372036854775807 < ((t159 ++ (⟨#[61, 34]⟩ : ByteArray)) ++ x5_3).size + 1) = False := eq_false (Nat.not_lt.2 c32)
                          try have c32b3 := c32b2
                          try simp only [ByteArray.size_append, show (⟨#[61, 34]⟩ : ByteArray).size = 2 from rfl] at c32b3
                          replace H := Option.bind_eq_some_iff.mp H
                          obtain ⟨⟨t160, t161, t162, t163⟩, A330, H⟩ := H
                          replace H : (if t163 = true then ((laws_oldName.f k3 a0).bind fun t165 => (some (t160 == 0 && (t161.toList == t165.toList && (t162.toList == x6_3.toList))))) else (some false)) = some r := H
                          have A33 := Aside0.mk A330
                          clear A330
                          by_cases c34 : t163 = true
                          · subst c34
                            have H1 : ((laws_oldName.f k3 a0).bind fun t165 => (some (t160 == 0 && (t161.toList == t165.toList && (t162.toList == x6_3.toList))))) = some r := by rw [if_pos rfl] at H; exact H
                            clear H
                            have H := H1
                            clear H1
                            replace H := Option.bind_eq_some_iff.mp H
                            obtain ⟨t165, A350, H⟩ := H
                            replace H : (some (t160 == 0 && (t161.toList == t165.toList && (t162.toList == x6_3.toList)))) = some r := H
                            have A35 := Aside0.mk A350
                            clear A350
                            obtain rfl := Option.some.inj (A29.out.symm.trans A35.out)
                            obtain rfl := Option.some.inj H
                            go_wp2_with (first | (go_at_call 7; (with_reducible refine (laws_oldName.calls k3 a0 t159 _ A29.out).mono ?_); rintro e w' ⟨rfl, ⟨nd, rfl⟩⟩; (try first | exact ⟨rfl, _, World.drewN_drewN _ _ _⟩ | exact ⟨rfl, _, Eq.trans (World.drewN_drewN _ _ _) (congrArg (World.drewN _) (Nat.add_assoc _ _ _))⟩)) | (go_at_call 6; (with_reducible refine (impl_ClassicMatcher.calls (((t159 ++ (⟨#[61, 34]⟩ : ByteArray)) ++ x5_3) ++ (⟨#[34]⟩ : ByteArray)) t160 t161 t162 true _ ?side1 A33.out).mono ?_); (case side1 => exact Go.Proofs.YtbcgcfdpblhddaaDoor.Cl.UT.below HTW_.out (by repeat (first | (with_reducible first | exact HB.out | apply below_alloc | apply pw_below_drewN | apply below_drew1) | exact HB.out))); rintro e w36 ⟨rfl, hb⟩; have n0_ := Aside0.mk (below_step (by repeat (first | (with_reducible first | exact HB.out | apply below_alloc | apply pw_below_drewN | apply below_drew1) | exact HB.out)) hb); clear HB; have HB := n0_; clear n0_; (try clear hb); (try clear hb2); (try clear hk); (try clear hi)) | ((with_reducible refine gate_dst (N := 9) rfl ?_); (try (refine gate_guard (by rfl) ?_; dsimp only)); refine box_event ?hg (N := 9) ?hd (cs := #[.int .i64 0, .string (⟨#[]⟩ : ByteArray), .string (⟨#[]⟩ : ByteArray)]) (t := 24) ?hr ?_; (case hd => rfl); (case hg => rfl); (case hr => first | (go_simp; done) | (go_simp; rfl)); intro gb164 hg w37 hbox hb; have n0_ := Aside0.mk (below_step (by repeat (first | (with_reducible first | exact HB.out | apply below_alloc | apply pw_below_drewN | apply below_drew1) | exact HB.out)) hb); have n1_ := Aside0.mk (hbox); have n2_ := Aside0.mk ((by rw [hg]; exact (below_size (by repeat (first | (with_reducible first | exact HB.out | apply below_alloc | apply pw_below_drewN | apply below_drew1) | exact HB.out))) : w.heap.size ≤ gb164)); have n3_ := Aside0.mk ((by rw [hg]; exact (below_size (by repeat (first | (with_reducible first | exact HB.out | apply below_alloc | apply pw_below_drewN | apply below_drew1) | exact HB.out))) : w.heap.size ≤ gb164)); clear HB; have HB := n0_; have BK164 := n1_; have GW164 := n2_; have GE164 := n3_; clear n0_ n1_ n2_ n3_; clear hb hbox hg; have hcz38_0 : w37.cell? ⟨gb164, 0, none⟩ = some (.int .i64 0) := (blk_cell BK164.out 0).trans rfl; have hcz38_1 : w37.cell? ⟨gb164, 1, none⟩ = some (.string (⟨#[]⟩ : ByteArray)) := (blk_cell BK164.out 1).trans rfl; have hcz38_2 : w37.cell? ⟨gb164, 2, none⟩ = some (.string (⟨#[]⟩ : ByteArray)) := (blk_cell BK164.out 2).trans rfl; have hfz38_0 := blk_frozen BK164.out 0; have hfz38_1 := blk_frozen BK164.out 1; have hfz38_2 := blk_frozen BK164.out 2) | (go_at_call 7; (with_reducible refine (laws_oldName.calls k3 a0 t165 _ A35.out).mono ?_); rintro e w' ⟨rfl, ⟨nd, rfl⟩⟩; (try first | exact ⟨rfl, _, World.drewN_drewN _ _ _⟩ | exact ⟨rfl, _, Eq.trans (World.drewN_drewN _ _ _) (congrArg (World.drewN _) (Nat.add_assoc _ _ _))⟩)))
                            repeat (go_quiet (first | (go_at_call 7; (with_reducible refine (laws_oldName.calls k3 a0 t159 _ A29.out).mono ?_); rintro e w' ⟨rfl, ⟨nd, rfl⟩⟩; (try first | exact ⟨rfl, _, World.drewN_drewN _ _ _⟩ | exact ⟨rfl, _, Eq.trans (World.drewN_drewN _ _ _) (congrArg (World.drewN _) (Nat.add_assoc _ _ _))⟩)) | (go_at_call 6; (with_reducible refine (impl_ClassicMatcher.calls (((t159 ++ (⟨#[61, 34]⟩ : ByteArray)) ++ x5_3) ++ (⟨#[34]⟩ : ByteArray)) t160 t161 t162 true _ ?side1 A33.out).mono ?_); (case side1 => exact Go.Proofs.YtbcgcfdpblhddaaDoor.Cl.UT.below HTW_.out (by repeat (first | (with_reducible first | exact HB.out | apply below_alloc | apply pw_below_drewN | apply below_drew1) | exact HB.out))); rintro e w36 ⟨rfl, hb⟩; have n0_ := Aside0.mk (below_step (by repeat (first | (with_reducible first | exact HB.out | apply below_alloc | apply pw_below_drewN | apply below_drew1) | exact HB.out)) hb); clear HB; have HB := n0_; clear n0_; (try clear hb); (try clear hb2); (try clear hk); (try clear hi)) | ((with_reducible refine gate_dst (N := 9) rfl ?_); (try (refine gate_guard (by rfl) ?_; dsimp only)); refine box_event ?hg (N := 9) ?hd (cs := #[.int .i64 0, .string (⟨#[]⟩ : ByteArray), .string (⟨#[]⟩ : ByteArray)]) (t := 24) ?hr ?_; (case hd => rfl); (case hg => rfl); (case hr => first | (go_simp; done) | (go_simp; rfl)); intro gb164 hg w37 hbox hb; have n0_ := Aside0.mk (below_step (by repeat (first | (with_reducible first | exact HB.out | apply below_alloc | apply pw_below_drewN | apply below_drew1) | exact HB.out)) hb); have n1_ := Aside0.mk (hbox); have n2_ := Aside0.mk ((by rw [hg]; exact (below_size (by repeat (first | (with_reducible first | exact HB.out | apply below_alloc | apply pw_below_drewN | apply below_drew1) | exact HB.out))) : w.heap.size ≤ gb164)); have n3_ := Aside0.mk ((by rw [hg]; exact (below_size (by repeat (first | (with_reducible first | exact HB.out | apply below_alloc | apply pw_below_drewN | apply below_drew1) | exact HB.out))) : w.heap.size ≤ gb164)); clear HB; have HB := n0_; have BK164 := n1_; have GW164 := n2_; have GE164 := n3_; clear n0_ n1_ n2_ n3_; clear hb hbox hg; have hcz38_0 : w37.cell? ⟨gb164, 0, none⟩ = some (.int .i64 0) := (blk_cell BK164.out 0).trans rfl; have hcz38_1 : w37.cell? ⟨gb164, 1, none⟩ = some (.string (⟨#[]⟩ : ByteArray)) := (blk_cell BK164.out 1).trans rfl; have hcz38_2 : w37.cell? ⟨gb164, 2, none⟩ = some (.string (⟨#[]⟩ : ByteArray)) := (blk_cell BK164.out 2).trans rfl; have hfz38_0 := blk_frozen BK164.out 0; have hfz38_1 := blk_frozen BK164.out 1; have hfz38_2 := blk_frozen BK164.out 2) | (go_at_call 7; (with_reducible refine (laws_oldName.calls k3 a0 t165 _ A35.out).mono ?_); rintro e w' ⟨rfl, ⟨nd, rfl⟩⟩; (try first | exact ⟨rfl, _, World.drewN_drewN _ _ _⟩ | exact ⟨rfl, _, Eq.trans (World.drewN_drewN _ _ _) (congrArg (World.drewN _) (Nat.add_assoc _ _ _))⟩))); try go_wp2_with (first | (go_at_call 7; (with_reducible refine (laws_oldName.calls k3 a0 t159 _ A29.out).mono ?_); rintro e w' ⟨rfl, ⟨nd, rfl⟩⟩; (try first | exact ⟨rfl, _, World.drewN_drewN _ _ _⟩ | exact ⟨rfl, _, Eq.trans (World.drewN_drewN _ _ _) (congrArg (World.drewN _) (Nat.add_assoc _ _ _))⟩)) | (go_at_call 6; (with_reducible refine (impl_ClassicMatcher.calls (((t159 ++ (⟨#[61, 34]⟩ : ByteArray)) ++ x5_3) ++ (⟨#[34]⟩ : ByteArray)) t160 t161 t162 true _ ?side1 A33.out).mono ?_); (case side1 => exact Go.Proofs.YtbcgcfdpblhddaaDoor.Cl.UT.below HTW_.out (by repeat (first | (with_reducible first | exact HB.out | apply below_alloc | apply pw_below_drewN | apply below_drew1) | exact HB.out))); rintro e w36 ⟨rfl, hb⟩; have n0_ := Aside0.mk (below_step (by repeat (first | (with_reducible first | exact HB.out | apply below_alloc | apply pw_below_drewN | apply below_drew1) | exact HB.out)) hb); clear HB; have HB := n0_; clear n0_; (try clear hb); (try clear hb2); (try clear hk); (try clear hi)) | ((with_reducible refine gate_dst (N := 9) rfl ?_); (try (refine gate_guard (by rfl) ?_; dsimp only)); refine box_event ?hg (N := 9) ?hd (cs := #[.int .i64 0, .string (⟨#[]⟩ : ByteArray), .string (⟨#[]⟩ : ByteArray)]) (t := 24) ?hr ?_; (case hd => rfl); (case hg => rfl); (case hr => first | (go_simp; done) | (go_simp; rfl)); intro gb164 hg w37 hbox hb; have n0_ := Aside0.mk (below_step (by repeat (first | (with_reducible first | exact HB.out | apply below_alloc | apply pw_below_drewN | apply below_drew1) | exact HB.out)) hb); have n1_ := Aside0.mk (hbox); have n2_ := Aside0.mk ((by rw [hg]; exact (below_size (by repeat (first | (with_reducible first | exact HB.out | apply below_alloc | apply pw_below_drewN | apply below_drew1) | exact HB.out))) : w.heap.size ≤ gb164)); have n3_ := Aside0.mk ((by rw [hg]; exact (below_size (by repeat (first | (with_reducible first | exact HB.out | apply below_alloc | apply pw_below_drewN | apply below_drew1) | exact HB.out))) : w.heap.size ≤ gb164)); clear HB; have HB := n0_; have BK164 := n1_; have GW164 := n2_; have GE164 := n3_; clear n0_ n1_ n2_ n3_; clear hb hbox hg; have hcz38_0 : w37.cell? ⟨gb164, 0, none⟩ = some (.int .i64 0) := (blk_cell BK164.out 0).trans rfl; have hcz38_1 : w37.cell? ⟨gb164, 1, none⟩ = some (.string (⟨#[]⟩ : ByteArray)) := (blk_cell BK164.out 1).trans rfl; have hcz38_2 : w37.cell? ⟨gb164, 2, none⟩ = some (.string (⟨#[]⟩ : ByteArray)) := (blk_cell BK164.out 2).trans rfl; have hfz38_0 := blk_frozen BK164.out 0; have hfz38_1 := blk_frozen BK164.out 1; have hfz38_2 := blk_frozen BK164.out 2) | (go_at_call 7; (with_reducible refine (laws_oldName.calls k3 a0 t165 _ A35.out).mono ?_); rintro e w' ⟨rfl, ⟨nd, rfl⟩⟩; (try first | exact ⟨rfl, _, World.drewN_drewN _ _ _⟩ | exact ⟨rfl, _, Eq.trans (World.drewN_drewN _ _ _) (congrArg (World.drewN _) (Nat.add_assoc _ _ _))⟩))))
                            go_ret
                            exact ⟨by first | rfl | (simp [errW_none, errW_some] <;> rfl) | (simp [*, errW_none, errW_some] <;> rfl), by repeat (first | (with_reducible first | exact HB.out | apply below_alloc | apply pw_below_drewN | apply below_drew1 | refine below_set ?_ GE164.out) | exact HB.out)⟩
                          · replace c34 := Bool.eq_false_iff.mpr c34
                            subst c34
                            have H1 : (some false) = some r := by rw [if_neg (show ¬ (false = true) by decide)] at H; exact H
                            clear H
                            have H := H1
                            clear H1
                            obtain rfl := Option.some.inj H
                            go_wp2_with (first | (go_at_call 7; (with_reducible refine (laws_oldName.calls k3 a0 t159 _ A29.out).mono ?_); rintro e w' ⟨rfl, ⟨nd, rfl⟩⟩; (try first | exact ⟨rfl, _, World.drewN_drewN _ _ _⟩ | exact ⟨rfl, _, Eq.trans (World.drewN_drewN _ _ _) (congrArg (World.drewN _) (Nat.add_assoc _ _ _))⟩)) | (go_at_call 6; (with_reducible refine (impl_ClassicMatcher.calls (((t159 ++ (⟨#[61, 34]⟩ : ByteArray)) ++ x5_3) ++ (⟨#[34]⟩ : ByteArray)) t160 t161 t162 false _ ?side1 A33.out).mono ?_); (case side1 => exact Go.Proofs.YtbcgcfdpblhddaaDoor.Cl.UT.below HTW_.out (by repeat (first | (with_reducible first | exact HB.out | apply below_alloc | apply pw_below_drewN | apply below_drew1) | exact HB.out))); rintro e w39 ⟨rfl, hb⟩; have n0_ := Aside0.mk (below_step (by repeat (first | (with_reducible first | exact HB.out | apply below_alloc | apply pw_below_drewN | apply below_drew1) | exact HB.out)) hb); clear HB; have HB := n0_; clear n0_; (try clear hb); (try clear hb2); (try clear hk); (try clear hi)) | ((with_reducible refine gate_dst (N := 9) rfl ?_); (try (refine gate_guard (by rfl) ?_; dsimp only)); refine box_event ?hg (N := 9) ?hd (cs := #[.int .i64 0, .string (⟨#[]⟩ : ByteArray), .string (⟨#[]⟩ : ByteArray)]) (t := 24) ?hr ?_; (case hd => rfl); (case hg => rfl); (case hr => first | (go_simp; done) | (go_simp; rfl)); intro gb164 hg w40 hbox hb; have n0_ := Aside0.mk (below_step (by repeat (first | (with_reducible first | exact HB.out | apply below_alloc | apply pw_below_drewN | apply below_drew1) | exact HB.out)) hb); have n1_ := Aside0.mk (hbox); have n2_ := Aside0.mk ((by rw [hg]; exact (below_size (by repeat (first | (with_reducible first | exact HB.out | apply below_alloc | apply pw_below_drewN | apply below_drew1) | exact HB.out))) : w.heap.size ≤ gb164)); have n3_ := Aside0.mk ((by rw [hg]; exact (below_size (by repeat (first | (with_reducible first | exact HB.out | apply below_alloc | apply pw_below_drewN | apply below_drew1) | exact HB.out))) : w.heap.size ≤ gb164)); clear HB; have HB := n0_; have BK164 := n1_; have GW164 := n2_; have GE164 := n3_; clear n0_ n1_ n2_ n3_; clear hb hbox hg; have hcz41_0 : w40.cell? ⟨gb164, 0, none⟩ = some (.int .i64 0) := (blk_cell BK164.out 0).trans rfl; have hcz41_1 : w40.cell? ⟨gb164, 1, none⟩ = some (.string (⟨#[]⟩ : ByteArray)) := (blk_cell BK164.out 1).trans rfl; have hcz41_2 : w40.cell? ⟨gb164, 2, none⟩ = some (.string (⟨#[]⟩ : ByteArray)) := (blk_cell BK164.out 2).trans rfl; have hfz41_0 := blk_frozen BK164.out 0; have hfz41_1 := blk_frozen BK164.out 1; have hfz41_2 := blk_frozen BK164.out 2))
                            repeat (go_quiet (first | (go_at_call 7; (with_reducible refine (laws_oldName.calls k3 a0 t159 _ A29.out).mono ?_); rintro e w' ⟨rfl, ⟨nd, rfl⟩⟩; (try first | exact ⟨rfl, _, World.drewN_drewN _ _ _⟩ | exact ⟨rfl, _, Eq.trans (World.drewN_drewN _ _ _) (congrArg (World.drewN _) (Nat.add_assoc _ _ _))⟩)) | (go_at_call 6; (with_reducible refine (impl_ClassicMatcher.calls (((t159 ++ (⟨#[61, 34]⟩ : ByteArray)) ++ x5_3) ++ (⟨#[34]⟩ : ByteArray)) t160 t161 t162 false _ ?side1 A33.out).mono ?_); (case side1 => exact Go.Proofs.YtbcgcfdpblhddaaDoor.Cl.UT.below HTW_.out (by repeat (first | (with_reducible first | exact HB.out | apply below_alloc | apply pw_below_drewN | apply below_drew1) | exact HB.out))); rintro e w39 ⟨rfl, hb⟩; have n0_ := Aside0.mk (below_step (by repeat (first | (with_reducible first | exact HB.out | apply below_alloc | apply pw_below_drewN | apply below_drew1) | exact HB.out)) hb); clear HB; have HB := n0_; clear n0_; (try clear hb); (try clear hb2); (try clear hk); (try clear hi)) | ((with_reducible refine gate_dst (N := 9) rfl ?_); (try (refine gate_guard (by rfl) ?_; dsimp only)); refine box_event ?hg (N := 9) ?hd (cs := #[.int .i64 0, .string (⟨#[]⟩ : ByteArray), .string (⟨#[]⟩ : ByteArray)]) (t := 24) ?hr ?_; (case hd => rfl); (case hg => rfl); (case hr => first | (go_simp; done) | (go_simp; rfl)); intro gb164 hg w40 hbox hb; have n0_ := Aside0.mk (below_step (by repeat (first | (with_reducible first | exact HB.out | apply below_alloc | apply pw_below_drewN | apply below_drew1) | exact HB.out)) hb); have n1_ := Aside0.mk (hbox); have n2_ := Aside0.mk ((by rw [hg]; exact (below_size (by repeat (first | (with_reducible first | exact HB.out | apply below_alloc | apply pw_below_drewN | apply below_drew1) | exact HB.out))) : w.heap.size ≤ gb164)); have n3_ := Aside0.mk ((by rw [hg]; exact (below_size (by repeat (first | (with_reducible first | exact HB.out | apply below_alloc | apply pw_below_drewN | apply below_drew1) | exact HB.out))) : w.heap.size ≤ gb164)); clear HB; have HB := n0_; have BK164 := n1_; have GW164 := n2_; have GE164 := n3_; clear n0_ n1_ n2_ n3_; clear hb hbox hg; have hcz41_0 : w40.cell? ⟨gb164, 0, none⟩ = some (.int .i64 0) := (blk_cell BK164.out 0).trans rfl; have hcz41_1 : w40.cell? ⟨gb164, 1, none⟩ = some (.string (⟨#[]⟩ : ByteArray)) := (blk_cell BK164.out 1).trans rfl; have hcz41_2 : w40.cell? ⟨gb164, 2, none⟩ = some (.string (⟨#[]⟩ : ByteArray)) := (blk_cell BK164.out 2).trans rfl; have hfz41_0 := blk_frozen BK164.out 0; have hfz41_1 := blk_frozen BK164.out 1; have hfz41_2 := blk_frozen BK164.out 2)); try go_wp2_with (first | (go_at_call 7; (with_reducible refine (laws_oldName.calls k3 a0 t159 _ A29.out).mono ?_); rintro e w' ⟨rfl, ⟨nd, rfl⟩⟩; (try first | exact ⟨rfl, _, World.drewN_drewN _ _ _⟩ | exact ⟨rfl, _, Eq.trans (World.drewN_drewN _ _ _) (congrArg (World.drewN _) (Nat.add_assoc _ _ _))⟩)) | (go_at_call 6; (with_reducible refine (impl_ClassicMatcher.calls (((t159 ++ (⟨#[61, 34]⟩ : ByteArray)) ++ x5_3) ++ (⟨#[34]⟩ : ByteArray)) t160 t161 t162 false _ ?side1 A33.out).mono ?_); (case side1 => exact Go.Proofs.YtbcgcfdpblhddaaDoor.Cl.UT.below HTW_.out (by repeat (first | (with_reducible first | exact HB.out | apply below_alloc | apply pw_below_drewN | apply below_drew1) | exact HB.out))); rintro e w39 ⟨rfl, hb⟩; have n0_ := Aside0.mk (below_step (by repeat (first | (with_reducible first | exact HB.out | apply below_alloc | apply pw_below_drewN | apply below_drew1) | exact HB.out)) hb); clear HB; have HB := n0_; clear n0_; (try clear hb); (try clear hb2); (try clear hk); (try clear hi)) | ((with_reducible refine gate_dst (N := 9) rfl ?_); (try (refine gate_guard (by rfl) ?_; dsimp only)); refine box_event ?hg (N := 9) ?hd (cs := #[.int .i64 0, .string (⟨#[]⟩ : ByteArray), .string (⟨#[]⟩ : ByteArray)]) (t := 24) ?hr ?_; (case hd => rfl); (case hg => rfl); (case hr => first | (go_simp; done) | (go_simp; rfl)); intro gb164 hg w40 hbox hb; have n0_ := Aside0.mk (below_step (by repeat (first | (with_reducible first | exact HB.out | apply below_alloc | apply pw_below_drewN | apply below_drew1) | exact HB.out)) hb); have n1_ := Aside0.mk (hbox); have n2_ := Aside0.mk ((by rw [hg]; exact (below_size (by repeat (first | (with_reducible first | exact HB.out | apply below_alloc | apply pw_below_drewN | apply below_drew1) | exact HB.out))) : w.heap.size ≤ gb164)); have n3_ := Aside0.mk ((by rw [hg]; exact (below_size (by repeat (first | (with_reducible first | exact HB.out | apply below_alloc | apply pw_below_drewN | apply below_drew1) | exact HB.out))) : w.heap.size ≤ gb164)); clear HB; have HB := n0_; have BK164 := n1_; have GW164 := n2_; have GE164 := n3_; clear n0_ n1_ n2_ n3_; clear hb hbox hg; have hcz41_0 : w40.cell? ⟨gb164, 0, none⟩ = some (.int .i64 0) := (blk_cell BK164.out 0).trans rfl; have hcz41_1 : w40.cell? ⟨gb164, 1, none⟩ = some (.string (⟨#[]⟩ : ByteArray)) := (blk_cell BK164.out 1).trans rfl; have hcz41_2 : w40.cell? ⟨gb164, 2, none⟩ = some (.string (⟨#[]⟩ : ByteArray)) := (blk_cell BK164.out 2).trans rfl; have hfz41_0 := blk_frozen BK164.out 0; have hfz41_1 := blk_frozen BK164.out 1; have hfz41_2 := blk_frozen BK164.out 2)))
                            go_ret
                            exact ⟨by first | rfl | (simp [errW_none, errW_some] <;> rfl) | (simp [*, errW_none, errW_some] <;> rfl), by repeat (first | (with_reducible first | exact HB.out | apply below_alloc | apply pw_below_drewN | apply below_drew1 | refine below_set ?_ GE164.out) | exact HB.out)⟩
                        · rw [if_neg c32] at H
                          exact absurd H (by simp)
                      · rw [if_neg c31] at H
                        exact absurd H (by simp)
                    · rw [if_neg c30] at H
                      exact absurd H (by simp)

/-- THE ONE PURE STATEMENT of laws_FnClassicEscapes: yours. -/
def laws_FnClassicEscapes.Pure : Prop := ∀ (a0 : ByteArray) (l1 : List Int), a0.size ≤ maxLen → (l1.length ≤ maxLen ∧ ∀ y ∈ l1, (Lit.int .u8 y).wf = true) → ∃ k, laws_FnClassicEscapes.f k a0 l1 = some true

end Go.Proofs.YtbcgcfdpblhddaaDoor.Q
