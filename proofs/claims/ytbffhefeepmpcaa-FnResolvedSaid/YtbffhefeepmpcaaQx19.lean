-- printed by this project's own program wip/tools/mkprint.py (the kit's print.py with hand-proved contracts put in)
import Derived.Test.YtbffhefeepmpcaaQx0
import Derived.Test.YtbffhefeepmpcaaQx18
namespace Go.Proofs.Ytbffhefeepmpcaa.Q
open Go.RowKit Go.Proofs.YtbffhefeepmpcaaW.PrintWords Go.Proofs.YtbffhefeepmpcaaW.PrintLast Go.Proofs.YtbffhefeepmpcaaW.PrintMore
attribute [local go_sem] max2_int min2_int max_two min_two max_three min_three max_four min_four   -- for this text's walks alone
set_option linter.unusedVariables false
set_option linter.unusedSimpArgs false

/-! ### laws_FnResolved: function 10 -/
mutual
def laws_FnResolved.j0 : Nat → List Int → Int → Bool → Option (Bool)
  | 0, _, _, _ => none
  | k + 1, x0, x1, x28 => if x28 = true then (if (x0.length : Int) > 1000 then (some true) else (some (decide (x1 < 0)))) else (laws_FnResolved.l0 k x0 x1 false x0 (x0.length : Int) 0)
def laws_FnResolved.l0 : Nat → List Int → Int → Bool → List Int → Int → Int → Option (Bool)
  | 0, _, _, _, _, _, _ => none
  | k + 1, x0, x1, x5, x36, x37, x38 => if x38 < x37 then (if 0 ≤ x38 then (if x38 < (x36.length : Int) then (if (rd x36 x38) < 0 then (some true) else ((impl_Resolved.f (rd x36 x38) x1).bind fun t350 => (if (rd x36 x38) = 0 then (if t350 = true then (some false) else (if (rd x36 x38) > x1 then (if (rd x36 x38) > 0 then (if (rd x36 x38) < x1 then (some false) else (if x5 = true then (laws_FnResolved.l0 k x0 x1 true x36 x37 (wrap64 (x38 + 1))) else (laws_FnResolved.l0 k x0 x1 (!t350) x36 x37 (wrap64 (x38 + 1))))) else (if x5 = true then (laws_FnResolved.l0 k x0 x1 true x36 x37 (wrap64 (x38 + 1))) else (laws_FnResolved.l0 k x0 x1 (!t350) x36 x37 (wrap64 (x38 + 1))))) else (if (rd x36 x38) > 0 then (if (rd x36 x38) < x1 then (some false) else (if x5 = true then (laws_FnResolved.l0 k x0 x1 true x36 x37 (wrap64 (x38 + 1))) else (laws_FnResolved.l0 k x0 x1 (!t350) x36 x37 (wrap64 (x38 + 1))))) else (if x5 = true then (laws_FnResolved.l0 k x0 x1 true x36 x37 (wrap64 (x38 + 1))) else (laws_FnResolved.l0 k x0 x1 (!t350) x36 x37 (wrap64 (x38 + 1))))))) else (if (rd x36 x38) > x1 then (if t350 = true then (some false) else (if (rd x36 x38) > 0 then (if (rd x36 x38) < x1 then (some false) else (if x5 = true then (laws_FnResolved.l0 k x0 x1 true x36 x37 (wrap64 (x38 + 1))) else (laws_FnResolved.l0 k x0 x1 (!t350) x36 x37 (wrap64 (x38 + 1))))) else (if x5 = true then (laws_FnResolved.l0 k x0 x1 true x36 x37 (wrap64 (x38 + 1))) else (laws_FnResolved.l0 k x0 x1 (!t350) x36 x37 (wrap64 (x38 + 1)))))) else (if (rd x36 x38) > 0 then (if (rd x36 x38) < x1 then (if t350 = true then (if x5 = true then (laws_FnResolved.l0 k x0 x1 true x36 x37 (wrap64 (x38 + 1))) else (laws_FnResolved.l0 k x0 x1 (!t350) x36 x37 (wrap64 (x38 + 1)))) else (some false)) else (if x5 = true then (laws_FnResolved.l0 k x0 x1 true x36 x37 (wrap64 (x38 + 1))) else (laws_FnResolved.l0 k x0 x1 (!t350) x36 x37 (wrap64 (x38 + 1))))) else (if x5 = true then (laws_FnResolved.l0 k x0 x1 true x36 x37 (wrap64 (x38 + 1))) else (laws_FnResolved.l0 k x0 x1 (!t350) x36 x37 (wrap64 (x38 + 1))))))))) else (none)) else (none)) else ((impl_AlertsFiring.f x0 x1).bind fun t348 => (some (t348 == x5)))
end
def laws_FnResolved.f (k : Nat) (l0 : List Int) (a1 : Int) : Option (Bool) := if (l0.length : Int) > 2147483647 then (some true) else ((impl_Resolved.f 5 6).bind fun t345 => (if t345 = true then ((impl_Resolved.f 5 4).bind fun t346 => (if t346 = true then (laws_FnResolved.j0 k l0 a1 true) else ((impl_Resolved.f 0 6).bind fun t347 => (if t347 = true then (laws_FnResolved.j0 k l0 a1 true) else (if (l0.length : Int) > 1000 then (laws_FnResolved.j0 k l0 a1 true) else (laws_FnResolved.j0 k l0 a1 (decide (a1 < 0)))))))) else (laws_FnResolved.j0 k l0 a1 true)))
theorem laws_FnResolved.mono_l : ∀ k, (∀ y0 y1 y2, LeO (laws_FnResolved.j0 k y0 y1 y2) (laws_FnResolved.j0 (k + 1) y0 y1 y2)) ∧ (∀ y0 y1 y2 y3 y4 y5, LeO (laws_FnResolved.l0 k y0 y1 y2 y3 y4 y5) (laws_FnResolved.l0 (k + 1) y0 y1 y2 y3 y4 y5))
  | 0 => ⟨fun _ _ _ r h => by simp [laws_FnResolved.j0] at h, fun _ _ _ _ _ _ r h => by simp [laws_FnResolved.l0] at h⟩
  | k + 1 => by
    obtain ⟨ih0, ih1⟩ := laws_FnResolved.mono_l k
    refine ⟨?_, ?_⟩
    · intro y0 y1 y2
      unfold laws_FnResolved.j0
      repeat' first
      | (with_reducible exact ih0 _ _ _)
      | (with_reducible exact ih1 _ _ _ _ _ _)
      | (with_reducible exact LeO.refl _)
      | (with_reducible exact LeO.none _)
      | (with_reducible refine LeO.ite ?_ ?_)
      | (with_reducible refine LeO.bind ?_ (fun _ => ?_))
      | exact ih0 _ _ _
      | exact ih1 _ _ _ _ _ _
      | exact LeO.none _
      | refine LeO.ite ?_ ?_
      | refine LeO.bind ?_ (fun _ => ?_)
    · intro y0 y1 y2 y3 y4 y5
      unfold laws_FnResolved.l0
      repeat' first
      | (with_reducible exact ih0 _ _ _)
      | (with_reducible exact ih1 _ _ _ _ _ _)
      | (with_reducible exact LeO.refl _)
      | (with_reducible exact LeO.none _)
      | (with_reducible refine LeO.ite ?_ ?_)
      | (with_reducible refine LeO.bind ?_ (fun _ => ?_))
      | exact ih0 _ _ _
      | exact ih1 _ _ _ _ _ _
      | exact LeO.none _
      | refine LeO.ite ?_ ?_
      | refine LeO.bind ?_ (fun _ => ?_)
theorem laws_FnResolved.mono : ∀ a0 a1 k, LeO (laws_FnResolved.f k a0 a1) (laws_FnResolved.f (k + 1) a0 a1) := by
  intro a0 a1 k
  obtain ⟨ih0, ih1⟩ := laws_FnResolved.mono_l k
  unfold laws_FnResolved.f
  repeat' first
      | (with_reducible exact ih0 _ _ _)
      | (with_reducible exact ih1 _ _ _ _ _ _)
      | (with_reducible exact LeO.refl _)
      | (with_reducible exact LeO.none _)
      | (with_reducible refine LeO.ite ?_ ?_)
      | (with_reducible refine LeO.bind ?_ (fun _ => ?_))
      | exact ih0 _ _ _
      | exact ih1 _ _ _ _ _ _
      | exact LeO.none _
      | refine LeO.ite ?_ ?_
      | refine LeO.bind ?_ (fun _ => ?_)
set_option maxHeartbeats 8000000 in
set_option maxRecDepth 100000 in
theorem laws_FnResolved.calls (k : Nat) (A0 : Option Addr) (c0 : Nat) (l0 : List Int) (a1 : Int) (r : Bool) (w : World) (hr0 : Kd.C (Kd.int .i64) w A0 l0.length l0) (hc0 : l0.length ≤ c0) (h : laws_FnResolved.f k l0 a1 = some r) :
    Calls Try.prog 10 #[.slice A0 l0.length c0, .int .i64 a1] w fun e w' => e = .returned (.bool r) ∧ Below w.heap.size w w' := by
  have HR0 := Aside0.mk hr0
  have HC0 := Aside0.mk hc0
  clear hr0 hc0
  have HB := Aside0.mk (Below.refl w.heap.size w)
  have H : (if (l0.length : Int) > 2147483647 then (some true) else ((impl_Resolved.f 5 6).bind fun t345 => (if t345 = true then ((impl_Resolved.f 5 4).bind fun t346 => (if t346 = true then (laws_FnResolved.j0 k l0 a1 true) else ((impl_Resolved.f 0 6).bind fun t347 => (if t347 = true then (laws_FnResolved.j0 k l0 a1 true) else (if (l0.length : Int) > 1000 then (laws_FnResolved.j0 k l0 a1 true) else (laws_FnResolved.j0 k l0 a1 (decide (a1 < 0)))))))) else (laws_FnResolved.j0 k l0 a1 true)))) = some r := h
  clear h
  by_cases c3 : (l0.length : Int) > 2147483647
  · rw [if_pos c3] at H
    have c3b0 : decide (2147483647 < (l0.length : Int)) = true := decide_eq_true c3
    have c3b1 : decide (2147483647 < l0.length) = true := decide_eq_true (by omega)
    clear c3
    obtain rfl := Option.some.inj H
    go_enter Try.func10, Try.ntmps10
    go_wp2
    go_ret
    exact ⟨by first | rfl | (simp [errW_none, errW_some] <;> rfl) | (simp [*, errW_none, errW_some] <;> rfl), by repeat (first | (with_reducible first | exact HB.out | apply below_alloc | apply pw_below_drewN | apply below_drew1) | exact HB.out)⟩
  · rw [if_neg c3] at H
    have c3b0 : decide (2147483647 < (l0.length : Int)) = false := decide_eq_false c3
    have c3b1 : decide (2147483647 < l0.length) = false := decide_eq_false (by omega)
    clear c3
    have HC4 := Aside0.mk H
    clear H
    go_enter Try.func10, Try.ntmps10
    go_upto_region 3 with (fail)
    go_cut [28] (fun v28 wc => ∃ (kq : Nat) (x28_3 : Bool), v28 = .bool x28_3 ∧ Aside0 (laws_FnResolved.j0 kq l0 a1 x28_3 = some r) ∧ Aside0 (kq ≤ k) ∧ Aside0 (Below w.heap.size w wc))
    case first =>
      have H := HC4.out
      clear HC4
      replace H := Option.bind_eq_some_iff.mp H
      obtain ⟨t345, A50, H⟩ := H
      replace H : (if t345 = true then ((impl_Resolved.f 5 4).bind fun t346 => (if t346 = true then (laws_FnResolved.j0 k l0 a1 true) else ((impl_Resolved.f 0 6).bind fun t347 => (if t347 = true then (laws_FnResolved.j0 k l0 a1 true) else (if (l0.length : Int) > 1000 then (laws_FnResolved.j0 k l0 a1 true) else (laws_FnResolved.j0 k l0 a1 (decide (a1 < 0)))))))) else (laws_FnResolved.j0 k l0 a1 true)) = some r := H
      have A5 := Aside0.mk A50
      clear A50
      by_cases c6 : t345 = true
      · subst c6
        have H1 : ((impl_Resolved.f 5 4).bind fun t346 => (if t346 = true then (laws_FnResolved.j0 k l0 a1 true) else ((impl_Resolved.f 0 6).bind fun t347 => (if t347 = true then (laws_FnResolved.j0 k l0 a1 true) else (if (l0.length : Int) > 1000 then (laws_FnResolved.j0 k l0 a1 true) else (laws_FnResolved.j0 k l0 a1 (decide (a1 < 0)))))))) = some r := by rw [if_pos rfl] at H; exact H
        clear H
        have H := H1
        clear H1
        replace H := Option.bind_eq_some_iff.mp H
        obtain ⟨t346, A70, H⟩ := H
        replace H : (if t346 = true then (laws_FnResolved.j0 k l0 a1 true) else ((impl_Resolved.f 0 6).bind fun t347 => (if t347 = true then (laws_FnResolved.j0 k l0 a1 true) else (if (l0.length : Int) > 1000 then (laws_FnResolved.j0 k l0 a1 true) else (laws_FnResolved.j0 k l0 a1 (decide (a1 < 0))))))) = some r := H
        have A7 := Aside0.mk A70
        clear A70
        by_cases c8 : t346 = true
        · subst c8
          have H1 : (laws_FnResolved.j0 k l0 a1 true) = some r := by rw [if_pos rfl] at H; exact H
          clear H
          have H := H1
          clear H1
          have H' := Aside0.mk H
          clear H
          go_wp2_with (first | ((with_reducible refine gate_callee (f := 38) rfl ?_); refine goesL_ (some 12) rfl rfl Try.func38 (by kernel_rfl) rfl #[.int .i64 5, .int .i64 6] rfl (by (try simp only [List.map_toArray, List.map_cons, List.map_nil]); first | done | rfl | (simp only [List.length_drop, List.length_take]; rfl)) ?_; (with_reducible refine (impl_Resolved.calls 5 6 true _ A5.out).mono ?_); rintro e w9 ⟨rfl, hb⟩; refine ⟨_, rfl, ?_⟩; have n0_ := Aside0.mk (below_step (by repeat (first | (with_reducible first | exact HB.out | apply below_alloc | apply pw_below_drewN | apply below_drew1) | exact HB.out)) hb); clear HB; have HB := n0_; clear n0_; (try clear hb); (try clear hb2); (try clear hk); (try clear hi)) | (go_at_call 38; (with_reducible refine (impl_Resolved.calls 5 4 true _ A7.out).mono ?_); rintro e w10 ⟨rfl, hb⟩; have n0_ := Aside0.mk (below_step (by repeat (first | (with_reducible first | exact HB.out | apply below_alloc | apply pw_below_drewN | apply below_drew1) | exact HB.out)) hb); clear HB; have HB := n0_; clear n0_; (try clear hb); (try clear hb2); (try clear hk); (try clear hi)))
          go_meet
          case rel => exact ⟨_, (true), (by first | rfl | (simp; done) | (simp [*]; done)), H', ⟨by first | omega | exact Nat.le_refl _⟩, ⟨by repeat (first | (with_reducible first | exact HB.out | apply below_alloc | apply pw_below_drewN | apply below_drew1) | exact HB.out)⟩⟩
        · replace c8 := Bool.eq_false_iff.mpr c8
          subst c8
          have H1 : ((impl_Resolved.f 0 6).bind fun t347 => (if t347 = true then (laws_FnResolved.j0 k l0 a1 true) else (if (l0.length : Int) > 1000 then (laws_FnResolved.j0 k l0 a1 true) else (laws_FnResolved.j0 k l0 a1 (decide (a1 < 0)))))) = some r := by rw [if_neg (show ¬ (false = true) by decide)] at H; exact H
          clear H
          have H := H1
          clear H1
          replace H := Option.bind_eq_some_iff.mp H
          obtain ⟨t347, A110, H⟩ := H
          replace H : (if t347 = true then (laws_FnResolved.j0 k l0 a1 true) else (if (l0.length : Int) > 1000 then (laws_FnResolved.j0 k l0 a1 true) else (laws_FnResolved.j0 k l0 a1 (decide (a1 < 0))))) = some r := H
          have A11 := Aside0.mk A110
          clear A110
          by_cases c12 : t347 = true
          · subst c12
            have H1 : (laws_FnResolved.j0 k l0 a1 true) = some r := by rw [if_pos rfl] at H; exact H
            clear H
            have H := H1
            clear H1
            have H' := Aside0.mk H
            clear H
            go_wp2_with (first | ((with_reducible refine gate_callee (f := 38) rfl ?_); refine goesL_ (some 12) rfl rfl Try.func38 (by kernel_rfl) rfl #[.int .i64 5, .int .i64 6] rfl (by (try simp only [List.map_toArray, List.map_cons, List.map_nil]); first | done | rfl | (simp only [List.length_drop, List.length_take]; rfl)) ?_; (with_reducible refine (impl_Resolved.calls 5 6 true _ A5.out).mono ?_); rintro e w13 ⟨rfl, hb⟩; refine ⟨_, rfl, ?_⟩; have n0_ := Aside0.mk (below_step (by repeat (first | (with_reducible first | exact HB.out | apply below_alloc | apply pw_below_drewN | apply below_drew1) | exact HB.out)) hb); clear HB; have HB := n0_; clear n0_; (try clear hb); (try clear hb2); (try clear hk); (try clear hi)) | (go_at_call 38; (with_reducible refine (impl_Resolved.calls 5 4 false _ A7.out).mono ?_); rintro e w14 ⟨rfl, hb⟩; have n0_ := Aside0.mk (below_step (by repeat (first | (with_reducible first | exact HB.out | apply below_alloc | apply pw_below_drewN | apply below_drew1) | exact HB.out)) hb); clear HB; have HB := n0_; clear n0_; (try clear hb); (try clear hb2); (try clear hk); (try clear hi)) | (go_at_call 38; (with_reducible refine (impl_Resolved.calls 0 6 true _ A11.out).mono ?_); rintro e w15 ⟨rfl, hb⟩; have n0_ := Aside0.mk (below_step (by repeat (first | (with_reducible first | exact HB.out | apply below_alloc | apply pw_below_drewN | apply below_drew1) | exact HB.out)) hb); clear HB; have HB := n0_; clear n0_; (try clear hb); (try clear hb2); (try clear hk); (try clear hi)))
            go_meet
            case rel => exact ⟨_, (true), (by first | rfl | (simp; done) | (simp [*]; done)), H', ⟨by first | omega | exact Nat.le_refl _⟩, ⟨by repeat (first | (with_reducible first | exact HB.out | apply below_alloc | apply pw_below_drewN | apply below_drew1) | exact HB.out)⟩⟩
          · replace c12 := Bool.eq_false_iff.mpr c12
            subst c12
            have H1 : (if (l0.length : Int) > 1000 then (laws_FnResolved.j0 k l0 a1 true) else (laws_FnResolved.j0 k l0 a1 (decide (a1 < 0)))) = some r := by rw [if_neg (show ¬ (false = true) by decide)] at H; exact H
            clear H
            have H := H1
            clear H1
            by_cases c16 : (l0.length : Int) > 1000
            · rw [if_pos c16] at H
              have c16b0 : decide (1000 < (l0.length : Int)) = true := decide_eq_true c16
              have c16b1 : decide (1000 < l0.length) = true := decide_eq_true (by omega)
              clear c16
              (first | rw [c16b0] | (simp only [i64_w, i32_w]; rw [c16b0]) | skip)
              have H' := Aside0.mk H
              clear H
              go_wp2_with (first | ((with_reducible refine gate_callee (f := 38) rfl ?_); refine goesL_ (some 12) rfl rfl Try.func38 (by kernel_rfl) rfl #[.int .i64 5, .int .i64 6] rfl (by (try simp only [List.map_toArray, List.map_cons, List.map_nil]); first | done | rfl | (simp only [List.length_drop, List.length_take]; rfl)) ?_; (with_reducible refine (impl_Resolved.calls 5 6 true _ A5.out).mono ?_); rintro e w17 ⟨rfl, hb⟩; refine ⟨_, rfl, ?_⟩; have n0_ := Aside0.mk (below_step (by repeat (first | (with_reducible first | exact HB.out | apply below_alloc | apply pw_below_drewN | apply below_drew1) | exact HB.out)) hb); clear HB; have HB := n0_; clear n0_; (try clear hb); (try clear hb2); (try clear hk); (try clear hi)) | (go_at_call 38; (with_reducible refine (impl_Resolved.calls 5 4 false _ A7.out).mono ?_); rintro e w18 ⟨rfl, hb⟩; have n0_ := Aside0.mk (below_step (by repeat (first | (with_reducible first | exact HB.out | apply below_alloc | apply pw_below_drewN | apply below_drew1) | exact HB.out)) hb); clear HB; have HB := n0_; clear n0_; (try clear hb); (try clear hb2); (try clear hk); (try clear hi)) | (go_at_call 38; (with_reducible refine (impl_Resolved.calls 0 6 false _ A11.out).mono ?_); rintro e w19 ⟨rfl, hb⟩; have n0_ := Aside0.mk (below_step (by repeat (first | (with_reducible first | exact HB.out | apply below_alloc | apply pw_below_drewN | apply below_drew1) | exact HB.out)) hb); clear HB; have HB := n0_; clear n0_; (try clear hb); (try clear hb2); (try clear hk); (try clear hi)))
              go_meet
              case rel => exact ⟨_, (true), (by first | rfl | (simp; done) | (simp [*]; done)), H', ⟨by first | omega | exact Nat.le_refl _⟩, ⟨by repeat (first | (with_reducible first | exact HB.out | apply below_alloc | apply pw_below_drewN | apply below_drew1) | exact HB.out)⟩⟩
            · rw [if_neg c16] at H
              have c16b0 : decide (1000 < (l0.length : Int)) = false := decide_eq_false c16
              have c16b1 : decide (1000 < l0.length) = false := decide_eq_false (by omega)
              clear c16
              (first | rw [c16b0] | (simp only [i64_w, i32_w]; rw [c16b0]) | skip)
              have H' := Aside0.mk H
              clear H
              go_wp2_with (first | ((with_reducible refine gate_callee (f := 38) rfl ?_); refine goesL_ (some 12) rfl rfl Try.func38 (by kernel_rfl) rfl #[.int .i64 5, .int .i64 6] rfl (by (try simp only [List.map_toArray, List.map_cons, List.map_nil]); first | done | rfl | (simp only [List.length_drop, List.length_take]; rfl)) ?_; (with_reducible refine (impl_Resolved.calls 5 6 true _ A5.out).mono ?_); rintro e w20 ⟨rfl, hb⟩; refine ⟨_, rfl, ?_⟩; have n0_ := Aside0.mk (below_step (by repeat (first | (with_reducible first | exact HB.out | apply below_alloc | apply pw_below_drewN | apply below_drew1) | exact HB.out)) hb); clear HB; have HB := n0_; clear n0_; (try clear hb); (try clear hb2); (try clear hk); (try clear hi)) | (go_at_call 38; (with_reducible refine (impl_Resolved.calls 5 4 false _ A7.out).mono ?_); rintro e w21 ⟨rfl, hb⟩; have n0_ := Aside0.mk (below_step (by repeat (first | (with_reducible first | exact HB.out | apply below_alloc | apply pw_below_drewN | apply below_drew1) | exact HB.out)) hb); clear HB; have HB := n0_; clear n0_; (try clear hb); (try clear hb2); (try clear hk); (try clear hi)) | (go_at_call 38; (with_reducible refine (impl_Resolved.calls 0 6 false _ A11.out).mono ?_); rintro e w22 ⟨rfl, hb⟩; have n0_ := Aside0.mk (below_step (by repeat (first | (with_reducible first | exact HB.out | apply below_alloc | apply pw_below_drewN | apply below_drew1) | exact HB.out)) hb); clear HB; have HB := n0_; clear n0_; (try clear hb); (try clear hb2); (try clear hk); (try clear hi)))
              go_meet
              case rel => exact ⟨_, (decide (a1 < 0)), (by first | rfl | (simp; done) | (simp [*]; done)), H', ⟨by first | omega | exact Nat.le_refl _⟩, ⟨by repeat (first | (with_reducible first | exact HB.out | apply below_alloc | apply pw_below_drewN | apply below_drew1) | exact HB.out)⟩⟩
      · replace c6 := Bool.eq_false_iff.mpr c6
        subst c6
        have H1 : (laws_FnResolved.j0 k l0 a1 true) = some r := by rw [if_neg (show ¬ (false = true) by decide)] at H; exact H
        clear H
        have H := H1
        clear H1
        have H' := Aside0.mk H
        clear H
        go_wp2_with (first | ((with_reducible refine gate_callee (f := 38) rfl ?_); refine goesL_ (some 12) rfl rfl Try.func38 (by kernel_rfl) rfl #[.int .i64 5, .int .i64 6] rfl (by (try simp only [List.map_toArray, List.map_cons, List.map_nil]); first | done | rfl | (simp only [List.length_drop, List.length_take]; rfl)) ?_; (with_reducible refine (impl_Resolved.calls 5 6 false _ A5.out).mono ?_); rintro e w23 ⟨rfl, hb⟩; refine ⟨_, rfl, ?_⟩; have n0_ := Aside0.mk (below_step (by repeat (first | (with_reducible first | exact HB.out | apply below_alloc | apply pw_below_drewN | apply below_drew1) | exact HB.out)) hb); clear HB; have HB := n0_; clear n0_; (try clear hb); (try clear hb2); (try clear hk); (try clear hi)))
        go_meet
        case rel => exact ⟨_, (true), (by first | rfl | (simp; done) | (simp [*]; done)), H', ⟨by first | omega | exact Nat.le_refl _⟩, ⟨by repeat (first | (with_reducible first | exact HB.out | apply below_alloc | apply pw_below_drewN | apply below_drew1) | exact HB.out)⟩⟩
    case rest =>
      clear HC4
      try clear c1
      try clear p2
      try clear c3
      try clear c3b0
      try clear c3b1
      try clear c6
      try clear c8
      try clear c10
      try clear c12
      try clear c16
      try clear c16b0
      try clear c16b1
      obtain ⟨kq, x28_3, rfl, HA, HJ3, HB⟩ := hcut
      cases kq with
      | zero => exact absurd HA.out (by simp [laws_FnResolved.j0])
      | succ kj3 =>
        have H := HA.out
        clear HA
        simp only [laws_FnResolved.j0] at H
        by_cases c24 : x28_3 = true
        · subst c24
          have H1 : (if (l0.length : Int) > 1000 then (some true) else (some (decide (a1 < 0)))) = some r := by rw [if_pos rfl] at H; exact H
          clear H
          have H := H1
          clear H1
          by_cases c25 : (l0.length : Int) > 1000
          · rw [if_pos c25] at H
            have c25b0 : decide (1000 < (l0.length : Int)) = true := decide_eq_true c25
            have c25b1 : decide (1000 < l0.length) = true := decide_eq_true (by omega)
            clear c25
            obtain rfl := Option.some.inj H
            go_wp2
            go_ret
            exact ⟨by first | rfl | (simp [errW_none, errW_some] <;> rfl) | (simp [*, errW_none, errW_some] <;> rfl), by repeat (first | (with_reducible first | exact HB.out | apply below_alloc | apply pw_below_drewN | apply below_drew1) | exact HB.out)⟩
          · rw [if_neg c25] at H
            have c25b0 : decide (1000 < (l0.length : Int)) = false := decide_eq_false c25
            have c25b1 : decide (1000 < l0.length) = false := decide_eq_false (by omega)
            clear c25
            obtain rfl := Option.some.inj H
            go_wp2
            go_ret
            exact ⟨by first | rfl | (simp [errW_none, errW_some] <;> rfl) | (simp [*, errW_none, errW_some] <;> rfl), by repeat (first | (with_reducible first | exact HB.out | apply below_alloc | apply pw_below_drewN | apply below_drew1) | exact HB.out)⟩
        · replace c24 := Bool.eq_false_iff.mpr c24
          subst c24
          have H1 : (laws_FnResolved.l0 kj3 l0 a1 false l0 (l0.length : Int) 0) = some r := by rw [if_neg (show ¬ (false = true) by decide)] at H; exact H
          clear H
          have H := H1
          clear H1
          have H' := Aside0.mk H
          clear H
          go_wp2
          go_loopg [5, 38] kj3 (fun kq v5 v38 w' => ∃ (x5_2 : Bool) (x38_2 : Int), v5 = .bool x5_2 ∧ v38 = .int .i64 x38_2 ∧ Aside0 (laws_FnResolved.l0 kq l0 a1 x5_2 l0 (l0.length : Int) x38_2 = some r) ∧ Aside0 (kq ≤ kj3) ∧ Aside0 (Below w.heap.size w w'))
          case atStart => exact ⟨(false), (0), (by first | rfl | (simp; done) | (simp [*]; done)), (by first | rfl | (simp; done) | (simp [*]; done)), H', ⟨Nat.le_refl _⟩, ⟨by repeat (first | (with_reducible first | exact HB.out | apply below_alloc | apply pw_below_drewN | apply below_drew1) | exact HB.out)⟩⟩
          case round =>
            clear H'
            try clear c1
            try clear c2
            try clear p2
            try clear c3
            try clear c3b0
            try clear c3b1
            try clear c6
            try clear c8
            try clear c10
            try clear c12
            try clear c16
            try clear c16b0
            try clear c16b1
            try clear c24
            try clear c25
            try clear c25b0
            try clear c25b1
            try clear p2
            obtain ⟨x5_2, x38_2, rfl, rfl, HA, HK2, HB⟩ := hrel
            cases gk with
            | zero => exact absurd HA.out (by simp [laws_FnResolved.l0])
            | succ k2 =>
              have H := HA.out
              clear HA
              simp only [laws_FnResolved.l0] at H
              by_cases c26 : x38_2 < (l0.length : Int)
              · rw [if_pos c26] at H
                have c26b0 : decide (x38_2 < (l0.length : Int)) = true := decide_eq_true c26
                clear c26
                by_cases c27 : 0 ≤ x38_2
                · rw [if_pos c27] at H
                  have c27b0 : decide (0 ≤ x38_2) = true := decide_eq_true c27
                  clear c27
                  by_cases c28 : x38_2 < (l0.length : Int)
                  · rw [if_pos c28] at H
                    have c28b0 : decide (x38_2 < (l0.length : Int)) = true := decide_eq_true c28
                    clear c28
                    by_cases c29 : (rd l0 x38_2) < 0
                    · rw [if_pos c29] at H
                      have c29b0 : decide ((rd l0 x38_2) < 0) = true := decide_eq_true c29
                      clear c29
                      obtain rfl := Option.some.inj H
                      have p349 : 0 ≤ (x38_2 : Int) := of_decide_eq_true (by first | (with_reducible assumption) | assumption)
                      have q349 : x38_2 < (l0.length : Int) := of_decide_eq_true (by first | (with_reducible assumption) | assumption)
                      obtain ⟨ad349, e349, hx349_0⟩ := Kd.at_int HR0.out x38_2 p349 q349
                      cases e349
                      replace hx349_0 := (HB.out.cell (World.block_lt_of_cell? w _ hx349_0)).trans hx349_0
                      replace p349 := eq_true p349
                      replace q349 := eq_true q349
                      go_wp2
                      go_ret
                      exact ⟨by first | rfl | (simp [errW_none, errW_some] <;> rfl) | (simp [*, errW_none, errW_some] <;> rfl), by repeat (first | (with_reducible first | exact HB.out | apply below_alloc | apply pw_below_drewN | apply below_drew1) | exact HB.out)⟩
                    · rw [if_neg c29] at H
                      have c29b0 : decide ((rd l0 x38_2) < 0) = false := decide_eq_false c29
                      clear c29
                      replace H := Option.bind_eq_some_iff.mp H
                      obtain ⟨t350, A300, H⟩ := H
                      replace H : (if (rd l0 x38_2) = 0 then (if t350 = true then (some false) else (if (rd l0 x38_2) > a1 then (if (rd l0 x38_2) > 0 then (if (rd l0 x38_2) < a1 then (some false) else (if x5_2 = true then (laws_FnResolved.l0 k2 l0 a1 true l0 (l0.length : Int) (wrap64 (x38_2 + 1))) else (laws_FnResolved.l0 k2 l0 a1 (!t350) l0 (l0.length : Int) (wrap64 (x38_2 + 1))))) else (if x5_2 = true then (laws_FnResolved.l0 k2 l0 a1 true l0 (l0.length : Int) (wrap64 (x38_2 + 1))) else (laws_FnResolved.l0 k2 l0 a1 (!t350) l0 (l0.length : Int) (wrap64 (x38_2 + 1))))) else (if (rd l0 x38_2) > 0 then (if (rd l0 x38_2) < a1 then (some false) else (if x5_2 = true then (laws_FnResolved.l0 k2 l0 a1 true l0 (l0.length : Int) (wrap64 (x38_2 + 1))) else (laws_FnResolved.l0 k2 l0 a1 (!t350) l0 (l0.length : Int) (wrap64 (x38_2 + 1))))) else (if x5_2 = true then (laws_FnResolved.l0 k2 l0 a1 true l0 (l0.length : Int) (wrap64 (x38_2 + 1))) else (laws_FnResolved.l0 k2 l0 a1 (!t350) l0 (l0.length : Int) (wrap64 (x38_2 + 1))))))) else (if (rd l0 x38_2) > a1 then (if t350 = true then (some false) else (if (rd l0 x38_2) > 0 then (if (rd l0 x38_2) < a1 then (some false) else (if x5_2 = true then (laws_FnResolved.l0 k2 l0 a1 true l0 (l0.length : Int) (wrap64 (x38_2 + 1))) else (laws_FnResolved.l0 k2 l0 a1 (!t350) l0 (l0.length : Int) (wrap64 (x38_2 + 1))))) else (if x5_2 = true then (laws_FnResolved.l0 k2 l0 a1 true l0 (l0.length : Int) (wrap64 (x38_2 + 1))) else (laws_FnResolved.l0 k2 l0 a1 (!t350) l0 (l0.length : Int) (wrap64 (x38_2 + 1)))))) else (if (rd l0 x38_2) > 0 then (if (rd l0 x38_2) < a1 then (if t350 = true then (if x5_2 = true then (laws_FnResolved.l0 k2 l0 a1 true l0 (l0.length : Int) (wrap64 (x38_2 + 1))) else (laws_FnResolved.l0 k2 l0 a1 (!t350) l0 (l0.length : Int) (wrap64 (x38_2 + 1)))) else (some false)) else (if x5_2 = true then (laws_FnResolved.l0 k2 l0 a1 true l0 (l0.length : Int) (wrap64 (x38_2 + 1))) else (laws_FnResolved.l0 k2 l0 a1 (!t350) l0 (l0.length : Int) (wrap64 (x38_2 + 1))))) else (if x5_2 = true then (laws_FnResolved.l0 k2 l0 a1 true l0 (l0.length : Int) (wrap64 (x38_2 + 1))) else (laws_FnResolved.l0 k2 l0 a1 (!t350) l0 (l0.length : Int) (wrap64 (x38_2 + 1))))))) = some r := H
                      have A30 := Aside0.mk A300
                      clear A300
                      by_cases c31 : (rd l0 x38_2) = 0
                      · rw [if_pos c31] at H
                        have c31b0 : ((rd l0 x38_2) == 0) = true := beq_iff_eq.mpr c31
                        have c31b1 : ((rd l0 x38_2) != 0) = false := bne_eq_false_iff_eq.mpr c31
                        clear c31
                        by_cases c32 : t350 = true
                        · subst c32
                          have H1 : (some false) = some r := by rw [if_pos rfl] at H; exact H
                          clear H
                          have H := H1
                          clear H1
                          obtain rfl := Option.some.inj H
                          have p349 : 0 ≤ (x38_2 : Int) := of_decide_eq_true (by first | (with_reducible assumption) | assumption)
                          have q349 : x38_2 < (l0.length : Int) := of_decide_eq_true (by first | (with_reducible assumption) | assumption)
                          obtain ⟨ad349, e349, hx349_0⟩ := Kd.at_int HR0.out x38_2 p349 q349
                          cases e349
                          replace hx349_0 := (HB.out.cell (World.block_lt_of_cell? w _ hx349_0)).trans hx349_0
                          replace p349 := eq_true p349
                          replace q349 := eq_true q349
                          go_wp2_with (first | ((with_reducible refine gate_callee (f := 38) rfl ?_); refine goesL_ (some 46) rfl rfl Try.func38 (by kernel_rfl) rfl #[.int .i64 (rd l0 x38_2), .int .i64 a1] rfl (by (try simp only [List.map_toArray, List.map_cons, List.map_nil]); first | done | rfl | (simp only [List.length_drop, List.length_take]; rfl)) ?_; (with_reducible refine (impl_Resolved.calls (rd l0 x38_2) a1 true _ A30.out).mono ?_); rintro e w33 ⟨rfl, hb⟩; refine ⟨_, rfl, ?_⟩; have n0_ := Aside0.mk (below_step (by repeat (first | (with_reducible first | exact HB.out | apply below_alloc | apply pw_below_drewN | apply below_drew1) | exact HB.out)) hb); clear HB; have HB := n0_; clear n0_; (try clear hb); (try clear hb2); (try clear hk); (try clear hi)))
                          go_ret
                          exact ⟨by first | rfl | (simp [errW_none, errW_some] <;> rfl) | (simp [*, errW_none, errW_some] <;> rfl), by repeat (first | (with_reducible first | exact HB.out | apply below_alloc | apply pw_below_drewN | apply below_drew1) | exact HB.out)⟩
                        · replace c32 := Bool.eq_false_iff.mpr c32
                          subst c32
                          have H1 : (if (rd l0 x38_2) > a1 then (if (rd l0 x38_2) > 0 then (if (rd l0 x38_2) < a1 then (some false) else (if x5_2 = true then (laws_FnResolved.l0 k2 l0 a1 true l0 (l0.length : Int) (wrap64 (x38_2 + 1))) else (laws_FnResolved.l0 k2 l0 a1 (!false) l0 (l0.length : Int) (wrap64 (x38_2 + 1))))) else (if x5_2 = true then (laws_FnResolved.l0 k2 l0 a1 true l0 (l0.length : Int) (wrap64 (x38_2 + 1))) else (laws_FnResolved.l0 k2 l0 a1 (!false) l0 (l0.length : Int) (wrap64 (x38_2 + 1))))) else (if (rd l0 x38_2) > 0 then (if (rd l0 x38_2) < a1 then (some false) else (if x5_2 = true then (laws_FnResolved.l0 k2 l0 a1 true l0 (l0.length : Int) (wrap64 (x38_2 + 1))) else (laws_FnResolved.l0 k2 l0 a1 (!false) l0 (l0.length : Int) (wrap64 (x38_2 + 1))))) else (if x5_2 = true then (laws_FnResolved.l0 k2 l0 a1 true l0 (l0.length : Int) (wrap64 (x38_2 + 1))) else (laws_FnResolved.l0 k2 l0 a1 (!false) l0 (l0.length : Int) (wrap64 (x38_2 + 1)))))) = some r := by rw [if_neg (show ¬ (false = true) by decide)] at H; exact H
                          clear H
                          have H := H1
                          clear H1
                          by_cases c34 : (rd l0 x38_2) > a1
                          · rw [if_pos c34] at H
                            have c34b0 : decide (a1 < (rd l0 x38_2)) = true := decide_eq_true c34
                            clear c34
                            by_cases c35 : (rd l0 x38_2) > 0
                            · rw [if_pos c35] at H
                              have c35b0 : decide (0 < (rd l0 x38_2)) = true := decide_eq_true c35
                              clear c35
                              by_cases c36 : (rd l0 x38_2) < a1
                              · rw [if_pos c36] at H
                                have c36b0 : decide ((rd l0 x38_2) < a1) = true := decide_eq_true c36
                                clear c36
                                obtain rfl := Option.some.inj H
                                have p349 : 0 ≤ (x38_2 : Int) := of_decide_eq_true (by first | (with_reducible assumption) | assumption)
                                have q349 : x38_2 < (l0.length : Int) := of_decide_eq_true (by first | (with_reducible assumption) | assumption)
                                obtain ⟨ad349, e349, hx349_0⟩ := Kd.at_int HR0.out x38_2 p349 q349
                                cases e349
                                replace hx349_0 := (HB.out.cell (World.block_lt_of_cell? w _ hx349_0)).trans hx349_0
                                replace p349 := eq_true p349
                                replace q349 := eq_true q349
                                go_wp2_with (first | ((with_reducible refine gate_callee (f := 38) rfl ?_); refine goesL_ (some 46) rfl rfl Try.func38 (by kernel_rfl) rfl #[.int .i64 (rd l0 x38_2), .int .i64 a1] rfl (by (try simp only [List.map_toArray, List.map_cons, List.map_nil]); first | done | rfl | (simp only [List.length_drop, List.length_take]; rfl)) ?_; (with_reducible refine (impl_Resolved.calls (rd l0 x38_2) a1 false _ A30.out).mono ?_); rintro e w37 ⟨rfl, hb⟩; refine ⟨_, rfl, ?_⟩; have n0_ := Aside0.mk (below_step (by repeat (first | (with_reducible first | exact HB.out | apply below_alloc | apply pw_below_drewN | apply below_drew1) | exact HB.out)) hb); clear HB; have HB := n0_; clear n0_; (try clear hb); (try clear hb2); (try clear hk); (try clear hi)))
                                go_ret
                                exact ⟨by first | rfl | (simp [errW_none, errW_some] <;> rfl) | (simp [*, errW_none, errW_some] <;> rfl), by repeat (first | (with_reducible first | exact HB.out | apply below_alloc | apply pw_below_drewN | apply below_drew1) | exact HB.out)⟩
                              · rw [if_neg c36] at H
                                have c36b0 : decide ((rd l0 x38_2) < a1) = false := decide_eq_false c36
                                clear c36
                                by_cases c38 : x5_2 = true
                                · subst c38
                                  have H1 : (laws_FnResolved.l0 k2 l0 a1 true l0 (l0.length : Int) (wrap64 (x38_2 + 1))) = some r := by rw [if_pos rfl] at H; exact H
                                  clear H
                                  have H := H1
                                  clear H1
                                  have H' := Aside0.mk H
                                  clear H
                                  have p349 : 0 ≤ (x38_2 : Int) := of_decide_eq_true (by first | (with_reducible assumption) | assumption)
                                  have q349 : x38_2 < (l0.length : Int) := of_decide_eq_true (by first | (with_reducible assumption) | assumption)
                                  obtain ⟨ad349, e349, hx349_0⟩ := Kd.at_int HR0.out x38_2 p349 q349
                                  cases e349
                                  replace hx349_0 := (HB.out.cell (World.block_lt_of_cell? w _ hx349_0)).trans hx349_0
                                  replace p349 := eq_true p349
                                  replace q349 := eq_true q349
                                  go_wp2_with (first | ((with_reducible refine gate_callee (f := 38) rfl ?_); refine goesL_ (some 46) rfl rfl Try.func38 (by kernel_rfl) rfl #[.int .i64 (rd l0 x38_2), .int .i64 a1] rfl (by (try simp only [List.map_toArray, List.map_cons, List.map_nil]); first | done | rfl | (simp only [List.length_drop, List.length_take]; rfl)) ?_; (with_reducible refine (impl_Resolved.calls (rd l0 x38_2) a1 false _ A30.out).mono ?_); rintro e w39 ⟨rfl, hb⟩; refine ⟨_, rfl, ?_⟩; have n0_ := Aside0.mk (below_step (by repeat (first | (with_reducible first | exact HB.out | apply below_alloc | apply pw_below_drewN | apply below_drew1) | exact HB.out)) hb); clear HB; have HB := n0_; clear n0_; (try clear hb); (try clear hb2); (try clear hk); (try clear hi)))
                                  go_roundg k2
                                  case measure => have := HJ3.out; have := HK2.out; omega
                                  case rel => exact ⟨(true), (wrap64 (x38_2 + 1)), (by first | rfl | (simp; done) | (simp [*]; done)), (by first | rfl | (simp; done) | (simp [*]; done)), H', ⟨by have := HJ3.out; have := HK2.out; omega⟩, ⟨by repeat (first | (with_reducible first | exact HB.out | apply below_alloc | apply pw_below_drewN | apply below_drew1) | exact HB.out)⟩⟩
                                · replace c38 := Bool.eq_false_iff.mpr c38
                                  subst c38
                                  have H1 : (laws_FnResolved.l0 k2 l0 a1 (!false) l0 (l0.length : Int) (wrap64 (x38_2 + 1))) = some r := by rw [if_neg (show ¬ (false = true) by decide)] at H; exact H
                                  clear H
                                  have H := H1
                                  clear H1
                                  have H' := Aside0.mk H
                                  clear H
                                  have p349 : 0 ≤ (x38_2 : Int) := of_decide_eq_true (by first | (with_reducible assumption) | assumption)
                                  have q349 : x38_2 < (l0.length : Int) := of_decide_eq_true (by first | (with_reducible assumption) | assumption)
                                  obtain ⟨ad349, e349, hx349_0⟩ := Kd.at_int HR0.out x38_2 p349 q349
                                  cases e349
                                  replace hx349_0 := (HB.out.cell (World.block_lt_of_cell? w _ hx349_0)).trans hx349_0
                                  replace p349 := eq_true p349
                                  replace q349 := eq_true q349
                                  go_wp2_with (first | ((with_reducible refine gate_callee (f := 38) rfl ?_); refine goesL_ (some 46) rfl rfl Try.func38 (by kernel_rfl) rfl #[.int .i64 (rd l0 x38_2), .int .i64 a1] rfl (by (try simp only [List.map_toArray, List.map_cons, List.map_nil]); first | done | rfl | (simp only [List.length_drop, List.length_take]; rfl)) ?_; (with_reducible refine (impl_Resolved.calls (rd l0 x38_2) a1 false _ A30.out).mono ?_); rintro e w40 ⟨rfl, hb⟩; refine ⟨_, rfl, ?_⟩; have n0_ := Aside0.mk (below_step (by repeat (first | (with_reducible first | exact HB.out | apply below_alloc | apply pw_below_drewN | apply below_drew1) | exact HB.out)) hb); clear HB; have HB := n0_; clear n0_; (try clear hb); (try clear hb2); (try clear hk); (try clear hi)))
                                  go_roundg k2
                                  case measure => have := HJ3.out; have := HK2.out; omega
                                  case rel => exact ⟨(!false), (wrap64 (x38_2 + 1)), (by first | rfl | (simp; done) | (simp [*]; done)), (by first | rfl | (simp; done) | (simp [*]; done)), H', ⟨by have := HJ3.out; have := HK2.out; omega⟩, ⟨by repeat (first | (with_reducible first | exact HB.out | apply below_alloc | apply pw_below_drewN | apply below_drew1) | exact HB.out)⟩⟩
                            · rw [if_neg c35] at H
                              have c35b0 : decide (0 < (rd l0 x38_2)) = false := decide_eq_false c35
                              clear c35
                              by_cases c41 : x5_2 = true
                              · subst c41
                                have H1 : (laws_FnResolved.l0 k2 l0 a1 true l0 (l0.length : Int) (wrap64 (x38_2 + 1))) = some r := by rw [if_pos rfl] at H; exact H
                                clear H
                                have H := H1
                                clear H1
                                have H' := Aside0.mk H
                                clear H
                                have p349 : 0 ≤ (x38_2 : Int) := of_decide_eq_true (by first | (with_reducible assumption) | assumption)
                                have q349 : x38_2 < (l0.length : Int) := of_decide_eq_true (by first | (with_reducible assumption) | assumption)
                                obtain ⟨ad349, e349, hx349_0⟩ := Kd.at_int HR0.out x38_2 p349 q349
                                cases e349
                                replace hx349_0 := (HB.out.cell (World.block_lt_of_cell? w _ hx349_0)).trans hx349_0
                                replace p349 := eq_true p349
                                replace q349 := eq_true q349
                                go_wp2_with (first | ((with_reducible refine gate_callee (f := 38) rfl ?_); refine goesL_ (some 46) rfl rfl Try.func38 (by kernel_rfl) rfl #[.int .i64 (rd l0 x38_2), .int .i64 a1] rfl (by (try simp only [List.map_toArray, List.map_cons, List.map_nil]); first | done | rfl | (simp only [List.length_drop, List.length_take]; rfl)) ?_; (with_reducible refine (impl_Resolved.calls (rd l0 x38_2) a1 false _ A30.out).mono ?_); rintro e w42 ⟨rfl, hb⟩; refine ⟨_, rfl, ?_⟩; have n0_ := Aside0.mk (below_step (by repeat (first | (with_reducible first | exact HB.out | apply below_alloc | apply pw_below_drewN | apply below_drew1) | exact HB.out)) hb); clear HB; have HB := n0_; clear n0_; (try clear hb); (try clear hb2); (try clear hk); (try clear hi)))
                                go_roundg k2
                                case measure => have := HJ3.out; have := HK2.out; omega
                                case rel => exact ⟨(true), (wrap64 (x38_2 + 1)), (by first | rfl | (simp; done) | (simp [*]; done)), (by first | rfl | (simp; done) | (simp [*]; done)), H', ⟨by have := HJ3.out; have := HK2.out; omega⟩, ⟨by repeat (first | (with_reducible first | exact HB.out | apply below_alloc | apply pw_below_drewN | apply below_drew1) | exact HB.out)⟩⟩
                              · replace c41 := Bool.eq_false_iff.mpr c41
                                subst c41
                                have H1 : (laws_FnResolved.l0 k2 l0 a1 (!false) l0 (l0.length : Int) (wrap64 (x38_2 + 1))) = some r := by rw [if_neg (show ¬ (false = true) by decide)] at H; exact H
                                clear H
                                have H := H1
                                clear H1
                                have H' := Aside0.mk H
                                clear H
                                have p349 : 0 ≤ (x38_2 : Int) := of_decide_eq_true (by first | (with_reducible assumption) | assumption)
                                have q349 : x38_2 < (l0.length : Int) := of_decide_eq_true (by first | (with_reducible assumption) | assumption)
                                obtain ⟨ad349, e349, hx349_0⟩ := Kd.at_int HR0.out x38_2 p349 q349
                                cases e349
                                replace hx349_0 := (HB.out.cell (World.block_lt_of_cell? w _ hx349_0)).trans hx349_0
                                replace p349 := eq_true p349
                                replace q349 := eq_true q349
                                go_wp2_with (first | ((with_reducible refine gate_callee (f := 38) rfl ?_); refine goesL_ (some 46) rfl rfl Try.func38 (by kernel_rfl) rfl #[.int .i64 (rd l0 x38_2), .int .i64 a1] rfl (by (try simp only [List.map_toArray, List.map_cons, List.map_nil]); first | done | rfl | (simp only [List.length_drop, List.length_take]; rfl)) ?_; (with_reducible refine (impl_Resolved.calls (rd l0 x38_2) a1 false _ A30.out).mono ?_); rintro e w43 ⟨rfl, hb⟩; refine ⟨_, rfl, ?_⟩; have n0_ := Aside0.mk (below_step (by repeat (first | (with_reducible first | exact HB.out | apply below_alloc | apply pw_below_drewN | apply below_drew1) | exact HB.out)) hb); clear HB; have HB := n0_; clear n0_; (try clear hb); (try clear hb2); (try clear hk); (try clear hi)))
                                go_roundg k2
                                case measure => have := HJ3.out; have := HK2.out; omega
                                case rel => exact ⟨(!false), (wrap64 (x38_2 + 1)), (by first | rfl | (simp; done) | (simp [*]; done)), (by first | rfl | (simp; done) | (simp [*]; done)), H', ⟨by have := HJ3.out; have := HK2.out; omega⟩, ⟨by repeat (first | (with_reducible first | exact HB.out | apply below_alloc | apply pw_below_drewN | apply below_drew1) | exact HB.out)⟩⟩
                          · rw [if_neg c34] at H
                            have c34b0 : decide (a1 < (rd l0 x38_2)) = false := decide_eq_false c34
                            clear c34
                            by_cases c44 : (rd l0 x38_2) > 0
                            · rw [if_pos c44] at H
                              have c44b0 : decide (0 < (rd l0 x38_2)) = true := decide_eq_true c44
                              clear c44
                              by_cases c45 : (rd l0 x38_2) < a1
                              · rw [if_pos c45] at H
                                have c45b0 : decide ((rd l0 x38_2) < a1) = true := decide_eq_true c45
                                clear c45
                                obtain rfl := Option.some.inj H
                                have p349 : 0 ≤ (x38_2 : Int) := of_decide_eq_true (by first | (with_reducible assumption) | assumption)
                                have q349 : x38_2 < (l0.length : Int) := of_decide_eq_true (by first | (with_reducible assumption) | assumption)
                                obtain ⟨ad349, e349, hx349_0⟩ := Kd.at_int HR0.out x38_2 p349 q349
                                cases e349
                                replace hx349_0 := (HB.out.cell (World.block_lt_of_cell? w _ hx349_0)).trans hx349_0
                                replace p349 := eq_true p349
                                replace q349 := eq_true q349
                                go_wp2_with (first | ((with_reducible refine gate_callee (f := 38) rfl ?_); refine goesL_ (some 46) rfl rfl Try.func38 (by kernel_rfl) rfl #[.int .i64 (rd l0 x38_2), .int .i64 a1] rfl (by (try simp only [List.map_toArray, List.map_cons, List.map_nil]); first | done | rfl | (simp only [List.length_drop, List.length_take]; rfl)) ?_; (with_reducible refine (impl_Resolved.calls (rd l0 x38_2) a1 false _ A30.out).mono ?_); rintro e w46 ⟨rfl, hb⟩; refine ⟨_, rfl, ?_⟩; have n0_ := Aside0.mk (below_step (by repeat (first | (with_reducible first | exact HB.out | apply below_alloc | apply pw_below_drewN | apply below_drew1) | exact HB.out)) hb); clear HB; have HB := n0_; clear n0_; (try clear hb); (try clear hb2); (try clear hk); (try clear hi)))
                                go_ret
                                exact ⟨by first | rfl | (simp [errW_none, errW_some] <;> rfl) | (simp [*, errW_none, errW_some] <;> rfl), by repeat (first | (with_reducible first | exact HB.out | apply below_alloc | apply pw_below_drewN | apply below_drew1) | exact HB.out)⟩
                              · rw [if_neg c45] at H
                                have c45b0 : decide ((rd l0 x38_2) < a1) = false := decide_eq_false c45
                                clear c45
                                by_cases c47 : x5_2 = true
                                · subst c47
                                  have H1 : (laws_FnResolved.l0 k2 l0 a1 true l0 (l0.length : Int) (wrap64 (x38_2 + 1))) = some r := by rw [if_pos rfl] at H; exact H
                                  clear H
                                  have H := H1
                                  clear H1
                                  have H' := Aside0.mk H
                                  clear H
                                  have p349 : 0 ≤ (x38_2 : Int) := of_decide_eq_true (by first | (with_reducible assumption) | assumption)
                                  have q349 : x38_2 < (l0.length : Int) := of_decide_eq_true (by first | (with_reducible assumption) | assumption)
                                  obtain ⟨ad349, e349, hx349_0⟩ := Kd.at_int HR0.out x38_2 p349 q349
                                  cases e349
                                  replace hx349_0 := (HB.out.cell (World.block_lt_of_cell? w _ hx349_0)).trans hx349_0
                                  replace p349 := eq_true p349
                                  replace q349 := eq_true q349
                                  go_wp2_with (first | ((with_reducible refine gate_callee (f := 38) rfl ?_); refine goesL_ (some 46) rfl rfl Try.func38 (by kernel_rfl) rfl #[.int .i64 (rd l0 x38_2), .int .i64 a1] rfl (by (try simp only [List.map_toArray, List.map_cons, List.map_nil]); first | done | rfl | (simp only [List.length_drop, List.length_take]; rfl)) ?_; (with_reducible refine (impl_Resolved.calls (rd l0 x38_2) a1 false _ A30.out).mono ?_); rintro e w48 ⟨rfl, hb⟩; refine ⟨_, rfl, ?_⟩; have n0_ := Aside0.mk (below_step (by repeat (first | (with_reducible first | exact HB.out | apply below_alloc | apply pw_below_drewN | apply below_drew1) | exact HB.out)) hb); clear HB; have HB := n0_; clear n0_; (try clear hb); (try clear hb2); (try clear hk); (try clear hi)))
                                  go_roundg k2
                                  case measure => have := HJ3.out; have := HK2.out; omega
                                  case rel => exact ⟨(true), (wrap64 (x38_2 + 1)), (by first | rfl | (simp; done) | (simp [*]; done)), (by first | rfl | (simp; done) | (simp [*]; done)), H', ⟨by have := HJ3.out; have := HK2.out; omega⟩, ⟨by repeat (first | (with_reducible first | exact HB.out | apply below_alloc | apply pw_below_drewN | apply below_drew1) | exact HB.out)⟩⟩
                                · replace c47 := Bool.eq_false_iff.mpr c47
                                  subst c47
                                  have H1 : (laws_FnResolved.l0 k2 l0 a1 (!false) l0 (l0.length : Int) (wrap64 (x38_2 + 1))) = some r := by rw [if_neg (show ¬ (false = true) by decide)] at H; exact H
                                  clear H
                                  have H := H1
                                  clear H1
                                  have H' := Aside0.mk H
                                  clear H
                                  have p349 : 0 ≤ (x38_2 : Int) := of_decide_eq_true (by first | (with_reducible assumption) | assumption)
                                  have q349 : x38_2 < (l0.length : Int) := of_decide_eq_true (by first | (with_reducible assumption) | assumption)
                                  obtain ⟨ad349, e349, hx349_0⟩ := Kd.at_int HR0.out x38_2 p349 q349
                                  cases e349
                                  replace hx349_0 := (HB.out.cell (World.block_lt_of_cell? w _ hx349_0)).trans hx349_0
                                  replace p349 := eq_true p349
                                  replace q349 := eq_true q349
                                  go_wp2_with (first | ((with_reducible refine gate_callee (f := 38) rfl ?_); refine goesL_ (some 46) rfl rfl Try.func38 (by kernel_rfl) rfl #[.int .i64 (rd l0 x38_2), .int .i64 a1] rfl (by (try simp only [List.map_toArray, List.map_cons, List.map_nil]); first | done | rfl | (simp only [List.length_drop, List.length_take]; rfl)) ?_; (with_reducible refine (impl_Resolved.calls (rd l0 x38_2) a1 false _ A30.out).mono ?_); rintro e w49 ⟨rfl, hb⟩; refine ⟨_, rfl, ?_⟩; have n0_ := Aside0.mk (below_step (by repeat (first | (with_reducible first | exact HB.out | apply below_alloc | apply pw_below_drewN | apply below_drew1) | exact HB.out)) hb); clear HB; have HB := n0_; clear n0_; (try clear hb); (try clear hb2); (try clear hk); (try clear hi)))
                                  go_roundg k2
                                  case measure => have := HJ3.out; have := HK2.out; omega
                                  case rel => exact ⟨(!false), (wrap64 (x38_2 + 1)), (by first | rfl | (simp; done) | (simp [*]; done)), (by first | rfl | (simp; done) | (simp [*]; done)), H', ⟨by have := HJ3.out; have := HK2.out; omega⟩, ⟨by repeat (first | (with_reducible first | exact HB.out | apply below_alloc | apply pw_below_drewN | apply below_drew1) | exact HB.out)⟩⟩
                            · rw [if_neg c44] at H
                              have c44b0 : decide (0 < (rd l0 x38_2)) = false := decide_eq_false c44
                              clear c44
                              by_cases c50 : x5_2 = true
                              · subst c50
                                have H1 : (laws_FnResolved.l0 k2 l0 a1 true l0 (l0.length : Int) (wrap64 (x38_2 + 1))) = some r := by rw [if_pos rfl] at H; exact H
                                clear H
                                have H := H1
                                clear H1
                                have H' := Aside0.mk H
                                clear H
                                have p349 : 0 ≤ (x38_2 : Int) := of_decide_eq_true (by first | (with_reducible assumption) | assumption)
                                have q349 : x38_2 < (l0.length : Int) := of_decide_eq_true (by first | (with_reducible assumption) | assumption)
                                obtain ⟨ad349, e349, hx349_0⟩ := Kd.at_int HR0.out x38_2 p349 q349
                                cases e349
                                replace hx349_0 := (HB.out.cell (World.block_lt_of_cell? w _ hx349_0)).trans hx349_0
                                replace p349 := eq_true p349
                                replace q349 := eq_true q349
                                go_wp2_with (first | ((with_reducible refine gate_callee (f := 38) rfl ?_); refine goesL_ (some 46) rfl rfl Try.func38 (by kernel_rfl) rfl #[.int .i64 (rd l0 x38_2), .int .i64 a1] rfl (by (try simp only [List.map_toArray, List.map_cons, List.map_nil]); first | done | rfl | (simp only [List.length_drop, List.length_take]; rfl)) ?_; (with_reducible refine (impl_Resolved.calls (rd l0 x38_2) a1 false _ A30.out).mono ?_); rintro e w51 ⟨rfl, hb⟩; refine ⟨_, rfl, ?_⟩; have n0_ := Aside0.mk (below_step (by repeat (first | (with_reducible first | exact HB.out | apply below_alloc | apply pw_below_drewN | apply below_drew1) | exact HB.out)) hb); clear HB; have HB := n0_; clear n0_; (try clear hb); (try clear hb2); (try clear hk); (try clear hi)))
                                go_roundg k2
                                case measure => have := HJ3.out; have := HK2.out; omega
                                case rel => exact ⟨(true), (wrap64 (x38_2 + 1)), (by first | rfl | (simp; done) | (simp [*]; done)), (by first | rfl | (simp; done) | (simp [*]; done)), H', ⟨by have := HJ3.out; have := HK2.out; omega⟩, ⟨by repeat (first | (with_reducible first | exact HB.out | apply below_alloc | apply pw_below_drewN | apply below_drew1) | exact HB.out)⟩⟩
                              · replace c50 := Bool.eq_false_iff.mpr c50
                                subst c50
                                have H1 : (laws_FnResolved.l0 k2 l0 a1 (!false) l0 (l0.length : Int) (wrap64 (x38_2 + 1))) = some r := by rw [if_neg (show ¬ (false = true) by decide)] at H; exact H
                                clear H
                                have H := H1
                                clear H1
                                have H' := Aside0.mk H
                                clear H
                                have p349 : 0 ≤ (x38_2 : Int) := of_decide_eq_true (by first | (with_reducible assumption) | assumption)
                                have q349 : x38_2 < (l0.length : Int) := of_decide_eq_true (by first | (with_reducible assumption) | assumption)
                                obtain ⟨ad349, e349, hx349_0⟩ := Kd.at_int HR0.out x38_2 p349 q349
                                cases e349
                                replace hx349_0 := (HB.out.cell (World.block_lt_of_cell? w _ hx349_0)).trans hx349_0
                                replace p349 := eq_true p349
                                replace q349 := eq_true q349
                                go_wp2_with (first | ((with_reducible refine gate_callee (f := 38) rfl ?_); refine goesL_ (some 46) rfl rfl Try.func38 (by kernel_rfl) rfl #[.int .i64 (rd l0 x38_2), .int .i64 a1] rfl (by (try simp only [List.map_toArray, List.map_cons, List.map_nil]); first | done | rfl | (simp only [List.length_drop, List.length_take]; rfl)) ?_; (with_reducible refine (impl_Resolved.calls (rd l0 x38_2) a1 false _ A30.out).mono ?_); rintro e w52 ⟨rfl, hb⟩; refine ⟨_, rfl, ?_⟩; have n0_ := Aside0.mk (below_step (by repeat (first | (with_reducible first | exact HB.out | apply below_alloc | apply pw_below_drewN | apply below_drew1) | exact HB.out)) hb); clear HB; have HB := n0_; clear n0_; (try clear hb); (try clear hb2); (try clear hk); (try clear hi)))
                                go_roundg k2
                                case measure => have := HJ3.out; have := HK2.out; omega
                                case rel => exact ⟨(!false), (wrap64 (x38_2 + 1)), (by first | rfl | (simp; done) | (simp [*]; done)), (by first | rfl | (simp; done) | (simp [*]; done)), H', ⟨by have := HJ3.out; have := HK2.out; omega⟩, ⟨by repeat (first | (with_reducible first | exact HB.out | apply below_alloc | apply pw_below_drewN | apply below_drew1) | exact HB.out)⟩⟩
                      · rw [if_neg c31] at H
                        have c31b0 : ((rd l0 x38_2) == 0) = false := beq_eq_false_iff_ne.mpr c31
                        have c31b1 : ((rd l0 x38_2) != 0) = true := bne_iff_ne.mpr c31
                        by_cases c53 : (rd l0 x38_2) > a1
                        · rw [if_pos c53] at H
                          have c53b0 : decide (a1 < (rd l0 x38_2)) = true := decide_eq_true c53
                          clear c53
                          by_cases c54 : t350 = true
                          · subst c54
                            have H1 : (some false) = some r := by rw [if_pos rfl] at H; exact H
                            clear H
                            have H := H1
                            clear H1
                            obtain rfl := Option.some.inj H
                            have p349 : 0 ≤ (x38_2 : Int) := of_decide_eq_true (by first | (with_reducible assumption) | assumption)
                            have q349 : x38_2 < (l0.length : Int) := of_decide_eq_true (by first | (with_reducible assumption) | assumption)
                            obtain ⟨ad349, e349, hx349_0⟩ := Kd.at_int HR0.out x38_2 p349 q349
                            cases e349
                            replace hx349_0 := (HB.out.cell (World.block_lt_of_cell? w _ hx349_0)).trans hx349_0
                            replace p349 := eq_true p349
                            replace q349 := eq_true q349
                            go_wp2_with (first | ((with_reducible refine gate_callee (f := 38) rfl ?_); refine goesL_ (some 46) rfl rfl Try.func38 (by kernel_rfl) rfl #[.int .i64 (rd l0 x38_2), .int .i64 a1] rfl (by (try simp only [List.map_toArray, List.map_cons, List.map_nil]); first | done | rfl | (simp only [List.length_drop, List.length_take]; rfl)) ?_; (with_reducible refine (impl_Resolved.calls (rd l0 x38_2) a1 true _ A30.out).mono ?_); rintro e w55 ⟨rfl, hb⟩; refine ⟨_, rfl, ?_⟩; have n0_ := Aside0.mk (below_step (by repeat (first | (with_reducible first | exact HB.out | apply below_alloc | apply pw_below_drewN | apply below_drew1) | exact HB.out)) hb); clear HB; have HB := n0_; clear n0_; (try clear hb); (try clear hb2); (try clear hk); (try clear hi)))
                            go_ret
                            exact ⟨by first | rfl | (simp [errW_none, errW_some] <;> rfl) | (simp [*, errW_none, errW_some] <;> rfl), by repeat (first | (with_reducible first | exact HB.out | apply below_alloc | apply pw_below_drewN | apply below_drew1) | exact HB.out)⟩
                          · replace c54 := Bool.eq_false_iff.mpr c54
                            subst c54
                            have H1 : (if (rd l0 x38_2) > 0 then (if (rd l0 x38_2) < a1 then (some false) else (if x5_2 = true then (laws_FnResolved.l0 k2 l0 a1 true l0 (l0.length : Int) (wrap64 (x38_2 + 1))) else (laws_FnResolved.l0 k2 l0 a1 (!false) l0 (l0.length : Int) (wrap64 (x38_2 + 1))))) else (if x5_2 = true then (laws_FnResolved.l0 k2 l0 a1 true l0 (l0.length : Int) (wrap64 (x38_2 + 1))) else (laws_FnResolved.l0 k2 l0 a1 (!false) l0 (l0.length : Int) (wrap64 (x38_2 + 1))))) = some r := by rw [if_neg (show ¬ (false = true) by decide)] at H; exact H
                            clear H
                            have H := H1
                            clear H1
                            by_cases c56 : (rd l0 x38_2) > 0
                            · rw [if_pos c56] at H
                              have c56b0 : decide (0 < (rd l0 x38_2)) = true := decide_eq_true c56
                              clear c56
                              by_cases c57 : (rd l0 x38_2) < a1
                              · rw [if_pos c57] at H
                                have c57b0 : decide ((rd l0 x38_2) < a1) = true := decide_eq_true c57
                                clear c57
                                obtain rfl := Option.some.inj H
                                have p349 : 0 ≤ (x38_2 : Int) := of_decide_eq_true (by first | (with_reducible assumption) | assumption)
                                have q349 : x38_2 < (l0.length : Int) := of_decide_eq_true (by first | (with_reducible assumption) | assumption)
                                obtain ⟨ad349, e349, hx349_0⟩ := Kd.at_int HR0.out x38_2 p349 q349
                                cases e349
                                replace hx349_0 := (HB.out.cell (World.block_lt_of_cell? w _ hx349_0)).trans hx349_0
                                replace p349 := eq_true p349
                                replace q349 := eq_true q349
                                go_wp2_with (first | ((with_reducible refine gate_callee (f := 38) rfl ?_); refine goesL_ (some 46) rfl rfl Try.func38 (by kernel_rfl) rfl #[.int .i64 (rd l0 x38_2), .int .i64 a1] rfl (by (try simp only [List.map_toArray, List.map_cons, List.map_nil]); first | done | rfl | (simp only [List.length_drop, List.length_take]; rfl)) ?_; (with_reducible refine (impl_Resolved.calls (rd l0 x38_2) a1 false _ A30.out).mono ?_); rintro e w58 ⟨rfl, hb⟩; refine ⟨_, rfl, ?_⟩; have n0_ := Aside0.mk (below_step (by repeat (first | (with_reducible first | exact HB.out | apply below_alloc | apply pw_below_drewN | apply below_drew1) | exact HB.out)) hb); clear HB; have HB := n0_; clear n0_; (try clear hb); (try clear hb2); (try clear hk); (try clear hi)))
                                go_ret
                                exact ⟨by first | rfl | (simp [errW_none, errW_some] <;> rfl) | (simp [*, errW_none, errW_some] <;> rfl), by repeat (first | (with_reducible first | exact HB.out | apply below_alloc | apply pw_below_drewN | apply below_drew1) | exact HB.out)⟩
                              · rw [if_neg c57] at H
                                have c57b0 : decide ((rd l0 x38_2) < a1) = false := decide_eq_false c57
                                clear c57
                                by_cases c59 : x5_2 = true
                                · subst c59
                                  have H1 : (laws_FnResolved.l0 k2 l0 a1 true l0 (l0.length : Int) (wrap64 (x38_2 + 1))) = some r := by rw [if_pos rfl] at H; exact H
                                  clear H
                                  have H := H1
                                  clear H1
                                  have H' := Aside0.mk H
                                  clear H
                                  have p349 : 0 ≤ (x38_2 : Int) := of_decide_eq_true (by first | (with_reducible assumption) | assumption)
                                  have q349 : x38_2 < (l0.length : Int) := of_decide_eq_true (by first | (with_reducible assumption) | assumption)
                                  obtain ⟨ad349, e349, hx349_0⟩ := Kd.at_int HR0.out x38_2 p349 q349
                                  cases e349
                                  replace hx349_0 := (HB.out.cell (World.block_lt_of_cell? w _ hx349_0)).trans hx349_0
                                  replace p349 := eq_true p349
                                  replace q349 := eq_true q349
                                  go_wp2_with (first | ((with_reducible refine gate_callee (f := 38) rfl ?_); refine goesL_ (some 46) rfl rfl Try.func38 (by kernel_rfl) rfl #[.int .i64 (rd l0 x38_2), .int .i64 a1] rfl (by (try simp only [List.map_toArray, List.map_cons, List.map_nil]); first | done | rfl | (simp only [List.length_drop, List.length_take]; rfl)) ?_; (with_reducible refine (impl_Resolved.calls (rd l0 x38_2) a1 false _ A30.out).mono ?_); rintro e w60 ⟨rfl, hb⟩; refine ⟨_, rfl, ?_⟩; have n0_ := Aside0.mk (below_step (by repeat (first | (with_reducible first | exact HB.out | apply below_alloc | apply pw_below_drewN | apply below_drew1) | exact HB.out)) hb); clear HB; have HB := n0_; clear n0_; (try clear hb); (try clear hb2); (try clear hk); (try clear hi)))
                                  go_roundg k2
                                  case measure => have := HJ3.out; have := HK2.out; omega
                                  case rel => exact ⟨(true), (wrap64 (x38_2 + 1)), (by first | rfl | (simp; done) | (simp [*]; done)), (by first | rfl | (simp; done) | (simp [*]; done)), H', ⟨by have := HJ3.out; have := HK2.out; omega⟩, ⟨by repeat (first | (with_reducible first | exact HB.out | apply below_alloc | apply pw_below_drewN | apply below_drew1) | exact HB.out)⟩⟩
                                · replace c59 := Bool.eq_false_iff.mpr c59
                                  subst c59
                                  have H1 : (laws_FnResolved.l0 k2 l0 a1 (!false) l0 (l0.length : Int) (wrap64 (x38_2 + 1))) = some r := by rw [if_neg (show ¬ (false = true) by decide)] at H; exact H
                                  clear H
                                  have H := H1
                                  clear H1
                                  have H' := Aside0.mk H
                                  clear H
                                  have p349 : 0 ≤ (x38_2 : Int) := of_decide_eq_true (by first | (with_reducible assumption) | assumption)
                                  have q349 : x38_2 < (l0.length : Int) := of_decide_eq_true (by first | (with_reducible assumption) | assumption)
                                  obtain ⟨ad349, e349, hx349_0⟩ := Kd.at_int HR0.out x38_2 p349 q349
                                  cases e349
                                  replace hx349_0 := (HB.out.cell (World.block_lt_of_cell? w _ hx349_0)).trans hx349_0
                                  replace p349 := eq_true p349
                                  replace q349 := eq_true q349
                                  go_wp2_with (first | ((with_reducible refine gate_callee (f := 38) rfl ?_); refine goesL_ (some 46) rfl rfl Try.func38 (by kernel_rfl) rfl #[.int .i64 (rd l0 x38_2), .int .i64 a1] rfl (by (try simp only [List.map_toArray, List.map_cons, List.map_nil]); first | done | rfl | (simp only [List.length_drop, List.length_take]; rfl)) ?_; (with_reducible refine (impl_Resolved.calls (rd l0 x38_2) a1 false _ A30.out).mono ?_); rintro e w61 ⟨rfl, hb⟩; refine ⟨_, rfl, ?_⟩; have n0_ := Aside0.mk (below_step (by repeat (first | (with_reducible first | exact HB.out | apply below_alloc | apply pw_below_drewN | apply below_drew1) | exact HB.out)) hb); clear HB; have HB := n0_; clear n0_; (try clear hb); (try clear hb2); (try clear hk); (try clear hi)))
                                  go_roundg k2
                                  case measure => have := HJ3.out; have := HK2.out; omega
                                  case rel => exact ⟨(!false), (wrap64 (x38_2 + 1)), (by first | rfl | (simp; done) | (simp [*]; done)), (by first | rfl | (simp; done) | (simp [*]; done)), H', ⟨by have := HJ3.out; have := HK2.out; omega⟩, ⟨by repeat (first | (with_reducible first | exact HB.out | apply below_alloc | apply pw_below_drewN | apply below_drew1) | exact HB.out)⟩⟩
                            · rw [if_neg c56] at H
                              have c56b0 : decide (0 < (rd l0 x38_2)) = false := decide_eq_false c56
                              clear c56
                              by_cases c62 : x5_2 = true
                              · subst c62
                                have H1 : (laws_FnResolved.l0 k2 l0 a1 true l0 (l0.length : Int) (wrap64 (x38_2 + 1))) = some r := by rw [if_pos rfl] at H; exact H
                                clear H
                                have H := H1
                                clear H1
                                have H' := Aside0.mk H
                                clear H
                                have p349 : 0 ≤ (x38_2 : Int) := of_decide_eq_true (by first | (with_reducible assumption) | assumption)
                                have q349 : x38_2 < (l0.length : Int) := of_decide_eq_true (by first | (with_reducible assumption) | assumption)
                                obtain ⟨ad349, e349, hx349_0⟩ := Kd.at_int HR0.out x38_2 p349 q349
                                cases e349
                                replace hx349_0 := (HB.out.cell (World.block_lt_of_cell? w _ hx349_0)).trans hx349_0
                                replace p349 := eq_true p349
                                replace q349 := eq_true q349
                                go_wp2_with (first | ((with_reducible refine gate_callee (f := 38) rfl ?_); refine goesL_ (some 46) rfl rfl Try.func38 (by kernel_rfl) rfl #[.int .i64 (rd l0 x38_2), .int .i64 a1] rfl (by (try simp only [List.map_toArray, List.map_cons, List.map_nil]); first | done | rfl | (simp only [List.length_drop, List.length_take]; rfl)) ?_; (with_reducible refine (impl_Resolved.calls (rd l0 x38_2) a1 false _ A30.out).mono ?_); rintro e w63 ⟨rfl, hb⟩; refine ⟨_, rfl, ?_⟩; have n0_ := Aside0.mk (below_step (by repeat (first | (with_reducible first | exact HB.out | apply below_alloc | apply pw_below_drewN | apply below_drew1) | exact HB.out)) hb); clear HB; have HB := n0_; clear n0_; (try clear hb); (try clear hb2); (try clear hk); (try clear hi)))
                                go_roundg k2
                                case measure => have := HJ3.out; have := HK2.out; omega
                                case rel => exact ⟨(true), (wrap64 (x38_2 + 1)), (by first | rfl | (simp; done) | (simp [*]; done)), (by first | rfl | (simp; done) | (simp [*]; done)), H', ⟨by have := HJ3.out; have := HK2.out; omega⟩, ⟨by repeat (first | (with_reducible first | exact HB.out | apply below_alloc | apply pw_below_drewN | apply below_drew1) | exact HB.out)⟩⟩
                              · replace c62 := Bool.eq_false_iff.mpr c62
                                subst c62
                                have H1 : (laws_FnResolved.l0 k2 l0 a1 (!false) l0 (l0.length : Int) (wrap64 (x38_2 + 1))) = some r := by rw [if_neg (show ¬ (false = true) by decide)] at H; exact H
                                clear H
                                have H := H1
                                clear H1
                                have H' := Aside0.mk H
                                clear H
                                have p349 : 0 ≤ (x38_2 : Int) := of_decide_eq_true (by first | (with_reducible assumption) | assumption)
                                have q349 : x38_2 < (l0.length : Int) := of_decide_eq_true (by first | (with_reducible assumption) | assumption)
                                obtain ⟨ad349, e349, hx349_0⟩ := Kd.at_int HR0.out x38_2 p349 q349
                                cases e349
                                replace hx349_0 := (HB.out.cell (World.block_lt_of_cell? w _ hx349_0)).trans hx349_0
                                replace p349 := eq_true p349
                                replace q349 := eq_true q349
                                go_wp2_with (first | ((with_reducible refine gate_callee (f := 38) rfl ?_); refine goesL_ (some 46) rfl rfl Try.func38 (by kernel_rfl) rfl #[.int .i64 (rd l0 x38_2), .int .i64 a1] rfl (by (try simp only [List.map_toArray, List.map_cons, List.map_nil]); first | done | rfl | (simp only [List.length_drop, List.length_take]; rfl)) ?_; (with_reducible refine (impl_Resolved.calls (rd l0 x38_2) a1 false _ A30.out).mono ?_); rintro e w64 ⟨rfl, hb⟩; refine ⟨_, rfl, ?_⟩; have n0_ := Aside0.mk (below_step (by repeat (first | (with_reducible first | exact HB.out | apply below_alloc | apply pw_below_drewN | apply below_drew1) | exact HB.out)) hb); clear HB; have HB := n0_; clear n0_; (try clear hb); (try clear hb2); (try clear hk); (try clear hi)))
                                go_roundg k2
                                case measure => have := HJ3.out; have := HK2.out; omega
                                case rel => exact ⟨(!false), (wrap64 (x38_2 + 1)), (by first | rfl | (simp; done) | (simp [*]; done)), (by first | rfl | (simp; done) | (simp [*]; done)), H', ⟨by have := HJ3.out; have := HK2.out; omega⟩, ⟨by repeat (first | (with_reducible first | exact HB.out | apply below_alloc | apply pw_below_drewN | apply below_drew1) | exact HB.out)⟩⟩
                        · rw [if_neg c53] at H
                          have c53b0 : decide (a1 < (rd l0 x38_2)) = false := decide_eq_false c53
                          clear c53
                          by_cases c65 : (rd l0 x38_2) > 0
                          · rw [if_pos c65] at H
                            have c65b0 : decide (0 < (rd l0 x38_2)) = true := decide_eq_true c65
                            clear c65
                            by_cases c66 : (rd l0 x38_2) < a1
                            · rw [if_pos c66] at H
                              have c66b0 : decide ((rd l0 x38_2) < a1) = true := decide_eq_true c66
                              clear c66
                              by_cases c67 : t350 = true
                              · subst c67
                                have H1 : (if x5_2 = true then (laws_FnResolved.l0 k2 l0 a1 true l0 (l0.length : Int) (wrap64 (x38_2 + 1))) else (laws_FnResolved.l0 k2 l0 a1 (!true) l0 (l0.length : Int) (wrap64 (x38_2 + 1)))) = some r := by rw [if_pos rfl] at H; exact H
                                clear H
                                have H := H1
                                clear H1
                                by_cases c68 : x5_2 = true
                                · subst c68
                                  have H1 : (laws_FnResolved.l0 k2 l0 a1 true l0 (l0.length : Int) (wrap64 (x38_2 + 1))) = some r := by rw [if_pos rfl] at H; exact H
                                  clear H
                                  have H := H1
                                  clear H1
                                  have H' := Aside0.mk H
                                  clear H
                                  have p349 : 0 ≤ (x38_2 : Int) := of_decide_eq_true (by first | (with_reducible assumption) | assumption)
                                  have q349 : x38_2 < (l0.length : Int) := of_decide_eq_true (by first | (with_reducible assumption) | assumption)
                                  obtain ⟨ad349, e349, hx349_0⟩ := Kd.at_int HR0.out x38_2 p349 q349
                                  cases e349
                                  replace hx349_0 := (HB.out.cell (World.block_lt_of_cell? w _ hx349_0)).trans hx349_0
                                  replace p349 := eq_true p349
                                  replace q349 := eq_true q349
                                  go_wp2_with (first | ((with_reducible refine gate_callee (f := 38) rfl ?_); refine goesL_ (some 46) rfl rfl Try.func38 (by kernel_rfl) rfl #[.int .i64 (rd l0 x38_2), .int .i64 a1] rfl (by (try simp only [List.map_toArray, List.map_cons, List.map_nil]); first | done | rfl | (simp only [List.length_drop, List.length_take]; rfl)) ?_; (with_reducible refine (impl_Resolved.calls (rd l0 x38_2) a1 true _ A30.out).mono ?_); rintro e w69 ⟨rfl, hb⟩; refine ⟨_, rfl, ?_⟩; have n0_ := Aside0.mk (below_step (by repeat (first | (with_reducible first | exact HB.out | apply below_alloc | apply pw_below_drewN | apply below_drew1) | exact HB.out)) hb); clear HB; have HB := n0_; clear n0_; (try clear hb); (try clear hb2); (try clear hk); (try clear hi)))
                                  go_roundg k2
                                  case measure => have := HJ3.out; have := HK2.out; omega
                                  case rel => exact ⟨(true), (wrap64 (x38_2 + 1)), (by first | rfl | (simp; done) | (simp [*]; done)), (by first | rfl | (simp; done) | (simp [*]; done)), H', ⟨by have := HJ3.out; have := HK2.out; omega⟩, ⟨by repeat (first | (with_reducible first | exact HB.out | apply below_alloc | apply pw_below_drewN | apply below_drew1) | exact HB.out)⟩⟩
                                · replace c68 := Bool.eq_false_iff.mpr c68
                                  subst c68
                                  have H1 : (laws_FnResolved.l0 k2 l0 a1 (!true) l0 (l0.length : Int) (wrap64 (x38_2 + 1))) = some r := by rw [if_neg (show ¬ (false = true) by decide)] at H; exact H
                                  clear H
                                  have H := H1
                                  clear H1
                                  have H' := Aside0.mk H
                                  clear H
                                  have p349 : 0 ≤ (x38_2 : Int) := of_decide_eq_true (by first | (with_reducible assumption) | assumption)
                                  have q349 : x38_2 < (l0.length : Int) := of_decide_eq_true (by first | (with_reducible assumption) | assumption)
                                  obtain ⟨ad349, e349, hx349_0⟩ := Kd.at_int HR0.out x38_2 p349 q349
                                  cases e349
                                  replace hx349_0 := (HB.out.cell (World.block_lt_of_cell? w _ hx349_0)).trans hx349_0
                                  replace p349 := eq_true p349
                                  replace q349 := eq_true q349
                                  go_wp2_with (first | ((with_reducible refine gate_callee (f := 38) rfl ?_); refine goesL_ (some 46) rfl rfl Try.func38 (by kernel_rfl) rfl #[.int .i64 (rd l0 x38_2), .int .i64 a1] rfl (by (try simp only [List.map_toArray, List.map_cons, List.map_nil]); first | done | rfl | (simp only [List.length_drop, List.length_take]; rfl)) ?_; (with_reducible refine (impl_Resolved.calls (rd l0 x38_2) a1 true _ A30.out).mono ?_); rintro e w70 ⟨rfl, hb⟩; refine ⟨_, rfl, ?_⟩; have n0_ := Aside0.mk (below_step (by repeat (first | (with_reducible first | exact HB.out | apply below_alloc | apply pw_below_drewN | apply below_drew1) | exact HB.out)) hb); clear HB; have HB := n0_; clear n0_; (try clear hb); (try clear hb2); (try clear hk); (try clear hi)))
                                  go_roundg k2
                                  case measure => have := HJ3.out; have := HK2.out; omega
                                  case rel => exact ⟨(!true), (wrap64 (x38_2 + 1)), (by first | rfl | (simp; done) | (simp [*]; done)), (by first | rfl | (simp; done) | (simp [*]; done)), H', ⟨by have := HJ3.out; have := HK2.out; omega⟩, ⟨by repeat (first | (with_reducible first | exact HB.out | apply below_alloc | apply pw_below_drewN | apply below_drew1) | exact HB.out)⟩⟩
                              · replace c67 := Bool.eq_false_iff.mpr c67
                                subst c67
                                have H1 : (some false) = some r := by rw [if_neg (show ¬ (false = true) by decide)] at H; exact H
                                clear H
                                have H := H1
                                clear H1
                                obtain rfl := Option.some.inj H
                                have p349 : 0 ≤ (x38_2 : Int) := of_decide_eq_true (by first | (with_reducible assumption) | assumption)
                                have q349 : x38_2 < (l0.length : Int) := of_decide_eq_true (by first | (with_reducible assumption) | assumption)
                                obtain ⟨ad349, e349, hx349_0⟩ := Kd.at_int HR0.out x38_2 p349 q349
                                cases e349
                                replace hx349_0 := (HB.out.cell (World.block_lt_of_cell? w _ hx349_0)).trans hx349_0
                                replace p349 := eq_true p349
                                replace q349 := eq_true q349
                                go_wp2_with (first | ((with_reducible refine gate_callee (f := 38) rfl ?_); refine goesL_ (some 46) rfl rfl Try.func38 (by kernel_rfl) rfl #[.int .i64 (rd l0 x38_2), .int .i64 a1] rfl (by (try simp only [List.map_toArray, List.map_cons, List.map_nil]); first | done | rfl | (simp only [List.length_drop, List.length_take]; rfl)) ?_; (with_reducible refine (impl_Resolved.calls (rd l0 x38_2) a1 false _ A30.out).mono ?_); rintro e w71 ⟨rfl, hb⟩; refine ⟨_, rfl, ?_⟩; have n0_ := Aside0.mk (below_step (by repeat (first | (with_reducible first | exact HB.out | apply below_alloc | apply pw_below_drewN | apply below_drew1) | exact HB.out)) hb); clear HB; have HB := n0_; clear n0_; (try clear hb); (try clear hb2); (try clear hk); (try clear hi)))
                                go_ret
                                exact ⟨by first | rfl | (simp [errW_none, errW_some] <;> rfl) | (simp [*, errW_none, errW_some] <;> rfl), by repeat (first | (with_reducible first | exact HB.out | apply below_alloc | apply pw_below_drewN | apply below_drew1) | exact HB.out)⟩
                            · rw [if_neg c66] at H
                              have c66b0 : decide ((rd l0 x38_2) < a1) = false := decide_eq_false c66
                              clear c66
                              by_cases c72 : x5_2 = true
                              · subst c72
                                have H1 : (laws_FnResolved.l0 k2 l0 a1 true l0 (l0.length : Int) (wrap64 (x38_2 + 1))) = some r := by rw [if_pos rfl] at H; exact H
                                clear H
                                have H := H1
                                clear H1
                                have H' := Aside0.mk H
                                clear H
                                have p349 : 0 ≤ (x38_2 : Int) := of_decide_eq_true (by first | (with_reducible assumption) | assumption)
                                have q349 : x38_2 < (l0.length : Int) := of_decide_eq_true (by first | (with_reducible assumption) | assumption)
                                obtain ⟨ad349, e349, hx349_0⟩ := Kd.at_int HR0.out x38_2 p349 q349
                                cases e349
                                replace hx349_0 := (HB.out.cell (World.block_lt_of_cell? w _ hx349_0)).trans hx349_0
                                replace p349 := eq_true p349
                                replace q349 := eq_true q349
                                go_wp2_with (first | ((with_reducible refine gate_callee (f := 38) rfl ?_); refine goesL_ (some 46) rfl rfl Try.func38 (by kernel_rfl) rfl #[.int .i64 (rd l0 x38_2), .int .i64 a1] rfl (by (try simp only [List.map_toArray, List.map_cons, List.map_nil]); first | done | rfl | (simp only [List.length_drop, List.length_take]; rfl)) ?_; (with_reducible refine (impl_Resolved.calls (rd l0 x38_2) a1 t350 _ A30.out).mono ?_); rintro e w73 ⟨rfl, hb⟩; refine ⟨_, rfl, ?_⟩; have n0_ := Aside0.mk (below_step (by repeat (first | (with_reducible first | exact HB.out | apply below_alloc | apply pw_below_drewN | apply below_drew1) | exact HB.out)) hb); clear HB; have HB := n0_; clear n0_; (try clear hb); (try clear hb2); (try clear hk); (try clear hi)))
                                go_roundg k2
                                case measure => have := HJ3.out; have := HK2.out; omega
                                case rel => exact ⟨(true), (wrap64 (x38_2 + 1)), (by first | rfl | (simp; done) | (simp [*]; done)), (by first | rfl | (simp; done) | (simp [*]; done)), H', ⟨by have := HJ3.out; have := HK2.out; omega⟩, ⟨by repeat (first | (with_reducible first | exact HB.out | apply below_alloc | apply pw_below_drewN | apply below_drew1) | exact HB.out)⟩⟩
                              · replace c72 := Bool.eq_false_iff.mpr c72
                                subst c72
                                have H1 : (laws_FnResolved.l0 k2 l0 a1 (!t350) l0 (l0.length : Int) (wrap64 (x38_2 + 1))) = some r := by rw [if_neg (show ¬ (false = true) by decide)] at H; exact H
                                clear H
                                have H := H1
                                clear H1
                                have H' := Aside0.mk H
                                clear H
                                have p349 : 0 ≤ (x38_2 : Int) := of_decide_eq_true (by first | (with_reducible assumption) | assumption)
                                have q349 : x38_2 < (l0.length : Int) := of_decide_eq_true (by first | (with_reducible assumption) | assumption)
                                obtain ⟨ad349, e349, hx349_0⟩ := Kd.at_int HR0.out x38_2 p349 q349
                                cases e349
                                replace hx349_0 := (HB.out.cell (World.block_lt_of_cell? w _ hx349_0)).trans hx349_0
                                replace p349 := eq_true p349
                                replace q349 := eq_true q349
                                go_wp2_with (first | ((with_reducible refine gate_callee (f := 38) rfl ?_); refine goesL_ (some 46) rfl rfl Try.func38 (by kernel_rfl) rfl #[.int .i64 (rd l0 x38_2), .int .i64 a1] rfl (by (try simp only [List.map_toArray, List.map_cons, List.map_nil]); first | done | rfl | (simp only [List.length_drop, List.length_take]; rfl)) ?_; (with_reducible refine (impl_Resolved.calls (rd l0 x38_2) a1 t350 _ A30.out).mono ?_); rintro e w74 ⟨rfl, hb⟩; refine ⟨_, rfl, ?_⟩; have n0_ := Aside0.mk (below_step (by repeat (first | (with_reducible first | exact HB.out | apply below_alloc | apply pw_below_drewN | apply below_drew1) | exact HB.out)) hb); clear HB; have HB := n0_; clear n0_; (try clear hb); (try clear hb2); (try clear hk); (try clear hi)))
                                go_roundg k2
                                case measure => have := HJ3.out; have := HK2.out; omega
                                case rel => exact ⟨(!t350), (wrap64 (x38_2 + 1)), (by first | rfl | (simp; done) | (simp [*]; done)), (by first | rfl | (simp; done) | (simp [*]; done)), H', ⟨by have := HJ3.out; have := HK2.out; omega⟩, ⟨by repeat (first | (with_reducible first | exact HB.out | apply below_alloc | apply pw_below_drewN | apply below_drew1) | exact HB.out)⟩⟩
                          · rw [if_neg c65] at H
                            have c65b0 : decide (0 < (rd l0 x38_2)) = false := decide_eq_false c65
                            clear c65
                            by_cases c75 : x5_2 = true
                            · subst c75
                              have H1 : (laws_FnResolved.l0 k2 l0 a1 true l0 (l0.length : Int) (wrap64 (x38_2 + 1))) = some r := by rw [if_pos rfl] at H; exact H
                              clear H
                              have H := H1
                              clear H1
                              have H' := Aside0.mk H
                              clear H
                              have p349 : 0 ≤ (x38_2 : Int) := of_decide_eq_true (by first | (with_reducible assumption) | assumption)
                              have q349 : x38_2 < (l0.length : Int) := of_decide_eq_true (by first | (with_reducible assumption) | assumption)
                              obtain ⟨ad349, e349, hx349_0⟩ := Kd.at_int HR0.out x38_2 p349 q349
                              cases e349
                              replace hx349_0 := (HB.out.cell (World.block_lt_of_cell? w _ hx349_0)).trans hx349_0
                              replace p349 := eq_true p349
                              replace q349 := eq_true q349
                              go_wp2_with (first | ((with_reducible refine gate_callee (f := 38) rfl ?_); refine goesL_ (some 46) rfl rfl Try.func38 (by kernel_rfl) rfl #[.int .i64 (rd l0 x38_2), .int .i64 a1] rfl (by (try simp only [List.map_toArray, List.map_cons, List.map_nil]); first | done | rfl | (simp only [List.length_drop, List.length_take]; rfl)) ?_; (with_reducible refine (impl_Resolved.calls (rd l0 x38_2) a1 t350 _ A30.out).mono ?_); rintro e w76 ⟨rfl, hb⟩; refine ⟨_, rfl, ?_⟩; have n0_ := Aside0.mk (below_step (by repeat (first | (with_reducible first | exact HB.out | apply below_alloc | apply pw_below_drewN | apply below_drew1) | exact HB.out)) hb); clear HB; have HB := n0_; clear n0_; (try clear hb); (try clear hb2); (try clear hk); (try clear hi)))
                              go_roundg k2
                              case measure => have := HJ3.out; have := HK2.out; omega
                              case rel => exact ⟨(true), (wrap64 (x38_2 + 1)), (by first | rfl | (simp; done) | (simp [*]; done)), (by first | rfl | (simp; done) | (simp [*]; done)), H', ⟨by have := HJ3.out; have := HK2.out; omega⟩, ⟨by repeat (first | (with_reducible first | exact HB.out | apply below_alloc | apply pw_below_drewN | apply below_drew1) | exact HB.out)⟩⟩
                            · replace c75 := Bool.eq_false_iff.mpr c75
                              subst c75
                              have H1 : (laws_FnResolved.l0 k2 l0 a1 (!t350) l0 (l0.length : Int) (wrap64 (x38_2 + 1))) = some r := by rw [if_neg (show ¬ (false = true) by decide)] at H; exact H
                              clear H
                              have H := H1
                              clear H1
                              have H' := Aside0.mk H
                              clear H
                              have p349 : 0 ≤ (x38_2 : Int) := of_decide_eq_true (by first | (with_reducible assumption) | assumption)
                              have q349 : x38_2 < (l0.length : Int) := of_decide_eq_true (by first | (with_reducible assumption) | assumption)
                              obtain ⟨ad349, e349, hx349_0⟩ := Kd.at_int HR0.out x38_2 p349 q349
                              cases e349
                              replace hx349_0 := (HB.out.cell (World.block_lt_of_cell? w _ hx349_0)).trans hx349_0
                              replace p349 := eq_true p349
                              replace q349 := eq_true q349
                              go_wp2_with (first | ((with_reducible refine gate_callee (f := 38) rfl ?_); refine goesL_ (some 46) rfl rfl Try.func38 (by kernel_rfl) rfl #[.int .i64 (rd l0 x38_2), .int .i64 a1] rfl (by (try simp only [List.map_toArray, List.map_cons, List.map_nil]); first | done | rfl | (simp only [List.length_drop, List.length_take]; rfl)) ?_; (with_reducible refine (impl_Resolved.calls (rd l0 x38_2) a1 t350 _ A30.out).mono ?_); rintro e w77 ⟨rfl, hb⟩; refine ⟨_, rfl, ?_⟩; have n0_ := Aside0.mk (below_step (by repeat (first | (with_reducible first | exact HB.out | apply below_alloc | apply pw_below_drewN | apply below_drew1) | exact HB.out)) hb); clear HB; have HB := n0_; clear n0_; (try clear hb); (try clear hb2); (try clear hk); (try clear hi)))
                              go_roundg k2
                              case measure => have := HJ3.out; have := HK2.out; omega
                              case rel => exact ⟨(!t350), (wrap64 (x38_2 + 1)), (by first | rfl | (simp; done) | (simp [*]; done)), (by first | rfl | (simp; done) | (simp [*]; done)), H', ⟨by have := HJ3.out; have := HK2.out; omega⟩, ⟨by repeat (first | (with_reducible first | exact HB.out | apply below_alloc | apply pw_below_drewN | apply below_drew1) | exact HB.out)⟩⟩
                  · rw [if_neg c28] at H
                    exact absurd H (by simp)
                · rw [if_neg c27] at H
                  exact absurd H (by simp)
              · rw [if_neg c26] at H
                have c26b0 : decide (x38_2 < (l0.length : Int)) = false := decide_eq_false c26
                clear c26
                replace H := Option.bind_eq_some_iff.mp H
                obtain ⟨t348, A780, H⟩ := H
                replace H : (some (t348 == x5_2)) = some r := H
                have A78 := Aside0.mk A780
                clear A780
                obtain rfl := Option.some.inj H
                go_wp2_with (first | ((with_reducible refine gate_callee (f := 39) rfl ?_); refine goesL_ (some 81) rfl rfl Try.func39 (by kernel_rfl) rfl #[.slice A0 l0.length c0, .int .i64 a1] rfl (by (try simp only [List.map_toArray, List.map_cons, List.map_nil]); first | done | rfl | (simp only [List.length_drop, List.length_take]; rfl)) ?_; (with_reducible refine (impl_AlertsFiring.calls _ _ l0 a1 t348 _ ?side1 ?side2 A78.out).mono ?_); (case side1 => repeat (first | exact (Kd.C_below HR0.out HB.out) | (with_reducible refine Kd.C_alloc ?_ _) | (with_reducible refine Kd.C_drewN ?_ _) | (with_reducible refine Kd.C_drew ?_))); (case side2 => exact HC0.out); rintro e w79 ⟨rfl, hb⟩; refine ⟨_, rfl, ?_⟩; have n0_ := Aside0.mk (below_step (by repeat (first | (with_reducible first | exact HB.out | apply below_alloc | apply pw_below_drewN | apply below_drew1) | exact HB.out)) hb); clear HB; have HB := n0_; clear n0_; (try clear hb); (try clear hb2); (try clear hk); (try clear hi)))
                go_ret
                exact ⟨by first | rfl | (simp [errW_none, errW_some] <;> rfl) | (simp [*, errW_none, errW_some] <;> rfl), by repeat (first | (with_reducible first | exact HB.out | apply below_alloc | apply pw_below_drewN | apply below_drew1) | exact HB.out)⟩

/-- THE ONE PURE STATEMENT of laws_FnResolved: yours. -/
def laws_FnResolved.Pure : Prop := ∀ (l0 : List Int) (a1 : Int), l0.length ≤ maxLen → l0.length * 8 ≤ 140737488351232 → (∀ x ∈ l0, (Lit.int .i64 x).wf = true) → (Lit.int .i64 a1).wf = true → ∃ k, laws_FnResolved.f k l0 a1 = some true
theorem laws_FnResolved.walk (P : laws_FnResolved.Pure) (a0 : Option Addr) (len0 cap0 : Nat) (z0 : List Int) (a1 : Int) (w : World) (w0 : (a0 = none ∧ len0 = 0 ∧ cap0 = 0 ∧ z0 = []) ∨ ∃ x, a0 = some x ∧ len0 ≤ cap0 ∧ cap0 ≤ maxLen ∧ z0.length = cap0 ∧ (∀ i, i < z0.length → w.cell? (x.add i) = some (.int .i64 (z0.getD i 0))) ∧ ∀ n ∈ z0, (Lit.int .i64 n).wf = true) (y0 : len0 * 8 ≤ 140737488351232) (w1 : (Lit.int .i64 a1).wf = true) :
    Calls Try.prog 10 #[.slice a0 len0 cap0, .int .i64 a1] w fun e w' => e = .returned (.bool true) ∧ Below w.heap.size w w' := by
  obtain ⟨l0, rfl, hr0, hm0, hw0, hc0⟩ := ReadsInt.ofRowC w0
  obtain ⟨k, h⟩ := P l0 a1 hm0 y0 hw0 w1
  refine (laws_FnResolved.calls k _ _ l0 a1 true w (Kd.C_of_reads (d := (0 : Int)) (h1 := fun _ => rfl) hr0) hc0 h).mono ?_
  rintro e w' ⟨rfl, hd⟩
  exact ⟨rfl, hd⟩

end Go.Proofs.Ytbffhefeepmpcaa.Q
