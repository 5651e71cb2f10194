-- printed by this project's own program wip/tools/mkprint.py (the kit's print.py with hand-proved contracts put in)
import Derived.Test.YtbffhefeepmpcaaQx0
import Derived.Test.YtbffhefeepmpcaaQx1
import Derived.Test.YtbffhefeepmpcaaQx8
import Derived.Test.YtbffhefeepmpcaaQx9
namespace Go.Proofs.Ytbffhefeepmpcaa.Q
open Go.RowKit Go.Proofs.YtbffhefeepmpcaaW.PrintWords Go.Proofs.YtbffhefeepmpcaaW.PrintLast Go.Proofs.YtbffhefeepmpcaaW.PrintMore
attribute [local go_sem] max2_int min2_int max_two min_two max_three min_three max_four min_four   -- for this text's walks alone
set_option linter.unusedVariables false
set_option linter.unusedSimpArgs false

attribute [local go_sem high] eqA50
/-! ### laws_eqSets: function 18 -/
def laws_eqSets.l0 : Nat → List (S50) → List (S50) → Int → Int → Option (Bool)
  | 0, _, _, _, _ => none
  | k + 1, x5, x6, x20, x21 => if x21 < x20 then (if 0 ≤ x21 then (if x21 < (x5.length : Int) then (if x21 < (x6.length : Int) then (if (!((((rd_T50 x5 x21).f0).toList) == (((rd_T50 x6 x21).f0).toList)) || (!((((rd_T50 x5 x21).f1).toList) == (((rd_T50 x6 x21).f1).toList)))) = true then (some false) else (laws_eqSets.l0 k x5 x6 x20 (wrap64 (x21 + 1)))) else (none)) else (none)) else (none)) else (some true)
def laws_eqSets.f (k : Nat) (l0 : List (S48)) (l1 : List (S48)) : Option (Bool) := (laws_pairs.f k l0).bind fun t221 => ((spec_Set.f k t221).bind fun t224 => ((laws_pairs.f k l1).bind fun t227 => ((spec_Set.f k t227).bind fun t230 => (if (t224.length : Int) = (t230.length : Int) then (laws_eqSets.l0 k t224 t230 (t224.length : Int) 0) else (some false)))))
theorem laws_eqSets.mono_l : ∀ k, (∀ y0 y1 y2 y3, LeO (laws_eqSets.l0 k y0 y1 y2 y3) (laws_eqSets.l0 (k + 1) y0 y1 y2 y3))
  | 0 => fun _ _ _ _ r h => by simp [laws_eqSets.l0] at h
  | k + 1 => by
    have ih0 := laws_eqSets.mono_l k
    · intro y0 y1 y2 y3
      unfold laws_eqSets.l0
      repeat' first
      | (with_reducible exact ih0 _ _ _ _)
      | (with_reducible exact laws_pairs.mono _ _)
      | (with_reducible exact spec_Set.mono _ _)
      | (with_reducible exact LeO.refl _)
      | (with_reducible exact LeO.none _)
      | (with_reducible refine LeO.ite ?_ ?_)
      | (with_reducible refine LeO.bind ?_ (fun _ => ?_))
      | exact ih0 _ _ _ _
      | exact laws_pairs.mono _ _
      | exact spec_Set.mono _ _
      | exact LeO.none _
      | refine LeO.ite ?_ ?_
      | refine LeO.bind ?_ (fun _ => ?_)
theorem laws_eqSets.mono : ∀ a0 a1 k, LeO (laws_eqSets.f k a0 a1) (laws_eqSets.f (k + 1) a0 a1) := by
  intro a0 a1 k
  have ih0 := laws_eqSets.mono_l k
  unfold laws_eqSets.f
  repeat' first
      | (with_reducible exact ih0 _ _ _ _)
      | (with_reducible exact laws_pairs.mono _ _)
      | (with_reducible exact spec_Set.mono _ _)
      | (with_reducible exact LeO.refl _)
      | (with_reducible exact LeO.none _)
      | (with_reducible refine LeO.ite ?_ ?_)
      | (with_reducible refine LeO.bind ?_ (fun _ => ?_))
      | exact ih0 _ _ _ _
      | exact laws_pairs.mono _ _
      | exact spec_Set.mono _ _
      | exact LeO.none _
      | refine LeO.ite ?_ ?_
      | refine LeO.bind ?_ (fun _ => ?_)
set_option maxHeartbeats 8000000 in
set_option maxRecDepth 100000 in
theorem laws_eqSets.calls (k : Nat) (A0 : Option Addr) (c0 : Nat) (l0 : List (S48)) (A1 : Option Addr) (c1 : Nat) (l1 : List (S48)) (r : Bool) (w : World) (hr0 : Kd.C k48 w A0 l0.length l0) (hc0 : l0.length ≤ c0) (hr1 : Kd.C k48 w A1 l1.length l1) (hc1 : l1.length ≤ c1) (h : laws_eqSets.f k l0 l1 = some r) :
    Calls Try.prog 18 #[.slice A0 l0.length c0, .slice A1 l1.length c1] w fun e w' => e = .returned (.bool r) ∧ Below w.heap.size w w' := by
  have hu50 := Try.underlying50
  have HR0 := Aside0.mk hr0
  have HC0 := Aside0.mk hc0
  clear hr0 hc0
  have HR1 := Aside0.mk hr1
  have HC1 := Aside0.mk hc1
  clear hr1 hc1
  have HB := Aside0.mk (Below.refl w.heap.size w)
  have H : ((laws_pairs.f k l0).bind fun t221 => ((spec_Set.f k t221).bind fun t224 => ((laws_pairs.f k l1).bind fun t227 => ((spec_Set.f k t227).bind fun t230 => (if (t224.length : Int) = (t230.length : Int) then (laws_eqSets.l0 k t224 t230 (t224.length : Int) 0) else (some false)))))) = some r := h
  clear h
  replace H := Option.bind_eq_some_iff.mp H
  obtain ⟨t221, A30, H⟩ := H
  replace H : ((spec_Set.f k t221).bind fun t224 => ((laws_pairs.f k l1).bind fun t227 => ((spec_Set.f k t227).bind fun t230 => (if (t224.length : Int) = (t230.length : Int) then (laws_eqSets.l0 k t224 t230 (t224.length : Int) 0) else (some false))))) = some r := H
  have A3 := Aside0.mk A30
  clear A30
  replace H := Option.bind_eq_some_iff.mp H
  obtain ⟨t224, A40, H⟩ := H
  replace H : ((laws_pairs.f k l1).bind fun t227 => ((spec_Set.f k t227).bind fun t230 => (if (t224.length : Int) = (t230.length : Int) then (laws_eqSets.l0 k t224 t230 (t224.length : Int) 0) else (some false)))) = some r := H
  have A4 := Aside0.mk A40
  clear A40
  replace H := Option.bind_eq_some_iff.mp H
  obtain ⟨t227, A50, H⟩ := H
  replace H : ((spec_Set.f k t227).bind fun t230 => (if (t224.length : Int) = (t230.length : Int) then (laws_eqSets.l0 k t224 t230 (t224.length : Int) 0) else (some false))) = some r := H
  have A5 := Aside0.mk A50
  clear A50
  replace H := Option.bind_eq_some_iff.mp H
  obtain ⟨t230, A60, H⟩ := H
  replace H : (if (t224.length : Int) = (t230.length : Int) then (laws_eqSets.l0 k t224 t230 (t224.length : Int) 0) else (some false)) = some r := H
  have A6 := Aside0.mk A60
  clear A60
  by_cases c7 : (t224.length : Int) = (t230.length : Int)
  · rw [if_pos c7] at H
    have c7b0 : ((t224.length : Int) == (t230.length : Int)) = true := beq_iff_eq.mpr c7
    have c7b1 : ((t224.length : Int) != (t230.length : Int)) = false := bne_eq_false_iff_eq.mpr c7
    have c7b2 : (t224.length == t230.length) = true := by first | simpa using c7 | (simp at c7 ⊢; omega)
    clear c7
    have H' := Aside0.mk H
    clear H
    go_enter Try.func18, Try.ntmps18
    go_wp2_with (first | (go_at_call 20; (with_reducible refine (laws_pairs.calls k _ _ l0 t221 _ ?side1 ?side2 A3.out).mono ?_); (case side1 => repeat (first | exact HR0.out | (with_reducible refine Kd.C_alloc ?_ _) | (with_reducible refine Kd.C_drewN ?_ _) | (with_reducible refine Kd.C_drew ?_))); (case side2 => exact HC0.out); rintro e w8 ⟨v222, rfl, ho0, hb⟩; have n0_ := Aside0.mk (Kd.R_lower ho0 (below_size (by repeat (first | (with_reducible first | exact HB.out | apply below_alloc | apply pw_below_drewN | apply below_drew1) | exact HB.out)))); have n1_ := Aside0.mk (below_step (by repeat (first | (with_reducible first | exact HB.out | apply below_alloc | apply pw_below_drewN | apply below_drew1) | exact HB.out)) hb); clear HB; have HO223 := n0_; have HB := n1_; clear n0_ n1_; (try clear hb); (try clear hb2); (try clear hk); (try clear hi); (try clear ho0); obtain ⟨Ao9, co9, eo9⟩ := Kd.R_slice HO223.out; subst eo9) | (go_at_call 29; (with_reducible refine (spec_Set.calls k _ _ t221 t224 _ ?side1 ?side2 A4.out).mono ?_); (case side1 => repeat (first | exact (Kd.R_reads' HO223.out).2.2 | (with_reducible refine Kd.C_alloc ?_ _) | (with_reducible refine Kd.C_drewN ?_ _) | (with_reducible refine Kd.C_drew ?_))); (case side2 => exact (Kd.R_reads' HO223.out).2.1); rintro e w10 ⟨v225, rfl, ho0, hb⟩; have n0_ := Aside0.mk (Kd.R_elder' (by (with_reducible repeat (first | apply Kd.R_alloc | apply Kd.R_drewN | apply Kd.R_drew)); exact HO223.out) (Kd.R_base ho0) hb); have n1_ := Aside0.mk (Kd.R_lower (Kd.R_new' ho0 (Kd.R_lt (by (with_reducible repeat (first | apply Kd.R_alloc | apply Kd.R_drewN | apply Kd.R_drew)); exact HO223.out))) (below_size (by repeat (first | (with_reducible first | exact HB.out | apply below_alloc | apply pw_below_drewN | apply below_drew1) | exact HB.out)))); have n2_ := Aside0.mk (below_step (by repeat (first | (with_reducible first | exact HB.out | apply below_alloc | apply pw_below_drewN | apply below_drew1) | exact HB.out)) hb); clear HO223; clear HB; have HO223 := n0_; have HO226 := n1_; have HB := n2_; clear n0_ n1_ n2_; (try clear hb); (try clear hb2); (try clear hk); (try clear hi); (try clear ho0)) | (go_at_call 20; (with_reducible refine (laws_pairs.calls k _ _ l1 t227 _ ?side1 ?side2 A5.out).mono ?_); (case side1 => repeat (first | exact (Kd.C_below HR1.out HB.out) | (with_reducible refine Kd.C_alloc ?_ _) | (with_reducible refine Kd.C_drewN ?_ _) | (with_reducible refine Kd.C_drew ?_))); (case side2 => exact HC1.out); rintro e w11 ⟨v228, rfl, ho0, hb⟩; have n0_ := Aside0.mk (Kd.R_elder' (by (with_reducible repeat (first | apply Kd.R_alloc | apply Kd.R_drewN | apply Kd.R_drew)); exact HO223.out) (Kd.R_base ho0) hb); have n1_ := Aside0.mk (Kd.R_elder' (by (with_reducible repeat (first | apply Kd.R_alloc | apply Kd.R_drewN | apply Kd.R_drew)); exact HO226.out) (Kd.R_base ho0) hb); have n2_ := Aside0.mk (Kd.R_lower (Kd.R_new' (Kd.R_new' ho0 (Kd.R_lt (by (with_reducible repeat (first | apply Kd.R_alloc | apply Kd.R_drewN | apply Kd.R_drew)); exact HO223.out))) (Kd.R_lt (by (with_reducible repeat (first | apply Kd.R_alloc | apply Kd.R_drewN | apply Kd.R_drew)); exact HO226.out))) (below_size (by repeat (first | (with_reducible first | exact HB.out | apply below_alloc | apply pw_below_drewN | apply below_drew1) | exact HB.out)))); have n3_ := Aside0.mk (below_step (by repeat (first | (with_reducible first | exact HB.out | apply below_alloc | apply pw_below_drewN | apply below_drew1) | exact HB.out)) hb); clear HO223; clear HO226; clear HB; have HO223 := n0_; have HO226 := n1_; have HO229 := n2_; have HB := n3_; clear n0_ n1_ n2_ n3_; (try clear hb); (try clear hb2); (try clear hk); (try clear hi); (try clear ho0); obtain ⟨Ao12, co12, eo12⟩ := Kd.R_slice HO229.out; subst eo12) | (go_at_call 29; (with_reducible refine (spec_Set.calls k _ _ t227 t230 _ ?side1 ?side2 A6.out).mono ?_); (case side1 => repeat (first | exact (Kd.R_reads' HO229.out).2.2 | (with_reducible refine Kd.C_alloc ?_ _) | (with_reducible refine Kd.C_drewN ?_ _) | (with_reducible refine Kd.C_drew ?_))); (case side2 => exact (Kd.R_reads' HO229.out).2.1); rintro e w13 ⟨v231, rfl, ho0, hb⟩; have n0_ := Aside0.mk (Kd.R_elder' (by (with_reducible repeat (first | apply Kd.R_alloc | apply Kd.R_drewN | apply Kd.R_drew)); exact HO223.out) (Kd.R_base ho0) hb); have n1_ := Aside0.mk (Kd.R_elder' (by (with_reducible repeat (first | apply Kd.R_alloc | apply Kd.R_drewN | apply Kd.R_drew)); exact HO226.out) (Kd.R_base ho0) hb); have n2_ := Aside0.mk (Kd.R_elder' (by (with_reducible repeat (first | apply Kd.R_alloc | apply Kd.R_drewN | apply Kd.R_drew)); exact HO229.out) (Kd.R_base ho0) hb); have n3_ := Aside0.mk (Kd.R_lower (Kd.R_new' (Kd.R_new' (Kd.R_new' ho0 (Kd.R_lt (by (with_reducible repeat (first | apply Kd.R_alloc | apply Kd.R_drewN | apply Kd.R_drew)); exact HO223.out))) (Kd.R_lt (by (with_reducible repeat (first | apply Kd.R_alloc | apply Kd.R_drewN | apply Kd.R_drew)); exact HO226.out))) (Kd.R_lt (by (with_reducible repeat (first | apply Kd.R_alloc | apply Kd.R_drewN | apply Kd.R_drew)); exact HO229.out))) (below_size (by repeat (first | (with_reducible first | exact HB.out | apply below_alloc | apply pw_below_drewN | apply below_drew1) | exact HB.out)))); have n4_ := Aside0.mk (below_step (by repeat (first | (with_reducible first | exact HB.out | apply below_alloc | apply pw_below_drewN | apply below_drew1) | exact HB.out)) hb); clear HO223; clear HO226; clear HO229; clear HB; have HO223 := n0_; have HO226 := n1_; have HO229 := n2_; have HO232 := n3_; have HB := n4_; clear n0_ n1_ n2_ n3_ n4_; (try clear hb); (try clear hb2); (try clear hk); (try clear hi); (try clear ho0); obtain ⟨Ao14, co14, eo14⟩ := Kd.R_slice HO226.out; subst eo14; obtain ⟨Ao15, co15, eo15⟩ := Kd.R_slice HO232.out; subst eo15))
    repeat (go_quiet (first | (go_at_call 20; (with_reducible refine (laws_pairs.calls k _ _ l0 t221 _ ?side1 ?side2 A3.out).mono ?_); (case side1 => repeat (first | exact HR0.out | (with_reducible refine Kd.C_alloc ?_ _) | (with_reducible refine Kd.C_drewN ?_ _) | (with_reducible refine Kd.C_drew ?_))); (case side2 => exact HC0.out); rintro e w8 ⟨v222, rfl, ho0, hb⟩; have n0_ := Aside0.mk (Kd.R_lower ho0 (below_size (by repeat (first | (with_reducible first | exact HB.out | apply below_alloc | apply pw_below_drewN | apply below_drew1) | exact HB.out)))); have n1_ := Aside0.mk (below_step (by repeat (first | (with_reducible first | exact HB.out | apply below_alloc | apply pw_below_drewN | apply below_drew1) | exact HB.out)) hb); clear HB; have HO223 := n0_; have HB := n1_; clear n0_ n1_; (try clear hb); (try clear hb2); (try clear hk); (try clear hi); (try clear ho0); obtain ⟨Ao9, co9, eo9⟩ := Kd.R_slice HO223.out; subst eo9) | (go_at_call 29; (with_reducible refine (spec_Set.calls k _ _ t221 t224 _ ?side1 ?side2 A4.out).mono ?_); (case side1 => repeat (first | exact (Kd.R_reads' HO223.out).2.2 | (with_reducible refine Kd.C_alloc ?_ _) | (with_reducible refine Kd.C_drewN ?_ _) | (with_reducible refine Kd.C_drew ?_))); (case side2 => exact (Kd.R_reads' HO223.out).2.1); rintro e w10 ⟨v225, rfl, ho0, hb⟩; have n0_ := Aside0.mk (Kd.R_elder' (by (with_reducible repeat (first | apply Kd.R_alloc | apply Kd.R_drewN | apply Kd.R_drew)); exact HO223.out) (Kd.R_base ho0) hb); have n1_ := Aside0.mk (Kd.R_lower (Kd.R_new' ho0 (Kd.R_lt (by (with_reducible repeat (first | apply Kd.R_alloc | apply Kd.R_drewN | apply Kd.R_drew)); exact HO223.out))) (below_size (by repeat (first | (with_reducible first | exact HB.out | apply below_alloc | apply pw_below_drewN | apply below_drew1) | exact HB.out)))); have n2_ := Aside0.mk (below_step (by repeat (first | (with_reducible first | exact HB.out | apply below_alloc | apply pw_below_drewN | apply below_drew1) | exact HB.out)) hb); clear HO223; clear HB; have HO223 := n0_; have HO226 := n1_; have HB := n2_; clear n0_ n1_ n2_; (try clear hb); (try clear hb2); (try clear hk); (try clear hi); (try clear ho0)) | (go_at_call 20; (with_reducible refine (laws_pairs.calls k _ _ l1 t227 _ ?side1 ?side2 A5.out).mono ?_); (case side1 => repeat (first | exact (Kd.C_below HR1.out HB.out) | (with_reducible refine Kd.C_alloc ?_ _) | (with_reducible refine Kd.C_drewN ?_ _) | (with_reducible refine Kd.C_drew ?_))); (case side2 => exact HC1.out); rintro e w11 ⟨v228, rfl, ho0, hb⟩; have n0_ := Aside0.mk (Kd.R_elder' (by (with_reducible repeat (first | apply Kd.R_alloc | apply Kd.R_drewN | apply Kd.R_drew)); exact HO223.out) (Kd.R_base ho0) hb); have n1_ := Aside0.mk (Kd.R_elder' (by (with_reducible repeat (first | apply Kd.R_alloc | apply Kd.R_drewN | apply Kd.R_drew)); exact HO226.out) (Kd.R_base ho0) hb); have n2_ := Aside0.mk (Kd.R_lower (Kd.R_new' (Kd.R_new' ho0 (Kd.R_lt (by (with_reducible repeat (first | apply Kd.R_alloc | apply Kd.R_drewN | apply Kd.R_drew)); exact HO223.out))) (Kd.R_lt (by (with_reducible repeat (first | apply Kd.R_alloc | apply Kd.R_drewN | apply Kd.R_drew)); exact HO226.out))) (below_size (by repeat (first | (with_reducible first | exact HB.out | apply below_alloc | apply pw_below_drewN | apply below_drew1) | exact HB.out)))); have n3_ := Aside0.mk (below_step (by repeat (first | (with_reducible first | exact HB.out | apply below_alloc | apply pw_below_drewN | apply below_drew1) | exact HB.out)) hb); clear HO223; clear HO226; clear HB; have HO223 := n0_; have HO226 := n1_; have HO229 := n2_; have HB := n3_; clear n0_ n1_ n2_ n3_; (try clear hb); (try clear hb2); (try clear hk); (try clear hi); (try clear ho0); obtain ⟨Ao12, co12, eo12⟩ := Kd.R_slice HO229.out; subst eo12) | (go_at_call 29; (with_reducible refine (spec_Set.calls k _ _ t227 t230 _ ?side1 ?side2 A6.out).mono ?_); (case side1 => repeat (first | exact (Kd.R_reads' HO229.out).2.2 | (with_reducible refine Kd.C_alloc ?_ _) | (with_reducible refine Kd.C_drewN ?_ _) | (with_reducible refine Kd.C_drew ?_))); (case side2 => exact (Kd.R_reads' HO229.out).2.1); rintro e w13 ⟨v231, rfl, ho0, hb⟩; have n0_ := Aside0.mk (Kd.R_elder' (by (with_reducible repeat (first | apply Kd.R_alloc | apply Kd.R_drewN | apply Kd.R_drew)); exact HO223.out) (Kd.R_base ho0) hb); have n1_ := Aside0.mk (Kd.R_elder' (by (with_reducible repeat (first | apply Kd.R_alloc | apply Kd.R_drewN | apply Kd.R_drew)); exact HO226.out) (Kd.R_base ho0) hb); have n2_ := Aside0.mk (Kd.R_elder' (by (with_reducible repeat (first | apply Kd.R_alloc | apply Kd.R_drewN | apply Kd.R_drew)); exact HO229.out) (Kd.R_base ho0) hb); have n3_ := Aside0.mk (Kd.R_lower (Kd.R_new' (Kd.R_new' (Kd.R_new' ho0 (Kd.R_lt (by (with_reducible repeat (first | apply Kd.R_alloc | apply Kd.R_drewN | apply Kd.R_drew)); exact HO223.out))) (Kd.R_lt (by (with_reducible repeat (first | apply Kd.R_alloc | apply Kd.R_drewN | apply Kd.R_drew)); exact HO226.out))) (Kd.R_lt (by (with_reducible repeat (first | apply Kd.R_alloc | apply Kd.R_drewN | apply Kd.R_drew)); exact HO229.out))) (below_size (by repeat (first | (with_reducible first | exact HB.out | apply below_alloc | apply pw_below_drewN | apply below_drew1) | exact HB.out)))); have n4_ := Aside0.mk (below_step (by repeat (first | (with_reducible first | exact HB.out | apply below_alloc | apply pw_below_drewN | apply below_drew1) | exact HB.out)) hb); clear HO223; clear HO226; clear HO229; clear HB; have HO223 := n0_; have HO226 := n1_; have HO229 := n2_; have HO232 := n3_; have HB := n4_; clear n0_ n1_ n2_ n3_ n4_; (try clear hb); (try clear hb2); (try clear hk); (try clear hi); (try clear ho0); obtain ⟨Ao14, co14, eo14⟩ := Kd.R_slice HO226.out; subst eo14; obtain ⟨Ao15, co15, eo15⟩ := Kd.R_slice HO232.out; subst eo15)); try go_wp2_with (first | (go_at_call 20; (with_reducible refine (laws_pairs.calls k _ _ l0 t221 _ ?side1 ?side2 A3.out).mono ?_); (case side1 => repeat (first | exact HR0.out | (with_reducible refine Kd.C_alloc ?_ _) | (with_reducible refine Kd.C_drewN ?_ _) | (with_reducible refine Kd.C_drew ?_))); (case side2 => exact HC0.out); rintro e w8 ⟨v222, rfl, ho0, hb⟩; have n0_ := Aside0.mk (Kd.R_lower ho0 (below_size (by repeat (first | (with_reducible first | exact HB.out | apply below_alloc | apply pw_below_drewN | apply below_drew1) | exact HB.out)))); have n1_ := Aside0.mk (below_step (by repeat (first | (with_reducible first | exact HB.out | apply below_alloc | apply pw_below_drewN | apply below_drew1) | exact HB.out)) hb); clear HB; have HO223 := n0_; have HB := n1_; clear n0_ n1_; (try clear hb); (try clear hb2); (try clear hk); (try clear hi); (try clear ho0); obtain ⟨Ao9, co9, eo9⟩ := Kd.R_slice HO223.out; subst eo9) | (go_at_call 29; (with_reducible refine (spec_Set.calls k _ _ t221 t224 _ ?side1 ?side2 A4.out).mono ?_); (case side1 => repeat (first | exact (Kd.R_reads' HO223.out).2.2 | (with_reducible refine Kd.C_alloc ?_ _) | (with_reducible refine Kd.C_drewN ?_ _) | (with_reducible refine Kd.C_drew ?_))); (case side2 => exact (Kd.R_reads' HO223.out).2.1); rintro e w10 ⟨v225, rfl, ho0, hb⟩; have n0_ := Aside0.mk (Kd.R_elder' (by (with_reducible repeat (first | apply Kd.R_alloc | apply Kd.R_drewN | apply Kd.R_drew)); exact HO223.out) (Kd.R_base ho0) hb); have n1_ := Aside0.mk (Kd.R_lower (Kd.R_new' ho0 (Kd.R_lt (by (with_reducible repeat (first | apply Kd.R_alloc | apply Kd.R_drewN | apply Kd.R_drew)); exact HO223.out))) (below_size (by repeat (first | (with_reducible first | exact HB.out | apply below_alloc | apply pw_below_drewN | apply below_drew1) | exact HB.out)))); have n2_ := Aside0.mk (below_step (by repeat (first | (with_reducible first | exact HB.out | apply below_alloc | apply pw_below_drewN | apply below_drew1) | exact HB.out)) hb); clear HO223; clear HB; have HO223 := n0_; have HO226 := n1_; have HB := n2_; clear n0_ n1_ n2_; (try clear hb); (try clear hb2); (try clear hk); (try clear hi); (try clear ho0)) | (go_at_call 20; (with_reducible refine (laws_pairs.calls k _ _ l1 t227 _ ?side1 ?side2 A5.out).mono ?_); (case side1 => repeat (first | exact (Kd.C_below HR1.out HB.out) | (with_reducible refine Kd.C_alloc ?_ _) | (with_reducible refine Kd.C_drewN ?_ _) | (with_reducible refine Kd.C_drew ?_))); (case side2 => exact HC1.out); rintro e w11 ⟨v228, rfl, ho0, hb⟩; have n0_ := Aside0.mk (Kd.R_elder' (by (with_reducible repeat (first | apply Kd.R_alloc | apply Kd.R_drewN | apply Kd.R_drew)); exact HO223.out) (Kd.R_base ho0) hb); have n1_ := Aside0.mk (Kd.R_elder' (by (with_reducible repeat (first | apply Kd.R_alloc | apply Kd.R_drewN | apply Kd.R_drew)); exact HO226.out) (Kd.R_base ho0) hb); have n2_ := Aside0.mk (Kd.R_lower (Kd.R_new' (Kd.R_new' ho0 (Kd.R_lt (by (with_reducible repeat (first | apply Kd.R_alloc | apply Kd.R_drewN | apply Kd.R_drew)); exact HO223.out))) (Kd.R_lt (by (with_reducible repeat (first | apply Kd.R_alloc | apply Kd.R_drewN | apply Kd.R_drew)); exact HO226.out))) (below_size (by repeat (first | (with_reducible first | exact HB.out | apply below_alloc | apply pw_below_drewN | apply below_drew1) | exact HB.out)))); have n3_ := Aside0.mk (below_step (by repeat (first | (with_reducible first | exact HB.out | apply below_alloc | apply pw_below_drewN | apply below_drew1) | exact HB.out)) hb); clear HO223; clear HO226; clear HB; have HO223 := n0_; have HO226 := n1_; have HO229 := n2_; have HB := n3_; clear n0_ n1_ n2_ n3_; (try clear hb); (try clear hb2); (try clear hk); (try clear hi); (try clear ho0); obtain ⟨Ao12, co12, eo12⟩ := Kd.R_slice HO229.out; subst eo12) | (go_at_call 29; (with_reducible refine (spec_Set.calls k _ _ t227 t230 _ ?side1 ?side2 A6.out).mono ?_); (case side1 => repeat (first | exact (Kd.R_reads' HO229.out).2.2 | (with_reducible refine Kd.C_alloc ?_ _) | (with_reducible refine Kd.C_drewN ?_ _) | (with_reducible refine Kd.C_drew ?_))); (case side2 => exact (Kd.R_reads' HO229.out).2.1); rintro e w13 ⟨v231, rfl, ho0, hb⟩; have n0_ := Aside0.mk (Kd.R_elder' (by (with_reducible repeat (first | apply Kd.R_alloc | apply Kd.R_drewN | apply Kd.R_drew)); exact HO223.out) (Kd.R_base ho0) hb); have n1_ := Aside0.mk (Kd.R_elder' (by (with_reducible repeat (first | apply Kd.R_alloc | apply Kd.R_drewN | apply Kd.R_drew)); exact HO226.out) (Kd.R_base ho0) hb); have n2_ := Aside0.mk (Kd.R_elder' (by (with_reducible repeat (first | apply Kd.R_alloc | apply Kd.R_drewN | apply Kd.R_drew)); exact HO229.out) (Kd.R_base ho0) hb); have n3_ := Aside0.mk (Kd.R_lower (Kd.R_new' (Kd.R_new' (Kd.R_new' ho0 (Kd.R_lt (by (with_reducible repeat (first | apply Kd.R_alloc | apply Kd.R_drewN | apply Kd.R_drew)); exact HO223.out))) (Kd.R_lt (by (with_reducible repeat (first | apply Kd.R_alloc | apply Kd.R_drewN | apply Kd.R_drew)); exact HO226.out))) (Kd.R_lt (by (with_reducible repeat (first | apply Kd.R_alloc | apply Kd.R_drewN | apply Kd.R_drew)); exact HO229.out))) (below_size (by repeat (first | (with_reducible first | exact HB.out | apply below_alloc | apply pw_below_drewN | apply below_drew1) | exact HB.out)))); have n4_ := Aside0.mk (below_step (by repeat (first | (with_reducible first | exact HB.out | apply below_alloc | apply pw_below_drewN | apply below_drew1) | exact HB.out)) hb); clear HO223; clear HO226; clear HO229; clear HB; have HO223 := n0_; have HO226 := n1_; have HO229 := n2_; have HO232 := n3_; have HB := n4_; clear n0_ n1_ n2_ n3_ n4_; (try clear hb); (try clear hb2); (try clear hk); (try clear hi); (try clear ho0); obtain ⟨Ao14, co14, eo14⟩ := Kd.R_slice HO226.out; subst eo14; obtain ⟨Ao15, co15, eo15⟩ := Kd.R_slice HO232.out; subst eo15)))
    go_loopg [21] k (fun kq v21 w' => ∃ (x21_1 : Int), v21 = .int .i64 x21_1 ∧ Aside0 (laws_eqSets.l0 kq t224 t230 (t224.length : Int) x21_1 = some r) ∧ Aside0 (kq ≤ k) ∧ Aside0 (Kd.R k50 50 w' w.heap.size (fun k_ => some k_ ≠ ((.slice Ao15 t230.length co15) : Value).ownBlock) (.slice Ao14 t224.length co14) t224) ∧ Aside0 (Kd.R k50 50 w' w.heap.size (fun k_ => some k_ ≠ ((.slice Ao14 t224.length co14) : Value).ownBlock) (.slice Ao15 t230.length co15) t230) ∧ Aside0 (Below w.heap.size w w'))
    case atStart => exact ⟨(0), (by first | rfl | (simp; done) | (simp [*]; done)), H', ⟨Nat.le_refl _⟩, ⟨by (with_reducible repeat (first | apply Kd.R_alloc | apply Kd.R_drewN | apply Kd.R_drew)); exact Kd.R_mono HO226.out (fun _ hk => hk.2)⟩, ⟨by (with_reducible repeat (first | apply Kd.R_alloc | apply Kd.R_drewN | apply Kd.R_drew)); exact Kd.R_mono HO232.out (fun _ hk => hk.1.2)⟩, ⟨by repeat (first | (with_reducible first | exact HB.out | apply below_alloc | apply pw_below_drewN | apply below_drew1) | exact HB.out)⟩⟩
    case round =>
      clear H'
      try clear c1
      try clear p2
      try clear c7
      try clear c7b0
      try clear c7b1
      try clear c7b2
      obtain ⟨x21_1, rfl, HA, HK1, HO_5, HO_6, HB⟩ := hrel
      cases gk with
      | zero => exact absurd HA.out (by simp [laws_eqSets.l0])
      | succ k1 =>
        have H := HA.out
        clear HA
        simp only [laws_eqSets.l0] at H
        by_cases c16 : x21_1 < (t224.length : Int)
        · rw [if_pos c16] at H
          have c16b0 : decide (x21_1 < (t224.length : Int)) = true := decide_eq_true c16
          clear c16
          by_cases c17 : 0 ≤ x21_1
          · rw [if_pos c17] at H
            have c17b0 : decide (0 ≤ x21_1) = true := decide_eq_true c17
            clear c17
            by_cases c18 : x21_1 < (t224.length : Int)
            · rw [if_pos c18] at H
              have c18b0 : decide (x21_1 < (t224.length : Int)) = true := decide_eq_true c18
              clear c18
              by_cases c19 : x21_1 < (t230.length : Int)
              · rw [if_pos c19] at H
                have c19b0 : decide (x21_1 < (t230.length : Int)) = true := decide_eq_true c19
                clear c19
                by_cases c20 : (!((((rd_T50 t224 x21_1).f0).toList) == (((rd_T50 t230 x21_1).f0).toList)) || (!((((rd_T50 t224 x21_1).f1).toList) == (((rd_T50 t230 x21_1).f1).toList)))) = true
                · rw [if_pos c20] at H
                  have c20b0 : (!((((rd_T50 t224 x21_1).f0).toList) == (((rd_T50 t230 x21_1).f0).toList)) || (!((((rd_T50 t224 x21_1).f1).toList) == (((rd_T50 t230 x21_1).f1).toList)))) = true := c20
                  clear c20
                  obtain rfl := Option.some.inj H
                  have p233 : 0 ≤ (x21_1 : Int) := of_decide_eq_true (by first | (with_reducible assumption) | assumption)
                  have q233 : x21_1 < (t224.length : Int) := of_decide_eq_true (by first | (with_reducible assumption) | assumption)
                  obtain ⟨ad233, e233, hx233_0, hx233_1⟩ := at_T50 (Kd.R_reads' HO_5.out).2.2 x21_1 p233 q233
                  cases e233
                  replace p233 := eq_true p233
                  replace q233 := eq_true q233
                  have p234 : 0 ≤ (x21_1 : Int) := of_decide_eq_true (by first | (with_reducible assumption) | assumption)
                  have q234 : x21_1 < (t230.length : Int) := of_decide_eq_true (by first | (with_reducible assumption) | assumption)
                  obtain ⟨ad234, e234, hx234_0, hx234_1⟩ := at_T50 (Kd.R_reads' HO_6.out).2.2 x21_1 p234 q234
                  cases e234
                  replace p234 := eq_true p234
                  replace q234 := eq_true q234
                  go_wp2
                  repeat (go_quiet (fail); try go_wp2)
                  go_ret
                  exact ⟨by first | rfl | (simp [errW_none, errW_some] <;> rfl) | (simp [*, errW_none, errW_some] <;> rfl), by repeat (first | (with_reducible first | exact HB.out | apply below_alloc | apply pw_below_drewN | apply below_drew1) | exact HB.out)⟩
                · rw [if_neg c20] at H
                  have c20b0 : (!((((rd_T50 t224 x21_1).f0).toList) == (((rd_T50 t230 x21_1).f0).toList)) || (!((((rd_T50 t224 x21_1).f1).toList) == (((rd_T50 t230 x21_1).f1).toList)))) = false := by simpa using c20
                  clear c20
                  have H' := Aside0.mk H
                  clear H
                  have p233 : 0 ≤ (x21_1 : Int) := of_decide_eq_true (by first | (with_reducible assumption) | assumption)
                  have q233 : x21_1 < (t224.length : Int) := of_decide_eq_true (by first | (with_reducible assumption) | assumption)
                  obtain ⟨ad233, e233, hx233_0, hx233_1⟩ := at_T50 (Kd.R_reads' HO_5.out).2.2 x21_1 p233 q233
                  cases e233
                  replace p233 := eq_true p233
                  replace q233 := eq_true q233
                  have p234 : 0 ≤ (x21_1 : Int) := of_decide_eq_true (by first | (with_reducible assumption) | assumption)
                  have q234 : x21_1 < (t230.length : Int) := of_decide_eq_true (by first | (with_reducible assumption) | assumption)
                  obtain ⟨ad234, e234, hx234_0, hx234_1⟩ := at_T50 (Kd.R_reads' HO_6.out).2.2 x21_1 p234 q234
                  cases e234
                  replace p234 := eq_true p234
                  replace q234 := eq_true q234
                  go_wp2
                  repeat (go_quiet (fail); try go_wp2)
                  go_roundg k1
                  case measure => have := HK1.out; omega
                  case rel => exact ⟨(wrap64 (x21_1 + 1)), (by first | rfl | (simp; done) | (simp [*]; done)), H', ⟨by have := HK1.out; omega⟩, ⟨by (with_reducible repeat (first | apply Kd.R_alloc | apply Kd.R_drewN | apply Kd.R_drew)); exact HO_5.out⟩, ⟨by (with_reducible repeat (first | apply Kd.R_alloc | apply Kd.R_drewN | apply Kd.R_drew)); exact HO_6.out⟩, ⟨by repeat (first | (with_reducible first | exact HB.out | apply below_alloc | apply pw_below_drewN | apply below_drew1) | exact HB.out)⟩⟩
              · rw [if_neg c19] at H
                exact absurd H (by simp)
            · rw [if_neg c18] at H
              exact absurd H (by simp)
          · rw [if_neg c17] at H
            exact absurd H (by simp)
        · rw [if_neg c16] at H
          have c16b0 : decide (x21_1 < (t224.length : Int)) = false := decide_eq_false c16
          clear c16
          obtain rfl := Option.some.inj H
          go_wp2
          repeat (go_quiet (fail); try go_wp2)
          go_ret
          exact ⟨by first | rfl | (simp [errW_none, errW_some] <;> rfl) | (simp [*, errW_none, errW_some] <;> rfl), by repeat (first | (with_reducible first | exact HB.out | apply below_alloc | apply pw_below_drewN | apply below_drew1) | exact HB.out)⟩
  · rw [if_neg c7] at H
    have c7b0 : ((t224.length : Int) == (t230.length : Int)) = false := beq_eq_false_iff_ne.mpr c7
    have c7b1 : ((t224.length : Int) != (t230.length : Int)) = true := bne_iff_ne.mpr c7
    have c7b2 : (t224.length == t230.length) = false := by first | simpa using c7 | (simp at c7 ⊢; omega)
    obtain rfl := Option.some.inj H
    go_enter Try.func18, Try.ntmps18
    go_wp2_with (first | (go_at_call 20; (with_reducible refine (laws_pairs.calls k _ _ l0 t221 _ ?side1 ?side2 A3.out).mono ?_); (case side1 => repeat (first | exact HR0.out | (with_reducible refine Kd.C_alloc ?_ _) | (with_reducible refine Kd.C_drewN ?_ _) | (with_reducible refine Kd.C_drew ?_))); (case side2 => exact HC0.out); rintro e w21 ⟨v222, rfl, ho0, hb⟩; have n0_ := Aside0.mk (Kd.R_lower ho0 (below_size (by repeat (first | (with_reducible first | exact HB.out | apply below_alloc | apply pw_below_drewN | apply below_drew1) | exact HB.out)))); have n1_ := Aside0.mk (below_step (by repeat (first | (with_reducible first | exact HB.out | apply below_alloc | apply pw_below_drewN | apply below_drew1) | exact HB.out)) hb); clear HB; have HO223 := n0_; have HB := n1_; clear n0_ n1_; (try clear hb); (try clear hb2); (try clear hk); (try clear hi); (try clear ho0); obtain ⟨Ao22, co22, eo22⟩ := Kd.R_slice HO223.out; subst eo22) | (go_at_call 29; (with_reducible refine (spec_Set.calls k _ _ t221 t224 _ ?side1 ?side2 A4.out).mono ?_); (case side1 => repeat (first | exact (Kd.R_reads' HO223.out).2.2 | (with_reducible refine Kd.C_alloc ?_ _) | (with_reducible refine Kd.C_drewN ?_ _) | (with_reducible refine Kd.C_drew ?_))); (case side2 => exact (Kd.R_reads' HO223.out).2.1); rintro e w23 ⟨v225, rfl, ho0, hb⟩; have n0_ := Aside0.mk (Kd.R_elder' (by (with_reducible repeat (first | apply Kd.R_alloc | apply Kd.R_drewN | apply Kd.R_drew)); exact HO223.out) (Kd.R_base ho0) hb); have n1_ := Aside0.mk (Kd.R_lower (Kd.R_new' ho0 (Kd.R_lt (by (with_reducible repeat (first | apply Kd.R_alloc | apply Kd.R_drewN | apply Kd.R_drew)); exact HO223.out))) (below_size (by repeat (first | (with_reducible first | exact HB.out | apply below_alloc | apply pw_below_drewN | apply below_drew1) | exact HB.out)))); have n2_ := Aside0.mk (below_step (by repeat (first | (with_reducible first | exact HB.out | apply below_alloc | apply pw_below_drewN | apply below_drew1) | exact HB.out)) hb); clear HO223; clear HB; have HO223 := n0_; have HO226 := n1_; have HB := n2_; clear n0_ n1_ n2_; (try clear hb); (try clear hb2); (try clear hk); (try clear hi); (try clear ho0)) | (go_at_call 20; (with_reducible refine (laws_pairs.calls k _ _ l1 t227 _ ?side1 ?side2 A5.out).mono ?_); (case side1 => repeat (first | exact (Kd.C_below HR1.out HB.out) | (with_reducible refine Kd.C_alloc ?_ _) | (with_reducible refine Kd.C_drewN ?_ _) | (with_reducible refine Kd.C_drew ?_))); (case side2 => exact HC1.out); rintro e w24 ⟨v228, rfl, ho0, hb⟩; have n0_ := Aside0.mk (Kd.R_elder' (by (with_reducible repeat (first | apply Kd.R_alloc | apply Kd.R_drewN | apply Kd.R_drew)); exact HO223.out) (Kd.R_base ho0) hb); have n1_ := Aside0.mk (Kd.R_elder' (by (with_reducible repeat (first | apply Kd.R_alloc | apply Kd.R_drewN | apply Kd.R_drew)); exact HO226.out) (Kd.R_base ho0) hb); have n2_ := Aside0.mk (Kd.R_lower (Kd.R_new' (Kd.R_new' ho0 (Kd.R_lt (by (with_reducible repeat (first | apply Kd.R_alloc | apply Kd.R_drewN | apply Kd.R_drew)); exact HO223.out))) (Kd.R_lt (by (with_reducible repeat (first | apply Kd.R_alloc | apply Kd.R_drewN | apply Kd.R_drew)); exact HO226.out))) (below_size (by repeat (first | (with_reducible first | exact HB.out | apply below_alloc | apply pw_below_drewN | apply below_drew1) | exact HB.out)))); have n3_ := Aside0.mk (below_step (by repeat (first | (with_reducible first | exact HB.out | apply below_alloc | apply pw_below_drewN | apply below_drew1) | exact HB.out)) hb); clear HO223; clear HO226; clear HB; have HO223 := n0_; have HO226 := n1_; have HO229 := n2_; have HB := n3_; clear n0_ n1_ n2_ n3_; (try clear hb); (try clear hb2); (try clear hk); (try clear hi); (try clear ho0); obtain ⟨Ao25, co25, eo25⟩ := Kd.R_slice HO229.out; subst eo25) | (go_at_call 29; (with_reducible refine (spec_Set.calls k _ _ t227 t230 _ ?side1 ?side2 A6.out).mono ?_); (case side1 => repeat (first | exact (Kd.R_reads' HO229.out).2.2 | (with_reducible refine Kd.C_alloc ?_ _) | (with_reducible refine Kd.C_drewN ?_ _) | (with_reducible refine Kd.C_drew ?_))); (case side2 => exact (Kd.R_reads' HO229.out).2.1); rintro e w26 ⟨v231, rfl, ho0, hb⟩; have n0_ := Aside0.mk (Kd.R_elder' (by (with_reducible repeat (first | apply Kd.R_alloc | apply Kd.R_drewN | apply Kd.R_drew)); exact HO223.out) (Kd.R_base ho0) hb); have n1_ := Aside0.mk (Kd.R_elder' (by (with_reducible repeat (first | apply Kd.R_alloc | apply Kd.R_drewN | apply Kd.R_drew)); exact HO226.out) (Kd.R_base ho0) hb); have n2_ := Aside0.mk (Kd.R_elder' (by (with_reducible repeat (first | apply Kd.R_alloc | apply Kd.R_drewN | apply Kd.R_drew)); exact HO229.out) (Kd.R_base ho0) hb); have n3_ := Aside0.mk (Kd.R_lower (Kd.R_new' (Kd.R_new' (Kd.R_new' ho0 (Kd.R_lt (by (with_reducible repeat (first | apply Kd.R_alloc | apply Kd.R_drewN | apply Kd.R_drew)); exact HO223.out))) (Kd.R_lt (by (with_reducible repeat (first | apply Kd.R_alloc | apply Kd.R_drewN | apply Kd.R_drew)); exact HO226.out))) (Kd.R_lt (by (with_reducible repeat (first | apply Kd.R_alloc | apply Kd.R_drewN | apply Kd.R_drew)); exact HO229.out))) (below_size (by repeat (first | (with_reducible first | exact HB.out | apply below_alloc | apply pw_below_drewN | apply below_drew1) | exact HB.out)))); have n4_ := Aside0.mk (below_step (by repeat (first | (with_reducible first | exact HB.out | apply below_alloc | apply pw_below_drewN | apply below_drew1) | exact HB.out)) hb); clear HO223; clear HO226; clear HO229; clear HB; have HO223 := n0_; have HO226 := n1_; have HO229 := n2_; have HO232 := n3_; have HB := n4_; clear n0_ n1_ n2_ n3_ n4_; (try clear hb); (try clear hb2); (try clear hk); (try clear hi); (try clear ho0); obtain ⟨Ao27, co27, eo27⟩ := Kd.R_slice HO226.out; subst eo27; obtain ⟨Ao28, co28, eo28⟩ := Kd.R_slice HO232.out; subst eo28))
    repeat (go_quiet (first | (go_at_call 20; (with_reducible refine (laws_pairs.calls k _ _ l0 t221 _ ?side1 ?side2 A3.out).mono ?_); (case side1 => repeat (first | exact HR0.out | (with_reducible refine Kd.C_alloc ?_ _) | (with_reducible refine Kd.C_drewN ?_ _) | (with_reducible refine Kd.C_drew ?_))); (case side2 => exact HC0.out); rintro e w21 ⟨v222, rfl, ho0, hb⟩; have n0_ := Aside0.mk (Kd.R_lower ho0 (below_size (by repeat (first | (with_reducible first | exact HB.out | apply below_alloc | apply pw_below_drewN | apply below_drew1) | exact HB.out)))); have n1_ := Aside0.mk (below_step (by repeat (first | (with_reducible first | exact HB.out | apply below_alloc | apply pw_below_drewN | apply below_drew1) | exact HB.out)) hb); clear HB; have HO223 := n0_; have HB := n1_; clear n0_ n1_; (try clear hb); (try clear hb2); (try clear hk); (try clear hi); (try clear ho0); obtain ⟨Ao22, co22, eo22⟩ := Kd.R_slice HO223.out; subst eo22) | (go_at_call 29; (with_reducible refine (spec_Set.calls k _ _ t221 t224 _ ?side1 ?side2 A4.out).mono ?_); (case side1 => repeat (first | exact (Kd.R_reads' HO223.out).2.2 | (with_reducible refine Kd.C_alloc ?_ _) | (with_reducible refine Kd.C_drewN ?_ _) | (with_reducible refine Kd.C_drew ?_))); (case side2 => exact (Kd.R_reads' HO223.out).2.1); rintro e w23 ⟨v225, rfl, ho0, hb⟩; have n0_ := Aside0.mk (Kd.R_elder' (by (with_reducible repeat (first | apply Kd.R_alloc | apply Kd.R_drewN | apply Kd.R_drew)); exact HO223.out) (Kd.R_base ho0) hb); have n1_ := Aside0.mk (Kd.R_lower (Kd.R_new' ho0 (Kd.R_lt (by (with_reducible repeat (first | apply Kd.R_alloc | apply Kd.R_drewN | apply Kd.R_drew)); exact HO223.out))) (below_size (by repeat (first | (with_reducible first | exact HB.out | apply below_alloc | apply pw_below_drewN | apply below_drew1) | exact HB.out)))); have n2_ := Aside0.mk (below_step (by repeat (first | (with_reducible first | exact HB.out | apply below_alloc | apply pw_below_drewN | apply below_drew1) | exact HB.out)) hb); clear HO223; clear HB; have HO223 := n0_; have HO226 := n1_; have HB := n2_; clear n0_ n1_ n2_; (try clear hb); (try clear hb2); (try clear hk); (try clear hi); (try clear ho0)) | (go_at_call 20; (with_reducible refine (laws_pairs.calls k _ _ l1 t227 _ ?side1 ?side2 A5.out).mono ?_); (case side1 => repeat (first | exact (Kd.C_below HR1.out HB.out) | (with_reducible refine Kd.C_alloc ?_ _) | (with_reducible refine Kd.C_drewN ?_ _) | (with_reducible refine Kd.C_drew ?_))); (case side2 => exact HC1.out); rintro e w24 ⟨v228, rfl, ho0, hb⟩; have n0_ := Aside0.mk (Kd.R_elder' (by (with_reducible repeat (first | apply Kd.R_alloc | apply Kd.R_drewN | apply Kd.R_drew)); exact HO223.out) (Kd.R_base ho0) hb); have n1_ := Aside0.mk (Kd.R_elder' (by (with_reducible repeat (first | apply Kd.R_alloc | apply Kd.R_drewN | apply Kd.R_drew)); exact HO226.out) (Kd.R_base ho0) hb); have n2_ := Aside0.mk (Kd.R_lower (Kd.R_new' (Kd.R_new' ho0 (Kd.R_lt (by (with_reducible repeat (first | apply Kd.R_alloc | apply Kd.R_drewN | apply Kd.R_drew)); exact HO223.out))) (Kd.R_lt (by (with_reducible repeat (first | apply Kd.R_alloc | apply Kd.R_drewN | apply Kd.R_drew)); exact HO226.out))) (below_size (by repeat (first | (with_reducible first | exact HB.out | apply below_alloc | apply pw_below_drewN | apply below_drew1) | exact HB.out)))); have n3_ := Aside0.mk (below_step (by repeat (first | (with_reducible first | exact HB.out | apply below_alloc | apply pw_below_drewN | apply below_drew1) | exact HB.out)) hb); clear HO223; clear HO226; clear HB; have HO223 := n0_; have HO226 := n1_; have HO229 := n2_; have HB := n3_; clear n0_ n1_ n2_ n3_; (try clear hb); (try clear hb2); (try clear hk); (try clear hi); (try clear ho0); obtain ⟨Ao25, co25, eo25⟩ := Kd.R_slice HO229.out; subst eo25) | (go_at_call 29; (with_reducible refine (spec_Set.calls k _ _ t227 t230 _ ?side1 ?side2 A6.out).mono ?_); (case side1 => repeat (first | exact (Kd.R_reads' HO229.out).2.2 | (with_reducible refine Kd.C_alloc ?_ _) | (with_reducible refine Kd.C_drewN ?_ _) | (with_reducible refine Kd.C_drew ?_))); (case side2 => exact (Kd.R_reads' HO229.out).2.1); rintro e w26 ⟨v231, rfl, ho0, hb⟩; have n0_ := Aside0.mk (Kd.R_elder' (by (with_reducible repeat (first | apply Kd.R_alloc | apply Kd.R_drewN | apply Kd.R_drew)); exact HO223.out) (Kd.R_base ho0) hb); have n1_ := Aside0.mk (Kd.R_elder' (by (with_reducible repeat (first | apply Kd.R_alloc | apply Kd.R_drewN | apply Kd.R_drew)); exact HO226.out) (Kd.R_base ho0) hb); have n2_ := Aside0.mk (Kd.R_elder' (by (with_reducible repeat (first | apply Kd.R_alloc | apply Kd.R_drewN | apply Kd.R_drew)); exact HO229.out) (Kd.R_base ho0) hb); have n3_ := Aside0.mk (Kd.R_lower (Kd.R_new' (Kd.R_new' (Kd.R_new' ho0 (Kd.R_lt (by (with_reducible repeat (first | apply Kd.R_alloc | apply Kd.R_drewN | apply Kd.R_drew)); exact HO223.out))) (Kd.R_lt (by (with_reducible repeat (first | apply Kd.R_alloc | apply Kd.R_drewN | apply Kd.R_drew)); exact HO226.out))) (Kd.R_lt (by (with_reducible repeat (first | apply Kd.R_alloc | apply Kd.R_drewN | apply Kd.R_drew)); exact HO229.out))) (below_size (by repeat (first | (with_reducible first | exact HB.out | apply below_alloc | apply pw_below_drewN | apply below_drew1) | exact HB.out)))); have n4_ := Aside0.mk (below_step (by repeat (first | (with_reducible first | exact HB.out | apply below_alloc | apply pw_below_drewN | apply below_drew1) | exact HB.out)) hb); clear HO223; clear HO226; clear HO229; clear HB; have HO223 := n0_; have HO226 := n1_; have HO229 := n2_; have HO232 := n3_; have HB := n4_; clear n0_ n1_ n2_ n3_ n4_; (try clear hb); (try clear hb2); (try clear hk); (try clear hi); (try clear ho0); obtain ⟨Ao27, co27, eo27⟩ := Kd.R_slice HO226.out; subst eo27; obtain ⟨Ao28, co28, eo28⟩ := Kd.R_slice HO232.out; subst eo28)); try go_wp2_with (first | (go_at_call 20; (with_reducible refine (laws_pairs.calls k _ _ l0 t221 _ ?side1 ?side2 A3.out).mono ?_); (case side1 => repeat (first | exact HR0.out | (with_reducible refine Kd.C_alloc ?_ _) | (with_reducible refine Kd.C_drewN ?_ _) | (with_reducible refine Kd.C_drew ?_))); (case side2 => exact HC0.out); rintro e w21 ⟨v222, rfl, ho0, hb⟩; have n0_ := Aside0.mk (Kd.R_lower ho0 (below_size (by repeat (first | (with_reducible first | exact HB.out | apply below_alloc | apply pw_below_drewN | apply below_drew1) | exact HB.out)))); have n1_ := Aside0.mk (below_step (by repeat (first | (with_reducible first | exact HB.out | apply below_alloc | apply pw_below_drewN | apply below_drew1) | exact HB.out)) hb); clear HB; have HO223 := n0_; have HB := n1_; clear n0_ n1_; (try clear hb); (try clear hb2); (try clear hk); (try clear hi); (try clear ho0); obtain ⟨Ao22, co22, eo22⟩ := Kd.R_slice HO223.out; subst eo22) | (go_at_call 29; (with_reducible refine (spec_Set.calls k _ _ t221 t224 _ ?side1 ?side2 A4.out).mono ?_); (case side1 => repeat (first | exact (Kd.R_reads' HO223.out).2.2 | (with_reducible refine Kd.C_alloc ?_ _) | (with_reducible refine Kd.C_drewN ?_ _) | (with_reducible refine Kd.C_drew ?_))); (case side2 => exact (Kd.R_reads' HO223.out).2.1); rintro e w23 ⟨v225, rfl, ho0, hb⟩; have n0_ := Aside0.mk (Kd.R_elder' (by (with_reducible repeat (first | apply Kd.R_alloc | apply Kd.R_drewN | apply Kd.R_drew)); exact HO223.out) (Kd.R_base ho0) hb); have n1_ := Aside0.mk (Kd.R_lower (Kd.R_new' ho0 (Kd.R_lt (by (with_reducible repeat (first | apply Kd.R_alloc | apply Kd.R_drewN | apply Kd.R_drew)); exact HO223.out))) (below_size (by repeat (first | (with_reducible first | exact HB.out | apply below_alloc | apply pw_below_drewN | apply below_drew1) | exact HB.out)))); have n2_ := Aside0.mk (below_step (by repeat (first | (with_reducible first | exact HB.out | apply below_alloc | apply pw_below_drewN | apply below_drew1) | exact HB.out)) hb); clear HO223; clear HB; have HO223 := n0_; have HO226 := n1_; have HB := n2_; clear n0_ n1_ n2_; (try clear hb); (try clear hb2); (try clear hk); (try clear hi); (try clear ho0)) | (go_at_call 20; (with_reducible refine (laws_pairs.calls k _ _ l1 t227 _ ?side1 ?side2 A5.out).mono ?_); (case side1 => repeat (first | exact (Kd.C_below HR1.out HB.out) | (with_reducible refine Kd.C_alloc ?_ _) | (with_reducible refine Kd.C_drewN ?_ _) | (with_reducible refine Kd.C_drew ?_))); (case side2 => exact HC1.out); rintro e w24 ⟨v228, rfl, ho0, hb⟩; have n0_ := Aside0.mk (Kd.R_elder' (by (with_reducible repeat (first | apply Kd.R_alloc | apply Kd.R_drewN | apply Kd.R_drew)); exact HO223.out) (Kd.R_base ho0) hb); have n1_ := Aside0.mk (Kd.R_elder' (by (with_reducible repeat (first | apply Kd.R_alloc | apply Kd.R_drewN | apply Kd.R_drew)); exact HO226.out) (Kd.R_base ho0) hb); have n2_ := Aside0.mk (Kd.R_lower (Kd.R_new' (Kd.R_new' ho0 (Kd.R_lt (by (with_reducible repeat (first | apply Kd.R_alloc | apply Kd.R_drewN | apply Kd.R_drew)); exact HO223.out))) (Kd.R_lt (by (with_reducible repeat (first | apply Kd.R_alloc | apply Kd.R_drewN | apply Kd.R_drew)); exact HO226.out))) (below_size (by repeat (first | (with_reducible first | exact HB.out | apply below_alloc | apply pw_below_drewN | apply below_drew1) | exact HB.out)))); have n3_ := Aside0.mk (below_step (by repeat (first | (with_reducible first | exact HB.out | apply below_alloc | apply pw_below_drewN | apply below_drew1) | exact HB.out)) hb); clear HO223; clear HO226; clear HB; have HO223 := n0_; have HO226 := n1_; have HO229 := n2_; have HB := n3_; clear n0_ n1_ n2_ n3_; (try clear hb); (try clear hb2); (try clear hk); (try clear hi); (try clear ho0); obtain ⟨Ao25, co25, eo25⟩ := Kd.R_slice HO229.out; subst eo25) | (go_at_call 29; (with_reducible refine (spec_Set.calls k _ _ t227 t230 _ ?side1 ?side2 A6.out).mono ?_); (case side1 => repeat (first | exact (Kd.R_reads' HO229.out).2.2 | (with_reducible refine Kd.C_alloc ?_ _) | (with_reducible refine Kd.C_drewN ?_ _) | (with_reducible refine Kd.C_drew ?_))); (case side2 => exact (Kd.R_reads' HO229.out).2.1); rintro e w26 ⟨v231, rfl, ho0, hb⟩; have n0_ := Aside0.mk (Kd.R_elder' (by (with_reducible repeat (first | apply Kd.R_alloc | apply Kd.R_drewN | apply Kd.R_drew)); exact HO223.out) (Kd.R_base ho0) hb); have n1_ := Aside0.mk (Kd.R_elder' (by (with_reducible repeat (first | apply Kd.R_alloc | apply Kd.R_drewN | apply Kd.R_drew)); exact HO226.out) (Kd.R_base ho0) hb); have n2_ := Aside0.mk (Kd.R_elder' (by (with_reducible repeat (first | apply Kd.R_alloc | apply Kd.R_drewN | apply Kd.R_drew)); exact HO229.out) (Kd.R_base ho0) hb); have n3_ := Aside0.mk (Kd.R_lower (Kd.R_new' (Kd.R_new' (Kd.R_new' ho0 (Kd.R_lt (by (with_reducible repeat (first | apply Kd.R_alloc | apply Kd.R_drewN | apply Kd.R_drew)); exact HO223.out))) (Kd.R_lt (by (with_reducible repeat (first | apply Kd.R_alloc | apply Kd.R_drewN | apply Kd.R_drew)); exact HO226.out))) (Kd.R_lt (by (with_reducible repeat (first | apply Kd.R_alloc | apply Kd.R_drewN | apply Kd.R_drew)); exact HO229.out))) (below_size (by repeat (first | (with_reducible first | exact HB.out | apply below_alloc | apply pw_below_drewN | apply below_drew1) | exact HB.out)))); have n4_ := Aside0.mk (below_step (by repeat (first | (with_reducible first | exact HB.out | apply below_alloc | apply pw_below_drewN | apply below_drew1) | exact HB.out)) hb); clear HO223; clear HO226; clear HO229; clear HB; have HO223 := n0_; have HO226 := n1_; have HO229 := n2_; have HO232 := n3_; have HB := n4_; clear n0_ n1_ n2_ n3_ n4_; (try clear hb); (try clear hb2); (try clear hk); (try clear hi); (try clear ho0); obtain ⟨Ao27, co27, eo27⟩ := Kd.R_slice HO226.out; subst eo27; obtain ⟨Ao28, co28, eo28⟩ := Kd.R_slice HO232.out; subst eo28)))
    go_ret
    exact ⟨by first | rfl | (simp [errW_none, errW_some] <;> rfl) | (simp [*, errW_none, errW_some] <;> rfl), by repeat (first | (with_reducible first | exact HB.out | apply below_alloc | apply pw_below_drewN | apply below_drew1) | exact HB.out)⟩

/-! ### spec_SetEqual: function 19 -/
def spec_SetEqual.l0 : Nat → List (S50) → List (S50) → Int → Int → Option (Bool)
  | 0, _, _, _, _ => none
  | k + 1, x5, x6, x18, x19 => if x19 < x18 then (if 0 ≤ x19 then (if x19 < (x5.length : Int) then (if x19 < (x6.length : Int) then (if (!((((rd_T50 x5 x19).f0).toList) == (((rd_T50 x6 x19).f0).toList)) || (!((((rd_T50 x5 x19).f1).toList) == (((rd_T50 x6 x19).f1).toList)))) = true then (some false) else (spec_SetEqual.l0 k x5 x6 x18 (wrap64 (x19 + 1)))) else (none)) else (none)) else (none)) else (some true)
def spec_SetEqual.f (k : Nat) (l0 : List (S50)) (l1 : List (S50)) : Option (Bool) := (spec_Set.f k l0).bind fun t235 => ((spec_Set.f k l1).bind fun t238 => (if (t235.length : Int) = (t238.length : Int) then (spec_SetEqual.l0 k t235 t238 (t235.length : Int) 0) else (some false)))
theorem spec_SetEqual.mono_l : ∀ k, (∀ y0 y1 y2 y3, LeO (spec_SetEqual.l0 k y0 y1 y2 y3) (spec_SetEqual.l0 (k + 1) y0 y1 y2 y3))
  | 0 => fun _ _ _ _ r h => by simp [spec_SetEqual.l0] at h
  | k + 1 => by
    have ih0 := spec_SetEqual.mono_l k
    · intro y0 y1 y2 y3
      unfold spec_SetEqual.l0
      repeat' first
      | (with_reducible exact ih0 _ _ _ _)
      | (with_reducible exact spec_Set.mono _ _)
      | (with_reducible exact LeO.refl _)
      | (with_reducible exact LeO.none _)
      | (with_reducible refine LeO.ite ?_ ?_)
      | (with_reducible refine LeO.bind ?_ (fun _ => ?_))
      | exact ih0 _ _ _ _
      | exact spec_Set.mono _ _
      | exact LeO.none _
      | refine LeO.ite ?_ ?_
      | refine LeO.bind ?_ (fun _ => ?_)
theorem spec_SetEqual.mono : ∀ a0 a1 k, LeO (spec_SetEqual.f k a0 a1) (spec_SetEqual.f (k + 1) a0 a1) := by
  intro a0 a1 k
  have ih0 := spec_SetEqual.mono_l k
  unfold spec_SetEqual.f
  repeat' first
      | (with_reducible exact ih0 _ _ _ _)
      | (with_reducible exact spec_Set.mono _ _)
      | (with_reducible exact LeO.refl _)
      | (with_reducible exact LeO.none _)
      | (with_reducible refine LeO.ite ?_ ?_)
      | (with_reducible refine LeO.bind ?_ (fun _ => ?_))
      | exact ih0 _ _ _ _
      | exact spec_Set.mono _ _
      | exact LeO.none _
      | refine LeO.ite ?_ ?_
      | refine LeO.bind ?_ (fun _ => ?_)
set_option maxHeartbeats 8000000 in
set_option maxRecDepth 100000 in
theorem spec_SetEqual.calls (k : Nat) (A0 : Option Addr) (c0 : Nat) (l0 : List (S50)) (A1 : Option Addr) (c1 : Nat) (l1 : List (S50)) (r : Bool) (w : World) (hr0 : Kd.C k50 w A0 l0.length l0) (hc0 : l0.length ≤ c0) (hr1 : Kd.C k50 w A1 l1.length l1) (hc1 : l1.length ≤ c1) (h : spec_SetEqual.f k l0 l1 = some r) :
    Calls Try.prog 19 #[.slice A0 l0.length c0, .slice A1 l1.length c1] w fun e w' => e = .returned (.bool r) ∧ Below w.heap.size w w' := by
  have hu50 := Try.underlying50
  have HR0 := Aside0.mk hr0
  have HC0 := Aside0.mk hc0
  clear hr0 hc0
  have HR1 := Aside0.mk hr1
  have HC1 := Aside0.mk hc1
  clear hr1 hc1
  have HB := Aside0.mk (Below.refl w.heap.size w)
  have H : ((spec_Set.f k l0).bind fun t235 => ((spec_Set.f k l1).bind fun t238 => (if (t235.length : Int) = (t238.length : Int) then (spec_SetEqual.l0 k t235 t238 (t235.length : Int) 0) else (some false)))) = some r := h
  clear h
  replace H := Option.bind_eq_some_iff.mp H
  obtain ⟨t235, A30, H⟩ := H
  replace H : ((spec_Set.f k l1).bind fun t238 => (if (t235.length : Int) = (t238.length : Int) then (spec_SetEqual.l0 k t235 t238 (t235.length : Int) 0) else (some false))) = some r := H
  have A3 := Aside0.mk A30
  clear A30
  replace H := Option.bind_eq_some_iff.mp H
  obtain ⟨t238, A40, H⟩ := H
  replace H : (if (t235.length : Int) = (t238.length : Int) then (spec_SetEqual.l0 k t235 t238 (t235.length : Int) 0) else (some false)) = some r := H
  have A4 := Aside0.mk A40
  clear A40
  by_cases c5 : (t235.length : Int) = (t238.length : Int)
  · rw [if_pos c5] at H
    have c5b0 : ((t235.length : Int) == (t238.length : Int)) = true := beq_iff_eq.mpr c5
    have c5b1 : ((t235.length : Int) != (t238.length : Int)) = false := bne_eq_false_iff_eq.mpr c5
    have c5b2 : (t235.length == t238.length) = true := by first | simpa using c5 | (simp at c5 ⊢; omega)
    clear c5
    have H' := Aside0.mk H
    clear H
    go_enter Try.func19, Try.ntmps19
    go_wp2_with (first | (go_at_call 29; (with_reducible refine (spec_Set.calls k _ _ l0 t235 _ ?side1 ?side2 A3.out).mono ?_); (case side1 => repeat (first | exact HR0.out | (with_reducible refine Kd.C_alloc ?_ _) | (with_reducible refine Kd.C_drewN ?_ _) | (with_reducible refine Kd.C_drew ?_))); (case side2 => exact HC0.out); rintro e w6 ⟨v236, rfl, ho0, hb⟩; have n0_ := Aside0.mk (Kd.R_lower ho0 (below_size (by repeat (first | (with_reducible first | exact HB.out | apply below_alloc | apply pw_below_drewN | apply below_drew1) | exact HB.out)))); have n1_ := Aside0.mk (below_step (by repeat (first | (with_reducible first | exact HB.out | apply below_alloc | apply pw_below_drewN | apply below_drew1) | exact HB.out)) hb); clear HB; have HO237 := n0_; have HB := n1_; clear n0_ n1_; (try clear hb); (try clear hb2); (try clear hk); (try clear hi); (try clear ho0)) | (go_at_call 29; (with_reducible refine (spec_Set.calls k _ _ l1 t238 _ ?side1 ?side2 A4.out).mono ?_); (case side1 => repeat (first | exact (Kd.C_below HR1.out HB.out) | (with_reducible refine Kd.C_alloc ?_ _) | (with_reducible refine Kd.C_drewN ?_ _) | (with_reducible refine Kd.C_drew ?_))); (case side2 => exact HC1.out); rintro e w7 ⟨v239, rfl, ho0, hb⟩; have n0_ := Aside0.mk (Kd.R_elder' (by (with_reducible repeat (first | apply Kd.R_alloc | apply Kd.R_drewN | apply Kd.R_drew)); exact HO237.out) (Kd.R_base ho0) hb); have n1_ := Aside0.mk (Kd.R_lower (Kd.R_new' ho0 (Kd.R_lt (by (with_reducible repeat (first | apply Kd.R_alloc | apply Kd.R_drewN | apply Kd.R_drew)); exact HO237.out))) (below_size (by repeat (first | (with_reducible first | exact HB.out | apply below_alloc | apply pw_below_drewN | apply below_drew1) | exact HB.out)))); have n2_ := Aside0.mk (below_step (by repeat (first | (with_reducible first | exact HB.out | apply below_alloc | apply pw_below_drewN | apply below_drew1) | exact HB.out)) hb); clear HO237; clear HB; have HO237 := n0_; have HO240 := n1_; have HB := n2_; clear n0_ n1_ n2_; (try clear hb); (try clear hb2); (try clear hk); (try clear hi); (try clear ho0); obtain ⟨Ao8, co8, eo8⟩ := Kd.R_slice HO237.out; subst eo8; obtain ⟨Ao9, co9, eo9⟩ := Kd.R_slice HO240.out; subst eo9))
    repeat (go_quiet (first | (go_at_call 29; (with_reducible refine (spec_Set.calls k _ _ l0 t235 _ ?side1 ?side2 A3.out).mono ?_); (case side1 => repeat (first | exact HR0.out | (with_reducible refine Kd.C_alloc ?_ _) | (with_reducible refine Kd.C_drewN ?_ _) | (with_reducible refine Kd.C_drew ?_))); (case side2 => exact HC0.out); rintro e w6 ⟨v236, rfl, ho0, hb⟩; have n0_ := Aside0.mk (Kd.R_lower ho0 (below_size (by repeat (first | (with_reducible first | exact HB.out | apply below_alloc | apply pw_below_drewN | apply below_drew1) | exact HB.out)))); have n1_ := Aside0.mk (below_step (by repeat (first | (with_reducible first | exact HB.out | apply below_alloc | apply pw_below_drewN | apply below_drew1) | exact HB.out)) hb); clear HB; have HO237 := n0_; have HB := n1_; clear n0_ n1_; (try clear hb); (try clear hb2); (try clear hk); (try clear hi); (try clear ho0)) | (go_at_call 29; (with_reducible refine (spec_Set.calls k _ _ l1 t238 _ ?side1 ?side2 A4.out).mono ?_); (case side1 => repeat (first | exact (Kd.C_below HR1.out HB.out) | (with_reducible refine Kd.C_alloc ?_ _) | (with_reducible refine Kd.C_drewN ?_ _) | (with_reducible refine Kd.C_drew ?_))); (case side2 => exact HC1.out); rintro e w7 ⟨v239, rfl, ho0, hb⟩; have n0_ := Aside0.mk (Kd.R_elder' (by (with_reducible repeat (first | apply Kd.R_alloc | apply Kd.R_drewN | apply Kd.R_drew)); exact HO237.out) (Kd.R_base ho0) hb); have n1_ := Aside0.mk (Kd.R_lower (Kd.R_new' ho0 (Kd.R_lt (by (with_reducible repeat (first | apply Kd.R_alloc | apply Kd.R_drewN | apply Kd.R_drew)); exact HO237.out))) (below_size (by repeat (first | (with_reducible first | exact HB.out | apply below_alloc | apply pw_below_drewN | apply below_drew1) | exact HB.out)))); have n2_ := Aside0.mk (below_step (by repeat (first | (with_reducible first | exact HB.out | apply below_alloc | apply pw_below_drewN | apply below_drew1) | exact HB.out)) hb); clear HO237; clear HB; have HO237 := n0_; have HO240 := n1_; have HB := n2_; clear n0_ n1_ n2_; (try clear hb); (try clear hb2); (try clear hk); (try clear hi); (try clear ho0); obtain ⟨Ao8, co8, eo8⟩ := Kd.R_slice HO237.out; subst eo8; obtain ⟨Ao9, co9, eo9⟩ := Kd.R_slice HO240.out; subst eo9)); try go_wp2_with (first | (go_at_call 29; (with_reducible refine (spec_Set.calls k _ _ l0 t235 _ ?side1 ?side2 A3.out).mono ?_); (case side1 => repeat (first | exact HR0.out | (with_reducible refine Kd.C_alloc ?_ _) | (with_reducible refine Kd.C_drewN ?_ _) | (with_reducible refine Kd.C_drew ?_))); (case side2 => exact HC0.out); rintro e w6 ⟨v236, rfl, ho0, hb⟩; have n0_ := Aside0.mk (Kd.R_lower ho0 (below_size (by repeat (first | (with_reducible first | exact HB.out | apply below_alloc | apply pw_below_drewN | apply below_drew1) | exact HB.out)))); have n1_ := Aside0.mk (below_step (by repeat (first | (with_reducible first | exact HB.out | apply below_alloc | apply pw_below_drewN | apply below_drew1) | exact HB.out)) hb); clear HB; have HO237 := n0_; have HB := n1_; clear n0_ n1_; (try clear hb); (try clear hb2); (try clear hk); (try clear hi); (try clear ho0)) | (go_at_call 29; (with_reducible refine (spec_Set.calls k _ _ l1 t238 _ ?side1 ?side2 A4.out).mono ?_); (case side1 => repeat (first | exact (Kd.C_below HR1.out HB.out) | (with_reducible refine Kd.C_alloc ?_ _) | (with_reducible refine Kd.C_drewN ?_ _) | (with_reducible refine Kd.C_drew ?_))); (case side2 => exact HC1.out); rintro e w7 ⟨v239, rfl, ho0, hb⟩; have n0_ := Aside0.mk (Kd.R_elder' (by (with_reducible repeat (first | apply Kd.R_alloc | apply Kd.R_drewN | apply Kd.R_drew)); exact HO237.out) (Kd.R_base ho0) hb); have n1_ := Aside0.mk (Kd.R_lower (Kd.R_new' ho0 (Kd.R_lt (by (with_reducible repeat (first | apply Kd.R_alloc | apply Kd.R_drewN | apply Kd.R_drew)); exact HO237.out))) (below_size (by repeat (first | (with_reducible first | exact HB.out | apply below_alloc | apply pw_below_drewN | apply below_drew1) | exact HB.out)))); have n2_ := Aside0.mk (below_step (by repeat (first | (with_reducible first | exact HB.out | apply below_alloc | apply pw_below_drewN | apply below_drew1) | exact HB.out)) hb); clear HO237; clear HB; have HO237 := n0_; have HO240 := n1_; have HB := n2_; clear n0_ n1_ n2_; (try clear hb); (try clear hb2); (try clear hk); (try clear hi); (try clear ho0); obtain ⟨Ao8, co8, eo8⟩ := Kd.R_slice HO237.out; subst eo8; obtain ⟨Ao9, co9, eo9⟩ := Kd.R_slice HO240.out; subst eo9)))
    go_loopg [19] k (fun kq v19 w' => ∃ (x19_1 : Int), v19 = .int .i64 x19_1 ∧ Aside0 (spec_SetEqual.l0 kq t235 t238 (t235.length : Int) x19_1 = some r) ∧ Aside0 (kq ≤ k) ∧ Aside0 (Kd.R k50 50 w' w.heap.size (fun k_ => some k_ ≠ ((.slice Ao9 t238.length co9) : Value).ownBlock) (.slice Ao8 t235.length co8) t235) ∧ Aside0 (Kd.R k50 50 w' w.heap.size (fun k_ => some k_ ≠ ((.slice Ao8 t235.length co8) : Value).ownBlock) (.slice Ao9 t238.length co9) t238) ∧ Aside0 (Below w.heap.size w w'))
    case atStart => exact ⟨(0), (by first | rfl | (simp; done) | (simp [*]; done)), H', ⟨Nat.le_refl _⟩, ⟨by (with_reducible repeat (first | apply Kd.R_alloc | apply Kd.R_drewN | apply Kd.R_drew)); exact Kd.R_mono HO237.out (fun _ hk => hk.2)⟩, ⟨by (with_reducible repeat (first | apply Kd.R_alloc | apply Kd.R_drewN | apply Kd.R_drew)); exact Kd.R_mono HO240.out (fun _ hk => hk.2)⟩, ⟨by repeat (first | (with_reducible first | exact HB.out | apply below_alloc | apply pw_below_drewN | apply below_drew1) | exact HB.out)⟩⟩
    case round =>
      clear H'
      try clear c1
      try clear p2
      try clear c5
      try clear c5b0
      try clear c5b1
      try clear c5b2
      obtain ⟨x19_1, rfl, HA, HK1, HO_5, HO_6, HB⟩ := hrel
      cases gk with
      | zero => exact absurd HA.out (by simp [spec_SetEqual.l0])
      | succ k1 =>
        have H := HA.out
        clear HA
        simp only [spec_SetEqual.l0] at H
        by_cases c10 : x19_1 < (t235.length : Int)
        · rw [if_pos c10] at H
          have c10b0 : decide (x19_1 < (t235.length : Int)) = true := decide_eq_true c10
          clear c10
          by_cases c11 : 0 ≤ x19_1
          · rw [if_pos c11] at H
            have c11b0 : decide (0 ≤ x19_1) = true := decide_eq_true c11
            clear c11
            by_cases c12 : x19_1 < (t235.length : Int)
            · rw [if_pos c12] at H
              have c12b0 : decide (x19_1 < (t235.length : Int)) = true := decide_eq_true c12
              clear c12
              by_cases c13 : x19_1 < (t238.length : Int)
              · rw [if_pos c13] at H
                have c13b0 : decide (x19_1 < (t238.length : Int)) = true := decide_eq_true c13
                clear c13
                by_cases c14 : (!((((rd_T50 t235 x19_1).f0).toList) == (((rd_T50 t238 x19_1).f0).toList)) || (!((((rd_T50 t235 x19_1).f1).toList) == (((rd_T50 t238 x19_1).f1).toList)))) = true
                · rw [if_pos c14] at H
                  have c14b0 : (!((((rd_T50 t235 x19_1).f0).toList) == (((rd_T50 t238 x19_1).f0).toList)) || (!((((rd_T50 t235 x19_1).f1).toList) == (((rd_T50 t238 x19_1).f1).toList)))) = true := c14
                  clear c14
                  obtain rfl := Option.some.inj H
                  have p241 : 0 ≤ (x19_1 : Int) := of_decide_eq_true (by first | (with_reducible assumption) | assumption)
                  have q241 : x19_1 < (t235.length : Int) := of_decide_eq_true (by first | (with_reducible assumption) | assumption)
                  obtain ⟨ad241, e241, hx241_0, hx241_1⟩ := at_T50 (Kd.R_reads' HO_5.out).2.2 x19_1 p241 q241
                  cases e241
                  replace p241 := eq_true p241
                  replace q241 := eq_true q241
                  have p242 : 0 ≤ (x19_1 : Int) := of_decide_eq_true (by first | (with_reducible assumption) | assumption)
                  have q242 : x19_1 < (t238.length : Int) := of_decide_eq_true (by first | (with_reducible assumption) | assumption)
                  obtain ⟨ad242, e242, hx242_0, hx242_1⟩ := at_T50 (Kd.R_reads' HO_6.out).2.2 x19_1 p242 q242
                  cases e242
                  replace p242 := eq_true p242
                  replace q242 := eq_true q242
                  go_wp2
                  repeat (go_quiet (fail); try go_wp2)
                  go_ret
                  exact ⟨by first | rfl | (simp [errW_none, errW_some] <;> rfl) | (simp [*, errW_none, errW_some] <;> rfl), by repeat (first | (with_reducible first | exact HB.out | apply below_alloc | apply pw_below_drewN | apply below_drew1) | exact HB.out)⟩
                · rw [if_neg c14] at H
                  have c14b0 : (!((((rd_T50 t235 x19_1).f0).toList) == (((rd_T50 t238 x19_1).f0).toList)) || (!((((rd_T50 t235 x19_1).f1).toList) == (((rd_T50 t238 x19_1).f1).toList)))) = false := by simpa using c14
                  clear c14
                  have H' := Aside0.mk H
                  clear H
                  have p241 : 0 ≤ (x19_1 : Int) := of_decide_eq_true (by first | (with_reducible assumption) | assumption)
                  have q241 : x19_1 < (t235.length : Int) := of_decide_eq_true (by first | (with_reducible assumption) | assumption)
                  obtain ⟨ad241, e241, hx241_0, hx241_1⟩ := at_T50 (Kd.R_reads' HO_5.out).2.2 x19_1 p241 q241
                  cases e241
                  replace p241 := eq_true p241
                  replace q241 := eq_true q241
                  have p242 : 0 ≤ (x19_1 : Int) := of_decide_eq_true (by first | (with_reducible assumption) | assumption)
                  have q242 : x19_1 < (t238.length : Int) := of_decide_eq_true (by first | (with_reducible assumption) | assumption)
                  obtain ⟨ad242, e242, hx242_0, hx242_1⟩ := at_T50 (Kd.R_reads' HO_6.out).2.2 x19_1 p242 q242
                  cases e242
                  replace p242 := eq_true p242
                  replace q242 := eq_true q242
                  go_wp2
                  repeat (go_quiet (fail); try go_wp2)
                  go_roundg k1
                  case measure => have := HK1.out; omega
                  case rel => exact ⟨(wrap64 (x19_1 + 1)), (by first | rfl | (simp; done) | (simp [*]; done)), H', ⟨by have := HK1.out; omega⟩, ⟨by (with_reducible repeat (first | apply Kd.R_alloc | apply Kd.R_drewN | apply Kd.R_drew)); exact HO_5.out⟩, ⟨by (with_reducible repeat (first | apply Kd.R_alloc | apply Kd.R_drewN | apply Kd.R_drew)); exact HO_6.out⟩, ⟨by repeat (first | (with_reducible first | exact HB.out | apply below_alloc | apply pw_below_drewN | apply below_drew1) | exact HB.out)⟩⟩
              · rw [if_neg c13] at H
                exact absurd H (by simp)
            · rw [if_neg c12] at H
              exact absurd H (by simp)
          · rw [if_neg c11] at H
            exact absurd H (by simp)
        · rw [if_neg c10] at H
          have c10b0 : decide (x19_1 < (t235.length : Int)) = false := decide_eq_false c10
          clear c10
          obtain rfl := Option.some.inj H
          go_wp2
          repeat (go_quiet (fail); try go_wp2)
          go_ret
          exact ⟨by first | rfl | (simp [errW_none, errW_some] <;> rfl) | (simp [*, errW_none, errW_some] <;> rfl), by repeat (first | (with_reducible first | exact HB.out | apply below_alloc | apply pw_below_drewN | apply below_drew1) | exact HB.out)⟩
  · rw [if_neg c5] at H
    have c5b0 : ((t235.length : Int) == (t238.length : Int)) = false := beq_eq_false_iff_ne.mpr c5
    have c5b1 : ((t235.length : Int) != (t238.length : Int)) = true := bne_iff_ne.mpr c5
    have c5b2 : (t235.length == t238.length) = false := by first | simpa using c5 | (simp at c5 ⊢; omega)
    obtain rfl := Option.some.inj H
    go_enter Try.func19, Try.ntmps19
    go_wp2_with (first | (go_at_call 29; (with_reducible refine (spec_Set.calls k _ _ l0 t235 _ ?side1 ?side2 A3.out).mono ?_); (case side1 => repeat (first | exact HR0.out | (with_reducible refine Kd.C_alloc ?_ _) | (with_reducible refine Kd.C_drewN ?_ _) | (with_reducible refine Kd.C_drew ?_))); (case side2 => exact HC0.out); rintro e w15 ⟨v236, rfl, ho0, hb⟩; have n0_ := Aside0.mk (Kd.R_lower ho0 (below_size (by repeat (first | (with_reducible first | exact HB.out | apply below_alloc | apply pw_below_drewN | apply below_drew1) | exact HB.out)))); have n1_ := Aside0.mk (below_step (by repeat (first | (with_reducible first | exact HB.out | apply below_alloc | apply pw_below_drewN | apply below_drew1) | exact HB.out)) hb); clear HB; have HO237 := n0_; have HB := n1_; clear n0_ n1_; (try clear hb); (try clear hb2); (try clear hk); (try clear hi); (try clear ho0)) | (go_at_call 29; (with_reducible refine (spec_Set.calls k _ _ l1 t238 _ ?side1 ?side2 A4.out).mono ?_); (case side1 => repeat (first | exact (Kd.C_below HR1.out HB.out) | (with_reducible refine Kd.C_alloc ?_ _) | (with_reducible refine Kd.C_drewN ?_ _) | (with_reducible refine Kd.C_drew ?_))); (case side2 => exact HC1.out); rintro e w16 ⟨v239, rfl, ho0, hb⟩; have n0_ := Aside0.mk (Kd.R_elder' (by (with_reducible repeat (first | apply Kd.R_alloc | apply Kd.R_drewN | apply Kd.R_drew)); exact HO237.out) (Kd.R_base ho0) hb); have n1_ := Aside0.mk (Kd.R_lower (Kd.R_new' ho0 (Kd.R_lt (by (with_reducible repeat (first | apply Kd.R_alloc | apply Kd.R_drewN | apply Kd.R_drew)); exact HO237.out))) (below_size (by repeat (first | (with_reducible first | exact HB.out | apply below_alloc | apply pw_below_drewN | apply below_drew1) | exact HB.out)))); have n2_ := Aside0.mk (below_step (by repeat (first | (with_reducible first | exact HB.out | apply below_alloc | apply pw_below_drewN | apply below_drew1) | exact HB.out)) hb); clear HO237; clear HB; have HO237 := n0_; have HO240 := n1_; have HB := n2_; clear n0_ n1_ n2_; (try clear hb); (try clear hb2); (try clear hk); (try clear hi); (try clear ho0); obtain ⟨Ao17, co17, eo17⟩ := Kd.R_slice HO237.out; subst eo17; obtain ⟨Ao18, co18, eo18⟩ := Kd.R_slice HO240.out; subst eo18))
    repeat (go_quiet (first | (go_at_call 29; (with_reducible refine (spec_Set.calls k _ _ l0 t235 _ ?side1 ?side2 A3.out).mono ?_); (case side1 => repeat (first | exact HR0.out | (with_reducible refine Kd.C_alloc ?_ _) | (with_reducible refine Kd.C_drewN ?_ _) | (with_reducible refine Kd.C_drew ?_))); (case side2 => exact HC0.out); rintro e w15 ⟨v236, rfl, ho0, hb⟩; have n0_ := Aside0.mk (Kd.R_lower ho0 (below_size (by repeat (first | (with_reducible first | exact HB.out | apply below_alloc | apply pw_below_drewN | apply below_drew1) | exact HB.out)))); have n1_ := Aside0.mk (below_step (by repeat (first | (with_reducible first | exact HB.out | apply below_alloc | apply pw_below_drewN | apply below_drew1) | exact HB.out)) hb); clear HB; have HO237 := n0_; have HB := n1_; clear n0_ n1_; (try clear hb); (try clear hb2); (try clear hk); (try clear hi); (try clear ho0)) | (go_at_call 29; (with_reducible refine (spec_Set.calls k _ _ l1 t238 _ ?side1 ?side2 A4.out).mono ?_); (case side1 => repeat (first | exact (Kd.C_below HR1.out HB.out) | (with_reducible refine Kd.C_alloc ?_ _) | (with_reducible refine Kd.C_drewN ?_ _) | (with_reducible refine Kd.C_drew ?_))); (case side2 => exact HC1.out); rintro e w16 ⟨v239, rfl, ho0, hb⟩; have n0_ := Aside0.mk (Kd.R_elder' (by (with_reducible repeat (first | apply Kd.R_alloc | apply Kd.R_drewN | apply Kd.R_drew)); exact HO237.out) (Kd.R_base ho0) hb); have n1_ := Aside0.mk (Kd.R_lower (Kd.R_new' ho0 (Kd.R_lt (by (with_reducible repeat (first | apply Kd.R_alloc | apply Kd.R_drewN | apply Kd.R_drew)); exact HO237.out))) (below_size (by repeat (first | (with_reducible first | exact HB.out | apply below_alloc | apply pw_below_drewN | apply below_drew1) | exact HB.out)))); have n2_ := Aside0.mk (below_step (by repeat (first | (with_reducible first | exact HB.out | apply below_alloc | apply pw_below_drewN | apply below_drew1) | exact HB.out)) hb); clear HO237; clear HB; have HO237 := n0_; have HO240 := n1_; have HB := n2_; clear n0_ n1_ n2_; (try clear hb); (try clear hb2); (try clear hk); (try clear hi); (try clear ho0); obtain ⟨Ao17, co17, eo17⟩ := Kd.R_slice HO237.out; subst eo17; obtain ⟨Ao18, co18, eo18⟩ := Kd.R_slice HO240.out; subst eo18)); try go_wp2_with (first | (go_at_call 29; (with_reducible refine (spec_Set.calls k _ _ l0 t235 _ ?side1 ?side2 A3.out).mono ?_); (case side1 => repeat (first | exact HR0.out | (with_reducible refine Kd.C_alloc ?_ _) | (with_reducible refine Kd.C_drewN ?_ _) | (with_reducible refine Kd.C_drew ?_))); (case side2 => exact HC0.out); rintro e w15 ⟨v236, rfl, ho0, hb⟩; have n0_ := Aside0.mk (Kd.R_lower ho0 (below_size (by repeat (first | (with_reducible first | exact HB.out | apply below_alloc | apply pw_below_drewN | apply below_drew1) | exact HB.out)))); have n1_ := Aside0.mk (below_step (by repeat (first | (with_reducible first | exact HB.out | apply below_alloc | apply pw_below_drewN | apply below_drew1) | exact HB.out)) hb); clear HB; have HO237 := n0_; have HB := n1_; clear n0_ n1_; (try clear hb); (try clear hb2); (try clear hk); (try clear hi); (try clear ho0)) | (go_at_call 29; (with_reducible refine (spec_Set.calls k _ _ l1 t238 _ ?side1 ?side2 A4.out).mono ?_); (case side1 => repeat (first | exact (Kd.C_below HR1.out HB.out) | (with_reducible refine Kd.C_alloc ?_ _) | (with_reducible refine Kd.C_drewN ?_ _) | (with_reducible refine Kd.C_drew ?_))); (case side2 => exact HC1.out); rintro e w16 ⟨v239, rfl, ho0, hb⟩; have n0_ := Aside0.mk (Kd.R_elder' (by (with_reducible repeat (first | apply Kd.R_alloc | apply Kd.R_drewN | apply Kd.R_drew)); exact HO237.out) (Kd.R_base ho0) hb); have n1_ := Aside0.mk (Kd.R_lower (Kd.R_new' ho0 (Kd.R_lt (by (with_reducible repeat (first | apply Kd.R_alloc | apply Kd.R_drewN | apply Kd.R_drew)); exact HO237.out))) (below_size (by repeat (first | (with_reducible first | exact HB.out | apply below_alloc | apply pw_below_drewN | apply below_drew1) | exact HB.out)))); have n2_ := Aside0.mk (below_step (by repeat (first | (with_reducible first | exact HB.out | apply below_alloc | apply pw_below_drewN | apply below_drew1) | exact HB.out)) hb); clear HO237; clear HB; have HO237 := n0_; have HO240 := n1_; have HB := n2_; clear n0_ n1_ n2_; (try clear hb); (try clear hb2); (try clear hk); (try clear hi); (try clear ho0); obtain ⟨Ao17, co17, eo17⟩ := Kd.R_slice HO237.out; subst eo17; obtain ⟨Ao18, co18, eo18⟩ := Kd.R_slice HO240.out; subst eo18)))
    go_ret
    exact ⟨by first | rfl | (simp [errW_none, errW_some] <;> rfl) | (simp [*, errW_none, errW_some] <;> rfl), by repeat (first | (with_reducible first | exact HB.out | apply below_alloc | apply pw_below_drewN | apply below_drew1) | exact HB.out)⟩

/-! ### laws_FnSetEqual: function 4 -/
mutual
def laws_FnSetEqual.j0 : Nat → List (S48) → List (S48) → Bool → Option (Bool)
  | 0, _, _, _ => none
  | k + 1, x0, x1, x12 => if x12 = true then (some true) else ((laws_much.f x0).bind fun t245 => (if t245 = true then (laws_FnSetEqual.j1 k x0 x1 true) else ((laws_much.f x1).bind fun t246 => (laws_FnSetEqual.j1 k x0 x1 t246))))
def laws_FnSetEqual.j1 : Nat → List (S48) → List (S48) → Bool → Option (Bool)
  | 0, _, _, _ => none
  | k + 1, x0, x1, x18 => if x18 = true then (some true) else ((impl_SetEqual.f x0 x1).bind fun t247 => ((laws_eqSets.f k x0 x1).bind fun t248 => (if (t247 == t248) = true then ((impl_SetEqual.f x0 x1).bind fun t249 => ((laws_pairs.f k x0).bind fun t250 => ((laws_pairs.f k x1).bind fun t253 => ((spec_SetEqual.f k t250 t253).bind fun t256 => (if (t249 == t256) = true then ((impl_SetEqual.f x0 x0).bind fun t257 => (some t257)) else (some false)))))) else (some false))))
end
def laws_FnSetEqual.f (k : Nat) (l0 : List (S48)) (l1 : List (S48)) : Option (Bool) := (laws_zzFits1.f k l0).bind fun t243 => (if t243 = true then ((laws_zzFits1.f k l1).bind fun t244 => (laws_FnSetEqual.j0 k l0 l1 (!t244))) else (laws_FnSetEqual.j0 k l0 l1 true))
theorem laws_FnSetEqual.mono_l : ∀ k, (∀ y0 y1 y2, LeO (laws_FnSetEqual.j0 k y0 y1 y2) (laws_FnSetEqual.j0 (k + 1) y0 y1 y2)) ∧ (∀ y0 y1 y2, LeO (laws_FnSetEqual.j1 k y0 y1 y2) (laws_FnSetEqual.j1 (k + 1) y0 y1 y2))
  | 0 => ⟨fun _ _ _ r h => by simp [laws_FnSetEqual.j0] at h, fun _ _ _ r h => by simp [laws_FnSetEqual.j1] at h⟩
  | k + 1 => by
    obtain ⟨ih0, ih1⟩ := laws_FnSetEqual.mono_l k
    refine ⟨?_, ?_⟩
    · intro y0 y1 y2
      unfold laws_FnSetEqual.j0
      repeat' first
      | (with_reducible exact ih0 _ _ _)
      | (with_reducible exact ih1 _ _ _)
      | (with_reducible exact laws_eqSets.mono _ _ _)
      | (with_reducible exact laws_pairs.mono _ _)
      | (with_reducible exact laws_zzFits1.mono _ _)
      | (with_reducible exact spec_SetEqual.mono _ _ _)
      | (with_reducible exact LeO.refl _)
      | (with_reducible exact LeO.none _)
      | (with_reducible refine LeO.ite ?_ ?_)
      | (with_reducible refine LeO.bind ?_ (fun _ => ?_))
      | exact ih0 _ _ _
      | exact ih1 _ _ _
      | exact laws_eqSets.mono _ _ _
      | exact laws_pairs.mono _ _
      | exact laws_zzFits1.mono _ _
      | exact spec_SetEqual.mono _ _ _
      | exact LeO.none _
      | refine LeO.ite ?_ ?_
      | refine LeO.bind ?_ (fun _ => ?_)
    · intro y0 y1 y2
      unfold laws_FnSetEqual.j1
      repeat' first
      | (with_reducible exact ih0 _ _ _)
      | (with_reducible exact ih1 _ _ _)
      | (with_reducible exact laws_eqSets.mono _ _ _)
      | (with_reducible exact laws_pairs.mono _ _)
      | (with_reducible exact laws_zzFits1.mono _ _)
      | (with_reducible exact spec_SetEqual.mono _ _ _)
      | (with_reducible exact LeO.refl _)
      | (with_reducible exact LeO.none _)
      | (with_reducible refine LeO.ite ?_ ?_)
      | (with_reducible refine LeO.bind ?_ (fun _ => ?_))
      | exact ih0 _ _ _
      | exact ih1 _ _ _
      | exact laws_eqSets.mono _ _ _
      | exact laws_pairs.mono _ _
      | exact laws_zzFits1.mono _ _
      | exact spec_SetEqual.mono _ _ _
      | exact LeO.none _
      | refine LeO.ite ?_ ?_
      | refine LeO.bind ?_ (fun _ => ?_)
theorem laws_FnSetEqual.mono : ∀ a0 a1 k, LeO (laws_FnSetEqual.f k a0 a1) (laws_FnSetEqual.f (k + 1) a0 a1) := by
  intro a0 a1 k
  obtain ⟨ih0, ih1⟩ := laws_FnSetEqual.mono_l k
  unfold laws_FnSetEqual.f
  repeat' first
      | (with_reducible exact ih0 _ _ _)
      | (with_reducible exact ih1 _ _ _)
      | (with_reducible exact laws_eqSets.mono _ _ _)
      | (with_reducible exact laws_pairs.mono _ _)
      | (with_reducible exact laws_zzFits1.mono _ _)
      | (with_reducible exact spec_SetEqual.mono _ _ _)
      | (with_reducible exact LeO.refl _)
      | (with_reducible exact LeO.none _)
      | (with_reducible refine LeO.ite ?_ ?_)
      | (with_reducible refine LeO.bind ?_ (fun _ => ?_))
      | exact ih0 _ _ _
      | exact ih1 _ _ _
      | exact laws_eqSets.mono _ _ _
      | exact laws_pairs.mono _ _
      | exact laws_zzFits1.mono _ _
      | exact spec_SetEqual.mono _ _ _
      | exact LeO.none _
      | refine LeO.ite ?_ ?_
      | refine LeO.bind ?_ (fun _ => ?_)
set_option maxHeartbeats 8000000 in
set_option maxRecDepth 100000 in
theorem laws_FnSetEqual.calls (k : Nat) (A0 : Option Addr) (c0 : Nat) (l0 : List (S48)) (A1 : Option Addr) (c1 : Nat) (l1 : List (S48)) (r : Bool) (w : World) (hr0 : Kd.C k48 w A0 l0.length l0) (hc0 : l0.length ≤ c0) (hr1 : Kd.C k48 w A1 l1.length l1) (hc1 : l1.length ≤ c1) (h : laws_FnSetEqual.f k l0 l1 = some r) :
    Calls Try.prog 4 #[.slice A0 l0.length c0, .slice A1 l1.length c1] w fun e w' => e = .returned (.bool r) ∧ Below w.heap.size w w' := by
  have HR0 := Aside0.mk hr0
  have HC0 := Aside0.mk hc0
  clear hr0 hc0
  have HR1 := Aside0.mk hr1
  have HC1 := Aside0.mk hc1
  clear hr1 hc1
  have HB := Aside0.mk (Below.refl w.heap.size w)
  have H : ((laws_zzFits1.f k l0).bind fun t243 => (if t243 = true then ((laws_zzFits1.f k l1).bind fun t244 => (laws_FnSetEqual.j0 k l0 l1 (!t244))) else (laws_FnSetEqual.j0 k l0 l1 true))) = some r := h
  clear h
  have HC3 := Aside0.mk H
  clear H
  go_enter Try.func4, Try.ntmps4
  go_upto_region 1 with (fail)
  go_cut [12] (fun v12 wc => ∃ (kq : Nat) (x12_2 : Bool), v12 = .bool x12_2 ∧ Aside0 (laws_FnSetEqual.j0 kq l0 l1 x12_2 = some r) ∧ Aside0 (kq ≤ k) ∧ Aside0 (Below w.heap.size w wc))
  case first =>
    have H := HC3.out
    clear HC3
    replace H := Option.bind_eq_some_iff.mp H
    obtain ⟨t243, A40, H⟩ := H
    replace H : (if t243 = true then ((laws_zzFits1.f k l1).bind fun t244 => (laws_FnSetEqual.j0 k l0 l1 (!t244))) else (laws_FnSetEqual.j0 k l0 l1 true)) = some r := H
    have A4 := Aside0.mk A40
    clear A40
    by_cases c5 : t243 = true
    · subst c5
      have H1 : ((laws_zzFits1.f k l1).bind fun t244 => (laws_FnSetEqual.j0 k l0 l1 (!t244))) = some r := by rw [if_pos rfl] at H; exact H
      clear H
      have H := H1
      clear H1
      replace H := Option.bind_eq_some_iff.mp H
      obtain ⟨t244, A60, H⟩ := H
      replace H : (laws_FnSetEqual.j0 k l0 l1 (!t244)) = some r := H
      have A6 := Aside0.mk A60
      clear A60
      have H' := Aside0.mk H
      clear H
      go_wp2_with (first | ((with_reducible refine gate_callee (f := 15) rfl ?_); refine goesL_ (some 6) rfl rfl Try.func15 (by kernel_rfl) rfl #[.slice A0 l0.length c0] rfl (by (try simp only [List.map_toArray, List.map_cons, List.map_nil]); first | done | rfl | (simp only [List.length_drop, List.length_take]; rfl)) ?_; (with_reducible refine (laws_zzFits1.calls k _ _ l0 true _ ?side1 ?side2 A4.out).mono ?_); (case side1 => repeat (first | exact (Kd.C_below HR0.out HB.out) | (with_reducible refine Kd.C_alloc ?_ _) | (with_reducible refine Kd.C_drewN ?_ _) | (with_reducible refine Kd.C_drew ?_))); (case side2 => exact HC0.out); rintro e w7 ⟨rfl, hb⟩; refine ⟨_, rfl, ?_⟩; have n0_ := Aside0.mk (below_step (by repeat (first | (with_reducible first | exact HB.out | apply below_alloc | apply pw_below_drewN | apply below_drew1) | exact HB.out)) hb); clear HB; have HB := n0_; clear n0_; (try clear hb); (try clear hb2); (try clear hk); (try clear hi)) | (go_at_call 15; (with_reducible refine (laws_zzFits1.calls k _ _ l1 t244 _ ?side1 ?side2 A6.out).mono ?_); (case side1 => repeat (first | exact (Kd.C_below HR1.out HB.out) | (with_reducible refine Kd.C_alloc ?_ _) | (with_reducible refine Kd.C_drewN ?_ _) | (with_reducible refine Kd.C_drew ?_))); (case side2 => exact HC1.out); rintro e w8 ⟨rfl, hb⟩; have n0_ := Aside0.mk (below_step (by repeat (first | (with_reducible first | exact HB.out | apply below_alloc | apply pw_below_drewN | apply below_drew1) | exact HB.out)) hb); clear HB; have HB := n0_; clear n0_; (try clear hb); (try clear hb2); (try clear hk); (try clear hi)))
      go_meet
      case rel => exact ⟨_, (!t244), (by first | rfl | (simp; done) | (simp [*]; done)), H', ⟨by first | omega | exact Nat.le_refl _⟩, ⟨by repeat (first | (with_reducible first | exact HB.out | apply below_alloc | apply pw_below_drewN | apply below_drew1) | exact HB.out)⟩⟩
    · replace c5 := Bool.eq_false_iff.mpr c5
      subst c5
      have H1 : (laws_FnSetEqual.j0 k l0 l1 true) = some r := by rw [if_neg (show ¬ (false = true) by decide)] at H; exact H
      clear H
      have H := H1
      clear H1
      have H' := Aside0.mk H
      clear H
      go_wp2_with (first | ((with_reducible refine gate_callee (f := 15) rfl ?_); refine goesL_ (some 6) rfl rfl Try.func15 (by kernel_rfl) rfl #[.slice A0 l0.length c0] rfl (by (try simp only [List.map_toArray, List.map_cons, List.map_nil]); first | done | rfl | (simp only [List.length_drop, List.length_take]; rfl)) ?_; (with_reducible refine (laws_zzFits1.calls k _ _ l0 false _ ?side1 ?side2 A4.out).mono ?_); (case side1 => repeat (first | exact (Kd.C_below HR0.out HB.out) | (with_reducible refine Kd.C_alloc ?_ _) | (with_reducible refine Kd.C_drewN ?_ _) | (with_reducible refine Kd.C_drew ?_))); (case side2 => exact HC0.out); rintro e w9 ⟨rfl, hb⟩; refine ⟨_, rfl, ?_⟩; have n0_ := Aside0.mk (below_step (by repeat (first | (with_reducible first | exact HB.out | apply below_alloc | apply pw_below_drewN | apply below_drew1) | exact HB.out)) hb); clear HB; have HB := n0_; clear n0_; (try clear hb); (try clear hb2); (try clear hk); (try clear hi)))
      go_meet
      case rel => exact ⟨_, (true), (by first | rfl | (simp; done) | (simp [*]; done)), H', ⟨by first | omega | exact Nat.le_refl _⟩, ⟨by repeat (first | (with_reducible first | exact HB.out | apply below_alloc | apply pw_below_drewN | apply below_drew1) | exact HB.out)⟩⟩
  case rest =>
    clear HC3
    try clear c1
    try clear p2
    try clear c4
    try clear c5
    obtain ⟨kq, x12_2, rfl, HA, HJ2, HB⟩ := hcut
    cases kq with
    | zero => exact absurd HA.out (by simp [laws_FnSetEqual.j0])
    | succ kj2 =>
      have H := HA.out
      clear HA
      simp only [laws_FnSetEqual.j0] at H
      by_cases c10 : x12_2 = true
      · subst c10
        have H1 : (some true) = some r := by rw [if_pos rfl] at H; exact H
        clear H
        have H := H1
        clear H1
        obtain rfl := Option.some.inj H
        go_wp2
        go_ret
        exact ⟨by first | rfl | (simp [errW_none, errW_some] <;> rfl) | (simp [*, errW_none, errW_some] <;> rfl), by repeat (first | (with_reducible first | exact HB.out | apply below_alloc | apply pw_below_drewN | apply below_drew1) | exact HB.out)⟩
      · replace c10 := Bool.eq_false_iff.mpr c10
        subst c10
        have H1 : ((laws_much.f l0).bind fun t245 => (if t245 = true then (laws_FnSetEqual.j1 kj2 l0 l1 true) else ((laws_much.f l1).bind fun t246 => (laws_FnSetEqual.j1 kj2 l0 l1 t246)))) = some r := by rw [if_neg (show ¬ (false = true) by decide)] at H; exact H
        clear H
        have H := H1
        clear H1
        have HC11 := Aside0.mk H
        clear H
        go_upto_region 3 with (fail)
        go_cut [18] (fun v18 wc => ∃ (kq : Nat) (x18_10 : Bool), v18 = .bool x18_10 ∧ Aside0 (laws_FnSetEqual.j1 kq l0 l1 x18_10 = some r) ∧ Aside0 (kq ≤ kj2) ∧ Aside0 (Below w.heap.size w wc))
        case first =>
          have H := HC11.out
          clear HC11
          replace H := Option.bind_eq_some_iff.mp H
          obtain ⟨t245, A120, H⟩ := H
          replace H : (if t245 = true then (laws_FnSetEqual.j1 kj2 l0 l1 true) else ((laws_much.f l1).bind fun t246 => (laws_FnSetEqual.j1 kj2 l0 l1 t246))) = some r := H
          have A12 := Aside0.mk A120
          clear A120
          by_cases c13 : t245 = true
          · subst c13
            have H1 : (laws_FnSetEqual.j1 kj2 l0 l1 true) = some r := by rw [if_pos rfl] at H; exact H
            clear H
            have H := H1
            clear H1
            have H' := Aside0.mk H
            clear H
            go_wp2_with (first | ((with_reducible refine gate_callee (f := 16) rfl ?_); refine goesL_ (some 14) rfl rfl Try.func16 (by kernel_rfl) rfl #[.slice A0 l0.length c0] rfl (by (try simp only [List.map_toArray, List.map_cons, List.map_nil]); first | done | rfl | (simp only [List.length_drop, List.length_take]; rfl)) ?_; (with_reducible refine (laws_much.calls _ _ l0 true _ ?side1 ?side2 A12.out).mono ?_); (case side1 => repeat (first | exact (Kd.C_below HR0.out HB.out) | (with_reducible refine Kd.C_alloc ?_ _) | (with_reducible refine Kd.C_drewN ?_ _) | (with_reducible refine Kd.C_drew ?_))); (case side2 => exact HC0.out); rintro e w' ⟨rfl, ⟨nd, rfl⟩⟩; refine ⟨_, rfl, ?_⟩))
            go_meet
            case rel => exact ⟨_, (true), (by first | rfl | (simp; done) | (simp [*]; done)), H', ⟨by have := HJ2.out; first | omega | exact Nat.le_refl _⟩, ⟨by repeat (first | (with_reducible first | exact HB.out | apply below_alloc | apply pw_below_drewN | apply below_drew1) | exact HB.out)⟩⟩
          · replace c13 := Bool.eq_false_iff.mpr c13
            subst c13
            have H1 : ((laws_much.f l1).bind fun t246 => (laws_FnSetEqual.j1 kj2 l0 l1 t246)) = some r := by rw [if_neg (show ¬ (false = true) by decide)] at H; exact H
            clear H
            have H := H1
            clear H1
            replace H := Option.bind_eq_some_iff.mp H
            obtain ⟨t246, A140, H⟩ := H
            replace H : (laws_FnSetEqual.j1 kj2 l0 l1 t246) = some r := H
            have A14 := Aside0.mk A140
            clear A140
            have H' := Aside0.mk H
            clear H
            go_wp2_with (first | ((with_reducible refine gate_callee (f := 16) rfl ?_); refine goesL_ (some 14) rfl rfl Try.func16 (by kernel_rfl) rfl #[.slice A0 l0.length c0] rfl (by (try simp only [List.map_toArray, List.map_cons, List.map_nil]); first | done | rfl | (simp only [List.length_drop, List.length_take]; rfl)) ?_; (with_reducible refine (laws_much.calls _ _ l0 false _ ?side1 ?side2 A12.out).mono ?_); (case side1 => repeat (first | exact (Kd.C_below HR0.out HB.out) | (with_reducible refine Kd.C_alloc ?_ _) | (with_reducible refine Kd.C_drewN ?_ _) | (with_reducible refine Kd.C_drew ?_))); (case side2 => exact HC0.out); rintro e w' ⟨rfl, ⟨nd, rfl⟩⟩; refine ⟨_, rfl, ?_⟩) | (go_at_call 16; (with_reducible refine (laws_much.calls _ _ l1 t246 _ ?side1 ?side2 A14.out).mono ?_); (case side1 => repeat (first | exact (Kd.C_below HR1.out (by repeat (first | (with_reducible first | exact HB.out | apply below_alloc | apply pw_below_drewN | apply below_drew1) | exact HB.out))) | (with_reducible refine Kd.C_alloc ?_ _) | (with_reducible refine Kd.C_drewN ?_ _) | (with_reducible refine Kd.C_drew ?_))); (case side2 => exact HC1.out); rintro e w' ⟨rfl, ⟨nd, rfl⟩⟩))
            go_meet
            case rel => exact ⟨_, (t246), (by first | rfl | (simp; done) | (simp [*]; done)), H', ⟨by have := HJ2.out; first | omega | exact Nat.le_refl _⟩, ⟨by repeat (first | (with_reducible first | exact HB.out | apply below_alloc | apply pw_below_drewN | apply below_drew1) | exact HB.out)⟩⟩
        case rest =>
          clear HC11
          try clear c1
          try clear p2
          try clear c4
          try clear c5
          try clear c10
          try clear c13
          try clear p2
          obtain ⟨kq, x18_10, rfl, HA, HJ10, HB⟩ := hcut
          cases kq with
          | zero => exact absurd HA.out (by simp [laws_FnSetEqual.j1])
          | succ kj10 =>
            have H := HA.out
            clear HA
            simp only [laws_FnSetEqual.j1] at H
            by_cases c15 : x18_10 = true
            · subst c15
              have H1 : (some true) = some r := by rw [if_pos rfl] at H; exact H
              clear H
              have H := H1
              clear H1
              obtain rfl := Option.some.inj H
              go_wp2
              go_ret
              exact ⟨by first | rfl | (simp [errW_none, errW_some] <;> rfl) | (simp [*, errW_none, errW_some] <;> rfl), by repeat (first | (with_reducible first | exact HB.out | apply below_alloc | apply pw_below_drewN | apply below_drew1) | exact HB.out)⟩
            · replace c15 := Bool.eq_false_iff.mpr c15
              subst c15
              have H1 : ((impl_SetEqual.f l0 l1).bind fun t247 => ((laws_eqSets.f kj10 l0 l1).bind fun t248 => (if (t247 == t248) = true then ((impl_SetEqual.f l0 l1).bind fun t249 => ((laws_pairs.f kj10 l0).bind fun t250 => ((laws_pairs.f kj10 l1).bind fun t253 => ((spec_SetEqual.f kj10 t250 t253).bind fun t256 => (if (t249 == t256) = true then ((impl_SetEqual.f l0 l0).bind fun t257 => (some t257)) else (some false)))))) else (some false)))) = some r := by rw [if_neg (show ¬ (false = true) by decide)] at H; exact H
              clear H
              have H := H1
              clear H1
              replace H := Option.bind_eq_some_iff.mp H
              obtain ⟨t247, A160, H⟩ := H
              replace H : ((laws_eqSets.f kj10 l0 l1).bind fun t248 => (if (t247 == t248) = true then ((impl_SetEqual.f l0 l1).bind fun t249 => ((laws_pairs.f kj10 l0).bind fun t250 => ((laws_pairs.f kj10 l1).bind fun t253 => ((spec_SetEqual.f kj10 t250 t253).bind fun t256 => (if (t249 == t256) = true then ((impl_SetEqual.f l0 l0).bind fun t257 => (some t257)) else (some false)))))) else (some false))) = some r := H
              have A16 := Aside0.mk A160
              clear A160
              replace H := Option.bind_eq_some_iff.mp H
              obtain ⟨t248, A170, H⟩ := H
              replace H : (if (t247 == t248) = true then ((impl_SetEqual.f l0 l1).bind fun t249 => ((laws_pairs.f kj10 l0).bind fun t250 => ((laws_pairs.f kj10 l1).bind fun t253 => ((spec_SetEqual.f kj10 t250 t253).bind fun t256 => (if (t249 == t256) = true then ((impl_SetEqual.f l0 l0).bind fun t257 => (some t257)) else (some false)))))) else (some false)) = some r := H
              have A17 := Aside0.mk A170
              clear A170
              by_cases c18 : (t247 == t248) = true
              · rw [if_pos c18] at H
                have c18b0 : (t247 == t248) = true := c18
                (try (have c18b1 : decide (t247 = t248) = true := by simpa using c18))
                (try (have c18b2 : (t247 == t248) = true := by simpa using c18))
                clear c18
                replace H := Option.bind_eq_some_iff.mp H
                obtain ⟨t249, A190, H⟩ := H
                replace H : ((laws_pairs.f kj10 l0).bind fun t250 => ((laws_pairs.f kj10 l1).bind fun t253 => ((spec_SetEqual.f kj10 t250 t253).bind fun t256 => (if (t249 == t256) = true then ((impl_SetEqual.f l0 l0).bind fun t257 => (some t257)) else (some false))))) = some r := H
                have A19 := Aside0.mk A190
                clear A190
                replace H := Option.bind_eq_some_iff.mp H
                obtain ⟨t250, A200, H⟩ := H
                replace H : ((laws_pairs.f kj10 l1).bind fun t253 => ((spec_SetEqual.f kj10 t250 t253).bind fun t256 => (if (t249 == t256) = true then ((impl_SetEqual.f l0 l0).bind fun t257 => (some t257)) else (some false)))) = some r := H
                have A20 := Aside0.mk A200
                clear A200
                replace H := Option.bind_eq_some_iff.mp H
                obtain ⟨t253, A210, H⟩ := H
                replace H : ((spec_SetEqual.f kj10 t250 t253).bind fun t256 => (if (t249 == t256) = true then ((impl_SetEqual.f l0 l0).bind fun t257 => (some t257)) else (some false))) = some r := H
                have A21 := Aside0.mk A210
                clear A210
                replace H := Option.bind_eq_some_iff.mp H
                obtain ⟨t256, A220, H⟩ := H
                replace H : (if (t249 == t256) = true then ((impl_SetEqual.f l0 l0).bind fun t257 => (some t257)) else (some false)) = some r := H
                have A22 := Aside0.mk A220
                clear A220
                by_cases c23 : (t249 == t256) = true
                · rw [if_pos c23] at H
                  have c23b0 : (t249 == t256) = true := c23
                  (try (have c23b1 : decide (t249 = t256) = true := by simpa using c23))
                  (try (have c23b2 : (t249 == t256) = true := by simpa using c23))
                  clear c23
                  replace H := Option.bind_eq_some_iff.mp H
                  obtain ⟨t257, A240, H⟩ := H
                  replace H : (some t257) = some r := H
                  have A24 := Aside0.mk A240
                  clear A240
                  obtain rfl := Option.some.inj H
                  go_wp2_with (first | ((with_reducible refine gate_callee (f := 17) rfl ?_); refine goesL_ (some 21) rfl rfl Try.func17 (by kernel_rfl) rfl #[.slice A0 l0.length c0, .slice A1 l1.length c1] rfl (by (try simp only [List.map_toArray, List.map_cons, List.map_nil]); first | done | rfl | (simp only [List.length_drop, List.length_take]; rfl)) ?_; (with_reducible refine (impl_SetEqual.calls _ _ l0 _ _ l1 t247 _ ?side1 ?side2 ?side3 ?side4 A16.out).mono ?_); (case side1 => repeat (first | exact (Kd.C_below HR0.out HB.out) | (with_reducible refine Kd.C_alloc ?_ _) | (with_reducible refine Kd.C_drewN ?_ _) | (with_reducible refine Kd.C_drew ?_))); (case side2 => exact HC0.out); (case side3 => repeat (first | exact (Kd.C_below HR1.out HB.out) | (with_reducible refine Kd.C_alloc ?_ _) | (with_reducible refine Kd.C_drewN ?_ _) | (with_reducible refine Kd.C_drew ?_))); (case side4 => exact HC1.out); rintro e w25 ⟨rfl, hb⟩; refine ⟨_, rfl, ?_⟩; have n0_ := Aside0.mk (below_step (by repeat (first | (with_reducible first | exact HB.out | apply below_alloc | apply pw_below_drewN | apply below_drew1) | exact HB.out)) hb); clear HB; have HB := n0_; clear n0_; (try clear hb); (try clear hb2); (try clear hk); (try clear hi)) | ((with_reducible refine gate_callee (f := 18) rfl ?_); refine goesL_ (some 24) rfl rfl Try.func18 (by kernel_rfl) rfl #[.slice A0 l0.length c0, .slice A1 l1.length c1] rfl (by (try simp only [List.map_toArray, List.map_cons, List.map_nil]); first | done | rfl | (simp only [List.length_drop, List.length_take]; rfl)) ?_; (with_reducible refine (laws_eqSets.calls kj10 _ _ l0 _ _ l1 t248 _ ?side1 ?side2 ?side3 ?side4 A17.out).mono ?_); (case side1 => repeat (first | exact (Kd.C_below HR0.out HB.out) | (with_reducible refine Kd.C_alloc ?_ _) | (with_reducible refine Kd.C_drewN ?_ _) | (with_reducible refine Kd.C_drew ?_))); (case side2 => exact HC0.out); (case side3 => repeat (first | exact (Kd.C_below HR1.out HB.out) | (with_reducible refine Kd.C_alloc ?_ _) | (with_reducible refine Kd.C_drewN ?_ _) | (with_reducible refine Kd.C_drew ?_))); (case side4 => exact HC1.out); rintro e w26 ⟨rfl, hb⟩; refine ⟨_, rfl, ?_⟩; have n0_ := Aside0.mk (below_step (by repeat (first | (with_reducible first | exact HB.out | apply below_alloc | apply pw_below_drewN | apply below_drew1) | exact HB.out)) hb); clear HB; have HB := n0_; clear n0_; (try clear hb); (try clear hb2); (try clear hk); (try clear hi)) | (go_at_call 17; (with_reducible refine (impl_SetEqual.calls _ _ l0 _ _ l1 t249 _ ?side1 ?side2 ?side3 ?side4 A19.out).mono ?_); (case side1 => repeat (first | exact (Kd.C_below HR0.out HB.out) | (with_reducible refine Kd.C_alloc ?_ _) | (with_reducible refine Kd.C_drewN ?_ _) | (with_reducible refine Kd.C_drew ?_))); (case side2 => exact HC0.out); (case side3 => repeat (first | exact (Kd.C_below HR1.out HB.out) | (with_reducible refine Kd.C_alloc ?_ _) | (with_reducible refine Kd.C_drewN ?_ _) | (with_reducible refine Kd.C_drew ?_))); (case side4 => exact HC1.out); rintro e w27 ⟨rfl, hb⟩; have n0_ := Aside0.mk (below_step (by repeat (first | (with_reducible first | exact HB.out | apply below_alloc | apply pw_below_drewN | apply below_drew1) | exact HB.out)) hb); clear HB; have HB := n0_; clear n0_; (try clear hb); (try clear hb2); (try clear hk); (try clear hi)) | (go_at_call 20; (with_reducible refine (laws_pairs.calls kj10 _ _ l0 t250 _ ?side1 ?side2 A20.out).mono ?_); (case side1 => repeat (first | exact (Kd.C_below HR0.out HB.out) | (with_reducible refine Kd.C_alloc ?_ _) | (with_reducible refine Kd.C_drewN ?_ _) | (with_reducible refine Kd.C_drew ?_))); (case side2 => exact HC0.out); rintro e w28 ⟨v251, rfl, ho0, hb⟩; have n0_ := Aside0.mk (Kd.R_lower ho0 (below_size (by repeat (first | (with_reducible first | exact HB.out | apply below_alloc | apply pw_below_drewN | apply below_drew1) | exact HB.out)))); have n1_ := Aside0.mk (below_step (by repeat (first | (with_reducible first | exact HB.out | apply below_alloc | apply pw_below_drewN | apply below_drew1) | exact HB.out)) hb); clear HB; have HO252 := n0_; have HB := n1_; clear n0_ n1_; (try clear hb); (try clear hb2); (try clear hk); (try clear hi); (try clear ho0)) | (go_at_call 20; (with_reducible refine (laws_pairs.calls kj10 _ _ l1 t253 _ ?side1 ?side2 A21.out).mono ?_); (case side1 => repeat (first | exact (Kd.C_below HR1.out HB.out) | (with_reducible refine Kd.C_alloc ?_ _) | (with_reducible refine Kd.C_drewN ?_ _) | (with_reducible refine Kd.C_drew ?_))); (case side2 => exact HC1.out); rintro e w29 ⟨v254, rfl, ho0, hb⟩; have n0_ := Aside0.mk (Kd.R_elder' (by (with_reducible repeat (first | apply Kd.R_alloc | apply Kd.R_drewN | apply Kd.R_drew)); exact HO252.out) (Kd.R_base ho0) hb); have n1_ := Aside0.mk (Kd.R_lower (Kd.R_new' ho0 (Kd.R_lt (by (with_reducible repeat (first | apply Kd.R_alloc | apply Kd.R_drewN | apply Kd.R_drew)); exact HO252.out))) (below_size (by repeat (first | (with_reducible first | exact HB.out | apply below_alloc | apply pw_below_drewN | apply below_drew1) | exact HB.out)))); have n2_ := Aside0.mk (below_step (by repeat (first | (with_reducible first | exact HB.out | apply below_alloc | apply pw_below_drewN | apply below_drew1) | exact HB.out)) hb); clear HO252; clear HB; have HO252 := n0_; have HO255 := n1_; have HB := n2_; clear n0_ n1_ n2_; (try clear hb); (try clear hb2); (try clear hk); (try clear hi); (try clear ho0); obtain ⟨Ao30, co30, eo30⟩ := Kd.R_slice HO252.out; subst eo30; obtain ⟨Ao31, co31, eo31⟩ := Kd.R_slice HO255.out; subst eo31) | (go_at_call 19; (with_reducible refine (spec_SetEqual.calls kj10 _ _ t250 _ _ t253 t256 _ ?side1 ?side2 ?side3 ?side4 A22.out).mono ?_); (case side1 => repeat (first | exact (Kd.R_reads' HO252.out).2.2 | (with_reducible refine Kd.C_alloc ?_ _) | (with_reducible refine Kd.C_drewN ?_ _) | (with_reducible refine Kd.C_drew ?_))); (case side2 => exact (Kd.R_reads' HO252.out).2.1); (case side3 => repeat (first | exact (Kd.R_reads' HO255.out).2.2 | (with_reducible refine Kd.C_alloc ?_ _) | (with_reducible refine Kd.C_drewN ?_ _) | (with_reducible refine Kd.C_drew ?_))); (case side4 => exact (Kd.R_reads' HO255.out).2.1); rintro e w32 ⟨rfl, hb⟩; have n0_ := Aside0.mk (Kd.R_below (by (with_reducible repeat (first | apply Kd.R_alloc | apply Kd.R_drewN | apply Kd.R_drew)); exact HO252.out) hb); have n1_ := Aside0.mk (Kd.R_below (by (with_reducible repeat (first | apply Kd.R_alloc | apply Kd.R_drewN | apply Kd.R_drew)); exact HO255.out) hb); have n2_ := Aside0.mk (below_step (by repeat (first | (with_reducible first | exact HB.out | apply below_alloc | apply pw_below_drewN | apply below_drew1) | exact HB.out)) hb); clear HO252; clear HO255; clear HB; have HO252 := n0_; have HO255 := n1_; have HB := n2_; clear n0_ n1_ n2_; (try clear hb); (try clear hb2); (try clear hk); (try clear hi)) | (go_at_call 17; (with_reducible refine (impl_SetEqual.calls _ _ l0 _ _ l0 t257 _ ?side1 ?side2 ?side3 ?side4 A24.out).mono ?_); (case side1 => repeat (first | exact (Kd.C_below HR0.out HB.out) | (with_reducible refine Kd.C_alloc ?_ _) | (with_reducible refine Kd.C_drewN ?_ _) | (with_reducible refine Kd.C_drew ?_))); (case side2 => exact HC0.out); (case side3 => repeat (first | exact (Kd.C_below HR0.out HB.out) | (with_reducible refine Kd.C_alloc ?_ _) | (with_reducible refine Kd.C_drewN ?_ _) | (with_reducible refine Kd.C_drew ?_))); (case side4 => exact HC0.out); rintro e w33 ⟨rfl, hb⟩; have n0_ := Aside0.mk (Kd.R_below (by (with_reducible repeat (first | apply Kd.R_alloc | apply Kd.R_drewN | apply Kd.R_drew)); exact HO252.out) hb); have n1_ := Aside0.mk (Kd.R_below (by (with_reducible repeat (first | apply Kd.R_alloc | apply Kd.R_drewN | apply Kd.R_drew)); exact HO255.out) hb); have n2_ := Aside0.mk (below_step (by repeat (first | (with_reducible first | exact HB.out | apply below_alloc | apply pw_below_drewN | apply below_drew1) | exact HB.out)) hb); clear HO252; clear HO255; clear HB; have HO252 := n0_; have HO255 := n1_; have HB := n2_; clear n0_ n1_ n2_; (try clear hb); (try clear hb2); (try clear hk); (try clear hi)))
                  go_ret
                  exact ⟨by first | rfl | (simp [errW_none, errW_some] <;> rfl) | (simp [*, errW_none, errW_some] <;> rfl), by repeat (first | (with_reducible first | exact HB.out | apply below_alloc | apply pw_below_drewN | apply below_drew1) | exact HB.out)⟩
                · rw [if_neg c23] at H
                  have c23b0 : (t249 == t256) = false := by simpa using c23
                  (try (have c23b1 : decide (t249 = t256) = false := by simpa using c23))
                  (try (have c23b2 : (t249 == t256) = false := by simpa using c23))
                  (try (have c23b3 : ¬ (t249 = t256) := by simpa using c23))
                  clear c23
                  obtain rfl := Option.some.inj H
                  go_wp2_with (first | ((with_reducible refine gate_callee (f := 17) rfl ?_); refine goesL_ (some 21) rfl rfl Try.func17 (by kernel_rfl) rfl #[.slice A0 l0.length c0, .slice A1 l1.length c1] rfl (by (try simp only [List.map_toArray, List.map_cons, List.map_nil]); first | done | rfl | (simp only [List.length_drop, List.length_take]; rfl)) ?_; (with_reducible refine (impl_SetEqual.calls _ _ l0 _ _ l1 t247 _ ?side1 ?side2 ?side3 ?side4 A16.out).mono ?_); (case side1 => repeat (first | exact (Kd.C_below HR0.out HB.out) | (with_reducible refine Kd.C_alloc ?_ _) | (with_reducible refine Kd.C_drewN ?_ _) | (with_reducible refine Kd.C_drew ?_))); (case side2 => exact HC0.out); (case side3 => repeat (first | exact (Kd.C_below HR1.out HB.out) | (with_reducible refine Kd.C_alloc ?_ _) | (with_reducible refine Kd.C_drewN ?_ _) | (with_reducible refine Kd.C_drew ?_))); (case side4 => exact HC1.out); rintro e w34 ⟨rfl, hb⟩; refine ⟨_, rfl, ?_⟩; have n0_ := Aside0.mk (below_step (by repeat (first | (with_reducible first | exact HB.out | apply below_alloc | apply pw_below_drewN | apply below_drew1) | exact HB.out)) hb); clear HB; have HB := n0_; clear n0_; (try clear hb); (try clear hb2); (try clear hk); (try clear hi)) | ((with_reducible refine gate_callee (f := 18) rfl ?_); refine goesL_ (some 24) rfl rfl Try.func18 (by kernel_rfl) rfl #[.slice A0 l0.length c0, .slice A1 l1.length c1] rfl (by (try simp only [List.map_toArray, List.map_cons, List.map_nil]); first | done | rfl | (simp only [List.length_drop, List.length_take]; rfl)) ?_; (with_reducible refine (laws_eqSets.calls kj10 _ _ l0 _ _ l1 t248 _ ?side1 ?side2 ?side3 ?side4 A17.out).mono ?_); (case side1 => repeat (first | exact (Kd.C_below HR0.out HB.out) | (with_reducible refine Kd.C_alloc ?_ _) | (with_reducible refine Kd.C_drewN ?_ _) | (with_reducible refine Kd.C_drew ?_))); (case side2 => exact HC0.out); (case side3 => repeat (first | exact (Kd.C_below HR1.out HB.out) | (with_reducible refine Kd.C_alloc ?_ _) | (with_reducible refine Kd.C_drewN ?_ _) | (with_reducible refine Kd.C_drew ?_))); (case side4 => exact HC1.out); rintro e w35 ⟨rfl, hb⟩; refine ⟨_, rfl, ?_⟩; have n0_ := Aside0.mk (below_step (by repeat (first | (with_reducible first | exact HB.out | apply below_alloc | apply pw_below_drewN | apply below_drew1) | exact HB.out)) hb); clear HB; have HB := n0_; clear n0_; (try clear hb); (try clear hb2); (try clear hk); (try clear hi)) | (go_at_call 17; (with_reducible refine (impl_SetEqual.calls _ _ l0 _ _ l1 t249 _ ?side1 ?side2 ?side3 ?side4 A19.out).mono ?_); (case side1 => repeat (first | exact (Kd.C_below HR0.out HB.out) | (with_reducible refine Kd.C_alloc ?_ _) | (with_reducible refine Kd.C_drewN ?_ _) | (with_reducible refine Kd.C_drew ?_))); (case side2 => exact HC0.out); (case side3 => repeat (first | exact (Kd.C_below HR1.out HB.out) | (with_reducible refine Kd.C_alloc ?_ _) | (with_reducible refine Kd.C_drewN ?_ _) | (with_reducible refine Kd.C_drew ?_))); (case side4 => exact HC1.out); rintro e w36 ⟨rfl, hb⟩; have n0_ := Aside0.mk (below_step (by repeat (first | (with_reducible first | exact HB.out | apply below_alloc | apply pw_below_drewN | apply below_drew1) | exact HB.out)) hb); clear HB; have HB := n0_; clear n0_; (try clear hb); (try clear hb2); (try clear hk); (try clear hi)) | (go_at_call 20; (with_reducible refine (laws_pairs.calls kj10 _ _ l0 t250 _ ?side1 ?side2 A20.out).mono ?_); (case side1 => repeat (first | exact (Kd.C_below HR0.out HB.out) | (with_reducible refine Kd.C_alloc ?_ _) | (with_reducible refine Kd.C_drewN ?_ _) | (with_reducible refine Kd.C_drew ?_))); (case side2 => exact HC0.out); rintro e w37 ⟨v251, rfl, ho0, hb⟩; have n0_ := Aside0.mk (Kd.R_lower ho0 (below_size (by repeat (first | (with_reducible first | exact HB.out | apply below_alloc | apply pw_below_drewN | apply below_drew1) | exact HB.out)))); have n1_ := Aside0.mk (below_step (by repeat (first | (with_reducible first | exact HB.out | apply below_alloc | apply pw_below_drewN | apply below_drew1) | exact HB.out)) hb); clear HB; have HO252 := n0_; have HB := n1_; clear n0_ n1_; (try clear hb); (try clear hb2); (try clear hk); (try clear hi); (try clear ho0)) | (go_at_call 20; (with_reducible refine (laws_pairs.calls kj10 _ _ l1 t253 _ ?side1 ?side2 A21.out).mono ?_); (case side1 => repeat (first | exact (Kd.C_below HR1.out HB.out) | (with_reducible refine Kd.C_alloc ?_ _) | (with_reducible refine Kd.C_drewN ?_ _) | (with_reducible refine Kd.C_drew ?_))); (case side2 => exact HC1.out); rintro e w38 ⟨v254, rfl, ho0, hb⟩; have n0_ := Aside0.mk (Kd.R_elder' (by (with_reducible repeat (first | apply Kd.R_alloc | apply Kd.R_drewN | apply Kd.R_drew)); exact HO252.out) (Kd.R_base ho0) hb); have n1_ := Aside0.mk (Kd.R_lower (Kd.R_new' ho0 (Kd.R_lt (by (with_reducible repeat (first | apply Kd.R_alloc | apply Kd.R_drewN | apply Kd.R_drew)); exact HO252.out))) (below_size (by repeat (first | (with_reducible first | exact HB.out | apply below_alloc | apply pw_below_drewN | apply below_drew1) | exact HB.out)))); have n2_ := Aside0.mk (below_step (by repeat (first | (with_reducible first | exact HB.out | apply below_alloc | apply pw_below_drewN | apply below_drew1) | exact HB.out)) hb); clear HO252; clear HB; have HO252 := n0_; have HO255 := n1_; have HB := n2_; clear n0_ n1_ n2_; (try clear hb); (try clear hb2); (try clear hk); (try clear hi); (try clear ho0); obtain ⟨Ao39, co39, eo39⟩ := Kd.R_slice HO252.out; subst eo39; obtain ⟨Ao40, co40, eo40⟩ := Kd.R_slice HO255.out; subst eo40) | (go_at_call 19; (with_reducible refine (spec_SetEqual.calls kj10 _ _ t250 _ _ t253 t256 _ ?side1 ?side2 ?side3 ?side4 A22.out).mono ?_); (case side1 => repeat (first | exact (Kd.R_reads' HO252.out).2.2 | (with_reducible refine Kd.C_alloc ?_ _) | (with_reducible refine Kd.C_drewN ?_ _) | (with_reducible refine Kd.C_drew ?_))); (case side2 => exact (Kd.R_reads' HO252.out).2.1); (case side3 => repeat (first | exact (Kd.R_reads' HO255.out).2.2 | (with_reducible refine Kd.C_alloc ?_ _) | (with_reducible refine Kd.C_drewN ?_ _) | (with_reducible refine Kd.C_drew ?_))); (case side4 => exact (Kd.R_reads' HO255.out).2.1); rintro e w41 ⟨rfl, hb⟩; have n0_ := Aside0.mk (Kd.R_below (by (with_reducible repeat (first | apply Kd.R_alloc | apply Kd.R_drewN | apply Kd.R_drew)); exact HO252.out) hb); have n1_ := Aside0.mk (Kd.R_below (by (with_reducible repeat (first | apply Kd.R_alloc | apply Kd.R_drewN | apply Kd.R_drew)); exact HO255.out) hb); have n2_ := Aside0.mk (below_step (by repeat (first | (with_reducible first | exact HB.out | apply below_alloc | apply pw_below_drewN | apply below_drew1) | exact HB.out)) hb); clear HO252; clear HO255; clear HB; have HO252 := n0_; have HO255 := n1_; have HB := n2_; clear n0_ n1_ n2_; (try clear hb); (try clear hb2); (try clear hk); (try clear hi)))
                  go_ret
                  exact ⟨by first | rfl | (simp [errW_none, errW_some] <;> rfl) | (simp [*, errW_none, errW_some] <;> rfl), by repeat (first | (with_reducible first | exact HB.out | apply below_alloc | apply pw_below_drewN | apply below_drew1) | exact HB.out)⟩
              · rw [if_neg c18] at H
                have c18b0 : (t247 == t248) = false := by simpa using c18
                (try (have c18b1 : decide (t247 = t248) = false := by simpa using c18))
                (try (have c18b2 : (t247 == t248) = false := by simpa using c18))
                (try (have c18b3 : ¬ (t247 = t248) := by simpa using c18))
                clear c18
                obtain rfl := Option.some.inj H
                go_wp2_with (first | ((with_reducible refine gate_callee (f := 17) rfl ?_); refine goesL_ (some 21) rfl rfl Try.func17 (by kernel_rfl) rfl #[.slice A0 l0.length c0, .slice A1 l1.length c1] rfl (by (try simp only [List.map_toArray, List.map_cons, List.map_nil]); first | done | rfl | (simp only [List.length_drop, List.length_take]; rfl)) ?_; (with_reducible refine (impl_SetEqual.calls _ _ l0 _ _ l1 t247 _ ?side1 ?side2 ?side3 ?side4 A16.out).mono ?_); (case side1 => repeat (first | exact (Kd.C_below HR0.out HB.out) | (with_reducible refine Kd.C_alloc ?_ _) | (with_reducible refine Kd.C_drewN ?_ _) | (with_reducible refine Kd.C_drew ?_))); (case side2 => exact HC0.out); (case side3 => repeat (first | exact (Kd.C_below HR1.out HB.out) | (with_reducible refine Kd.C_alloc ?_ _) | (with_reducible refine Kd.C_drewN ?_ _) | (with_reducible refine Kd.C_drew ?_))); (case side4 => exact HC1.out); rintro e w42 ⟨rfl, hb⟩; refine ⟨_, rfl, ?_⟩; have n0_ := Aside0.mk (below_step (by repeat (first | (with_reducible first | exact HB.out | apply below_alloc | apply pw_below_drewN | apply below_drew1) | exact HB.out)) hb); clear HB; have HB := n0_; clear n0_; (try clear hb); (try clear hb2); (try clear hk); (try clear hi)) | ((with_reducible refine gate_callee (f := 18) rfl ?_); refine goesL_ (some 24) rfl rfl Try.func18 (by kernel_rfl) rfl #[.slice A0 l0.length c0, .slice A1 l1.length c1] rfl (by (try simp only [List.map_toArray, List.map_cons, List.map_nil]); first | done | rfl | (simp only [List.length_drop, List.length_take]; rfl)) ?_; (with_reducible refine (laws_eqSets.calls kj10 _ _ l0 _ _ l1 t248 _ ?side1 ?side2 ?side3 ?side4 A17.out).mono ?_); (case side1 => repeat (first | exact (Kd.C_below HR0.out HB.out) | (with_reducible refine Kd.C_alloc ?_ _) | (with_reducible refine Kd.C_drewN ?_ _) | (with_reducible refine Kd.C_drew ?_))); (case side2 => exact HC0.out); (case side3 => repeat (first | exact (Kd.C_below HR1.out HB.out) | (with_reducible refine Kd.C_alloc ?_ _) | (with_reducible refine Kd.C_drewN ?_ _) | (with_reducible refine Kd.C_drew ?_))); (case side4 => exact HC1.out); rintro e w43 ⟨rfl, hb⟩; refine ⟨_, rfl, ?_⟩; have n0_ := Aside0.mk (below_step (by repeat (first | (with_reducible first | exact HB.out | apply below_alloc | apply pw_below_drewN | apply below_drew1) | exact HB.out)) hb); clear HB; have HB := n0_; clear n0_; (try clear hb); (try clear hb2); (try clear hk); (try clear hi)))
                go_ret
                exact ⟨by first | rfl | (simp [errW_none, errW_some] <;> rfl) | (simp [*, errW_none, errW_some] <;> rfl), by repeat (first | (with_reducible first | exact HB.out | apply below_alloc | apply pw_below_drewN | apply below_drew1) | exact HB.out)⟩

/-- THE ONE PURE STATEMENT of laws_FnSetEqual: yours. -/
def laws_FnSetEqual.Pure : Prop := ∀ (l0 : List (S48)) (l1 : List (S48)), (l0.length ≤ maxLen ∧ ∀ y ∈ l0, okS48 y) → (l1.length ≤ maxLen ∧ ∀ y ∈ l1, okS48 y) → ∃ k, laws_FnSetEqual.f k l0 l1 = some true

/-! ### model_hashNew: function 80 -/
def model_hashNew.f  : Option (Int) := some 14695981039346656037
set_option maxHeartbeats 8000000 in
set_option maxRecDepth 100000 in
theorem model_hashNew.calls  (r : Int) (w : World) (h : model_hashNew.f  = some r) :
    Calls Try.prog 80 #[] w fun e w' => e = .returned (.int .u64 r) ∧ Drawn0 w w' := by
  have H : (some 14695981039346656037) = some r := h
  clear h
  obtain rfl := Option.some.inj H
  go_enter Try.func80, Try.ntmps80
  go_wp2
  go_ret
  exact ⟨by first | rfl | (simp; done) | (simp [*]; done), by repeat (first | exact Drawn0.refl _ | apply Drawn0.step)⟩

end Go.Proofs.Ytbffhefeepmpcaa.Q
