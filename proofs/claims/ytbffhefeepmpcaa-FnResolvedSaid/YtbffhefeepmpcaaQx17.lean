-- printed by this project's own program wip/tools/mkprint.py (the kit's print.py with hand-proved contracts put in)
import Derived.Test.YtbffhefeepmpcaaQx0
import Derived.Test.YtbffhefeepmpcaaQx5
import Derived.Test.YtbffhefeepmpcaaQx8
import Derived.Test.YtbffhefeepmpcaaQx13
import Derived.Test.YtbffhefeepmpcaaQx15
import Derived.Test.YtbffhefeepmpcaaQx16
namespace Go.Proofs.Ytbffhefeepmpcaa.Q
open Go.RowKit Go.Proofs.YtbffhefeepmpcaaW.PrintWords Go.Proofs.YtbffhefeepmpcaaW.PrintLast Go.Proofs.YtbffhefeepmpcaaW.PrintMore
attribute [local go_sem] max2_int min2_int max_two min_two max_three min_three max_four min_four   -- for this text's walks alone
set_option linter.unusedVariables false
set_option linter.unusedSimpArgs false

/-! ### laws_FnMatchAny: function 9 -/
mutual
def laws_FnMatchAny.j0 : Nat → List (List (S37)) → List (S48) → Bool → Option (Bool)
  | 0, _, _, _ => none
  | k + 1, x0, x1, x17 => if x17 = true then (some true) else ((impl_MatchAny.f (([[]] : List (List (S37)))) x1).bind fun t323 => (if t323 = true then ((impl_MatchAny.f ([] : List (List (S37))) x1).bind fun t324 => (laws_FnMatchAny.j1 k x0 x1 t324)) else (laws_FnMatchAny.j1 k x0 x1 true)))
def laws_FnMatchAny.j1 : Nat → List (List (S37)) → List (S48) → Bool → Option (Bool)
  | 0, _, _, _ => none
  | k + 1, x0, x1, x25 => if x25 = true then (some false) else (laws_FnMatchAny.l0 k x0 x1 false ([] : List (List (S40))) x0 (x0.length : Int) 0)
def laws_FnMatchAny.l0 : Nat → List (List (S37)) → List (S48) → Bool → List (List (S40)) → List (List (S37)) → Int → Int → Option (Bool)
  | 0, _, _, _, _, _, _, _ => none
  | k + 1, x0, x1, x5, x6, x26, x27, x28 => if x28 < x27 then (if 0 ≤ x28 then (if x28 < (x26.length : Int) then ((laws_values.f k (rd_L4 x26 x28)).bind fun t331 => (if t331 = true then (if (x0.length : Int) > 1000 then (laws_FnMatchAny.j3 k x0 x1 x5 x6 (rd_L4 x26 x28) x26 x27 x28 true) else (laws_FnMatchAny.j3 k x0 x1 x5 x6 (rd_L4 x26 x28) x26 x27 x28 (decide ((x1.length : Int) > 10000)))) else (laws_FnMatchAny.j3 k x0 x1 x5 x6 (rd_L4 x26 x28) x26 x27 x28 true))) else (none)) else (none)) else ((laws_pairs.f k x1).bind fun t325 => ((spec_MatchAny.f k x6 t325).bind fun t328 => ((impl_MatchAny.f x0 x1).bind fun t329 => (if (t329 == x5) = true then (if t328 = 2 then (some true) else (some (x5 == (t328 == 1)))) else (some false)))))
def laws_FnMatchAny.j3 : Nat → List (List (S37)) → List (S48) → Bool → List (List (S40)) → List (S37) → List (List (S37)) → Int → Int → Bool → Option (Bool)
  | 0, _, _, _, _, _, _, _, _, _ => none
  | k + 1, x0, x1, x5, x6, x8, x26, x27, x28, x44 => if x44 = true then (some true) else (if x5 = true then ((laws_matchers.f k x8).bind fun t332 => (if x6.length < 5864062014805 then (laws_FnMatchAny.l0 k x0 x1 true (x6 ++ [t332]) x26 x27 (wrap64 (x28 + 1))) else (none))) else ((laws_fits.f k x8 x1).bind fun t338 => ((laws_matchers.f k x8).bind fun t339 => (if x6.length < 5864062014805 then (laws_FnMatchAny.l0 k x0 x1 t338 (x6 ++ [t339]) x26 x27 (wrap64 (x28 + 1))) else (none)))))
end
def laws_FnMatchAny.f (k : Nat) (l0 : List (List (S37))) (l1 : List (S48)) : Option (Bool) := (laws_zzFits5.f k l0).bind fun t318 => (if t318 = true then ((laws_zzFits1.f k l1).bind fun t319 => (laws_FnMatchAny.j0 k l0 l1 (!t319))) else (laws_FnMatchAny.j0 k l0 l1 true))
theorem laws_FnMatchAny.mono_l : ∀ k, (∀ y0 y1 y2, LeO (laws_FnMatchAny.j0 k y0 y1 y2) (laws_FnMatchAny.j0 (k + 1) y0 y1 y2)) ∧ (∀ y0 y1 y2, LeO (laws_FnMatchAny.j1 k y0 y1 y2) (laws_FnMatchAny.j1 (k + 1) y0 y1 y2)) ∧ (∀ y0 y1 y2 y3 y4 y5 y6, LeO (laws_FnMatchAny.l0 k y0 y1 y2 y3 y4 y5 y6) (laws_FnMatchAny.l0 (k + 1) y0 y1 y2 y3 y4 y5 y6)) ∧ (∀ y0 y1 y2 y3 y4 y5 y6 y7 y8, LeO (laws_FnMatchAny.j3 k y0 y1 y2 y3 y4 y5 y6 y7 y8) (laws_FnMatchAny.j3 (k + 1) y0 y1 y2 y3 y4 y5 y6 y7 y8))
  | 0 => ⟨fun _ _ _ r h => by simp [laws_FnMatchAny.j0] at h, fun _ _ _ r h => by simp [laws_FnMatchAny.j1] at h, fun _ _ _ _ _ _ _ r h => by simp [laws_FnMatchAny.l0] at h, fun _ _ _ _ _ _ _ _ _ r h => by simp [laws_FnMatchAny.j3] at h⟩
  | k + 1 => by
    obtain ⟨ih0, ih1, ih2, ih3⟩ := laws_FnMatchAny.mono_l k
    refine ⟨?_, ?_, ?_, ?_⟩
    · intro y0 y1 y2
      unfold laws_FnMatchAny.j0
      repeat' first
      | (with_reducible exact ih0 _ _ _)
      | (with_reducible exact ih1 _ _ _)
      | (with_reducible exact ih2 _ _ _ _ _ _ _)
      | (with_reducible exact ih3 _ _ _ _ _ _ _ _ _)
      | (with_reducible exact laws_fits.mono _ _ _)
      | (with_reducible exact laws_matchers.mono _ _)
      | (with_reducible exact laws_pairs.mono _ _)
      | (with_reducible exact laws_values.mono _ _)
      | (with_reducible exact laws_zzFits1.mono _ _)
      | (with_reducible exact laws_zzFits5.mono _ _)
      | (with_reducible exact spec_MatchAny.mono _ _ _)
      | (with_reducible exact LeO.refl _)
      | (with_reducible exact LeO.none _)
      | (with_reducible refine LeO.ite ?_ ?_)
      | (with_reducible refine LeO.bind ?_ (fun _ => ?_))
      | exact ih0 _ _ _
      | exact ih1 _ _ _
      | exact ih2 _ _ _ _ _ _ _
      | exact ih3 _ _ _ _ _ _ _ _ _
      | exact laws_fits.mono _ _ _
      | exact laws_matchers.mono _ _
      | exact laws_pairs.mono _ _
      | exact laws_values.mono _ _
      | exact laws_zzFits1.mono _ _
      | exact laws_zzFits5.mono _ _
      | exact spec_MatchAny.mono _ _ _
      | exact LeO.none _
      | refine LeO.ite ?_ ?_
      | refine LeO.bind ?_ (fun _ => ?_)
    · intro y0 y1 y2
      unfold laws_FnMatchAny.j1
      repeat' first
      | (with_reducible exact ih0 _ _ _)
      | (with_reducible exact ih1 _ _ _)
      | (with_reducible exact ih2 _ _ _ _ _ _ _)
      | (with_reducible exact ih3 _ _ _ _ _ _ _ _ _)
      | (with_reducible exact laws_fits.mono _ _ _)
      | (with_reducible exact laws_matchers.mono _ _)
      | (with_reducible exact laws_pairs.mono _ _)
      | (with_reducible exact laws_values.mono _ _)
      | (with_reducible exact laws_zzFits1.mono _ _)
      | (with_reducible exact laws_zzFits5.mono _ _)
      | (with_reducible exact spec_MatchAny.mono _ _ _)
      | (with_reducible exact LeO.refl _)
      | (with_reducible exact LeO.none _)
      | (with_reducible refine LeO.ite ?_ ?_)
      | (with_reducible refine LeO.bind ?_ (fun _ => ?_))
      | exact ih0 _ _ _
      | exact ih1 _ _ _
      | exact ih2 _ _ _ _ _ _ _
      | exact ih3 _ _ _ _ _ _ _ _ _
      | exact laws_fits.mono _ _ _
      | exact laws_matchers.mono _ _
      | exact laws_pairs.mono _ _
      | exact laws_values.mono _ _
      | exact laws_zzFits1.mono _ _
      | exact laws_zzFits5.mono _ _
      | exact spec_MatchAny.mono _ _ _
      | exact LeO.none _
      | refine LeO.ite ?_ ?_
      | refine LeO.bind ?_ (fun _ => ?_)
    · intro y0 y1 y2 y3 y4 y5 y6
      unfold laws_FnMatchAny.l0
      repeat' first
      | (with_reducible exact ih0 _ _ _)
      | (with_reducible exact ih1 _ _ _)
      | (with_reducible exact ih2 _ _ _ _ _ _ _)
      | (with_reducible exact ih3 _ _ _ _ _ _ _ _ _)
      | (with_reducible exact laws_fits.mono _ _ _)
      | (with_reducible exact laws_matchers.mono _ _)
      | (with_reducible exact laws_pairs.mono _ _)
      | (with_reducible exact laws_values.mono _ _)
      | (with_reducible exact laws_zzFits1.mono _ _)
      | (with_reducible exact laws_zzFits5.mono _ _)
      | (with_reducible exact spec_MatchAny.mono _ _ _)
      | (with_reducible exact LeO.refl _)
      | (with_reducible exact LeO.none _)
      | (with_reducible refine LeO.ite ?_ ?_)
      | (with_reducible refine LeO.bind ?_ (fun _ => ?_))
      | exact ih0 _ _ _
      | exact ih1 _ _ _
      | exact ih2 _ _ _ _ _ _ _
      | exact ih3 _ _ _ _ _ _ _ _ _
      | exact laws_fits.mono _ _ _
      | exact laws_matchers.mono _ _
      | exact laws_pairs.mono _ _
      | exact laws_values.mono _ _
      | exact laws_zzFits1.mono _ _
      | exact laws_zzFits5.mono _ _
      | exact spec_MatchAny.mono _ _ _
      | exact LeO.none _
      | refine LeO.ite ?_ ?_
      | refine LeO.bind ?_ (fun _ => ?_)
    · intro y0 y1 y2 y3 y4 y5 y6 y7 y8
      unfold laws_FnMatchAny.j3
      repeat' first
      | (with_reducible exact ih0 _ _ _)
      | (with_reducible exact ih1 _ _ _)
      | (with_reducible exact ih2 _ _ _ _ _ _ _)
      | (with_reducible exact ih3 _ _ _ _ _ _ _ _ _)
      | (with_reducible exact laws_fits.mono _ _ _)
      | (with_reducible exact laws_matchers.mono _ _)
      | (with_reducible exact laws_pairs.mono _ _)
      | (with_reducible exact laws_values.mono _ _)
      | (with_reducible exact laws_zzFits1.mono _ _)
      | (with_reducible exact laws_zzFits5.mono _ _)
      | (with_reducible exact spec_MatchAny.mono _ _ _)
      | (with_reducible exact LeO.refl _)
      | (with_reducible exact LeO.none _)
      | (with_reducible refine LeO.ite ?_ ?_)
      | (with_reducible refine LeO.bind ?_ (fun _ => ?_))
      | exact ih0 _ _ _
      | exact ih1 _ _ _
      | exact ih2 _ _ _ _ _ _ _
      | exact ih3 _ _ _ _ _ _ _ _ _
      | exact laws_fits.mono _ _ _
      | exact laws_matchers.mono _ _
      | exact laws_pairs.mono _ _
      | exact laws_values.mono _ _
      | exact laws_zzFits1.mono _ _
      | exact laws_zzFits5.mono _ _
      | exact spec_MatchAny.mono _ _ _
      | exact LeO.none _
      | refine LeO.ite ?_ ?_
      | refine LeO.bind ?_ (fun _ => ?_)
theorem laws_FnMatchAny.mono : ∀ a0 a1 k, LeO (laws_FnMatchAny.f k a0 a1) (laws_FnMatchAny.f (k + 1) a0 a1) := by
  intro a0 a1 k
  obtain ⟨ih0, ih1, ih2, ih3⟩ := laws_FnMatchAny.mono_l k
  unfold laws_FnMatchAny.f
  repeat' first
      | (with_reducible exact ih0 _ _ _)
      | (with_reducible exact ih1 _ _ _)
      | (with_reducible exact ih2 _ _ _ _ _ _ _)
      | (with_reducible exact ih3 _ _ _ _ _ _ _ _ _)
      | (with_reducible exact laws_fits.mono _ _ _)
      | (with_reducible exact laws_matchers.mono _ _)
      | (with_reducible exact laws_pairs.mono _ _)
      | (with_reducible exact laws_values.mono _ _)
      | (with_reducible exact laws_zzFits1.mono _ _)
      | (with_reducible exact laws_zzFits5.mono _ _)
      | (with_reducible exact spec_MatchAny.mono _ _ _)
      | (with_reducible exact LeO.refl _)
      | (with_reducible exact LeO.none _)
      | (with_reducible refine LeO.ite ?_ ?_)
      | (with_reducible refine LeO.bind ?_ (fun _ => ?_))
      | exact ih0 _ _ _
      | exact ih1 _ _ _
      | exact ih2 _ _ _ _ _ _ _
      | exact ih3 _ _ _ _ _ _ _ _ _
      | exact laws_fits.mono _ _ _
      | exact laws_matchers.mono _ _
      | exact laws_pairs.mono _ _
      | exact laws_values.mono _ _
      | exact laws_zzFits1.mono _ _
      | exact laws_zzFits5.mono _ _
      | exact spec_MatchAny.mono _ _ _
      | exact LeO.none _
      | refine LeO.ite ?_ ?_
      | refine LeO.bind ?_ (fun _ => ?_)
set_option maxHeartbeats 8000000 in
set_option maxRecDepth 100000 in
theorem laws_FnMatchAny.calls (k : Nat) (A0 : Option Addr) (c0 : Nat) (l0 : List (List (S37))) (A1 : Option Addr) (c1 : Nat) (l1 : List (S48)) (r : Bool) (w : World) (hr0 : Kd.C (Kd.slice 37 k37) w A0 l0.length l0) (hc0 : l0.length ≤ c0) (hr1 : Kd.C k48 w A1 l1.length l1) (hc1 : l1.length ≤ c1) (h : laws_FnMatchAny.f k l0 l1 = some r) :
    Calls Try.prog 9 #[.slice A0 l0.length c0, .slice A1 l1.length c1] w fun e w' => e = .returned (.bool r) ∧ Below w.heap.size w w' := by
  have HR0 := Aside0.mk hr0
  have HC0 := Aside0.mk hc0
  clear hr0 hc0
  have HR1 := Aside0.mk hr1
  have HC1 := Aside0.mk hc1
  clear hr1 hc1
  have HB := Aside0.mk (Below.refl w.heap.size w)
  have H : ((laws_zzFits5.f k l0).bind fun t318 => (if t318 = true then ((laws_zzFits1.f k l1).bind fun t319 => (laws_FnMatchAny.j0 k l0 l1 (!t319))) else (laws_FnMatchAny.j0 k l0 l1 true))) = some r := h
  clear h
  have HC3 := Aside0.mk H
  clear H
  go_enter Try.func9, Try.ntmps9
  go_upto_region 1 with (fail)
  go_cut [17] (fun v17 wc => ∃ (kq : Nat) (x17_2 : Bool), v17 = .bool x17_2 ∧ Aside0 (laws_FnMatchAny.j0 kq l0 l1 x17_2 = some r) ∧ Aside0 (kq ≤ k) ∧ Aside0 (Below w.heap.size w wc))
  case first =>
    have H := HC3.out
    clear HC3
    replace H := Option.bind_eq_some_iff.mp H
    obtain ⟨t318, A40, H⟩ := H
    replace H : (if t318 = true then ((laws_zzFits1.f k l1).bind fun t319 => (laws_FnMatchAny.j0 k l0 l1 (!t319))) else (laws_FnMatchAny.j0 k l0 l1 true)) = some r := H
    have A4 := Aside0.mk A40
    clear A40
    by_cases c5 : t318 = true
    · subst c5
      have H1 : ((laws_zzFits1.f k l1).bind fun t319 => (laws_FnMatchAny.j0 k l0 l1 (!t319))) = some r := by rw [if_pos rfl] at H; exact H
      clear H
      have H := H1
      clear H1
      replace H := Option.bind_eq_some_iff.mp H
      obtain ⟨t319, A60, H⟩ := H
      replace H : (laws_FnMatchAny.j0 k l0 l1 (!t319)) = some r := H
      have A6 := Aside0.mk A60
      clear A60
      have H' := Aside0.mk H
      clear H
      go_wp2_with (first | ((with_reducible refine gate_callee (f := 35) rfl ?_); refine goesL_ (some 11) rfl rfl Try.func35 (by kernel_rfl) rfl #[.slice A0 l0.length c0] rfl (by (try simp only [List.map_toArray, List.map_cons, List.map_nil]); first | done | rfl | (simp only [List.length_drop, List.length_take]; rfl)) ?_; (with_reducible refine (laws_zzFits5.calls k _ _ l0 true _ ?side1 ?side2 A4.out).mono ?_); (case side1 => repeat (first | exact (Kd.C_below HR0.out HB.out) | (with_reducible refine Kd.C_alloc ?_ _) | (with_reducible refine Kd.C_drewN ?_ _) | (with_reducible refine Kd.C_drew ?_))); (case side2 => exact HC0.out); rintro e w7 ⟨rfl, hb⟩; refine ⟨_, rfl, ?_⟩; have n0_ := Aside0.mk (below_step (by repeat (first | (with_reducible first | exact HB.out | apply below_alloc | apply pw_below_drewN | apply below_drew1) | exact HB.out)) hb); clear HB; have HB := n0_; clear n0_; (try clear hb); (try clear hb2); (try clear hk); (try clear hi)) | (go_at_call 15; (with_reducible refine (laws_zzFits1.calls k _ _ l1 t319 _ ?side1 ?side2 A6.out).mono ?_); (case side1 => repeat (first | exact (Kd.C_below HR1.out HB.out) | (with_reducible refine Kd.C_alloc ?_ _) | (with_reducible refine Kd.C_drewN ?_ _) | (with_reducible refine Kd.C_drew ?_))); (case side2 => exact HC1.out); rintro e w8 ⟨rfl, hb⟩; have n0_ := Aside0.mk (below_step (by repeat (first | (with_reducible first | exact HB.out | apply below_alloc | apply pw_below_drewN | apply below_drew1) | exact HB.out)) hb); clear HB; have HB := n0_; clear n0_; (try clear hb); (try clear hb2); (try clear hk); (try clear hi)))
      go_meet
      case rel => exact ⟨_, (!t319), (by first | rfl | (simp; done) | (simp [*]; done)), H', ⟨by first | omega | exact Nat.le_refl _⟩, ⟨by repeat (first | (with_reducible first | exact HB.out | apply below_alloc | apply pw_below_drewN | apply below_drew1) | exact HB.out)⟩⟩
    · replace c5 := Bool.eq_false_iff.mpr c5
      subst c5
      have H1 : (laws_FnMatchAny.j0 k l0 l1 true) = some r := by rw [if_neg (show ¬ (false = true) by decide)] at H; exact H
      clear H
      have H := H1
      clear H1
      have H' := Aside0.mk H
      clear H
      go_wp2_with (first | ((with_reducible refine gate_callee (f := 35) rfl ?_); refine goesL_ (some 11) rfl rfl Try.func35 (by kernel_rfl) rfl #[.slice A0 l0.length c0] rfl (by (try simp only [List.map_toArray, List.map_cons, List.map_nil]); first | done | rfl | (simp only [List.length_drop, List.length_take]; rfl)) ?_; (with_reducible refine (laws_zzFits5.calls k _ _ l0 false _ ?side1 ?side2 A4.out).mono ?_); (case side1 => repeat (first | exact (Kd.C_below HR0.out HB.out) | (with_reducible refine Kd.C_alloc ?_ _) | (with_reducible refine Kd.C_drewN ?_ _) | (with_reducible refine Kd.C_drew ?_))); (case side2 => exact HC0.out); rintro e w9 ⟨rfl, hb⟩; refine ⟨_, rfl, ?_⟩; have n0_ := Aside0.mk (below_step (by repeat (first | (with_reducible first | exact HB.out | apply below_alloc | apply pw_below_drewN | apply below_drew1) | exact HB.out)) hb); clear HB; have HB := n0_; clear n0_; (try clear hb); (try clear hb2); (try clear hk); (try clear hi)))
      go_meet
      case rel => exact ⟨_, (true), (by first | rfl | (simp; done) | (simp [*]; done)), H', ⟨by first | omega | exact Nat.le_refl _⟩, ⟨by repeat (first | (with_reducible first | exact HB.out | apply below_alloc | apply pw_below_drewN | apply below_drew1) | exact HB.out)⟩⟩
  case rest =>
    clear HC3
    try clear c1
    try clear p2
    try clear c3
    try clear c5
    try clear c9
    obtain ⟨kq, x17_2, rfl, HA, HJ2, HB⟩ := hcut
    cases kq with
    | zero => exact absurd HA.out (by simp [laws_FnMatchAny.j0])
    | succ kj2 =>
      have H := HA.out
      clear HA
      simp only [laws_FnMatchAny.j0] at H
      by_cases c10 : x17_2 = true
      · subst c10
        have H1 : (some true) = some r := by rw [if_pos rfl] at H; exact H
        clear H
        have H := H1
        clear H1
        obtain rfl := Option.some.inj H
        go_wp2
        go_ret
        exact ⟨by first | rfl | (simp [errW_none, errW_some] <;> rfl) | (simp [*, errW_none, errW_some] <;> rfl), by repeat (first | (with_reducible first | exact HB.out | apply below_alloc | apply pw_below_drewN | apply below_drew1) | exact HB.out)⟩
      · replace c10 := Bool.eq_false_iff.mpr c10
        subst c10
        have H1 : ((impl_MatchAny.f (([[]] : List (List (S37)))) l1).bind fun t323 => (if t323 = true then ((impl_MatchAny.f ([] : List (List (S37))) l1).bind fun t324 => (laws_FnMatchAny.j1 kj2 l0 l1 t324)) else (laws_FnMatchAny.j1 kj2 l0 l1 true))) = some r := by rw [if_neg (show ¬ (false = true) by decide)] at H; exact H
        clear H
        have H := H1
        clear H1
        have HC11 := Aside0.mk H
        clear H
        go_upto_region 3 with (fail)
        go_cut [25] (fun v25 wc => ∃ (kq : Nat) (x25_10 : Bool), v25 = .bool x25_10 ∧ Aside0 (laws_FnMatchAny.j1 kq l0 l1 x25_10 = some r) ∧ Aside0 (kq ≤ kj2) ∧ Aside0 (Below w.heap.size w wc))
        case first =>
          have H := HC11.out
          clear HC11
          obtain ⟨y320, hy320⟩ : ∃ y_ : List (List (S37)), y_ = (([[]] : List (List (S37)))) := ⟨_, rfl⟩
          replace H : ((impl_MatchAny.f y320 l1).bind fun t323 => (if t323 = true then ((impl_MatchAny.f ([] : List (List (S37))) l1).bind fun t324 => (laws_FnMatchAny.j1 kj2 l0 l1 t324)) else (laws_FnMatchAny.j1 kj2 l0 l1 true))) = some r := by first | (rw [hy320]; with_reducible exact H) | (have H2_ := (Option.bind_some _ _).symm.trans H; rw [hy320]; with_reducible exact H2_) | (have H2_ := (Option.bind_some _ _).symm.trans H; with_reducible exact H2_) | with_reducible exact H | (rw [hy320]; exact H) | exact H
          have Ny320 := Aside0.mk hy320
          clear hy320
          replace H := Option.bind_eq_some_iff.mp H
          obtain ⟨t323, A120, H⟩ := H
          replace H : (if t323 = true then ((impl_MatchAny.f ([] : List (List (S37))) l1).bind fun t324 => (laws_FnMatchAny.j1 kj2 l0 l1 t324)) else (laws_FnMatchAny.j1 kj2 l0 l1 true)) = some r := H
          have A12 := Aside0.mk A120
          clear A120
          by_cases c13 : t323 = true
          · subst c13
            have H1 : ((impl_MatchAny.f ([] : List (List (S37))) l1).bind fun t324 => (laws_FnMatchAny.j1 kj2 l0 l1 t324)) = some r := by rw [if_pos rfl] at H; exact H
            clear H
            have H := H1
            clear H1
            replace H := Option.bind_eq_some_iff.mp H
            obtain ⟨t324, A140, H⟩ := H
            replace H : (laws_FnMatchAny.j1 kj2 l0 l1 t324) = some r := H
            have A14 := Aside0.mk A140
            clear A140
            have H' := Aside0.mk H
            clear H
            go_wp2_with (first | ((with_reducible refine gate_dst (N := 18) rfl ?_); (try (refine gate_guard (by rfl) ?_; dsimp only)); refine Kd.S_lit (Kd.slice 37 k37) _ 33 ?hg (N := 18) ?hd (xs := ([[]] : List (List (S37)))) (inner := [.slice none 0 0]) (ok := fun _ => True) (okp := fun _ => True) ?hr ?hp (fun _ hk => hk) trivial (Below.refl _ _) (Nat.le_refl _) (by simp) ?_; (case hd => rfl); (case hg => rfl); (case hr => first | (go_simp; done) | (go_simp; rfl)); (case hp => exact (Reps.one (show Kd.M (Kd.slice 37 k37) _ _ _ [] [.slice none 0 0] from ⟨_, rfl, Kd.R_nil _ _ _ _ _⟩) (Reps.none _ _))); intro v321 w15 ho16 hb hg_ hnew_; clear hg_ hnew_; (first | rw [← Ny320.out] at ho16 | (simp only [Int.reduceToNat] at ho16; rw [← Ny320.out] at ho16)); have n0_ := Aside0.mk (Kd.S_lower ho16 (below_size (by repeat (first | (with_reducible first | exact HB.out | apply below_alloc | apply pw_below_drewN | apply below_drew1) | exact HB.out)))); have n1_ := Aside0.mk (below_step (by repeat (first | (with_reducible first | exact HB.out | apply below_alloc | apply pw_below_drewN | apply below_drew1) | exact HB.out)) hb); clear HB; have HO322 := n0_; have HB := n1_; clear n0_ n1_; clear hb ho16; obtain ⟨Ao17, co17, eo17⟩ := Kd.S_slice HO322.out; subst eo17) | ((with_reducible refine gate_callee (f := 36) rfl ?_); refine goesL_ (some 20) rfl rfl Try.func36 (by kernel_rfl) rfl #[.slice Ao17 y320.length co17, .slice A1 l1.length c1] rfl (by (try simp only [List.map_toArray, List.map_cons, List.map_nil]); first | done | rfl | (simp only [List.length_drop, List.length_take]; rfl)) ?_; (with_reducible refine (impl_MatchAny.calls _ _ y320 _ _ l1 true _ ?side1 ?side2 ?side3 ?side4 A12.out).mono ?_); (case side1 => repeat (first | exact (Kd.S_reads' HO322.out).2.2 | (with_reducible refine Kd.C_alloc ?_ _) | (with_reducible refine Kd.C_drewN ?_ _) | (with_reducible refine Kd.C_drew ?_))); (case side2 => exact (Kd.S_reads' HO322.out).2.1); (case side3 => repeat (first | exact (Kd.C_below HR1.out HB.out) | (with_reducible refine Kd.C_alloc ?_ _) | (with_reducible refine Kd.C_drewN ?_ _) | (with_reducible refine Kd.C_drew ?_))); (case side4 => exact HC1.out); rintro e w18 ⟨rfl, hb⟩; refine ⟨_, rfl, ?_⟩; have n0_ := Aside0.mk (Kd.S_below (by (with_reducible repeat (first | apply Kd.S_alloc | apply Kd.S_drewN | apply Kd.S_drew)); exact HO322.out) hb); have n1_ := Aside0.mk (below_step (by repeat (first | (with_reducible first | exact HB.out | apply below_alloc | apply pw_below_drewN | apply below_drew1) | exact HB.out)) hb); clear HO322; clear HB; have HO322 := n0_; have HB := n1_; clear n0_ n1_; (try clear hb); (try clear hb2); (try clear hk); (try clear hi)) | (go_at_call 36; (refine (impl_MatchAny.calls _ _ ([] : List (List (S37))) _ _ l1 t324 _ ?side1 ?side2 ?side3 ?side4 A14.out).mono ?_); (case side1 => exact Kd.C_nil _ _); (case side2 => exact Nat.le_refl _); (case side3 => repeat (first | exact (Kd.C_below HR1.out HB.out) | (with_reducible refine Kd.C_alloc ?_ _) | (with_reducible refine Kd.C_drewN ?_ _) | (with_reducible refine Kd.C_drew ?_))); (case side4 => exact HC1.out); rintro e w19 ⟨rfl, hb⟩; have n0_ := Aside0.mk (Kd.S_below (by (with_reducible repeat (first | apply Kd.S_alloc | apply Kd.S_drewN | apply Kd.S_drew)); exact HO322.out) hb); have n1_ := Aside0.mk (below_step (by repeat (first | (with_reducible first | exact HB.out | apply below_alloc | apply pw_below_drewN | apply below_drew1) | exact HB.out)) hb); clear HO322; clear HB; have HO322 := n0_; have HB := n1_; clear n0_ n1_; (try clear hb); (try clear hb2); (try clear hk); (try clear hi)))
            go_meet
            case rel => exact ⟨_, (t324), (by first | rfl | (simp; done) | (simp [*]; done)), H', ⟨by have := HJ2.out; first | omega | exact Nat.le_refl _⟩, ⟨by repeat (first | (with_reducible first | exact HB.out | apply below_alloc | apply pw_below_drewN | apply below_drew1) | exact HB.out)⟩⟩
          · replace c13 := Bool.eq_false_iff.mpr c13
            subst c13
            have H1 : (laws_FnMatchAny.j1 kj2 l0 l1 true) = some r := by rw [if_neg (show ¬ (false = true) by decide)] at H; exact H
            clear H
            have H := H1
            clear H1
            have H' := Aside0.mk H
            clear H
            go_wp2_with (first | ((with_reducible refine gate_dst (N := 18) rfl ?_); (try (refine gate_guard (by rfl) ?_; dsimp only)); refine Kd.S_lit (Kd.slice 37 k37) _ 33 ?hg (N := 18) ?hd (xs := ([[]] : List (List (S37)))) (inner := [.slice none 0 0]) (ok := fun _ => True) (okp := fun _ => True) ?hr ?hp (fun _ hk => hk) trivial (Below.refl _ _) (Nat.le_refl _) (by simp) ?_; (case hd => rfl); (case hg => rfl); (case hr => first | (go_simp; done) | (go_simp; rfl)); (case hp => exact (Reps.one (show Kd.M (Kd.slice 37 k37) _ _ _ [] [.slice none 0 0] from ⟨_, rfl, Kd.R_nil _ _ _ _ _⟩) (Reps.none _ _))); intro v321 w20 ho21 hb hg_ hnew_; clear hg_ hnew_; (first | rw [← Ny320.out] at ho21 | (simp only [Int.reduceToNat] at ho21; rw [← Ny320.out] at ho21)); have n0_ := Aside0.mk (Kd.S_lower ho21 (below_size (by repeat (first | (with_reducible first | exact HB.out | apply below_alloc | apply pw_below_drewN | apply below_drew1) | exact HB.out)))); have n1_ := Aside0.mk (below_step (by repeat (first | (with_reducible first | exact HB.out | apply below_alloc | apply pw_below_drewN | apply below_drew1) | exact HB.out)) hb); clear HB; have HO322 := n0_; have HB := n1_; clear n0_ n1_; clear hb ho21; obtain ⟨Ao22, co22, eo22⟩ := Kd.S_slice HO322.out; subst eo22) | ((with_reducible refine gate_callee (f := 36) rfl ?_); refine goesL_ (some 20) rfl rfl Try.func36 (by kernel_rfl) rfl #[.slice Ao22 y320.length co22, .slice A1 l1.length c1] rfl (by (try simp only [List.map_toArray, List.map_cons, List.map_nil]); first | done | rfl | (simp only [List.length_drop, List.length_take]; rfl)) ?_; (with_reducible refine (impl_MatchAny.calls _ _ y320 _ _ l1 false _ ?side1 ?side2 ?side3 ?side4 A12.out).mono ?_); (case side1 => repeat (first | exact (Kd.S_reads' HO322.out).2.2 | (with_reducible refine Kd.C_alloc ?_ _) | (with_reducible refine Kd.C_drewN ?_ _) | (with_reducible refine Kd.C_drew ?_))); (case side2 => exact (Kd.S_reads' HO322.out).2.1); (case side3 => repeat (first | exact (Kd.C_below HR1.out HB.out) | (with_reducible refine Kd.C_alloc ?_ _) | (with_reducible refine Kd.C_drewN ?_ _) | (with_reducible refine Kd.C_drew ?_))); (case side4 => exact HC1.out); rintro e w23 ⟨rfl, hb⟩; refine ⟨_, rfl, ?_⟩; have n0_ := Aside0.mk (Kd.S_below (by (with_reducible repeat (first | apply Kd.S_alloc | apply Kd.S_drewN | apply Kd.S_drew)); exact HO322.out) hb); have n1_ := Aside0.mk (below_step (by repeat (first | (with_reducible first | exact HB.out | apply below_alloc | apply pw_below_drewN | apply below_drew1) | exact HB.out)) hb); clear HO322; clear HB; have HO322 := n0_; have HB := n1_; clear n0_ n1_; (try clear hb); (try clear hb2); (try clear hk); (try clear hi)))
            go_meet
            case rel => exact ⟨_, (true), (by first | rfl | (simp; done) | (simp [*]; done)), H', ⟨by have := HJ2.out; first | omega | exact Nat.le_refl _⟩, ⟨by repeat (first | (with_reducible first | exact HB.out | apply below_alloc | apply pw_below_drewN | apply below_drew1) | exact HB.out)⟩⟩
        case rest =>
          clear HC11
          try clear c1
          try clear p2
          try clear c3
          try clear c5
          try clear c9
          try clear c10
          try clear c13
          try clear p2
          obtain ⟨kq, x25_10, rfl, HA, HJ10, HB⟩ := hcut
          cases kq with
          | zero => exact absurd HA.out (by simp [laws_FnMatchAny.j1])
          | succ kj10 =>
            have H := HA.out
            clear HA
            simp only [laws_FnMatchAny.j1] at H
            by_cases c24 : x25_10 = true
            · subst c24
              have H1 : (some false) = some r := by rw [if_pos rfl] at H; exact H
              clear H
              have H := H1
              clear H1
              obtain rfl := Option.some.inj H
              go_wp2
              go_ret
              exact ⟨by first | rfl | (simp [errW_none, errW_some] <;> rfl) | (simp [*, errW_none, errW_some] <;> rfl), by repeat (first | (with_reducible first | exact HB.out | apply below_alloc | apply pw_below_drewN | apply below_drew1) | exact HB.out)⟩
            · replace c24 := Bool.eq_false_iff.mpr c24
              subst c24
              have H1 : (laws_FnMatchAny.l0 kj10 l0 l1 false ([] : List (List (S40))) l0 (l0.length : Int) 0) = some r := by rw [if_neg (show ¬ (false = true) by decide)] at H; exact H
              clear H
              have H := H1
              clear H1
              have H' := Aside0.mk H
              clear H
              go_wp2
              go_loopg [5, 6, 28] kj10 (fun kq v5 v6 v28 w' => ∃ (x5_3 : Bool) (x6_3 : List (List (S40))) (x28_3 : Int), v5 = .bool x5_3 ∧ v28 = .int .i64 x28_3 ∧ Aside0 (laws_FnMatchAny.l0 kq l0 l1 x5_3 x6_3 l0 (l0.length : Int) x28_3 = some r) ∧ Aside0 (kq ≤ kj10) ∧ Aside0 (Kd.S (Kd.slice 40 k40) 54 w' w.heap.size (fun _ => True) v6 x6_3) ∧ Aside0 (Below w.heap.size w w'))
              case atStart => exact ⟨(false), (([] : List (List (S40)))), (0), (by first | rfl | (simp; done) | (simp [*]; done)), (by first | rfl | (simp; done) | (simp [*]; done)), H', ⟨Nat.le_refl _⟩, ⟨by first | exact Kd.S_nil _ _ _ _ _ | exact Kd.N_nil _ _ _ _ _ | exact Kd.V_nil _ _ _ _ _ | exact Kd.Q_nil _ _ _ _ _ | exact Kd.R_nil _ _ _ _ _⟩, ⟨by repeat (first | (with_reducible first | exact HB.out | apply below_alloc | apply pw_below_drewN | apply below_drew1) | exact HB.out)⟩⟩
              case round =>
                clear H'
                try clear c1
                try clear c2
                try clear p2
                try clear c3
                try clear c5
                try clear c9
                try clear c10
                try clear c13
                try clear c24
                try clear p2
                obtain ⟨x5_3, x6_3, x28_3, rfl, rfl, HA, HK3, HO_6, HB⟩ := hrel
                cases gk with
                | zero => exact absurd HA.out (by simp [laws_FnMatchAny.l0])
                | succ k3 =>
                  have H := HA.out
                  clear HA
                  simp only [laws_FnMatchAny.l0] at H
                  by_cases c25 : x28_3 < (l0.length : Int)
                  · rw [if_pos c25] at H
                    have c25b0 : decide (x28_3 < (l0.length : Int)) = true := decide_eq_true c25
                    clear c25
                    by_cases c26 : 0 ≤ x28_3
                    · rw [if_pos c26] at H
                      have c26b0 : decide (0 ≤ x28_3) = true := decide_eq_true c26
                      clear c26
                      by_cases c27 : x28_3 < (l0.length : Int)
                      · rw [if_pos c27] at H
                        have c27b0 : decide (x28_3 < (l0.length : Int)) = true := decide_eq_true c27
                        clear c27
                        have HC28 := Aside0.mk H
                        clear H
                        have p330 : 0 ≤ (x28_3 : Int) := of_decide_eq_true (by first | (with_reducible assumption) | assumption)
                        have q330 : x28_3 < (l0.length : Int) := of_decide_eq_true (by first | (with_reducible assumption) | assumption)
                        obtain ⟨ad330, A330_0, c330_0, e330, hx330_0, hl330_0, hi330_0⟩ := at_L4 HR0.out x28_3 p330 q330
                        cases e330
                        replace hx330_0 := (HB.out.cell (World.block_lt_of_cell? w _ hx330_0)).trans hx330_0
                        have HR330_0 := Aside0.mk hi330_0
                        have HC330_0 := Aside0.mk hl330_0
                        clear hi330_0 hl330_0
                        replace p330 := eq_true p330
                        replace q330 := eq_true q330
                        go_upto_region 10 with (fail)
                        go_cut [44] (fun v44 wc => ∃ (kq : Nat) (x44_27 : Bool), v44 = .bool x44_27 ∧ Aside0 (laws_FnMatchAny.j3 kq l0 l1 x5_3 x6_3 (rd_L4 l0 x28_3) l0 (l0.length : Int) x28_3 x44_27 = some r) ∧ Aside0 (kq ≤ k3) ∧ Aside0 (Kd.S (Kd.slice 40 k40) 54 wc w.heap.size (fun _ => True) u6 x6_3) ∧ Aside0 (Below w.heap.size w wc))
                        case first =>
                          have H := HC28.out
                          clear HC28
                          replace H := Option.bind_eq_some_iff.mp H
                          obtain ⟨t331, A290, H⟩ := H
                          replace H : (if t331 = true then (if (l0.length : Int) > 1000 then (laws_FnMatchAny.j3 k3 l0 l1 x5_3 x6_3 (rd_L4 l0 x28_3) l0 (l0.length : Int) x28_3 true) else (laws_FnMatchAny.j3 k3 l0 l1 x5_3 x6_3 (rd_L4 l0 x28_3) l0 (l0.length : Int) x28_3 (decide ((l1.length : Int) > 10000)))) else (laws_FnMatchAny.j3 k3 l0 l1 x5_3 x6_3 (rd_L4 l0 x28_3) l0 (l0.length : Int) x28_3 true)) = some r := H
                          have A29 := Aside0.mk A290
                          clear A290
                          by_cases c30 : t331 = true
                          · subst c30
                            have H1 : (if (l0.length : Int) > 1000 then (laws_FnMatchAny.j3 k3 l0 l1 x5_3 x6_3 (rd_L4 l0 x28_3) l0 (l0.length : Int) x28_3 true) else (laws_FnMatchAny.j3 k3 l0 l1 x5_3 x6_3 (rd_L4 l0 x28_3) l0 (l0.length : Int) x28_3 (decide ((l1.length : Int) > 10000)))) = some r := by rw [if_pos rfl] at H; exact H
                            clear H
                            have H := H1
                            clear H1
                            by_cases c31 : (l0.length : Int) > 1000
                            · rw [if_pos c31] at H
                              have c31b0 : decide (1000 < (l0.length : Int)) = true := decide_eq_true c31
                              have c31b1 : decide (1000 < l0.length) = true := decide_eq_true (by omega)
                              clear c31
                              (first | rw [c31b0] | (simp only [i64_w, i32_w]; rw [c31b0]) | skip)
                              have H' := Aside0.mk H
                              clear H
                              go_wp2_with (first | ((with_reducible refine gate_callee (f := 30) rfl ?_); refine goesL_ (some 33) rfl rfl Try.func30 (by kernel_rfl) rfl #[.slice A330_0 (rd_L4 l0 x28_3).length c330_0] rfl (by (try simp only [List.map_toArray, List.map_cons, List.map_nil]); first | done | rfl | (simp only [List.length_drop, List.length_take]; rfl)) ?_; (with_reducible refine (laws_values.calls k3 _ _ (rd_L4 l0 x28_3) true _ ?side1 ?side2 A29.out).mono ?_); (case side1 => repeat (first | exact (Kd.C_below HR330_0.out HB.out) | (with_reducible refine Kd.C_alloc ?_ _) | (with_reducible refine Kd.C_drewN ?_ _) | (with_reducible refine Kd.C_drew ?_))); (case side2 => exact HC330_0.out); rintro e w32 ⟨rfl, hb⟩; refine ⟨_, rfl, ?_⟩; have n0_ := Aside0.mk (Kd.S_below (by (with_reducible repeat (first | apply Kd.S_alloc | apply Kd.S_drewN | apply Kd.S_drew)); exact HO_6.out) hb); have n1_ := Aside0.mk (below_step (by repeat (first | (with_reducible first | exact HB.out | apply below_alloc | apply pw_below_drewN | apply below_drew1) | exact HB.out)) hb); clear HO_6; clear HB; have HO_6 := n0_; have HB := n1_; clear n0_ n1_; (try clear hb); (try clear hb2); (try clear hk); (try clear hi)))
                              go_meet
                              case rel => exact ⟨_, (true), (by first | rfl | (simp; done) | (simp [*]; done)), H', ⟨by have := HJ2.out; have := HJ10.out; have := HK3.out; first | omega | exact Nat.le_refl _⟩, ⟨by (with_reducible repeat (first | apply Kd.S_alloc | apply Kd.S_drewN | apply Kd.S_drew)); exact HO_6.out⟩, ⟨by repeat (first | (with_reducible first | exact HB.out | apply below_alloc | apply pw_below_drewN | apply below_drew1) | exact HB.out)⟩⟩
                            · rw [if_neg c31] at H
                              have c31b0 : decide (1000 < (l0.length : Int)) = false := decide_eq_false c31
                              have c31b1 : decide (1000 < l0.length) = false := decide_eq_false (by omega)
                              clear c31
                              (first | rw [c31b0] | (simp only [i64_w, i32_w]; rw [c31b0]) | skip)
                              have H' := Aside0.mk H
                              clear H
                              go_wp2_with (first | ((with_reducible refine gate_callee (f := 30) rfl ?_); refine goesL_ (some 33) rfl rfl Try.func30 (by kernel_rfl) rfl #[.slice A330_0 (rd_L4 l0 x28_3).length c330_0] rfl (by (try simp only [List.map_toArray, List.map_cons, List.map_nil]); first | done | rfl | (simp only [List.length_drop, List.length_take]; rfl)) ?_; (with_reducible refine (laws_values.calls k3 _ _ (rd_L4 l0 x28_3) true _ ?side1 ?side2 A29.out).mono ?_); (case side1 => repeat (first | exact (Kd.C_below HR330_0.out HB.out) | (with_reducible refine Kd.C_alloc ?_ _) | (with_reducible refine Kd.C_drewN ?_ _) | (with_reducible refine Kd.C_drew ?_))); (case side2 => exact HC330_0.out); rintro e w33 ⟨rfl, hb⟩; refine ⟨_, rfl, ?_⟩; have n0_ := Aside0.mk (Kd.S_below (by (with_reducible repeat (first | apply Kd.S_alloc | apply Kd.S_drewN | apply Kd.S_drew)); exact HO_6.out) hb); have n1_ := Aside0.mk (below_step (by repeat (first | (with_reducible first | exact HB.out | apply below_alloc | apply pw_below_drewN | apply below_drew1) | exact HB.out)) hb); clear HO_6; clear HB; have HO_6 := n0_; have HB := n1_; clear n0_ n1_; (try clear hb); (try clear hb2); (try clear hk); (try clear hi)))
                              go_meet
                              case rel => exact ⟨_, (decide ((l1.length : Int) > 10000)), (by first | rfl | (simp; done) | (simp [*]; done)), H', ⟨by have := HJ2.out; have := HJ10.out; have := HK3.out; first | omega | exact Nat.le_refl _⟩, ⟨by (with_reducible repeat (first | apply Kd.S_alloc | apply Kd.S_drewN | apply Kd.S_drew)); exact HO_6.out⟩, ⟨by repeat (first | (with_reducible first | exact HB.out | apply below_alloc | apply pw_below_drewN | apply below_drew1) | exact HB.out)⟩⟩
                          · replace c30 := Bool.eq_false_iff.mpr c30
                            subst c30
                            have H1 : (laws_FnMatchAny.j3 k3 l0 l1 x5_3 x6_3 (rd_L4 l0 x28_3) l0 (l0.length : Int) x28_3 true) = some r := by rw [if_neg (show ¬ (false = true) by decide)] at H; exact H
                            clear H
                            have H := H1
                            clear H1
                            have H' := Aside0.mk H
                            clear H
                            go_wp2_with (first | ((with_reducible refine gate_callee (f := 30) rfl ?_); refine goesL_ (some 33) rfl rfl Try.func30 (by kernel_rfl) rfl #[.slice A330_0 (rd_L4 l0 x28_3).length c330_0] rfl (by (try simp only [List.map_toArray, List.map_cons, List.map_nil]); first | done | rfl | (simp only [List.length_drop, List.length_take]; rfl)) ?_; (with_reducible refine (laws_values.calls k3 _ _ (rd_L4 l0 x28_3) false _ ?side1 ?side2 A29.out).mono ?_); (case side1 => repeat (first | exact (Kd.C_below HR330_0.out HB.out) | (with_reducible refine Kd.C_alloc ?_ _) | (with_reducible refine Kd.C_drewN ?_ _) | (with_reducible refine Kd.C_drew ?_))); (case side2 => exact HC330_0.out); rintro e w34 ⟨rfl, hb⟩; refine ⟨_, rfl, ?_⟩; have n0_ := Aside0.mk (Kd.S_below (by (with_reducible repeat (first | apply Kd.S_alloc | apply Kd.S_drewN | apply Kd.S_drew)); exact HO_6.out) hb); have n1_ := Aside0.mk (below_step (by repeat (first | (with_reducible first | exact HB.out | apply below_alloc | apply pw_below_drewN | apply below_drew1) | exact HB.out)) hb); clear HO_6; clear HB; have HO_6 := n0_; have HB := n1_; clear n0_ n1_; (try clear hb); (try clear hb2); (try clear hk); (try clear hi)))
                            go_meet
                            case rel => exact ⟨_, (true), (by first | rfl | (simp; done) | (simp [*]; done)), H', ⟨by have := HJ2.out; have := HJ10.out; have := HK3.out; first | omega | exact Nat.le_refl _⟩, ⟨by (with_reducible repeat (first | apply Kd.S_alloc | apply Kd.S_drewN | apply Kd.S_drew)); exact HO_6.out⟩, ⟨by repeat (first | (with_reducible first | exact HB.out | apply below_alloc | apply pw_below_drewN | apply below_drew1) | exact HB.out)⟩⟩
                        case rest =>
                          clear HC28
                          try clear c1
                          try clear c2
                          try clear p2
                          try clear c3
                          try clear p3
                          try clear q3
                          try clear hx3
                          try clear c5
                          try clear c9
                          try clear c10
                          try clear c13
                          try clear c24
                          try clear c25
                          try clear c25b0
                          try clear c26
                          try clear c26b0
                          try clear c27
                          try clear c27b0
                          try clear c30
                          try clear c31
                          try clear c31b0
                          try clear c31b1
                          try clear c33
                          try clear p33
                          try clear q33
                          try clear hx33
                          try clear hx330_0
                          try clear p2
                          try clear p330
                          try clear q330
                          obtain ⟨kq, x44_27, rfl, HA, HJ27, HO_6, HB⟩ := hcut
                          cases kq with
                          | zero => exact absurd HA.out (by simp [laws_FnMatchAny.j3])
                          | succ kj27 =>
                            have H := HA.out
                            clear HA
                            simp only [laws_FnMatchAny.j3] at H
                            by_cases c35 : x44_27 = true
                            · subst c35
                              have H1 : (some true) = some r := by rw [if_pos rfl] at H; exact H
                              clear H
                              have H := H1
                              clear H1
                              obtain rfl := Option.some.inj H
                              go_wp2
                              go_ret
                              exact ⟨by first | rfl | (simp [errW_none, errW_some] <;> rfl) | (simp [*, errW_none, errW_some] <;> rfl), by repeat (first | (with_reducible first | exact HB.out | apply below_alloc | apply pw_below_drewN | apply below_drew1) | exact HB.out)⟩
                            · replace c35 := Bool.eq_false_iff.mpr c35
                              subst c35
                              have H1 : (if x5_3 = true then ((laws_matchers.f kj27 (rd_L4 l0 x28_3)).bind fun t332 => (if x6_3.length < 5864062014805 then (laws_FnMatchAny.l0 kj27 l0 l1 true (x6_3 ++ [t332]) l0 (l0.length : Int) (wrap64 (x28_3 + 1))) else (none))) else ((laws_fits.f kj27 (rd_L4 l0 x28_3) l1).bind fun t338 => ((laws_matchers.f kj27 (rd_L4 l0 x28_3)).bind fun t339 => (if x6_3.length < 5864062014805 then (laws_FnMatchAny.l0 kj27 l0 l1 t338 (x6_3 ++ [t339]) l0 (l0.length : Int) (wrap64 (x28_3 + 1))) else (none))))) = some r := by rw [if_neg (show ¬ (false = true) by decide)] at H; exact H
                              clear H
                              have H := H1
                              clear H1
                              by_cases c36 : x5_3 = true
                              · subst c36
                                have H1 : ((laws_matchers.f kj27 (rd_L4 l0 x28_3)).bind fun t332 => (if x6_3.length < 5864062014805 then (laws_FnMatchAny.l0 kj27 l0 l1 true (x6_3 ++ [t332]) l0 (l0.length : Int) (wrap64 (x28_3 + 1))) else (none))) = some r := by rw [if_pos rfl] at H; exact H
                                clear H
                                have H := H1
                                clear H1
                                replace H := Option.bind_eq_some_iff.mp H
                                obtain ⟨t332, A370, H⟩ := H
                                replace H : (if x6_3.length < 5864062014805 then (laws_FnMatchAny.l0 kj27 l0 l1 true (x6_3 ++ [t332]) l0 (l0.length : Int) (wrap64 (x28_3 + 1))) else (none)) = some r := H
                                have A37 := Aside0.mk A370
                                clear A370
                                by_cases c38 : x6_3.length < 5864062014805
                                · rw [if_pos c38] at H
                                  have LMc38 := Aside0.mk c38
                                  clear c38
                                  obtain ⟨y335, hy335⟩ : ∃ y_ : List (List (S40)), y_ = (x6_3 ++ [t332]) := ⟨_, rfl⟩
                                  replace H : (laws_FnMatchAny.l0 kj27 l0 l1 true y335 l0 (l0.length : Int) (wrap64 (x28_3 + 1))) = some r := by first | (rw [hy335]; with_reducible exact H) | (have H2_ := (Option.bind_some _ _).symm.trans H; rw [hy335]; with_reducible exact H2_) | (have H2_ := (Option.bind_some _ _).symm.trans H; with_reducible exact H2_) | with_reducible exact H | (rw [hy335]; exact H) | exact H
                                  have Ny335 := Aside0.mk hy335
                                  clear hy335
                                  have H' := Aside0.mk H
                                  clear H
                                  go_wp2_with (first | ((with_reducible refine gate_callee (f := 34) rfl ?_); refine goesL_ (some 53) rfl rfl Try.func34 (by kernel_rfl) rfl #[.slice A330_0 (rd_L4 l0 x28_3).length c330_0] rfl (by (try simp only [List.map_toArray, List.map_cons, List.map_nil]); first | done | rfl | (simp only [List.length_drop, List.length_take]; rfl)) ?_; (with_reducible refine (laws_matchers.calls kj27 _ _ (rd_L4 l0 x28_3) t332 _ ?side1 ?side2 A37.out).mono ?_); (case side1 => repeat (first | exact (Kd.C_below HR330_0.out HB.out) | (with_reducible refine Kd.C_alloc ?_ _) | (with_reducible refine Kd.C_drewN ?_ _) | (with_reducible refine Kd.C_drew ?_))); (case side2 => exact HC330_0.out); rintro e w39 ⟨v333, rfl, ho0, hb⟩; refine ⟨_, rfl, ?_⟩; have n0_ := Aside0.mk (Kd.S_elder' (by (with_reducible repeat (first | apply Kd.S_alloc | apply Kd.S_drewN | apply Kd.S_drew)); exact HO_6.out) (Kd.R_base ho0) hb); have n1_ := Aside0.mk (Kd.R_lower ho0 (below_size (by repeat (first | (with_reducible first | exact HB.out | apply below_alloc | apply pw_below_drewN | apply below_drew1) | exact HB.out)))); have n2_ := Aside0.mk (below_step (by repeat (first | (with_reducible first | exact HB.out | apply below_alloc | apply pw_below_drewN | apply below_drew1) | exact HB.out)) hb); clear HO_6; clear HB; have HO_6 := n0_; have HO334 := n1_; have HB := n2_; clear n0_ n1_ n2_; (try clear hb); (try clear hb2); (try clear hk); (try clear hi); (try clear ho0); obtain ⟨Ao41, co41, eo41⟩ := Kd.R_slice HO334.out; subst eo41) | ((with_reducible refine gate_builtin (b := .append) (xs := #[.tmp 51, .tmp 54]) rfl ?_); (try (refine gate_guard (by rfl) ?_; dsimp only)); at_builtin; refine Kd.S_append (Kd.slice 40 k40) (w0 := w) w.heap.size rfl (.tmp 51) (.tmp 54) 59 54 (.slice none 0 0) 24 rfl Try.underlying59 info54 rfl (by decide) (by omega) u6 x6_3 t332 [.slice Ao41 t332.length co41] (fun _ => True) (fun k_ => some k_ = (.slice Ao41 t332.length co41 : Value).ownBlock) rfl rfl ?aP (fun k_ hk_ => ((Kd.R_mono (ok' := fun k_ => ((fun _ => True)) k_ ∧ some k_ ≠ (u6 : Value).ownBlock) (Kd.R_apart' (HO334.out) (Kd.S_typed HO_6.out) (by decide)) (fun k_ hk => ⟨trivial, hk.2⟩))).1 k_ hk_.symm) ?aF ?aO ?aB ?aS ?aL ?_; (case aP => exact Kd.M_row (Kd.R_mono (Kd.R_tight rfl (Kd.R_mono (ok' := fun k_ => ((fun _ => True)) k_ ∧ some k_ ≠ (u6 : Value).ownBlock) (Kd.R_apart' (HO334.out) (Kd.S_typed HO_6.out) (by decide)) (fun k_ hk => ⟨trivial, hk.2⟩))) (fun _ h_ => h_))); (case aB => exact (by repeat (first | (with_reducible first | exact HB.out | apply below_alloc | apply pw_below_drewN | apply below_drew1) | exact HB.out))); (case aF => exact (fun _ _ => trivial)); (case aO => exact (by (with_reducible repeat (first | apply Kd.S_alloc | apply Kd.S_drewN | apply Kd.S_drew)); exact Kd.S_mono HO_6.out (fun k_ hk => ⟨trivial, fun e_ => hk.2 e_⟩))); (case aS => exact (below_size (by repeat (first | (with_reducible first | exact HB.out | apply below_alloc | apply pw_below_drewN | apply below_drew1) | exact HB.out)))); (case aL => have := LMc38.out; omega); intro v336 w40 ho hb hg hat; rw [← Ny335.out] at ho; have n0_ := Aside0.mk (hb); have n1_ := Aside0.mk (ho); clear HB; clear HO_6; clear HO334; have HB := n0_; have HO337 := n1_; clear n0_ n1_; clear ho hb hg hat))
                                  go_roundg kj27
                                  case measure => have := HJ2.out; have := HJ10.out; have := HK3.out; have := HJ27.out; omega
                                  case rel => exact ⟨(true), (y335), (wrap64 (x28_3 + 1)), (by first | rfl | (simp; done) | (simp [*]; done)), (by first | rfl | (simp; done) | (simp [*]; done)), H', ⟨by have := HJ2.out; have := HJ10.out; have := HK3.out; have := HJ27.out; omega⟩, ⟨by (with_reducible repeat (first | apply Kd.S_alloc | apply Kd.S_drewN | apply Kd.S_drew)); exact HO337.out⟩, ⟨by repeat (first | (with_reducible first | exact HB.out | apply below_alloc | apply pw_below_drewN | apply below_drew1) | exact HB.out)⟩⟩
                                · rw [if_neg c38] at H
                                  exact absurd H (by simp)
                              · replace c36 := Bool.eq_false_iff.mpr c36
                                subst c36
                                have H1 : ((laws_fits.f kj27 (rd_L4 l0 x28_3) l1).bind fun t338 => ((laws_matchers.f kj27 (rd_L4 l0 x28_3)).bind fun t339 => (if x6_3.length < 5864062014805 then (laws_FnMatchAny.l0 kj27 l0 l1 t338 (x6_3 ++ [t339]) l0 (l0.length : Int) (wrap64 (x28_3 + 1))) else (none)))) = some r := by rw [if_neg (show ¬ (false = true) by decide)] at H; exact H
                                clear H
                                have H := H1
                                clear H1
                                replace H := Option.bind_eq_some_iff.mp H
                                obtain ⟨t338, A420, H⟩ := H
                                replace H : ((laws_matchers.f kj27 (rd_L4 l0 x28_3)).bind fun t339 => (if x6_3.length < 5864062014805 then (laws_FnMatchAny.l0 kj27 l0 l1 t338 (x6_3 ++ [t339]) l0 (l0.length : Int) (wrap64 (x28_3 + 1))) else (none))) = some r := H
                                have A42 := Aside0.mk A420
                                clear A420
                                replace H := Option.bind_eq_some_iff.mp H
                                obtain ⟨t339, A430, H⟩ := H
                                replace H : (if x6_3.length < 5864062014805 then (laws_FnMatchAny.l0 kj27 l0 l1 t338 (x6_3 ++ [t339]) l0 (l0.length : Int) (wrap64 (x28_3 + 1))) else (none)) = some r := H
                                have A43 := Aside0.mk A430
                                clear A430
                                by_cases c44 : x6_3.length < 5864062014805
                                · rw [if_pos c44] at H
                                  have LMc44 := Aside0.mk c44
                                  clear c44
                                  obtain ⟨y342, hy342⟩ : ∃ y_ : List (List (S40)), y_ = (x6_3 ++ [t339]) := ⟨_, rfl⟩
                                  replace H : (laws_FnMatchAny.l0 kj27 l0 l1 t338 y342 l0 (l0.length : Int) (wrap64 (x28_3 + 1))) = some r := by first | (rw [hy342]; with_reducible exact H) | (have H2_ := (Option.bind_some _ _).symm.trans H; rw [hy342]; with_reducible exact H2_) | (have H2_ := (Option.bind_some _ _).symm.trans H; with_reducible exact H2_) | with_reducible exact H | (rw [hy342]; exact H) | exact H
                                  have Ny342 := Aside0.mk hy342
                                  clear hy342
                                  have H' := Aside0.mk H
                                  clear H
                                  go_wp2_with (first | (go_at_call 32; (with_reducible refine (laws_fits.calls kj27 _ _ (rd_L4 l0 x28_3) _ _ l1 t338 _ ?side1 ?side2 ?side3 ?side4 A42.out).mono ?_); (case side1 => repeat (first | exact (Kd.C_below HR330_0.out HB.out) | (with_reducible refine Kd.C_alloc ?_ _) | (with_reducible refine Kd.C_drewN ?_ _) | (with_reducible refine Kd.C_drew ?_))); (case side2 => exact HC330_0.out); (case side3 => repeat (first | exact (Kd.C_below HR1.out HB.out) | (with_reducible refine Kd.C_alloc ?_ _) | (with_reducible refine Kd.C_drewN ?_ _) | (with_reducible refine Kd.C_drew ?_))); (case side4 => exact HC1.out); rintro e w45 ⟨rfl, hb⟩; have n0_ := Aside0.mk (Kd.S_below (by (with_reducible repeat (first | apply Kd.S_alloc | apply Kd.S_drewN | apply Kd.S_drew)); exact HO_6.out) hb); have n1_ := Aside0.mk (below_step (by repeat (first | (with_reducible first | exact HB.out | apply below_alloc | apply pw_below_drewN | apply below_drew1) | exact HB.out)) hb); clear HO_6; clear HB; have HO_6 := n0_; have HB := n1_; clear n0_ n1_; (try clear hb); (try clear hb2); (try clear hk); (try clear hi)) | ((with_reducible refine gate_callee (f := 34) rfl ?_); refine goesL_ (some 53) rfl rfl Try.func34 (by kernel_rfl) rfl #[.slice A330_0 (rd_L4 l0 x28_3).length c330_0] rfl (by (try simp only [List.map_toArray, List.map_cons, List.map_nil]); first | done | rfl | (simp only [List.length_drop, List.length_take]; rfl)) ?_; (with_reducible refine (laws_matchers.calls kj27 _ _ (rd_L4 l0 x28_3) t339 _ ?side1 ?side2 A43.out).mono ?_); (case side1 => repeat (first | exact (Kd.C_below HR330_0.out HB.out) | (with_reducible refine Kd.C_alloc ?_ _) | (with_reducible refine Kd.C_drewN ?_ _) | (with_reducible refine Kd.C_drew ?_))); (case side2 => exact HC330_0.out); rintro e w46 ⟨v340, rfl, ho0, hb⟩; refine ⟨_, rfl, ?_⟩; have n0_ := Aside0.mk (Kd.S_elder' (by (with_reducible repeat (first | apply Kd.S_alloc | apply Kd.S_drewN | apply Kd.S_drew)); exact HO_6.out) (Kd.R_base ho0) hb); have n1_ := Aside0.mk (Kd.R_lower ho0 (below_size (by repeat (first | (with_reducible first | exact HB.out | apply below_alloc | apply pw_below_drewN | apply below_drew1) | exact HB.out)))); have n2_ := Aside0.mk (below_step (by repeat (first | (with_reducible first | exact HB.out | apply below_alloc | apply pw_below_drewN | apply below_drew1) | exact HB.out)) hb); clear HO_6; clear HB; have HO_6 := n0_; have HO341 := n1_; have HB := n2_; clear n0_ n1_ n2_; (try clear hb); (try clear hb2); (try clear hk); (try clear hi); (try clear ho0); obtain ⟨Ao48, co48, eo48⟩ := Kd.R_slice HO341.out; subst eo48) | ((with_reducible refine gate_builtin (b := .append) (xs := #[.tmp 51, .tmp 54]) rfl ?_); (try (refine gate_guard (by rfl) ?_; dsimp only)); at_builtin; refine Kd.S_append (Kd.slice 40 k40) (w0 := w) w.heap.size rfl (.tmp 51) (.tmp 54) 59 54 (.slice none 0 0) 24 rfl Try.underlying59 info54 rfl (by decide) (by omega) u6 x6_3 t339 [.slice Ao48 t339.length co48] (fun _ => True) (fun k_ => some k_ = (.slice Ao48 t339.length co48 : Value).ownBlock) rfl rfl ?aP (fun k_ hk_ => ((Kd.R_mono (ok' := fun k_ => ((fun _ => True)) k_ ∧ some k_ ≠ (u6 : Value).ownBlock) (Kd.R_apart' (HO341.out) (Kd.S_typed HO_6.out) (by decide)) (fun k_ hk => ⟨trivial, hk.2⟩))).1 k_ hk_.symm) ?aF ?aO ?aB ?aS ?aL ?_; (case aP => exact Kd.M_row (Kd.R_mono (Kd.R_tight rfl (Kd.R_mono (ok' := fun k_ => ((fun _ => True)) k_ ∧ some k_ ≠ (u6 : Value).ownBlock) (Kd.R_apart' (HO341.out) (Kd.S_typed HO_6.out) (by decide)) (fun k_ hk => ⟨trivial, hk.2⟩))) (fun _ h_ => h_))); (case aB => exact (by repeat (first | (with_reducible first | exact HB.out | apply below_alloc | apply pw_below_drewN | apply below_drew1) | exact HB.out))); (case aF => exact (fun _ _ => trivial)); (case aO => exact (by (with_reducible repeat (first | apply Kd.S_alloc | apply Kd.S_drewN | apply Kd.S_drew)); exact Kd.S_mono HO_6.out (fun k_ hk => ⟨trivial, fun e_ => hk.2 e_⟩))); (case aS => exact (below_size (by repeat (first | (with_reducible first | exact HB.out | apply below_alloc | apply pw_below_drewN | apply below_drew1) | exact HB.out)))); (case aL => have := LMc44.out; omega); intro v343 w47 ho hb hg hat; rw [← Ny342.out] at ho; have n0_ := Aside0.mk (hb); have n1_ := Aside0.mk (ho); clear HB; clear HO_6; clear HO341; have HB := n0_; have HO344 := n1_; clear n0_ n1_; clear ho hb hg hat))
                                  go_roundg kj27
                                  case measure => have := HJ2.out; have := HJ10.out; have := HK3.out; have := HJ27.out; omega
                                  case rel => exact ⟨(t338), (y342), (wrap64 (x28_3 + 1)), (by first | rfl | (simp; done) | (simp [*]; done)), (by first | rfl | (simp; done) | (simp [*]; done)), H', ⟨by have := HJ2.out; have := HJ10.out; have := HK3.out; have := HJ27.out; omega⟩, ⟨by (with_reducible repeat (first | apply Kd.S_alloc | apply Kd.S_drewN | apply Kd.S_drew)); exact HO344.out⟩, ⟨by repeat (first | (with_reducible first | exact HB.out | apply below_alloc | apply pw_below_drewN | apply below_drew1) | exact HB.out)⟩⟩
                                · rw [if_neg c44] at H
                                  exact absurd H (by simp)
                      · rw [if_neg c27] at H
                        exact absurd H (by simp)
                    · rw [if_neg c26] at H
                      exact absurd H (by simp)
                  · rw [if_neg c25] at H
                    have c25b0 : decide (x28_3 < (l0.length : Int)) = false := decide_eq_false c25
                    clear c25
                    replace H := Option.bind_eq_some_iff.mp H
                    obtain ⟨t325, A490, H⟩ := H
                    replace H : ((spec_MatchAny.f k3 x6_3 t325).bind fun t328 => ((impl_MatchAny.f l0 l1).bind fun t329 => (if (t329 == x5_3) = true then (if t328 = 2 then (some true) else (some (x5_3 == (t328 == 1)))) else (some false)))) = some r := H
                    have A49 := Aside0.mk A490
                    clear A490
                    replace H := Option.bind_eq_some_iff.mp H
                    obtain ⟨t328, A500, H⟩ := H
                    replace H : ((impl_MatchAny.f l0 l1).bind fun t329 => (if (t329 == x5_3) = true then (if t328 = 2 then (some true) else (some (x5_3 == (t328 == 1)))) else (some false))) = some r := H
                    have A50 := Aside0.mk A500
                    clear A500
                    replace H := Option.bind_eq_some_iff.mp H
                    obtain ⟨t329, A510, H⟩ := H
                    replace H : (if (t329 == x5_3) = true then (if t328 = 2 then (some true) else (some (x5_3 == (t328 == 1)))) else (some false)) = some r := H
                    have A51 := Aside0.mk A510
                    clear A510
                    by_cases c52 : (t329 == x5_3) = true
                    · rw [if_pos c52] at H
                      have c52b0 : (t329 == x5_3) = true := c52
                      (try (have c52b1 : decide (t329 = x5_3) = true := by simpa using c52))
                      (try (have c52b2 : (t329 == x5_3) = true := by simpa using c52))
                      clear c52
                      by_cases c53 : t328 = 2
                      · rw [if_pos c53] at H
                        have c53b0 : (t328 == 2) = true := beq_iff_eq.mpr c53
                        have c53b1 : (t328 != 2) = false := bne_eq_false_iff_eq.mpr c53
                        clear c53
                        obtain rfl := Option.some.inj H
                        go_wp2_with (first | ((with_reducible refine gate_callee (f := 20) rfl ?_); refine goesL_ (some 59) rfl rfl Try.func20 (by kernel_rfl) rfl #[.slice A1 l1.length c1] rfl (by (try simp only [List.map_toArray, List.map_cons, List.map_nil]); first | done | rfl | (simp only [List.length_drop, List.length_take]; rfl)) ?_; (with_reducible refine (laws_pairs.calls k3 _ _ l1 t325 _ ?side1 ?side2 A49.out).mono ?_); (case side1 => repeat (first | exact (Kd.C_below HR1.out HB.out) | (with_reducible refine Kd.C_alloc ?_ _) | (with_reducible refine Kd.C_drewN ?_ _) | (with_reducible refine Kd.C_drew ?_))); (case side2 => exact HC1.out); rintro e w54 ⟨v326, rfl, ho0, hb⟩; refine ⟨_, rfl, ?_⟩; have n0_ := Aside0.mk (Kd.S_below (by (with_reducible repeat (first | apply Kd.S_alloc | apply Kd.S_drewN | apply Kd.S_drew)); exact HO_6.out) hb); have n1_ := Aside0.mk (Kd.R_lower ho0 (below_size (by repeat (first | (with_reducible first | exact HB.out | apply below_alloc | apply pw_below_drewN | apply below_drew1) | exact HB.out)))); have n2_ := Aside0.mk (below_step (by repeat (first | (with_reducible first | exact HB.out | apply below_alloc | apply pw_below_drewN | apply below_drew1) | exact HB.out)) hb); clear HO_6; clear HB; have HO_6 := n0_; have HO327 := n1_; have HB := n2_; clear n0_ n1_ n2_; (try clear hb); (try clear hb2); (try clear hk); (try clear hi); (try clear ho0); obtain ⟨Ao55, co55, eo55⟩ := Kd.S_slice HO_6.out; subst eo55; obtain ⟨Ao56, co56, eo56⟩ := Kd.R_slice HO327.out; subst eo56) | ((with_reducible refine gate_callee (f := 37) rfl ?_); refine goesL_ (some 60) rfl rfl Try.func37 (by kernel_rfl) rfl #[.slice Ao55 x6_3.length co55, .slice Ao56 t325.length co56] rfl (by (try simp only [List.map_toArray, List.map_cons, List.map_nil]); first | done | rfl | (simp only [List.length_drop, List.length_take]; rfl)) ?_; (with_reducible refine (spec_MatchAny.calls k3 _ _ x6_3 _ _ t325 t328 _ ?side1 ?side2 ?side3 ?side4 A50.out).mono ?_); (case side1 => repeat (first | exact (Kd.S_reads' HO_6.out).2.2 | (with_reducible refine Kd.C_alloc ?_ _) | (with_reducible refine Kd.C_drewN ?_ _) | (with_reducible refine Kd.C_drew ?_))); (case side2 => exact (Kd.S_reads' HO_6.out).2.1); (case side3 => repeat (first | exact (Kd.R_reads' HO327.out).2.2 | (with_reducible refine Kd.C_alloc ?_ _) | (with_reducible refine Kd.C_drewN ?_ _) | (with_reducible refine Kd.C_drew ?_))); (case side4 => exact (Kd.R_reads' HO327.out).2.1); rintro e w57 ⟨rfl, hb⟩; refine ⟨_, rfl, ?_⟩; have n0_ := Aside0.mk (Kd.S_below (by (with_reducible repeat (first | apply Kd.S_alloc | apply Kd.S_drewN | apply Kd.S_drew)); exact HO_6.out) hb); have n1_ := Aside0.mk (Kd.R_below (by (with_reducible repeat (first | apply Kd.R_alloc | apply Kd.R_drewN | apply Kd.R_drew)); exact HO327.out) hb); have n2_ := Aside0.mk (below_step (by repeat (first | (with_reducible first | exact HB.out | apply below_alloc | apply pw_below_drewN | apply below_drew1) | exact HB.out)) hb); clear HO_6; clear HO327; clear HB; have HO_6 := n0_; have HO327 := n1_; have HB := n2_; clear n0_ n1_ n2_; (try clear hb); (try clear hb2); (try clear hk); (try clear hi)) | ((with_reducible refine gate_callee (f := 36) rfl ?_); refine goesL_ (some 63) rfl rfl Try.func36 (by kernel_rfl) rfl #[.slice A0 l0.length c0, .slice A1 l1.length c1] rfl (by (try simp only [List.map_toArray, List.map_cons, List.map_nil]); first | done | rfl | (simp only [List.length_drop, List.length_take]; rfl)) ?_; (with_reducible refine (impl_MatchAny.calls _ _ l0 _ _ l1 t329 _ ?side1 ?side2 ?side3 ?side4 A51.out).mono ?_); (case side1 => repeat (first | exact (Kd.C_below HR0.out HB.out) | (with_reducible refine Kd.C_alloc ?_ _) | (with_reducible refine Kd.C_drewN ?_ _) | (with_reducible refine Kd.C_drew ?_))); (case side2 => exact HC0.out); (case side3 => repeat (first | exact (Kd.C_below HR1.out HB.out) | (with_reducible refine Kd.C_alloc ?_ _) | (with_reducible refine Kd.C_drewN ?_ _) | (with_reducible refine Kd.C_drew ?_))); (case side4 => exact HC1.out); rintro e w58 ⟨rfl, hb⟩; refine ⟨_, rfl, ?_⟩; have n0_ := Aside0.mk (Kd.S_below (by (with_reducible repeat (first | apply Kd.S_alloc | apply Kd.S_drewN | apply Kd.S_drew)); exact HO_6.out) hb); have n1_ := Aside0.mk (Kd.R_below (by (with_reducible repeat (first | apply Kd.R_alloc | apply Kd.R_drewN | apply Kd.R_drew)); exact HO327.out) hb); have n2_ := Aside0.mk (below_step (by repeat (first | (with_reducible first | exact HB.out | apply below_alloc | apply pw_below_drewN | apply below_drew1) | exact HB.out)) hb); clear HO_6; clear HO327; clear HB; have HO_6 := n0_; have HO327 := n1_; have HB := n2_; clear n0_ n1_ n2_; (try clear hb); (try clear hb2); (try clear hk); (try clear hi)))
                        go_ret
                        exact ⟨by first | rfl | (simp [errW_none, errW_some] <;> rfl) | (simp [*, errW_none, errW_some] <;> rfl), by repeat (first | (with_reducible first | exact HB.out | apply below_alloc | apply pw_below_drewN | apply below_drew1) | exact HB.out)⟩
                      · rw [if_neg c53] at H
                        have c53b0 : (t328 == 2) = false := beq_eq_false_iff_ne.mpr c53
                        have c53b1 : (t328 != 2) = true := bne_iff_ne.mpr c53
                        obtain rfl := Option.some.inj H
                        go_wp2_with (first | ((with_reducible refine gate_callee (f := 20) rfl ?_); refine goesL_ (some 59) rfl rfl Try.func20 (by kernel_rfl) rfl #[.slice A1 l1.length c1] rfl (by (try simp only [List.map_toArray, List.map_cons, List.map_nil]); first | done | rfl | (simp only [List.length_drop, List.length_take]; rfl)) ?_; (with_reducible refine (laws_pairs.calls k3 _ _ l1 t325 _ ?side1 ?side2 A49.out).mono ?_); (case side1 => repeat (first | exact (Kd.C_below HR1.out HB.out) | (with_reducible refine Kd.C_alloc ?_ _) | (with_reducible refine Kd.C_drewN ?_ _) | (with_reducible refine Kd.C_drew ?_))); (case side2 => exact HC1.out); rintro e w59 ⟨v326, rfl, ho0, hb⟩; refine ⟨_, rfl, ?_⟩; have n0_ := Aside0.mk (Kd.S_below (by (with_reducible repeat (first | apply Kd.S_alloc | apply Kd.S_drewN | apply Kd.S_drew)); exact HO_6.out) hb); have n1_ := Aside0.mk (Kd.R_lower ho0 (below_size (by repeat (first | (with_reducible first | exact HB.out | apply below_alloc | apply pw_below_drewN | apply below_drew1) | exact HB.out)))); have n2_ := Aside0.mk (below_step (by repeat (first | (with_reducible first | exact HB.out | apply below_alloc | apply pw_below_drewN | apply below_drew1) | exact HB.out)) hb); clear HO_6; clear HB; have HO_6 := n0_; have HO327 := n1_; have HB := n2_; clear n0_ n1_ n2_; (try clear hb); (try clear hb2); (try clear hk); (try clear hi); (try clear ho0); obtain ⟨Ao60, co60, eo60⟩ := Kd.S_slice HO_6.out; subst eo60; obtain ⟨Ao61, co61, eo61⟩ := Kd.R_slice HO327.out; subst eo61) | ((with_reducible refine gate_callee (f := 37) rfl ?_); refine goesL_ (some 60) rfl rfl Try.func37 (by kernel_rfl) rfl #[.slice Ao60 x6_3.length co60, .slice Ao61 t325.length co61] rfl (by (try simp only [List.map_toArray, List.map_cons, List.map_nil]); first | done | rfl | (simp only [List.length_drop, List.length_take]; rfl)) ?_; (with_reducible refine (spec_MatchAny.calls k3 _ _ x6_3 _ _ t325 t328 _ ?side1 ?side2 ?side3 ?side4 A50.out).mono ?_); (case side1 => repeat (first | exact (Kd.S_reads' HO_6.out).2.2 | (with_reducible refine Kd.C_alloc ?_ _) | (with_reducible refine Kd.C_drewN ?_ _) | (with_reducible refine Kd.C_drew ?_))); (case side2 => exact (Kd.S_reads' HO_6.out).2.1); (case side3 => repeat (first | exact (Kd.R_reads' HO327.out).2.2 | (with_reducible refine Kd.C_alloc ?_ _) | (with_reducible refine Kd.C_drewN ?_ _) | (with_reducible refine Kd.C_drew ?_))); (case side4 => exact (Kd.R_reads' HO327.out).2.1); rintro e w62 ⟨rfl, hb⟩; refine ⟨_, rfl, ?_⟩; have n0_ := Aside0.mk (Kd.S_below (by (with_reducible repeat (first | apply Kd.S_alloc | apply Kd.S_drewN | apply Kd.S_drew)); exact HO_6.out) hb); have n1_ := Aside0.mk (Kd.R_below (by (with_reducible repeat (first | apply Kd.R_alloc | apply Kd.R_drewN | apply Kd.R_drew)); exact HO327.out) hb); have n2_ := Aside0.mk (below_step (by repeat (first | (with_reducible first | exact HB.out | apply below_alloc | apply pw_below_drewN | apply below_drew1) | exact HB.out)) hb); clear HO_6; clear HO327; clear HB; have HO_6 := n0_; have HO327 := n1_; have HB := n2_; clear n0_ n1_ n2_; (try clear hb); (try clear hb2); (try clear hk); (try clear hi)) | ((with_reducible refine gate_callee (f := 36) rfl ?_); refine goesL_ (some 63) rfl rfl Try.func36 (by kernel_rfl) rfl #[.slice A0 l0.length c0, .slice A1 l1.length c1] rfl (by (try simp only [List.map_toArray, List.map_cons, List.map_nil]); first | done | rfl | (simp only [List.length_drop, List.length_take]; rfl)) ?_; (with_reducible refine (impl_MatchAny.calls _ _ l0 _ _ l1 t329 _ ?side1 ?side2 ?side3 ?side4 A51.out).mono ?_); (case side1 => repeat (first | exact (Kd.C_below HR0.out HB.out) | (with_reducible refine Kd.C_alloc ?_ _) | (with_reducible refine Kd.C_drewN ?_ _) | (with_reducible refine Kd.C_drew ?_))); (case side2 => exact HC0.out); (case side3 => repeat (first | exact (Kd.C_below HR1.out HB.out) | (with_reducible refine Kd.C_alloc ?_ _) | (with_reducible refine Kd.C_drewN ?_ _) | (with_reducible refine Kd.C_drew ?_))); (case side4 => exact HC1.out); rintro e w63 ⟨rfl, hb⟩; refine ⟨_, rfl, ?_⟩; have n0_ := Aside0.mk (Kd.S_below (by (with_reducible repeat (first | apply Kd.S_alloc | apply Kd.S_drewN | apply Kd.S_drew)); exact HO_6.out) hb); have n1_ := Aside0.mk (Kd.R_below (by (with_reducible repeat (first | apply Kd.R_alloc | apply Kd.R_drewN | apply Kd.R_drew)); exact HO327.out) hb); have n2_ := Aside0.mk (below_step (by repeat (first | (with_reducible first | exact HB.out | apply below_alloc | apply pw_below_drewN | apply below_drew1) | exact HB.out)) hb); clear HO_6; clear HO327; clear HB; have HO_6 := n0_; have HO327 := n1_; have HB := n2_; clear n0_ n1_ n2_; (try clear hb); (try clear hb2); (try clear hk); (try clear hi)))
                        go_ret
                        exact ⟨by first | rfl | (simp [errW_none, errW_some] <;> rfl) | (simp [*, errW_none, errW_some] <;> rfl), by repeat (first | (with_reducible first | exact HB.out | apply below_alloc | apply pw_below_drewN | apply below_drew1) | exact HB.out)⟩
                    · rw [if_neg c52] at H
                      have c52b0 : (t329 == x5_3) = false := by simpa using c52
                      (try (have c52b1 : decide (t329 = x5_3) = false := by simpa using c52))
                      (try (have c52b2 : (t329 == x5_3) = false := by simpa using c52))
                      (try (have c52b3 : ¬ (t329 = x5_3) := by simpa using c52))
                      clear c52
                      obtain rfl := Option.some.inj H
                      go_wp2_with (first | ((with_reducible refine gate_callee (f := 20) rfl ?_); refine goesL_ (some 59) rfl rfl Try.func20 (by kernel_rfl) rfl #[.slice A1 l1.length c1] rfl (by (try simp only [List.map_toArray, List.map_cons, List.map_nil]); first | done | rfl | (simp only [List.length_drop, List.length_take]; rfl)) ?_; (with_reducible refine (laws_pairs.calls k3 _ _ l1 t325 _ ?side1 ?side2 A49.out).mono ?_); (case side1 => repeat (first | exact (Kd.C_below HR1.out HB.out) | (with_reducible refine Kd.C_alloc ?_ _) | (with_reducible refine Kd.C_drewN ?_ _) | (with_reducible refine Kd.C_drew ?_))); (case side2 => exact HC1.out); rintro e w64 ⟨v326, rfl, ho0, hb⟩; refine ⟨_, rfl, ?_⟩; have n0_ := Aside0.mk (Kd.S_below (by (with_reducible repeat (first | apply Kd.S_alloc | apply Kd.S_drewN | apply Kd.S_drew)); exact HO_6.out) hb); have n1_ := Aside0.mk (Kd.R_lower ho0 (below_size (by repeat (first | (with_reducible first | exact HB.out | apply below_alloc | apply pw_below_drewN | apply below_drew1) | exact HB.out)))); have n2_ := Aside0.mk (below_step (by repeat (first | (with_reducible first | exact HB.out | apply below_alloc | apply pw_below_drewN | apply below_drew1) | exact HB.out)) hb); clear HO_6; clear HB; have HO_6 := n0_; have HO327 := n1_; have HB := n2_; clear n0_ n1_ n2_; (try clear hb); (try clear hb2); (try clear hk); (try clear hi); (try clear ho0); obtain ⟨Ao65, co65, eo65⟩ := Kd.S_slice HO_6.out; subst eo65; obtain ⟨Ao66, co66, eo66⟩ := Kd.R_slice HO327.out; subst eo66) | ((with_reducible refine gate_callee (f := 37) rfl ?_); refine goesL_ (some 60) rfl rfl Try.func37 (by kernel_rfl) rfl #[.slice Ao65 x6_3.length co65, .slice Ao66 t325.length co66] rfl (by (try simp only [List.map_toArray, List.map_cons, List.map_nil]); first | done | rfl | (simp only [List.length_drop, List.length_take]; rfl)) ?_; (with_reducible refine (spec_MatchAny.calls k3 _ _ x6_3 _ _ t325 t328 _ ?side1 ?side2 ?side3 ?side4 A50.out).mono ?_); (case side1 => repeat (first | exact (Kd.S_reads' HO_6.out).2.2 | (with_reducible refine Kd.C_alloc ?_ _) | (with_reducible refine Kd.C_drewN ?_ _) | (with_reducible refine Kd.C_drew ?_))); (case side2 => exact (Kd.S_reads' HO_6.out).2.1); (case side3 => repeat (first | exact (Kd.R_reads' HO327.out).2.2 | (with_reducible refine Kd.C_alloc ?_ _) | (with_reducible refine Kd.C_drewN ?_ _) | (with_reducible refine Kd.C_drew ?_))); (case side4 => exact (Kd.R_reads' HO327.out).2.1); rintro e w67 ⟨rfl, hb⟩; refine ⟨_, rfl, ?_⟩; have n0_ := Aside0.mk (Kd.S_below (by (with_reducible repeat (first | apply Kd.S_alloc | apply Kd.S_drewN | apply Kd.S_drew)); exact HO_6.out) hb); have n1_ := Aside0.mk (Kd.R_below (by (with_reducible repeat (first | apply Kd.R_alloc | apply Kd.R_drewN | apply Kd.R_drew)); exact HO327.out) hb); have n2_ := Aside0.mk (below_step (by repeat (first | (with_reducible first | exact HB.out | apply below_alloc | apply pw_below_drewN | apply below_drew1) | exact HB.out)) hb); clear HO_6; clear HO327; clear HB; have HO_6 := n0_; have HO327 := n1_; have HB := n2_; clear n0_ n1_ n2_; (try clear hb); (try clear hb2); (try clear hk); (try clear hi)) | ((with_reducible refine gate_callee (f := 36) rfl ?_); refine goesL_ (some 63) rfl rfl Try.func36 (by kernel_rfl) rfl #[.slice A0 l0.length c0, .slice A1 l1.length c1] rfl (by (try simp only [List.map_toArray, List.map_cons, List.map_nil]); first | done | rfl | (simp only [List.length_drop, List.length_take]; rfl)) ?_; (with_reducible refine (impl_MatchAny.calls _ _ l0 _ _ l1 t329 _ ?side1 ?side2 ?side3 ?side4 A51.out).mono ?_); (case side1 => repeat (first | exact (Kd.C_below HR0.out HB.out) | (with_reducible refine Kd.C_alloc ?_ _) | (with_reducible refine Kd.C_drewN ?_ _) | (with_reducible refine Kd.C_drew ?_))); (case side2 => exact HC0.out); (case side3 => repeat (first | exact (Kd.C_below HR1.out HB.out) | (with_reducible refine Kd.C_alloc ?_ _) | (with_reducible refine Kd.C_drewN ?_ _) | (with_reducible refine Kd.C_drew ?_))); (case side4 => exact HC1.out); rintro e w68 ⟨rfl, hb⟩; refine ⟨_, rfl, ?_⟩; have n0_ := Aside0.mk (Kd.S_below (by (with_reducible repeat (first | apply Kd.S_alloc | apply Kd.S_drewN | apply Kd.S_drew)); exact HO_6.out) hb); have n1_ := Aside0.mk (Kd.R_below (by (with_reducible repeat (first | apply Kd.R_alloc | apply Kd.R_drewN | apply Kd.R_drew)); exact HO327.out) hb); have n2_ := Aside0.mk (below_step (by repeat (first | (with_reducible first | exact HB.out | apply below_alloc | apply pw_below_drewN | apply below_drew1) | exact HB.out)) hb); clear HO_6; clear HO327; clear HB; have HO_6 := n0_; have HO327 := n1_; have HB := n2_; clear n0_ n1_ n2_; (try clear hb); (try clear hb2); (try clear hk); (try clear hi)))
                      go_ret
                      exact ⟨by first | rfl | (simp [errW_none, errW_some] <;> rfl) | (simp [*, errW_none, errW_some] <;> rfl), by repeat (first | (with_reducible first | exact HB.out | apply below_alloc | apply pw_below_drewN | apply below_drew1) | exact HB.out)⟩

/-- THE ONE PURE STATEMENT of laws_FnMatchAny: yours. -/
def laws_FnMatchAny.Pure : Prop := ∀ (l0 : List (List (S37))) (l1 : List (S48)), (l0.length ≤ maxLen ∧ ∀ y ∈ l0, (y.length ≤ maxLen ∧ ∀ z ∈ y, okS37 z)) → (l1.length ≤ maxLen ∧ ∀ y ∈ l1, okS48 y) → ∃ k, laws_FnMatchAny.f k l0 l1 = some true

/-! ### time_Time_nsec: function 84 -/
-- contracts that were proved by hand
theorem low30 (a : Nat) (h : a < 1073741824) : Go.bits .and .u64 (a : Int) 1073741823 = (a : Int) := by
  have e : a &&& 1073741823 = a % 1073741824 := Nat.and_two_pow_sub_one_eq_mod a 30
  have := u64_and_nat a 1073741823 (by omega) (by decide)
  rw [e, Nat.mod_eq_of_lt h] at this
  exact this
theorem noMono (a : Nat) (h : a < 1073741824) : Go.bits .and .u64 (a : Int) 9223372036854775808 = 0 := by
  have e : a &&& 9223372036854775808 = 0 := by
    refine Nat.eq_of_testBit_eq fun i => ?_
    rw [show (9223372036854775808 : Nat) = 2 ^ 63 by decide, Nat.testBit_and, Nat.testBit_two_pow, Nat.zero_testBit]
    by_cases hi : 63 = i
    · subst hi
      rw [Nat.testBit_lt_two_pow (by omega)]
      rfl
    · simp [hi]
  have := u64_and_nat a 9223372036854775808 (by omega) (by decide)
  rw [e] at this
  exact this
theorem wrap_i32 (a : Nat) (h : a < 1073741824) : IntKind.i32.wrap (a : Int) = (a : Int) := by
  simp [IntKind.wrap, IntKind.bits, IntKind.signed]
  omega
set_option maxHeartbeats 1600000 in
set_option maxRecDepth 100000 in
theorem time_nsec.calls (g a : Nat) (ha : a < 1073741824) (w : World) (h : w.cell? ⟨g, 0, none⟩ = some (.int .u64 a)) :
    Calls Try.prog 84 #[.pointer (some ⟨g, 0, none⟩)] w fun e w' => e = .returned (.int .i32 a) ∧ Drawn0 w w' := by
  have e1 := low30 a ha
  have e2 := wrap_i32 a ha
  go_enter Try.func84, Try.ntmps84
  go_wp2
  go_ret
  exact ⟨by first | rfl | simp [e1, e2], by repeat (first | exact Drawn0.refl _ | apply Drawn0.step)⟩
theorem time_nsec0.calls (g : Nat) (w : World) (h : w.cell? ⟨g, 0, none⟩ = some (.int .u64 0)) :
    Calls Try.prog 84 #[.pointer (some ⟨g, 0, none⟩)] w fun e w' => e = .returned (.int .i32 0) ∧ Drawn0 w w' := by
  have := time_nsec.calls g 0 (by decide) w (by simpa using h)
  simpa using this


/-! ### time_Time_sec: function 87 -/
-- contracts that were proved by hand
set_option maxHeartbeats 1600000 in
set_option maxRecDepth 100000 in
theorem time_sec.calls (g a : Nat) (b : Int) (ha : a < 1073741824) (w : World) (h : w.cell? ⟨g, 0, none⟩ = some (.int .u64 a)) (h1 : w.cell? ⟨g, 1, none⟩ = some (.int .i64 b)) :
    Calls Try.prog 87 #[.pointer (some ⟨g, 0, none⟩)] w fun e w' => e = .returned (.int .i64 b) ∧ Drawn0 w w' := by
  have e1 := noMono a ha
  go_enter Try.func87, Try.ntmps87
  go_wp2
  go_ret
  exact ⟨rfl, by repeat (first | exact Drawn0.refl _ | apply Drawn0.step)⟩


-- NOT PRINTED: function 86 (time_Time_stripMono)

/-! ### time_Time_addSec: function 85 -/
-- contracts that were proved by hand
theorem wrap_i64 (a : Nat) (h : a < 9223372036854775808) : IntKind.i64.wrap (a : Int) = (a : Int) := by
  simp [IntKind.wrap, IntKind.bits, IntKind.signed]
  omega
set_option maxHeartbeats 1600000 in
set_option maxRecDepth 100000 in
theorem time_addSec.calls (g a d : Nat) (ha : a < 1073741824) (hd : d < 9223372036854775808) (w : World) (h : w.heap[g]? = some (.cells #[.int .u64 a, .int .i64 0, .pointer none] 94 (0, 0))) :
    Calls Try.prog 85 #[.pointer (some ⟨g, 0, none⟩), .int .i64 d] w fun e w' => e = .returned (.tuple #[]) ∧ w'.heap[g]? = some (.cells #[.int .u64 a, .int .i64 d, .pointer none] 94 (0, 0)) ∧ w.grownBy w' (some g) := by
  have e1 := noMono a ha
  have h0 := (blk_cell h 0).trans rfl
  have h1 := (blk_cell h 1).trans rfl
  have hf := blk_frozen h 1
  have HB := Aside0.mk h
  have e2 : IntKind.i64.wrap (0 + (d : Int)) = (d : Int) := by rw [Int.zero_add]; exact wrap_i64 d hd
  have e3 : wrap64 (0 + (d : Int)) = (d : Int) := by rw [Int.zero_add]; simp only [wrap64]; omega
  clear h
  by_cases hz : d = 0
  · subst hz
    go_enter Try.func85, Try.ntmps85
    go_wp2
    go_end0
    exact ⟨rfl, blk_set HB.out 1 _, ⟨rfl, rfl, rfl, by simp [World.setCell], fun k _ hk => Below.heap_setCell _ _ _ k (fun e => hk (by rw [e]))⟩⟩
  · have hz' : (0 : Int) < (d : Int) := by omega
    go_enter Try.func85, Try.ntmps85
    go_wp2
    go_end0
    exact ⟨rfl, blk_set HB.out 1 _, ⟨rfl, rfl, rfl, by simp [World.setCell], fun k _ hk => Below.heap_setCell _ _ _ k (fun e => hk (by rw [e]))⟩⟩


end Go.Proofs.Ytbffhefeepmpcaa.Q
