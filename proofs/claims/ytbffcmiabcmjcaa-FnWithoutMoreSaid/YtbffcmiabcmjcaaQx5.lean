-- printed by this project's own program wip/tools/mkprint.py (the kit's print.py with hand-proved contracts put in)
import Derived.Test.YtbffcmiabcmjcaaQx0
import Derived.Test.YtbffcmiabcmjcaaQx1
import Derived.Test.YtbffcmiabcmjcaaQx3
import Derived.Test.YtbffcmiabcmjcaaQx4
namespace Go.Proofs.Ytbffcmiabcmjcaa.Q
open Go.RowKit Go.Proofs.YtbffcmiabcmjcaaW.PrintWords Go.Proofs.YtbffcmiabcmjcaaW.PrintLast Go.Proofs.YtbffcmiabcmjcaaW.PrintMore
attribute [local go_sem] max2_int min2_int max_two min_two max_three min_three max_four min_four   -- for this text's walks alone
set_option linter.unusedVariables false
set_option linter.unusedSimpArgs false

/-! ### laws_FnWithoutMore: function 6 -/
mutual
def laws_FnWithoutMore.j0 : Nat → List (S26) → List ByteArray → List ByteArray → Bool → Option (Bool)
  | 0, _, _, _, _ => none
  | k + 1, x0, x1, x2, x23 => if x23 = true then (some true) else ((impl_Without.f (([(⟨(⟨#[97]⟩ : ByteArray), (⟨#[98]⟩ : ByteArray)⟩ : S26)] : List (S26))) ([] : List ByteArray)).bind fun t190 => (if (t190.length : Int) = 1 then ((laws_much.f x0).bind fun t193 => (if t193 = true then (laws_FnWithoutMore.j1 k x0 x1 x2 true) else (if (x1.length : Int) > 300 then (laws_FnWithoutMore.j1 k x0 x1 x2 true) else (laws_FnWithoutMore.j1 k x0 x1 x2 (decide ((x2.length : Int) > 300)))))) else (some false)))
def laws_FnWithoutMore.j1 : Nat → List (S26) → List ByteArray → List ByteArray → Bool → Option (Bool)
  | 0, _, _, _, _ => none
  | k + 1, x0, x1, x2, x40 => if x40 = true then (some true) else ((impl_Without.f x0 x1).bind fun t194 => ((impl_Without.f t194 x2).bind fun t197 => ((some (([] : List ByteArray) : List ByteArray)).bind fun y200 => (if y200.length + x1.length < 8796093022208 then ((some (y200 ++ x1 : List ByteArray)).bind fun y203 => (if y203.length + x2.length < 8796093022208 then ((impl_Without.f x0 (y203 ++ x2)).bind fun t209 => (laws_FnWithoutMore.l0 k x0 t197 t209 x1 (x1.length : Int) 0)) else (none))) else (none)))))
def laws_FnWithoutMore.l0 : Nat → List (S26) → List (S26) → List (S26) → List ByteArray → Int → Int → Option (Bool)
  | 0, _, _, _, _, _, _ => none
  | k + 1, x0, x7, x8, x53, x54, x55 => if x55 < x54 then (if 0 ≤ x55 then (if x55 < (x53.length : Int) then ((laws_pairs.f k x7).bind fun t213 => ((spec_Has.f k t213 (rdOf ByteArray.empty x53 x55)).bind fun t216 => (if t216 = true then (some false) else (laws_FnWithoutMore.l0 k x0 x7 x8 x53 x54 (wrap64 (x55 + 1)))))) else (none)) else (none)) else ((laws_pairs.f k x8).bind fun t217 => ((laws_eqPairs.f x7 t217).bind fun t220 => (if t220 = true then ((impl_Without.f x0 ([] : List ByteArray)).bind fun t221 => ((laws_pairs.f k x0).bind fun t224 => ((spec_SortedPairs.f k t224).bind fun t227 => ((laws_eqPairs.f t221 t227).bind fun t230 => (some t230))))) else (some false))))
end
def laws_FnWithoutMore.f (k : Nat) (l0 : List (S26)) (l1 : List ByteArray) (l2 : List ByteArray) : Option (Bool) := (laws_zzFits1.f k l0).bind fun t184 => (if t184 = true then ((laws_zzFits6.f k l1).bind fun t185 => (if t185 = true then ((laws_zzFits6.f k l2).bind fun t186 => (laws_FnWithoutMore.j0 k l0 l1 l2 (!t186))) else (laws_FnWithoutMore.j0 k l0 l1 l2 true))) else (laws_FnWithoutMore.j0 k l0 l1 l2 true))
theorem laws_FnWithoutMore.mono_l : ∀ k, (∀ y0 y1 y2 y3, LeO (laws_FnWithoutMore.j0 k y0 y1 y2 y3) (laws_FnWithoutMore.j0 (k + 1) y0 y1 y2 y3)) ∧ (∀ y0 y1 y2 y3, LeO (laws_FnWithoutMore.j1 k y0 y1 y2 y3) (laws_FnWithoutMore.j1 (k + 1) y0 y1 y2 y3)) ∧ (∀ y0 y1 y2 y3 y4 y5, LeO (laws_FnWithoutMore.l0 k y0 y1 y2 y3 y4 y5) (laws_FnWithoutMore.l0 (k + 1) y0 y1 y2 y3 y4 y5))
  | 0 => ⟨fun _ _ _ _ r h => by simp [laws_FnWithoutMore.j0] at h, fun _ _ _ _ r h => by simp [laws_FnWithoutMore.j1] at h, fun _ _ _ _ _ _ r h => by simp [laws_FnWithoutMore.l0] at h⟩
  | k + 1 => by
    obtain ⟨ih0, ih1, ih2⟩ := laws_FnWithoutMore.mono_l k
    refine ⟨?_, ?_, ?_⟩
    · intro y0 y1 y2 y3
      unfold laws_FnWithoutMore.j0
      repeat' first
      | (with_reducible exact ih0 _ _ _ _)
      | (with_reducible exact ih1 _ _ _ _)
      | (with_reducible exact ih2 _ _ _ _ _ _)
      | (with_reducible exact laws_pairs.mono _ _)
      | (with_reducible exact laws_zzFits1.mono _ _)
      | (with_reducible exact laws_zzFits6.mono _ _)
      | (with_reducible exact spec_Has.mono _ _ _)
      | (with_reducible exact spec_SortedPairs.mono _ _)
      | (with_reducible exact LeO.refl _)
      | (with_reducible exact LeO.none _)
      | (with_reducible refine LeO.ite ?_ ?_)
      | (with_reducible refine LeO.bind ?_ (fun _ => ?_))
      | exact ih0 _ _ _ _
      | exact ih1 _ _ _ _
      | exact ih2 _ _ _ _ _ _
      | exact laws_pairs.mono _ _
      | exact laws_zzFits1.mono _ _
      | exact laws_zzFits6.mono _ _
      | exact spec_Has.mono _ _ _
      | exact spec_SortedPairs.mono _ _
      | exact LeO.none _
      | refine LeO.ite ?_ ?_
      | refine LeO.bind ?_ (fun _ => ?_)
    · intro y0 y1 y2 y3
      unfold laws_FnWithoutMore.j1
      repeat' first
      | (with_reducible exact ih0 _ _ _ _)
      | (with_reducible exact ih1 _ _ _ _)
      | (with_reducible exact ih2 _ _ _ _ _ _)
      | (with_reducible exact laws_pairs.mono _ _)
      | (with_reducible exact laws_zzFits1.mono _ _)
      | (with_reducible exact laws_zzFits6.mono _ _)
      | (with_reducible exact spec_Has.mono _ _ _)
      | (with_reducible exact spec_SortedPairs.mono _ _)
      | (with_reducible exact LeO.refl _)
      | (with_reducible exact LeO.none _)
      | (with_reducible refine LeO.ite ?_ ?_)
      | (with_reducible refine LeO.bind ?_ (fun _ => ?_))
      | exact ih0 _ _ _ _
      | exact ih1 _ _ _ _
      | exact ih2 _ _ _ _ _ _
      | exact laws_pairs.mono _ _
      | exact laws_zzFits1.mono _ _
      | exact laws_zzFits6.mono _ _
      | exact spec_Has.mono _ _ _
      | exact spec_SortedPairs.mono _ _
      | exact LeO.none _
      | refine LeO.ite ?_ ?_
      | refine LeO.bind ?_ (fun _ => ?_)
    · intro y0 y1 y2 y3 y4 y5
      unfold laws_FnWithoutMore.l0
      repeat' first
      | (with_reducible exact ih0 _ _ _ _)
      | (with_reducible exact ih1 _ _ _ _)
      | (with_reducible exact ih2 _ _ _ _ _ _)
      | (with_reducible exact laws_pairs.mono _ _)
      | (with_reducible exact laws_zzFits1.mono _ _)
      | (with_reducible exact laws_zzFits6.mono _ _)
      | (with_reducible exact spec_Has.mono _ _ _)
      | (with_reducible exact spec_SortedPairs.mono _ _)
      | (with_reducible exact LeO.refl _)
      | (with_reducible exact LeO.none _)
      | (with_reducible refine LeO.ite ?_ ?_)
      | (with_reducible refine LeO.bind ?_ (fun _ => ?_))
      | exact ih0 _ _ _ _
      | exact ih1 _ _ _ _
      | exact ih2 _ _ _ _ _ _
      | exact laws_pairs.mono _ _
      | exact laws_zzFits1.mono _ _
      | exact laws_zzFits6.mono _ _
      | exact spec_Has.mono _ _ _
      | exact spec_SortedPairs.mono _ _
      | exact LeO.none _
      | refine LeO.ite ?_ ?_
      | refine LeO.bind ?_ (fun _ => ?_)
theorem laws_FnWithoutMore.mono : ∀ a0 a1 a2 k, LeO (laws_FnWithoutMore.f k a0 a1 a2) (laws_FnWithoutMore.f (k + 1) a0 a1 a2) := by
  intro a0 a1 a2 k
  obtain ⟨ih0, ih1, ih2⟩ := laws_FnWithoutMore.mono_l k
  unfold laws_FnWithoutMore.f
  repeat' first
      | (with_reducible exact ih0 _ _ _ _)
      | (with_reducible exact ih1 _ _ _ _)
      | (with_reducible exact ih2 _ _ _ _ _ _)
      | (with_reducible exact laws_pairs.mono _ _)
      | (with_reducible exact laws_zzFits1.mono _ _)
      | (with_reducible exact laws_zzFits6.mono _ _)
      | (with_reducible exact spec_Has.mono _ _ _)
      | (with_reducible exact spec_SortedPairs.mono _ _)
      | (with_reducible exact LeO.refl _)
      | (with_reducible exact LeO.none _)
      | (with_reducible refine LeO.ite ?_ ?_)
      | (with_reducible refine LeO.bind ?_ (fun _ => ?_))
      | exact ih0 _ _ _ _
      | exact ih1 _ _ _ _
      | exact ih2 _ _ _ _ _ _
      | exact laws_pairs.mono _ _
      | exact laws_zzFits1.mono _ _
      | exact laws_zzFits6.mono _ _
      | exact spec_Has.mono _ _ _
      | exact spec_SortedPairs.mono _ _
      | exact LeO.none _
      | refine LeO.ite ?_ ?_
      | refine LeO.bind ?_ (fun _ => ?_)
set_option maxHeartbeats 8000000 in
set_option maxRecDepth 100000 in
theorem laws_FnWithoutMore.calls (k : Nat) (A0 : Option Addr) (c0 : Nat) (l0 : List (S26)) (A1 : Option Addr) (c1 : Nat) (l1 : List ByteArray) (A2 : Option Addr) (c2 : Nat) (l2 : List ByteArray) (r : Bool) (w : World) (hr0 : Kd.C k26 w A0 l0.length l0) (hc0 : l0.length ≤ c0) (hr1 : Kd.C Kd.string w A1 l1.length l1) (hc1 : l1.length ≤ c1) (hr2 : Kd.C Kd.string w A2 l2.length l2) (hc2 : l2.length ≤ c2) (h : laws_FnWithoutMore.f k l0 l1 l2 = some r) :
    Calls Try.prog 6 #[.slice A0 l0.length c0, .slice A1 l1.length c1, .slice A2 l2.length c2] w fun e w' => e = .returned (.bool r) ∧ Below w.heap.size w w' := by
  have hu26 := Try.underlying26
  have HR0 := Aside0.mk hr0
  have HC0 := Aside0.mk hc0
  clear hr0 hc0
  have HR1 := Aside0.mk hr1
  have HC1 := Aside0.mk hc1
  clear hr1 hc1
  have HR2 := Aside0.mk hr2
  have HC2 := Aside0.mk hc2
  clear hr2 hc2
  have HB := Aside0.mk (Below.refl w.heap.size w)
  have H : ((laws_zzFits1.f k l0).bind fun t184 => (if t184 = true then ((laws_zzFits6.f k l1).bind fun t185 => (if t185 = true then ((laws_zzFits6.f k l2).bind fun t186 => (laws_FnWithoutMore.j0 k l0 l1 l2 (!t186))) else (laws_FnWithoutMore.j0 k l0 l1 l2 true))) else (laws_FnWithoutMore.j0 k l0 l1 l2 true))) = some r := h
  clear h
  have HC4 := Aside0.mk H
  clear H
  go_enter Try.func6, Try.ntmps6
  go_upto_region 1 with (fail)
  go_cut [23] (fun v23 wc => ∃ (kq : Nat) (x23_3 : Bool), v23 = .bool x23_3 ∧ Aside0 (laws_FnWithoutMore.j0 kq l0 l1 l2 x23_3 = some r) ∧ Aside0 (kq ≤ k) ∧ Aside0 (Below w.heap.size w wc))
  case first =>
    have H := HC4.out
    clear HC4
    replace H := Option.bind_eq_some_iff.mp H
    obtain ⟨t184, A50, H⟩ := H
    replace H : (if t184 = true then ((laws_zzFits6.f k l1).bind fun t185 => (if t185 = true then ((laws_zzFits6.f k l2).bind fun t186 => (laws_FnWithoutMore.j0 k l0 l1 l2 (!t186))) else (laws_FnWithoutMore.j0 k l0 l1 l2 true))) else (laws_FnWithoutMore.j0 k l0 l1 l2 true)) = some r := H
    have A5 := Aside0.mk A50
    clear A50
    by_cases c6 : t184 = true
    · subst c6
      have H1 : ((laws_zzFits6.f k l1).bind fun t185 => (if t185 = true then ((laws_zzFits6.f k l2).bind fun t186 => (laws_FnWithoutMore.j0 k l0 l1 l2 (!t186))) else (laws_FnWithoutMore.j0 k l0 l1 l2 true))) = some r := by rw [if_pos rfl] at H; exact H
      clear H
      have H := H1
      clear H1
      replace H := Option.bind_eq_some_iff.mp H
      obtain ⟨t185, A70, H⟩ := H
      replace H : (if t185 = true then ((laws_zzFits6.f k l2).bind fun t186 => (laws_FnWithoutMore.j0 k l0 l1 l2 (!t186))) else (laws_FnWithoutMore.j0 k l0 l1 l2 true)) = some r := H
      have A7 := Aside0.mk A70
      clear A70
      by_cases c8 : t185 = true
      · subst c8
        have H1 : ((laws_zzFits6.f k l2).bind fun t186 => (laws_FnWithoutMore.j0 k l0 l1 l2 (!t186))) = some r := by rw [if_pos rfl] at H; exact H
        clear H
        have H := H1
        clear H1
        replace H := Option.bind_eq_some_iff.mp H
        obtain ⟨t186, A90, H⟩ := H
        replace H : (laws_FnWithoutMore.j0 k l0 l1 l2 (!t186)) = some r := H
        have A9 := Aside0.mk A90
        clear A90
        have H' := Aside0.mk H
        clear H
        go_wp2_with (first | ((with_reducible refine gate_callee (f := 11) rfl ?_); refine goesL_ (some 12) rfl rfl Try.func11 (by kernel_rfl) rfl #[.slice A0 l0.length c0] rfl (by (try simp only [List.map_toArray, List.map_cons, List.map_nil]); first | done | rfl | (simp only [List.length_drop, List.length_take]; rfl)) ?_; (with_reducible refine (laws_zzFits1.calls k _ _ l0 true _ ?side1 ?side2 A5.out).mono ?_); (case side1 => repeat (first | exact (Kd.C_below HR0.out HB.out) | (with_reducible refine Kd.C_alloc ?_ _) | (with_reducible refine Kd.C_drewN ?_ _) | (with_reducible refine Kd.C_drew ?_))); (case side2 => exact HC0.out); rintro e w10 ⟨rfl, hb⟩; refine ⟨_, rfl, ?_⟩; have n0_ := Aside0.mk (below_step (by repeat (first | (with_reducible first | exact HB.out | apply below_alloc | apply pw_below_drewN | apply below_drew1) | exact HB.out)) hb); clear HB; have HB := n0_; clear n0_; (try clear hb); (try clear hb2); (try clear hk); (try clear hi)) | (go_at_call 19; (with_reducible refine (laws_zzFits6.calls k _ _ l1 true _ ?side1 ?side2 A7.out).mono ?_); (case side1 => repeat (first | exact (Kd.C_below HR1.out HB.out) | (with_reducible refine Kd.C_alloc ?_ _) | (with_reducible refine Kd.C_drewN ?_ _) | (with_reducible refine Kd.C_drew ?_))); (case side2 => exact HC1.out); rintro e w' ⟨rfl, ⟨nd, rfl⟩⟩) | (go_at_call 19; (with_reducible refine (laws_zzFits6.calls k _ _ l2 t186 _ ?side1 ?side2 A9.out).mono ?_); (case side1 => repeat (first | exact (Kd.C_below HR2.out (by repeat (first | (with_reducible first | exact HB.out | apply below_alloc | apply pw_below_drewN | apply below_drew1) | exact HB.out))) | (with_reducible refine Kd.C_alloc ?_ _) | (with_reducible refine Kd.C_drewN ?_ _) | (with_reducible refine Kd.C_drew ?_))); (case side2 => exact HC2.out); rintro e w' ⟨rfl, ⟨nd, rfl⟩⟩))
        go_meet
        case rel => exact ⟨_, (!t186), (by first | rfl | (simp; done) | (simp [*]; done)), H', ⟨by first | omega | exact Nat.le_refl _⟩, ⟨by repeat (first | (with_reducible first | exact HB.out | apply below_alloc | apply pw_below_drewN | apply below_drew1) | exact HB.out)⟩⟩
      · replace c8 := Bool.eq_false_iff.mpr c8
        subst c8
        have H1 : (laws_FnWithoutMore.j0 k l0 l1 l2 true) = some r := by rw [if_neg (show ¬ (false = true) by decide)] at H; exact H
        clear H
        have H := H1
        clear H1
        have H' := Aside0.mk H
        clear H
        go_wp2_with (first | ((with_reducible refine gate_callee (f := 11) rfl ?_); refine goesL_ (some 12) rfl rfl Try.func11 (by kernel_rfl) rfl #[.slice A0 l0.length c0] rfl (by (try simp only [List.map_toArray, List.map_cons, List.map_nil]); first | done | rfl | (simp only [List.length_drop, List.length_take]; rfl)) ?_; (with_reducible refine (laws_zzFits1.calls k _ _ l0 true _ ?side1 ?side2 A5.out).mono ?_); (case side1 => repeat (first | exact (Kd.C_below HR0.out HB.out) | (with_reducible refine Kd.C_alloc ?_ _) | (with_reducible refine Kd.C_drewN ?_ _) | (with_reducible refine Kd.C_drew ?_))); (case side2 => exact HC0.out); rintro e w11 ⟨rfl, hb⟩; refine ⟨_, rfl, ?_⟩; have n0_ := Aside0.mk (below_step (by repeat (first | (with_reducible first | exact HB.out | apply below_alloc | apply pw_below_drewN | apply below_drew1) | exact HB.out)) hb); clear HB; have HB := n0_; clear n0_; (try clear hb); (try clear hb2); (try clear hk); (try clear hi)) | (go_at_call 19; (with_reducible refine (laws_zzFits6.calls k _ _ l1 false _ ?side1 ?side2 A7.out).mono ?_); (case side1 => repeat (first | exact (Kd.C_below HR1.out HB.out) | (with_reducible refine Kd.C_alloc ?_ _) | (with_reducible refine Kd.C_drewN ?_ _) | (with_reducible refine Kd.C_drew ?_))); (case side2 => exact HC1.out); rintro e w' ⟨rfl, ⟨nd, rfl⟩⟩))
        go_meet
        case rel => exact ⟨_, (true), (by first | rfl | (simp; done) | (simp [*]; done)), H', ⟨by first | omega | exact Nat.le_refl _⟩, ⟨by repeat (first | (with_reducible first | exact HB.out | apply below_alloc | apply pw_below_drewN | apply below_drew1) | exact HB.out)⟩⟩
    · replace c6 := Bool.eq_false_iff.mpr c6
      subst c6
      have H1 : (laws_FnWithoutMore.j0 k l0 l1 l2 true) = some r := by rw [if_neg (show ¬ (false = true) by decide)] at H; exact H
      clear H
      have H := H1
      clear H1
      have H' := Aside0.mk H
      clear H
      go_wp2_with (first | ((with_reducible refine gate_callee (f := 11) rfl ?_); refine goesL_ (some 12) rfl rfl Try.func11 (by kernel_rfl) rfl #[.slice A0 l0.length c0] rfl (by (try simp only [List.map_toArray, List.map_cons, List.map_nil]); first | done | rfl | (simp only [List.length_drop, List.length_take]; rfl)) ?_; (with_reducible refine (laws_zzFits1.calls k _ _ l0 false _ ?side1 ?side2 A5.out).mono ?_); (case side1 => repeat (first | exact (Kd.C_below HR0.out HB.out) | (with_reducible refine Kd.C_alloc ?_ _) | (with_reducible refine Kd.C_drewN ?_ _) | (with_reducible refine Kd.C_drew ?_))); (case side2 => exact HC0.out); rintro e w12 ⟨rfl, hb⟩; refine ⟨_, rfl, ?_⟩; have n0_ := Aside0.mk (below_step (by repeat (first | (with_reducible first | exact HB.out | apply below_alloc | apply pw_below_drewN | apply below_drew1) | exact HB.out)) hb); clear HB; have HB := n0_; clear n0_; (try clear hb); (try clear hb2); (try clear hk); (try clear hi)))
      go_meet
      case rel => exact ⟨_, (true), (by first | rfl | (simp; done) | (simp [*]; done)), H', ⟨by first | omega | exact Nat.le_refl _⟩, ⟨by repeat (first | (with_reducible first | exact HB.out | apply below_alloc | apply pw_below_drewN | apply below_drew1) | exact HB.out)⟩⟩
  case rest =>
    clear HC4
    try clear c1
    try clear c2
    try clear p2
    try clear c6
    try clear c8
    try clear c11
    obtain ⟨kq, x23_3, rfl, HA, HJ3, HB⟩ := hcut
    cases kq with
    | zero => exact absurd HA.out (by simp [laws_FnWithoutMore.j0])
    | succ kj3 =>
      have H := HA.out
      clear HA
      simp only [laws_FnWithoutMore.j0] at H
      by_cases c13 : x23_3 = true
      · subst c13
        have H1 : (some true) = some r := by rw [if_pos rfl] at H; exact H
        clear H
        have H := H1
        clear H1
        obtain rfl := Option.some.inj H
        go_wp2
        go_ret
        exact ⟨by first | rfl | (simp [errW_none, errW_some] <;> rfl) | (simp [*, errW_none, errW_some] <;> rfl), by repeat (first | (with_reducible first | exact HB.out | apply below_alloc | apply pw_below_drewN | apply below_drew1) | exact HB.out)⟩
      · replace c13 := Bool.eq_false_iff.mpr c13
        subst c13
        have H1 : ((impl_Without.f (([(⟨(⟨#[97]⟩ : ByteArray), (⟨#[98]⟩ : ByteArray)⟩ : S26)] : List (S26))) ([] : List ByteArray)).bind fun t190 => (if (t190.length : Int) = 1 then ((laws_much.f l0).bind fun t193 => (if t193 = true then (laws_FnWithoutMore.j1 kj3 l0 l1 l2 true) else (if (l1.length : Int) > 300 then (laws_FnWithoutMore.j1 kj3 l0 l1 l2 true) else (laws_FnWithoutMore.j1 kj3 l0 l1 l2 (decide ((l2.length : Int) > 300)))))) else (some false))) = some r := by rw [if_neg (show ¬ (false = true) by decide)] at H; exact H
        clear H
        have H := H1
        clear H1
        obtain ⟨y187, hy187⟩ : ∃ y_ : List (S26), y_ = (([(⟨(⟨#[97]⟩ : ByteArray), (⟨#[98]⟩ : ByteArray)⟩ : S26)] : List (S26))) := ⟨_, rfl⟩
        replace H : ((impl_Without.f y187 ([] : List ByteArray)).bind fun t190 => (if (t190.length : Int) = 1 then ((laws_much.f l0).bind fun t193 => (if t193 = true then (laws_FnWithoutMore.j1 kj3 l0 l1 l2 true) else (if (l1.length : Int) > 300 then (laws_FnWithoutMore.j1 kj3 l0 l1 l2 true) else (laws_FnWithoutMore.j1 kj3 l0 l1 l2 (decide ((l2.length : Int) > 300)))))) else (some false))) = some r := by first | (rw [hy187]; with_reducible exact H) | (have H2_ := (Option.bind_some _ _).symm.trans H; rw [hy187]; with_reducible exact H2_) | (have H2_ := (Option.bind_some _ _).symm.trans H; with_reducible exact H2_) | with_reducible exact H | (rw [hy187]; exact H) | exact H
        have Ny187 := Aside0.mk hy187
        clear hy187
        replace H := Option.bind_eq_some_iff.mp H
        obtain ⟨t190, A140, H⟩ := H
        replace H : (if (t190.length : Int) = 1 then ((laws_much.f l0).bind fun t193 => (if t193 = true then (laws_FnWithoutMore.j1 kj3 l0 l1 l2 true) else (if (l1.length : Int) > 300 then (laws_FnWithoutMore.j1 kj3 l0 l1 l2 true) else (laws_FnWithoutMore.j1 kj3 l0 l1 l2 (decide ((l2.length : Int) > 300)))))) else (some false)) = some r := H
        have A14 := Aside0.mk A140
        clear A140
        by_cases c15 : (t190.length : Int) = 1
        · rw [if_pos c15] at H
          have c15b0 : ((t190.length : Int) == 1) = true := beq_iff_eq.mpr c15
          have c15b1 : ((t190.length : Int) != 1) = false := bne_eq_false_iff_eq.mpr c15
          clear c15
          have HC16 := Aside0.mk H
          clear H
          go_upto_region 5 with (first | ((with_reducible refine gate_dst (N := 25) rfl ?_); (try (refine gate_guard (by rfl) ?_; dsimp only)); refine Kd.R_lit k26 _ 26 ?hg (N := 25) ?hd (xs := ([(⟨(⟨#[97]⟩ : ByteArray), (⟨#[98]⟩ : ByteArray)⟩ : S26)] : List (S26))) (inner := [.string (⟨#[97]⟩ : ByteArray), .string (⟨#[98]⟩ : ByteArray)]) (ok := fun _ => True) (okp := fun _ => True) ?hr ?hp (fun _ hk => hk) trivial (Below.refl _ _) (Nat.le_refl _) (by simp) ?_; (case hd => rfl); (case hg => rfl); (case hr => first | (go_simp; done) | (go_simp; rfl)); (case hp => exact (Reps.c2 (show Kd.M k26 _ _ _ (⟨(⟨#[97]⟩ : ByteArray), (⟨#[98]⟩ : ByteArray)⟩ : S26) [.string (⟨#[97]⟩ : ByteArray), .string (⟨#[98]⟩ : ByteArray)] from (k26_mkM _ _ _ (⟨(⟨#[97]⟩ : ByteArray), (⟨#[98]⟩ : ByteArray)⟩ : S26) )) (Reps.none _ _))); intro v188 w17 ho18 hb hg_ hnew_; clear hg_ hnew_; (first | rw [← Ny187.out] at ho18 | (simp only [Int.reduceToNat] at ho18; rw [← Ny187.out] at ho18)); have n0_ := Aside0.mk (Kd.R_lower ho18 (below_size (by repeat (first | (with_reducible first | exact HB.out | apply below_alloc | apply pw_below_drewN | apply below_drew1) | exact HB.out)))); have n1_ := Aside0.mk (below_step (by repeat (first | (with_reducible first | exact HB.out | apply below_alloc | apply pw_below_drewN | apply below_drew1) | exact HB.out)) hb); clear HB; have HO189 := n0_; have HB := n1_; clear n0_ n1_; clear hb ho18; obtain ⟨Ao19, co19, eo19⟩ := Kd.R_slice HO189.out; subst eo19) | ((with_reducible refine gate_callee (f := 20) rfl ?_); refine goesL_ (some 26) rfl rfl Try.func20 (by kernel_rfl) rfl #[.slice Ao19 y187.length co19, .slice none 0 0] rfl (by (try simp only [List.map_toArray, List.map_cons, List.map_nil]); first | done | rfl | (simp only [List.length_drop, List.length_take]; rfl)) ?_; (refine (impl_Without.calls _ _ y187 _ _ ([] : List ByteArray) t190 _ ?side1 ?side2 ?side3 ?side4 A14.out).mono ?_); (case side1 => repeat (first | exact (Kd.R_reads' HO189.out).2.2 | (with_reducible refine Kd.C_alloc ?_ _) | (with_reducible refine Kd.C_drewN ?_ _) | (with_reducible refine Kd.C_drew ?_))); (case side2 => exact (Kd.R_reads' HO189.out).2.1); (case side3 => exact Kd.C_nil _ _); (case side4 => exact Nat.le_refl _); rintro e w20 ⟨v191, rfl, ho0, hb⟩; refine ⟨_, rfl, ?_⟩; have n0_ := Aside0.mk (Kd.R_elder' (by (with_reducible repeat (first | apply Kd.R_alloc | apply Kd.R_drewN | apply Kd.R_drew)); exact HO189.out) (Kd.R_base ho0) hb); have n1_ := Aside0.mk (Kd.R_lower (Kd.R_new' ho0 (Kd.R_lt (by (with_reducible repeat (first | apply Kd.R_alloc | apply Kd.R_drewN | apply Kd.R_drew)); exact HO189.out))) (below_size (by repeat (first | (with_reducible first | exact HB.out | apply below_alloc | apply pw_below_drewN | apply below_drew1) | exact HB.out)))); have n2_ := Aside0.mk (below_step (by repeat (first | (with_reducible first | exact HB.out | apply below_alloc | apply pw_below_drewN | apply below_drew1) | exact HB.out)) hb); clear HO189; clear HB; have HO189 := n0_; have HO192 := n1_; have HB := n2_; clear n0_ n1_ n2_; (try clear hb); (try clear hb2); (try clear hk); (try clear hi); (try clear ho0); obtain ⟨Ao21, co21, eo21⟩ := Kd.R_slice HO192.out; subst eo21))
          (try simp only [Act.put, List.setIfInBounds_toArray, List.set_cons_zero, List.set_cons_succ])
          go_cut [40] (fun v40 wc => ∃ (kq : Nat) (x40_15 : Bool), v40 = .bool x40_15 ∧ Aside0 (laws_FnWithoutMore.j1 kq l0 l1 l2 x40_15 = some r) ∧ Aside0 (kq ≤ kj3) ∧ Aside0 (Below w.heap.size w wc))
          case first =>
            have H := HC16.out
            clear HC16
            replace H := Option.bind_eq_some_iff.mp H
            obtain ⟨t193, A220, H⟩ := H
            replace H : (if t193 = true then (laws_FnWithoutMore.j1 kj3 l0 l1 l2 true) else (if (l1.length : Int) > 300 then (laws_FnWithoutMore.j1 kj3 l0 l1 l2 true) else (laws_FnWithoutMore.j1 kj3 l0 l1 l2 (decide ((l2.length : Int) > 300))))) = some r := H
            have A22 := Aside0.mk A220
            clear A220
            by_cases c23 : t193 = true
            · subst c23
              have H1 : (laws_FnWithoutMore.j1 kj3 l0 l1 l2 true) = some r := by rw [if_pos rfl] at H; exact H
              clear H
              have H := H1
              clear H1
              have H' := Aside0.mk H
              clear H
              go_wp2_with (first | ((with_reducible refine gate_callee (f := 13) rfl ?_); refine goesL_ (some 30) rfl rfl Try.func13 (by kernel_rfl) rfl #[.slice A0 l0.length c0] rfl (by (try simp only [List.map_toArray, List.map_cons, List.map_nil]); first | done | rfl | (simp only [List.length_drop, List.length_take]; rfl)) ?_; (with_reducible refine (laws_much.calls _ _ l0 true _ ?side1 ?side2 A22.out).mono ?_); (case side1 => repeat (first | exact (Kd.C_below HR0.out HB.out) | (with_reducible refine Kd.C_alloc ?_ _) | (with_reducible refine Kd.C_drewN ?_ _) | (with_reducible refine Kd.C_drew ?_))); (case side2 => exact HC0.out); rintro e w' ⟨rfl, ⟨nd, rfl⟩⟩; refine ⟨_, rfl, ?_⟩))
              go_meet
              case rel => exact ⟨_, (true), (by first | rfl | (simp; done) | (simp [*]; done)), H', ⟨by have := HJ3.out; first | omega | exact Nat.le_refl _⟩, ⟨by repeat (first | (with_reducible first | exact HB.out | apply below_alloc | apply pw_below_drewN | apply below_drew1) | exact HB.out)⟩⟩
            · replace c23 := Bool.eq_false_iff.mpr c23
              subst c23
              have H1 : (if (l1.length : Int) > 300 then (laws_FnWithoutMore.j1 kj3 l0 l1 l2 true) else (laws_FnWithoutMore.j1 kj3 l0 l1 l2 (decide ((l2.length : Int) > 300)))) = some r := by rw [if_neg (show ¬ (false = true) by decide)] at H; exact H
              clear H
              have H := H1
              clear H1
              by_cases c24 : (l1.length : Int) > 300
              · rw [if_pos c24] at H
                have c24b0 : decide (300 < (l1.length : Int)) = true := decide_eq_true c24
                have c24b1 : decide (300 < l1.length) = true := decide_eq_true (by omega)
                clear c24
                (first | rw [c24b0] | (simp only [i64_w, i32_w]; rw [c24b0]) | skip)
                have H' := Aside0.mk H
                clear H
                go_wp2_with (first | ((with_reducible refine gate_callee (f := 13) rfl ?_); refine goesL_ (some 30) rfl rfl Try.func13 (by kernel_rfl) rfl #[.slice A0 l0.length c0] rfl (by (try simp only [List.map_toArray, List.map_cons, List.map_nil]); first | done | rfl | (simp only [List.length_drop, List.length_take]; rfl)) ?_; (with_reducible refine (laws_much.calls _ _ l0 false _ ?side1 ?side2 A22.out).mono ?_); (case side1 => repeat (first | exact (Kd.C_below HR0.out HB.out) | (with_reducible refine Kd.C_alloc ?_ _) | (with_reducible refine Kd.C_drewN ?_ _) | (with_reducible refine Kd.C_drew ?_))); (case side2 => exact HC0.out); rintro e w' ⟨rfl, ⟨nd, rfl⟩⟩; refine ⟨_, rfl, ?_⟩))
                go_meet
                case rel => exact ⟨_, (true), (by first | rfl | (simp; done) | (simp [*]; done)), H', ⟨by have := HJ3.out; first | omega | exact Nat.le_refl _⟩, ⟨by repeat (first | (with_reducible first | exact HB.out | apply below_alloc | apply pw_below_drewN | apply below_drew1) | exact HB.out)⟩⟩
              · rw [if_neg c24] at H
                have c24b0 : decide (300 < (l1.length : Int)) = false := decide_eq_false c24
                have c24b1 : decide (300 < l1.length) = false := decide_eq_false (by omega)
                clear c24
                (first | rw [c24b0] | (simp only [i64_w, i32_w]; rw [c24b0]) | skip)
                have H' := Aside0.mk H
                clear H
                go_wp2_with (first | ((with_reducible refine gate_callee (f := 13) rfl ?_); refine goesL_ (some 30) rfl rfl Try.func13 (by kernel_rfl) rfl #[.slice A0 l0.length c0] rfl (by (try simp only [List.map_toArray, List.map_cons, List.map_nil]); first | done | rfl | (simp only [List.length_drop, List.length_take]; rfl)) ?_; (with_reducible refine (laws_much.calls _ _ l0 false _ ?side1 ?side2 A22.out).mono ?_); (case side1 => repeat (first | exact (Kd.C_below HR0.out HB.out) | (with_reducible refine Kd.C_alloc ?_ _) | (with_reducible refine Kd.C_drewN ?_ _) | (with_reducible refine Kd.C_drew ?_))); (case side2 => exact HC0.out); rintro e w' ⟨rfl, ⟨nd, rfl⟩⟩; refine ⟨_, rfl, ?_⟩))
                go_meet
                case rel => exact ⟨_, (decide ((l2.length : Int) > 300)), (by first | rfl | (simp; done) | (simp [*]; done)), H', ⟨by have := HJ3.out; first | omega | exact Nat.le_refl _⟩, ⟨by repeat (first | (with_reducible first | exact HB.out | apply below_alloc | apply pw_below_drewN | apply below_drew1) | exact HB.out)⟩⟩
          case rest =>
            clear HC16
            try clear c1
            try clear c2
            try clear p2
            try clear c6
            try clear c8
            try clear c11
            try clear c13
            try clear c15
            try clear c15b0
            try clear c15b1
            try clear c20
            try clear c23
            try clear c24
            try clear c24b0
            try clear c24b1
            try clear p2
            obtain ⟨kq, x40_15, rfl, HA, HJ15, HB⟩ := hcut
            cases kq with
            | zero => exact absurd HA.out (by simp [laws_FnWithoutMore.j1])
            | succ kj15 =>
              have H := HA.out
              clear HA
              simp only [laws_FnWithoutMore.j1] at H
              by_cases c25 : x40_15 = true
              · subst c25
                have H1 : (some true) = some r := by rw [if_pos rfl] at H; exact H
                clear H
                have H := H1
                clear H1
                obtain rfl := Option.some.inj H
                go_wp2
                go_ret
                exact ⟨by first | rfl | (simp [errW_none, errW_some] <;> rfl) | (simp [*, errW_none, errW_some] <;> rfl), by repeat (first | (with_reducible first | exact HB.out | apply below_alloc | apply pw_below_drewN | apply below_drew1) | exact HB.out)⟩
              · replace c25 := Bool.eq_false_iff.mpr c25
                subst c25
                have H1 : ((impl_Without.f l0 l1).bind fun t194 => ((impl_Without.f t194 l2).bind fun t197 => ((some (([] : List ByteArray) : List ByteArray)).bind fun y200 => (if y200.length + l1.length < 8796093022208 then ((some (y200 ++ l1 : List ByteArray)).bind fun y203 => (if y203.length + l2.length < 8796093022208 then ((impl_Without.f l0 (y203 ++ l2)).bind fun t209 => (laws_FnWithoutMore.l0 kj15 l0 t197 t209 l1 (l1.length : Int) 0)) else (none))) else (none))))) = some r := by rw [if_neg (show ¬ (false = true) by decide)] at H; exact H
                clear H
                have H := H1
                clear H1
                replace H := Option.bind_eq_some_iff.mp H
                obtain ⟨t194, A260, H⟩ := H
                replace H : ((impl_Without.f t194 l2).bind fun t197 => ((some (([] : List ByteArray) : List ByteArray)).bind fun y200 => (if y200.length + l1.length < 8796093022208 then ((some (y200 ++ l1 : List ByteArray)).bind fun y203 => (if y203.length + l2.length < 8796093022208 then ((impl_Without.f l0 (y203 ++ l2)).bind fun t209 => (laws_FnWithoutMore.l0 kj15 l0 t197 t209 l1 (l1.length : Int) 0)) else (none))) else (none)))) = some r := H
                have A26 := Aside0.mk A260
                clear A260
                replace H := Option.bind_eq_some_iff.mp H
                obtain ⟨t197, A270, H⟩ := H
                replace H : ((some (([] : List ByteArray) : List ByteArray)).bind fun y200 => (if y200.length + l1.length < 8796093022208 then ((some (y200 ++ l1 : List ByteArray)).bind fun y203 => (if y203.length + l2.length < 8796093022208 then ((impl_Without.f l0 (y203 ++ l2)).bind fun t209 => (laws_FnWithoutMore.l0 kj15 l0 t197 t209 l1 (l1.length : Int) 0)) else (none))) else (none))) = some r := H
                have A27 := Aside0.mk A270
                clear A270
                obtain ⟨y200, hy200⟩ : ∃ y_ : List ByteArray, y_ = (([] : List ByteArray)) := ⟨_, rfl⟩
                replace H : (if y200.length + l1.length < 8796093022208 then ((some (y200 ++ l1 : List ByteArray)).bind fun y203 => (if y203.length + l2.length < 8796093022208 then ((impl_Without.f l0 (y203 ++ l2)).bind fun t209 => (laws_FnWithoutMore.l0 kj15 l0 t197 t209 l1 (l1.length : Int) 0)) else (none))) else (none)) = some r := by first | (rw [hy200]; with_reducible exact H) | (have H2_ := (Option.bind_some _ _).symm.trans H; rw [hy200]; with_reducible exact H2_) | (have H2_ := (Option.bind_some _ _).symm.trans H; with_reducible exact H2_) | with_reducible exact H | (rw [hy200]; exact H) | exact H
                have Ny200 := Aside0.mk hy200
                clear hy200
                by_cases c28 : y200.length + l1.length < 8796093022208
                · rw [if_pos c28] at H
                  have LMc28 := Aside0.mk c28
                  clear c28
                  obtain ⟨y203, hy203⟩ : ∃ y_ : List ByteArray, y_ = (y200 ++ l1) := ⟨_, rfl⟩
                  replace H : (if y203.length + l2.length < 8796093022208 then ((impl_Without.f l0 (y203 ++ l2)).bind fun t209 => (laws_FnWithoutMore.l0 kj15 l0 t197 t209 l1 (l1.length : Int) 0)) else (none)) = some r := by first | (rw [hy203]; with_reducible exact H) | (have H2_ := (Option.bind_some _ _).symm.trans H; rw [hy203]; with_reducible exact H2_) | (have H2_ := (Option.bind_some _ _).symm.trans H; with_reducible exact H2_) | with_reducible exact H | (rw [hy203]; exact H) | exact H
                  have Ny203 := Aside0.mk hy203
                  clear hy203
                  by_cases c29 : y203.length + l2.length < 8796093022208
                  · rw [if_pos c29] at H
                    have LMc29 := Aside0.mk c29
                    clear c29
                    obtain ⟨y206, hy206⟩ : ∃ y_ : List ByteArray, y_ = (y203 ++ l2) := ⟨_, rfl⟩
                    replace H : ((impl_Without.f l0 y206).bind fun t209 => (laws_FnWithoutMore.l0 kj15 l0 t197 t209 l1 (l1.length : Int) 0)) = some r := by first | (rw [hy206]; with_reducible exact H) | (have H2_ := (Option.bind_some _ _).symm.trans H; rw [hy206]; with_reducible exact H2_) | (have H2_ := (Option.bind_some _ _).symm.trans H; with_reducible exact H2_) | with_reducible exact H | (rw [hy206]; exact H) | exact H
                    have Ny206 := Aside0.mk hy206
                    clear hy206
                    replace H := Option.bind_eq_some_iff.mp H
                    obtain ⟨t209, A300, H⟩ := H
                    replace H : (laws_FnWithoutMore.l0 kj15 l0 t197 t209 l1 (l1.length : Int) 0) = some r := H
                    have A30 := Aside0.mk A300
                    clear A300
                    have H' := Aside0.mk H
                    clear H
                    go_wp2_with (first | ((with_reducible refine gate_callee (f := 20) rfl ?_); refine goesL_ (some 43) rfl rfl Try.func20 (by kernel_rfl) rfl #[.slice A0 l0.length c0, .slice A1 l1.length c1] rfl (by (try simp only [List.map_toArray, List.map_cons, List.map_nil]); first | done | rfl | (simp only [List.length_drop, List.length_take]; rfl)) ?_; (with_reducible refine (impl_Without.calls _ _ l0 _ _ l1 t194 _ ?side1 ?side2 ?side3 ?side4 A26.out).mono ?_); (case side1 => repeat (first | exact (Kd.C_below HR0.out HB.out) | (with_reducible refine Kd.C_alloc ?_ _) | (with_reducible refine Kd.C_drewN ?_ _) | (with_reducible refine Kd.C_drew ?_))); (case side2 => exact HC0.out); (case side3 => repeat (first | exact (Kd.C_below HR1.out HB.out) | (with_reducible refine Kd.C_alloc ?_ _) | (with_reducible refine Kd.C_drewN ?_ _) | (with_reducible refine Kd.C_drew ?_))); (case side4 => exact HC1.out); rintro e w31 ⟨v195, rfl, ho0, hb⟩; refine ⟨_, rfl, ?_⟩; have n0_ := Aside0.mk (Kd.R_lower ho0 (below_size (by repeat (first | (with_reducible first | exact HB.out | apply below_alloc | apply pw_below_drewN | apply below_drew1) | exact HB.out)))); have n1_ := Aside0.mk (below_step (by repeat (first | (with_reducible first | exact HB.out | apply below_alloc | apply pw_below_drewN | apply below_drew1) | exact HB.out)) hb); clear HB; have HO196 := n0_; have HB := n1_; clear n0_ n1_; (try clear hb); (try clear hb2); (try clear hk); (try clear hi); (try clear ho0); obtain ⟨Ao32, co32, eo32⟩ := Kd.R_slice HO196.out; subst eo32) | ((with_reducible refine gate_callee (f := 20) rfl ?_); refine goesL_ (some 45) rfl rfl Try.func20 (by kernel_rfl) rfl #[.slice Ao32 t194.length co32, .slice A2 l2.length c2] rfl (by (try simp only [List.map_toArray, List.map_cons, List.map_nil]); first | done | rfl | (simp only [List.length_drop, List.length_take]; rfl)) ?_; (with_reducible refine (impl_Without.calls _ _ t194 _ _ l2 t197 _ ?side1 ?side2 ?side3 ?side4 A27.out).mono ?_); (case side1 => repeat (first | exact (Kd.R_reads' HO196.out).2.2 | (with_reducible refine Kd.C_alloc ?_ _) | (with_reducible refine Kd.C_drewN ?_ _) | (with_reducible refine Kd.C_drew ?_))); (case side2 => exact (Kd.R_reads' HO196.out).2.1); (case side3 => repeat (first | exact (Kd.C_below HR2.out HB.out) | (with_reducible refine Kd.C_alloc ?_ _) | (with_reducible refine Kd.C_drewN ?_ _) | (with_reducible refine Kd.C_drew ?_))); (case side4 => exact HC2.out); rintro e w33 ⟨v198, rfl, ho0, hb⟩; refine ⟨_, rfl, ?_⟩; have n0_ := Aside0.mk (Kd.R_elder' (by (with_reducible repeat (first | apply Kd.R_alloc | apply Kd.R_drewN | apply Kd.R_drew)); exact HO196.out) (Kd.R_base ho0) hb); have n1_ := Aside0.mk (Kd.R_lower (Kd.R_new' ho0 (Kd.R_lt (by (with_reducible repeat (first | apply Kd.R_alloc | apply Kd.R_drewN | apply Kd.R_drew)); exact HO196.out))) (below_size (by repeat (first | (with_reducible first | exact HB.out | apply below_alloc | apply pw_below_drewN | apply below_drew1) | exact HB.out)))); have n2_ := Aside0.mk (below_step (by repeat (first | (with_reducible first | exact HB.out | apply below_alloc | apply pw_below_drewN | apply below_drew1) | exact HB.out)) hb); clear HO196; clear HB; have HO196 := n0_; have HO199 := n1_; have HB := n2_; clear n0_ n1_ n2_; (try clear hb); (try clear hb2); (try clear hk); (try clear hi); (try clear ho0)) | ((with_reducible refine gate_dst (N := 47) rfl ?_); (try (refine gate_guard (by rfl) ?_; dsimp only)); refine Kd.R_lit Kd.string _ 9 ?hg (N := 47) ?hd (xs := ([] : List ByteArray)) (inner := []) (ok := fun _ => True) (okp := fun _ => True) ?hr ?hp (fun _ hk => hk) trivial (Below.refl _ _) (Nat.le_refl _) (by simp) ?_; (case hd => rfl); (case hg => rfl); (case hr => first | (go_simp; done) | (go_simp; rfl)); (case hp => exact (Reps.none _ _)); intro v201 w34 ho35 hb hg_ hnew_; clear hg_ hnew_; (first | rw [← Ny200.out] at ho35 | (simp only [Int.reduceToNat] at ho35; rw [← Ny200.out] at ho35)); have n0_ := Aside0.mk (Kd.R_below (by (with_reducible repeat (first | apply Kd.R_alloc | apply Kd.R_drewN | apply Kd.R_drew)); exact HO196.out) hb); have n1_ := Aside0.mk (Kd.R_below (by (with_reducible repeat (first | apply Kd.R_alloc | apply Kd.R_drewN | apply Kd.R_drew)); exact HO199.out) hb); have n2_ := Aside0.mk (Kd.R_lower ho35 (below_size (by repeat (first | (with_reducible first | exact HB.out | apply below_alloc | apply pw_below_drewN | apply below_drew1) | exact HB.out)))); have n3_ := Aside0.mk (below_step (by repeat (first | (with_reducible first | exact HB.out | apply below_alloc | apply pw_below_drewN | apply below_drew1) | exact HB.out)) hb); clear HO196; clear HO199; clear HB; have HO196 := n0_; have HO199 := n1_; have HO202 := n2_; have HB := n3_; clear n0_ n1_ n2_ n3_; clear hb ho35) | ((with_reducible refine gate_builtin (b := .append) (xs := #[.tmp 47, .tmp 48]) rfl ?_); (try (refine gate_guard (by rfl) ?_; dsimp only)); at_builtin; refine Kd.R_append_rows Kd.string (w0 := w) w.heap.size rfl (.tmp 47) (.tmp 48) 33 9 (.string ⟨#[]⟩) 16 rfl Try.underlying33 info9 rfl (by decide) (by omega) v201 y200 l1 _ _ _ (fun _ => True) (fun _ => False) rfl rfl ?aO ?aR (fun _ _ h => h) (fun _ h => h.elim) ?aF ?aB ?aS ?aL ?_; (case aR => repeat (first | exact (Kd.C_below HR1.out HB.out) | (with_reducible refine Kd.C_alloc ?_ _) | (with_reducible refine Kd.C_drewN ?_ _) | (with_reducible refine Kd.C_drew ?_))); (case aB => exact (by repeat (first | (with_reducible first | exact HB.out | apply below_alloc | apply pw_below_drewN | apply below_drew1) | exact HB.out))); (case aF => exact (fun _ _ => trivial)); (case aO => exact (by (with_reducible repeat (first | apply Kd.R_alloc | apply Kd.R_drewN | apply Kd.R_drew)); exact HO202.out)); (case aS => exact (below_size (by repeat (first | (with_reducible first | exact HB.out | apply below_alloc | apply pw_below_drewN | apply below_drew1) | exact HB.out)))); (case aL => have := LMc28.out; omega); intro v204 w36 ho hb hg hat; rw [← Ny203.out] at ho; have n0_ := Aside0.mk (Kd.R_over' (by (with_reducible repeat (first | apply Kd.R_alloc | apply Kd.R_drewN | apply Kd.R_drew)); exact HO196.out) (Kd.R_typed (by (with_reducible repeat (first | apply Kd.R_alloc | apply Kd.R_drewN | apply Kd.R_drew)); exact HO202.out)) (by decide) hg); have n1_ := Aside0.mk (Kd.R_over' (by (with_reducible repeat (first | apply Kd.R_alloc | apply Kd.R_drewN | apply Kd.R_drew)); exact HO199.out) (Kd.R_typed (by (with_reducible repeat (first | apply Kd.R_alloc | apply Kd.R_drewN | apply Kd.R_drew)); exact HO202.out)) (by decide) hg); have n2_ := Aside0.mk (hb); have n3_ := Aside0.mk (ho); clear HO196; clear HO199; clear HB; clear HO202; have HO196 := n0_; have HO199 := n1_; have HB := n2_; have HO205 := n3_; clear n0_ n1_ n2_ n3_; clear ho hb hg hat) | ((with_reducible refine gate_builtin (b := .append) (xs := #[.tmp 49, .tmp 50]) rfl ?_); (try (refine gate_guard (by rfl) ?_; dsimp only)); at_builtin; refine Kd.R_append_rows Kd.string (w0 := w) w.heap.size rfl (.tmp 49) (.tmp 50) 33 9 (.string ⟨#[]⟩) 16 rfl Try.underlying33 info9 rfl (by decide) (by omega) v204 y203 l2 _ _ _ (fun _ => True) (fun _ => False) rfl rfl ?aO ?aR (fun _ _ h => h) (fun _ h => h.elim) ?aF ?aB ?aS ?aL ?_; (case aR => repeat (first | exact (Kd.C_below HR2.out HB.out) | (with_reducible refine Kd.C_alloc ?_ _) | (with_reducible refine Kd.C_drewN ?_ _) | (with_reducible refine Kd.C_drew ?_))); (case aB => exact (by repeat (first | (with_reducible first | exact HB.out | apply below_alloc | apply pw_below_drewN | apply below_drew1) | exact HB.out))); (case aF => exact (fun _ _ => trivial)); (case aO => exact (by (with_reducible repeat (first | apply Kd.R_alloc | apply Kd.R_drewN | apply Kd.R_drew)); exact HO205.out)); (case aS => exact (below_size (by repeat (first | (with_reducible first | exact HB.out | apply below_alloc | apply pw_below_drewN | apply below_drew1) | exact HB.out)))); (case aL => have := LMc29.out; omega); intro v207 w37 ho hb hg hat; rw [← Ny206.out] at ho; have n0_ := Aside0.mk (Kd.R_over' (by (with_reducible repeat (first | apply Kd.R_alloc | apply Kd.R_drewN | apply Kd.R_drew)); exact HO196.out) (Kd.R_typed (by (with_reducible repeat (first | apply Kd.R_alloc | apply Kd.R_drewN | apply Kd.R_drew)); exact HO205.out)) (by decide) hg); have n1_ := Aside0.mk (Kd.R_over' (by (with_reducible repeat (first | apply Kd.R_alloc | apply Kd.R_drewN | apply Kd.R_drew)); exact HO199.out) (Kd.R_typed (by (with_reducible repeat (first | apply Kd.R_alloc | apply Kd.R_drewN | apply Kd.R_drew)); exact HO205.out)) (by decide) hg); have n2_ := Aside0.mk (hb); have n3_ := Aside0.mk (ho); clear HO196; clear HO199; clear HB; clear HO205; have HO196 := n0_; have HO199 := n1_; have HB := n2_; have HO208 := n3_; clear n0_ n1_ n2_ n3_; clear ho hb hg hat; obtain ⟨Ao38, co38, eo38⟩ := Kd.R_slice HO208.out; subst eo38) | ((with_reducible refine gate_callee (f := 20) rfl ?_); refine goesL_ (some 52) rfl rfl Try.func20 (by kernel_rfl) rfl #[.slice A0 l0.length c0, .slice Ao38 y206.length co38] rfl (by (try simp only [List.map_toArray, List.map_cons, List.map_nil]); first | done | rfl | (simp only [List.length_drop, List.length_take]; rfl)) ?_; (with_reducible refine (impl_Without.calls _ _ l0 _ _ y206 t209 _ ?side1 ?side2 ?side3 ?side4 A30.out).mono ?_); (case side1 => repeat (first | exact (Kd.C_below HR0.out HB.out) | (with_reducible refine Kd.C_alloc ?_ _) | (with_reducible refine Kd.C_drewN ?_ _) | (with_reducible refine Kd.C_drew ?_))); (case side2 => exact HC0.out); (case side3 => repeat (first | exact (Kd.R_reads' HO208.out).2.2 | (with_reducible refine Kd.C_alloc ?_ _) | (with_reducible refine Kd.C_drewN ?_ _) | (with_reducible refine Kd.C_drew ?_))); (case side4 => exact (Kd.R_reads' HO208.out).2.1); rintro e w39 ⟨v210, rfl, ho0, hb⟩; refine ⟨_, rfl, ?_⟩; have n0_ := Aside0.mk (Kd.R_elder' (by (with_reducible repeat (first | apply Kd.R_alloc | apply Kd.R_drewN | apply Kd.R_drew)); exact HO196.out) (Kd.R_base ho0) hb); have n1_ := Aside0.mk (Kd.R_elder' (by (with_reducible repeat (first | apply Kd.R_alloc | apply Kd.R_drewN | apply Kd.R_drew)); exact HO199.out) (Kd.R_base ho0) hb); have n2_ := Aside0.mk (Kd.R_below (by (with_reducible repeat (first | apply Kd.R_alloc | apply Kd.R_drewN | apply Kd.R_drew)); exact HO208.out) hb); have n3_ := Aside0.mk (Kd.R_lower (Kd.R_new' (Kd.R_new' ho0 (Kd.R_lt (by (with_reducible repeat (first | apply Kd.R_alloc | apply Kd.R_drewN | apply Kd.R_drew)); exact HO196.out))) (Kd.R_lt (by (with_reducible repeat (first | apply Kd.R_alloc | apply Kd.R_drewN | apply Kd.R_drew)); exact HO199.out))) (below_size (by repeat (first | (with_reducible first | exact HB.out | apply below_alloc | apply pw_below_drewN | apply below_drew1) | exact HB.out)))); have n4_ := Aside0.mk (below_step (by repeat (first | (with_reducible first | exact HB.out | apply below_alloc | apply pw_below_drewN | apply below_drew1) | exact HB.out)) hb); clear HO196; clear HO199; clear HO208; clear HB; have HO196 := n0_; have HO199 := n1_; have HO208 := n2_; have HO211 := n3_; have HB := n4_; clear n0_ n1_ n2_ n3_ n4_; (try clear hb); (try clear hb2); (try clear hk); (try clear hi); (try clear ho0)))
                    go_loopg [55] kj15 (fun kq v55 w' => ∃ (x55_3 : Int), v55 = .int .i64 x55_3 ∧ Aside0 (laws_FnWithoutMore.l0 kq l0 t197 t209 l1 (l1.length : Int) x55_3 = some r) ∧ Aside0 (kq ≤ kj15) ∧ Aside0 (Kd.R k26 26 w' w.heap.size (fun k_ => some k_ ≠ (v210 : Value).ownBlock) v198 t197) ∧ Aside0 (Kd.R k26 26 w' w.heap.size (fun k_ => some k_ ≠ (v198 : Value).ownBlock) v210 t209) ∧ Aside0 (Below w.heap.size w w'))
                    case atStart => exact ⟨(0), (by first | rfl | (simp; done) | (simp [*]; done)), H', ⟨Nat.le_refl _⟩, ⟨by (with_reducible repeat (first | apply Kd.R_alloc | apply Kd.R_drewN | apply Kd.R_drew)); exact Kd.R_mono HO199.out (fun _ hk => hk.2)⟩, ⟨by (with_reducible repeat (first | apply Kd.R_alloc | apply Kd.R_drewN | apply Kd.R_drew)); exact Kd.R_mono HO211.out (fun _ hk => hk.2)⟩, ⟨by repeat (first | (with_reducible first | exact HB.out | apply below_alloc | apply pw_below_drewN | apply below_drew1) | exact HB.out)⟩⟩
                    case round =>
                      clear H'
                      try clear c1
                      try clear c2
                      try clear p2
                      try clear c6
                      try clear c8
                      try clear c11
                      try clear c13
                      try clear c15
                      try clear c15b0
                      try clear c15b1
                      try clear c20
                      try clear c23
                      try clear c24
                      try clear c24b0
                      try clear c24b1
                      try clear c25
                      try clear c28
                      try clear c29
                      try clear p2
                      obtain ⟨x55_3, rfl, HA, HK3, HO_7, HO_8, HB⟩ := hrel
                      cases gk with
                      | zero => exact absurd HA.out (by simp [laws_FnWithoutMore.l0])
                      | succ k3 =>
                        have H := HA.out
                        clear HA
                        simp only [laws_FnWithoutMore.l0] at H
                        by_cases c40 : x55_3 < (l1.length : Int)
                        · rw [if_pos c40] at H
                          have c40b0 : decide (x55_3 < (l1.length : Int)) = true := decide_eq_true c40
                          clear c40
                          by_cases c41 : 0 ≤ x55_3
                          · rw [if_pos c41] at H
                            have c41b0 : decide (0 ≤ x55_3) = true := decide_eq_true c41
                            clear c41
                            by_cases c42 : x55_3 < (l1.length : Int)
                            · rw [if_pos c42] at H
                              have c42b0 : decide (x55_3 < (l1.length : Int)) = true := decide_eq_true c42
                              clear c42
                              replace H := Option.bind_eq_some_iff.mp H
                              obtain ⟨t213, A430, H⟩ := H
                              replace H : ((spec_Has.f k3 t213 (rdOf ByteArray.empty l1 x55_3)).bind fun t216 => (if t216 = true then (some false) else (laws_FnWithoutMore.l0 k3 l0 t197 t209 l1 (l1.length : Int) (wrap64 (x55_3 + 1))))) = some r := H
                              have A43 := Aside0.mk A430
                              clear A430
                              replace H := Option.bind_eq_some_iff.mp H
                              obtain ⟨t216, A440, H⟩ := H
                              replace H : (if t216 = true then (some false) else (laws_FnWithoutMore.l0 k3 l0 t197 t209 l1 (l1.length : Int) (wrap64 (x55_3 + 1)))) = some r := H
                              have A44 := Aside0.mk A440
                              clear A440
                              by_cases c45 : t216 = true
                              · subst c45
                                have H1 : (some false) = some r := by rw [if_pos rfl] at H; exact H
                                clear H
                                have H := H1
                                clear H1
                                obtain rfl := Option.some.inj H
                                have p212 : 0 ≤ (x55_3 : Int) := of_decide_eq_true (by first | (with_reducible assumption) | assumption)
                                have q212 : x55_3 < (l1.length : Int) := of_decide_eq_true (by first | (with_reducible assumption) | assumption)
                                obtain ⟨ad212, e212, hx212_0⟩ := Kd.at_string HR1.out x55_3 p212 q212
                                cases e212
                                replace hx212_0 := (HB.out.cell (World.block_lt_of_cell? w _ hx212_0)).trans hx212_0
                                replace p212 := eq_true p212
                                replace q212 := eq_true q212
                                obtain ⟨Ao46, co46, eo46⟩ := Kd.R_slice HO_7.out
                                subst eo46
                                go_wp2_with (first | ((with_reducible refine gate_callee (f := 16) rfl ?_); refine goesL_ (some 60) rfl rfl Try.func16 (by kernel_rfl) rfl #[.slice Ao46 t197.length co46] rfl (by (try simp only [List.map_toArray, List.map_cons, List.map_nil]); first | done | rfl | (simp only [List.length_drop, List.length_take]; rfl)) ?_; (with_reducible refine (laws_pairs.calls k3 _ _ t197 t213 _ ?side1 ?side2 A43.out).mono ?_); (case side1 => repeat (first | exact (Kd.R_reads' HO_7.out).2.2 | (with_reducible refine Kd.C_alloc ?_ _) | (with_reducible refine Kd.C_drewN ?_ _) | (with_reducible refine Kd.C_drew ?_))); (case side2 => exact (Kd.R_reads' HO_7.out).2.1); rintro e w47 ⟨v214, rfl, ho0, hb⟩; refine ⟨_, rfl, ?_⟩; have n0_ := Aside0.mk (Kd.R_below (by (with_reducible repeat (first | apply Kd.R_alloc | apply Kd.R_drewN | apply Kd.R_drew)); exact HO_7.out) hb); have n1_ := Aside0.mk (Kd.R_below (by (with_reducible repeat (first | apply Kd.R_alloc | apply Kd.R_drewN | apply Kd.R_drew)); exact HO_8.out) hb); have n2_ := Aside0.mk (Kd.R_lower ho0 (below_size (by repeat (first | (with_reducible first | exact HB.out | apply below_alloc | apply pw_below_drewN | apply below_drew1) | exact HB.out)))); have n3_ := Aside0.mk (below_step (by repeat (first | (with_reducible first | exact HB.out | apply below_alloc | apply pw_below_drewN | apply below_drew1) | exact HB.out)) hb); clear HO_7; clear HO_8; clear HB; have HO_7 := n0_; have HO_8 := n1_; have HO215 := n2_; have HB := n3_; clear n0_ n1_ n2_ n3_; (try clear hb); (try clear hb2); (try clear hk); (try clear hi); (try clear ho0); obtain ⟨Ao48, co48, eo48⟩ := Kd.R_slice HO215.out; subst eo48) | ((with_reducible refine gate_callee (f := 21) rfl ?_); refine goesL_ (some 62) rfl rfl Try.func21 (by kernel_rfl) rfl #[.slice Ao48 t213.length co48, .string (rdOf ByteArray.empty l1 x55_3)] rfl (by (try simp only [List.map_toArray, List.map_cons, List.map_nil]); first | done | rfl | (simp only [List.length_drop, List.length_take]; rfl)) ?_; (with_reducible refine (spec_Has.calls k3 _ _ t213 (rdOf ByteArray.empty l1 x55_3) true _ ?side1 ?side2 A44.out).mono ?_); (case side1 => repeat (first | exact (Kd.R_reads' HO215.out).2.2 | (with_reducible refine Kd.C_alloc ?_ _) | (with_reducible refine Kd.C_drewN ?_ _) | (with_reducible refine Kd.C_drew ?_))); (case side2 => exact (Kd.R_reads' HO215.out).2.1); rintro e w' ⟨rfl, ⟨nd, rfl⟩⟩; refine ⟨_, rfl, ?_⟩))
                                go_ret
                                exact ⟨by first | rfl | (simp [errW_none, errW_some] <;> rfl) | (simp [*, errW_none, errW_some] <;> rfl), by repeat (first | (with_reducible first | exact HB.out | apply below_alloc | apply pw_below_drewN | apply below_drew1) | exact HB.out)⟩
                              · replace c45 := Bool.eq_false_iff.mpr c45
                                subst c45
                                have H1 : (laws_FnWithoutMore.l0 k3 l0 t197 t209 l1 (l1.length : Int) (wrap64 (x55_3 + 1))) = some r := by rw [if_neg (show ¬ (false = true) by decide)] at H; exact H
                                clear H
                                have H := H1
                                clear H1
                                have H' := Aside0.mk H
                                clear H
                                have p212 : 0 ≤ (x55_3 : Int) := of_decide_eq_true (by first | (with_reducible assumption) | assumption)
                                have q212 : x55_3 < (l1.length : Int) := of_decide_eq_true (by first | (with_reducible assumption) | assumption)
                                obtain ⟨ad212, e212, hx212_0⟩ := Kd.at_string HR1.out x55_3 p212 q212
                                cases e212
                                replace hx212_0 := (HB.out.cell (World.block_lt_of_cell? w _ hx212_0)).trans hx212_0
                                replace p212 := eq_true p212
                                replace q212 := eq_true q212
                                obtain ⟨Ao49, co49, eo49⟩ := Kd.R_slice HO_7.out
                                subst eo49
                                go_wp2_with (first | ((with_reducible refine gate_callee (f := 16) rfl ?_); refine goesL_ (some 60) rfl rfl Try.func16 (by kernel_rfl) rfl #[.slice Ao49 t197.length co49] rfl (by (try simp only [List.map_toArray, List.map_cons, List.map_nil]); first | done | rfl | (simp only [List.length_drop, List.length_take]; rfl)) ?_; (with_reducible refine (laws_pairs.calls k3 _ _ t197 t213 _ ?side1 ?side2 A43.out).mono ?_); (case side1 => repeat (first | exact (Kd.R_reads' HO_7.out).2.2 | (with_reducible refine Kd.C_alloc ?_ _) | (with_reducible refine Kd.C_drewN ?_ _) | (with_reducible refine Kd.C_drew ?_))); (case side2 => exact (Kd.R_reads' HO_7.out).2.1); rintro e w50 ⟨v214, rfl, ho0, hb⟩; refine ⟨_, rfl, ?_⟩; have n0_ := Aside0.mk (Kd.R_below (by (with_reducible repeat (first | apply Kd.R_alloc | apply Kd.R_drewN | apply Kd.R_drew)); exact HO_7.out) hb); have n1_ := Aside0.mk (Kd.R_below (by (with_reducible repeat (first | apply Kd.R_alloc | apply Kd.R_drewN | apply Kd.R_drew)); exact HO_8.out) hb); have n2_ := Aside0.mk (Kd.R_lower ho0 (below_size (by repeat (first | (with_reducible first | exact HB.out | apply below_alloc | apply pw_below_drewN | apply below_drew1) | exact HB.out)))); have n3_ := Aside0.mk (below_step (by repeat (first | (with_reducible first | exact HB.out | apply below_alloc | apply pw_below_drewN | apply below_drew1) | exact HB.out)) hb); clear HO_7; clear HO_8; clear HB; have HO_7 := n0_; have HO_8 := n1_; have HO215 := n2_; have HB := n3_; clear n0_ n1_ n2_ n3_; (try clear hb); (try clear hb2); (try clear hk); (try clear hi); (try clear ho0); obtain ⟨Ao51, co51, eo51⟩ := Kd.R_slice HO215.out; subst eo51) | ((with_reducible refine gate_callee (f := 21) rfl ?_); refine goesL_ (some 62) rfl rfl Try.func21 (by kernel_rfl) rfl #[.slice Ao51 t213.length co51, .string (rdOf ByteArray.empty l1 x55_3)] rfl (by (try simp only [List.map_toArray, List.map_cons, List.map_nil]); first | done | rfl | (simp only [List.length_drop, List.length_take]; rfl)) ?_; (with_reducible refine (spec_Has.calls k3 _ _ t213 (rdOf ByteArray.empty l1 x55_3) false _ ?side1 ?side2 A44.out).mono ?_); (case side1 => repeat (first | exact (Kd.R_reads' HO215.out).2.2 | (with_reducible refine Kd.C_alloc ?_ _) | (with_reducible refine Kd.C_drewN ?_ _) | (with_reducible refine Kd.C_drew ?_))); (case side2 => exact (Kd.R_reads' HO215.out).2.1); rintro e w' ⟨rfl, ⟨nd, rfl⟩⟩; refine ⟨_, rfl, ?_⟩))
                                go_roundg k3
                                case measure => have := HJ3.out; have := HJ15.out; have := HK3.out; omega
                                case rel => exact ⟨(wrap64 (x55_3 + 1)), (by first | rfl | (simp; done) | (simp [*]; done)), H', ⟨by have := HJ3.out; have := HJ15.out; have := HK3.out; omega⟩, ⟨by (with_reducible repeat (first | apply Kd.R_alloc | apply Kd.R_drewN | apply Kd.R_drew)); exact HO_7.out⟩, ⟨by (with_reducible repeat (first | apply Kd.R_alloc | apply Kd.R_drewN | apply Kd.R_drew)); exact HO_8.out⟩, ⟨by repeat (first | (with_reducible first | exact HB.out | apply below_alloc | apply pw_below_drewN | apply below_drew1) | exact HB.out)⟩⟩
                            · rw [if_neg c42] at H
                              exact absurd H (by simp)
                          · rw [if_neg c41] at H
                            exact absurd H (by simp)
                        · rw [if_neg c40] at H
                          have c40b0 : decide (x55_3 < (l1.length : Int)) = false := decide_eq_false c40
                          clear c40
                          replace H := Option.bind_eq_some_iff.mp H
                          obtain ⟨t217, A520, H⟩ := H
                          replace H : ((laws_eqPairs.f t197 t217).bind fun t220 => (if t220 = true then ((impl_Without.f l0 ([] : List ByteArray)).bind fun t221 => ((laws_pairs.f k3 l0).bind fun t224 => ((spec_SortedPairs.f k3 t224).bind fun t227 => ((laws_eqPairs.f t221 t227).bind fun t230 => (some t230))))) else (some false))) = some r := H
                          have A52 := Aside0.mk A520
                          clear A520
                          replace H := Option.bind_eq_some_iff.mp H
                          obtain ⟨t220, A530, H⟩ := H
                          replace H : (if t220 = true then ((impl_Without.f l0 ([] : List ByteArray)).bind fun t221 => ((laws_pairs.f k3 l0).bind fun t224 => ((spec_SortedPairs.f k3 t224).bind fun t227 => ((laws_eqPairs.f t221 t227).bind fun t230 => (some t230))))) else (some false)) = some r := H
                          have A53 := Aside0.mk A530
                          clear A530
                          by_cases c54 : t220 = true
                          · subst c54
                            have H1 : ((impl_Without.f l0 ([] : List ByteArray)).bind fun t221 => ((laws_pairs.f k3 l0).bind fun t224 => ((spec_SortedPairs.f k3 t224).bind fun t227 => ((laws_eqPairs.f t221 t227).bind fun t230 => (some t230))))) = some r := by rw [if_pos rfl] at H; exact H
                            clear H
                            have H := H1
                            clear H1
                            replace H := Option.bind_eq_some_iff.mp H
                            obtain ⟨t221, A550, H⟩ := H
                            replace H : ((laws_pairs.f k3 l0).bind fun t224 => ((spec_SortedPairs.f k3 t224).bind fun t227 => ((laws_eqPairs.f t221 t227).bind fun t230 => (some t230)))) = some r := H
                            have A55 := Aside0.mk A550
                            clear A550
                            replace H := Option.bind_eq_some_iff.mp H
                            obtain ⟨t224, A560, H⟩ := H
                            replace H : ((spec_SortedPairs.f k3 t224).bind fun t227 => ((laws_eqPairs.f t221 t227).bind fun t230 => (some t230))) = some r := H
                            have A56 := Aside0.mk A560
                            clear A560
                            replace H := Option.bind_eq_some_iff.mp H
                            obtain ⟨t227, A570, H⟩ := H
                            replace H : ((laws_eqPairs.f t221 t227).bind fun t230 => (some t230)) = some r := H
                            have A57 := Aside0.mk A570
                            clear A570
                            replace H := Option.bind_eq_some_iff.mp H
                            obtain ⟨t230, A580, H⟩ := H
                            replace H : (some t230) = some r := H
                            have A58 := Aside0.mk A580
                            clear A580
                            obtain rfl := Option.some.inj H
                            obtain ⟨Ao59, co59, eo59⟩ := Kd.R_slice HO_8.out
                            subst eo59
                            go_wp2_with (first | ((with_reducible refine gate_callee (f := 16) rfl ?_); refine goesL_ (some 66) rfl rfl Try.func16 (by kernel_rfl) rfl #[.slice Ao59 t209.length co59] rfl (by (try simp only [List.map_toArray, List.map_cons, List.map_nil]); first | done | rfl | (simp only [List.length_drop, List.length_take]; rfl)) ?_; (with_reducible refine (laws_pairs.calls k3 _ _ t209 t217 _ ?side1 ?side2 A52.out).mono ?_); (case side1 => repeat (first | exact (Kd.R_reads' HO_8.out).2.2 | (with_reducible refine Kd.C_alloc ?_ _) | (with_reducible refine Kd.C_drewN ?_ _) | (with_reducible refine Kd.C_drew ?_))); (case side2 => exact (Kd.R_reads' HO_8.out).2.1); rintro e w60 ⟨v218, rfl, ho0, hb⟩; refine ⟨_, rfl, ?_⟩; have n0_ := Aside0.mk (Kd.R_below (by (with_reducible repeat (first | apply Kd.R_alloc | apply Kd.R_drewN | apply Kd.R_drew)); exact HO_7.out) hb); have n1_ := Aside0.mk (Kd.R_below (by (with_reducible repeat (first | apply Kd.R_alloc | apply Kd.R_drewN | apply Kd.R_drew)); exact HO_8.out) hb); have n2_ := Aside0.mk (Kd.R_lower ho0 (below_size (by repeat (first | (with_reducible first | exact HB.out | apply below_alloc | apply pw_below_drewN | apply below_drew1) | exact HB.out)))); have n3_ := Aside0.mk (below_step (by repeat (first | (with_reducible first | exact HB.out | apply below_alloc | apply pw_below_drewN | apply below_drew1) | exact HB.out)) hb); clear HO_7; clear HO_8; clear HB; have HO_7 := n0_; have HO_8 := n1_; have HO219 := n2_; have HB := n3_; clear n0_ n1_ n2_ n3_; (try clear hb); (try clear hb2); (try clear hk); (try clear hi); (try clear ho0); obtain ⟨Ao61, co61, eo61⟩ := Kd.R_slice HO_7.out; subst eo61; obtain ⟨Ao62, co62, eo62⟩ := Kd.R_slice HO219.out; subst eo62) | ((with_reducible refine gate_callee (f := 14) rfl ?_); refine goesL_ (some 67) rfl rfl Try.func14 (by kernel_rfl) rfl #[.slice Ao61 t197.length co61, .slice Ao62 t217.length co62] rfl (by (try simp only [List.map_toArray, List.map_cons, List.map_nil]); first | done | rfl | (simp only [List.length_drop, List.length_take]; rfl)) ?_; (with_reducible refine (laws_eqPairs.calls _ _ t197 _ _ t217 true _ ?side1 ?side2 ?side3 ?side4 A53.out).mono ?_); (case side1 => repeat (first | exact (Kd.R_reads' HO_7.out).2.2 | (with_reducible refine Kd.C_alloc ?_ _) | (with_reducible refine Kd.C_drewN ?_ _) | (with_reducible refine Kd.C_drew ?_))); (case side2 => exact (Kd.R_reads' HO_7.out).2.1); (case side3 => repeat (first | exact (Kd.R_reads' HO219.out).2.2 | (with_reducible refine Kd.C_alloc ?_ _) | (with_reducible refine Kd.C_drewN ?_ _) | (with_reducible refine Kd.C_drew ?_))); (case side4 => exact (Kd.R_reads' HO219.out).2.1); rintro e w' ⟨rfl, ⟨nd, rfl⟩⟩; refine ⟨_, rfl, ?_⟩) | (go_at_call 20; (refine (impl_Without.calls _ _ l0 _ _ ([] : List ByteArray) t221 _ ?side1 ?side2 ?side3 ?side4 A55.out).mono ?_); (case side1 => repeat (first | exact (Kd.C_below HR0.out (by repeat (first | (with_reducible first | exact HB.out | apply below_alloc | apply pw_below_drewN | apply below_drew1) | exact HB.out))) | (with_reducible refine Kd.C_alloc ?_ _) | (with_reducible refine Kd.C_drewN ?_ _) | (with_reducible refine Kd.C_drew ?_))); (case side2 => exact HC0.out); (case side3 => exact Kd.C_nil _ _); (case side4 => exact Nat.le_refl _); rintro e w63 ⟨v222, rfl, ho0, hb⟩; have n0_ := Aside0.mk (Kd.R_elder' (by (with_reducible repeat (first | apply Kd.R_alloc | apply Kd.R_drewN | apply Kd.R_drew)); exact HO_7.out) (Kd.R_base ho0) hb); have n1_ := Aside0.mk (Kd.R_elder' (by (with_reducible repeat (first | apply Kd.R_alloc | apply Kd.R_drewN | apply Kd.R_drew)); exact HO_8.out) (Kd.R_base ho0) hb); have n2_ := Aside0.mk (Kd.R_below (by (with_reducible repeat (first | apply Kd.R_alloc | apply Kd.R_drewN | apply Kd.R_drew)); exact HO219.out) hb); have n3_ := Aside0.mk (Kd.R_lower (Kd.R_new' (Kd.R_new' ho0 (Kd.R_lt (by (with_reducible repeat (first | apply Kd.R_alloc | apply Kd.R_drewN | apply Kd.R_drew)); exact HO_7.out))) (Kd.R_lt (by (with_reducible repeat (first | apply Kd.R_alloc | apply Kd.R_drewN | apply Kd.R_drew)); exact HO_8.out))) (below_size (by repeat (first | (with_reducible first | exact HB.out | apply below_alloc | apply pw_below_drewN | apply below_drew1) | exact HB.out)))); have n4_ := Aside0.mk (below_step (by repeat (first | (with_reducible first | exact HB.out | apply below_alloc | apply pw_below_drewN | apply below_drew1) | exact HB.out)) hb); clear HO_7; clear HO_8; clear HO219; clear HB; have HO_7 := n0_; have HO_8 := n1_; have HO219 := n2_; have HO223 := n3_; have HB := n4_; clear n0_ n1_ n2_ n3_ n4_; (try clear hb); (try clear hb2); (try clear hk); (try clear hi); (try clear ho0)) | (go_at_call 16; (with_reducible refine (laws_pairs.calls k3 _ _ l0 t224 _ ?side1 ?side2 A56.out).mono ?_); (case side1 => repeat (first | exact (Kd.C_below HR0.out HB.out) | (with_reducible refine Kd.C_alloc ?_ _) | (with_reducible refine Kd.C_drewN ?_ _) | (with_reducible refine Kd.C_drew ?_))); (case side2 => exact HC0.out); rintro e w64 ⟨v225, rfl, ho0, hb⟩; have n0_ := Aside0.mk (Kd.R_below (by (with_reducible repeat (first | apply Kd.R_alloc | apply Kd.R_drewN | apply Kd.R_drew)); exact HO_7.out) hb); have n1_ := Aside0.mk (Kd.R_below (by (with_reducible repeat (first | apply Kd.R_alloc | apply Kd.R_drewN | apply Kd.R_drew)); exact HO_8.out) hb); have n2_ := Aside0.mk (Kd.R_elder' (by (with_reducible repeat (first | apply Kd.R_alloc | apply Kd.R_drewN | apply Kd.R_drew)); exact HO219.out) (Kd.R_base ho0) hb); have n3_ := Aside0.mk (Kd.R_below (by (with_reducible repeat (first | apply Kd.R_alloc | apply Kd.R_drewN | apply Kd.R_drew)); exact HO223.out) hb); have n4_ := Aside0.mk (Kd.R_lower (Kd.R_new' ho0 (Kd.R_lt (by (with_reducible repeat (first | apply Kd.R_alloc | apply Kd.R_drewN | apply Kd.R_drew)); exact HO219.out))) (below_size (by repeat (first | (with_reducible first | exact HB.out | apply below_alloc | apply pw_below_drewN | apply below_drew1) | exact HB.out)))); have n5_ := Aside0.mk (below_step (by repeat (first | (with_reducible first | exact HB.out | apply below_alloc | apply pw_below_drewN | apply below_drew1) | exact HB.out)) hb); clear HO_7; clear HO_8; clear HO219; clear HO223; clear HB; have HO_7 := n0_; have HO_8 := n1_; have HO219 := n2_; have HO223 := n3_; have HO226 := n4_; have HB := n5_; clear n0_ n1_ n2_ n3_ n4_ n5_; (try clear hb); (try clear hb2); (try clear hk); (try clear hi); (try clear ho0); obtain ⟨Ao65, co65, eo65⟩ := Kd.R_slice HO226.out; subst eo65) | (go_at_call 18; (with_reducible refine (spec_SortedPairs.calls k3 _ _ t224 t227 _ ?side1 ?side2 A57.out).mono ?_); (case side1 => repeat (first | exact (Kd.R_reads' HO226.out).2.2 | (with_reducible refine Kd.C_alloc ?_ _) | (with_reducible refine Kd.C_drewN ?_ _) | (with_reducible refine Kd.C_drew ?_))); (case side2 => exact (Kd.R_reads' HO226.out).2.1); rintro e w66 ⟨v228, rfl, ho0, hb⟩; have n0_ := Aside0.mk (Kd.R_below (by (with_reducible repeat (first | apply Kd.R_alloc | apply Kd.R_drewN | apply Kd.R_drew)); exact HO_7.out) hb); have n1_ := Aside0.mk (Kd.R_below (by (with_reducible repeat (first | apply Kd.R_alloc | apply Kd.R_drewN | apply Kd.R_drew)); exact HO_8.out) hb); have n2_ := Aside0.mk (Kd.R_elder' (by (with_reducible repeat (first | apply Kd.R_alloc | apply Kd.R_drewN | apply Kd.R_drew)); exact HO219.out) (Kd.R_base ho0) hb); have n3_ := Aside0.mk (Kd.R_below (by (with_reducible repeat (first | apply Kd.R_alloc | apply Kd.R_drewN | apply Kd.R_drew)); exact HO223.out) hb); have n4_ := Aside0.mk (Kd.R_elder' (by (with_reducible repeat (first | apply Kd.R_alloc | apply Kd.R_drewN | apply Kd.R_drew)); exact HO226.out) (Kd.R_base ho0) hb); have n5_ := Aside0.mk (Kd.R_lower (Kd.R_new' (Kd.R_new' ho0 (Kd.R_lt (by (with_reducible repeat (first | apply Kd.R_alloc | apply Kd.R_drewN | apply Kd.R_drew)); exact HO219.out))) (Kd.R_lt (by (with_reducible repeat (first | apply Kd.R_alloc | apply Kd.R_drewN | apply Kd.R_drew)); exact HO226.out))) (below_size (by repeat (first | (with_reducible first | exact HB.out | apply below_alloc | apply pw_below_drewN | apply below_drew1) | exact HB.out)))); have n6_ := Aside0.mk (below_step (by repeat (first | (with_reducible first | exact HB.out | apply below_alloc | apply pw_below_drewN | apply below_drew1) | exact HB.out)) hb); clear HO_7; clear HO_8; clear HO219; clear HO223; clear HO226; clear HB; have HO_7 := n0_; have HO_8 := n1_; have HO219 := n2_; have HO223 := n3_; have HO226 := n4_; have HO229 := n5_; have HB := n6_; clear n0_ n1_ n2_ n3_ n4_ n5_ n6_; (try clear hb); (try clear hb2); (try clear hk); (try clear hi); (try clear ho0); obtain ⟨Ao67, co67, eo67⟩ := Kd.R_slice HO223.out; subst eo67; obtain ⟨Ao68, co68, eo68⟩ := Kd.R_slice HO229.out; subst eo68) | (go_at_call 14; (with_reducible refine (laws_eqPairs.calls _ _ t221 _ _ t227 t230 _ ?side1 ?side2 ?side3 ?side4 A58.out).mono ?_); (case side1 => repeat (first | exact (Kd.R_reads' HO223.out).2.2 | (with_reducible refine Kd.C_alloc ?_ _) | (with_reducible refine Kd.C_drewN ?_ _) | (with_reducible refine Kd.C_drew ?_))); (case side2 => exact (Kd.R_reads' HO223.out).2.1); (case side3 => repeat (first | exact (Kd.R_reads' HO229.out).2.2 | (with_reducible refine Kd.C_alloc ?_ _) | (with_reducible refine Kd.C_drewN ?_ _) | (with_reducible refine Kd.C_drew ?_))); (case side4 => exact (Kd.R_reads' HO229.out).2.1); rintro e w' ⟨rfl, ⟨nd, rfl⟩⟩))
                            go_ret
                            exact ⟨by first | rfl | (simp [errW_none, errW_some] <;> rfl) | (simp [*, errW_none, errW_some] <;> rfl), by repeat (first | (with_reducible first | exact HB.out | apply below_alloc | apply pw_below_drewN | apply below_drew1) | exact HB.out)⟩
                          · replace c54 := Bool.eq_false_iff.mpr c54
                            subst c54
                            have H1 : (some false) = some r := by rw [if_neg (show ¬ (false = true) by decide)] at H; exact H
                            clear H
                            have H := H1
                            clear H1
                            obtain rfl := Option.some.inj H
                            obtain ⟨Ao69, co69, eo69⟩ := Kd.R_slice HO_8.out
                            subst eo69
                            go_wp2_with (first | ((with_reducible refine gate_callee (f := 16) rfl ?_); refine goesL_ (some 66) rfl rfl Try.func16 (by kernel_rfl) rfl #[.slice Ao69 t209.length co69] rfl (by (try simp only [List.map_toArray, List.map_cons, List.map_nil]); first | done | rfl | (simp only [List.length_drop, List.length_take]; rfl)) ?_; (with_reducible refine (laws_pairs.calls k3 _ _ t209 t217 _ ?side1 ?side2 A52.out).mono ?_); (case side1 => repeat (first | exact (Kd.R_reads' HO_8.out).2.2 | (with_reducible refine Kd.C_alloc ?_ _) | (with_reducible refine Kd.C_drewN ?_ _) | (with_reducible refine Kd.C_drew ?_))); (case side2 => exact (Kd.R_reads' HO_8.out).2.1); rintro e w70 ⟨v218, rfl, ho0, hb⟩; refine ⟨_, rfl, ?_⟩; have n0_ := Aside0.mk (Kd.R_below (by (with_reducible repeat (first | apply Kd.R_alloc | apply Kd.R_drewN | apply Kd.R_drew)); exact HO_7.out) hb); have n1_ := Aside0.mk (Kd.R_below (by (with_reducible repeat (first | apply Kd.R_alloc | apply Kd.R_drewN | apply Kd.R_drew)); exact HO_8.out) hb); have n2_ := Aside0.mk (Kd.R_lower ho0 (below_size (by repeat (first | (with_reducible first | exact HB.out | apply below_alloc | apply pw_below_drewN | apply below_drew1) | exact HB.out)))); have n3_ := Aside0.mk (below_step (by repeat (first | (with_reducible first | exact HB.out | apply below_alloc | apply pw_below_drewN | apply below_drew1) | exact HB.out)) hb); clear HO_7; clear HO_8; clear HB; have HO_7 := n0_; have HO_8 := n1_; have HO219 := n2_; have HB := n3_; clear n0_ n1_ n2_ n3_; (try clear hb); (try clear hb2); (try clear hk); (try clear hi); (try clear ho0); obtain ⟨Ao71, co71, eo71⟩ := Kd.R_slice HO_7.out; subst eo71; obtain ⟨Ao72, co72, eo72⟩ := Kd.R_slice HO219.out; subst eo72) | ((with_reducible refine gate_callee (f := 14) rfl ?_); refine goesL_ (some 67) rfl rfl Try.func14 (by kernel_rfl) rfl #[.slice Ao71 t197.length co71, .slice Ao72 t217.length co72] rfl (by (try simp only [List.map_toArray, List.map_cons, List.map_nil]); first | done | rfl | (simp only [List.length_drop, List.length_take]; rfl)) ?_; (with_reducible refine (laws_eqPairs.calls _ _ t197 _ _ t217 false _ ?side1 ?side2 ?side3 ?side4 A53.out).mono ?_); (case side1 => repeat (first | exact (Kd.R_reads' HO_7.out).2.2 | (with_reducible refine Kd.C_alloc ?_ _) | (with_reducible refine Kd.C_drewN ?_ _) | (with_reducible refine Kd.C_drew ?_))); (case side2 => exact (Kd.R_reads' HO_7.out).2.1); (case side3 => repeat (first | exact (Kd.R_reads' HO219.out).2.2 | (with_reducible refine Kd.C_alloc ?_ _) | (with_reducible refine Kd.C_drewN ?_ _) | (with_reducible refine Kd.C_drew ?_))); (case side4 => exact (Kd.R_reads' HO219.out).2.1); rintro e w' ⟨rfl, ⟨nd, rfl⟩⟩; refine ⟨_, rfl, ?_⟩))
                            go_ret
                            exact ⟨by first | rfl | (simp [errW_none, errW_some] <;> rfl) | (simp [*, errW_none, errW_some] <;> rfl), by repeat (first | (with_reducible first | exact HB.out | apply below_alloc | apply pw_below_drewN | apply below_drew1) | exact HB.out)⟩
                  · rw [if_neg c29] at H
                    exact absurd H (by simp)
                · rw [if_neg c28] at H
                  exact absurd H (by simp)
        · rw [if_neg c15] at H
          have c15b0 : ((t190.length : Int) == 1) = false := beq_eq_false_iff_ne.mpr c15
          have c15b1 : ((t190.length : Int) != 1) = true := bne_iff_ne.mpr c15
          obtain rfl := Option.some.inj H
          go_wp2_with (first | ((with_reducible refine gate_dst (N := 25) rfl ?_); (try (refine gate_guard (by rfl) ?_; dsimp only)); refine Kd.R_lit k26 _ 26 ?hg (N := 25) ?hd (xs := ([(⟨(⟨#[97]⟩ : ByteArray), (⟨#[98]⟩ : ByteArray)⟩ : S26)] : List (S26))) (inner := [.string (⟨#[97]⟩ : ByteArray), .string (⟨#[98]⟩ : ByteArray)]) (ok := fun _ => True) (okp := fun _ => True) ?hr ?hp (fun _ hk => hk) trivial (Below.refl _ _) (Nat.le_refl _) (by simp) ?_; (case hd => rfl); (case hg => rfl); (case hr => first | (go_simp; done) | (go_simp; rfl)); (case hp => exact (Reps.c2 (show Kd.M k26 _ _ _ (⟨(⟨#[97]⟩ : ByteArray), (⟨#[98]⟩ : ByteArray)⟩ : S26) [.string (⟨#[97]⟩ : ByteArray), .string (⟨#[98]⟩ : ByteArray)] from (k26_mkM _ _ _ (⟨(⟨#[97]⟩ : ByteArray), (⟨#[98]⟩ : ByteArray)⟩ : S26) )) (Reps.none _ _))); intro v188 w73 ho74 hb hg_ hnew_; clear hg_ hnew_; (first | rw [← Ny187.out] at ho74 | (simp only [Int.reduceToNat] at ho74; rw [← Ny187.out] at ho74)); have n0_ := Aside0.mk (Kd.R_lower ho74 (below_size (by repeat (first | (with_reducible first | exact HB.out | apply below_alloc | apply pw_below_drewN | apply below_drew1) | exact HB.out)))); have n1_ := Aside0.mk (below_step (by repeat (first | (with_reducible first | exact HB.out | apply below_alloc | apply pw_below_drewN | apply below_drew1) | exact HB.out)) hb); clear HB; have HO189 := n0_; have HB := n1_; clear n0_ n1_; clear hb ho74; obtain ⟨Ao75, co75, eo75⟩ := Kd.R_slice HO189.out; subst eo75) | ((with_reducible refine gate_callee (f := 20) rfl ?_); refine goesL_ (some 26) rfl rfl Try.func20 (by kernel_rfl) rfl #[.slice Ao75 y187.length co75, .slice none 0 0] rfl (by (try simp only [List.map_toArray, List.map_cons, List.map_nil]); first | done | rfl | (simp only [List.length_drop, List.length_take]; rfl)) ?_; (refine (impl_Without.calls _ _ y187 _ _ ([] : List ByteArray) t190 _ ?side1 ?side2 ?side3 ?side4 A14.out).mono ?_); (case side1 => repeat (first | exact (Kd.R_reads' HO189.out).2.2 | (with_reducible refine Kd.C_alloc ?_ _) | (with_reducible refine Kd.C_drewN ?_ _) | (with_reducible refine Kd.C_drew ?_))); (case side2 => exact (Kd.R_reads' HO189.out).2.1); (case side3 => exact Kd.C_nil _ _); (case side4 => exact Nat.le_refl _); rintro e w76 ⟨v191, rfl, ho0, hb⟩; refine ⟨_, rfl, ?_⟩; have n0_ := Aside0.mk (Kd.R_elder' (by (with_reducible repeat (first | apply Kd.R_alloc | apply Kd.R_drewN | apply Kd.R_drew)); exact HO189.out) (Kd.R_base ho0) hb); have n1_ := Aside0.mk (Kd.R_lower (Kd.R_new' ho0 (Kd.R_lt (by (with_reducible repeat (first | apply Kd.R_alloc | apply Kd.R_drewN | apply Kd.R_drew)); exact HO189.out))) (below_size (by repeat (first | (with_reducible first | exact HB.out | apply below_alloc | apply pw_below_drewN | apply below_drew1) | exact HB.out)))); have n2_ := Aside0.mk (below_step (by repeat (first | (with_reducible first | exact HB.out | apply below_alloc | apply pw_below_drewN | apply below_drew1) | exact HB.out)) hb); clear HO189; clear HB; have HO189 := n0_; have HO192 := n1_; have HB := n2_; clear n0_ n1_ n2_; (try clear hb); (try clear hb2); (try clear hk); (try clear hi); (try clear ho0); obtain ⟨Ao77, co77, eo77⟩ := Kd.R_slice HO192.out; subst eo77))
          go_ret
          exact ⟨by first | rfl | (simp [errW_none, errW_some] <;> rfl) | (simp [*, errW_none, errW_some] <;> rfl), by repeat (first | (with_reducible first | exact HB.out | apply below_alloc | apply pw_below_drewN | apply below_drew1) | exact HB.out)⟩

/-- THE ONE PURE STATEMENT of laws_FnWithoutMore: yours. -/
def laws_FnWithoutMore.Pure : Prop := ∀ (l0 : List (S26)) (l1 : List ByteArray) (l2 : List ByteArray), (l0.length ≤ maxLen ∧ ∀ y ∈ l0, okS26 y) → (l1.length ≤ maxLen ∧ ∀ y ∈ l1, y.size ≤ maxLen) → (l2.length ≤ maxLen ∧ ∀ y ∈ l2, y.size ≤ maxLen) → ∃ k, laws_FnWithoutMore.f k l0 l1 l2 = some true

end Go.Proofs.Ytbffcmiabcmjcaa.Q
