-- printed by this project's own program wip/tools/mkprint.py (the kit's print.py with hand-proved contracts put in)
import Derived.Test.YtbffhefeepmpcaaQx0
import Derived.Test.YtbffhefeepmpcaaQx26
import Derived.Test.YtbffhefeepmpcaaQx27
import Derived.Test.YtbffhefeepmpcaaQx31
import Derived.Test.YtbffhefeepmpcaaQx32
import Derived.Test.YtbffhefeepmpcaaQx41
namespace Go.Proofs.Ytbffhefeepmpcaa.Q
open Go.RowKit Go.Proofs.YtbffhefeepmpcaaW.PrintWords Go.Proofs.YtbffhefeepmpcaaW.PrintLast Go.Proofs.YtbffhefeepmpcaaW.PrintMore
attribute [local go_sem] max2_int min2_int max_two min_two max_three min_three max_four min_four   -- for this text's walks alone
set_option linter.unusedVariables false
set_option linter.unusedSimpArgs false

/-! ### laws_FnFastPrint: function 7 -/
mutual
def laws_FnFastPrint.j0 : Nat → List (S48) → List Int → Bool → Option (Bool)
  | 0, _, _, _ => none
  | k + 1, x0, x1, x19 => if x19 = true then (some true) else ((impl_SetFastPrint.f (([(⟨(⟨#[97]⟩ : ByteArray), (⟨#[98]⟩ : ByteArray)⟩ : S48)] : List (S48)))).bind fun t262 => ((impl_SetFastPrint.f ([] : List (S48))).bind fun t263 => (if t262 = t263 then (some false) else ((laws_much.f x0).bind fun t264 => (if t264 = true then (some true) else ((laws_pairs.f k x0).bind fun t265 => ((spec_Set.f k t265).bind fun t268 => (laws_FnFastPrint.l0 k x0 x1 ([] : List (S48)) t268 (t268.length : Int) 0))))))))
def laws_FnFastPrint.l0 : Nat → List (S48) → List Int → List (S48) → List (S50) → Int → Int → Option (Bool)
  | 0, _, _, _, _, _, _ => none
  | k + 1, x0, x1, x5, x29, x30, x31 => if x31 < x30 then (if 0 ≤ x31 then (if x31 < (x29.length : Int) then (if x5.length < 4398046511104 then (laws_FnFastPrint.l0 k x0 x1 (x5 ++ [(⟨(rd_T50 x29 x31).f0, (rd_T50 x29 x31).f1⟩ : S48)]) x29 x30 (wrap64 (x31 + 1))) else (none)) else (none)) else (none)) else (laws_FnFastPrint.l1 k x0 x5 x1 (x1.length : Int) 0)
def laws_FnFastPrint.l1 : Nat → List (S48) → List (S48) → List Int → Int → Int → Option (Bool)
  | 0, _, _, _, _, _ => none
  | k + 1, x0, x5, x40, x41, x42 => if x42 < x41 then (if 0 ≤ x42 then (if x42 < (x40.length : Int) then (if (x5.length : Int) > 0 then (if (x5.length : Int) = 0 then (none) else (if 0 ≤ (Int.tmod (wrap64 (rd x40 x42)) (x5.length : Int)) then (if (Int.tmod (wrap64 (rd x40 x42)) (x5.length : Int)) < (x5.length : Int) then (if 0 ≤ (Int.tmod x42 (x5.length : Int)) then (if (Int.tmod x42 (x5.length : Int)) < (x5.length : Int) then (laws_FnFastPrint.l1 k x0 ((x5.set ((Int.tmod x42 (x5.length : Int)) : Int).toNat (⟨(rd_T48 x5 (Int.tmod (wrap64 (rd x40 x42)) (x5.length : Int))).f0, (rd_T48 x5 (Int.tmod (wrap64 (rd x40 x42)) (x5.length : Int))).f1⟩ : S48)).set ((Int.tmod (wrap64 (rd x40 x42)) (x5.length : Int)) : Int).toNat (⟨(rd_T48 x5 (Int.tmod x42 (x5.length : Int))).f0, (rd_T48 x5 (Int.tmod x42 (x5.length : Int))).f1⟩ : S48)) x40 x41 (wrap64 (x42 + 1))) else (none)) else (none)) else (none)) else (none))) else (laws_FnFastPrint.l1 k x0 x5 x40 x41 (wrap64 (x42 + 1)))) else (none)) else (none)) else ((impl_SetFastPrint.f x5).bind fun t281 => ((impl_SetFastPrint.f x0).bind fun t282 => (some (t281 == t282))))
end
def laws_FnFastPrint.f (k : Nat) (l0 : List (S48)) (l1 : List Int) : Option (Bool) := (laws_zzFits1.f k l0).bind fun t258 => (if t258 = true then (laws_FnFastPrint.j0 k l0 l1 (decide ((l1.length : Int) > 2147483647))) else (laws_FnFastPrint.j0 k l0 l1 true))
theorem laws_FnFastPrint.mono_l : ∀ k, (∀ y0 y1 y2, LeO (laws_FnFastPrint.j0 k y0 y1 y2) (laws_FnFastPrint.j0 (k + 1) y0 y1 y2)) ∧ (∀ y0 y1 y2 y3 y4 y5, LeO (laws_FnFastPrint.l0 k y0 y1 y2 y3 y4 y5) (laws_FnFastPrint.l0 (k + 1) y0 y1 y2 y3 y4 y5)) ∧ (∀ y0 y1 y2 y3 y4, LeO (laws_FnFastPrint.l1 k y0 y1 y2 y3 y4) (laws_FnFastPrint.l1 (k + 1) y0 y1 y2 y3 y4))
  | 0 => ⟨fun _ _ _ r h => by simp [laws_FnFastPrint.j0] at h, fun _ _ _ _ _ _ r h => by simp [laws_FnFastPrint.l0] at h, fun _ _ _ _ _ r h => by simp [laws_FnFastPrint.l1] at h⟩
  | k + 1 => by
    obtain ⟨ih0, ih1, ih2⟩ := laws_FnFastPrint.mono_l k
    refine ⟨?_, ?_, ?_⟩
    · intro y0 y1 y2
      unfold laws_FnFastPrint.j0
      repeat' first
      | (with_reducible exact ih0 _ _ _)
      | (with_reducible exact ih1 _ _ _ _ _ _)
      | (with_reducible exact ih2 _ _ _ _ _)
      | (with_reducible exact laws_pairs.mono _ _)
      | (with_reducible exact laws_zzFits1.mono _ _)
      | (with_reducible exact spec_Set.mono _ _)
      | (with_reducible exact LeO.refl _)
      | (with_reducible exact LeO.none _)
      | (with_reducible refine LeO.ite ?_ ?_)
      | (with_reducible refine LeO.bind ?_ (fun _ => ?_))
      | exact ih0 _ _ _
      | exact ih1 _ _ _ _ _ _
      | exact ih2 _ _ _ _ _
      | exact laws_pairs.mono _ _
      | exact laws_zzFits1.mono _ _
      | exact spec_Set.mono _ _
      | exact LeO.none _
      | refine LeO.ite ?_ ?_
      | refine LeO.bind ?_ (fun _ => ?_)
    · intro y0 y1 y2 y3 y4 y5
      unfold laws_FnFastPrint.l0
      repeat' first
      | (with_reducible exact ih0 _ _ _)
      | (with_reducible exact ih1 _ _ _ _ _ _)
      | (with_reducible exact ih2 _ _ _ _ _)
      | (with_reducible exact laws_pairs.mono _ _)
      | (with_reducible exact laws_zzFits1.mono _ _)
      | (with_reducible exact spec_Set.mono _ _)
      | (with_reducible exact LeO.refl _)
      | (with_reducible exact LeO.none _)
      | (with_reducible refine LeO.ite ?_ ?_)
      | (with_reducible refine LeO.bind ?_ (fun _ => ?_))
      | exact ih0 _ _ _
      | exact ih1 _ _ _ _ _ _
      | exact ih2 _ _ _ _ _
      | exact laws_pairs.mono _ _
      | exact laws_zzFits1.mono _ _
      | exact spec_Set.mono _ _
      | exact LeO.none _
      | refine LeO.ite ?_ ?_
      | refine LeO.bind ?_ (fun _ => ?_)
    · intro y0 y1 y2 y3 y4
      unfold laws_FnFastPrint.l1
      repeat' first
      | (with_reducible exact ih0 _ _ _)
      | (with_reducible exact ih1 _ _ _ _ _ _)
      | (with_reducible exact ih2 _ _ _ _ _)
      | (with_reducible exact laws_pairs.mono _ _)
      | (with_reducible exact laws_zzFits1.mono _ _)
      | (with_reducible exact spec_Set.mono _ _)
      | (with_reducible exact LeO.refl _)
      | (with_reducible exact LeO.none _)
      | (with_reducible refine LeO.ite ?_ ?_)
      | (with_reducible refine LeO.bind ?_ (fun _ => ?_))
      | exact ih0 _ _ _
      | exact ih1 _ _ _ _ _ _
      | exact ih2 _ _ _ _ _
      | exact laws_pairs.mono _ _
      | exact laws_zzFits1.mono _ _
      | exact spec_Set.mono _ _
      | exact LeO.none _
      | refine LeO.ite ?_ ?_
      | refine LeO.bind ?_ (fun _ => ?_)
theorem laws_FnFastPrint.mono : ∀ a0 a1 k, LeO (laws_FnFastPrint.f k a0 a1) (laws_FnFastPrint.f (k + 1) a0 a1) := by
  intro a0 a1 k
  obtain ⟨ih0, ih1, ih2⟩ := laws_FnFastPrint.mono_l k
  unfold laws_FnFastPrint.f
  repeat' first
      | (with_reducible exact ih0 _ _ _)
      | (with_reducible exact ih1 _ _ _ _ _ _)
      | (with_reducible exact ih2 _ _ _ _ _)
      | (with_reducible exact laws_pairs.mono _ _)
      | (with_reducible exact laws_zzFits1.mono _ _)
      | (with_reducible exact spec_Set.mono _ _)
      | (with_reducible exact LeO.refl _)
      | (with_reducible exact LeO.none _)
      | (with_reducible refine LeO.ite ?_ ?_)
      | (with_reducible refine LeO.bind ?_ (fun _ => ?_))
      | exact ih0 _ _ _
      | exact ih1 _ _ _ _ _ _
      | exact ih2 _ _ _ _ _
      | exact laws_pairs.mono _ _
      | exact laws_zzFits1.mono _ _
      | exact spec_Set.mono _ _
      | exact LeO.none _
      | refine LeO.ite ?_ ?_
      | refine LeO.bind ?_ (fun _ => ?_)
def laws_FnFastPrint.T17 : Bool × List (List Nat × List Nat) := (true, [([], []), ([], []), ([1], [1]), ([0, 2], [0, 2]), ([], []), ([4], [4]), ([], []), ([6], [6]), ([5, 7], [5, 7]), ([3, 0, 1, 2, 3], [3]), ([8, 9, 0, 1, 2, 3, 4, 5, 6, 7, 8, 9], [8])])
def laws_FnFastPrint.B17 : List Nat := [0, 0, 2, 7, 0, 16, 0, 64, 240, 15, 1023]
theorem laws_FnFastPrint.tab17 : rtab .any (opsOf Try.f7 17) = laws_FnFastPrint.T17 := by kernel_rfl
theorem laws_FnFastPrint.bits17 : waitsOk laws_FnFastPrint.T17.2 laws_FnFastPrint.B17 = true := by kernel_rfl
def laws_FnFastPrint.T18 : Bool × List (List Nat × List Nat) := (true, [([], []), ([], []), ([], []), ([], []), ([], []), ([], []), ([4, 5], [4, 5]), ([6], [6]), ([], []), ([], []), ([8, 9], [8, 9]), ([10], [10]), ([0, 1, 0, 1, 4, 5, 6, 7, 11], [0, 1]), ([12, 7, 0, 1, 4, 5, 6, 7, 11], [7, 12]), ([2, 3, 0, 1, 2, 3, 4, 5, 6, 7, 8, 9, 10, 11, 12, 13], [2, 3]), ([14, 11, 13, 0, 1, 2, 3, 4, 5, 6, 7, 8, 9, 10, 11, 12, 13], [11, 14])])
def laws_FnFastPrint.B18 : List Nat := [0, 0, 0, 0, 0, 0, 48, 112, 0, 0, 768, 1792, 4083, 8179, 16383, 32767]
theorem laws_FnFastPrint.tab18 : rtab .any (opsOf Try.f7 18) = laws_FnFastPrint.T18 := by kernel_rfl
theorem laws_FnFastPrint.bits18 : waitsOk laws_FnFastPrint.T18.2 laws_FnFastPrint.B18 = true := by kernel_rfl
set_option maxHeartbeats 8000000 in
set_option maxRecDepth 100000 in
theorem laws_FnFastPrint.calls (k : Nat) (A0 : Option Addr) (c0 : Nat) (l0 : List (S48)) (A1 : Option Addr) (c1 : Nat) (l1 : List Int) (r : Bool) (w : World) (hr0 : Kd.C k48 w A0 l0.length l0) (hc0 : l0.length ≤ c0) (hr1 : Kd.C (Kd.int .u8) w A1 l1.length l1) (hc1 : l1.length ≤ c1) (h : laws_FnFastPrint.f k l0 l1 = some r) :
    Calls Try.prog 7 #[.slice A0 l0.length c0, .slice A1 l1.length c1] w fun e w' => e = .returned (.bool r) ∧ Below w.heap.size w w' := by
  have hu48 := Try.underlying48
  have hu50 := Try.underlying50
  have HR0 := Aside0.mk hr0
  have HC0 := Aside0.mk hc0
  clear hr0 hc0
  have HR1 := Aside0.mk hr1
  have HC1 := Aside0.mk hc1
  clear hr1 hc1
  have HB := Aside0.mk (Below.refl w.heap.size w)
  have H : ((laws_zzFits1.f k l0).bind fun t258 => (if t258 = true then (laws_FnFastPrint.j0 k l0 l1 (decide ((l1.length : Int) > 2147483647))) else (laws_FnFastPrint.j0 k l0 l1 true))) = some r := h
  clear h
  have HC3 := Aside0.mk H
  clear H
  go_enter Try.func7, Try.ntmps7
  go_upto_region 1 with (fail)
  go_cut [19] (fun v19 wc => ∃ (kq : Nat) (x19_2 : Bool), v19 = .bool x19_2 ∧ Aside0 (laws_FnFastPrint.j0 kq l0 l1 x19_2 = some r) ∧ Aside0 (kq ≤ k) ∧ Aside0 (Below w.heap.size w wc))
  case first =>
    have H := HC3.out
    clear HC3
    replace H := Option.bind_eq_some_iff.mp H
    obtain ⟨t258, A40, H⟩ := H
    replace H : (if t258 = true then (laws_FnFastPrint.j0 k l0 l1 (decide ((l1.length : Int) > 2147483647))) else (laws_FnFastPrint.j0 k l0 l1 true)) = some r := H
    have A4 := Aside0.mk A40
    clear A40
    by_cases c5 : t258 = true
    · subst c5
      have H1 : (laws_FnFastPrint.j0 k l0 l1 (decide ((l1.length : Int) > 2147483647))) = some r := by rw [if_pos rfl] at H; exact H
      clear H
      have H := H1
      clear H1
      have H' := Aside0.mk H
      clear H
      go_wp2_with (first | ((with_reducible refine gate_callee (f := 15) rfl ?_); refine goesL_ (some 13) rfl rfl Try.func15 (by kernel_rfl) rfl #[.slice A0 l0.length c0] rfl (by (try simp only [List.map_toArray, List.map_cons, List.map_nil]); first | done | rfl | (simp only [List.length_drop, List.length_take]; rfl)) ?_; (with_reducible refine (laws_zzFits1.calls k _ _ l0 true _ ?side1 ?side2 A4.out).mono ?_); (case side1 => repeat (first | exact (Kd.C_below HR0.out HB.out) | (with_reducible refine Kd.C_alloc ?_ _) | (with_reducible refine Kd.C_drewN ?_ _) | (with_reducible refine Kd.C_drew ?_))); (case side2 => exact HC0.out); rintro e w6 ⟨rfl, hb⟩; refine ⟨_, rfl, ?_⟩; have n0_ := Aside0.mk (below_step (by repeat (first | (with_reducible first | exact HB.out | apply below_alloc | apply pw_below_drewN | apply below_drew1) | exact HB.out)) hb); clear HB; have HB := n0_; clear n0_; (try clear hb); (try clear hb2); (try clear hk); (try clear hi)))
      go_meet
      case rel => exact ⟨_, (decide ((l1.length : Int) > 2147483647)), (by first | rfl | (simp; done) | (simp [*]; done)), H', ⟨by first | omega | exact Nat.le_refl _⟩, ⟨by repeat (first | (with_reducible first | exact HB.out | apply below_alloc | apply pw_below_drewN | apply below_drew1) | exact HB.out)⟩⟩
    · replace c5 := Bool.eq_false_iff.mpr c5
      subst c5
      have H1 : (laws_FnFastPrint.j0 k l0 l1 true) = some r := by rw [if_neg (show ¬ (false = true) by decide)] at H; exact H
      clear H
      have H := H1
      clear H1
      have H' := Aside0.mk H
      clear H
      go_wp2_with (first | ((with_reducible refine gate_callee (f := 15) rfl ?_); refine goesL_ (some 13) rfl rfl Try.func15 (by kernel_rfl) rfl #[.slice A0 l0.length c0] rfl (by (try simp only [List.map_toArray, List.map_cons, List.map_nil]); first | done | rfl | (simp only [List.length_drop, List.length_take]; rfl)) ?_; (with_reducible refine (laws_zzFits1.calls k _ _ l0 false _ ?side1 ?side2 A4.out).mono ?_); (case side1 => repeat (first | exact (Kd.C_below HR0.out HB.out) | (with_reducible refine Kd.C_alloc ?_ _) | (with_reducible refine Kd.C_drewN ?_ _) | (with_reducible refine Kd.C_drew ?_))); (case side2 => exact HC0.out); rintro e w7 ⟨rfl, hb⟩; refine ⟨_, rfl, ?_⟩; have n0_ := Aside0.mk (below_step (by repeat (first | (with_reducible first | exact HB.out | apply below_alloc | apply pw_below_drewN | apply below_drew1) | exact HB.out)) hb); clear HB; have HB := n0_; clear n0_; (try clear hb); (try clear hb2); (try clear hk); (try clear hi)))
      go_meet
      case rel => exact ⟨_, (true), (by first | rfl | (simp; done) | (simp [*]; done)), H', ⟨by first | omega | exact Nat.le_refl _⟩, ⟨by repeat (first | (with_reducible first | exact HB.out | apply below_alloc | apply pw_below_drewN | apply below_drew1) | exact HB.out)⟩⟩
  case rest =>
    clear HC3
    try clear c1
    try clear p2
    try clear c5
    try clear c7
    obtain ⟨kq, x19_2, rfl, HA, HJ2, HB⟩ := hcut
    cases kq with
    | zero => exact absurd HA.out (by simp [laws_FnFastPrint.j0])
    | succ kj2 =>
      have H := HA.out
      clear HA
      simp only [laws_FnFastPrint.j0] at H
      by_cases c8 : x19_2 = true
      · subst c8
        have H1 : (some true) = some r := by rw [if_pos rfl] at H; exact H
        clear H
        have H := H1
        clear H1
        obtain rfl := Option.some.inj H
        go_wp2
        go_ret
        exact ⟨by first | rfl | (simp [errW_none, errW_some] <;> rfl) | (simp [*, errW_none, errW_some] <;> rfl), by repeat (first | (with_reducible first | exact HB.out | apply below_alloc | apply pw_below_drewN | apply below_drew1) | exact HB.out)⟩
      · replace c8 := Bool.eq_false_iff.mpr c8
        subst c8
        have H1 : ((impl_SetFastPrint.f (([(⟨(⟨#[97]⟩ : ByteArray), (⟨#[98]⟩ : ByteArray)⟩ : S48)] : List (S48)))).bind fun t262 => ((impl_SetFastPrint.f ([] : List (S48))).bind fun t263 => (if t262 = t263 then (some false) else ((laws_much.f l0).bind fun t264 => (if t264 = true then (some true) else ((laws_pairs.f kj2 l0).bind fun t265 => ((spec_Set.f kj2 t265).bind fun t268 => (laws_FnFastPrint.l0 kj2 l0 l1 ([] : List (S48)) t268 (t268.length : Int) 0)))))))) = some r := by rw [if_neg (show ¬ (false = true) by decide)] at H; exact H
        clear H
        have H := H1
        clear H1
        obtain ⟨y259, hy259⟩ : ∃ y_ : List (S48), y_ = (([(⟨(⟨#[97]⟩ : ByteArray), (⟨#[98]⟩ : ByteArray)⟩ : S48)] : List (S48))) := ⟨_, rfl⟩
        replace H : ((impl_SetFastPrint.f y259).bind fun t262 => ((impl_SetFastPrint.f ([] : List (S48))).bind fun t263 => (if t262 = t263 then (some false) else ((laws_much.f l0).bind fun t264 => (if t264 = true then (some true) else ((laws_pairs.f kj2 l0).bind fun t265 => ((spec_Set.f kj2 t265).bind fun t268 => (laws_FnFastPrint.l0 kj2 l0 l1 ([] : List (S48)) t268 (t268.length : Int) 0)))))))) = some r := by first | (rw [hy259]; with_reducible exact H) | (have H2_ := (Option.bind_some _ _).symm.trans H; rw [hy259]; with_reducible exact H2_) | (have H2_ := (Option.bind_some _ _).symm.trans H; with_reducible exact H2_) | with_reducible exact H | (rw [hy259]; exact H) | exact H
        have Ny259 := Aside0.mk hy259
        clear hy259
        replace H := Option.bind_eq_some_iff.mp H
        obtain ⟨t262, A90, H⟩ := H
        replace H : ((impl_SetFastPrint.f ([] : List (S48))).bind fun t263 => (if t262 = t263 then (some false) else ((laws_much.f l0).bind fun t264 => (if t264 = true then (some true) else ((laws_pairs.f kj2 l0).bind fun t265 => ((spec_Set.f kj2 t265).bind fun t268 => (laws_FnFastPrint.l0 kj2 l0 l1 ([] : List (S48)) t268 (t268.length : Int) 0))))))) = some r := H
        have A9 := Aside0.mk A90
        clear A90
        replace H := Option.bind_eq_some_iff.mp H
        obtain ⟨t263, A100, H⟩ := H
        replace H : (if t262 = t263 then (some false) else ((laws_much.f l0).bind fun t264 => (if t264 = true then (some true) else ((laws_pairs.f kj2 l0).bind fun t265 => ((spec_Set.f kj2 t265).bind fun t268 => (laws_FnFastPrint.l0 kj2 l0 l1 ([] : List (S48)) t268 (t268.length : Int) 0)))))) = some r := H
        have A10 := Aside0.mk A100
        clear A100
        by_cases c11 : t262 = t263
        · rw [if_pos c11] at H
          have c11b0 : (t262 == t263) = true := beq_iff_eq.mpr c11
          have c11b1 : (t262 != t263) = false := bne_eq_false_iff_eq.mpr c11
          clear c11
          obtain rfl := Option.some.inj H
          go_wp2_with (first | ((with_reducible refine gate_dst (N := 21) rfl ?_); (try (refine gate_guard (by rfl) ?_; dsimp only)); refine Kd.R_lit k48 _ 48 ?hg (N := 21) ?hd (xs := ([(⟨(⟨#[97]⟩ : ByteArray), (⟨#[98]⟩ : ByteArray)⟩ : S48)] : List (S48))) (inner := [.string (⟨#[97]⟩ : ByteArray), .string (⟨#[98]⟩ : ByteArray)]) (ok := fun _ => True) (okp := fun _ => True) ?hr ?hp (fun _ hk => hk) trivial (Below.refl _ _) (Nat.le_refl _) (by simp) ?_; (case hd => rfl); (case hg => rfl); (case hr => first | (go_simp; done) | (go_simp; rfl)); (case hp => exact (Reps.c2 (show Kd.M k48 _ _ _ (⟨(⟨#[97]⟩ : ByteArray), (⟨#[98]⟩ : ByteArray)⟩ : S48) [.string (⟨#[97]⟩ : ByteArray), .string (⟨#[98]⟩ : ByteArray)] from (k48_mkM _ _ _ (⟨(⟨#[97]⟩ : ByteArray), (⟨#[98]⟩ : ByteArray)⟩ : S48) )) (Reps.none _ _))); intro v260 w12 ho13 hb hg_ hnew_; clear hg_ hnew_; (first | rw [← Ny259.out] at ho13 | (simp only [Int.reduceToNat] at ho13; rw [← Ny259.out] at ho13)); have n0_ := Aside0.mk (Kd.R_lower ho13 (below_size (by repeat (first | (with_reducible first | exact HB.out | apply below_alloc | apply pw_below_drewN | apply below_drew1) | exact HB.out)))); have n1_ := Aside0.mk (below_step (by repeat (first | (with_reducible first | exact HB.out | apply below_alloc | apply pw_below_drewN | apply below_drew1) | exact HB.out)) hb); clear HB; have HO261 := n0_; have HB := n1_; clear n0_ n1_; clear hb ho13; obtain ⟨Ao14, co14, eo14⟩ := Kd.R_slice HO261.out; subst eo14) | ((with_reducible refine gate_callee (f := 28) rfl ?_); refine goesL_ (some 22) rfl rfl Try.func28 (by kernel_rfl) rfl #[.slice Ao14 y259.length co14] rfl (by (try simp only [List.map_toArray, List.map_cons, List.map_nil]); first | done | rfl | (simp only [List.length_drop, List.length_take]; rfl)) ?_; (with_reducible refine (impl_SetFastPrint.calls _ _ y259 t262 _ ?side1 ?side2 A9.out).mono ?_); (case side1 => repeat (first | exact (Kd.R_reads' HO261.out).2.2 | (with_reducible refine Kd.C_alloc ?_ _) | (with_reducible refine Kd.C_drewN ?_ _) | (with_reducible refine Kd.C_drew ?_))); (case side2 => exact (Kd.R_reads' HO261.out).2.1); rintro e w15 ⟨rfl, hb⟩; refine ⟨_, rfl, ?_⟩; have n0_ := Aside0.mk (Kd.R_below (by (with_reducible repeat (first | apply Kd.R_alloc | apply Kd.R_drewN | apply Kd.R_drew)); exact HO261.out) hb); have n1_ := Aside0.mk (below_step (by repeat (first | (with_reducible first | exact HB.out | apply below_alloc | apply pw_below_drewN | apply below_drew1) | exact HB.out)) hb); clear HO261; clear HB; have HO261 := n0_; have HB := n1_; clear n0_ n1_; (try clear hb); (try clear hb2); (try clear hk); (try clear hi)) | ((with_reducible refine gate_callee (f := 28) rfl ?_); refine goesL_ (some 23) rfl rfl Try.func28 (by kernel_rfl) rfl #[.slice none 0 0] rfl (by (try simp only [List.map_toArray, List.map_cons, List.map_nil]); first | done | rfl | (simp only [List.length_drop, List.length_take]; rfl)) ?_; (refine (impl_SetFastPrint.calls _ _ ([] : List (S48)) t263 _ ?side1 ?side2 A10.out).mono ?_); (case side1 => exact Kd.C_nil _ _); (case side2 => exact Nat.le_refl _); rintro e w16 ⟨rfl, hb⟩; refine ⟨_, rfl, ?_⟩; have n0_ := Aside0.mk (Kd.R_below (by (with_reducible repeat (first | apply Kd.R_alloc | apply Kd.R_drewN | apply Kd.R_drew)); exact HO261.out) hb); have n1_ := Aside0.mk (below_step (by repeat (first | (with_reducible first | exact HB.out | apply below_alloc | apply pw_below_drewN | apply below_drew1) | exact HB.out)) hb); clear HO261; clear HB; have HO261 := n0_; have HB := n1_; clear n0_ n1_; (try clear hb); (try clear hb2); (try clear hk); (try clear hi)))
          go_ret
          exact ⟨by first | rfl | (simp [errW_none, errW_some] <;> rfl) | (simp [*, errW_none, errW_some] <;> rfl), by repeat (first | (with_reducible first | exact HB.out | apply below_alloc | apply pw_below_drewN | apply below_drew1) | exact HB.out)⟩
        · rw [if_neg c11] at H
          have c11b0 : (t262 == t263) = false := beq_eq_false_iff_ne.mpr c11
          have c11b1 : (t262 != t263) = true := bne_iff_ne.mpr c11
          replace H := Option.bind_eq_some_iff.mp H
          obtain ⟨t264, A170, H⟩ := H
          replace H : (if t264 = true then (some true) else ((laws_pairs.f kj2 l0).bind fun t265 => ((spec_Set.f kj2 t265).bind fun t268 => (laws_FnFastPrint.l0 kj2 l0 l1 ([] : List (S48)) t268 (t268.length : Int) 0)))) = some r := H
          have A17 := Aside0.mk A170
          clear A170
          by_cases c18 : t264 = true
          · subst c18
            have H1 : (some true) = some r := by rw [if_pos rfl] at H; exact H
            clear H
            have H := H1
            clear H1
            obtain rfl := Option.some.inj H
            go_wp2_with (first | ((with_reducible refine gate_dst (N := 21) rfl ?_); (try (refine gate_guard (by rfl) ?_; dsimp only)); refine Kd.R_lit k48 _ 48 ?hg (N := 21) ?hd (xs := ([(⟨(⟨#[97]⟩ : ByteArray), (⟨#[98]⟩ : ByteArray)⟩ : S48)] : List (S48))) (inner := [.string (⟨#[97]⟩ : ByteArray), .string (⟨#[98]⟩ : ByteArray)]) (ok := fun _ => True) (okp := fun _ => True) ?hr ?hp (fun _ hk => hk) trivial (Below.refl _ _) (Nat.le_refl _) (by simp) ?_; (case hd => rfl); (case hg => rfl); (case hr => first | (go_simp; done) | (go_simp; rfl)); (case hp => exact (Reps.c2 (show Kd.M k48 _ _ _ (⟨(⟨#[97]⟩ : ByteArray), (⟨#[98]⟩ : ByteArray)⟩ : S48) [.string (⟨#[97]⟩ : ByteArray), .string (⟨#[98]⟩ : ByteArray)] from (k48_mkM _ _ _ (⟨(⟨#[97]⟩ : ByteArray), (⟨#[98]⟩ : ByteArray)⟩ : S48) )) (Reps.none _ _))); intro v260 w19 ho20 hb hg_ hnew_; clear hg_ hnew_; (first | rw [← Ny259.out] at ho20 | (simp only [Int.reduceToNat] at ho20; rw [← Ny259.out] at ho20)); have n0_ := Aside0.mk (Kd.R_lower ho20 (below_size (by repeat (first | (with_reducible first | exact HB.out | apply below_alloc | apply pw_below_drewN | apply below_drew1) | exact HB.out)))); have n1_ := Aside0.mk (below_step (by repeat (first | (with_reducible first | exact HB.out | apply below_alloc | apply pw_below_drewN | apply below_drew1) | exact HB.out)) hb); clear HB; have HO261 := n0_; have HB := n1_; clear n0_ n1_; clear hb ho20; obtain ⟨Ao21, co21, eo21⟩ := Kd.R_slice HO261.out; subst eo21) | ((with_reducible refine gate_callee (f := 28) rfl ?_); refine goesL_ (some 22) rfl rfl Try.func28 (by kernel_rfl) rfl #[.slice Ao21 y259.length co21] rfl (by (try simp only [List.map_toArray, List.map_cons, List.map_nil]); first | done | rfl | (simp only [List.length_drop, List.length_take]; rfl)) ?_; (with_reducible refine (impl_SetFastPrint.calls _ _ y259 t262 _ ?side1 ?side2 A9.out).mono ?_); (case side1 => repeat (first | exact (Kd.R_reads' HO261.out).2.2 | (with_reducible refine Kd.C_alloc ?_ _) | (with_reducible refine Kd.C_drewN ?_ _) | (with_reducible refine Kd.C_drew ?_))); (case side2 => exact (Kd.R_reads' HO261.out).2.1); rintro e w22 ⟨rfl, hb⟩; refine ⟨_, rfl, ?_⟩; have n0_ := Aside0.mk (Kd.R_below (by (with_reducible repeat (first | apply Kd.R_alloc | apply Kd.R_drewN | apply Kd.R_drew)); exact HO261.out) hb); have n1_ := Aside0.mk (below_step (by repeat (first | (with_reducible first | exact HB.out | apply below_alloc | apply pw_below_drewN | apply below_drew1) | exact HB.out)) hb); clear HO261; clear HB; have HO261 := n0_; have HB := n1_; clear n0_ n1_; (try clear hb); (try clear hb2); (try clear hk); (try clear hi)) | ((with_reducible refine gate_callee (f := 28) rfl ?_); refine goesL_ (some 23) rfl rfl Try.func28 (by kernel_rfl) rfl #[.slice none 0 0] rfl (by (try simp only [List.map_toArray, List.map_cons, List.map_nil]); first | done | rfl | (simp only [List.length_drop, List.length_take]; rfl)) ?_; (refine (impl_SetFastPrint.calls _ _ ([] : List (S48)) t263 _ ?side1 ?side2 A10.out).mono ?_); (case side1 => exact Kd.C_nil _ _); (case side2 => exact Nat.le_refl _); rintro e w23 ⟨rfl, hb⟩; refine ⟨_, rfl, ?_⟩; have n0_ := Aside0.mk (Kd.R_below (by (with_reducible repeat (first | apply Kd.R_alloc | apply Kd.R_drewN | apply Kd.R_drew)); exact HO261.out) hb); have n1_ := Aside0.mk (below_step (by repeat (first | (with_reducible first | exact HB.out | apply below_alloc | apply pw_below_drewN | apply below_drew1) | exact HB.out)) hb); clear HO261; clear HB; have HO261 := n0_; have HB := n1_; clear n0_ n1_; (try clear hb); (try clear hb2); (try clear hk); (try clear hi)) | ((with_reducible refine gate_callee (f := 16) rfl ?_); refine goesL_ (some 26) rfl rfl Try.func16 (by kernel_rfl) rfl #[.slice A0 l0.length c0] rfl (by (try simp only [List.map_toArray, List.map_cons, List.map_nil]); first | done | rfl | (simp only [List.length_drop, List.length_take]; rfl)) ?_; (with_reducible refine (laws_much.calls _ _ l0 true _ ?side1 ?side2 A17.out).mono ?_); (case side1 => repeat (first | exact (Kd.C_below HR0.out HB.out) | (with_reducible refine Kd.C_alloc ?_ _) | (with_reducible refine Kd.C_drewN ?_ _) | (with_reducible refine Kd.C_drew ?_))); (case side2 => exact HC0.out); rintro e w' ⟨rfl, ⟨nd, rfl⟩⟩; refine ⟨_, rfl, ?_⟩))
            go_ret
            exact ⟨by first | rfl | (simp [errW_none, errW_some] <;> rfl) | (simp [*, errW_none, errW_some] <;> rfl), by repeat (first | (with_reducible first | exact HB.out | apply below_alloc | apply pw_below_drewN | apply below_drew1) | exact HB.out)⟩
          · replace c18 := Bool.eq_false_iff.mpr c18
            subst c18
            have H1 : ((laws_pairs.f kj2 l0).bind fun t265 => ((spec_Set.f kj2 t265).bind fun t268 => (laws_FnFastPrint.l0 kj2 l0 l1 ([] : List (S48)) t268 (t268.length : Int) 0))) = some r := by rw [if_neg (show ¬ (false = true) by decide)] at H; exact H
            clear H
            have H := H1
            clear H1
            replace H := Option.bind_eq_some_iff.mp H
            obtain ⟨t265, A240, H⟩ := H
            replace H : ((spec_Set.f kj2 t265).bind fun t268 => (laws_FnFastPrint.l0 kj2 l0 l1 ([] : List (S48)) t268 (t268.length : Int) 0)) = some r := H
            have A24 := Aside0.mk A240
            clear A240
            replace H := Option.bind_eq_some_iff.mp H
            obtain ⟨t268, A250, H⟩ := H
            replace H : (laws_FnFastPrint.l0 kj2 l0 l1 ([] : List (S48)) t268 (t268.length : Int) 0) = some r := H
            have A25 := Aside0.mk A250
            clear A250
            have H' := Aside0.mk H
            clear H
            go_wp2_with (first | ((with_reducible refine gate_dst (N := 21) rfl ?_); (try (refine gate_guard (by rfl) ?_; dsimp only)); refine Kd.R_lit k48 _ 48 ?hg (N := 21) ?hd (xs := ([(⟨(⟨#[97]⟩ : ByteArray), (⟨#[98]⟩ : ByteArray)⟩ : S48)] : List (S48))) (inner := [.string (⟨#[97]⟩ : ByteArray), .string (⟨#[98]⟩ : ByteArray)]) (ok := fun _ => True) (okp := fun _ => True) ?hr ?hp (fun _ hk => hk) trivial (Below.refl _ _) (Nat.le_refl _) (by simp) ?_; (case hd => rfl); (case hg => rfl); (case hr => first | (go_simp; done) | (go_simp; rfl)); (case hp => exact (Reps.c2 (show Kd.M k48 _ _ _ (⟨(⟨#[97]⟩ : ByteArray), (⟨#[98]⟩ : ByteArray)⟩ : S48) [.string (⟨#[97]⟩ : ByteArray), .string (⟨#[98]⟩ : ByteArray)] from (k48_mkM _ _ _ (⟨(⟨#[97]⟩ : ByteArray), (⟨#[98]⟩ : ByteArray)⟩ : S48) )) (Reps.none _ _))); intro v260 w26 ho27 hb hg_ hnew_; clear hg_ hnew_; (first | rw [← Ny259.out] at ho27 | (simp only [Int.reduceToNat] at ho27; rw [← Ny259.out] at ho27)); have n0_ := Aside0.mk (Kd.R_lower ho27 (below_size (by repeat (first | (with_reducible first | exact HB.out | apply below_alloc | apply pw_below_drewN | apply below_drew1) | exact HB.out)))); have n1_ := Aside0.mk (below_step (by repeat (first | (with_reducible first | exact HB.out | apply below_alloc | apply pw_below_drewN | apply below_drew1) | exact HB.out)) hb); clear HB; have HO261 := n0_; have HB := n1_; clear n0_ n1_; clear hb ho27; obtain ⟨Ao28, co28, eo28⟩ := Kd.R_slice HO261.out; subst eo28) | ((with_reducible refine gate_callee (f := 28) rfl ?_); refine goesL_ (some 22) rfl rfl Try.func28 (by kernel_rfl) rfl #[.slice Ao28 y259.length co28] rfl (by (try simp only [List.map_toArray, List.map_cons, List.map_nil]); first | done | rfl | (simp only [List.length_drop, List.length_take]; rfl)) ?_; (with_reducible refine (impl_SetFastPrint.calls _ _ y259 t262 _ ?side1 ?side2 A9.out).mono ?_); (case side1 => repeat (first | exact (Kd.R_reads' HO261.out).2.2 | (with_reducible refine Kd.C_alloc ?_ _) | (with_reducible refine Kd.C_drewN ?_ _) | (with_reducible refine Kd.C_drew ?_))); (case side2 => exact (Kd.R_reads' HO261.out).2.1); rintro e w29 ⟨rfl, hb⟩; refine ⟨_, rfl, ?_⟩; have n0_ := Aside0.mk (Kd.R_below (by (with_reducible repeat (first | apply Kd.R_alloc | apply Kd.R_drewN | apply Kd.R_drew)); exact HO261.out) hb); have n1_ := Aside0.mk (below_step (by repeat (first | (with_reducible first | exact HB.out | apply below_alloc | apply pw_below_drewN | apply below_drew1) | exact HB.out)) hb); clear HO261; clear HB; have HO261 := n0_; have HB := n1_; clear n0_ n1_; (try clear hb); (try clear hb2); (try clear hk); (try clear hi)) | ((with_reducible refine gate_callee (f := 28) rfl ?_); refine goesL_ (some 23) rfl rfl Try.func28 (by kernel_rfl) rfl #[.slice none 0 0] rfl (by (try simp only [List.map_toArray, List.map_cons, List.map_nil]); first | done | rfl | (simp only [List.length_drop, List.length_take]; rfl)) ?_; (refine (impl_SetFastPrint.calls _ _ ([] : List (S48)) t263 _ ?side1 ?side2 A10.out).mono ?_); (case side1 => exact Kd.C_nil _ _); (case side2 => exact Nat.le_refl _); rintro e w30 ⟨rfl, hb⟩; refine ⟨_, rfl, ?_⟩; have n0_ := Aside0.mk (Kd.R_below (by (with_reducible repeat (first | apply Kd.R_alloc | apply Kd.R_drewN | apply Kd.R_drew)); exact HO261.out) hb); have n1_ := Aside0.mk (below_step (by repeat (first | (with_reducible first | exact HB.out | apply below_alloc | apply pw_below_drewN | apply below_drew1) | exact HB.out)) hb); clear HO261; clear HB; have HO261 := n0_; have HB := n1_; clear n0_ n1_; (try clear hb); (try clear hb2); (try clear hk); (try clear hi)) | ((with_reducible refine gate_callee (f := 16) rfl ?_); refine goesL_ (some 26) rfl rfl Try.func16 (by kernel_rfl) rfl #[.slice A0 l0.length c0] rfl (by (try simp only [List.map_toArray, List.map_cons, List.map_nil]); first | done | rfl | (simp only [List.length_drop, List.length_take]; rfl)) ?_; (with_reducible refine (laws_much.calls _ _ l0 false _ ?side1 ?side2 A17.out).mono ?_); (case side1 => repeat (first | exact (Kd.C_below HR0.out HB.out) | (with_reducible refine Kd.C_alloc ?_ _) | (with_reducible refine Kd.C_drewN ?_ _) | (with_reducible refine Kd.C_drew ?_))); (case side2 => exact HC0.out); rintro e w' ⟨rfl, ⟨nd, rfl⟩⟩; refine ⟨_, rfl, ?_⟩) | ((with_reducible refine gate_callee (f := 20) rfl ?_); refine goesL_ (some 28) rfl rfl Try.func20 (by kernel_rfl) rfl #[.slice A0 l0.length c0] rfl (by (try simp only [List.map_toArray, List.map_cons, List.map_nil]); first | done | rfl | (simp only [List.length_drop, List.length_take]; rfl)) ?_; (with_reducible refine (laws_pairs.calls kj2 _ _ l0 t265 _ ?side1 ?side2 A24.out).mono ?_); (case side1 => repeat (first | exact (Kd.C_below HR0.out (by repeat (first | (with_reducible first | exact HB.out | apply below_alloc | apply pw_below_drewN | apply below_drew1) | exact HB.out))) | (with_reducible refine Kd.C_alloc ?_ _) | (with_reducible refine Kd.C_drewN ?_ _) | (with_reducible refine Kd.C_drew ?_))); (case side2 => exact HC0.out); rintro e w31 ⟨v266, rfl, ho0, hb⟩; refine ⟨_, rfl, ?_⟩; have n0_ := Aside0.mk (Kd.R_below (by (with_reducible repeat (first | apply Kd.R_alloc | apply Kd.R_drewN | apply Kd.R_drew)); exact HO261.out) hb); have n1_ := Aside0.mk (Kd.R_lower ho0 (below_size (by repeat (first | (with_reducible first | exact HB.out | apply below_alloc | apply pw_below_drewN | apply below_drew1) | exact HB.out)))); have n2_ := Aside0.mk (below_step (by repeat (first | (with_reducible first | exact HB.out | apply below_alloc | apply pw_below_drewN | apply below_drew1) | exact HB.out)) hb); clear HO261; clear HB; have HO261 := n0_; have HO267 := n1_; have HB := n2_; clear n0_ n1_ n2_; (try clear hb); (try clear hb2); (try clear hk); (try clear hi); (try clear ho0); obtain ⟨Ao32, co32, eo32⟩ := Kd.R_slice HO267.out; subst eo32) | ((with_reducible refine gate_callee (f := 29) rfl ?_); refine goesL_ (some 29) rfl rfl Try.func29 (by kernel_rfl) rfl #[.slice Ao32 t265.length co32] rfl (by (try simp only [List.map_toArray, List.map_cons, List.map_nil]); first | done | rfl | (simp only [List.length_drop, List.length_take]; rfl)) ?_; (with_reducible refine (spec_Set.calls kj2 _ _ t265 t268 _ ?side1 ?side2 A25.out).mono ?_); (case side1 => repeat (first | exact (Kd.R_reads' HO267.out).2.2 | (with_reducible refine Kd.C_alloc ?_ _) | (with_reducible refine Kd.C_drewN ?_ _) | (with_reducible refine Kd.C_drew ?_))); (case side2 => exact (Kd.R_reads' HO267.out).2.1); rintro e w33 ⟨v269, rfl, ho0, hb⟩; refine ⟨_, rfl, ?_⟩; have n0_ := Aside0.mk (Kd.R_below (by (with_reducible repeat (first | apply Kd.R_alloc | apply Kd.R_drewN | apply Kd.R_drew)); exact HO261.out) hb); have n1_ := Aside0.mk (Kd.R_elder' (by (with_reducible repeat (first | apply Kd.R_alloc | apply Kd.R_drewN | apply Kd.R_drew)); exact HO267.out) (Kd.R_base ho0) hb); have n2_ := Aside0.mk (Kd.R_lower (Kd.R_new' ho0 (Kd.R_lt (by (with_reducible repeat (first | apply Kd.R_alloc | apply Kd.R_drewN | apply Kd.R_drew)); exact HO267.out))) (below_size (by repeat (first | (with_reducible first | exact HB.out | apply below_alloc | apply pw_below_drewN | apply below_drew1) | exact HB.out)))); have n3_ := Aside0.mk (below_step (by repeat (first | (with_reducible first | exact HB.out | apply below_alloc | apply pw_below_drewN | apply below_drew1) | exact HB.out)) hb); clear HO261; clear HO267; clear HB; have HO261 := n0_; have HO267 := n1_; have HO270 := n2_; have HB := n3_; clear n0_ n1_ n2_ n3_; (try clear hb); (try clear hb2); (try clear hk); (try clear hi); (try clear ho0); obtain ⟨Ao34, co34, eo34⟩ := Kd.R_slice HO270.out; subst eo34))
            go_loopg [5, 31] kj2 (fun kq v5 v31 w' => ∃ (x5_2 : List (S48)) (x31_2 : Int), v31 = .int .i64 x31_2 ∧ Aside0 (laws_FnFastPrint.l0 kq l0 l1 x5_2 t268 (t268.length : Int) x31_2 = some r) ∧ Aside0 (kq ≤ kj2) ∧ Aside0 (Kd.R k48 48 w' w.heap.size (fun _ => True) v5 x5_2) ∧ Aside0 (Kd.R k50 50 w' w.heap.size (fun _ => True) (.slice Ao34 t268.length co34) t268) ∧ Aside0 (Below w.heap.size w w'))
            case atStart => exact ⟨(([] : List (S48))), (0), (by first | rfl | (simp; done) | (simp [*]; done)), H', ⟨Nat.le_refl _⟩, ⟨by first | exact Kd.R_nil _ _ _ _ _ | exact Kd.N_nil _ _ _ _ _ | exact Kd.V_nil _ _ _ _ _ | exact Kd.Q_nil _ _ _ _ _ | exact Kd.S_nil _ _ _ _ _⟩, ⟨by (with_reducible repeat (first | apply Kd.R_alloc | apply Kd.R_drewN | apply Kd.R_drew)); exact Kd.R_mono HO270.out (fun _ hk => trivial)⟩, ⟨by repeat (first | (with_reducible first | exact HB.out | apply below_alloc | apply pw_below_drewN | apply below_drew1) | exact HB.out)⟩⟩
            case round =>
              clear H'
              try clear c1
              try clear c2
              try clear p2
              try clear c5
              try clear c7
              try clear c8
              try clear c11
              try clear c11b0
              try clear c11b1
              try clear c15
              try clear c16
              try clear c18
              try clear c20
              try clear c28
              try clear c29
              try clear p2
              obtain ⟨x5_2, x31_2, rfl, HA, HK2, HO_5, HO_29, HB⟩ := hrel
              cases gk with
              | zero => exact absurd HA.out (by simp [laws_FnFastPrint.l0])
              | succ k2 =>
                have H := HA.out
                clear HA
                simp only [laws_FnFastPrint.l0] at H
                by_cases c35 : x31_2 < (t268.length : Int)
                · rw [if_pos c35] at H
                  have c35b0 : decide (x31_2 < (t268.length : Int)) = true := decide_eq_true c35
                  clear c35
                  by_cases c36 : 0 ≤ x31_2
                  · rw [if_pos c36] at H
                    have c36b0 : decide (0 ≤ x31_2) = true := decide_eq_true c36
                    clear c36
                    by_cases c37 : x31_2 < (t268.length : Int)
                    · rw [if_pos c37] at H
                      have c37b0 : decide (x31_2 < (t268.length : Int)) = true := decide_eq_true c37
                      clear c37
                      by_cases c38 : x5_2.length < 4398046511104
                      · rw [if_pos c38] at H
                        have LMc38 := Aside0.mk c38
                        clear c38
                        obtain ⟨y273, hy273⟩ : ∃ y_ : List (S48), y_ = (x5_2 ++ [(⟨(rd_T50 t268 x31_2).f0, (rd_T50 t268 x31_2).f1⟩ : S48)]) := ⟨_, rfl⟩
                        replace H : (laws_FnFastPrint.l0 k2 l0 l1 y273 t268 (t268.length : Int) (wrap64 (x31_2 + 1))) = some r := by first | (rw [hy273]; with_reducible exact H) | (have H2_ := (Option.bind_some _ _).symm.trans H; rw [hy273]; with_reducible exact H2_) | (have H2_ := (Option.bind_some _ _).symm.trans H; with_reducible exact H2_) | with_reducible exact H | (rw [hy273]; exact H) | exact H
                        have Ny273 := Aside0.mk hy273
                        clear hy273
                        have H' := Aside0.mk H
                        clear H
                        have p271 : 0 ≤ (x31_2 : Int) := of_decide_eq_true (by first | (with_reducible assumption) | assumption)
                        have q271 : x31_2 < (t268.length : Int) := of_decide_eq_true (by first | (with_reducible assumption) | assumption)
                        obtain ⟨ad271, e271, hx271_0, hx271_1⟩ := at_T50 (Kd.R_reads' HO_29.out).2.2 x31_2 p271 q271
                        cases e271
                        replace p271 := eq_true p271
                        replace q271 := eq_true q271
                        go_wp2_with (first | ((with_reducible refine gate_dst (N := 7) rfl ?_); (try (refine gate_guard (by rfl) ?_; dsimp only)); refine box_event ?hg (N := 7) ?hd (cs := #[.string (⟨#[]⟩ : ByteArray), .string (⟨#[]⟩ : ByteArray)]) (t := 50) ?hr ?_; (case hd => rfl); (case hg => rfl); (case hr => first | (go_simp; done) | (go_simp; rfl)); intro gb272 hg w39 hbox hb; have n0_ := Aside0.mk (Kd.R_below (by (with_reducible repeat (first | apply Kd.R_alloc | apply Kd.R_drewN | apply Kd.R_drew)); exact HO_5.out) hb); have n1_ := Aside0.mk (Kd.R_below (Kd.R_elderB (by (with_reducible repeat (first | apply Kd.R_alloc | apply Kd.R_drewN | apply Kd.R_drew)); exact HO_29.out) gb272 (Nat.le_of_eq hg.symm)) hb); have n2_ := Aside0.mk (below_step (by repeat (first | (with_reducible first | exact HB.out | apply below_alloc | apply pw_below_drewN | apply below_drew1) | exact HB.out)) hb); have n3_ := Aside0.mk (hbox); have n4_ := Aside0.mk ((by rw [hg]; exact (below_size (by repeat (first | (with_reducible first | exact HB.out | apply below_alloc | apply pw_below_drewN | apply below_drew1) | exact HB.out))) : w.heap.size ≤ gb272)); have n5_ := Aside0.mk ((by rw [hg]; exact (below_size (by repeat (first | (with_reducible first | exact HB.out | apply below_alloc | apply pw_below_drewN | apply below_drew1) | exact HB.out))) : w.heap.size ≤ gb272)); clear HO_5; clear HO_29; clear HB; have HO_5 := n0_; have HO_29 := n1_; have HB := n2_; have BK272 := n3_; have GW272 := n4_; have GE272 := n5_; clear n0_ n1_ n2_ n3_ n4_ n5_; clear hb hbox hg; have hcz40_0 : w39.cell? ⟨gb272, 0, none⟩ = some (.string (⟨#[]⟩ : ByteArray)) := (blk_cell BK272.out 0).trans rfl; have hcz40_1 : w39.cell? ⟨gb272, 1, none⟩ = some (.string (⟨#[]⟩ : ByteArray)) := (blk_cell BK272.out 1).trans rfl; have hfz40_0 := blk_frozen BK272.out 0; have hfz40_1 := blk_frozen BK272.out 1) | ((with_reducible refine gate_builtin (b := .append) (xs := #[.tmp 35, .tmp 37]) rfl ?_); (try (refine gate_guard (by rfl) ?_; dsimp only)); at_builtin; refine Kd.R_append k48 (w0 := w) w.heap.size rfl (.tmp 35) (.tmp 37) 27 48 (.agg #[(.string ⟨#[]⟩), (.string ⟨#[]⟩)]) 32 rfl Try.underlying27 info48 rfl (by decide) (by omega) u5 x5_2 (⟨(rd_T50 t268 x31_2).f0, (rd_T50 t268 x31_2).f1⟩ : S48) [.string ((rd_T50 t268 x31_2).f0), .string ((rd_T50 t268 x31_2).f1)] (fun _ => True) (fun _ => False) rfl (by first | (go_simp; done) | (go_simp; rfl)) ?aP (fun _ hk => hk.elim) ?aF ?aO ?aB ?aS ?aL ?_; (case aP => exact k48_mkM _ _ _ (⟨(rd_T50 t268 x31_2).f0, (rd_T50 t268 x31_2).f1⟩ : S48)); (case aB => exact (by repeat (first | (with_reducible first | exact HB.out | apply below_alloc | apply pw_below_drewN | apply below_drew1 | refine below_set ?_ GE272.out) | exact HB.out))); (case aF => exact (fun _ _ => trivial)); (case aO => exact (by (with_reducible repeat (first | apply Kd.R_alloc | apply Kd.R_drewN | apply Kd.R_drew)); exact Kd.R_mono (Kd.R_far (p := ⟨gb272, 1, none⟩) (Kd.R_far (p := ⟨gb272, 0, none⟩) (Kd.R_types HO_5.out BK272.out (by decide)) (fun _ hk => hk.2) (.string ((rd_T50 t268 x31_2).f0))) (fun _ hk => hk.2) (.string ((rd_T50 t268 x31_2).f1))) (fun _ hk => trivial))); (case aS => exact (below_size (by repeat (first | (with_reducible first | exact HB.out | apply below_alloc | apply pw_below_drewN | apply below_drew1 | refine below_set ?_ GE272.out) | exact HB.out)))); (case aL => have := LMc38.out; omega); intro v274 w41 ho hb hg hat; rw [← Ny273.out] at ho; have n0_ := Aside0.mk (Kd.R_over' (by (with_reducible repeat (first | apply Kd.R_alloc | apply Kd.R_drewN | apply Kd.R_drew)); exact (Kd.R_mono (Kd.R_far (p := ⟨gb272, 1, none⟩) (Kd.R_far (p := ⟨gb272, 0, none⟩) (Kd.R_mono HO_29.out (fun k_ hk => (⟨hk, hk.2⟩ : _ ∧ k_ ≠ gb272))) (fun _ hk => hk.2) (.string ((rd_T50 t268 x31_2).f0))) (fun _ hk => hk.2) (.string ((rd_T50 t268 x31_2).f1))) (fun _ h_ => h_.1))) (Kd.R_typed (by (with_reducible repeat (first | apply Kd.R_alloc | apply Kd.R_drewN | apply Kd.R_drew)); exact (Kd.R_mono (Kd.R_far (p := ⟨gb272, 1, none⟩) (Kd.R_far (p := ⟨gb272, 0, none⟩) (Kd.R_types HO_5.out BK272.out (by decide)) (fun _ hk => hk.2) (.string ((rd_T50 t268 x31_2).f0))) (fun _ hk => hk.2) (.string ((rd_T50 t268 x31_2).f1))) (fun _ h_ => h_.1)))) (by decide) hg); have n1_ := Aside0.mk (blk_grown (g := gb272) (o := .cells #[.string ((rd_T50 t268 x31_2).f0), .string ((rd_T50 t268 x31_2).f1)] 50 (0, 0)) (by (with_reducible repeat (first | refine blk_drewN ?_ _ | refine blk_drew ?_ | refine blk_alloc ?_ _)); refine blk_put (cs := #[.string ((rd_T50 t268 x31_2).f0), .string (⟨#[]⟩ : ByteArray)]) ?_ 1 _ rfl; (with_reducible repeat (first | refine blk_drewN ?_ _ | refine blk_drew ?_ | refine blk_alloc ?_ _)); refine blk_put (cs := #[.string (⟨#[]⟩ : ByteArray), .string (⟨#[]⟩ : ByteArray)]) ?_ 0 _ rfl; (with_reducible repeat (first | refine blk_drewN ?_ _ | refine blk_drew ?_ | refine blk_alloc ?_ _)); exact BK272.out) hg (Kd.R_ne HO_5.out BK272.out (by decide))); have n2_ := Aside0.mk (hb); have n3_ := Aside0.mk (ho); clear HO_29; clear BK272; clear HB; clear HO_5; have HO_29 := n0_; have BK272 := n1_; have HB := n2_; have HO275 := n3_; clear n0_ n1_ n2_ n3_; clear ho hb hg hat))
                        go_roundg k2
                        case measure => have := HJ2.out; have := HK2.out; omega
                        case rel => exact ⟨(y273), (wrap64 (x31_2 + 1)), (by first | rfl | (simp; done) | (simp [*]; done)), H', ⟨by have := HJ2.out; have := HK2.out; omega⟩, ⟨by (with_reducible repeat (first | apply Kd.R_alloc | apply Kd.R_drewN | apply Kd.R_drew)); exact HO275.out⟩, ⟨by (with_reducible repeat (first | apply Kd.R_alloc | apply Kd.R_drewN | apply Kd.R_drew)); exact Kd.R_mono HO_29.out (fun _ hk => trivial)⟩, ⟨by repeat (first | (with_reducible first | exact HB.out | apply below_alloc | apply pw_below_drewN | apply below_drew1 | refine below_set ?_ GE272.out) | exact HB.out)⟩⟩
                      · rw [if_neg c38] at H
                        exact absurd H (by simp)
                    · rw [if_neg c37] at H
                      exact absurd H (by simp)
                  · rw [if_neg c36] at H
                    exact absurd H (by simp)
                · rw [if_neg c35] at H
                  have c35b0 : decide (x31_2 < (t268.length : Int)) = false := decide_eq_false c35
                  clear c35
                  have H' := Aside0.mk H
                  clear H
                  go_wp2
                  go_loopg [42] k2 (fun kq v42 w' => ∃ (x5_3 : List (S48)) (x42_3 : Int), v42 = .int .i64 x42_3 ∧ Aside0 (laws_FnFastPrint.l1 kq l0 x5_3 l1 (l1.length : Int) x42_3 = some r) ∧ Aside0 (kq ≤ k2) ∧ Aside0 (Kd.R k48 48 w' w.heap.size (fun _ => True) u5 x5_3) ∧ Aside0 (Below w.heap.size w w'))
                  case atStart => exact ⟨(x5_2), (0), (by first | rfl | (simp; done) | (simp [*]; done)), H', ⟨Nat.le_refl _⟩, ⟨by (with_reducible repeat (first | apply Kd.R_alloc | apply Kd.R_drewN | apply Kd.R_drew)); exact HO_5.out⟩, ⟨by repeat (first | (with_reducible first | exact HB.out | apply below_alloc | apply pw_below_drewN | apply below_drew1) | exact HB.out)⟩⟩
                  case round =>
                    clear H'
                    try clear c1
                    try clear c2
                    try clear p2
                    try clear q2
                    try clear hx2
                    try clear c3
                    try clear c5
                    try clear p6
                    try clear c7
                    try clear c8
                    try clear c11
                    try clear c11b0
                    try clear c11b1
                    try clear c15
                    try clear c16
                    try clear c18
                    try clear c20
                    try clear p27
                    try clear q27
                    try clear hx27
                    try clear c28
                    try clear c29
                    try clear c35
                    try clear c35b0
                    try clear c36
                    try clear c36b0
                    try clear c37
                    try clear c37b0
                    try clear c38
                    try clear hcz40_0
                    try clear hcz40_1
                    try clear hfz40_0
                    try clear hfz40_1
                    try clear hx271_0
                    try clear hx271_1
                    try clear p2
                    try clear p271
                    try clear q271
                    obtain ⟨x5_3, x42_3, rfl, HA, HK3, HO_5, HB⟩ := hrel
                    cases gk with
                    | zero => exact absurd HA.out (by simp [laws_FnFastPrint.l1])
                    | succ k3 =>
                      have H := HA.out
                      clear HA
                      simp only [laws_FnFastPrint.l1] at H
                      by_cases c42 : x42_3 < (l1.length : Int)
                      · rw [if_pos c42] at H
                        have c42b0 : decide (x42_3 < (l1.length : Int)) = true := decide_eq_true c42
                        clear c42
                        by_cases c43 : 0 ≤ x42_3
                        · rw [if_pos c43] at H
                          have c43b0 : decide (0 ≤ x42_3) = true := decide_eq_true c43
                          clear c43
                          by_cases c44 : x42_3 < (l1.length : Int)
                          · rw [if_pos c44] at H
                            have c44b0 : decide (x42_3 < (l1.length : Int)) = true := decide_eq_true c44
                            clear c44
                            by_cases c45 : (x5_3.length : Int) > 0
                            · rw [if_pos c45] at H
                              have c45b0 : decide (0 < (x5_3.length : Int)) = true := decide_eq_true c45
                              have c45b1 : decide (0 < x5_3.length) = true := decide_eq_true (by omega)
                              clear c45
                              by_cases c46 : (x5_3.length : Int) = 0
                              · rw [if_pos c46] at H
                                exact absurd H (by simp)
                              · rw [if_neg c46] at H
                                have c46b0 : ((x5_3.length : Int) == 0) = false := beq_eq_false_iff_ne.mpr c46
                                have c46b1 : ((x5_3.length : Int) != 0) = true := bne_iff_ne.mpr c46
                                have c46b2 : ¬ (x5_3 = []) := fun h_ => c46 (by rw [h_]; rfl)
                                obtain ⟨ji47, hji47⟩ : ∃ j_ : Int, (Int.tmod (wrap64 (rd l1 x42_3)) (x5_3.length : Int)) = j_ := ⟨_, rfl⟩
                                replace H : (if 0 ≤ (ji47) then (if (ji47) < (x5_3.length : Int) then (if 0 ≤ (Int.tmod x42_3 (x5_3.length : Int)) then (if (Int.tmod x42_3 (x5_3.length : Int)) < (x5_3.length : Int) then (laws_FnFastPrint.l1 k3 l0 ((x5_3.set ((Int.tmod x42_3 (x5_3.length : Int)) : Int).toNat (⟨(rd_T48 x5_3 (ji47)).f0, (rd_T48 x5_3 (ji47)).f1⟩ : S48)).set ((ji47) : Int).toNat (⟨(rd_T48 x5_3 (Int.tmod x42_3 (x5_3.length : Int))).f0, (rd_T48 x5_3 (Int.tmod x42_3 (x5_3.length : Int))).f1⟩ : S48)) l1 (l1.length : Int) (wrap64 (x42_3 + 1))) else (none)) else (none)) else (none)) else (none)) = some r := by first | (rw [hji47] at H; exact H) | (simp only [hji47] at H ⊢; exact H)
                                by_cases c48 : 0 ≤ (ji47)
                                · rw [if_pos c48] at H
                                  have c48b0 : decide (0 ≤ (ji47)) = true := decide_eq_true c48
                                  clear c48
                                  by_cases c49 : (ji47) < (x5_3.length : Int)
                                  · rw [if_pos c49] at H
                                    have c49b0 : decide ((ji47) < (x5_3.length : Int)) = true := decide_eq_true c49
                                    clear c49
                                    obtain ⟨ji50, hji50⟩ : ∃ j_ : Int, (Int.tmod x42_3 (x5_3.length : Int)) = j_ := ⟨_, rfl⟩
                                    replace H : (if 0 ≤ (ji50) then (if (ji50) < (x5_3.length : Int) then (laws_FnFastPrint.l1 k3 l0 ((x5_3.set ((ji50) : Int).toNat (⟨(rd_T48 x5_3 (ji47)).f0, (rd_T48 x5_3 (ji47)).f1⟩ : S48)).set ((ji47) : Int).toNat (⟨(rd_T48 x5_3 (ji50)).f0, (rd_T48 x5_3 (ji50)).f1⟩ : S48)) l1 (l1.length : Int) (wrap64 (x42_3 + 1))) else (none)) else (none)) = some r := by first | (rw [hji50] at H; exact H) | (simp only [hji50] at H ⊢; exact H)
                                    by_cases c51 : 0 ≤ (ji50)
                                    · rw [if_pos c51] at H
                                      have c51b0 : decide (0 ≤ (ji50)) = true := decide_eq_true c51
                                      clear c51
                                      by_cases c52 : (ji50) < (x5_3.length : Int)
                                      · rw [if_pos c52] at H
                                        have c52b0 : decide ((ji50) < (x5_3.length : Int)) = true := decide_eq_true c52
                                        clear c52
                                        obtain ⟨y279, hy279⟩ : ∃ y_ : List (S48), y_ = (x5_3.set ((ji50) : Int).toNat (⟨(rd_T48 x5_3 (ji47)).f0, (rd_T48 x5_3 (ji47)).f1⟩ : S48)) := ⟨_, rfl⟩
                                        replace H : (laws_FnFastPrint.l1 k3 l0 (y279.set ((ji47) : Int).toNat (⟨(rd_T48 x5_3 (ji50)).f0, (rd_T48 x5_3 (ji50)).f1⟩ : S48)) l1 (l1.length : Int) (wrap64 (x42_3 + 1))) = some r := by first | (rw [hy279]; with_reducible exact H) | (have H2_ := (Option.bind_some _ _).symm.trans H; rw [hy279]; with_reducible exact H2_) | (have H2_ := (Option.bind_some _ _).symm.trans H; with_reducible exact H2_) | with_reducible exact H | (rw [hy279]; exact H) | exact H
                                        have Ny279 := Aside0.mk hy279
                                        clear hy279
                                        obtain ⟨y280, hy280⟩ : ∃ y_ : List (S48), y_ = (y279.set ((ji47) : Int).toNat (⟨(rd_T48 x5_3 (ji50)).f0, (rd_T48 x5_3 (ji50)).f1⟩ : S48)) := ⟨_, rfl⟩
                                        replace H : (laws_FnFastPrint.l1 k3 l0 y280 l1 (l1.length : Int) (wrap64 (x42_3 + 1))) = some r := by first | (rw [hy280]; with_reducible exact H) | (have H2_ := (Option.bind_some _ _).symm.trans H; rw [hy280]; with_reducible exact H2_) | (have H2_ := (Option.bind_some _ _).symm.trans H; with_reducible exact H2_) | with_reducible exact H | (rw [hy280]; exact H) | exact H
                                        have Ny280 := Aside0.mk hy280
                                        clear hy280
                                        have H' := Aside0.mk H
                                        clear H
                                        have p276 : 0 ≤ (x42_3 : Int) := of_decide_eq_true (by first | (with_reducible assumption) | assumption)
                                        have q276 : x42_3 < (l1.length : Int) := of_decide_eq_true (by first | (with_reducible assumption) | assumption)
                                        obtain ⟨ad276, e276, hx276_0⟩ := Kd.at_int HR1.out x42_3 p276 q276
                                        cases e276
                                        replace hx276_0 := (HB.out.cell (World.block_lt_of_cell? w _ hx276_0)).trans hx276_0
                                        replace p276 := eq_true p276
                                        replace q276 := eq_true q276
                                        obtain ⟨Ao55, co55, eo55⟩ := Kd.R_slice HO_5.out
                                        subst eo55
                                        try go_wp2
                                        have n0_ := Aside0.mk (Kd.R_drew HO_5.out)
                                        have n1_ := Aside0.mk (below_drew1 HB.out)
                                        clear HO_5
                                        clear HB
                                        have HO_5 := n0_
                                        have HB := n1_
                                        clear n0_ n1_
                                        refine start_ (n := 11) (S := fun w' => True) (ds := []) #[false, false, false, false, false, false, false, false, false, false, false] (by kernel_rfl) rfl rfl trivial (fun hHeld => ?_); refine with_tabW laws_FnFastPrint.tab17 laws_FnFastPrint.bits17 (fun HT_ HW_ => ?_)
                                        generalize wr.drew = w56 at HO_5 HB hHeld ⊢
                                        refine pure_ (i := 0) (N := some 50) (v := ?_) (a' := ?_) #[true, false, false, false, false, false, false, false, false, false, false] rfl rfl (any_of HT_.out (by kernel_rfl)) (fun _ _ _ h => h) (Or.inl ⟨by rfl, ?_⟩) ?_ ?_
                                        rotate_left
                                        · intro w'
                                          go_simp
                                          with_reducible rfl
                                        rotate_left
                                        · simp only [Act.put, List.setIfInBounds_toArray, List.set_cons_zero, List.set_cons_succ, i64_w, i32_w]
                                          rfl
                                        refine pure_ (i := 1) (N := some 51) (v := ?_) (a' := ?_) #[true, true, false, false, false, false, false, false, false, false, false] rfl rfl (any_of HT_.out (by kernel_rfl)) (fun _ _ _ h => h) (Or.inl ⟨by rfl, ?_⟩) ?_ ?_
                                        rotate_left
                                        · intro w'
                                          go_simp
                                          with_reducible rfl
                                        rotate_left
                                        · simp only [Act.put, List.setIfInBounds_toArray, List.set_cons_zero, List.set_cons_succ, i64_w, i32_w]
                                          rfl
                                        refine pure_ (i := 2) (N := some 52) (v := ?_) (a' := ?_) #[true, true, true, false, false, false, false, false, false, false, false] rfl rfl (any_of HT_.out (by kernel_rfl)) (fun _ _ _ h => h) (Or.inl ⟨by rfl, ?_⟩) ?_ ?_
                                        rotate_left
                                        · intro w'
                                          go_simp
                                          with_reducible rfl
                                        rotate_left
                                        · simp only [Act.put, List.setIfInBounds_toArray, List.set_cons_zero, List.set_cons_succ, i64_w, i32_w]
                                          rfl
                                        refine pure_ (i := 3) (N := some 53) (v := ?_) (a' := ?_) #[true, true, true, true, false, false, false, false, false, false, false] rfl rfl (any_of HT_.out (by kernel_rfl)) (fun _ _ _ h => h) (Or.inl ⟨by rfl, ?_⟩) ?_ ?_
                                        rotate_left
                                        · intro w'
                                          go_simp
                                          with_reducible rfl
                                        rotate_left
                                        · simp only [Act.put, List.setIfInBounds_toArray, List.set_cons_zero, List.set_cons_succ, i64_w, i32_w]
                                          rfl
                                        refine pure_ (i := 4) (N := some 54) (v := ?_) (a' := ?_) #[true, true, true, true, true, false, false, false, false, false, false] rfl rfl (any_of HT_.out (by kernel_rfl)) (fun _ _ _ h => h) (Or.inl ⟨by rfl, ?_⟩) ?_ ?_
                                        rotate_left
                                        · intro w'
                                          go_simp
                                          with_reducible rfl
                                        rotate_left
                                        · simp only [Act.put, List.setIfInBounds_toArray, List.set_cons_zero, List.set_cons_succ, i64_w, i32_w]
                                          rfl
                                        refine pure_ (i := 5) (N := some 55) (v := ?_) (a' := ?_) #[true, true, true, true, true, true, false, false, false, false, false] rfl rfl (any_of HT_.out (by kernel_rfl)) (fun _ _ _ h => h) (Or.inl ⟨by rfl, ?_⟩) ?_ ?_
                                        rotate_left
                                        · intro w'
                                          go_simp
                                          with_reducible rfl
                                        rotate_left
                                        · simp only [Act.put, List.setIfInBounds_toArray, List.set_cons_zero, List.set_cons_succ, i64_w, i32_w]
                                          rfl
                                        refine pure_ (i := 6) (N := some 56) (v := ?_) (a' := ?_) #[true, true, true, true, true, true, true, false, false, false, false] rfl rfl (any_of HT_.out (by kernel_rfl)) (fun _ _ _ h => h) (Or.inl ⟨by rfl, ?_⟩) ?_ ?_
                                        rotate_left
                                        · intro w'
                                          go_simp
                                          with_reducible rfl
                                        rotate_left
                                        · simp only [Act.put, List.setIfInBounds_toArray, List.set_cons_zero, List.set_cons_succ, i64_w, i32_w]
                                          rfl
                                        refine pure_ (i := 7) (N := some 57) (v := ?_) (a' := ?_) #[true, true, true, true, true, true, true, true, false, false, false] rfl rfl (any_of HT_.out (by kernel_rfl)) (fun _ _ _ h => h) (Or.inl ⟨by rfl, ?_⟩) ?_ ?_
                                        rotate_left
                                        · intro w'
                                          go_simp
                                          with_reducible rfl
                                        rotate_left
                                        · simp only [Act.put, List.setIfInBounds_toArray, List.set_cons_zero, List.set_cons_succ, i64_w, i32_w]
                                          rfl
                                        refine pure_ (i := 8) (N := some 58) (v := ?_) (a' := ?_) #[true, true, true, true, true, true, true, true, true, false, false] rfl rfl (any_of HT_.out (by kernel_rfl)) (fun _ _ _ h => h) (Or.inl ⟨by rfl, ?_⟩) ?_ ?_
                                        rotate_left
                                        · intro w'
                                          go_simp
                                          with_reducible rfl
                                        rotate_left
                                        · simp only [Act.put, List.setIfInBounds_toArray, List.set_cons_zero, List.set_cons_succ, i64_w, i32_w]
                                          rfl
                                        refine pure_ (i := 9) (N := some 10) (v := ?_) (a' := ?_) #[true, true, true, true, true, true, true, true, true, true, false] rfl rfl (any_of HT_.out (by kernel_rfl)) (fun _ _ _ h => h) (Or.inl ⟨by rfl, ?_⟩) ?_ ?_
                                        rotate_left
                                        · intro w'
                                          go_simp
                                          with_reducible rfl
                                        rotate_left
                                        · simp only [Act.put, List.setIfInBounds_toArray, List.set_cons_zero, List.set_cons_succ, i64_w, i32_w]
                                          rfl
                                        refine pure_ (i := 10) (N := some 11) (v := ?_) (a' := ?_) #[true, true, true, true, true, true, true, true, true, true, true] rfl rfl (any_of HT_.out (by kernel_rfl)) (fun _ _ _ h => h) (Or.inl ⟨by rfl, ?_⟩) ?_ ?_
                                        rotate_left
                                        · intro w'
                                          go_simp
                                          with_reducible rfl
                                        rotate_left
                                        · simp only [Act.put, List.setIfInBounds_toArray, List.set_cons_zero, List.set_cons_succ, i64_w, i32_w]
                                          rfl
                                        refine done_ (done_of HT_.out (by kernel_rfl)) ?_
                                        try go_wp2
                                        have n0_ := Aside0.mk (Kd.R_drew HO_5.out)
                                        have n1_ := Aside0.mk (below_drew1 HB.out)
                                        clear HO_5
                                        clear HB
                                        have HO_5 := n0_
                                        have HB := n1_
                                        clear n0_ n1_
                                        have p277 : 0 ≤ ((ji47) : Int) := of_decide_eq_true (by first | (with_reducible assumption) | assumption)
                                        have q277 : (ji47) < (x5_3.length : Int) := of_decide_eq_true (by first | (with_reducible assumption) | assumption)
                                        obtain ⟨ad277, e277, hx277_0, hx277_1⟩ := at_T48 (Kd.R_reads' HO_5.out).2.2 (ji47) p277 q277
                                        cases e277
                                        replace p277 := eq_true p277
                                        replace q277 := eq_true q277
                                        have p278 : 0 ≤ ((ji50) : Int) := of_decide_eq_true (by first | (with_reducible assumption) | assumption)
                                        have q278 : (ji50) < (x5_3.length : Int) := of_decide_eq_true (by first | (with_reducible assumption) | assumption)
                                        obtain ⟨ad278, e278, hx278_0, hx278_1⟩ := at_T48 (Kd.R_reads' HO_5.out).2.2 (ji50) p278 q278
                                        obtain rfl : ad277 = ad278 := (by injection e278)
                                        replace p278 := eq_true p278
                                        replace q278 := eq_true q278
                                        have p53 : 0 ≤ ((ji50) : Int) := of_decide_eq_true (by first | (with_reducible assumption) | assumption)
                                        have q53 : ((ji50) : Int) < ((x5_3.length : Int) : Int) := of_decide_eq_true (by first | (with_reducible assumption) | assumption)
                                        obtain ⟨go53, co53, eo53, gb53, gl53, cl53, HG53⟩ := Kd.R_form HO_5.out (by omega)
                                        (first | cases eo53 | (injection eo53 with ea_ en_ ec_; (first | subst ea_ | (injection ea_ with ea_; subst ea_)); subst ec_; clear en_))
                                        have GB53 := Aside0.mk gb53
                                        have GG53 := Aside0.mk HG53
                                        clear gb53 gl53 HG53
                                        (first | simp only [add_plain] at hx277_0 | skip)
                                        (first | simp only [add_plain] at hx277_1 | skip)
                                        (first | simp only [add_plain] at hx278_0 | skip)
                                        (first | simp only [add_plain] at hx278_1 | skip)
                                        obtain ⟨ce53, hcl53, hM53, hcc53, hfr53⟩ := Kd.R_elem HO_5.out z48 ((ji50) : Int) p53 q53
                                        obtain rfl := k48_openM hM53
                                        have hx53_0 : World.cell? _ ⟨go53, ((ji50) : Int).toNat * 2, none⟩ = some (.string ((rd_T48 x5_3 (ji50)).f0)) := hcc53 0 _ rfl
                                        have hx53_1 : World.cell? _ ⟨go53, ((ji50) : Int).toNat * 2 + 1, none⟩ = some (.string ((rd_T48 x5_3 (ji50)).f1)) := hcc53 1 _ rfl
                                        have hf53_0 : World.frozen? _ ⟨go53, ((ji50) : Int).toNat * 2, none⟩ = false := hfr53 0
                                        have hf53_1 : World.frozen? _ ⟨go53, ((ji50) : Int).toNat * 2 + 1, none⟩ = false := hfr53 1
                                        clear hcl53 hcc53 hfr53 hM53
                                        replace p53 := eq_true p53
                                        replace q53 := eq_true q53
                                        obtain ⟨ce58, hcl58, hM58, hcc58, hfr58⟩ := Kd.R_elem HO_5.out z48 ((ji50) : Int) (of_decide_eq_true (by first | (with_reducible assumption) | assumption)) (by have h_ : ((ji50) : Int) < ((x5_3.length : Int) : Int) := of_decide_eq_true (by first | (with_reducible assumption) | assumption); first | exact h_ | (have e_ := (Kd.R_reads' HO_5.out).1; omega) | simpa using h_)
                                        obtain rfl := k48_openM hM58
                                        have HP58 := (Kd.R_seg HO_5.out ((ji50) : Int) (of_decide_eq_true (by first | (with_reducible assumption) | assumption)) (by have h_ : ((ji50) : Int) < ((x5_3.length : Int) : Int) := of_decide_eq_true (by first | (with_reducible assumption) | assumption); first | exact h_ | (have e_ := (Kd.R_reads' HO_5.out).1; omega) | simpa using h_) (seg := [.string ((rd_T48 x5_3 (ji47)).f0), .string ((rd_T48 x5_3 (ji47)).f1)]) (j := 0) hcl58 hcc58 (show 2 ≤ 2 from by decide) (x' := (⟨(rd_T48 x5_3 (ji47)).f0, (rd_T48 x5_3 (ji47)).f1⟩ : S48)) (k48_mkM _ _ _ (⟨(rd_T48 x5_3 (ji47)).f0, (rd_T48 x5_3 (ji47)).f1⟩ : S48) ) (fun _ hk => hk)).1
                                        rw [← Ny279.out] at HP58
                                        have HQ58 := Aside0.mk HP58
                                        clear hcl58 hcc58 hfr58 hM58 HP58
                                        have p54 : 0 ≤ ((ji47) : Int) := of_decide_eq_true (by first | (with_reducible assumption) | assumption)
                                        have q54 : ((ji47) : Int) < ((x5_3.length : Int) : Int) := of_decide_eq_true (by first | (with_reducible assumption) | assumption)
                                        obtain ⟨ce54, hcl54, hM54, hcc54, hfr54⟩ := Kd.R_elem HQ58.out z48 ((ji47) : Int) p54 q54
                                        obtain rfl := k48_openM hM54
                                        have hx54_0 : World.cell? _ ⟨go53, ((ji47) : Int).toNat * 2, none⟩ = some (.string ((rd_T48 y279 (ji47)).f0)) := hcc54 0 _ rfl
                                        have hx54_1 : World.cell? _ ⟨go53, ((ji47) : Int).toNat * 2 + 1, none⟩ = some (.string ((rd_T48 y279 (ji47)).f1)) := hcc54 1 _ rfl
                                        have hf54_0 : World.frozen? _ ⟨go53, ((ji47) : Int).toNat * 2, none⟩ = false := hfr54 0
                                        have hf54_1 : World.frozen? _ ⟨go53, ((ji47) : Int).toNat * 2 + 1, none⟩ = false := hfr54 1
                                        clear hcl54 hcc54 hfr54 hM54
                                        replace p54 := eq_true p54
                                        replace q54 := eq_true q54
                                        obtain ⟨ce59, hcl59, hM59, hcc59, hfr59⟩ := Kd.R_elem HQ58.out z48 ((ji47) : Int) (of_decide_eq_true (by first | (with_reducible assumption) | assumption)) (by have h_ : ((ji47) : Int) < ((x5_3.length : Int) : Int) := of_decide_eq_true (by first | (with_reducible assumption) | assumption); first | exact h_ | (have e_ := (Kd.R_reads' HO_5.out).1; omega) | simpa using h_)
                                        obtain rfl := k48_openM hM59
                                        have HP59 := (Kd.R_seg HQ58.out ((ji47) : Int) (of_decide_eq_true (by first | (with_reducible assumption) | assumption)) (by have h_ : ((ji47) : Int) < ((x5_3.length : Int) : Int) := of_decide_eq_true (by first | (with_reducible assumption) | assumption); first | exact h_ | (have e_ := (Kd.R_reads' HO_5.out).1; omega) | simpa using h_) (seg := [.string ((rd_T48 x5_3 (ji50)).f0), .string ((rd_T48 x5_3 (ji50)).f1)]) (j := 0) hcl59 hcc59 (show 2 ≤ 2 from by decide) (x' := (⟨(rd_T48 x5_3 (ji50)).f0, (rd_T48 x5_3 (ji50)).f1⟩ : S48)) (k48_mkM _ _ _ (⟨(rd_T48 x5_3 (ji50)).f0, (rd_T48 x5_3 (ji50)).f1⟩ : S48) ) (fun _ hk => hk)).1
                                        rw [← Ny280.out] at HP59
                                        have HQ59 := Aside0.mk HP59
                                        clear hcl59 hcc59 hfr59 hM59 HP59
                                        refine start_ (n := 16) (S := fun w' => w'.cell? ⟨go53, ((ji47)).toNat * 2, none⟩ = some (.string ((rd_T48 x5_3 (ji47)).f0)) ∧ w'.cell? ⟨go53, ((ji47)).toNat * 2 + 1, none⟩ = some (.string ((rd_T48 x5_3 (ji47)).f1)) ∧ w'.cell? ⟨go53, ((ji50)).toNat * 2, none⟩ = some (.string ((rd_T48 x5_3 (ji50)).f0)) ∧ w'.cell? ⟨go53, ((ji50)).toNat * 2 + 1, none⟩ = some (.string ((rd_T48 x5_3 (ji50)).f1))) (ds := [13, 15]) #[false, false, false, false, false, false, false, false, false, false, false, false, false, false, false, false] (by kernel_rfl) rfl rfl ⟨hx277_0, hx277_1, hx278_0, hx278_1⟩ (fun hHeld => ?_); refine with_tabW laws_FnFastPrint.tab18 laws_FnFastPrint.bits18 (fun HT_ HW_ => ?_)
                                        generalize w56.drew = w57 at HO_5 HB GG53 HQ58 HQ59 hf53_0 hf53_1 hf54_0 hf54_1 hx277_0 hx277_1 hx278_0 hx278_1 hx53_0 hx53_1 hx54_0 hx54_1 hHeld ⊢
                                        refine pure_ (i := 0) (N := some 59) (v := ?_) (a' := ?_) #[true, false, false, false, false, false, false, false, false, false, false, false, false, false, false, false] rfl rfl (any_of HT_.out (by kernel_rfl)) (fun _ _ _ h => h) (Or.inl ⟨by rfl, ?_⟩) ?_ ?_
                                        rotate_left
                                        · intro w'
                                          go_simp
                                          with_reducible rfl
                                        rotate_left
                                        · simp only [Act.put, List.setIfInBounds_toArray, List.set_cons_zero, List.set_cons_succ, i64_w, i32_w]
                                          rfl
                                        refine pure_ (i := 1) (N := some 60) (v := ?_) (a' := ?_) #[true, true, false, false, false, false, false, false, false, false, false, false, false, false, false, false] rfl rfl (any_of HT_.out (by kernel_rfl)) (fun _ _ _ h => h) (Or.inl ⟨by rfl, ?_⟩) ?_ ?_
                                        rotate_left
                                        · intro w'
                                          go_simp
                                          with_reducible rfl
                                        rotate_left
                                        · simp only [Act.put, List.setIfInBounds_toArray, List.set_cons_zero, List.set_cons_succ, i64_w, i32_w]
                                          rfl
                                        refine pure_ (i := 2) (N := some 61) (v := ?_) (a' := ?_) #[true, true, true, false, false, false, false, false, false, false, false, false, false, false, false, false] rfl rfl (any_of HT_.out (by kernel_rfl)) (fun _ _ _ h => h) (Or.inl ⟨by rfl, ?_⟩) ?_ ?_
                                        rotate_left
                                        · intro w'
                                          go_simp
                                          with_reducible rfl
                                        rotate_left
                                        · simp only [Act.put, List.setIfInBounds_toArray, List.set_cons_zero, List.set_cons_succ, i64_w, i32_w]
                                          rfl
                                        refine pure_ (i := 3) (N := some 62) (v := ?_) (a' := ?_) #[true, true, true, true, false, false, false, false, false, false, false, false, false, false, false, false] rfl rfl (any_of HT_.out (by kernel_rfl)) (fun _ _ _ h => h) (Or.inl ⟨by rfl, ?_⟩) ?_ ?_
                                        rotate_left
                                        · intro w'
                                          go_simp
                                          with_reducible rfl
                                        rotate_left
                                        · simp only [Act.put, List.setIfInBounds_toArray, List.set_cons_zero, List.set_cons_succ, i64_w, i32_w]
                                          rfl
                                        refine pure_ (i := 4) (N := some 63) (v := ?_) (a' := ?_) #[true, true, true, true, true, false, false, false, false, false, false, false, false, false, false, false] rfl rfl (any_of HT_.out (by kernel_rfl)) (fun _ _ _ h => h) (Or.inl ⟨by rfl, ?_⟩) ?_ ?_
                                        rotate_left
                                        · intro w'
                                          go_simp
                                          with_reducible rfl
                                        rotate_left
                                        · simp only [Act.put, List.setIfInBounds_toArray, List.set_cons_zero, List.set_cons_succ, i64_w, i32_w]
                                          rfl
                                        refine pure_ (i := 5) (N := some 64) (v := ?_) (a' := ?_) #[true, true, true, true, true, true, false, false, false, false, false, false, false, false, false, false] rfl rfl (any_of HT_.out (by kernel_rfl)) (fun _ _ _ h => h) (Or.inl ⟨by rfl, ?_⟩) ?_ ?_
                                        rotate_left
                                        · intro w'
                                          go_simp
                                          with_reducible rfl
                                        rotate_left
                                        · simp only [Act.put, List.setIfInBounds_toArray, List.set_cons_zero, List.set_cons_succ, i64_w, i32_w]
                                          rfl
                                        refine pure_ (i := 6) (N := some 65) (v := ?_) (a' := ?_) #[true, true, true, true, true, true, true, false, false, false, false, false, false, false, false, false] rfl rfl (any_of HT_.out (by kernel_rfl)) (fun _ _ _ h => h) (Or.inl ⟨by rfl, ?_⟩) ?_ ?_
                                        rotate_left
                                        · intro w'
                                          go_simp
                                          with_reducible rfl
                                        rotate_left
                                        · simp only [Act.put, List.setIfInBounds_toArray, List.set_cons_zero, List.set_cons_succ, i64_w, i32_w]
                                          rfl
                                        refine pure_ (i := 8) (N := some 67) (v := ?_) (a' := ?_) #[true, true, true, true, true, true, true, false, true, false, false, false, false, false, false, false] rfl rfl (any_of HT_.out (by kernel_rfl)) (fun _ _ _ h => h) (Or.inl ⟨by rfl, ?_⟩) ?_ ?_
                                        rotate_left
                                        · intro w'
                                          go_simp
                                          with_reducible rfl
                                        rotate_left
                                        · simp only [Act.put, List.setIfInBounds_toArray, List.set_cons_zero, List.set_cons_succ, i64_w, i32_w]
                                          rfl
                                        refine pure_ (i := 9) (N := some 68) (v := ?_) (a' := ?_) #[true, true, true, true, true, true, true, false, true, true, false, false, false, false, false, false] rfl rfl (any_of HT_.out (by kernel_rfl)) (fun _ _ _ h => h) (Or.inl ⟨by rfl, ?_⟩) ?_ ?_
                                        rotate_left
                                        · intro w'
                                          go_simp
                                          with_reducible rfl
                                        rotate_left
                                        · simp only [Act.put, List.setIfInBounds_toArray, List.set_cons_zero, List.set_cons_succ, i64_w, i32_w]
                                          rfl
                                        refine pure_ (i := 10) (N := some 69) (v := ?_) (a' := ?_) #[true, true, true, true, true, true, true, false, true, true, true, false, false, false, false, false] rfl rfl (any_of HT_.out (by kernel_rfl)) (fun _ _ _ h => h) (Or.inl ⟨by rfl, ?_⟩) ?_ ?_
                                        rotate_left
                                        · intro w'
                                          go_simp
                                          with_reducible rfl
                                        rotate_left
                                        · simp only [Act.put, List.setIfInBounds_toArray, List.set_cons_zero, List.set_cons_succ, i64_w, i32_w]
                                          rfl
                                        refine take_ (i := 7) (N := some 66) (v := ?_) (a' := ?_) #[true, true, true, true, true, true, true, true, true, true, true, false, false, false, false, false] rfl rfl (take_ofW HT_.out HW_.out (by kernel_rfl)) (fun _ _ _ h => h) (Or.inl ⟨by rfl, ?_⟩) hHeld ?_ ?_
                                        rotate_left
                                        · rintro w' ⟨s0, s1, s2, s3⟩
                                          go_simp
                                          with_reducible rfl
                                        rotate_left
                                        · simp only [Act.put, List.setIfInBounds_toArray, List.set_cons_zero, List.set_cons_succ, i64_w, i32_w]
                                          rfl
                                        refine take_ (i := 11) (N := some 70) (v := ?_) (a' := ?_) #[true, true, true, true, true, true, true, true, true, true, true, true, false, false, false, false] rfl rfl (take_ofW HT_.out HW_.out (by kernel_rfl)) (fun _ _ _ h => h) (Or.inl ⟨by rfl, ?_⟩) hHeld ?_ ?_
                                        rotate_left
                                        · rintro w' ⟨s0, s1, s2, s3⟩
                                          go_simp
                                          with_reducible rfl
                                        rotate_left
                                        · simp only [Act.put, List.setIfInBounds_toArray, List.set_cons_zero, List.set_cons_succ, i64_w, i32_w]
                                          rfl
                                        refine pure_ (i := 12) (N := some 71) (v := ?_) (a' := ?_) #[true, true, true, true, true, true, true, true, true, true, true, true, true, false, false, false] rfl rfl (any_of HT_.out (by kernel_rfl)) (fun _ _ _ h => h) (Or.inl ⟨by rfl, ?_⟩) ?_ ?_
                                        rotate_left
                                        · intro w'
                                          go_simp
                                          with_reducible rfl
                                        rotate_left
                                        · simp only [Act.put, List.setIfInBounds_toArray, List.set_cons_zero, List.set_cons_succ, i64_w, i32_w]
                                          rfl
                                        refine last_ (i := 13) (N := none) #[true, true, true, true, true, true, true, true, true, true, true, true, true, true, false, false] rfl rfl (one_of HT_.out (by kernel_rfl)) (by decide) (fun K hK => ?_)
                                        refine skip_ (w1 := ?_) (by rfl) rfl ?_ ?_
                                        rotate_left
                                        · go_simp
                                          rfl
                                        refine hK.out _ _ ?_
                                        clear hK K
                                        refine pure_ (i := 14) (N := some 72) (v := ?_) (a' := ?_) #[true, true, true, true, true, true, true, true, true, true, true, true, true, true, true, false] rfl rfl (any_of HT_.out (by kernel_rfl)) (fun _ _ _ h => h) (Or.inl ⟨by rfl, ?_⟩) ?_ ?_
                                        rotate_left
                                        · intro w'
                                          go_simp
                                          with_reducible rfl
                                        rotate_left
                                        · simp only [Act.put, List.setIfInBounds_toArray, List.set_cons_zero, List.set_cons_succ, i64_w, i32_w]
                                          rfl
                                        refine last_ (i := 15) (N := none) #[true, true, true, true, true, true, true, true, true, true, true, true, true, true, true, true] rfl rfl (one_of HT_.out (by kernel_rfl)) (by decide) (fun K hK => ?_)
                                        refine skip_ (w1 := ?_) (by rfl) rfl ?_ ?_
                                        rotate_left
                                        · have g0_ := (World.cell?_setCell_other (w57.setCell ⟨go53, ji50.toNat * 2, none⟩ (.string (rd_T48 x5_3 ji47).f0)) ⟨go53, ji50.toNat * 2 + 1, none⟩ ⟨go53, ji47.toNat * 2, none⟩ (.string (rd_T48 x5_3 ji47).f1) (by intro h; simp only [Addr.mk.injEq] at h; omega)).symm.trans hx54_0
                                          have g1_ : ((w57.setCell ⟨go53, ji50.toNat * 2, none⟩ (.string (rd_T48 x5_3 ji47).f0)).setCell ⟨go53, ji50.toNat * 2 + 1, none⟩ (.string (rd_T48 x5_3 ji47).f1)).cell? ⟨go53, ji47.toNat * 2 + 1, none⟩ = _ := hx54_1
                                          have g2_ : w57.frozen? ⟨go53, ji47.toNat * 2, none⟩ = false := by have h_ : ((w57.setCell ⟨go53, ji50.toNat * 2, none⟩ (.string (rd_T48 x5_3 ji47).f0)).setCell ⟨go53, ji50.toNat * 2 + 1, none⟩ (.string (rd_T48 x5_3 ji47).f1)).frozen? ⟨go53, ji47.toNat * 2, none⟩ = false := hf54_0; simpa only [World.frozen?_setCell] using h_
                                          have g3_ : w57.frozen? ⟨go53, ji47.toNat * 2 + 1, none⟩ = false := by have h_ : ((w57.setCell ⟨go53, ji50.toNat * 2, none⟩ (.string (rd_T48 x5_3 ji47).f0)).setCell ⟨go53, ji50.toNat * 2 + 1, none⟩ (.string (rd_T48 x5_3 ji47).f1)).frozen? ⟨go53, ji47.toNat * 2 + 1, none⟩ = false := hf54_1; simpa only [World.frozen?_setCell] using h_
                                          go_simp
                                          rfl
                                        refine hK.out _ _ ?_
                                        clear hK K
                                        refine done_ (done_of HT_.out (by kernel_rfl)) ?_
                                        try go_wp2
                                        go_roundg k3
                                        case measure => have := HJ2.out; have := HK2.out; have := HK3.out; omega
                                        case rel => exact ⟨(y280), (wrap64 (x42_3 + 1)), (by first | rfl | (simp; done) | (simp [*]; done)), H', ⟨by have := HJ2.out; have := HK2.out; have := HK3.out; omega⟩, ⟨by (with_reducible repeat (first | apply Kd.R_alloc | apply Kd.R_drewN | apply Kd.R_drew)); exact HQ59.out⟩, ⟨by repeat (first | (with_reducible first | exact HB.out | apply below_alloc | apply pw_below_drewN | apply below_drew1 | refine below_set ?_ GB53.out | refine below_set ?_ GB53.out | refine below_set ?_ GB53.out | refine below_set ?_ GB53.out) | exact HB.out)⟩⟩
                                      · rw [if_neg c52] at H
                                        exact absurd H (by simp)
                                    · rw [if_neg c51] at H
                                      exact absurd H (by simp)
                                  · rw [if_neg c49] at H
                                    exact absurd H (by simp)
                                · rw [if_neg c48] at H
                                  exact absurd H (by simp)
                            · rw [if_neg c45] at H
                              have c45b0 : decide (0 < (x5_3.length : Int)) = false := decide_eq_false c45
                              have c45b1 : decide (0 < x5_3.length) = false := decide_eq_false (by omega)
                              clear c45
                              have H' := Aside0.mk H
                              clear H
                              have p276 : 0 ≤ (x42_3 : Int) := of_decide_eq_true (by first | (with_reducible assumption) | assumption)
                              have q276 : x42_3 < (l1.length : Int) := of_decide_eq_true (by first | (with_reducible assumption) | assumption)
                              obtain ⟨ad276, e276, hx276_0⟩ := Kd.at_int HR1.out x42_3 p276 q276
                              cases e276
                              replace hx276_0 := (HB.out.cell (World.block_lt_of_cell? w _ hx276_0)).trans hx276_0
                              replace p276 := eq_true p276
                              replace q276 := eq_true q276
                              obtain ⟨Ao60, co60, eo60⟩ := Kd.R_slice HO_5.out
                              subst eo60
                              go_wp2
                              go_roundg k3
                              case measure => have := HJ2.out; have := HK2.out; have := HK3.out; omega
                              case rel => exact ⟨(x5_3), (wrap64 (x42_3 + 1)), (by first | rfl | (simp; done) | (simp [*]; done)), H', ⟨by have := HJ2.out; have := HK2.out; have := HK3.out; omega⟩, ⟨by (with_reducible repeat (first | apply Kd.R_alloc | apply Kd.R_drewN | apply Kd.R_drew)); exact HO_5.out⟩, ⟨by repeat (first | (with_reducible first | exact HB.out | apply below_alloc | apply pw_below_drewN | apply below_drew1) | exact HB.out)⟩⟩
                          · rw [if_neg c44] at H
                            exact absurd H (by simp)
                        · rw [if_neg c43] at H
                          exact absurd H (by simp)
                      · rw [if_neg c42] at H
                        have c42b0 : decide (x42_3 < (l1.length : Int)) = false := decide_eq_false c42
                        clear c42
                        replace H := Option.bind_eq_some_iff.mp H
                        obtain ⟨t281, A610, H⟩ := H
                        replace H : ((impl_SetFastPrint.f l0).bind fun t282 => (some (t281 == t282))) = some r := H
                        have A61 := Aside0.mk A610
                        clear A610
                        replace H := Option.bind_eq_some_iff.mp H
                        obtain ⟨t282, A620, H⟩ := H
                        replace H : (some (t281 == t282)) = some r := H
                        have A62 := Aside0.mk A620
                        clear A620
                        obtain rfl := Option.some.inj H
                        obtain ⟨Ao63, co63, eo63⟩ := Kd.R_slice HO_5.out
                        subst eo63
                        go_wp2_with (first | ((with_reducible refine gate_callee (f := 28) rfl ?_); refine goesL_ (some 75) rfl rfl Try.func28 (by kernel_rfl) rfl #[.slice Ao63 x5_3.length co63] rfl (by (try simp only [List.map_toArray, List.map_cons, List.map_nil]); first | done | rfl | (simp only [List.length_drop, List.length_take]; rfl)) ?_; (with_reducible refine (impl_SetFastPrint.calls _ _ x5_3 t281 _ ?side1 ?side2 A61.out).mono ?_); (case side1 => repeat (first | exact (Kd.R_reads' HO_5.out).2.2 | (with_reducible refine Kd.C_alloc ?_ _) | (with_reducible refine Kd.C_drewN ?_ _) | (with_reducible refine Kd.C_drew ?_))); (case side2 => exact (Kd.R_reads' HO_5.out).2.1); rintro e w64 ⟨rfl, hb⟩; refine ⟨_, rfl, ?_⟩; have n0_ := Aside0.mk (Kd.R_below (by (with_reducible repeat (first | apply Kd.R_alloc | apply Kd.R_drewN | apply Kd.R_drew)); exact HO_5.out) hb); have n1_ := Aside0.mk (below_step (by repeat (first | (with_reducible first | exact HB.out | apply below_alloc | apply pw_below_drewN | apply below_drew1) | exact HB.out)) hb); clear HO_5; clear HB; have HO_5 := n0_; have HB := n1_; clear n0_ n1_; (try clear hb); (try clear hb2); (try clear hk); (try clear hi)) | ((with_reducible refine gate_callee (f := 28) rfl ?_); refine goesL_ (some 77) rfl rfl Try.func28 (by kernel_rfl) rfl #[.slice A0 l0.length c0] rfl (by (try simp only [List.map_toArray, List.map_cons, List.map_nil]); first | done | rfl | (simp only [List.length_drop, List.length_take]; rfl)) ?_; (with_reducible refine (impl_SetFastPrint.calls _ _ l0 t282 _ ?side1 ?side2 A62.out).mono ?_); (case side1 => repeat (first | exact (Kd.C_below HR0.out HB.out) | (with_reducible refine Kd.C_alloc ?_ _) | (with_reducible refine Kd.C_drewN ?_ _) | (with_reducible refine Kd.C_drew ?_))); (case side2 => exact HC0.out); rintro e w65 ⟨rfl, hb⟩; refine ⟨_, rfl, ?_⟩; have n0_ := Aside0.mk (Kd.R_below (by (with_reducible repeat (first | apply Kd.R_alloc | apply Kd.R_drewN | apply Kd.R_drew)); exact HO_5.out) hb); have n1_ := Aside0.mk (below_step (by repeat (first | (with_reducible first | exact HB.out | apply below_alloc | apply pw_below_drewN | apply below_drew1) | exact HB.out)) hb); clear HO_5; clear HB; have HO_5 := n0_; have HB := n1_; clear n0_ n1_; (try clear hb); (try clear hb2); (try clear hk); (try clear hi)))
                        go_ret
                        exact ⟨by first | rfl | (simp [errW_none, errW_some] <;> rfl) | (simp [*, errW_none, errW_some] <;> rfl), by repeat (first | (with_reducible first | exact HB.out | apply below_alloc | apply pw_below_drewN | apply below_drew1) | exact HB.out)⟩

/-- THE ONE PURE STATEMENT of laws_FnFastPrint: yours. -/
def laws_FnFastPrint.Pure : Prop := ∀ (l0 : List (S48)) (l1 : List Int), (l0.length ≤ maxLen ∧ ∀ y ∈ l0, okS48 y) → (l1.length ≤ maxLen ∧ ∀ y ∈ l1, (Lit.int .u8 y).wf = true) → ∃ k, laws_FnFastPrint.f k l0 l1 = some true

end Go.Proofs.Ytbffhefeepmpcaa.Q
