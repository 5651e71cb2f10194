-- printed by this project's own program wip/tools/mkprint.py (the kit's print.py with hand-proved contracts put in)
import Derived.Test.YtbffhefeepmpcaaQx0
import Derived.Test.YtbffhefeepmpcaaQx12
import Derived.Test.YtbffhefeepmpcaaQx17
import Derived.Test.YtbffhefeepmpcaaQx19
import Derived.Test.YtbffhefeepmpcaaQx20
import Derived.Test.YtbffhefeepmpcaaQx22
namespace Go.Proofs.Ytbffhefeepmpcaa.Q
open Go.RowKit Go.Proofs.YtbffhefeepmpcaaW.PrintWords Go.Proofs.YtbffhefeepmpcaaW.PrintLast Go.Proofs.YtbffhefeepmpcaaW.PrintMore
attribute [local go_sem] max2_int min2_int max_two min_two max_three min_three max_four min_four   -- for this text's walks alone
set_option linter.unusedVariables false
set_option linter.unusedSimpArgs false

/-! ### laws_FnBefore: function 5 -/
def laws_FnBefore.j0 : Nat → List (S37) → Int → Int → Bool → Option (Bool)
  | 0, _, _, _, _ => none
  | k + 1, x0, x1, x2, x37 => if x37 = true then (some true) else ((impl_Before.f x0 x1 x2).bind fun t150 => (if 0 ≤ x1 then (if x1 < (x0.length : Int) then (if 0 ≤ x2 then (if x2 < (x0.length : Int) then ((laws_before.f ((rd_T37 x0 x1).f0) ((rd_T37 x0 x1).f1) ((rd_T37 x0 x1).f2) ((rd_T37 x0 x2).f0) ((rd_T37 x0 x2).f1) ((rd_T37 x0 x2).f2)).bind fun t153 => (if (t150 == t153) = true then ((laws_before.f ((rd_T37 x0 x1).f0) ((rd_T37 x0 x1).f1) ((rd_T37 x0 x1).f2) ((rd_T37 x0 x2).f0) ((rd_T37 x0 x2).f1) ((rd_T37 x0 x2).f2)).bind fun t156 => ((spec_Order.f ((rd_T37 x0 x1).f0) ((rd_T37 x0 x1).f1) ((rd_T37 x0 x1).f2) ((rd_T37 x0 x2).f0) ((rd_T37 x0 x2).f1) ((rd_T37 x0 x2).f2)).bind fun t159 => (some (t156 == (decide (t159 < 0)))))) else (some false))) else (none)) else (none)) else (none)) else (none)))
def laws_FnBefore.f (k : Nat) (l0 : List (S37)) (a1 : Int) (a2 : Int) : Option (Bool) := (laws_zzFits3.f k l0).bind fun t144 => (if t144 = true then ((impl_Before.f (([(⟨0, (⟨#[97]⟩ : ByteArray), (⟨#[]⟩ : ByteArray)⟩ : S37), (⟨0, (⟨#[98]⟩ : ByteArray), (⟨#[]⟩ : ByteArray)⟩ : S37)] : List (S37))) 0 1).bind fun t148 => (if t148 = true then ((laws_typed.f k l0).bind fun t149 => (if t149 = true then (if a1 < 0 then (laws_FnBefore.j0 k l0 a1 a2 true) else (if a2 < 0 then (laws_FnBefore.j0 k l0 a1 a2 true) else (if a1 ≥ (l0.length : Int) then (laws_FnBefore.j0 k l0 a1 a2 true) else (laws_FnBefore.j0 k l0 a1 a2 (decide (a2 ≥ (l0.length : Int))))))) else (laws_FnBefore.j0 k l0 a1 a2 true))) else (some false))) else (some true))
theorem laws_FnBefore.mono_l : ∀ k, (∀ y0 y1 y2 y3, LeO (laws_FnBefore.j0 k y0 y1 y2 y3) (laws_FnBefore.j0 (k + 1) y0 y1 y2 y3))
  | 0 => fun _ _ _ _ r h => by simp [laws_FnBefore.j0] at h
  | k + 1 => by
    have ih0 := laws_FnBefore.mono_l k
    · intro y0 y1 y2 y3
      unfold laws_FnBefore.j0
      repeat' first
      | (with_reducible exact ih0 _ _ _ _)
      | (with_reducible exact laws_typed.mono _ _)
      | (with_reducible exact laws_zzFits3.mono _ _)
      | (with_reducible exact LeO.refl _)
      | (with_reducible exact LeO.none _)
      | (with_reducible refine LeO.ite ?_ ?_)
      | (with_reducible refine LeO.bind ?_ (fun _ => ?_))
      | exact ih0 _ _ _ _
      | exact laws_typed.mono _ _
      | exact laws_zzFits3.mono _ _
      | exact LeO.none _
      | refine LeO.ite ?_ ?_
      | refine LeO.bind ?_ (fun _ => ?_)
theorem laws_FnBefore.mono : ∀ a0 a1 a2 k, LeO (laws_FnBefore.f k a0 a1 a2) (laws_FnBefore.f (k + 1) a0 a1 a2) := by
  intro a0 a1 a2 k
  have ih0 := laws_FnBefore.mono_l k
  unfold laws_FnBefore.f
  repeat' first
      | (with_reducible exact ih0 _ _ _ _)
      | (with_reducible exact laws_typed.mono _ _)
      | (with_reducible exact laws_zzFits3.mono _ _)
      | (with_reducible exact LeO.refl _)
      | (with_reducible exact LeO.none _)
      | (with_reducible refine LeO.ite ?_ ?_)
      | (with_reducible refine LeO.bind ?_ (fun _ => ?_))
      | exact ih0 _ _ _ _
      | exact laws_typed.mono _ _
      | exact laws_zzFits3.mono _ _
      | exact LeO.none _
      | refine LeO.ite ?_ ?_
      | refine LeO.bind ?_ (fun _ => ?_)
def laws_FnBefore.T7 : Bool × List (List Nat × List Nat) := (true, [([], []), ([], []), ([], []), ([0, 1, 2], [0, 1, 2]), ([], []), ([], []), ([4, 5], [4, 5]), ([6], [6]), ([], []), ([], []), ([8, 9], [8, 9]), ([10], [10]), ([7, 11, 3], [7, 11]), ([3, 12], [3, 12]), ([13, 12], [13]), ([14], [14]), ([14], [14]), ([15, 16, 14], [14, 15, 16]), ([17, 14], [14, 17]), ([14], [14]), ([14], [14]), ([19, 20, 14], [14, 19, 20]), ([21, 14], [14, 21]), ([18, 22, 14, 14], [14, 18, 22]), ([14], [14]), ([14], [14]), ([24, 25, 14], [14, 24, 25]), ([26, 14], [14, 26]), ([14], [14]), ([14], [14]), ([28, 29, 14], [14, 28, 29]), ([30, 14], [14, 30]), ([27, 31, 23, 14], [14, 27, 31]), ([32, 14], [14, 32]), ([23, 33, 14], [14, 23, 33]), ([14, 34], [14, 34]), ([35, 32, 0, 1, 2, 3, 4, 5, 6, 7, 8, 9, 10, 11, 12, 13, 14, 15, 16, 17, 18, 19, 20, 21, 22, 23, 24, 25, 26, 27, 28, 29, 30, 31, 32, 33, 34, 35], [35])])
def laws_FnBefore.B7 : List Nat := [0, 0, 0, 7, 0, 0, 48, 112, 0, 0, 768, 1792, 4095, 8191, 16383, 32767, 32767, 131071, 262143, 32767, 32767, 1605631, 3702783, 8388607, 32767, 32767, 50364415, 117473279, 32767, 32767, 805339135, 1879080959, 4294967295, 8589934591, 17179869183, 34359738367, 68719476735]
theorem laws_FnBefore.tab7 : rtab .any (opsOf Try.f5 7) = laws_FnBefore.T7 := by kernel_rfl
theorem laws_FnBefore.bits7 : waitsOk laws_FnBefore.T7.2 laws_FnBefore.B7 = true := by kernel_rfl
set_option maxHeartbeats 8000000 in
set_option maxRecDepth 100000 in
theorem laws_FnBefore.calls (k : Nat) (A0 : Option Addr) (c0 : Nat) (l0 : List (S37)) (a1 : Int) (a2 : Int) (r : Bool) (w : World) (hr0 : Kd.C k37 w A0 l0.length l0) (hc0 : l0.length ≤ c0) (h : laws_FnBefore.f k l0 a1 a2 = some r) :
    Calls Try.prog 5 #[.slice A0 l0.length c0, .int .i64 a1, .int .i64 a2] w fun e w' => e = .returned (.bool r) ∧ Below w.heap.size w w' := by
  have hu37 := Try.underlying37
  have HR0 := Aside0.mk hr0
  have HC0 := Aside0.mk hc0
  clear hr0 hc0
  have HB := Aside0.mk (Below.refl w.heap.size w)
  have H : ((laws_zzFits3.f k l0).bind fun t144 => (if t144 = true then ((impl_Before.f (([(⟨0, (⟨#[97]⟩ : ByteArray), (⟨#[]⟩ : ByteArray)⟩ : S37), (⟨0, (⟨#[98]⟩ : ByteArray), (⟨#[]⟩ : ByteArray)⟩ : S37)] : List (S37))) 0 1).bind fun t148 => (if t148 = true then ((laws_typed.f k l0).bind fun t149 => (if t149 = true then (if a1 < 0 then (laws_FnBefore.j0 k l0 a1 a2 true) else (if a2 < 0 then (laws_FnBefore.j0 k l0 a1 a2 true) else (if a1 ≥ (l0.length : Int) then (laws_FnBefore.j0 k l0 a1 a2 true) else (laws_FnBefore.j0 k l0 a1 a2 (decide (a2 ≥ (l0.length : Int))))))) else (laws_FnBefore.j0 k l0 a1 a2 true))) else (some false))) else (some true))) = some r := h
  clear h
  replace H := Option.bind_eq_some_iff.mp H
  obtain ⟨t144, A40, H⟩ := H
  replace H : (if t144 = true then ((impl_Before.f (([(⟨0, (⟨#[97]⟩ : ByteArray), (⟨#[]⟩ : ByteArray)⟩ : S37), (⟨0, (⟨#[98]⟩ : ByteArray), (⟨#[]⟩ : ByteArray)⟩ : S37)] : List (S37))) 0 1).bind fun t148 => (if t148 = true then ((laws_typed.f k l0).bind fun t149 => (if t149 = true then (if a1 < 0 then (laws_FnBefore.j0 k l0 a1 a2 true) else (if a2 < 0 then (laws_FnBefore.j0 k l0 a1 a2 true) else (if a1 ≥ (l0.length : Int) then (laws_FnBefore.j0 k l0 a1 a2 true) else (laws_FnBefore.j0 k l0 a1 a2 (decide (a2 ≥ (l0.length : Int))))))) else (laws_FnBefore.j0 k l0 a1 a2 true))) else (some false))) else (some true)) = some r := H
  have A4 := Aside0.mk A40
  clear A40
  by_cases c5 : t144 = true
  · subst c5
    have H1 : ((impl_Before.f (([(⟨0, (⟨#[97]⟩ : ByteArray), (⟨#[]⟩ : ByteArray)⟩ : S37), (⟨0, (⟨#[98]⟩ : ByteArray), (⟨#[]⟩ : ByteArray)⟩ : S37)] : List (S37))) 0 1).bind fun t148 => (if t148 = true then ((laws_typed.f k l0).bind fun t149 => (if t149 = true then (if a1 < 0 then (laws_FnBefore.j0 k l0 a1 a2 true) else (if a2 < 0 then (laws_FnBefore.j0 k l0 a1 a2 true) else (if a1 ≥ (l0.length : Int) then (laws_FnBefore.j0 k l0 a1 a2 true) else (laws_FnBefore.j0 k l0 a1 a2 (decide (a2 ≥ (l0.length : Int))))))) else (laws_FnBefore.j0 k l0 a1 a2 true))) else (some false))) = some r := by rw [if_pos rfl] at H; exact H
    clear H
    have H := H1
    clear H1
    obtain ⟨y145, hy145⟩ : ∃ y_ : List (S37), y_ = (([(⟨0, (⟨#[97]⟩ : ByteArray), (⟨#[]⟩ : ByteArray)⟩ : S37), (⟨0, (⟨#[98]⟩ : ByteArray), (⟨#[]⟩ : ByteArray)⟩ : S37)] : List (S37))) := ⟨_, rfl⟩
    replace H : ((impl_Before.f y145 0 1).bind fun t148 => (if t148 = true then ((laws_typed.f k l0).bind fun t149 => (if t149 = true then (if a1 < 0 then (laws_FnBefore.j0 k l0 a1 a2 true) else (if a2 < 0 then (laws_FnBefore.j0 k l0 a1 a2 true) else (if a1 ≥ (l0.length : Int) then (laws_FnBefore.j0 k l0 a1 a2 true) else (laws_FnBefore.j0 k l0 a1 a2 (decide (a2 ≥ (l0.length : Int))))))) else (laws_FnBefore.j0 k l0 a1 a2 true))) else (some false))) = some r := by first | (rw [hy145]; with_reducible exact H) | (have H2_ := (Option.bind_some _ _).symm.trans H; rw [hy145]; with_reducible exact H2_) | (have H2_ := (Option.bind_some _ _).symm.trans H; with_reducible exact H2_) | with_reducible exact H | (rw [hy145]; exact H) | exact H
    have Ny145 := Aside0.mk hy145
    clear hy145
    replace H := Option.bind_eq_some_iff.mp H
    obtain ⟨t148, A60, H⟩ := H
    replace H : (if t148 = true then ((laws_typed.f k l0).bind fun t149 => (if t149 = true then (if a1 < 0 then (laws_FnBefore.j0 k l0 a1 a2 true) else (if a2 < 0 then (laws_FnBefore.j0 k l0 a1 a2 true) else (if a1 ≥ (l0.length : Int) then (laws_FnBefore.j0 k l0 a1 a2 true) else (laws_FnBefore.j0 k l0 a1 a2 (decide (a2 ≥ (l0.length : Int))))))) else (laws_FnBefore.j0 k l0 a1 a2 true))) else (some false)) = some r := H
    have A6 := Aside0.mk A60
    clear A60
    by_cases c7 : t148 = true
    · subst c7
      have H1 : ((laws_typed.f k l0).bind fun t149 => (if t149 = true then (if a1 < 0 then (laws_FnBefore.j0 k l0 a1 a2 true) else (if a2 < 0 then (laws_FnBefore.j0 k l0 a1 a2 true) else (if a1 ≥ (l0.length : Int) then (laws_FnBefore.j0 k l0 a1 a2 true) else (laws_FnBefore.j0 k l0 a1 a2 (decide (a2 ≥ (l0.length : Int))))))) else (laws_FnBefore.j0 k l0 a1 a2 true))) = some r := by rw [if_pos rfl] at H; exact H
      clear H
      have H := H1
      clear H1
      have HC8 := Aside0.mk H
      clear H
      go_enter Try.func5, Try.ntmps5
      go_upto_region 5 with (first | ((with_reducible refine gate_callee (f := 21) rfl ?_); refine goesL_ (some 8) rfl rfl Try.func21 (by kernel_rfl) rfl #[.slice A0 l0.length c0] rfl (by (try simp only [List.map_toArray, List.map_cons, List.map_nil]); first | done | rfl | (simp only [List.length_drop, List.length_take]; rfl)) ?_; (with_reducible refine (laws_zzFits3.calls k _ _ l0 true _ ?side1 ?side2 A4.out).mono ?_); (case side1 => repeat (first | exact HR0.out | (with_reducible refine Kd.C_alloc ?_ _) | (with_reducible refine Kd.C_drewN ?_ _) | (with_reducible refine Kd.C_drew ?_))); (case side2 => exact HC0.out); rintro e w9 ⟨rfl, hb⟩; refine ⟨_, rfl, ?_⟩; have n0_ := Aside0.mk (below_step (by repeat (first | (with_reducible first | exact HB.out | apply below_alloc | apply pw_below_drewN | apply below_drew1) | exact HB.out)) hb); clear HB; have HB := n0_; clear n0_; (try clear hb); (try clear hb2); (try clear hk); (try clear hi)) | ((with_reducible refine gate_dst (N := 12) rfl ?_); (try (refine gate_guard (by rfl) ?_; dsimp only)); refine Kd.R_lit k37 _ 37 ?hg (N := 12) ?hd (xs := ([(⟨0, (⟨#[97]⟩ : ByteArray), (⟨#[]⟩ : ByteArray)⟩ : S37), (⟨0, (⟨#[98]⟩ : ByteArray), (⟨#[]⟩ : ByteArray)⟩ : S37)] : List (S37))) (inner := [.int .i64 0, .string (⟨#[97]⟩ : ByteArray), .string (⟨#[]⟩ : ByteArray), .int .i64 0, .string (⟨#[98]⟩ : ByteArray), .string (⟨#[]⟩ : ByteArray)]) (ok := fun _ => True) (okp := fun _ => True) ?hr ?hp (fun _ hk => hk) trivial (Below.refl _ _) (Nat.le_refl _) (by simp) ?_; (case hd => rfl); (case hg => rfl); (case hr => first | (go_simp; done) | (go_simp; rfl)); (case hp => exact (Reps.c3 (show Kd.M k37 _ _ _ (⟨0, (⟨#[97]⟩ : ByteArray), (⟨#[]⟩ : ByteArray)⟩ : S37) [.int .i64 0, .string (⟨#[97]⟩ : ByteArray), .string (⟨#[]⟩ : ByteArray)] from (k37_mkM _ _ _ (⟨0, (⟨#[97]⟩ : ByteArray), (⟨#[]⟩ : ByteArray)⟩ : S37) )) (Reps.c3 (show Kd.M k37 _ _ _ (⟨0, (⟨#[98]⟩ : ByteArray), (⟨#[]⟩ : ByteArray)⟩ : S37) [.int .i64 0, .string (⟨#[98]⟩ : ByteArray), .string (⟨#[]⟩ : ByteArray)] from (k37_mkM _ _ _ (⟨0, (⟨#[98]⟩ : ByteArray), (⟨#[]⟩ : ByteArray)⟩ : S37) )) (Reps.none _ _)))); intro v146 w10 ho11 hb hg_ hnew_; clear hg_ hnew_; (first | rw [← Ny145.out] at ho11 | (simp only [Int.reduceToNat] at ho11; rw [← Ny145.out] at ho11)); have n0_ := Aside0.mk (Kd.R_lower ho11 (below_size (by repeat (first | (with_reducible first | exact HB.out | apply below_alloc | apply pw_below_drewN | apply below_drew1) | exact HB.out)))); have n1_ := Aside0.mk (below_step (by repeat (first | (with_reducible first | exact HB.out | apply below_alloc | apply pw_below_drewN | apply below_drew1) | exact HB.out)) hb); clear HB; have HO147 := n0_; have HB := n1_; clear n0_ n1_; clear hb ho11; obtain ⟨Ao12, co12, eo12⟩ := Kd.R_slice HO147.out; subst eo12) | ((with_reducible refine gate_callee (f := 22) rfl ?_); refine goesL_ (some 13) rfl rfl Try.func22 (by kernel_rfl) rfl #[.slice Ao12 y145.length co12, .int .i64 0, .int .i64 1] rfl (by (try simp only [List.map_toArray, List.map_cons, List.map_nil]); first | done | rfl | (simp only [List.length_drop, List.length_take]; rfl)) ?_; (with_reducible refine (impl_Before.calls _ _ y145 0 1 true _ ?side1 ?side2 A6.out).mono ?_); (case side1 => repeat (first | exact (Kd.R_reads' HO147.out).2.2 | (with_reducible refine Kd.C_alloc ?_ _) | (with_reducible refine Kd.C_drewN ?_ _) | (with_reducible refine Kd.C_drew ?_))); (case side2 => exact (Kd.R_reads' HO147.out).2.1); rintro e w13 ⟨rfl, hb⟩; refine ⟨_, rfl, ?_⟩; have n0_ := Aside0.mk (Kd.R_below (by (with_reducible repeat (first | apply Kd.R_alloc | apply Kd.R_drewN | apply Kd.R_drew)); exact HO147.out) hb); have n1_ := Aside0.mk (below_step (by repeat (first | (with_reducible first | exact HB.out | apply below_alloc | apply pw_below_drewN | apply below_drew1) | exact HB.out)) hb); clear HO147; clear HB; have HO147 := n0_; have HB := n1_; clear n0_ n1_; (try clear hb); (try clear hb2); (try clear hk); (try clear hi)))
      (try simp only [Act.put, List.setIfInBounds_toArray, List.set_cons_zero, List.set_cons_succ])
      go_cut [37] (fun v37 wc => ∃ (kq : Nat) (x37_7 : Bool), v37 = .bool x37_7 ∧ Aside0 (laws_FnBefore.j0 kq l0 a1 a2 x37_7 = some r) ∧ Aside0 (kq ≤ k) ∧ Aside0 (Below w.heap.size w wc))
      case first =>
        have H := HC8.out
        clear HC8
        replace H := Option.bind_eq_some_iff.mp H
        obtain ⟨t149, A140, H⟩ := H
        replace H : (if t149 = true then (if a1 < 0 then (laws_FnBefore.j0 k l0 a1 a2 true) else (if a2 < 0 then (laws_FnBefore.j0 k l0 a1 a2 true) else (if a1 ≥ (l0.length : Int) then (laws_FnBefore.j0 k l0 a1 a2 true) else (laws_FnBefore.j0 k l0 a1 a2 (decide (a2 ≥ (l0.length : Int))))))) else (laws_FnBefore.j0 k l0 a1 a2 true)) = some r := H
        have A14 := Aside0.mk A140
        clear A140
        by_cases c15 : t149 = true
        · subst c15
          have H1 : (if a1 < 0 then (laws_FnBefore.j0 k l0 a1 a2 true) else (if a2 < 0 then (laws_FnBefore.j0 k l0 a1 a2 true) else (if a1 ≥ (l0.length : Int) then (laws_FnBefore.j0 k l0 a1 a2 true) else (laws_FnBefore.j0 k l0 a1 a2 (decide (a2 ≥ (l0.length : Int))))))) = some r := by rw [if_pos rfl] at H; exact H
          clear H
          have H := H1
          clear H1
          by_cases c16 : a1 < 0
          · rw [if_pos c16] at H
            have c16b0 : decide (a1 < 0) = true := decide_eq_true c16
            clear c16
            (first | rw [c16b0] | (simp only [i64_w, i32_w]; rw [c16b0]) | skip)
            have H' := Aside0.mk H
            clear H
            go_wp2_with (first | ((with_reducible refine gate_callee (f := 23) rfl ?_); refine goesL_ (some 16) rfl rfl Try.func23 (by kernel_rfl) rfl #[.slice A0 l0.length c0] rfl (by (try simp only [List.map_toArray, List.map_cons, List.map_nil]); first | done | rfl | (simp only [List.length_drop, List.length_take]; rfl)) ?_; (with_reducible refine (laws_typed.calls k _ _ l0 true _ ?side1 ?side2 A14.out).mono ?_); (case side1 => repeat (first | exact (Kd.C_below HR0.out HB.out) | (with_reducible refine Kd.C_alloc ?_ _) | (with_reducible refine Kd.C_drewN ?_ _) | (with_reducible refine Kd.C_drew ?_))); (case side2 => exact HC0.out); rintro e w17 ⟨rfl, hb⟩; refine ⟨_, rfl, ?_⟩; have n0_ := Aside0.mk (Kd.R_below (by (with_reducible repeat (first | apply Kd.R_alloc | apply Kd.R_drewN | apply Kd.R_drew)); exact HO147.out) hb); have n1_ := Aside0.mk (below_step (by repeat (first | (with_reducible first | exact HB.out | apply below_alloc | apply pw_below_drewN | apply below_drew1) | exact HB.out)) hb); clear HO147; clear HB; have HO147 := n0_; have HB := n1_; clear n0_ n1_; (try clear hb); (try clear hb2); (try clear hk); (try clear hi)))
            go_meet
            case rel => exact ⟨_, (true), (by first | rfl | (simp; done) | (simp [*]; done)), H', ⟨by first | omega | exact Nat.le_refl _⟩, ⟨by repeat (first | (with_reducible first | exact HB.out | apply below_alloc | apply pw_below_drewN | apply below_drew1) | exact HB.out)⟩⟩
          · rw [if_neg c16] at H
            have c16b0 : decide (a1 < 0) = false := decide_eq_false c16
            clear c16
            (first | rw [c16b0] | (simp only [i64_w, i32_w]; rw [c16b0]) | skip)
            by_cases c18 : a2 < 0
            · rw [if_pos c18] at H
              have c18b0 : decide (a2 < 0) = true := decide_eq_true c18
              clear c18
              have H' := Aside0.mk H
              clear H
              go_wp2_with (first | ((with_reducible refine gate_callee (f := 23) rfl ?_); refine goesL_ (some 16) rfl rfl Try.func23 (by kernel_rfl) rfl #[.slice A0 l0.length c0] rfl (by (try simp only [List.map_toArray, List.map_cons, List.map_nil]); first | done | rfl | (simp only [List.length_drop, List.length_take]; rfl)) ?_; (with_reducible refine (laws_typed.calls k _ _ l0 true _ ?side1 ?side2 A14.out).mono ?_); (case side1 => repeat (first | exact (Kd.C_below HR0.out HB.out) | (with_reducible refine Kd.C_alloc ?_ _) | (with_reducible refine Kd.C_drewN ?_ _) | (with_reducible refine Kd.C_drew ?_))); (case side2 => exact HC0.out); rintro e w19 ⟨rfl, hb⟩; refine ⟨_, rfl, ?_⟩; have n0_ := Aside0.mk (Kd.R_below (by (with_reducible repeat (first | apply Kd.R_alloc | apply Kd.R_drewN | apply Kd.R_drew)); exact HO147.out) hb); have n1_ := Aside0.mk (below_step (by repeat (first | (with_reducible first | exact HB.out | apply below_alloc | apply pw_below_drewN | apply below_drew1) | exact HB.out)) hb); clear HO147; clear HB; have HO147 := n0_; have HB := n1_; clear n0_ n1_; (try clear hb); (try clear hb2); (try clear hk); (try clear hi)))
              go_meet
              case rel => exact ⟨_, (true), (by first | rfl | (simp; done) | (simp [*]; done)), H', ⟨by first | omega | exact Nat.le_refl _⟩, ⟨by repeat (first | (with_reducible first | exact HB.out | apply below_alloc | apply pw_below_drewN | apply below_drew1) | exact HB.out)⟩⟩
            · rw [if_neg c18] at H
              have c18b0 : decide (a2 < 0) = false := decide_eq_false c18
              clear c18
              by_cases c20 : a1 ≥ (l0.length : Int)
              · rw [if_pos c20] at H
                have c20b0 : decide ((l0.length : Int) ≤ a1) = true := decide_eq_true c20
                clear c20
                have H' := Aside0.mk H
                clear H
                go_wp2_with (first | ((with_reducible refine gate_callee (f := 23) rfl ?_); refine goesL_ (some 16) rfl rfl Try.func23 (by kernel_rfl) rfl #[.slice A0 l0.length c0] rfl (by (try simp only [List.map_toArray, List.map_cons, List.map_nil]); first | done | rfl | (simp only [List.length_drop, List.length_take]; rfl)) ?_; (with_reducible refine (laws_typed.calls k _ _ l0 true _ ?side1 ?side2 A14.out).mono ?_); (case side1 => repeat (first | exact (Kd.C_below HR0.out HB.out) | (with_reducible refine Kd.C_alloc ?_ _) | (with_reducible refine Kd.C_drewN ?_ _) | (with_reducible refine Kd.C_drew ?_))); (case side2 => exact HC0.out); rintro e w21 ⟨rfl, hb⟩; refine ⟨_, rfl, ?_⟩; have n0_ := Aside0.mk (Kd.R_below (by (with_reducible repeat (first | apply Kd.R_alloc | apply Kd.R_drewN | apply Kd.R_drew)); exact HO147.out) hb); have n1_ := Aside0.mk (below_step (by repeat (first | (with_reducible first | exact HB.out | apply below_alloc | apply pw_below_drewN | apply below_drew1) | exact HB.out)) hb); clear HO147; clear HB; have HO147 := n0_; have HB := n1_; clear n0_ n1_; (try clear hb); (try clear hb2); (try clear hk); (try clear hi)))
                go_meet
                case rel => exact ⟨_, (true), (by first | rfl | (simp; done) | (simp [*]; done)), H', ⟨by first | omega | exact Nat.le_refl _⟩, ⟨by repeat (first | (with_reducible first | exact HB.out | apply below_alloc | apply pw_below_drewN | apply below_drew1) | exact HB.out)⟩⟩
              · rw [if_neg c20] at H
                have c20b0 : decide ((l0.length : Int) ≤ a1) = false := decide_eq_false c20
                clear c20
                have H' := Aside0.mk H
                clear H
                go_wp2_with (first | ((with_reducible refine gate_callee (f := 23) rfl ?_); refine goesL_ (some 16) rfl rfl Try.func23 (by kernel_rfl) rfl #[.slice A0 l0.length c0] rfl (by (try simp only [List.map_toArray, List.map_cons, List.map_nil]); first | done | rfl | (simp only [List.length_drop, List.length_take]; rfl)) ?_; (with_reducible refine (laws_typed.calls k _ _ l0 true _ ?side1 ?side2 A14.out).mono ?_); (case side1 => repeat (first | exact (Kd.C_below HR0.out HB.out) | (with_reducible refine Kd.C_alloc ?_ _) | (with_reducible refine Kd.C_drewN ?_ _) | (with_reducible refine Kd.C_drew ?_))); (case side2 => exact HC0.out); rintro e w22 ⟨rfl, hb⟩; refine ⟨_, rfl, ?_⟩; have n0_ := Aside0.mk (Kd.R_below (by (with_reducible repeat (first | apply Kd.R_alloc | apply Kd.R_drewN | apply Kd.R_drew)); exact HO147.out) hb); have n1_ := Aside0.mk (below_step (by repeat (first | (with_reducible first | exact HB.out | apply below_alloc | apply pw_below_drewN | apply below_drew1) | exact HB.out)) hb); clear HO147; clear HB; have HO147 := n0_; have HB := n1_; clear n0_ n1_; (try clear hb); (try clear hb2); (try clear hk); (try clear hi)))
                go_meet
                case rel => exact ⟨_, (decide (a2 ≥ (l0.length : Int))), (by first | rfl | (simp; done) | (simp [*]; done)), H', ⟨by first | omega | exact Nat.le_refl _⟩, ⟨by repeat (first | (with_reducible first | exact HB.out | apply below_alloc | apply pw_below_drewN | apply below_drew1) | exact HB.out)⟩⟩
        · replace c15 := Bool.eq_false_iff.mpr c15
          subst c15
          have H1 : (laws_FnBefore.j0 k l0 a1 a2 true) = some r := by rw [if_neg (show ¬ (false = true) by decide)] at H; exact H
          clear H
          have H := H1
          clear H1
          have H' := Aside0.mk H
          clear H
          go_wp2_with (first | ((with_reducible refine gate_callee (f := 23) rfl ?_); refine goesL_ (some 16) rfl rfl Try.func23 (by kernel_rfl) rfl #[.slice A0 l0.length c0] rfl (by (try simp only [List.map_toArray, List.map_cons, List.map_nil]); first | done | rfl | (simp only [List.length_drop, List.length_take]; rfl)) ?_; (with_reducible refine (laws_typed.calls k _ _ l0 false _ ?side1 ?side2 A14.out).mono ?_); (case side1 => repeat (first | exact (Kd.C_below HR0.out HB.out) | (with_reducible refine Kd.C_alloc ?_ _) | (with_reducible refine Kd.C_drewN ?_ _) | (with_reducible refine Kd.C_drew ?_))); (case side2 => exact HC0.out); rintro e w23 ⟨rfl, hb⟩; refine ⟨_, rfl, ?_⟩; have n0_ := Aside0.mk (Kd.R_below (by (with_reducible repeat (first | apply Kd.R_alloc | apply Kd.R_drewN | apply Kd.R_drew)); exact HO147.out) hb); have n1_ := Aside0.mk (below_step (by repeat (first | (with_reducible first | exact HB.out | apply below_alloc | apply pw_below_drewN | apply below_drew1) | exact HB.out)) hb); clear HO147; clear HB; have HO147 := n0_; have HB := n1_; clear n0_ n1_; (try clear hb); (try clear hb2); (try clear hk); (try clear hi)))
          go_meet
          case rel => exact ⟨_, (true), (by first | rfl | (simp; done) | (simp [*]; done)), H', ⟨by first | omega | exact Nat.le_refl _⟩, ⟨by repeat (first | (with_reducible first | exact HB.out | apply below_alloc | apply pw_below_drewN | apply below_drew1) | exact HB.out)⟩⟩
      case rest =>
        clear HC8
        try clear c1
        try clear c2
        try clear p2
        try clear c3
        try clear c5
        try clear c7
        try clear c15
        try clear c16
        try clear c16b0
        try clear c18
        try clear c18b0
        try clear c20
        try clear c20b0
        try clear c21
        try clear c22
        try clear c23
        obtain ⟨kq, x37_7, rfl, HA, HJ7, HB⟩ := hcut
        cases kq with
        | zero => exact absurd HA.out (by simp [laws_FnBefore.j0])
        | succ kj7 =>
          have H := HA.out
          clear HA
          simp only [laws_FnBefore.j0] at H
          by_cases c24 : x37_7 = true
          · subst c24
            have H1 : (some true) = some r := by rw [if_pos rfl] at H; exact H
            clear H
            have H := H1
            clear H1
            obtain rfl := Option.some.inj H
            go_wp2
            go_ret
            exact ⟨by first | rfl | (simp [errW_none, errW_some] <;> rfl) | (simp [*, errW_none, errW_some] <;> rfl), by repeat (first | (with_reducible first | exact HB.out | apply below_alloc | apply pw_below_drewN | apply below_drew1) | exact HB.out)⟩
          · replace c24 := Bool.eq_false_iff.mpr c24
            subst c24
            have H1 : ((impl_Before.f l0 a1 a2).bind fun t150 => (if 0 ≤ a1 then (if a1 < (l0.length : Int) then (if 0 ≤ a2 then (if a2 < (l0.length : Int) then ((laws_before.f ((rd_T37 l0 a1).f0) ((rd_T37 l0 a1).f1) ((rd_T37 l0 a1).f2) ((rd_T37 l0 a2).f0) ((rd_T37 l0 a2).f1) ((rd_T37 l0 a2).f2)).bind fun t153 => (if (t150 == t153) = true then ((laws_before.f ((rd_T37 l0 a1).f0) ((rd_T37 l0 a1).f1) ((rd_T37 l0 a1).f2) ((rd_T37 l0 a2).f0) ((rd_T37 l0 a2).f1) ((rd_T37 l0 a2).f2)).bind fun t156 => ((spec_Order.f ((rd_T37 l0 a1).f0) ((rd_T37 l0 a1).f1) ((rd_T37 l0 a1).f2) ((rd_T37 l0 a2).f0) ((rd_T37 l0 a2).f1) ((rd_T37 l0 a2).f2)).bind fun t159 => (some (t156 == (decide (t159 < 0)))))) else (some false))) else (none)) else (none)) else (none)) else (none))) = some r := by rw [if_neg (show ¬ (false = true) by decide)] at H; exact H
            clear H
            have H := H1
            clear H1
            replace H := Option.bind_eq_some_iff.mp H
            obtain ⟨t150, A250, H⟩ := H
            replace H : (if 0 ≤ a1 then (if a1 < (l0.length : Int) then (if 0 ≤ a2 then (if a2 < (l0.length : Int) then ((laws_before.f ((rd_T37 l0 a1).f0) ((rd_T37 l0 a1).f1) ((rd_T37 l0 a1).f2) ((rd_T37 l0 a2).f0) ((rd_T37 l0 a2).f1) ((rd_T37 l0 a2).f2)).bind fun t153 => (if (t150 == t153) = true then ((laws_before.f ((rd_T37 l0 a1).f0) ((rd_T37 l0 a1).f1) ((rd_T37 l0 a1).f2) ((rd_T37 l0 a2).f0) ((rd_T37 l0 a2).f1) ((rd_T37 l0 a2).f2)).bind fun t156 => ((spec_Order.f ((rd_T37 l0 a1).f0) ((rd_T37 l0 a1).f1) ((rd_T37 l0 a1).f2) ((rd_T37 l0 a2).f0) ((rd_T37 l0 a2).f1) ((rd_T37 l0 a2).f2)).bind fun t159 => (some (t156 == (decide (t159 < 0)))))) else (some false))) else (none)) else (none)) else (none)) else (none)) = some r := H
            have A25 := Aside0.mk A250
            clear A250
            by_cases c26 : 0 ≤ a1
            · rw [if_pos c26] at H
              have c26b0 : decide (0 ≤ a1) = true := decide_eq_true c26
              clear c26
              by_cases c27 : a1 < (l0.length : Int)
              · rw [if_pos c27] at H
                have c27b0 : decide (a1 < (l0.length : Int)) = true := decide_eq_true c27
                clear c27
                by_cases c28 : 0 ≤ a2
                · rw [if_pos c28] at H
                  have c28b0 : decide (0 ≤ a2) = true := decide_eq_true c28
                  clear c28
                  by_cases c29 : a2 < (l0.length : Int)
                  · rw [if_pos c29] at H
                    have c29b0 : decide (a2 < (l0.length : Int)) = true := decide_eq_true c29
                    clear c29
                    replace H := Option.bind_eq_some_iff.mp H
                    obtain ⟨t153, A300, H⟩ := H
                    replace H : (if (t150 == t153) = true then ((laws_before.f ((rd_T37 l0 a1).f0) ((rd_T37 l0 a1).f1) ((rd_T37 l0 a1).f2) ((rd_T37 l0 a2).f0) ((rd_T37 l0 a2).f1) ((rd_T37 l0 a2).f2)).bind fun t156 => ((spec_Order.f ((rd_T37 l0 a1).f0) ((rd_T37 l0 a1).f1) ((rd_T37 l0 a1).f2) ((rd_T37 l0 a2).f0) ((rd_T37 l0 a2).f1) ((rd_T37 l0 a2).f2)).bind fun t159 => (some (t156 == (decide (t159 < 0)))))) else (some false)) = some r := H
                    have A30 := Aside0.mk A300
                    clear A300
                    by_cases c31 : (t150 == t153) = true
                    · rw [if_pos c31] at H
                      have c31b0 : (t150 == t153) = true := c31
                      (try (have c31b1 : decide (t150 = t153) = true := by simpa using c31))
                      (try (have c31b2 : (t150 == t153) = true := by simpa using c31))
                      clear c31
                      replace H := Option.bind_eq_some_iff.mp H
                      obtain ⟨t156, A320, H⟩ := H
                      replace H : ((spec_Order.f ((rd_T37 l0 a1).f0) ((rd_T37 l0 a1).f1) ((rd_T37 l0 a1).f2) ((rd_T37 l0 a2).f0) ((rd_T37 l0 a2).f1) ((rd_T37 l0 a2).f2)).bind fun t159 => (some (t156 == (decide (t159 < 0))))) = some r := H
                      have A32 := Aside0.mk A320
                      clear A320
                      replace H := Option.bind_eq_some_iff.mp H
                      obtain ⟨t159, A330, H⟩ := H
                      replace H : (some (t156 == (decide (t159 < 0)))) = some r := H
                      have A33 := Aside0.mk A330
                      clear A330
                      obtain rfl := Option.some.inj H
                      try go_wp2
                      have n0_ := Aside0.mk (below_drew1 HB.out)
                      clear HB
                      have HB := n0_
                      clear n0_
                      have p151 : 0 ≤ (a1 : Int) := of_decide_eq_true (by first | (with_reducible assumption) | assumption)
                      have q151 : a1 < (l0.length : Int) := of_decide_eq_true (by first | (with_reducible assumption) | assumption)
                      obtain ⟨ad151, e151, hx151_0, hx151_1, hx151_2⟩ := at_T37 HR0.out a1 p151 q151
                      have hw151_2 := hx151_2
                      have hw151_1 := hx151_1
                      have hw151_0 := hx151_0
                      cases e151
                      replace hx151_0 := (HB.out.cell (World.block_lt_of_cell? w _ hx151_0)).trans hx151_0
                      replace hx151_1 := (HB.out.cell (World.block_lt_of_cell? w _ hx151_1)).trans hx151_1
                      replace hx151_2 := (HB.out.cell (World.block_lt_of_cell? w _ hx151_2)).trans hx151_2
                      replace p151 := eq_true p151
                      replace q151 := eq_true q151
                      have p152 : 0 ≤ (a2 : Int) := of_decide_eq_true (by first | (with_reducible assumption) | assumption)
                      have q152 : a2 < (l0.length : Int) := of_decide_eq_true (by first | (with_reducible assumption) | assumption)
                      obtain ⟨ad152, e152, hx152_0, hx152_1, hx152_2⟩ := at_T37 HR0.out a2 p152 q152
                      have hw152_2 := hx152_2
                      have hw152_1 := hx152_1
                      have hw152_0 := hx152_0
                      obtain rfl : ad151 = ad152 := (by injection e152)
                      replace hx152_0 := (HB.out.cell (World.block_lt_of_cell? w _ hx152_0)).trans hx152_0
                      replace hx152_1 := (HB.out.cell (World.block_lt_of_cell? w _ hx152_1)).trans hx152_1
                      replace hx152_2 := (HB.out.cell (World.block_lt_of_cell? w _ hx152_2)).trans hx152_2
                      replace p152 := eq_true p152
                      replace q152 := eq_true q152
                      have p154 : 0 ≤ (a1 : Int) := of_decide_eq_true (by first | (with_reducible assumption) | assumption)
                      have q154 : a1 < (l0.length : Int) := of_decide_eq_true (by first | (with_reducible assumption) | assumption)
                      obtain ⟨ad154, e154, hx154_0, hx154_1, hx154_2⟩ := at_T37 HR0.out a1 p154 q154
                      have hw154_2 := hx154_2
                      have hw154_1 := hx154_1
                      have hw154_0 := hx154_0
                      obtain rfl : ad151 = ad154 := (by injection e154)
                      replace hx154_0 := (HB.out.cell (World.block_lt_of_cell? w _ hx154_0)).trans hx154_0
                      replace hx154_1 := (HB.out.cell (World.block_lt_of_cell? w _ hx154_1)).trans hx154_1
                      replace hx154_2 := (HB.out.cell (World.block_lt_of_cell? w _ hx154_2)).trans hx154_2
                      replace p154 := eq_true p154
                      replace q154 := eq_true q154
                      have p155 : 0 ≤ (a2 : Int) := of_decide_eq_true (by first | (with_reducible assumption) | assumption)
                      have q155 : a2 < (l0.length : Int) := of_decide_eq_true (by first | (with_reducible assumption) | assumption)
                      obtain ⟨ad155, e155, hx155_0, hx155_1, hx155_2⟩ := at_T37 HR0.out a2 p155 q155
                      have hw155_2 := hx155_2
                      have hw155_1 := hx155_1
                      have hw155_0 := hx155_0
                      obtain rfl : ad151 = ad155 := (by injection e155)
                      replace hx155_0 := (HB.out.cell (World.block_lt_of_cell? w _ hx155_0)).trans hx155_0
                      replace hx155_1 := (HB.out.cell (World.block_lt_of_cell? w _ hx155_1)).trans hx155_1
                      replace hx155_2 := (HB.out.cell (World.block_lt_of_cell? w _ hx155_2)).trans hx155_2
                      replace p155 := eq_true p155
                      replace q155 := eq_true q155
                      have p157 : 0 ≤ (a1 : Int) := of_decide_eq_true (by first | (with_reducible assumption) | assumption)
                      have q157 : a1 < (l0.length : Int) := of_decide_eq_true (by first | (with_reducible assumption) | assumption)
                      obtain ⟨ad157, e157, hx157_0, hx157_1, hx157_2⟩ := at_T37 HR0.out a1 p157 q157
                      have hw157_2 := hx157_2
                      have hw157_1 := hx157_1
                      have hw157_0 := hx157_0
                      obtain rfl : ad151 = ad157 := (by injection e157)
                      replace hx157_0 := (HB.out.cell (World.block_lt_of_cell? w _ hx157_0)).trans hx157_0
                      replace hx157_1 := (HB.out.cell (World.block_lt_of_cell? w _ hx157_1)).trans hx157_1
                      replace hx157_2 := (HB.out.cell (World.block_lt_of_cell? w _ hx157_2)).trans hx157_2
                      replace p157 := eq_true p157
                      replace q157 := eq_true q157
                      have p158 : 0 ≤ (a2 : Int) := of_decide_eq_true (by first | (with_reducible assumption) | assumption)
                      have q158 : a2 < (l0.length : Int) := of_decide_eq_true (by first | (with_reducible assumption) | assumption)
                      obtain ⟨ad158, e158, hx158_0, hx158_1, hx158_2⟩ := at_T37 HR0.out a2 p158 q158
                      have hw158_2 := hx158_2
                      have hw158_1 := hx158_1
                      have hw158_0 := hx158_0
                      obtain rfl : ad151 = ad158 := (by injection e158)
                      replace hx158_0 := (HB.out.cell (World.block_lt_of_cell? w _ hx158_0)).trans hx158_0
                      replace hx158_1 := (HB.out.cell (World.block_lt_of_cell? w _ hx158_1)).trans hx158_1
                      replace hx158_2 := (HB.out.cell (World.block_lt_of_cell? w _ hx158_2)).trans hx158_2
                      replace p158 := eq_true p158
                      replace q158 := eq_true q158
                      refine start_ (n := 37) (S := fun w' => w'.cell? (ad151.add ((a1).toNat * 3)) = some (.int .i64 ((rd_T37 l0 a1).f0)) ∧ w'.cell? ⟨(ad151.add ((a1).toNat * 3)).block, (ad151.add ((a1).toNat * 3)).off + 1, none⟩ = some (.string ((rd_T37 l0 a1).f1)) ∧ w'.cell? ⟨(ad151.add ((a1).toNat * 3)).block, (ad151.add ((a1).toNat * 3)).off + 2, none⟩ = some (.string ((rd_T37 l0 a1).f2)) ∧ w'.cell? (ad151.add ((a2).toNat * 3)) = some (.int .i64 ((rd_T37 l0 a2).f0)) ∧ w'.cell? ⟨(ad151.add ((a2).toNat * 3)).block, (ad151.add ((a2).toNat * 3)).off + 1, none⟩ = some (.string ((rd_T37 l0 a2).f1)) ∧ w'.cell? ⟨(ad151.add ((a2).toNat * 3)).block, (ad151.add ((a2).toNat * 3)).off + 2, none⟩ = some (.string ((rd_T37 l0 a2).f2)) ∧ w'.cell? (ad151.add ((a1).toNat * 3)) = some (.int .i64 ((rd_T37 l0 a1).f0)) ∧ w'.cell? ⟨(ad151.add ((a1).toNat * 3)).block, (ad151.add ((a1).toNat * 3)).off + 1, none⟩ = some (.string ((rd_T37 l0 a1).f1)) ∧ w'.cell? ⟨(ad151.add ((a1).toNat * 3)).block, (ad151.add ((a1).toNat * 3)).off + 2, none⟩ = some (.string ((rd_T37 l0 a1).f2)) ∧ w'.cell? (ad151.add ((a2).toNat * 3)) = some (.int .i64 ((rd_T37 l0 a2).f0)) ∧ w'.cell? ⟨(ad151.add ((a2).toNat * 3)).block, (ad151.add ((a2).toNat * 3)).off + 1, none⟩ = some (.string ((rd_T37 l0 a2).f1)) ∧ w'.cell? ⟨(ad151.add ((a2).toNat * 3)).block, (ad151.add ((a2).toNat * 3)).off + 2, none⟩ = some (.string ((rd_T37 l0 a2).f2)) ∧ w'.cell? (ad151.add ((a1).toNat * 3)) = some (.int .i64 ((rd_T37 l0 a1).f0)) ∧ w'.cell? ⟨(ad151.add ((a1).toNat * 3)).block, (ad151.add ((a1).toNat * 3)).off + 1, none⟩ = some (.string ((rd_T37 l0 a1).f1)) ∧ w'.cell? ⟨(ad151.add ((a1).toNat * 3)).block, (ad151.add ((a1).toNat * 3)).off + 2, none⟩ = some (.string ((rd_T37 l0 a1).f2)) ∧ w'.cell? (ad151.add ((a2).toNat * 3)) = some (.int .i64 ((rd_T37 l0 a2).f0)) ∧ w'.cell? ⟨(ad151.add ((a2).toNat * 3)).block, (ad151.add ((a2).toNat * 3)).off + 1, none⟩ = some (.string ((rd_T37 l0 a2).f1)) ∧ w'.cell? ⟨(ad151.add ((a2).toNat * 3)).block, (ad151.add ((a2).toNat * 3)).off + 2, none⟩ = some (.string ((rd_T37 l0 a2).f2))) (ds := []) #[false, false, false, false, false, false, false, false, false, false, false, false, false, false, false, false, false, false, false, false, false, false, false, false, false, false, false, false, false, false, false, false, false, false, false, false, false] (by kernel_rfl) rfl rfl ⟨((HB.out.cell (World.block_lt_of_cell? w _ hw151_0)).trans hw151_0), ((HB.out.cell (World.block_lt_of_cell? w _ hw151_1)).trans hw151_1), ((HB.out.cell (World.block_lt_of_cell? w _ hw151_2)).trans hw151_2), ((HB.out.cell (World.block_lt_of_cell? w _ hw152_0)).trans hw152_0), ((HB.out.cell (World.block_lt_of_cell? w _ hw152_1)).trans hw152_1), ((HB.out.cell (World.block_lt_of_cell? w _ hw152_2)).trans hw152_2), ((HB.out.cell (World.block_lt_of_cell? w _ hw154_0)).trans hw154_0), ((HB.out.cell (World.block_lt_of_cell? w _ hw154_1)).trans hw154_1), ((HB.out.cell (World.block_lt_of_cell? w _ hw154_2)).trans hw154_2), ((HB.out.cell (World.block_lt_of_cell? w _ hw155_0)).trans hw155_0), ((HB.out.cell (World.block_lt_of_cell? w _ hw155_1)).trans hw155_1), ((HB.out.cell (World.block_lt_of_cell? w _ hw155_2)).trans hw155_2), ((HB.out.cell (World.block_lt_of_cell? w _ hw157_0)).trans hw157_0), ((HB.out.cell (World.block_lt_of_cell? w _ hw157_1)).trans hw157_1), ((HB.out.cell (World.block_lt_of_cell? w _ hw157_2)).trans hw157_2), ((HB.out.cell (World.block_lt_of_cell? w _ hw158_0)).trans hw158_0), ((HB.out.cell (World.block_lt_of_cell? w _ hw158_1)).trans hw158_1), ((HB.out.cell (World.block_lt_of_cell? w _ hw158_2)).trans hw158_2)⟩ (fun hHeld => ?_); refine with_tabW laws_FnBefore.tab7 laws_FnBefore.bits7 (fun HT_ HW_ => ?_)
                      generalize wc.drew = w34 at HB hx151_0 hx151_1 hx151_2 hx152_0 hx152_1 hx152_2 hx154_0 hx154_1 hx154_2 hx155_0 hx155_1 hx155_2 hx157_0 hx157_1 hx157_2 hx158_0 hx158_1 hx158_2 hHeld ⊢
                      refine pure_ (i := 0) (N := some 38) (v := ?_) (a' := ?_) #[true, false, false, false, false, false, false, false, false, false, false, false, false, false, false, false, false, false, false, false, false, false, false, false, false, false, false, false, false, false, false, false, false, false, false, false, false] rfl rfl (any_of HT_.out (by kernel_rfl)) (fun _ _ _ h => h) (Or.inl ⟨by rfl, ?_⟩) ?_ ?_
                      rotate_left
                      · intro w'
                        go_simp
                        with_reducible rfl
                      rotate_left
                      · simp only [Act.put, List.setIfInBounds_toArray, List.set_cons_zero, List.set_cons_succ, i64_w, i32_w]
                        rfl
                      refine pure_ (i := 1) (N := some 39) (v := ?_) (a' := ?_) #[true, true, false, false, false, false, false, false, false, false, false, false, false, false, false, false, false, false, false, false, false, false, false, false, false, false, false, false, false, false, false, false, false, false, false, false, false] rfl rfl (any_of HT_.out (by kernel_rfl)) (fun _ _ _ h => h) (Or.inl ⟨by rfl, ?_⟩) ?_ ?_
                      rotate_left
                      · intro w'
                        go_simp
                        with_reducible rfl
                      rotate_left
                      · simp only [Act.put, List.setIfInBounds_toArray, List.set_cons_zero, List.set_cons_succ, i64_w, i32_w]
                        rfl
                      refine pure_ (i := 2) (N := some 40) (v := ?_) (a' := ?_) #[true, true, true, false, false, false, false, false, false, false, false, false, false, false, false, false, false, false, false, false, false, false, false, false, false, false, false, false, false, false, false, false, false, false, false, false, false] rfl rfl (any_of HT_.out (by kernel_rfl)) (fun _ _ _ h => h) (Or.inl ⟨by rfl, ?_⟩) ?_ ?_
                      rotate_left
                      · intro w'
                        go_simp
                        with_reducible rfl
                      rotate_left
                      · simp only [Act.put, List.setIfInBounds_toArray, List.set_cons_zero, List.set_cons_succ, i64_w, i32_w]
                        rfl
                      refine pure_ (i := 4) (N := some 42) (v := ?_) (a' := ?_) #[true, true, true, false, true, false, false, false, false, false, false, false, false, false, false, false, false, false, false, false, false, false, false, false, false, false, false, false, false, false, false, false, false, false, false, false, false] rfl rfl (any_of HT_.out (by kernel_rfl)) (fun _ _ _ h => h) (Or.inl ⟨by rfl, ?_⟩) ?_ ?_
                      rotate_left
                      · intro w'
                        go_simp
                        with_reducible rfl
                      rotate_left
                      · simp only [Act.put, List.setIfInBounds_toArray, List.set_cons_zero, List.set_cons_succ, i64_w, i32_w]
                        rfl
                      refine pure_ (i := 5) (N := some 43) (v := ?_) (a' := ?_) #[true, true, true, false, true, true, false, false, false, false, false, false, false, false, false, false, false, false, false, false, false, false, false, false, false, false, false, false, false, false, false, false, false, false, false, false, false] rfl rfl (any_of HT_.out (by kernel_rfl)) (fun _ _ _ h => h) (Or.inl ⟨by rfl, ?_⟩) ?_ ?_
                      rotate_left
                      · intro w'
                        go_simp
                        with_reducible rfl
                      rotate_left
                      · simp only [Act.put, List.setIfInBounds_toArray, List.set_cons_zero, List.set_cons_succ, i64_w, i32_w]
                        rfl
                      refine pure_ (i := 6) (N := some 44) (v := ?_) (a' := ?_) #[true, true, true, false, true, true, true, false, false, false, false, false, false, false, false, false, false, false, false, false, false, false, false, false, false, false, false, false, false, false, false, false, false, false, false, false, false] rfl rfl (any_of HT_.out (by kernel_rfl)) (fun _ _ _ h => h) (Or.inl ⟨by rfl, ?_⟩) ?_ ?_
                      rotate_left
                      · intro w'
                        go_simp
                        with_reducible rfl
                      rotate_left
                      · simp only [Act.put, List.setIfInBounds_toArray, List.set_cons_zero, List.set_cons_succ, i64_w, i32_w]
                        rfl
                      refine pure_ (i := 8) (N := some 46) (v := ?_) (a' := ?_) #[true, true, true, false, true, true, true, false, true, false, false, false, false, false, false, false, false, false, false, false, false, false, false, false, false, false, false, false, false, false, false, false, false, false, false, false, false] rfl rfl (any_of HT_.out (by kernel_rfl)) (fun _ _ _ h => h) (Or.inl ⟨by rfl, ?_⟩) ?_ ?_
                      rotate_left
                      · intro w'
                        go_simp
                        with_reducible rfl
                      rotate_left
                      · simp only [Act.put, List.setIfInBounds_toArray, List.set_cons_zero, List.set_cons_succ, i64_w, i32_w]
                        rfl
                      refine pure_ (i := 9) (N := some 47) (v := ?_) (a' := ?_) #[true, true, true, false, true, true, true, false, true, true, false, false, false, false, false, false, false, false, false, false, false, false, false, false, false, false, false, false, false, false, false, false, false, false, false, false, false] rfl rfl (any_of HT_.out (by kernel_rfl)) (fun _ _ _ h => h) (Or.inl ⟨by rfl, ?_⟩) ?_ ?_
                      rotate_left
                      · intro w'
                        go_simp
                        with_reducible rfl
                      rotate_left
                      · simp only [Act.put, List.setIfInBounds_toArray, List.set_cons_zero, List.set_cons_succ, i64_w, i32_w]
                        rfl
                      refine pure_ (i := 10) (N := some 48) (v := ?_) (a' := ?_) #[true, true, true, false, true, true, true, false, true, true, true, false, false, false, false, false, false, false, false, false, false, false, false, false, false, false, false, false, false, false, false, false, false, false, false, false, false] rfl rfl (any_of HT_.out (by kernel_rfl)) (fun _ _ _ h => h) (Or.inl ⟨by rfl, ?_⟩) ?_ ?_
                      rotate_left
                      · intro w'
                        go_simp
                        with_reducible rfl
                      rotate_left
                      · simp only [Act.put, List.setIfInBounds_toArray, List.set_cons_zero, List.set_cons_succ, i64_w, i32_w]
                        rfl
                      refine take_ (i := 7) (N := some 45) (v := ?_) (a' := ?_) #[true, true, true, false, true, true, true, true, true, true, true, false, false, false, false, false, false, false, false, false, false, false, false, false, false, false, false, false, false, false, false, false, false, false, false, false, false] rfl rfl (take_ofW HT_.out HW_.out (by kernel_rfl)) (fun _ _ _ h => h) (Or.inl ⟨by rfl, ?_⟩) hHeld ?_ ?_
                      rotate_left
                      · rintro w' ⟨s0, s1, s2, s3, s4, s5, s6, s7, s8, s9, s10, s11, s12, s13, s14, s15, s16, s17⟩
                        go_simp
                        with_reducible rfl
                      rotate_left
                      · simp only [Act.put, List.setIfInBounds_toArray, List.set_cons_zero, List.set_cons_succ, i64_w, i32_w]
                        rfl
                      refine take_ (i := 11) (N := some 49) (v := ?_) (a' := ?_) #[true, true, true, false, true, true, true, true, true, true, true, true, false, false, false, false, false, false, false, false, false, false, false, false, false, false, false, false, false, false, false, false, false, false, false, false, false] rfl rfl (take_ofW HT_.out HW_.out (by kernel_rfl)) (fun _ _ _ h => h) (Or.inl ⟨by rfl, ?_⟩) hHeld ?_ ?_
                      rotate_left
                      · rintro w' ⟨s0, s1, s2, s3, s4, s5, s6, s7, s8, s9, s10, s11, s12, s13, s14, s15, s16, s17⟩
                        go_simp
                        with_reducible rfl
                      rotate_left
                      · simp only [Act.put, List.setIfInBounds_toArray, List.set_cons_zero, List.set_cons_succ, i64_w, i32_w]
                        rfl
                      refine one_ (i := 3) (N := some 41) #[true, true, true, true, true, true, true, true, true, true, true, true, false, false, false, false, false, false, false, false, false, false, false, false, false, false, false, false, false, false, false, false, false, false, false, false, false] rfl rfl (one_of HT_.out (by kernel_rfl)) (by decide) (fun K hK => ?_)
                      refine goes_ Try.func22 (by kernel_rfl) rfl #[.slice (some ad151) l0.length c0, .int .i64 a1, .int .i64 a2] (by rfl) rfl rfl (by (try simp only [List.map_toArray, List.map_cons, List.map_nil]); first | done | rfl | (simp only [List.length_drop, List.length_take]; rfl)) ?_
                      with_reducible refine (impl_Before.calls _ _ l0 a1 a2 t150 _ ?side1 ?side2 A25.out).mono ?_
                      (case side1 => repeat (first | exact (Kd.C_below HR0.out HB.out) | (with_reducible refine Kd.C_alloc ?_ _) | (with_reducible refine Kd.C_drewN ?_ _) | (with_reducible refine Kd.C_drew ?_)))
                      (case side2 => exact HC0.out)
                      rintro e w35 ⟨rfl, hb⟩
                      refine ⟨_, rfl, ?_⟩
                      have n0_ := Aside0.mk (below_step (by repeat (first | (with_reducible first | exact HB.out | apply below_alloc | apply pw_below_drewN | apply below_drew1) | exact HB.out)) hb)
                      clear HB
                      have HB := n0_
                      clear n0_
                      (try clear hb)
                      (try clear hb2)
                      (try clear hk)
                      (try clear hi)
                      refine hK.out _ _ ⟨((HB.out.cell (World.block_lt_of_cell? w _ hw151_0)).trans hw151_0), ((HB.out.cell (World.block_lt_of_cell? w _ hw151_1)).trans hw151_1), ((HB.out.cell (World.block_lt_of_cell? w _ hw151_2)).trans hw151_2), ((HB.out.cell (World.block_lt_of_cell? w _ hw152_0)).trans hw152_0), ((HB.out.cell (World.block_lt_of_cell? w _ hw152_1)).trans hw152_1), ((HB.out.cell (World.block_lt_of_cell? w _ hw152_2)).trans hw152_2), ((HB.out.cell (World.block_lt_of_cell? w _ hw154_0)).trans hw154_0), ((HB.out.cell (World.block_lt_of_cell? w _ hw154_1)).trans hw154_1), ((HB.out.cell (World.block_lt_of_cell? w _ hw154_2)).trans hw154_2), ((HB.out.cell (World.block_lt_of_cell? w _ hw155_0)).trans hw155_0), ((HB.out.cell (World.block_lt_of_cell? w _ hw155_1)).trans hw155_1), ((HB.out.cell (World.block_lt_of_cell? w _ hw155_2)).trans hw155_2), ((HB.out.cell (World.block_lt_of_cell? w _ hw157_0)).trans hw157_0), ((HB.out.cell (World.block_lt_of_cell? w _ hw157_1)).trans hw157_1), ((HB.out.cell (World.block_lt_of_cell? w _ hw157_2)).trans hw157_2), ((HB.out.cell (World.block_lt_of_cell? w _ hw158_0)).trans hw158_0), ((HB.out.cell (World.block_lt_of_cell? w _ hw158_1)).trans hw158_1), ((HB.out.cell (World.block_lt_of_cell? w _ hw158_2)).trans hw158_2)⟩ (fun hHeld => ?_)
                      clear hK K
                      refine norm_ (a' := ?_) ?_ ?_
                      rotate_left
                      · show Act.put _ (some 41) _ = _
                        simp only [Act.put, List.setIfInBounds_toArray, List.set_cons_zero, List.set_cons_succ, i64_w, i32_w]
                        rfl
                      refine one_ (i := 12) (N := some 50) #[true, true, true, true, true, true, true, true, true, true, true, true, true, false, false, false, false, false, false, false, false, false, false, false, false, false, false, false, false, false, false, false, false, false, false, false, false] rfl rfl (one_of HT_.out (by kernel_rfl)) (by decide) (fun K hK => ?_)
                      refine goes_ Try.func24 (by kernel_rfl) rfl #[.agg #[.int .i64 ((rd_T37 l0 a1).f0), .string ((rd_T37 l0 a1).f1), .string ((rd_T37 l0 a1).f2)], .agg #[.int .i64 ((rd_T37 l0 a2).f0), .string ((rd_T37 l0 a2).f1), .string ((rd_T37 l0 a2).f2)]] (by rfl) rfl rfl (by (try simp only [List.map_toArray, List.map_cons, List.map_nil]); first | done | rfl | (simp only [List.length_drop, List.length_take]; rfl)) ?_
                      with_reducible refine (laws_before.calls ((rd_T37 l0 a1).f0) ((rd_T37 l0 a1).f1) ((rd_T37 l0 a1).f2) ((rd_T37 l0 a2).f0) ((rd_T37 l0 a2).f1) ((rd_T37 l0 a2).f2) t153 _ A30.out).mono ?_
                      rintro e w36 ⟨rfl, hb⟩
                      refine ⟨_, rfl, ?_⟩
                      have n0_ := Aside0.mk (below_step (by repeat (first | (with_reducible first | exact HB.out | apply below_alloc | apply pw_below_drewN | apply below_drew1) | exact HB.out)) hb)
                      clear HB
                      have HB := n0_
                      clear n0_
                      (try clear hb)
                      (try clear hb2)
                      (try clear hk)
                      (try clear hi)
                      refine hK.out _ _ ⟨((HB.out.cell (World.block_lt_of_cell? w _ hw151_0)).trans hw151_0), ((HB.out.cell (World.block_lt_of_cell? w _ hw151_1)).trans hw151_1), ((HB.out.cell (World.block_lt_of_cell? w _ hw151_2)).trans hw151_2), ((HB.out.cell (World.block_lt_of_cell? w _ hw152_0)).trans hw152_0), ((HB.out.cell (World.block_lt_of_cell? w _ hw152_1)).trans hw152_1), ((HB.out.cell (World.block_lt_of_cell? w _ hw152_2)).trans hw152_2), ((HB.out.cell (World.block_lt_of_cell? w _ hw154_0)).trans hw154_0), ((HB.out.cell (World.block_lt_of_cell? w _ hw154_1)).trans hw154_1), ((HB.out.cell (World.block_lt_of_cell? w _ hw154_2)).trans hw154_2), ((HB.out.cell (World.block_lt_of_cell? w _ hw155_0)).trans hw155_0), ((HB.out.cell (World.block_lt_of_cell? w _ hw155_1)).trans hw155_1), ((HB.out.cell (World.block_lt_of_cell? w _ hw155_2)).trans hw155_2), ((HB.out.cell (World.block_lt_of_cell? w _ hw157_0)).trans hw157_0), ((HB.out.cell (World.block_lt_of_cell? w _ hw157_1)).trans hw157_1), ((HB.out.cell (World.block_lt_of_cell? w _ hw157_2)).trans hw157_2), ((HB.out.cell (World.block_lt_of_cell? w _ hw158_0)).trans hw158_0), ((HB.out.cell (World.block_lt_of_cell? w _ hw158_1)).trans hw158_1), ((HB.out.cell (World.block_lt_of_cell? w _ hw158_2)).trans hw158_2)⟩ (fun hHeld => ?_)
                      clear hK K
                      refine norm_ (a' := ?_) ?_ ?_
                      rotate_left
                      · show Act.put _ (some 50) _ = _
                        simp only [Act.put, List.setIfInBounds_toArray, List.set_cons_zero, List.set_cons_succ, i64_w, i32_w]
                        rfl
                      refine pure_ (i := 13) (N := some 51) (v := ?_) (a' := ?_) #[true, true, true, true, true, true, true, true, true, true, true, true, true, true, false, false, false, false, false, false, false, false, false, false, false, false, false, false, false, false, false, false, false, false, false, false, false] rfl rfl (any_of HT_.out (by kernel_rfl)) (fun _ _ _ h => h) (Or.inl ⟨by rfl, ?_⟩) ?_ ?_
                      rotate_left
                      · intro w'
                        go_simp
                        with_reducible rfl
                      rotate_left
                      · simp only [Act.put, List.setIfInBounds_toArray, List.set_cons_zero, List.set_cons_succ, i64_w, i32_w]
                        rfl
                      refine pure_ (i := 14) (N := some 52) (v := ?_) (a' := ?_) #[true, true, true, true, true, true, true, true, true, true, true, true, true, true, true, false, false, false, false, false, false, false, false, false, false, false, false, false, false, false, false, false, false, false, false, false, false] rfl rfl (any_of HT_.out (by kernel_rfl)) (fun _ _ _ h => h) (Or.inl ⟨by rfl, ?_⟩) ?_ ?_
                      rotate_left
                      · intro w'
                        go_simp
                        with_reducible rfl
                      rotate_left
                      · simp only [Act.put, List.setIfInBounds_toArray, List.set_cons_zero, List.set_cons_succ, i64_w, i32_w]
                        rfl
                      refine pure_ (i := 15) (N := some 53) (v := ?_) (a' := ?_) #[true, true, true, true, true, true, true, true, true, true, true, true, true, true, true, true, false, false, false, false, false, false, false, false, false, false, false, false, false, false, false, false, false, false, false, false, false] rfl rfl (any_of HT_.out (by kernel_rfl)) (fun _ _ _ h => h) (Or.inl ⟨by rfl, ?_⟩) ?_ ?_
                      rotate_left
                      · intro w'
                        go_simp
                        with_reducible rfl
                      rotate_left
                      · simp only [Act.put, List.setIfInBounds_toArray, List.set_cons_zero, List.set_cons_succ, i64_w, i32_w]
                        rfl
                      refine pure_ (i := 16) (N := some 54) (v := ?_) (a' := ?_) #[true, true, true, true, true, true, true, true, true, true, true, true, true, true, true, true, true, false, false, false, false, false, false, false, false, false, false, false, false, false, false, false, false, false, false, false, false] rfl rfl (any_of HT_.out (by kernel_rfl)) (fun _ _ _ h => h) (Or.inl ⟨by rfl, ?_⟩) ?_ ?_
                      rotate_left
                      · intro w'
                        go_simp
                        with_reducible rfl
                      rotate_left
                      · simp only [Act.put, List.setIfInBounds_toArray, List.set_cons_zero, List.set_cons_succ, i64_w, i32_w]
                        rfl
                      refine pure_ (i := 17) (N := some 55) (v := ?_) (a' := ?_) #[true, true, true, true, true, true, true, true, true, true, true, true, true, true, true, true, true, true, false, false, false, false, false, false, false, false, false, false, false, false, false, false, false, false, false, false, false] rfl rfl (any_of HT_.out (by kernel_rfl)) (fun _ _ _ h => h) (Or.inl ⟨by rfl, ?_⟩) ?_ ?_
                      rotate_left
                      · intro w'
                        go_simp
                        with_reducible rfl
                      rotate_left
                      · simp only [Act.put, List.setIfInBounds_toArray, List.set_cons_zero, List.set_cons_succ, i64_w, i32_w]
                        rfl
                      refine pure_ (i := 19) (N := some 57) (v := ?_) (a' := ?_) #[true, true, true, true, true, true, true, true, true, true, true, true, true, true, true, true, true, true, false, true, false, false, false, false, false, false, false, false, false, false, false, false, false, false, false, false, false] rfl rfl (any_of HT_.out (by kernel_rfl)) (fun _ _ _ h => h) (Or.inl ⟨by rfl, ?_⟩) ?_ ?_
                      rotate_left
                      · intro w'
                        go_simp
                        with_reducible rfl
                      rotate_left
                      · simp only [Act.put, List.setIfInBounds_toArray, List.set_cons_zero, List.set_cons_succ, i64_w, i32_w]
                        rfl
                      refine pure_ (i := 20) (N := some 58) (v := ?_) (a' := ?_) #[true, true, true, true, true, true, true, true, true, true, true, true, true, true, true, true, true, true, false, true, true, false, false, false, false, false, false, false, false, false, false, false, false, false, false, false, false] rfl rfl (any_of HT_.out (by kernel_rfl)) (fun _ _ _ h => h) (Or.inl ⟨by rfl, ?_⟩) ?_ ?_
                      rotate_left
                      · intro w'
                        go_simp
                        with_reducible rfl
                      rotate_left
                      · simp only [Act.put, List.setIfInBounds_toArray, List.set_cons_zero, List.set_cons_succ, i64_w, i32_w]
                        rfl
                      refine pure_ (i := 21) (N := some 59) (v := ?_) (a' := ?_) #[true, true, true, true, true, true, true, true, true, true, true, true, true, true, true, true, true, true, false, true, true, true, false, false, false, false, false, false, false, false, false, false, false, false, false, false, false] rfl rfl (any_of HT_.out (by kernel_rfl)) (fun _ _ _ h => h) (Or.inl ⟨by rfl, ?_⟩) ?_ ?_
                      rotate_left
                      · intro w'
                        go_simp
                        with_reducible rfl
                      rotate_left
                      · simp only [Act.put, List.setIfInBounds_toArray, List.set_cons_zero, List.set_cons_succ, i64_w, i32_w]
                        rfl
                      refine pure_ (i := 24) (N := some 62) (v := ?_) (a' := ?_) #[true, true, true, true, true, true, true, true, true, true, true, true, true, true, true, true, true, true, false, true, true, true, false, false, true, false, false, false, false, false, false, false, false, false, false, false, false] rfl rfl (any_of HT_.out (by kernel_rfl)) (fun _ _ _ h => h) (Or.inl ⟨by rfl, ?_⟩) ?_ ?_
                      rotate_left
                      · intro w'
                        go_simp
                        with_reducible rfl
                      rotate_left
                      · simp only [Act.put, List.setIfInBounds_toArray, List.set_cons_zero, List.set_cons_succ, i64_w, i32_w]
                        rfl
                      refine pure_ (i := 25) (N := some 63) (v := ?_) (a' := ?_) #[true, true, true, true, true, true, true, true, true, true, true, true, true, true, true, true, true, true, false, true, true, true, false, false, true, true, false, false, false, false, false, false, false, false, false, false, false] rfl rfl (any_of HT_.out (by kernel_rfl)) (fun _ _ _ h => h) (Or.inl ⟨by rfl, ?_⟩) ?_ ?_
                      rotate_left
                      · intro w'
                        go_simp
                        with_reducible rfl
                      rotate_left
                      · simp only [Act.put, List.setIfInBounds_toArray, List.set_cons_zero, List.set_cons_succ, i64_w, i32_w]
                        rfl
                      refine pure_ (i := 26) (N := some 64) (v := ?_) (a' := ?_) #[true, true, true, true, true, true, true, true, true, true, true, true, true, true, true, true, true, true, false, true, true, true, false, false, true, true, true, false, false, false, false, false, false, false, false, false, false] rfl rfl (any_of HT_.out (by kernel_rfl)) (fun _ _ _ h => h) (Or.inl ⟨by rfl, ?_⟩) ?_ ?_
                      rotate_left
                      · intro w'
                        go_simp
                        with_reducible rfl
                      rotate_left
                      · simp only [Act.put, List.setIfInBounds_toArray, List.set_cons_zero, List.set_cons_succ, i64_w, i32_w]
                        rfl
                      refine pure_ (i := 28) (N := some 66) (v := ?_) (a' := ?_) #[true, true, true, true, true, true, true, true, true, true, true, true, true, true, true, true, true, true, false, true, true, true, false, false, true, true, true, false, true, false, false, false, false, false, false, false, false] rfl rfl (any_of HT_.out (by kernel_rfl)) (fun _ _ _ h => h) (Or.inl ⟨by rfl, ?_⟩) ?_ ?_
                      rotate_left
                      · intro w'
                        go_simp
                        with_reducible rfl
                      rotate_left
                      · simp only [Act.put, List.setIfInBounds_toArray, List.set_cons_zero, List.set_cons_succ, i64_w, i32_w]
                        rfl
                      refine pure_ (i := 29) (N := some 67) (v := ?_) (a' := ?_) #[true, true, true, true, true, true, true, true, true, true, true, true, true, true, true, true, true, true, false, true, true, true, false, false, true, true, true, false, true, true, false, false, false, false, false, false, false] rfl rfl (any_of HT_.out (by kernel_rfl)) (fun _ _ _ h => h) (Or.inl ⟨by rfl, ?_⟩) ?_ ?_
                      rotate_left
                      · intro w'
                        go_simp
                        with_reducible rfl
                      rotate_left
                      · simp only [Act.put, List.setIfInBounds_toArray, List.set_cons_zero, List.set_cons_succ, i64_w, i32_w]
                        rfl
                      refine pure_ (i := 30) (N := some 68) (v := ?_) (a' := ?_) #[true, true, true, true, true, true, true, true, true, true, true, true, true, true, true, true, true, true, false, true, true, true, false, false, true, true, true, false, true, true, true, false, false, false, false, false, false] rfl rfl (any_of HT_.out (by kernel_rfl)) (fun _ _ _ h => h) (Or.inl ⟨by rfl, ?_⟩) ?_ ?_
                      rotate_left
                      · intro w'
                        go_simp
                        with_reducible rfl
                      rotate_left
                      · simp only [Act.put, List.setIfInBounds_toArray, List.set_cons_zero, List.set_cons_succ, i64_w, i32_w]
                        rfl
                      refine take_ (i := 18) (N := some 56) (v := ?_) (a' := ?_) #[true, true, true, true, true, true, true, true, true, true, true, true, true, true, true, true, true, true, true, true, true, true, false, false, true, true, true, false, true, true, true, false, false, false, false, false, false] rfl rfl (take_ofW HT_.out HW_.out (by kernel_rfl)) (fun _ _ _ h => h) (Or.inl ⟨by rfl, ?_⟩) hHeld ?_ ?_
                      rotate_left
                      · rintro w' ⟨s0, s1, s2, s3, s4, s5, s6, s7, s8, s9, s10, s11, s12, s13, s14, s15, s16, s17⟩
                        go_simp
                        with_reducible rfl
                      rotate_left
                      · simp only [Act.put, List.setIfInBounds_toArray, List.set_cons_zero, List.set_cons_succ, i64_w, i32_w]
                        rfl
                      refine take_ (i := 22) (N := some 60) (v := ?_) (a' := ?_) #[true, true, true, true, true, true, true, true, true, true, true, true, true, true, true, true, true, true, true, true, true, true, true, false, true, true, true, false, true, true, true, false, false, false, false, false, false] rfl rfl (take_ofW HT_.out HW_.out (by kernel_rfl)) (fun _ _ _ h => h) (Or.inl ⟨by rfl, ?_⟩) hHeld ?_ ?_
                      rotate_left
                      · rintro w' ⟨s0, s1, s2, s3, s4, s5, s6, s7, s8, s9, s10, s11, s12, s13, s14, s15, s16, s17⟩
                        go_simp
                        with_reducible rfl
                      rotate_left
                      · simp only [Act.put, List.setIfInBounds_toArray, List.set_cons_zero, List.set_cons_succ, i64_w, i32_w]
                        rfl
                      refine take_ (i := 27) (N := some 65) (v := ?_) (a' := ?_) #[true, true, true, true, true, true, true, true, true, true, true, true, true, true, true, true, true, true, true, true, true, true, true, false, true, true, true, true, true, true, true, false, false, false, false, false, false] rfl rfl (take_ofW HT_.out HW_.out (by kernel_rfl)) (fun _ _ _ h => h) (Or.inl ⟨by rfl, ?_⟩) hHeld ?_ ?_
                      rotate_left
                      · rintro w' ⟨s0, s1, s2, s3, s4, s5, s6, s7, s8, s9, s10, s11, s12, s13, s14, s15, s16, s17⟩
                        go_simp
                        with_reducible rfl
                      rotate_left
                      · simp only [Act.put, List.setIfInBounds_toArray, List.set_cons_zero, List.set_cons_succ, i64_w, i32_w]
                        rfl
                      refine take_ (i := 31) (N := some 69) (v := ?_) (a' := ?_) #[true, true, true, true, true, true, true, true, true, true, true, true, true, true, true, true, true, true, true, true, true, true, true, false, true, true, true, true, true, true, true, true, false, false, false, false, false] rfl rfl (take_ofW HT_.out HW_.out (by kernel_rfl)) (fun _ _ _ h => h) (Or.inl ⟨by rfl, ?_⟩) hHeld ?_ ?_
                      rotate_left
                      · rintro w' ⟨s0, s1, s2, s3, s4, s5, s6, s7, s8, s9, s10, s11, s12, s13, s14, s15, s16, s17⟩
                        go_simp
                        with_reducible rfl
                      rotate_left
                      · simp only [Act.put, List.setIfInBounds_toArray, List.set_cons_zero, List.set_cons_succ, i64_w, i32_w]
                        rfl
                      refine one_ (i := 23) (N := some 61) #[true, true, true, true, true, true, true, true, true, true, true, true, true, true, true, true, true, true, true, true, true, true, true, true, true, true, true, true, true, true, true, true, false, false, false, false, false] rfl rfl (one_of HT_.out (by kernel_rfl)) (by decide) (fun K hK => ?_)
                      refine goes_ Try.func24 (by kernel_rfl) rfl #[.agg #[.int .i64 ((rd_T37 l0 a1).f0), .string ((rd_T37 l0 a1).f1), .string ((rd_T37 l0 a1).f2)], .agg #[.int .i64 ((rd_T37 l0 a2).f0), .string ((rd_T37 l0 a2).f1), .string ((rd_T37 l0 a2).f2)]] (by rfl) rfl rfl (by (try simp only [List.map_toArray, List.map_cons, List.map_nil]); first | done | rfl | (simp only [List.length_drop, List.length_take]; rfl)) ?_
                      with_reducible refine (laws_before.calls ((rd_T37 l0 a1).f0) ((rd_T37 l0 a1).f1) ((rd_T37 l0 a1).f2) ((rd_T37 l0 a2).f0) ((rd_T37 l0 a2).f1) ((rd_T37 l0 a2).f2) t156 _ A32.out).mono ?_
                      rintro e w37 ⟨rfl, hb⟩
                      refine ⟨_, rfl, ?_⟩
                      have n0_ := Aside0.mk (below_step (by repeat (first | (with_reducible first | exact HB.out | apply below_alloc | apply pw_below_drewN | apply below_drew1) | exact HB.out)) hb)
                      clear HB
                      have HB := n0_
                      clear n0_
                      (try clear hb)
                      (try clear hb2)
                      (try clear hk)
                      (try clear hi)
                      refine hK.out _ _ ⟨((HB.out.cell (World.block_lt_of_cell? w _ hw151_0)).trans hw151_0), ((HB.out.cell (World.block_lt_of_cell? w _ hw151_1)).trans hw151_1), ((HB.out.cell (World.block_lt_of_cell? w _ hw151_2)).trans hw151_2), ((HB.out.cell (World.block_lt_of_cell? w _ hw152_0)).trans hw152_0), ((HB.out.cell (World.block_lt_of_cell? w _ hw152_1)).trans hw152_1), ((HB.out.cell (World.block_lt_of_cell? w _ hw152_2)).trans hw152_2), ((HB.out.cell (World.block_lt_of_cell? w _ hw154_0)).trans hw154_0), ((HB.out.cell (World.block_lt_of_cell? w _ hw154_1)).trans hw154_1), ((HB.out.cell (World.block_lt_of_cell? w _ hw154_2)).trans hw154_2), ((HB.out.cell (World.block_lt_of_cell? w _ hw155_0)).trans hw155_0), ((HB.out.cell (World.block_lt_of_cell? w _ hw155_1)).trans hw155_1), ((HB.out.cell (World.block_lt_of_cell? w _ hw155_2)).trans hw155_2), ((HB.out.cell (World.block_lt_of_cell? w _ hw157_0)).trans hw157_0), ((HB.out.cell (World.block_lt_of_cell? w _ hw157_1)).trans hw157_1), ((HB.out.cell (World.block_lt_of_cell? w _ hw157_2)).trans hw157_2), ((HB.out.cell (World.block_lt_of_cell? w _ hw158_0)).trans hw158_0), ((HB.out.cell (World.block_lt_of_cell? w _ hw158_1)).trans hw158_1), ((HB.out.cell (World.block_lt_of_cell? w _ hw158_2)).trans hw158_2)⟩ (fun hHeld => ?_)
                      clear hK K
                      refine norm_ (a' := ?_) ?_ ?_
                      rotate_left
                      · show Act.put _ (some 61) _ = _
                        simp only [Act.put, List.setIfInBounds_toArray, List.set_cons_zero, List.set_cons_succ, i64_w, i32_w]
                        rfl
                      refine one_ (i := 32) (N := some 70) #[true, true, true, true, true, true, true, true, true, true, true, true, true, true, true, true, true, true, true, true, true, true, true, true, true, true, true, true, true, true, true, true, true, false, false, false, false] rfl rfl (one_of HT_.out (by kernel_rfl)) (by decide) (fun K hK => ?_)
                      refine goes_ Try.func25 (by kernel_rfl) rfl #[.agg #[.int .i64 ((rd_T37 l0 a1).f0), .string ((rd_T37 l0 a1).f1), .string ((rd_T37 l0 a1).f2)], .agg #[.int .i64 ((rd_T37 l0 a2).f0), .string ((rd_T37 l0 a2).f1), .string ((rd_T37 l0 a2).f2)]] (by rfl) rfl rfl (by (try simp only [List.map_toArray, List.map_cons, List.map_nil]); first | done | rfl | (simp only [List.length_drop, List.length_take]; rfl)) ?_
                      with_reducible refine (spec_Order.calls ((rd_T37 l0 a1).f0) ((rd_T37 l0 a1).f1) ((rd_T37 l0 a1).f2) ((rd_T37 l0 a2).f0) ((rd_T37 l0 a2).f1) ((rd_T37 l0 a2).f2) t159 _ A33.out).mono ?_
                      rintro e w38 ⟨rfl, hb⟩
                      refine ⟨_, rfl, ?_⟩
                      have n0_ := Aside0.mk (below_step (by repeat (first | (with_reducible first | exact HB.out | apply below_alloc | apply pw_below_drewN | apply below_drew1) | exact HB.out)) hb)
                      clear HB
                      have HB := n0_
                      clear n0_
                      (try clear hb)
                      (try clear hb2)
                      (try clear hk)
                      (try clear hi)
                      refine hK.out _ _ ⟨((HB.out.cell (World.block_lt_of_cell? w _ hw151_0)).trans hw151_0), ((HB.out.cell (World.block_lt_of_cell? w _ hw151_1)).trans hw151_1), ((HB.out.cell (World.block_lt_of_cell? w _ hw151_2)).trans hw151_2), ((HB.out.cell (World.block_lt_of_cell? w _ hw152_0)).trans hw152_0), ((HB.out.cell (World.block_lt_of_cell? w _ hw152_1)).trans hw152_1), ((HB.out.cell (World.block_lt_of_cell? w _ hw152_2)).trans hw152_2), ((HB.out.cell (World.block_lt_of_cell? w _ hw154_0)).trans hw154_0), ((HB.out.cell (World.block_lt_of_cell? w _ hw154_1)).trans hw154_1), ((HB.out.cell (World.block_lt_of_cell? w _ hw154_2)).trans hw154_2), ((HB.out.cell (World.block_lt_of_cell? w _ hw155_0)).trans hw155_0), ((HB.out.cell (World.block_lt_of_cell? w _ hw155_1)).trans hw155_1), ((HB.out.cell (World.block_lt_of_cell? w _ hw155_2)).trans hw155_2), ((HB.out.cell (World.block_lt_of_cell? w _ hw157_0)).trans hw157_0), ((HB.out.cell (World.block_lt_of_cell? w _ hw157_1)).trans hw157_1), ((HB.out.cell (World.block_lt_of_cell? w _ hw157_2)).trans hw157_2), ((HB.out.cell (World.block_lt_of_cell? w _ hw158_0)).trans hw158_0), ((HB.out.cell (World.block_lt_of_cell? w _ hw158_1)).trans hw158_1), ((HB.out.cell (World.block_lt_of_cell? w _ hw158_2)).trans hw158_2)⟩ (fun hHeld => ?_)
                      clear hK K
                      refine norm_ (a' := ?_) ?_ ?_
                      rotate_left
                      · show Act.put _ (some 70) _ = _
                        simp only [Act.put, List.setIfInBounds_toArray, List.set_cons_zero, List.set_cons_succ, i64_w, i32_w]
                        rfl
                      refine pure_ (i := 33) (N := some 71) (v := ?_) (a' := ?_) #[true, true, true, true, true, true, true, true, true, true, true, true, true, true, true, true, true, true, true, true, true, true, true, true, true, true, true, true, true, true, true, true, true, true, false, false, false] rfl rfl (any_of HT_.out (by kernel_rfl)) (fun _ _ _ h => h) (Or.inl ⟨by rfl, ?_⟩) ?_ ?_
                      rotate_left
                      · intro w'
                        go_simp
                        with_reducible rfl
                      rotate_left
                      · simp only [Act.put, List.setIfInBounds_toArray, List.set_cons_zero, List.set_cons_succ, i64_w, i32_w]
                        rfl
                      refine pure_ (i := 34) (N := some 72) (v := ?_) (a' := ?_) #[true, true, true, true, true, true, true, true, true, true, true, true, true, true, true, true, true, true, true, true, true, true, true, true, true, true, true, true, true, true, true, true, true, true, true, false, false] rfl rfl (any_of HT_.out (by kernel_rfl)) (fun _ _ _ h => h) (Or.inl ⟨by rfl, ?_⟩) ?_ ?_
                      rotate_left
                      · intro w'
                        go_simp
                        with_reducible rfl
                      rotate_left
                      · simp only [Act.put, List.setIfInBounds_toArray, List.set_cons_zero, List.set_cons_succ, i64_w, i32_w]
                        rfl
                      refine pure_ (i := 35) (N := some 73) (v := ?_) (a' := ?_) #[true, true, true, true, true, true, true, true, true, true, true, true, true, true, true, true, true, true, true, true, true, true, true, true, true, true, true, true, true, true, true, true, true, true, true, true, false] rfl rfl (any_of HT_.out (by kernel_rfl)) (fun _ _ _ h => h) (Or.inl ⟨by rfl, ?_⟩) ?_ ?_
                      rotate_left
                      · intro w'
                        go_simp
                        with_reducible rfl
                      rotate_left
                      · simp only [Act.put, List.setIfInBounds_toArray, List.set_cons_zero, List.set_cons_succ, i64_w, i32_w]
                        rfl
                      refine pure_ (i := 36) (N := some 6) (v := ?_) (a' := ?_) #[true, true, true, true, true, true, true, true, true, true, true, true, true, true, true, true, true, true, true, true, true, true, true, true, true, true, true, true, true, true, true, true, true, true, true, true, true] rfl rfl (any_of HT_.out (by kernel_rfl)) (fun _ _ _ h => h) (Or.inl ⟨by rfl, ?_⟩) ?_ ?_
                      rotate_left
                      · intro w'
                        go_simp
                        with_reducible rfl
                      rotate_left
                      · simp only [Act.put, List.setIfInBounds_toArray, List.set_cons_zero, List.set_cons_succ, i64_w, i32_w]
                        rfl
                      refine done_ (done_of HT_.out (by kernel_rfl)) ?_
                      try go_wp2
                      go_ret
                      exact ⟨by first | rfl | (simp [errW_none, errW_some] <;> rfl) | (simp [*, errW_none, errW_some] <;> rfl), by repeat (first | (with_reducible first | exact HB.out | apply below_alloc | apply pw_below_drewN | apply below_drew1) | exact HB.out)⟩
                    · rw [if_neg c31] at H
                      have c31b0 : (t150 == t153) = false := by simpa using c31
                      (try (have c31b1 : decide (t150 = t153) = false := by simpa using c31))
                      (try (have c31b2 : (t150 == t153) = false := by simpa using c31))
                      (try (have c31b3 : ¬ (t150 = t153) := by simpa using c31))
                      clear c31
                      obtain rfl := Option.some.inj H
                      try go_wp2
                      have n0_ := Aside0.mk (below_drew1 HB.out)
                      clear HB
                      have HB := n0_
                      clear n0_
                      have p151 : 0 ≤ (a1 : Int) := of_decide_eq_true (by first | (with_reducible assumption) | assumption)
                      have q151 : a1 < (l0.length : Int) := of_decide_eq_true (by first | (with_reducible assumption) | assumption)
                      obtain ⟨ad151, e151, hx151_0, hx151_1, hx151_2⟩ := at_T37 HR0.out a1 p151 q151
                      have hw151_2 := hx151_2
                      have hw151_1 := hx151_1
                      have hw151_0 := hx151_0
                      cases e151
                      replace hx151_0 := (HB.out.cell (World.block_lt_of_cell? w _ hx151_0)).trans hx151_0
                      replace hx151_1 := (HB.out.cell (World.block_lt_of_cell? w _ hx151_1)).trans hx151_1
                      replace hx151_2 := (HB.out.cell (World.block_lt_of_cell? w _ hx151_2)).trans hx151_2
                      replace p151 := eq_true p151
                      replace q151 := eq_true q151
                      have p152 : 0 ≤ (a2 : Int) := of_decide_eq_true (by first | (with_reducible assumption) | assumption)
                      have q152 : a2 < (l0.length : Int) := of_decide_eq_true (by first | (with_reducible assumption) | assumption)
                      obtain ⟨ad152, e152, hx152_0, hx152_1, hx152_2⟩ := at_T37 HR0.out a2 p152 q152
                      have hw152_2 := hx152_2
                      have hw152_1 := hx152_1
                      have hw152_0 := hx152_0
                      obtain rfl : ad151 = ad152 := (by injection e152)
                      replace hx152_0 := (HB.out.cell (World.block_lt_of_cell? w _ hx152_0)).trans hx152_0
                      replace hx152_1 := (HB.out.cell (World.block_lt_of_cell? w _ hx152_1)).trans hx152_1
                      replace hx152_2 := (HB.out.cell (World.block_lt_of_cell? w _ hx152_2)).trans hx152_2
                      replace p152 := eq_true p152
                      replace q152 := eq_true q152
                      refine start_ (n := 37) (S := fun w' => w'.cell? (ad151.add ((a1).toNat * 3)) = some (.int .i64 ((rd_T37 l0 a1).f0)) ∧ w'.cell? ⟨(ad151.add ((a1).toNat * 3)).block, (ad151.add ((a1).toNat * 3)).off + 1, none⟩ = some (.string ((rd_T37 l0 a1).f1)) ∧ w'.cell? ⟨(ad151.add ((a1).toNat * 3)).block, (ad151.add ((a1).toNat * 3)).off + 2, none⟩ = some (.string ((rd_T37 l0 a1).f2)) ∧ w'.cell? (ad151.add ((a2).toNat * 3)) = some (.int .i64 ((rd_T37 l0 a2).f0)) ∧ w'.cell? ⟨(ad151.add ((a2).toNat * 3)).block, (ad151.add ((a2).toNat * 3)).off + 1, none⟩ = some (.string ((rd_T37 l0 a2).f1)) ∧ w'.cell? ⟨(ad151.add ((a2).toNat * 3)).block, (ad151.add ((a2).toNat * 3)).off + 2, none⟩ = some (.string ((rd_T37 l0 a2).f2))) (ds := []) #[false, false, false, false, false, false, false, false, false, false, false, false, false, false, false, false, false, false, false, false, false, false, false, false, false, false, false, false, false, false, false, false, false, false, false, false, false] (by kernel_rfl) rfl rfl ⟨((HB.out.cell (World.block_lt_of_cell? w _ hw151_0)).trans hw151_0), ((HB.out.cell (World.block_lt_of_cell? w _ hw151_1)).trans hw151_1), ((HB.out.cell (World.block_lt_of_cell? w _ hw151_2)).trans hw151_2), ((HB.out.cell (World.block_lt_of_cell? w _ hw152_0)).trans hw152_0), ((HB.out.cell (World.block_lt_of_cell? w _ hw152_1)).trans hw152_1), ((HB.out.cell (World.block_lt_of_cell? w _ hw152_2)).trans hw152_2)⟩ (fun hHeld => ?_); refine with_tabW laws_FnBefore.tab7 laws_FnBefore.bits7 (fun HT_ HW_ => ?_)
                      generalize wc.drew = w39 at HB hx151_0 hx151_1 hx151_2 hx152_0 hx152_1 hx152_2 hHeld ⊢
                      refine pure_ (i := 0) (N := some 38) (v := ?_) (a' := ?_) #[true, false, false, false, false, false, false, false, false, false, false, false, false, false, false, false, false, false, false, false, false, false, false, false, false, false, false, false, false, false, false, false, false, false, false, false, false] rfl rfl (any_of HT_.out (by kernel_rfl)) (fun _ _ _ h => h) (Or.inl ⟨by rfl, ?_⟩) ?_ ?_
                      rotate_left
                      · intro w'
                        go_simp
                        with_reducible rfl
                      rotate_left
                      · simp only [Act.put, List.setIfInBounds_toArray, List.set_cons_zero, List.set_cons_succ, i64_w, i32_w]
                        rfl
                      refine pure_ (i := 1) (N := some 39) (v := ?_) (a' := ?_) #[true, true, false, false, false, false, false, false, false, false, false, false, false, false, false, false, false, false, false, false, false, false, false, false, false, false, false, false, false, false, false, false, false, false, false, false, false] rfl rfl (any_of HT_.out (by kernel_rfl)) (fun _ _ _ h => h) (Or.inl ⟨by rfl, ?_⟩) ?_ ?_
                      rotate_left
                      · intro w'
                        go_simp
                        with_reducible rfl
                      rotate_left
                      · simp only [Act.put, List.setIfInBounds_toArray, List.set_cons_zero, List.set_cons_succ, i64_w, i32_w]
                        rfl
                      refine pure_ (i := 2) (N := some 40) (v := ?_) (a' := ?_) #[true, true, true, false, false, false, false, false, false, false, false, false, false, false, false, false, false, false, false, false, false, false, false, false, false, false, false, false, false, false, false, false, false, false, false, false, false] rfl rfl (any_of HT_.out (by kernel_rfl)) (fun _ _ _ h => h) (Or.inl ⟨by rfl, ?_⟩) ?_ ?_
                      rotate_left
                      · intro w'
                        go_simp
                        with_reducible rfl
                      rotate_left
                      · simp only [Act.put, List.setIfInBounds_toArray, List.set_cons_zero, List.set_cons_succ, i64_w, i32_w]
                        rfl
                      refine pure_ (i := 4) (N := some 42) (v := ?_) (a' := ?_) #[true, true, true, false, true, false, false, false, false, false, false, false, false, false, false, false, false, false, false, false, false, false, false, false, false, false, false, false, false, false, false, false, false, false, false, false, false] rfl rfl (any_of HT_.out (by kernel_rfl)) (fun _ _ _ h => h) (Or.inl ⟨by rfl, ?_⟩) ?_ ?_
                      rotate_left
                      · intro w'
                        go_simp
                        with_reducible rfl
                      rotate_left
                      · simp only [Act.put, List.setIfInBounds_toArray, List.set_cons_zero, List.set_cons_succ, i64_w, i32_w]
                        rfl
                      refine pure_ (i := 5) (N := some 43) (v := ?_) (a' := ?_) #[true, true, true, false, true, true, false, false, false, false, false, false, false, false, false, false, false, false, false, false, false, false, false, false, false, false, false, false, false, false, false, false, false, false, false, false, false] rfl rfl (any_of HT_.out (by kernel_rfl)) (fun _ _ _ h => h) (Or.inl ⟨by rfl, ?_⟩) ?_ ?_
                      rotate_left
                      · intro w'
                        go_simp
                        with_reducible rfl
                      rotate_left
                      · simp only [Act.put, List.setIfInBounds_toArray, List.set_cons_zero, List.set_cons_succ, i64_w, i32_w]
                        rfl
                      refine pure_ (i := 6) (N := some 44) (v := ?_) (a' := ?_) #[true, true, true, false, true, true, true, false, false, false, false, false, false, false, false, false, false, false, false, false, false, false, false, false, false, false, false, false, false, false, false, false, false, false, false, false, false] rfl rfl (any_of HT_.out (by kernel_rfl)) (fun _ _ _ h => h) (Or.inl ⟨by rfl, ?_⟩) ?_ ?_
                      rotate_left
                      · intro w'
                        go_simp
                        with_reducible rfl
                      rotate_left
                      · simp only [Act.put, List.setIfInBounds_toArray, List.set_cons_zero, List.set_cons_succ, i64_w, i32_w]
                        rfl
                      refine pure_ (i := 8) (N := some 46) (v := ?_) (a' := ?_) #[true, true, true, false, true, true, true, false, true, false, false, false, false, false, false, false, false, false, false, false, false, false, false, false, false, false, false, false, false, false, false, false, false, false, false, false, false] rfl rfl (any_of HT_.out (by kernel_rfl)) (fun _ _ _ h => h) (Or.inl ⟨by rfl, ?_⟩) ?_ ?_
                      rotate_left
                      · intro w'
                        go_simp
                        with_reducible rfl
                      rotate_left
                      · simp only [Act.put, List.setIfInBounds_toArray, List.set_cons_zero, List.set_cons_succ, i64_w, i32_w]
                        rfl
                      refine pure_ (i := 9) (N := some 47) (v := ?_) (a' := ?_) #[true, true, true, false, true, true, true, false, true, true, false, false, false, false, false, false, false, false, false, false, false, false, false, false, false, false, false, false, false, false, false, false, false, false, false, false, false] rfl rfl (any_of HT_.out (by kernel_rfl)) (fun _ _ _ h => h) (Or.inl ⟨by rfl, ?_⟩) ?_ ?_
                      rotate_left
                      · intro w'
                        go_simp
                        with_reducible rfl
                      rotate_left
                      · simp only [Act.put, List.setIfInBounds_toArray, List.set_cons_zero, List.set_cons_succ, i64_w, i32_w]
                        rfl
                      refine pure_ (i := 10) (N := some 48) (v := ?_) (a' := ?_) #[true, true, true, false, true, true, true, false, true, true, true, false, false, false, false, false, false, false, false, false, false, false, false, false, false, false, false, false, false, false, false, false, false, false, false, false, false] rfl rfl (any_of HT_.out (by kernel_rfl)) (fun _ _ _ h => h) (Or.inl ⟨by rfl, ?_⟩) ?_ ?_
                      rotate_left
                      · intro w'
                        go_simp
                        with_reducible rfl
                      rotate_left
                      · simp only [Act.put, List.setIfInBounds_toArray, List.set_cons_zero, List.set_cons_succ, i64_w, i32_w]
                        rfl
                      refine take_ (i := 7) (N := some 45) (v := ?_) (a' := ?_) #[true, true, true, false, true, true, true, true, true, true, true, false, false, false, false, false, false, false, false, false, false, false, false, false, false, false, false, false, false, false, false, false, false, false, false, false, false] rfl rfl (take_ofW HT_.out HW_.out (by kernel_rfl)) (fun _ _ _ h => h) (Or.inl ⟨by rfl, ?_⟩) hHeld ?_ ?_
                      rotate_left
                      · rintro w' ⟨s0, s1, s2, s3, s4, s5⟩
                        go_simp
                        with_reducible rfl
                      rotate_left
                      · simp only [Act.put, List.setIfInBounds_toArray, List.set_cons_zero, List.set_cons_succ, i64_w, i32_w]
                        rfl
                      refine take_ (i := 11) (N := some 49) (v := ?_) (a' := ?_) #[true, true, true, false, true, true, true, true, true, true, true, true, false, false, false, false, false, false, false, false, false, false, false, false, false, false, false, false, false, false, false, false, false, false, false, false, false] rfl rfl (take_ofW HT_.out HW_.out (by kernel_rfl)) (fun _ _ _ h => h) (Or.inl ⟨by rfl, ?_⟩) hHeld ?_ ?_
                      rotate_left
                      · rintro w' ⟨s0, s1, s2, s3, s4, s5⟩
                        go_simp
                        with_reducible rfl
                      rotate_left
                      · simp only [Act.put, List.setIfInBounds_toArray, List.set_cons_zero, List.set_cons_succ, i64_w, i32_w]
                        rfl
                      refine one_ (i := 3) (N := some 41) #[true, true, true, true, true, true, true, true, true, true, true, true, false, false, false, false, false, false, false, false, false, false, false, false, false, false, false, false, false, false, false, false, false, false, false, false, false] rfl rfl (one_of HT_.out (by kernel_rfl)) (by decide) (fun K hK => ?_)
                      refine goes_ Try.func22 (by kernel_rfl) rfl #[.slice (some ad151) l0.length c0, .int .i64 a1, .int .i64 a2] (by rfl) rfl rfl (by (try simp only [List.map_toArray, List.map_cons, List.map_nil]); first | done | rfl | (simp only [List.length_drop, List.length_take]; rfl)) ?_
                      with_reducible refine (impl_Before.calls _ _ l0 a1 a2 t150 _ ?side1 ?side2 A25.out).mono ?_
                      (case side1 => repeat (first | exact (Kd.C_below HR0.out HB.out) | (with_reducible refine Kd.C_alloc ?_ _) | (with_reducible refine Kd.C_drewN ?_ _) | (with_reducible refine Kd.C_drew ?_)))
                      (case side2 => exact HC0.out)
                      rintro e w40 ⟨rfl, hb⟩
                      refine ⟨_, rfl, ?_⟩
                      have n0_ := Aside0.mk (below_step (by repeat (first | (with_reducible first | exact HB.out | apply below_alloc | apply pw_below_drewN | apply below_drew1) | exact HB.out)) hb)
                      clear HB
                      have HB := n0_
                      clear n0_
                      (try clear hb)
                      (try clear hb2)
                      (try clear hk)
                      (try clear hi)
                      refine hK.out _ _ ⟨((HB.out.cell (World.block_lt_of_cell? w _ hw151_0)).trans hw151_0), ((HB.out.cell (World.block_lt_of_cell? w _ hw151_1)).trans hw151_1), ((HB.out.cell (World.block_lt_of_cell? w _ hw151_2)).trans hw151_2), ((HB.out.cell (World.block_lt_of_cell? w _ hw152_0)).trans hw152_0), ((HB.out.cell (World.block_lt_of_cell? w _ hw152_1)).trans hw152_1), ((HB.out.cell (World.block_lt_of_cell? w _ hw152_2)).trans hw152_2)⟩ (fun hHeld => ?_)
                      clear hK K
                      refine norm_ (a' := ?_) ?_ ?_
                      rotate_left
                      · show Act.put _ (some 41) _ = _
                        simp only [Act.put, List.setIfInBounds_toArray, List.set_cons_zero, List.set_cons_succ, i64_w, i32_w]
                        rfl
                      refine one_ (i := 12) (N := some 50) #[true, true, true, true, true, true, true, true, true, true, true, true, true, false, false, false, false, false, false, false, false, false, false, false, false, false, false, false, false, false, false, false, false, false, false, false, false] rfl rfl (one_of HT_.out (by kernel_rfl)) (by decide) (fun K hK => ?_)
                      refine goes_ Try.func24 (by kernel_rfl) rfl #[.agg #[.int .i64 ((rd_T37 l0 a1).f0), .string ((rd_T37 l0 a1).f1), .string ((rd_T37 l0 a1).f2)], .agg #[.int .i64 ((rd_T37 l0 a2).f0), .string ((rd_T37 l0 a2).f1), .string ((rd_T37 l0 a2).f2)]] (by rfl) rfl rfl (by (try simp only [List.map_toArray, List.map_cons, List.map_nil]); first | done | rfl | (simp only [List.length_drop, List.length_take]; rfl)) ?_
                      with_reducible refine (laws_before.calls ((rd_T37 l0 a1).f0) ((rd_T37 l0 a1).f1) ((rd_T37 l0 a1).f2) ((rd_T37 l0 a2).f0) ((rd_T37 l0 a2).f1) ((rd_T37 l0 a2).f2) t153 _ A30.out).mono ?_
                      rintro e w41 ⟨rfl, hb⟩
                      refine ⟨_, rfl, ?_⟩
                      have n0_ := Aside0.mk (below_step (by repeat (first | (with_reducible first | exact HB.out | apply below_alloc | apply pw_below_drewN | apply below_drew1) | exact HB.out)) hb)
                      clear HB
                      have HB := n0_
                      clear n0_
                      (try clear hb)
                      (try clear hb2)
                      (try clear hk)
                      (try clear hi)
                      refine hK.out _ _ ⟨((HB.out.cell (World.block_lt_of_cell? w _ hw151_0)).trans hw151_0), ((HB.out.cell (World.block_lt_of_cell? w _ hw151_1)).trans hw151_1), ((HB.out.cell (World.block_lt_of_cell? w _ hw151_2)).trans hw151_2), ((HB.out.cell (World.block_lt_of_cell? w _ hw152_0)).trans hw152_0), ((HB.out.cell (World.block_lt_of_cell? w _ hw152_1)).trans hw152_1), ((HB.out.cell (World.block_lt_of_cell? w _ hw152_2)).trans hw152_2)⟩ (fun hHeld => ?_)
                      clear hK K
                      refine norm_ (a' := ?_) ?_ ?_
                      rotate_left
                      · show Act.put _ (some 50) _ = _
                        simp only [Act.put, List.setIfInBounds_toArray, List.set_cons_zero, List.set_cons_succ, i64_w, i32_w]
                        rfl
                      refine pure_ (i := 13) (N := some 51) (v := ?_) (a' := ?_) #[true, true, true, true, true, true, true, true, true, true, true, true, true, true, false, false, false, false, false, false, false, false, false, false, false, false, false, false, false, false, false, false, false, false, false, false, false] rfl rfl (any_of HT_.out (by kernel_rfl)) (fun _ _ _ h => h) (Or.inl ⟨by rfl, ?_⟩) ?_ ?_
                      rotate_left
                      · intro w'
                        go_simp
                        with_reducible rfl
                      rotate_left
                      · simp only [Act.put, List.setIfInBounds_toArray, List.set_cons_zero, List.set_cons_succ, i64_w, i32_w]
                        rfl
                      refine pure_ (i := 14) (N := some 52) (v := ?_) (a' := ?_) #[true, true, true, true, true, true, true, true, true, true, true, true, true, true, true, false, false, false, false, false, false, false, false, false, false, false, false, false, false, false, false, false, false, false, false, false, false] rfl rfl (any_of HT_.out (by kernel_rfl)) (fun _ _ _ h => h) (Or.inl ⟨by rfl, ?_⟩) ?_ ?_
                      rotate_left
                      · intro w'
                        go_simp
                        with_reducible rfl
                      rotate_left
                      · simp only [Act.put, List.setIfInBounds_toArray, List.set_cons_zero, List.set_cons_succ, i64_w, i32_w]
                        rfl
                      refine pure_ (i := 15) (N := some 53) (v := undef) (a' := ?_) #[true, true, true, true, true, true, true, true, true, true, true, true, true, true, true, true, false, false, false, false, false, false, false, false, false, false, false, false, false, false, false, false, false, false, false, false, false] rfl rfl (any_of HT_.out (by kernel_rfl)) (fun _ _ _ h => h) (Or.inr ⟨by rfl, rfl⟩) ?_ ?_
                      rotate_left
                      · simp only [Act.put, List.setIfInBounds_toArray, List.set_cons_zero, List.set_cons_succ, i64_w, i32_w]
                        rfl
                      refine pure_ (i := 16) (N := some 54) (v := undef) (a' := ?_) #[true, true, true, true, true, true, true, true, true, true, true, true, true, true, true, true, true, false, false, false, false, false, false, false, false, false, false, false, false, false, false, false, false, false, false, false, false] rfl rfl (any_of HT_.out (by kernel_rfl)) (fun _ _ _ h => h) (Or.inr ⟨by rfl, rfl⟩) ?_ ?_
                      rotate_left
                      · simp only [Act.put, List.setIfInBounds_toArray, List.set_cons_zero, List.set_cons_succ, i64_w, i32_w]
                        rfl
                      refine pure_ (i := 17) (N := some 55) (v := undef) (a' := ?_) #[true, true, true, true, true, true, true, true, true, true, true, true, true, true, true, true, true, true, false, false, false, false, false, false, false, false, false, false, false, false, false, false, false, false, false, false, false] rfl rfl (any_of HT_.out (by kernel_rfl)) (fun _ _ _ h => h) (Or.inr ⟨by rfl, rfl⟩) ?_ ?_
                      rotate_left
                      · simp only [Act.put, List.setIfInBounds_toArray, List.set_cons_zero, List.set_cons_succ, i64_w, i32_w]
                        rfl
                      refine pure_ (i := 18) (N := some 56) (v := undef) (a' := ?_) #[true, true, true, true, true, true, true, true, true, true, true, true, true, true, true, true, true, true, true, false, false, false, false, false, false, false, false, false, false, false, false, false, false, false, false, false, false] rfl rfl (any_of HT_.out (by kernel_rfl)) (fun _ _ _ h => h) (Or.inr ⟨by rfl, rfl⟩) ?_ ?_
                      rotate_left
                      · simp only [Act.put, List.setIfInBounds_toArray, List.set_cons_zero, List.set_cons_succ, i64_w, i32_w]
                        rfl
                      refine pure_ (i := 19) (N := some 57) (v := undef) (a' := ?_) #[true, true, true, true, true, true, true, true, true, true, true, true, true, true, true, true, true, true, true, true, false, false, false, false, false, false, false, false, false, false, false, false, false, false, false, false, false] rfl rfl (any_of HT_.out (by kernel_rfl)) (fun _ _ _ h => h) (Or.inr ⟨by rfl, rfl⟩) ?_ ?_
                      rotate_left
                      · simp only [Act.put, List.setIfInBounds_toArray, List.set_cons_zero, List.set_cons_succ, i64_w, i32_w]
                        rfl
                      refine pure_ (i := 20) (N := some 58) (v := undef) (a' := ?_) #[true, true, true, true, true, true, true, true, true, true, true, true, true, true, true, true, true, true, true, true, true, false, false, false, false, false, false, false, false, false, false, false, false, false, false, false, false] rfl rfl (any_of HT_.out (by kernel_rfl)) (fun _ _ _ h => h) (Or.inr ⟨by rfl, rfl⟩) ?_ ?_
                      rotate_left
                      · simp only [Act.put, List.setIfInBounds_toArray, List.set_cons_zero, List.set_cons_succ, i64_w, i32_w]
                        rfl
                      refine pure_ (i := 21) (N := some 59) (v := undef) (a' := ?_) #[true, true, true, true, true, true, true, true, true, true, true, true, true, true, true, true, true, true, true, true, true, true, false, false, false, false, false, false, false, false, false, false, false, false, false, false, false] rfl rfl (any_of HT_.out (by kernel_rfl)) (fun _ _ _ h => h) (Or.inr ⟨by rfl, rfl⟩) ?_ ?_
                      rotate_left
                      · simp only [Act.put, List.setIfInBounds_toArray, List.set_cons_zero, List.set_cons_succ, i64_w, i32_w]
                        rfl
                      refine pure_ (i := 22) (N := some 60) (v := undef) (a' := ?_) #[true, true, true, true, true, true, true, true, true, true, true, true, true, true, true, true, true, true, true, true, true, true, true, false, false, false, false, false, false, false, false, false, false, false, false, false, false] rfl rfl (any_of HT_.out (by kernel_rfl)) (fun _ _ _ h => h) (Or.inr ⟨by rfl, rfl⟩) ?_ ?_
                      rotate_left
                      · simp only [Act.put, List.setIfInBounds_toArray, List.set_cons_zero, List.set_cons_succ, i64_w, i32_w]
                        rfl
                      refine pure_ (i := 23) (N := some 61) (v := undef) (a' := ?_) #[true, true, true, true, true, true, true, true, true, true, true, true, true, true, true, true, true, true, true, true, true, true, true, true, false, false, false, false, false, false, false, false, false, false, false, false, false] rfl rfl (any_of HT_.out (by kernel_rfl)) (fun _ _ _ h => h) (Or.inr ⟨by rfl, rfl⟩) ?_ ?_
                      rotate_left
                      · simp only [Act.put, List.setIfInBounds_toArray, List.set_cons_zero, List.set_cons_succ, i64_w, i32_w]
                        rfl
                      refine pure_ (i := 24) (N := some 62) (v := undef) (a' := ?_) #[true, true, true, true, true, true, true, true, true, true, true, true, true, true, true, true, true, true, true, true, true, true, true, true, true, false, false, false, false, false, false, false, false, false, false, false, false] rfl rfl (any_of HT_.out (by kernel_rfl)) (fun _ _ _ h => h) (Or.inr ⟨by rfl, rfl⟩) ?_ ?_
                      rotate_left
                      · simp only [Act.put, List.setIfInBounds_toArray, List.set_cons_zero, List.set_cons_succ, i64_w, i32_w]
                        rfl
                      refine pure_ (i := 25) (N := some 63) (v := undef) (a' := ?_) #[true, true, true, true, true, true, true, true, true, true, true, true, true, true, true, true, true, true, true, true, true, true, true, true, true, true, false, false, false, false, false, false, false, false, false, false, false] rfl rfl (any_of HT_.out (by kernel_rfl)) (fun _ _ _ h => h) (Or.inr ⟨by rfl, rfl⟩) ?_ ?_
                      rotate_left
                      · simp only [Act.put, List.setIfInBounds_toArray, List.set_cons_zero, List.set_cons_succ, i64_w, i32_w]
                        rfl
                      refine pure_ (i := 26) (N := some 64) (v := undef) (a' := ?_) #[true, true, true, true, true, true, true, true, true, true, true, true, true, true, true, true, true, true, true, true, true, true, true, true, true, true, true, false, false, false, false, false, false, false, false, false, false] rfl rfl (any_of HT_.out (by kernel_rfl)) (fun _ _ _ h => h) (Or.inr ⟨by rfl, rfl⟩) ?_ ?_
                      rotate_left
                      · simp only [Act.put, List.setIfInBounds_toArray, List.set_cons_zero, List.set_cons_succ, i64_w, i32_w]
                        rfl
                      refine pure_ (i := 27) (N := some 65) (v := undef) (a' := ?_) #[true, true, true, true, true, true, true, true, true, true, true, true, true, true, true, true, true, true, true, true, true, true, true, true, true, true, true, true, false, false, false, false, false, false, false, false, false] rfl rfl (any_of HT_.out (by kernel_rfl)) (fun _ _ _ h => h) (Or.inr ⟨by rfl, rfl⟩) ?_ ?_
                      rotate_left
                      · simp only [Act.put, List.setIfInBounds_toArray, List.set_cons_zero, List.set_cons_succ, i64_w, i32_w]
                        rfl
                      refine pure_ (i := 28) (N := some 66) (v := undef) (a' := ?_) #[true, true, true, true, true, true, true, true, true, true, true, true, true, true, true, true, true, true, true, true, true, true, true, true, true, true, true, true, true, false, false, false, false, false, false, false, false] rfl rfl (any_of HT_.out (by kernel_rfl)) (fun _ _ _ h => h) (Or.inr ⟨by rfl, rfl⟩) ?_ ?_
                      rotate_left
                      · simp only [Act.put, List.setIfInBounds_toArray, List.set_cons_zero, List.set_cons_succ, i64_w, i32_w]
                        rfl
                      refine pure_ (i := 29) (N := some 67) (v := undef) (a' := ?_) #[true, true, true, true, true, true, true, true, true, true, true, true, true, true, true, true, true, true, true, true, true, true, true, true, true, true, true, true, true, true, false, false, false, false, false, false, false] rfl rfl (any_of HT_.out (by kernel_rfl)) (fun _ _ _ h => h) (Or.inr ⟨by rfl, rfl⟩) ?_ ?_
                      rotate_left
                      · simp only [Act.put, List.setIfInBounds_toArray, List.set_cons_zero, List.set_cons_succ, i64_w, i32_w]
                        rfl
                      refine pure_ (i := 30) (N := some 68) (v := undef) (a' := ?_) #[true, true, true, true, true, true, true, true, true, true, true, true, true, true, true, true, true, true, true, true, true, true, true, true, true, true, true, true, true, true, true, false, false, false, false, false, false] rfl rfl (any_of HT_.out (by kernel_rfl)) (fun _ _ _ h => h) (Or.inr ⟨by rfl, rfl⟩) ?_ ?_
                      rotate_left
                      · simp only [Act.put, List.setIfInBounds_toArray, List.set_cons_zero, List.set_cons_succ, i64_w, i32_w]
                        rfl
                      refine pure_ (i := 31) (N := some 69) (v := undef) (a' := ?_) #[true, true, true, true, true, true, true, true, true, true, true, true, true, true, true, true, true, true, true, true, true, true, true, true, true, true, true, true, true, true, true, true, false, false, false, false, false] rfl rfl (any_of HT_.out (by kernel_rfl)) (fun _ _ _ h => h) (Or.inr ⟨by rfl, rfl⟩) ?_ ?_
                      rotate_left
                      · simp only [Act.put, List.setIfInBounds_toArray, List.set_cons_zero, List.set_cons_succ, i64_w, i32_w]
                        rfl
                      refine pure_ (i := 32) (N := some 70) (v := undef) (a' := ?_) #[true, true, true, true, true, true, true, true, true, true, true, true, true, true, true, true, true, true, true, true, true, true, true, true, true, true, true, true, true, true, true, true, true, false, false, false, false] rfl rfl (any_of HT_.out (by kernel_rfl)) (fun _ _ _ h => h) (Or.inr ⟨by rfl, rfl⟩) ?_ ?_
                      rotate_left
                      · simp only [Act.put, List.setIfInBounds_toArray, List.set_cons_zero, List.set_cons_succ, i64_w, i32_w]
                        rfl
                      refine pure_ (i := 33) (N := some 71) (v := undef) (a' := ?_) #[true, true, true, true, true, true, true, true, true, true, true, true, true, true, true, true, true, true, true, true, true, true, true, true, true, true, true, true, true, true, true, true, true, true, false, false, false] rfl rfl (any_of HT_.out (by kernel_rfl)) (fun _ _ _ h => h) (Or.inr ⟨by rfl, rfl⟩) ?_ ?_
                      rotate_left
                      · simp only [Act.put, List.setIfInBounds_toArray, List.set_cons_zero, List.set_cons_succ, i64_w, i32_w]
                        rfl
                      refine pure_ (i := 34) (N := some 72) (v := undef) (a' := ?_) #[true, true, true, true, true, true, true, true, true, true, true, true, true, true, true, true, true, true, true, true, true, true, true, true, true, true, true, true, true, true, true, true, true, true, true, false, false] rfl rfl (any_of HT_.out (by kernel_rfl)) (fun _ _ _ h => h) (Or.inr ⟨by rfl, rfl⟩) ?_ ?_
                      rotate_left
                      · simp only [Act.put, List.setIfInBounds_toArray, List.set_cons_zero, List.set_cons_succ, i64_w, i32_w]
                        rfl
                      refine pure_ (i := 35) (N := some 73) (v := ?_) (a' := ?_) #[true, true, true, true, true, true, true, true, true, true, true, true, true, true, true, true, true, true, true, true, true, true, true, true, true, true, true, true, true, true, true, true, true, true, true, true, false] rfl rfl (any_of HT_.out (by kernel_rfl)) (fun _ _ _ h => h) (Or.inl ⟨by rfl, ?_⟩) ?_ ?_
                      rotate_left
                      · intro w'
                        go_simp
                        with_reducible rfl
                      rotate_left
                      · simp only [Act.put, List.setIfInBounds_toArray, List.set_cons_zero, List.set_cons_succ, i64_w, i32_w]
                        rfl
                      refine pure_ (i := 36) (N := some 6) (v := ?_) (a' := ?_) #[true, true, true, true, true, true, true, true, true, true, true, true, true, true, true, true, true, true, true, true, true, true, true, true, true, true, true, true, true, true, true, true, true, true, true, true, true] rfl rfl (any_of HT_.out (by kernel_rfl)) (fun _ _ _ h => h) (Or.inl ⟨by rfl, ?_⟩) ?_ ?_
                      rotate_left
                      · intro w'
                        go_simp
                        with_reducible rfl
                      rotate_left
                      · simp only [Act.put, List.setIfInBounds_toArray, List.set_cons_zero, List.set_cons_succ, i64_w, i32_w]
                        rfl
                      refine done_ (done_of HT_.out (by kernel_rfl)) ?_
                      try go_wp2
                      go_ret
                      exact ⟨by first | rfl | (simp [errW_none, errW_some] <;> rfl) | (simp [*, errW_none, errW_some] <;> rfl), by repeat (first | (with_reducible first | exact HB.out | apply below_alloc | apply pw_below_drewN | apply below_drew1) | exact HB.out)⟩
                  · rw [if_neg c29] at H
                    exact absurd H (by simp)
                · rw [if_neg c28] at H
                  exact absurd H (by simp)
              · rw [if_neg c27] at H
                exact absurd H (by simp)
            · rw [if_neg c26] at H
              exact absurd H (by simp)
    · replace c7 := Bool.eq_false_iff.mpr c7
      subst c7
      have H1 : (some false) = some r := by rw [if_neg (show ¬ (false = true) by decide)] at H; exact H
      clear H
      have H := H1
      clear H1
      obtain rfl := Option.some.inj H
      go_enter Try.func5, Try.ntmps5
      go_wp2_with (first | ((with_reducible refine gate_callee (f := 21) rfl ?_); refine goesL_ (some 8) rfl rfl Try.func21 (by kernel_rfl) rfl #[.slice A0 l0.length c0] rfl (by (try simp only [List.map_toArray, List.map_cons, List.map_nil]); first | done | rfl | (simp only [List.length_drop, List.length_take]; rfl)) ?_; (with_reducible refine (laws_zzFits3.calls k _ _ l0 true _ ?side1 ?side2 A4.out).mono ?_); (case side1 => repeat (first | exact HR0.out | (with_reducible refine Kd.C_alloc ?_ _) | (with_reducible refine Kd.C_drewN ?_ _) | (with_reducible refine Kd.C_drew ?_))); (case side2 => exact HC0.out); rintro e w42 ⟨rfl, hb⟩; refine ⟨_, rfl, ?_⟩; have n0_ := Aside0.mk (below_step (by repeat (first | (with_reducible first | exact HB.out | apply below_alloc | apply pw_below_drewN | apply below_drew1) | exact HB.out)) hb); clear HB; have HB := n0_; clear n0_; (try clear hb); (try clear hb2); (try clear hk); (try clear hi)) | ((with_reducible refine gate_dst (N := 12) rfl ?_); (try (refine gate_guard (by rfl) ?_; dsimp only)); refine Kd.R_lit k37 _ 37 ?hg (N := 12) ?hd (xs := ([(⟨0, (⟨#[97]⟩ : ByteArray), (⟨#[]⟩ : ByteArray)⟩ : S37), (⟨0, (⟨#[98]⟩ : ByteArray), (⟨#[]⟩ : ByteArray)⟩ : S37)] : List (S37))) (inner := [.int .i64 0, .string (⟨#[97]⟩ : ByteArray), .string (⟨#[]⟩ : ByteArray), .int .i64 0, .string (⟨#[98]⟩ : ByteArray), .string (⟨#[]⟩ : ByteArray)]) (ok := fun _ => True) (okp := fun _ => True) ?hr ?hp (fun _ hk => hk) trivial (Below.refl _ _) (Nat.le_refl _) (by simp) ?_; (case hd => rfl); (case hg => rfl); (case hr => first | (go_simp; done) | (go_simp; rfl)); (case hp => exact (Reps.c3 (show Kd.M k37 _ _ _ (⟨0, (⟨#[97]⟩ : ByteArray), (⟨#[]⟩ : ByteArray)⟩ : S37) [.int .i64 0, .string (⟨#[97]⟩ : ByteArray), .string (⟨#[]⟩ : ByteArray)] from (k37_mkM _ _ _ (⟨0, (⟨#[97]⟩ : ByteArray), (⟨#[]⟩ : ByteArray)⟩ : S37) )) (Reps.c3 (show Kd.M k37 _ _ _ (⟨0, (⟨#[98]⟩ : ByteArray), (⟨#[]⟩ : ByteArray)⟩ : S37) [.int .i64 0, .string (⟨#[98]⟩ : ByteArray), .string (⟨#[]⟩ : ByteArray)] from (k37_mkM _ _ _ (⟨0, (⟨#[98]⟩ : ByteArray), (⟨#[]⟩ : ByteArray)⟩ : S37) )) (Reps.none _ _)))); intro v146 w43 ho44 hb hg_ hnew_; clear hg_ hnew_; (first | rw [← Ny145.out] at ho44 | (simp only [Int.reduceToNat] at ho44; rw [← Ny145.out] at ho44)); have n0_ := Aside0.mk (Kd.R_lower ho44 (below_size (by repeat (first | (with_reducible first | exact HB.out | apply below_alloc | apply pw_below_drewN | apply below_drew1) | exact HB.out)))); have n1_ := Aside0.mk (below_step (by repeat (first | (with_reducible first | exact HB.out | apply below_alloc | apply pw_below_drewN | apply below_drew1) | exact HB.out)) hb); clear HB; have HO147 := n0_; have HB := n1_; clear n0_ n1_; clear hb ho44; obtain ⟨Ao45, co45, eo45⟩ := Kd.R_slice HO147.out; subst eo45) | ((with_reducible refine gate_callee (f := 22) rfl ?_); refine goesL_ (some 13) rfl rfl Try.func22 (by kernel_rfl) rfl #[.slice Ao45 y145.length co45, .int .i64 0, .int .i64 1] rfl (by (try simp only [List.map_toArray, List.map_cons, List.map_nil]); first | done | rfl | (simp only [List.length_drop, List.length_take]; rfl)) ?_; (with_reducible refine (impl_Before.calls _ _ y145 0 1 false _ ?side1 ?side2 A6.out).mono ?_); (case side1 => repeat (first | exact (Kd.R_reads' HO147.out).2.2 | (with_reducible refine Kd.C_alloc ?_ _) | (with_reducible refine Kd.C_drewN ?_ _) | (with_reducible refine Kd.C_drew ?_))); (case side2 => exact (Kd.R_reads' HO147.out).2.1); rintro e w46 ⟨rfl, hb⟩; refine ⟨_, rfl, ?_⟩; have n0_ := Aside0.mk (Kd.R_below (by (with_reducible repeat (first | apply Kd.R_alloc | apply Kd.R_drewN | apply Kd.R_drew)); exact HO147.out) hb); have n1_ := Aside0.mk (below_step (by repeat (first | (with_reducible first | exact HB.out | apply below_alloc | apply pw_below_drewN | apply below_drew1) | exact HB.out)) hb); clear HO147; clear HB; have HO147 := n0_; have HB := n1_; clear n0_ n1_; (try clear hb); (try clear hb2); (try clear hk); (try clear hi)))
      go_ret
      exact ⟨by first | rfl | (simp [errW_none, errW_some] <;> rfl) | (simp [*, errW_none, errW_some] <;> rfl), by repeat (first | (with_reducible first | exact HB.out | apply below_alloc | apply pw_below_drewN | apply below_drew1) | exact HB.out)⟩
  · replace c5 := Bool.eq_false_iff.mpr c5
    subst c5
    have H1 : (some true) = some r := by rw [if_neg (show ¬ (false = true) by decide)] at H; exact H
    clear H
    have H := H1
    clear H1
    obtain rfl := Option.some.inj H
    go_enter Try.func5, Try.ntmps5
    go_wp2_with (first | ((with_reducible refine gate_callee (f := 21) rfl ?_); refine goesL_ (some 8) rfl rfl Try.func21 (by kernel_rfl) rfl #[.slice A0 l0.length c0] rfl (by (try simp only [List.map_toArray, List.map_cons, List.map_nil]); first | done | rfl | (simp only [List.length_drop, List.length_take]; rfl)) ?_; (with_reducible refine (laws_zzFits3.calls k _ _ l0 false _ ?side1 ?side2 A4.out).mono ?_); (case side1 => repeat (first | exact HR0.out | (with_reducible refine Kd.C_alloc ?_ _) | (with_reducible refine Kd.C_drewN ?_ _) | (with_reducible refine Kd.C_drew ?_))); (case side2 => exact HC0.out); rintro e w47 ⟨rfl, hb⟩; refine ⟨_, rfl, ?_⟩; have n0_ := Aside0.mk (below_step (by repeat (first | (with_reducible first | exact HB.out | apply below_alloc | apply pw_below_drewN | apply below_drew1) | exact HB.out)) hb); clear HB; have HB := n0_; clear n0_; (try clear hb); (try clear hb2); (try clear hk); (try clear hi)))
    go_ret
    exact ⟨by first | rfl | (simp [errW_none, errW_some] <;> rfl) | (simp [*, errW_none, errW_some] <;> rfl), by repeat (first | (with_reducible first | exact HB.out | apply below_alloc | apply pw_below_drewN | apply below_drew1) | exact HB.out)⟩

/-- THE ONE PURE STATEMENT of laws_FnBefore: yours. -/
def laws_FnBefore.Pure : Prop := ∀ (l0 : List (S37)) (a1 : Int) (a2 : Int), (l0.length ≤ maxLen ∧ ∀ y ∈ l0, okS37 y) → (Lit.int .i64 a1).wf = true → (Lit.int .i64 a2).wf = true → ∃ k, laws_FnBefore.f k l0 a1 a2 = some true

end Go.Proofs.Ytbffhefeepmpcaa.Q
