-- printed by this project's own program wip/tools/mkprint.py (the kit's print.py with hand-proved contracts put in)
import Derived.Test.YtbffhefeepmpcaaQx0
import Derived.Test.YtbffhefeepmpcaaQx20
namespace Go.Proofs.Ytbffhefeepmpcaa.Q
open Go.RowKit Go.Proofs.YtbffhefeepmpcaaW.PrintWords Go.Proofs.YtbffhefeepmpcaaW.PrintLast Go.Proofs.YtbffhefeepmpcaaW.PrintMore
attribute [local go_sem] max2_int min2_int max_two min_two max_three min_three max_four min_four   -- for this text's walks alone
set_option linter.unusedVariables false
set_option linter.unusedSimpArgs false

/-! ### laws_FnJoined: function 12 -/
def laws_FnJoined.j0 : Nat → List ByteArray → ByteArray → Bool → Option (Bool)
  | 0, _, _, _ => none
  | k + 1, x0, x1, x12 => if x12 = true then (some true) else ((laws_slight.f k x0 x1).bind fun t358 => (if t358 = true then ((impl_Joined.f x0 x1).bind fun t359 => ((spec_Joined.f k x0 x1).bind fun t360 => (if t359.toList = t360.toList then ((impl_Joined.f (([(⟨#[97]⟩ : ByteArray), (⟨#[98]⟩ : ByteArray)] : List ByteArray)) (⟨#[45]⟩ : ByteArray)).bind fun t364 => (some (t364.toList == ([97, 45, 98] : List UInt8)))) else (some false)))) else (some true)))
def laws_FnJoined.f (k : Nat) (l0 : List ByteArray) (a1 : ByteArray) : Option (Bool) := (laws_zzFits6.f k l0).bind fun t357 => (if t357 = true then (laws_FnJoined.j0 k l0 a1 (decide ((a1.size : Int) > 2147483647))) else (laws_FnJoined.j0 k l0 a1 true))
theorem laws_FnJoined.mono_l : ∀ k, (∀ y0 y1 y2, LeO (laws_FnJoined.j0 k y0 y1 y2) (laws_FnJoined.j0 (k + 1) y0 y1 y2))
  | 0 => fun _ _ _ r h => by simp [laws_FnJoined.j0] at h
  | k + 1 => by
    have ih0 := laws_FnJoined.mono_l k
    · intro y0 y1 y2
      unfold laws_FnJoined.j0
      repeat' first
      | (with_reducible exact ih0 _ _ _)
      | (with_reducible exact laws_slight.mono _ _ _)
      | (with_reducible exact laws_zzFits6.mono _ _)
      | (with_reducible exact spec_Joined.mono _ _ _)
      | (with_reducible exact LeO.refl _)
      | (with_reducible exact LeO.none _)
      | (with_reducible refine LeO.ite ?_ ?_)
      | (with_reducible refine LeO.bind ?_ (fun _ => ?_))
      | exact ih0 _ _ _
      | exact laws_slight.mono _ _ _
      | exact laws_zzFits6.mono _ _
      | exact spec_Joined.mono _ _ _
      | exact LeO.none _
      | refine LeO.ite ?_ ?_
      | refine LeO.bind ?_ (fun _ => ?_)
theorem laws_FnJoined.mono : ∀ a0 a1 k, LeO (laws_FnJoined.f k a0 a1) (laws_FnJoined.f (k + 1) a0 a1) := by
  intro a0 a1 k
  have ih0 := laws_FnJoined.mono_l k
  unfold laws_FnJoined.f
  repeat' first
      | (with_reducible exact ih0 _ _ _)
      | (with_reducible exact laws_slight.mono _ _ _)
      | (with_reducible exact laws_zzFits6.mono _ _)
      | (with_reducible exact spec_Joined.mono _ _ _)
      | (with_reducible exact LeO.refl _)
      | (with_reducible exact LeO.none _)
      | (with_reducible refine LeO.ite ?_ ?_)
      | (with_reducible refine LeO.bind ?_ (fun _ => ?_))
      | exact ih0 _ _ _
      | exact laws_slight.mono _ _ _
      | exact laws_zzFits6.mono _ _
      | exact spec_Joined.mono _ _ _
      | exact LeO.none _
      | refine LeO.ite ?_ ?_
      | refine LeO.bind ?_ (fun _ => ?_)
set_option maxHeartbeats 8000000 in
set_option maxRecDepth 100000 in
theorem laws_FnJoined.calls (k : Nat) (A0 : Option Addr) (c0 : Nat) (l0 : List ByteArray) (a1 : ByteArray) (r : Bool) (w : World) (hr0 : Kd.C Kd.string w A0 l0.length l0) (hc0 : l0.length ≤ c0) (h : laws_FnJoined.f k l0 a1 = some r) :
    Calls Try.prog 12 #[.slice A0 l0.length c0, .string a1] w fun e w' => e = .returned (.bool r) ∧ Below w.heap.size w w' := by
  have HR0 := Aside0.mk hr0
  have HC0 := Aside0.mk hc0
  clear hr0 hc0
  have HB := Aside0.mk (Below.refl w.heap.size w)
  have H : ((laws_zzFits6.f k l0).bind fun t357 => (if t357 = true then (laws_FnJoined.j0 k l0 a1 (decide ((a1.size : Int) > 2147483647))) else (laws_FnJoined.j0 k l0 a1 true))) = some r := h
  clear h
  have HC3 := Aside0.mk H
  clear H
  go_enter Try.func12, Try.ntmps12
  go_upto_region 1 with (fail)
  go_cut [12] (fun v12 wc => ∃ (kq : Nat) (x12_2 : Bool), v12 = .bool x12_2 ∧ Aside0 (laws_FnJoined.j0 kq l0 a1 x12_2 = some r) ∧ Aside0 (kq ≤ k) ∧ Aside0 (Below w.heap.size w wc))
  case first =>
    have H := HC3.out
    clear HC3
    replace H := Option.bind_eq_some_iff.mp H
    obtain ⟨t357, A40, H⟩ := H
    replace H : (if t357 = true then (laws_FnJoined.j0 k l0 a1 (decide ((a1.size : Int) > 2147483647))) else (laws_FnJoined.j0 k l0 a1 true)) = some r := H
    have A4 := Aside0.mk A40
    clear A40
    by_cases c5 : t357 = true
    · subst c5
      have H1 : (laws_FnJoined.j0 k l0 a1 (decide ((a1.size : Int) > 2147483647))) = some r := by rw [if_pos rfl] at H; exact H
      clear H
      have H := H1
      clear H1
      have H' := Aside0.mk H
      clear H
      go_wp2_with (first | ((with_reducible refine gate_callee (f := 42) rfl ?_); refine goesL_ (some 6) rfl rfl Try.func42 (by kernel_rfl) rfl #[.slice A0 l0.length c0] rfl (by (try simp only [List.map_toArray, List.map_cons, List.map_nil]); first | done | rfl | (simp only [List.length_drop, List.length_take]; rfl)) ?_; (with_reducible refine (laws_zzFits6.calls k _ _ l0 true _ ?side1 ?side2 A4.out).mono ?_); (case side1 => repeat (first | exact (Kd.C_below HR0.out HB.out) | (with_reducible refine Kd.C_alloc ?_ _) | (with_reducible refine Kd.C_drewN ?_ _) | (with_reducible refine Kd.C_drew ?_))); (case side2 => exact HC0.out); rintro e w' ⟨rfl, ⟨nd, rfl⟩⟩; refine ⟨_, rfl, ?_⟩))
      go_meet
      case rel => exact ⟨_, (decide ((a1.size : Int) > 2147483647)), (by first | rfl | (simp; done) | (simp [*]; done)), H', ⟨by first | omega | exact Nat.le_refl _⟩, ⟨by repeat (first | (with_reducible first | exact HB.out | apply below_alloc | apply pw_below_drewN | apply below_drew1) | exact HB.out)⟩⟩
    · replace c5 := Bool.eq_false_iff.mpr c5
      subst c5
      have H1 : (laws_FnJoined.j0 k l0 a1 true) = some r := by rw [if_neg (show ¬ (false = true) by decide)] at H; exact H
      clear H
      have H := H1
      clear H1
      have H' := Aside0.mk H
      clear H
      go_wp2_with (first | ((with_reducible refine gate_callee (f := 42) rfl ?_); refine goesL_ (some 6) rfl rfl Try.func42 (by kernel_rfl) rfl #[.slice A0 l0.length c0] rfl (by (try simp only [List.map_toArray, List.map_cons, List.map_nil]); first | done | rfl | (simp only [List.length_drop, List.length_take]; rfl)) ?_; (with_reducible refine (laws_zzFits6.calls k _ _ l0 false _ ?side1 ?side2 A4.out).mono ?_); (case side1 => repeat (first | exact (Kd.C_below HR0.out HB.out) | (with_reducible refine Kd.C_alloc ?_ _) | (with_reducible refine Kd.C_drewN ?_ _) | (with_reducible refine Kd.C_drew ?_))); (case side2 => exact HC0.out); rintro e w' ⟨rfl, ⟨nd, rfl⟩⟩; refine ⟨_, rfl, ?_⟩))
      go_meet
      case rel => exact ⟨_, (true), (by first | rfl | (simp; done) | (simp [*]; done)), H', ⟨by first | omega | exact Nat.le_refl _⟩, ⟨by repeat (first | (with_reducible first | exact HB.out | apply below_alloc | apply pw_below_drewN | apply below_drew1) | exact HB.out)⟩⟩
  case rest =>
    clear HC3
    try clear c1
    try clear p2
    try clear c4
    try clear c5
    obtain ⟨kq, x12_2, rfl, HA, HJ2, HB⟩ := hcut
    cases kq with
    | zero => exact absurd HA.out (by simp [laws_FnJoined.j0])
    | succ kj2 =>
      have H := HA.out
      clear HA
      simp only [laws_FnJoined.j0] at H
      by_cases c6 : x12_2 = true
      · subst c6
        have H1 : (some true) = some r := by rw [if_pos rfl] at H; exact H
        clear H
        have H := H1
        clear H1
        obtain rfl := Option.some.inj H
        go_wp2
        go_ret
        exact ⟨by first | rfl | (simp [errW_none, errW_some] <;> rfl) | (simp [*, errW_none, errW_some] <;> rfl), by repeat (first | (with_reducible first | exact HB.out | apply below_alloc | apply pw_below_drewN | apply below_drew1) | exact HB.out)⟩
      · replace c6 := Bool.eq_false_iff.mpr c6
        subst c6
        have H1 : ((laws_slight.f kj2 l0 a1).bind fun t358 => (if t358 = true then ((impl_Joined.f l0 a1).bind fun t359 => ((spec_Joined.f kj2 l0 a1).bind fun t360 => (if t359.toList = t360.toList then ((impl_Joined.f (([(⟨#[97]⟩ : ByteArray), (⟨#[98]⟩ : ByteArray)] : List ByteArray)) (⟨#[45]⟩ : ByteArray)).bind fun t364 => (some (t364.toList == ([97, 45, 98] : List UInt8)))) else (some false)))) else (some true))) = some r := by rw [if_neg (show ¬ (false = true) by decide)] at H; exact H
        clear H
        have H := H1
        clear H1
        replace H := Option.bind_eq_some_iff.mp H
        obtain ⟨t358, A70, H⟩ := H
        replace H : (if t358 = true then ((impl_Joined.f l0 a1).bind fun t359 => ((spec_Joined.f kj2 l0 a1).bind fun t360 => (if t359.toList = t360.toList then ((impl_Joined.f (([(⟨#[97]⟩ : ByteArray), (⟨#[98]⟩ : ByteArray)] : List ByteArray)) (⟨#[45]⟩ : ByteArray)).bind fun t364 => (some (t364.toList == ([97, 45, 98] : List UInt8)))) else (some false)))) else (some true)) = some r := H
        have A7 := Aside0.mk A70
        clear A70
        by_cases c8 : t358 = true
        · subst c8
          have H1 : ((impl_Joined.f l0 a1).bind fun t359 => ((spec_Joined.f kj2 l0 a1).bind fun t360 => (if t359.toList = t360.toList then ((impl_Joined.f (([(⟨#[97]⟩ : ByteArray), (⟨#[98]⟩ : ByteArray)] : List ByteArray)) (⟨#[45]⟩ : ByteArray)).bind fun t364 => (some (t364.toList == ([97, 45, 98] : List UInt8)))) else (some false)))) = some r := by rw [if_pos rfl] at H; exact H
          clear H
          have H := H1
          clear H1
          replace H := Option.bind_eq_some_iff.mp H
          obtain ⟨t359, A90, H⟩ := H
          replace H : ((spec_Joined.f kj2 l0 a1).bind fun t360 => (if t359.toList = t360.toList then ((impl_Joined.f (([(⟨#[97]⟩ : ByteArray), (⟨#[98]⟩ : ByteArray)] : List ByteArray)) (⟨#[45]⟩ : ByteArray)).bind fun t364 => (some (t364.toList == ([97, 45, 98] : List UInt8)))) else (some false))) = some r := H
          have A9 := Aside0.mk A90
          clear A90
          replace H := Option.bind_eq_some_iff.mp H
          obtain ⟨t360, A100, H⟩ := H
          replace H : (if t359.toList = t360.toList then ((impl_Joined.f (([(⟨#[97]⟩ : ByteArray), (⟨#[98]⟩ : ByteArray)] : List ByteArray)) (⟨#[45]⟩ : ByteArray)).bind fun t364 => (some (t364.toList == ([97, 45, 98] : List UInt8)))) else (some false)) = some r := H
          have A10 := Aside0.mk A100
          clear A100
          by_cases c11 : t359.toList = t360.toList
          · rw [if_pos c11] at H
            have c11b0 : (t359.toList == t360.toList) = true := beq_iff_eq.mpr c11
            have c11b1 : (t359.toList != t360.toList) = false := bne_eq_false_iff_eq.mpr c11
            clear c11
            obtain ⟨y361, hy361⟩ : ∃ y_ : List ByteArray, y_ = (([(⟨#[97]⟩ : ByteArray), (⟨#[98]⟩ : ByteArray)] : List ByteArray)) := ⟨_, rfl⟩
            replace H : ((impl_Joined.f y361 (⟨#[45]⟩ : ByteArray)).bind fun t364 => (some (t364.toList == ([97, 45, 98] : List UInt8)))) = some r := by first | (rw [hy361]; with_reducible exact H) | (have H2_ := (Option.bind_some _ _).symm.trans H; rw [hy361]; with_reducible exact H2_) | (have H2_ := (Option.bind_some _ _).symm.trans H; with_reducible exact H2_) | with_reducible exact H | (rw [hy361]; exact H) | exact H
            have Ny361 := Aside0.mk hy361
            clear hy361
            replace H := Option.bind_eq_some_iff.mp H
            obtain ⟨t364, A120, H⟩ := H
            replace H : (some (t364.toList == ([97, 45, 98] : List UInt8))) = some r := H
            have A12 := Aside0.mk A120
            clear A120
            obtain rfl := Option.some.inj H
            go_wp2_with (first | ((with_reducible refine gate_callee (f := 43) rfl ?_); refine goesL_ (some 15) rfl rfl Try.func43 (by kernel_rfl) rfl #[.slice A0 l0.length c0, .string a1] rfl (by (try simp only [List.map_toArray, List.map_cons, List.map_nil]); first | done | rfl | (simp only [List.length_drop, List.length_take]; rfl)) ?_; (with_reducible refine (laws_slight.calls kj2 _ _ l0 a1 true _ ?side1 ?side2 A7.out).mono ?_); (case side1 => repeat (first | exact (Kd.C_below HR0.out HB.out) | (with_reducible refine Kd.C_alloc ?_ _) | (with_reducible refine Kd.C_drewN ?_ _) | (with_reducible refine Kd.C_drew ?_))); (case side2 => exact HC0.out); rintro e w' ⟨rfl, ⟨nd, rfl⟩⟩; refine ⟨_, rfl, ?_⟩) | ((with_reducible refine gate_callee (f := 44) rfl ?_); refine goesL_ (some 19) rfl rfl Try.func44 (by kernel_rfl) rfl #[.slice A0 l0.length c0, .string a1] rfl (by (try simp only [List.map_toArray, List.map_cons, List.map_nil]); first | done | rfl | (simp only [List.length_drop, List.length_take]; rfl)) ?_; (with_reducible refine (impl_Joined.calls _ _ l0 a1 t359 _ ?side1 ?side2 A9.out).mono ?_); (case side1 => repeat (first | exact (Kd.C_below HR0.out (by repeat (first | (with_reducible first | exact HB.out | apply below_alloc | apply pw_below_drewN | apply below_drew1) | exact HB.out))) | (with_reducible refine Kd.C_alloc ?_ _) | (with_reducible refine Kd.C_drewN ?_ _) | (with_reducible refine Kd.C_drew ?_))); (case side2 => exact HC0.out); rintro e w13 ⟨rfl, hb⟩; refine ⟨_, rfl, ?_⟩; have n0_ := Aside0.mk (below_step (by repeat (first | (with_reducible first | exact HB.out | apply below_alloc | apply pw_below_drewN | apply below_drew1) | exact HB.out)) hb); clear HB; have HB := n0_; clear n0_; (try clear hb); (try clear hb2); (try clear hk); (try clear hi)) | ((with_reducible refine gate_callee (f := 45) rfl ?_); refine goesL_ (some 22) rfl rfl Try.func45 (by kernel_rfl) rfl #[.slice A0 l0.length c0, .string a1] rfl (by (try simp only [List.map_toArray, List.map_cons, List.map_nil]); first | done | rfl | (simp only [List.length_drop, List.length_take]; rfl)) ?_; (with_reducible refine (spec_Joined.calls kj2 _ _ l0 a1 t360 _ ?side1 ?side2 A10.out).mono ?_); (case side1 => repeat (first | exact (Kd.C_below HR0.out HB.out) | (with_reducible refine Kd.C_alloc ?_ _) | (with_reducible refine Kd.C_drewN ?_ _) | (with_reducible refine Kd.C_drew ?_))); (case side2 => exact HC0.out); rintro e w' ⟨rfl, ⟨nd, rfl⟩⟩; refine ⟨_, rfl, ?_⟩) | ((with_reducible refine gate_dst (N := 25) rfl ?_); (try (refine gate_guard (by rfl) ?_; dsimp only)); refine Kd.R_lit Kd.string _ 9 ?hg (N := 25) ?hd (xs := ([(⟨#[97]⟩ : ByteArray), (⟨#[98]⟩ : ByteArray)] : List ByteArray)) (inner := [.string (⟨#[97]⟩ : ByteArray), .string (⟨#[98]⟩ : ByteArray)]) (ok := fun _ => True) (okp := fun _ => True) ?hr ?hp (fun _ hk => hk) trivial (Below.refl _ _) (Nat.le_refl _) (by simp) ?_; (case hd => rfl); (case hg => rfl); (case hr => first | (go_simp; done) | (go_simp; rfl)); (case hp => exact (Reps.one (show Kd.M Kd.string _ _ _ (⟨#[97]⟩ : ByteArray) [.string (⟨#[97]⟩ : ByteArray)] from rfl) (Reps.one (show Kd.M Kd.string _ _ _ (⟨#[98]⟩ : ByteArray) [.string (⟨#[98]⟩ : ByteArray)] from rfl) (Reps.none _ _)))); intro v362 w14 ho15 hb hg_ hnew_; clear hg_ hnew_; (first | rw [← Ny361.out] at ho15 | (simp only [Int.reduceToNat] at ho15; rw [← Ny361.out] at ho15)); have n0_ := Aside0.mk (Kd.R_lower ho15 (below_size (by repeat (first | (with_reducible first | exact HB.out | apply below_alloc | apply pw_below_drewN | apply below_drew1) | exact HB.out)))); have n1_ := Aside0.mk (below_step (by repeat (first | (with_reducible first | exact HB.out | apply below_alloc | apply pw_below_drewN | apply below_drew1) | exact HB.out)) hb); clear HB; have HO363 := n0_; have HB := n1_; clear n0_ n1_; clear hb ho15; obtain ⟨Ao16, co16, eo16⟩ := Kd.R_slice HO363.out; subst eo16) | (go_at_call 44; (with_reducible refine (impl_Joined.calls _ _ y361 (⟨#[45]⟩ : ByteArray) t364 _ ?side1 ?side2 A12.out).mono ?_); (case side1 => repeat (first | exact (Kd.R_reads' HO363.out).2.2 | (with_reducible refine Kd.C_alloc ?_ _) | (with_reducible refine Kd.C_drewN ?_ _) | (with_reducible refine Kd.C_drew ?_))); (case side2 => exact (Kd.R_reads' HO363.out).2.1); rintro e w17 ⟨rfl, hb⟩; have n0_ := Aside0.mk (Kd.R_below (by (with_reducible repeat (first | apply Kd.R_alloc | apply Kd.R_drewN | apply Kd.R_drew)); exact HO363.out) hb); have n1_ := Aside0.mk (below_step (by repeat (first | (with_reducible first | exact HB.out | apply below_alloc | apply pw_below_drewN | apply below_drew1) | exact HB.out)) hb); clear HO363; clear HB; have HO363 := n0_; have HB := n1_; clear n0_ n1_; (try clear hb); (try clear hb2); (try clear hk); (try clear hi)))
            go_ret
            exact ⟨by first | rfl | (simp [errW_none, errW_some] <;> rfl) | (simp [*, errW_none, errW_some] <;> rfl), by repeat (first | (with_reducible first | exact HB.out | apply below_alloc | apply pw_below_drewN | apply below_drew1) | exact HB.out)⟩
          · rw [if_neg c11] at H
            have c11b0 : (t359.toList == t360.toList) = false := beq_eq_false_iff_ne.mpr c11
            have c11b1 : (t359.toList != t360.toList) = true := bne_iff_ne.mpr c11
            obtain rfl := Option.some.inj H
            go_wp2_with (first | ((with_reducible refine gate_callee (f := 43) rfl ?_); refine goesL_ (some 15) rfl rfl Try.func43 (by kernel_rfl) rfl #[.slice A0 l0.length c0, .string a1] rfl (by (try simp only [List.map_toArray, List.map_cons, List.map_nil]); first | done | rfl | (simp only [List.length_drop, List.length_take]; rfl)) ?_; (with_reducible refine (laws_slight.calls kj2 _ _ l0 a1 true _ ?side1 ?side2 A7.out).mono ?_); (case side1 => repeat (first | exact (Kd.C_below HR0.out HB.out) | (with_reducible refine Kd.C_alloc ?_ _) | (with_reducible refine Kd.C_drewN ?_ _) | (with_reducible refine Kd.C_drew ?_))); (case side2 => exact HC0.out); rintro e w' ⟨rfl, ⟨nd, rfl⟩⟩; refine ⟨_, rfl, ?_⟩) | ((with_reducible refine gate_callee (f := 44) rfl ?_); refine goesL_ (some 19) rfl rfl Try.func44 (by kernel_rfl) rfl #[.slice A0 l0.length c0, .string a1] rfl (by (try simp only [List.map_toArray, List.map_cons, List.map_nil]); first | done | rfl | (simp only [List.length_drop, List.length_take]; rfl)) ?_; (with_reducible refine (impl_Joined.calls _ _ l0 a1 t359 _ ?side1 ?side2 A9.out).mono ?_); (case side1 => repeat (first | exact (Kd.C_below HR0.out (by repeat (first | (with_reducible first | exact HB.out | apply below_alloc | apply pw_below_drewN | apply below_drew1) | exact HB.out))) | (with_reducible refine Kd.C_alloc ?_ _) | (with_reducible refine Kd.C_drewN ?_ _) | (with_reducible refine Kd.C_drew ?_))); (case side2 => exact HC0.out); rintro e w18 ⟨rfl, hb⟩; refine ⟨_, rfl, ?_⟩; have n0_ := Aside0.mk (below_step (by repeat (first | (with_reducible first | exact HB.out | apply below_alloc | apply pw_below_drewN | apply below_drew1) | exact HB.out)) hb); clear HB; have HB := n0_; clear n0_; (try clear hb); (try clear hb2); (try clear hk); (try clear hi)) | ((with_reducible refine gate_callee (f := 45) rfl ?_); refine goesL_ (some 22) rfl rfl Try.func45 (by kernel_rfl) rfl #[.slice A0 l0.length c0, .string a1] rfl (by (try simp only [List.map_toArray, List.map_cons, List.map_nil]); first | done | rfl | (simp only [List.length_drop, List.length_take]; rfl)) ?_; (with_reducible refine (spec_Joined.calls kj2 _ _ l0 a1 t360 _ ?side1 ?side2 A10.out).mono ?_); (case side1 => repeat (first | exact (Kd.C_below HR0.out HB.out) | (with_reducible refine Kd.C_alloc ?_ _) | (with_reducible refine Kd.C_drewN ?_ _) | (with_reducible refine Kd.C_drew ?_))); (case side2 => exact HC0.out); rintro e w' ⟨rfl, ⟨nd, rfl⟩⟩; refine ⟨_, rfl, ?_⟩))
            go_ret
            exact ⟨by first | rfl | (simp [errW_none, errW_some] <;> rfl) | (simp [*, errW_none, errW_some] <;> rfl), by repeat (first | (with_reducible first | exact HB.out | apply below_alloc | apply pw_below_drewN | apply below_drew1) | exact HB.out)⟩
        · replace c8 := Bool.eq_false_iff.mpr c8
          subst c8
          have H1 : (some true) = some r := by rw [if_neg (show ¬ (false = true) by decide)] at H; exact H
          clear H
          have H := H1
          clear H1
          obtain rfl := Option.some.inj H
          go_wp2_with (first | ((with_reducible refine gate_callee (f := 43) rfl ?_); refine goesL_ (some 15) rfl rfl Try.func43 (by kernel_rfl) rfl #[.slice A0 l0.length c0, .string a1] rfl (by (try simp only [List.map_toArray, List.map_cons, List.map_nil]); first | done | rfl | (simp only [List.length_drop, List.length_take]; rfl)) ?_; (with_reducible refine (laws_slight.calls kj2 _ _ l0 a1 false _ ?side1 ?side2 A7.out).mono ?_); (case side1 => repeat (first | exact (Kd.C_below HR0.out HB.out) | (with_reducible refine Kd.C_alloc ?_ _) | (with_reducible refine Kd.C_drewN ?_ _) | (with_reducible refine Kd.C_drew ?_))); (case side2 => exact HC0.out); rintro e w' ⟨rfl, ⟨nd, rfl⟩⟩; refine ⟨_, rfl, ?_⟩))
          go_ret
          exact ⟨by first | rfl | (simp [errW_none, errW_some] <;> rfl) | (simp [*, errW_none, errW_some] <;> rfl), by repeat (first | (with_reducible first | exact HB.out | apply below_alloc | apply pw_below_drewN | apply below_drew1) | exact HB.out)⟩

/-- THE ONE PURE STATEMENT of laws_FnJoined: yours. -/
def laws_FnJoined.Pure : Prop := ∀ (l0 : List ByteArray) (a1 : ByteArray), (l0.length ≤ maxLen ∧ ∀ y ∈ l0, y.size ≤ maxLen) → a1.size ≤ maxLen → ∃ k, laws_FnJoined.f k l0 a1 = some true

/-! ### impl_inPairs: function 65 -/
def impl_inPairs.l0 : Nat → List (S120) → List (S48) → Int → Int → Option ((List (S120)))
  | 0, _, _, _, _ => none
  | k + 1, x3, x6, x7, x8 => if x8 < x7 then (if 0 ≤ x8 then (if x8 < (x6.length : Int) then (if x3.length < 4398046511104 then (impl_inPairs.l0 k (x3 ++ [(⟨(rd_T48 x6 x8).f0, (rd_T48 x6 x8).f1⟩ : S120)]) x6 x7 (wrap64 (x8 + 1))) else (none)) else (none)) else (none)) else (some x3)
def impl_inPairs.f (k : Nat) (l0 : List (S48)) : Option ((List (S120))) := impl_inPairs.l0 k ([] : List (S120)) l0 (l0.length : Int) 0
theorem impl_inPairs.mono_l : ∀ k, (∀ y0 y1 y2 y3, LeO (impl_inPairs.l0 k y0 y1 y2 y3) (impl_inPairs.l0 (k + 1) y0 y1 y2 y3))
  | 0 => fun _ _ _ _ r h => by simp [impl_inPairs.l0] at h
  | k + 1 => by
    have ih0 := impl_inPairs.mono_l k
    · intro y0 y1 y2 y3
      unfold impl_inPairs.l0
      repeat' first
      | (with_reducible exact ih0 _ _ _ _)
      | (with_reducible exact LeO.refl _)
      | (with_reducible exact LeO.none _)
      | (with_reducible refine LeO.ite ?_ ?_)
      | (with_reducible refine LeO.bind ?_ (fun _ => ?_))
      | exact ih0 _ _ _ _
      | exact LeO.none _
      | refine LeO.ite ?_ ?_
      | refine LeO.bind ?_ (fun _ => ?_)
theorem impl_inPairs.mono : ∀ a0 k, LeO (impl_inPairs.f k a0) (impl_inPairs.f (k + 1) a0) := by
  intro a0 k
  have ih0 := impl_inPairs.mono_l k
  unfold impl_inPairs.f
  repeat' first
      | (with_reducible exact ih0 _ _ _ _)
      | (with_reducible exact LeO.refl _)
      | (with_reducible exact LeO.none _)
      | (with_reducible refine LeO.ite ?_ ?_)
      | (with_reducible refine LeO.bind ?_ (fun _ => ?_))
      | exact ih0 _ _ _ _
      | exact LeO.none _
      | refine LeO.ite ?_ ?_
      | refine LeO.bind ?_ (fun _ => ?_)
set_option maxHeartbeats 8000000 in
set_option maxRecDepth 100000 in
theorem impl_inPairs.calls (k : Nat) (A0 : Option Addr) (c0 : Nat) (l0 : List (S48)) (r : List (S120)) (w : World) (hr0 : Kd.C k48 w A0 l0.length l0) (hc0 : l0.length ≤ c0) (h : impl_inPairs.f k l0 = some r) :
    Calls Try.prog 65 #[.slice A0 l0.length c0] w fun e w' => ∃ v0_ : Value, e = .returned (v0_) ∧ Kd.R k120 120 w' w.heap.size (fun _ => True) v0_ r ∧ Below w.heap.size w w' := by
  have hu48 := Try.underlying48
  have hu120 := Try.underlying120
  have HR0 := Aside0.mk hr0
  have HC0 := Aside0.mk hc0
  clear hr0 hc0
  have HB := Aside0.mk (Below.refl w.heap.size w)
  have H : (impl_inPairs.l0 k ([] : List (S120)) l0 (l0.length : Int) 0) = some r := h
  clear h
  have H' := Aside0.mk H
  clear H
  go_enter Try.func65, Try.ntmps65
  go_wp2
  go_loopg [3, 8] k (fun kq v3 v8 w' => ∃ (x3_1 : List (S120)) (x8_1 : Int), v8 = .int .i64 x8_1 ∧ Aside0 (impl_inPairs.l0 kq x3_1 l0 (l0.length : Int) x8_1 = some r) ∧ Aside0 (kq ≤ k) ∧ Aside0 (Kd.R k120 120 w' w.heap.size (fun _ => True) v3 x3_1) ∧ Aside0 (Below w.heap.size w w'))
  case atStart => exact ⟨(([] : List (S120))), (0), (by first | rfl | (simp; done) | (simp [*]; done)), H', ⟨Nat.le_refl _⟩, ⟨by first | exact Kd.R_nil _ _ _ _ _ | exact Kd.N_nil _ _ _ _ _ | exact Kd.V_nil _ _ _ _ _ | exact Kd.Q_nil _ _ _ _ _ | exact Kd.S_nil _ _ _ _ _⟩, ⟨by repeat (first | (with_reducible first | exact HB.out | apply below_alloc | apply pw_below_drewN | apply below_drew1) | exact HB.out)⟩⟩
  case round =>
    clear H'
    obtain ⟨x3_1, x8_1, rfl, HA, HK1, HO_3, HB⟩ := hrel
    cases gk with
    | zero => exact absurd HA.out (by simp [impl_inPairs.l0])
    | succ k1 =>
      have H := HA.out
      clear HA
      simp only [impl_inPairs.l0] at H
      by_cases c2 : x8_1 < (l0.length : Int)
      · rw [if_pos c2] at H
        have c2b0 : decide (x8_1 < (l0.length : Int)) = true := decide_eq_true c2
        clear c2
        by_cases c3 : 0 ≤ x8_1
        · rw [if_pos c3] at H
          have c3b0 : decide (0 ≤ x8_1) = true := decide_eq_true c3
          clear c3
          by_cases c4 : x8_1 < (l0.length : Int)
          · rw [if_pos c4] at H
            have c4b0 : decide (x8_1 < (l0.length : Int)) = true := decide_eq_true c4
            clear c4
            by_cases c5 : x3_1.length < 4398046511104
            · rw [if_pos c5] at H
              have LMc5 := Aside0.mk c5
              clear c5
              obtain ⟨y367, hy367⟩ : ∃ y_ : List (S120), y_ = (x3_1 ++ [(⟨(rd_T48 l0 x8_1).f0, (rd_T48 l0 x8_1).f1⟩ : S120)]) := ⟨_, rfl⟩
              replace H : (impl_inPairs.l0 k1 y367 l0 (l0.length : Int) (wrap64 (x8_1 + 1))) = some r := by first | (rw [hy367]; with_reducible exact H) | (have H2_ := (Option.bind_some _ _).symm.trans H; rw [hy367]; with_reducible exact H2_) | (have H2_ := (Option.bind_some _ _).symm.trans H; with_reducible exact H2_) | with_reducible exact H | (rw [hy367]; exact H) | exact H
              have Ny367 := Aside0.mk hy367
              clear hy367
              have H' := Aside0.mk H
              clear H
              have p365 : 0 ≤ (x8_1 : Int) := of_decide_eq_true (by first | (with_reducible assumption) | assumption)
              have q365 : x8_1 < (l0.length : Int) := of_decide_eq_true (by first | (with_reducible assumption) | assumption)
              obtain ⟨ad365, e365, hx365_0, hx365_1⟩ := at_T48 HR0.out x8_1 p365 q365
              cases e365
              replace hx365_0 := (HB.out.cell (World.block_lt_of_cell? w _ hx365_0)).trans hx365_0
              replace hx365_1 := (HB.out.cell (World.block_lt_of_cell? w _ hx365_1)).trans hx365_1
              replace p365 := eq_true p365
              replace q365 := eq_true q365
              go_wp2_with (first | ((with_reducible refine gate_dst (N := 5) rfl ?_); refine box_event ?hg (N := 5) ?hd (cs := #[.string (⟨#[]⟩ : ByteArray), .string (⟨#[]⟩ : ByteArray)]) (t := 48) ?hr ?_; (case hd => rfl); (case hg => rfl); (case hr => first | (go_simp; done) | (go_simp; rfl)); intro gb366 hg w6 hbox hb; have n0_ := Aside0.mk (Kd.R_below (by (with_reducible repeat (first | apply Kd.R_alloc | apply Kd.R_drewN | apply Kd.R_drew)); exact HO_3.out) hb); have n1_ := Aside0.mk (below_step (by repeat (first | (with_reducible first | exact HB.out | apply below_alloc | apply pw_below_drewN | apply below_drew1) | exact HB.out)) hb); have n2_ := Aside0.mk (hbox); have n3_ := Aside0.mk ((by rw [hg]; exact (below_size (by repeat (first | (with_reducible first | exact HB.out | apply below_alloc | apply pw_below_drewN | apply below_drew1) | exact HB.out))) : w.heap.size ≤ gb366)); have n4_ := Aside0.mk ((by rw [hg]; exact (below_size (by repeat (first | (with_reducible first | exact HB.out | apply below_alloc | apply pw_below_drewN | apply below_drew1) | exact HB.out))) : w.heap.size ≤ gb366)); clear HO_3; clear HB; have HO_3 := n0_; have HB := n1_; have BK366 := n2_; have GW366 := n3_; have GE366 := n4_; clear n0_ n1_ n2_ n3_ n4_; clear hb hbox hg; have hcz7_0 : w6.cell? ⟨gb366, 0, none⟩ = some (.string (⟨#[]⟩ : ByteArray)) := (blk_cell BK366.out 0).trans rfl; have hcz7_1 : w6.cell? ⟨gb366, 1, none⟩ = some (.string (⟨#[]⟩ : ByteArray)) := (blk_cell BK366.out 1).trans rfl; have hfz7_0 := blk_frozen BK366.out 0; have hfz7_1 := blk_frozen BK366.out 1) | ((with_reducible refine gate_builtin (b := .append) (xs := #[.tmp 12, .tmp 18]) rfl ?_); at_builtin; refine Kd.R_append k120 (w0 := w) w.heap.size rfl (.tmp 12) (.tmp 18) 103 120 (.agg #[(.string ⟨#[]⟩), (.string ⟨#[]⟩)]) 32 rfl Try.underlying103 info120 rfl (by decide) (by omega) u3 x3_1 (⟨(rd_T48 l0 x8_1).f0, (rd_T48 l0 x8_1).f1⟩ : S120) [.string ((rd_T48 l0 x8_1).f0), .string ((rd_T48 l0 x8_1).f1)] (fun _ => True) (fun _ => False) rfl (by first | (go_simp; done) | (go_simp; rfl)) ?aP (fun _ hk => hk.elim) ?aF ?aO ?aB ?aS ?aL ?_; (case aP => exact k120_mkM _ _ _ (⟨(rd_T48 l0 x8_1).f0, (rd_T48 l0 x8_1).f1⟩ : S120)); (case aB => exact (by repeat (first | (with_reducible first | exact HB.out | apply below_alloc | apply pw_below_drewN | apply below_drew1 | refine below_set ?_ GE366.out) | exact HB.out))); (case aF => exact (fun _ _ => trivial)); (case aO => exact (by (with_reducible repeat (first | apply Kd.R_alloc | apply Kd.R_drewN | apply Kd.R_drew)); exact Kd.R_mono (Kd.R_far (p := ⟨gb366, 1, none⟩) (Kd.R_far (p := ⟨gb366, 0, none⟩) (Kd.R_types HO_3.out BK366.out (by decide)) (fun _ hk => hk.2) (.string ((rd_T48 l0 x8_1).f0))) (fun _ hk => hk.2) (.string ((rd_T48 l0 x8_1).f1))) (fun _ hk => trivial))); (case aS => exact (below_size (by repeat (first | (with_reducible first | exact HB.out | apply below_alloc | apply pw_below_drewN | apply below_drew1 | refine below_set ?_ GE366.out) | exact HB.out)))); (case aL => have := LMc5.out; omega); intro v368 w8 ho hb hg hat; rw [← Ny367.out] at ho; have n0_ := Aside0.mk (blk_grown (g := gb366) (o := .cells #[.string ((rd_T48 l0 x8_1).f0), .string ((rd_T48 l0 x8_1).f1)] 48 (0, 0)) (by (with_reducible repeat (first | refine blk_drewN ?_ _ | refine blk_drew ?_ | refine blk_alloc ?_ _)); refine blk_put (cs := #[.string ((rd_T48 l0 x8_1).f0), .string (⟨#[]⟩ : ByteArray)]) ?_ 1 _ rfl; (with_reducible repeat (first | refine blk_drewN ?_ _ | refine blk_drew ?_ | refine blk_alloc ?_ _)); refine blk_put (cs := #[.string (⟨#[]⟩ : ByteArray), .string (⟨#[]⟩ : ByteArray)]) ?_ 0 _ rfl; (with_reducible repeat (first | refine blk_drewN ?_ _ | refine blk_drew ?_ | refine blk_alloc ?_ _)); exact BK366.out) hg (Kd.R_ne HO_3.out BK366.out (by decide))); have n1_ := Aside0.mk (hb); have n2_ := Aside0.mk (ho); clear BK366; clear HB; clear HO_3; have BK366 := n0_; have HB := n1_; have HO369 := n2_; clear n0_ n1_ n2_; clear ho hb hg hat))
              go_roundg k1
              case measure => have := HK1.out; omega
              case rel => exact ⟨(y367), (wrap64 (x8_1 + 1)), (by first | rfl | (simp; done) | (simp [*]; done)), H', ⟨by have := HK1.out; omega⟩, ⟨by (with_reducible repeat (first | apply Kd.R_alloc | apply Kd.R_drewN | apply Kd.R_drew)); exact HO369.out⟩, ⟨by repeat (first | (with_reducible first | exact HB.out | apply below_alloc | apply pw_below_drewN | apply below_drew1 | refine below_set ?_ GE366.out) | exact HB.out)⟩⟩
            · rw [if_neg c5] at H
              exact absurd H (by simp)
          · rw [if_neg c4] at H
            exact absurd H (by simp)
        · rw [if_neg c3] at H
          exact absurd H (by simp)
      · rw [if_neg c2] at H
        have c2b0 : decide (x8_1 < (l0.length : Int)) = false := decide_eq_false c2
        clear c2
        obtain rfl := Option.some.inj H
        go_wp2
        go_ret
        exact ⟨_, by first | rfl | (simp [errW_none, errW_some] <;> rfl) | (simp [*, errW_none, errW_some] <;> rfl), by (with_reducible repeat (first | apply Kd.R_alloc | apply Kd.R_drewN | apply Kd.R_drew)); exact HO_3.out, by repeat (first | (with_reducible first | exact HB.out | apply below_alloc | apply pw_below_drewN | apply below_drew1) | exact HB.out)⟩

/-! ### utf8_appendRuneNonASCII: function 92 -/
-- contracts that were proved by hand
-- nothing told here: the shelf's contract of the Builder stands in its place


/-! ### utf8_AppendRune: function 89 -/
-- contracts that were proved by hand
-- nothing told here: the shelf's contract of the Builder stands in its place


-- NOT PRINTED: function 76 (strings_Builder_WriteRune)

/-! ### template_Pairs_String: function 66 -/
-- a contract that was proved by hand
def pairsL : List S120 → List UInt8
  | [] => []
  | p :: r => p.f0.data.toList ++ ([61] ++ (p.f1.data.toList ++ ((match r with | [] => [] | _ :: _ => [44, 32]) ++ pairsL r)))
def template_Pairs_String.f (l0 : List S120) : Option ByteArray := if l0.length ≤ maxLen ∧ (pairsL l0).length + 8 ≤ 140737488355328 then some ⟨(pairsL l0).toArray⟩ else none
theorem sb_isF {B b : Nat} {bs : List Value} {w : World} (h : Lib.BuilderAtF 123 5 B b (.pointer (some ⟨b, 0, none⟩)) bs w) : Lib.IsBuilderF 123 5 B b bs w := .inr h
theorem sb_new (w : World) : Lib.IsBuilderF 123 5 w.heap.size w.heap.size (Lib.byteCells []) (w.alloc (.cells #[.pointer none, .slice none 0 0] 123)) := by
  refine .inl ⟨Nat.le_refl _, .slice none 0 0, Box.new_at rfl _, ?_, by simp [Value.ownBlock]⟩
  exact World.ownsRowF_nil _ _ _ _
theorem pairsL_cons (p : S120) (r : List S120) : pairsL (p :: r) = p.f0.data.toList ++ ([61] ++ (p.f1.data.toList ++ ((if r = [] then [] else [44, 32]) ++ pairsL r))) := by
  cases r <;> rfl
theorem runeEq : Lib.runeCells 61 = Lib.byteCells [61] := by unfold Lib.runeCells; rw [Lib.encodeRuneZ_one (by decide) (by decide)]; rfl
theorem cells_all (acc : List UInt8) (x y : ByteArray) : Lib.byteCells acc ++ Lib.strCells x ++ Lib.runeCells 61 ++ Lib.strCells y = Lib.byteCells (acc ++ x.data.toList ++ [61] ++ y.data.toList) := by rw [runeEq, Lib.strCells_eq, Lib.strCells_eq, Lib.byteCells_append, Lib.byteCells_append, Lib.byteCells_append]
theorem kept_pair {b k : Nat} {w w' : World} {c : Array Value} (h : Lib.OthersKept 5 (some b) w w') (hk : w.heap[k]? = some (.cells c 120 (0, 0))) (hb : b < k) : w'.heap[k]? = some (.cells c 120 (0, 0)) :=
  h k _ hk (fun e => by injection e with e; omega) (fun c' fz e => by injection e with _ e; exact absurd e (by decide))
theorem sep_cells : Lib.strCells (⟨#[44, 32]⟩ : ByteArray) = Lib.byteCells [44, 32] := rfl
set_option maxHeartbeats 3200000 in
set_option maxRecDepth 100000 in
theorem template_Pairs_String.calls (A0 : Option Addr) (c0 : Nat) (l0 : List S120) (r : ByteArray) (w : World) (hr0 : Kd.C k120 w A0 l0.length l0) (hc0 : l0.length ≤ c0) (h : template_Pairs_String.f l0 = some r) :
    Calls Try.prog 66 #[.slice A0 l0.length c0] w fun e w' => e = .returned (.string r) ∧ Below w.heap.size w w' := by
  unfold template_Pairs_String.f at h
  split at h
  · rename_i hl
    obtain ⟨h1, h2⟩ := hl
    obtain rfl := Option.some.inj h
    clear h hc0
    unfold maxLen at h1
    obtain ⟨T, hT⟩ : ∃ T, pairsL l0 = T := ⟨_, rfl⟩
    rw [hT] at h2 ⊢
    have HT := Aside0.mk hT
    have H2 := Aside0.mk h2
    have HR := Aside0.mk hr0
    have hb := Aside0.mk (sb_new w)
    clear hT h2 hr0
    go_enter Try.func66, Try.ntmps66
    go_wp2
    go_loopw [9] (fun v9 wr => ∃ j : Nat, j ≤ l0.length ∧ v9 = .int .i64 j ∧ Aside0 (∃ acc : List UInt8, acc ++ pairsL (l0.drop j) = T ∧ Lib.IsBuilderF 123 5 w.heap.size w.heap.size (Lib.byteCells acc) wr) ∧ Aside0 (Below w.heap.size w wr)) (fun v9 _ => l0.length - (intOf v9).toNat)
    case atStart => exact ⟨0, Nat.zero_le _, rfl, ⟨[], HT.out, hb.out⟩, ⟨below_alloc (Below.refl _ _) _⟩⟩
    case round =>
      clear hb HT
      obtain ⟨j, hj, rfl, HA, HB⟩ := hrel
      obtain ⟨acc, hacc, hbu⟩ := HA.out
      have HU := Aside0.mk hbu
      clear hbu HA
      by_cases hlt : j < l0.length
      · obtain ⟨ad, e0, hx0, hx1⟩ := at_T120 (Kd.C_below HR.out HB.out) (j : Int) (by omega) (by omega)
        cases e0
        simp only [Int.toNat_natCast] at hx0 hx1
        have hd : l0.drop j = rd_T120 l0 (j : Int) :: l0.drop (j + 1) := by rw [List.drop_eq_getElem_cons hlt]; congr 1; simp [rd_T120, hlt]
        rw [hd, pairsL_cons] at hacc
        generalize rd_T120 l0 (j : Int) = p at *
        obtain ⟨x, y⟩ := p
        simp only at hacc hx0 hx1
        have hlen := congrArg List.length hacc
        simp only [List.length_append] at hlen
        have L2 := H2.out
        have hsx : x.data.toList.length = x.size := rfl
        have hsy : y.data.toList.length = y.size := rfl
        obtain ⟨q, hq⟩ : ∃ q, decide (l0.drop (j + 1) = []) = q := ⟨_, rfl⟩
        have hw : wrap64 ((l0.length : Int) - 1) = (l0.length : Int) - 1 := by simp only [wrap64]; omega
        have hc : decide ((j : Int) < (l0.length : Int) - 1) = !q := by
          rw [← hq, ← decide_not]
          refine decide_eq_decide.2 ?_
          rw [List.drop_eq_nil_iff]
          omega
        have LX := Aside0.mk (show (Lib.byteCells acc).length + x.size ≤ 140737488355328 by rw [Lib.byteCells_length]; omega)
        have LR := Aside0.mk (show (Lib.byteCells acc ++ Lib.strCells x).length + 4 ≤ 140737488355328 by rw [List.length_append, Lib.byteCells_length, Lib.strCells_eq, Lib.byteCells_length]; omega)
        have LY := Aside0.mk (show (Lib.byteCells acc ++ Lib.strCells x ++ Lib.runeCells 61).length + y.size ≤ 140737488355328 by rw [runeEq, List.length_append, List.length_append, Lib.byteCells_length, Lib.strCells_eq, Lib.byteCells_length, Lib.byteCells_length]; simp only [List.length_cons, List.length_nil]; omega)
        have LS := Aside0.mk (show (Lib.byteCells acc ++ Lib.strCells x ++ Lib.runeCells 61 ++ Lib.strCells y).length + 2 ≤ 140737488355328 by rw [runeEq, List.length_append, List.length_append, List.length_append, Lib.byteCells_length, Lib.strCells_eq, Lib.byteCells_length, Lib.byteCells_length, Lib.strCells_eq, Lib.byteCells_length]; simp only [List.length_cons, List.length_nil]; omega)
        have HACC := Aside0.mk hacc
        clear hacc hlen L2 hsx hsy hd
        have HW := Aside0.mk (show w.heap.size ≤ wr.heap.size from below_size HB.out)
        have HLT := Aside0.mk (show w.heap.size < wr.heap.size by rcases HU.out with h | h <;> exact h.lt)
        go_wp2_with fail
        have HP0 := Aside0.mk (show (wr.alloc (Obj.cells #[.string x, .string y] 120)).heap[wr.heap.size]? = some (.cells #[.string x, .string y] 120 (0, 0)) from Box.new_at rfl _)
        have HB0 := Aside0.mk (below_alloc HB.out (Obj.cells #[.string x, .string y] 120))
        refine (Try.sbWriteString w.heap.size w.heap.size _ x _ (HU.out.alloc _) LX.out (below_size HB0.out)).mono ?_
        rintro e w1 ⟨rfl, hA1, hB1, hK1⟩
        have HP1 := Aside0.mk (kept_pair hK1 HP0.out HLT.out)
        have HB1 := Aside0.mk (HB0.out.trans hB1)
        have HA1 := Aside0.mk hA1
        clear hA1 hB1 hK1 HP0 HB0 HU hx0 hx1 LX
        go_wp2_with fail
        refine (Try.sbWriteRune w.heap.size w.heap.size _ 61 (by decide) (by decide) _ (sb_isF HA1.out) LR.out (below_size HB1.out)).mono ?_
        rintro e w2 ⟨rfl, hA2, hB2, hK2⟩
        have hp2 := kept_pair hK2 HP1.out HLT.out
        have h21 : w2.cell? ⟨wr.heap.size, 1, none⟩ = some (.string y) := (blk_cell hp2 1).trans rfl
        have HB2 := Aside0.mk (HB1.out.trans hB2)
        have HA2 := Aside0.mk hA2
        clear hA2 hB2 hK2 hp2 HP1 HB1 HA1 LR
        go_wp2_with fail
        refine (Try.sbWriteString w.heap.size w.heap.size _ y _ (sb_isF HA2.out) LY.out (below_size HB2.out)).mono ?_
        rintro e w3 ⟨rfl, hA3, hB3, hK3⟩
        have HB3 := Aside0.mk (HB2.out.trans hB3)
        have HA3 := Aside0.mk hA3
        clear hA3 hB3 hK3 h21 HB2 HA2 LY
        cases q with
        | true =>
          have hn := of_decide_eq_true hq
          go_wp2
          go_roundw
          case rel =>
            refine ⟨j + 1, by omega, by go_num, ⟨acc ++ x.data.toList ++ [61] ++ y.data.toList, ?_, ?_⟩, HB3⟩
            · rw [← HACC.out, if_pos hn]
              simp [List.append_assoc]
            · have h := HA3.out
              rw [cells_all] at h
              exact sb_isF h
          case measure => simp [intOf]; omega
        | false =>
          have hn := of_decide_eq_false hq
          go_wp2_with fail
          refine (Try.sbWriteString w.heap.size w.heap.size _ ⟨#[44, 32]⟩ _ (sb_isF HA3.out) LS.out (below_size HB3.out)).mono ?_
          rintro e w4 ⟨rfl, hA4, hB4, hK4⟩
          have HB4 := Aside0.mk (HB3.out.trans hB4)
          have HA4 := Aside0.mk hA4
          clear hA4 hB4 hK4 HB3 HA3
          go_wp2
          go_roundw
          case rel =>
            refine ⟨j + 1, by omega, by go_num, ⟨acc ++ x.data.toList ++ [61] ++ y.data.toList ++ [44, 32], ?_, ?_⟩, HB4⟩
            · rw [← HACC.out, if_neg hn]
              simp [List.append_assoc]
            · have h := HA4.out
              rw [cells_all, sep_cells, ← Lib.byteCells_append] at h
              exact sb_isF h
          case measure => simp [intOf]; omega
      · have hj2 : j = l0.length := by omega
        subst hj2
        rw [List.drop_of_length_le (Nat.le_refl _)] at hacc
        obtain rfl : acc = T := by simpa [pairsL] using hacc
        have HW := Aside0.mk (show w.heap.size ≤ wr.heap.size from below_size HB.out)
        clear hacc
        go_wp2_with fail
        refine (Try.sbString w.heap.size w.heap.size acc wr HU.out HW.out).mono ?_
        rintro e w2 ⟨rfl, _, hB2, _⟩
        have HB2 := Aside0.mk (HB.out.trans hB2)
        clear hB2 HB HU
        go_wp2
        go_ret
        exact ⟨rfl, HB2.out⟩
  · cases h


/-! ### impl_PairsText: function 40 -/
def impl_PairsText.f (k : Nat) (l0 : List (S48)) : Option (ByteArray) := (impl_inPairs.f k l0).bind fun t370 => ((template_Pairs_String.f t370).bind fun t373 => (some t373))
theorem impl_PairsText.mono : ∀ a0 k, LeO (impl_PairsText.f k a0) (impl_PairsText.f (k + 1) a0) := by
  intro a0 k
  unfold impl_PairsText.f
  repeat' first
      | (with_reducible exact impl_inPairs.mono _ _)
      | (with_reducible exact LeO.refl _)
      | (with_reducible exact LeO.none _)
      | (with_reducible refine LeO.ite ?_ ?_)
      | (with_reducible refine LeO.bind ?_ (fun _ => ?_))
      | exact impl_inPairs.mono _ _
      | exact LeO.none _
      | refine LeO.ite ?_ ?_
      | refine LeO.bind ?_ (fun _ => ?_)
set_option maxHeartbeats 8000000 in
set_option maxRecDepth 100000 in
theorem impl_PairsText.calls (k : Nat) (A0 : Option Addr) (c0 : Nat) (l0 : List (S48)) (r : ByteArray) (w : World) (hr0 : Kd.C k48 w A0 l0.length l0) (hc0 : l0.length ≤ c0) (h : impl_PairsText.f k l0 = some r) :
    Calls Try.prog 40 #[.slice A0 l0.length c0] w fun e w' => e = .returned (.string r) ∧ Below w.heap.size w w' := by
  have HR0 := Aside0.mk hr0
  have HC0 := Aside0.mk hc0
  clear hr0 hc0
  have HB := Aside0.mk (Below.refl w.heap.size w)
  have H : ((impl_inPairs.f k l0).bind fun t370 => ((template_Pairs_String.f t370).bind fun t373 => (some t373))) = some r := h
  clear h
  replace H := Option.bind_eq_some_iff.mp H
  obtain ⟨t370, A20, H⟩ := H
  replace H : ((template_Pairs_String.f t370).bind fun t373 => (some t373)) = some r := H
  have A2 := Aside0.mk A20
  clear A20
  replace H := Option.bind_eq_some_iff.mp H
  obtain ⟨t373, A30, H⟩ := H
  replace H : (some t373) = some r := H
  have A3 := Aside0.mk A30
  clear A30
  obtain rfl := Option.some.inj H
  go_enter Try.func40, Try.ntmps40
  go_wp2_with (first | ((with_reducible refine gate_callee (f := 65) rfl ?_); refine goesL_ (some 4) rfl rfl Try.func65 (by kernel_rfl) rfl #[.slice A0 l0.length c0] rfl (by (try simp only [List.map_toArray, List.map_cons, List.map_nil]); first | done | rfl | (simp only [List.length_drop, List.length_take]; rfl)) ?_; (with_reducible refine (impl_inPairs.calls k _ _ l0 t370 _ ?side1 ?side2 A2.out).mono ?_); (case side1 => repeat (first | exact HR0.out | (with_reducible refine Kd.C_alloc ?_ _) | (with_reducible refine Kd.C_drewN ?_ _) | (with_reducible refine Kd.C_drew ?_))); (case side2 => exact HC0.out); rintro e w4 ⟨v371, rfl, ho0, hb⟩; refine ⟨_, rfl, ?_⟩; have n0_ := Aside0.mk (Kd.R_lower ho0 (below_size (by repeat (first | (with_reducible first | exact HB.out | apply below_alloc | apply pw_below_drewN | apply below_drew1) | exact HB.out)))); have n1_ := Aside0.mk (below_step (by repeat (first | (with_reducible first | exact HB.out | apply below_alloc | apply pw_below_drewN | apply below_drew1) | exact HB.out)) hb); clear HB; have HO372 := n0_; have HB := n1_; clear n0_ n1_; (try clear hb); (try clear hb2); (try clear hk); (try clear hi); (try clear ho0); obtain ⟨Ao5, co5, eo5⟩ := Kd.R_slice HO372.out; subst eo5) | ((with_reducible refine gate_callee (f := 66) rfl ?_); refine goesL_ (some 5) rfl rfl Try.func66 (by kernel_rfl) rfl #[.slice Ao5 t370.length co5] rfl (by (try simp only [List.map_toArray, List.map_cons, List.map_nil]); first | done | rfl | (simp only [List.length_drop, List.length_take]; rfl)) ?_; (with_reducible refine (template_Pairs_String.calls _ _ t370 t373 _ ?side1 ?side2 A3.out).mono ?_); (case side1 => repeat (first | exact (Kd.R_reads' HO372.out).2.2 | (with_reducible refine Kd.C_alloc ?_ _) | (with_reducible refine Kd.C_drewN ?_ _) | (with_reducible refine Kd.C_drew ?_))); (case side2 => exact (Kd.R_reads' HO372.out).2.1); rintro e w6 ⟨rfl, hb⟩; refine ⟨_, rfl, ?_⟩; have n0_ := Aside0.mk (Kd.R_below (by (with_reducible repeat (first | apply Kd.R_alloc | apply Kd.R_drewN | apply Kd.R_drew)); exact HO372.out) hb); have n1_ := Aside0.mk (below_step (by repeat (first | (with_reducible first | exact HB.out | apply below_alloc | apply pw_below_drewN | apply below_drew1) | exact HB.out)) hb); clear HO372; clear HB; have HO372 := n0_; have HB := n1_; clear n0_ n1_; (try clear hb); (try clear hb2); (try clear hk); (try clear hi)))
  go_ret
  exact ⟨by first | rfl | (simp [errW_none, errW_some] <;> rfl) | (simp [*, errW_none, errW_some] <;> rfl), by repeat (first | (with_reducible first | exact HB.out | apply below_alloc | apply pw_below_drewN | apply below_drew1) | exact HB.out)⟩

end Go.Proofs.Ytbffhefeepmpcaa.Q
