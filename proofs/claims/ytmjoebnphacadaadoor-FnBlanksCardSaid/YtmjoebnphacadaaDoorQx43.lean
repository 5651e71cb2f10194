-- printed by this project's own program wip/tools/mkprint.py (the kit's print.py with hand-proved contracts put in)
import Derived.Test.YtmjoebnphacadaaDoorQx0
namespace Go.Proofs.YtmjoebnphacadaaDoor.Q
open Go.RowKit Go.Proofs.YtmjoebnphacadaaDoorW.PrintWords Go.Proofs.YtmjoebnphacadaaDoorW.PrintLast Go.Proofs.YtmjoebnphacadaaDoorW.PrintMore
attribute [local go_sem] max2_int min2_int max_two min_two max_three min_three max_four min_four   -- for this text's walks alone
set_option linter.unusedVariables false
set_option linter.unusedSimpArgs false

/-! ### laws_gap: function 19 -/
noncomputable def laws_gap.f (a0 : Int) : Option (ByteArray) := (some (([(⟨#[]⟩ : ByteArray), (⟨#[32]⟩ : ByteArray), (⟨#[9]⟩ : ByteArray), (⟨#[10]⟩ : ByteArray), (⟨#[32, 32]⟩ : ByteArray), (⟨#[32, 13, 10]⟩ : ByteArray), (⟨#[11, 12]⟩ : ByteArray), (⟨#[194, 133, 194, 160]⟩ : ByteArray), (⟨#[226, 128, 131]⟩ : ByteArray)] : List ByteArray) : List ByteArray)).bind fun y151 => (if (y151.length : Int) = 0 then (none) else (if 0 ≤ (Int.tmod (wrap64 (a0)) (y151.length : Int)) then (if (Int.tmod (wrap64 (a0)) (y151.length : Int)) < (y151.length : Int) then (some (rdOf ByteArray.empty y151 (Int.tmod (wrap64 (a0)) (y151.length : Int)))) else (none)) else (none)))
set_option maxHeartbeats 8000000 in
set_option maxRecDepth 100000 in
theorem laws_gap.calls (a0 : Int) (r : ByteArray) (w : World) (h : laws_gap.f a0 = some r) :
    Calls Tryd.prog 19 #[.int .u8 a0] w fun e w' => e = .returned (.string r) ∧ Below w.heap.size w w' := by
  have HB := Aside0.mk (Below.refl w.heap.size w)
  have H : ((some (([(⟨#[]⟩ : ByteArray), (⟨#[32]⟩ : ByteArray), (⟨#[9]⟩ : ByteArray), (⟨#[10]⟩ : ByteArray), (⟨#[32, 32]⟩ : ByteArray), (⟨#[32, 13, 10]⟩ : ByteArray), (⟨#[11, 12]⟩ : ByteArray), (⟨#[194, 133, 194, 160]⟩ : ByteArray), (⟨#[226, 128, 131]⟩ : ByteArray)] : List ByteArray) : List ByteArray)).bind fun y151 => (if (y151.length : Int) = 0 then (none) else (if 0 ≤ (Int.tmod (wrap64 (a0)) (y151.length : Int)) then (if (Int.tmod (wrap64 (a0)) (y151.length : Int)) < (y151.length : Int) then (some (rdOf ByteArray.empty y151 (Int.tmod (wrap64 (a0)) (y151.length : Int)))) else (none)) else (none)))) = some r := h
  clear h
  obtain ⟨y151, hy151⟩ : ∃ y_ : List ByteArray, y_ = (([(⟨#[]⟩ : ByteArray), (⟨#[32]⟩ : ByteArray), (⟨#[9]⟩ : ByteArray), (⟨#[10]⟩ : ByteArray), (⟨#[32, 32]⟩ : ByteArray), (⟨#[32, 13, 10]⟩ : ByteArray), (⟨#[11, 12]⟩ : ByteArray), (⟨#[194, 133, 194, 160]⟩ : ByteArray), (⟨#[226, 128, 131]⟩ : ByteArray)] : List ByteArray)) := ⟨_, rfl⟩
  replace H : (if (y151.length : Int) = 0 then (none) else (if 0 ≤ (Int.tmod (wrap64 (a0)) (y151.length : Int)) then (if (Int.tmod (wrap64 (a0)) (y151.length : Int)) < (y151.length : Int) then (some (rdOf ByteArray.empty y151 (Int.tmod (wrap64 (a0)) (y151.length : Int)))) else (none)) else (none))) = some r := by first | (rw [hy151]; with_reducible exact H) | (have H2_ := (Option.bind_some _ _).symm.trans H; rw [hy151]; with_reducible exact H2_) | (have H2_ := (Option.bind_some _ _).symm.trans H; with_reducible exact H2_) | with_reducible exact H | (rw [hy151]; exact H) | exact H
  have Ny151 := Aside0.mk hy151
  clear hy151
  by_cases c2 : (y151.length : Int) = 0
  · rw [if_pos c2] at H
    exact absurd H (by simp)
  · rw [if_neg c2] at H
    have c2b0 : ((y151.length : Int) == 0) = false := beq_eq_false_iff_ne.mpr c2
    have c2b1 : ((y151.length : Int) != 0) = true := bne_iff_ne.mpr c2
    have c2b2 : ¬ (y151 = []) := fun h_ => c2 (by rw [h_]; rfl)
    obtain ⟨ji3, hji3⟩ : ∃ j_ : Int, (Int.tmod (wrap64 (a0)) (y151.length : Int)) = j_ := ⟨_, rfl⟩
    replace H : (if 0 ≤ (ji3) then (if (ji3) < (y151.length : Int) then (some (rdOf ByteArray.empty y151 (ji3))) else (none)) else (none)) = some r := by first | (rw [hji3] at H; exact H) | (simp only [hji3] at H ⊢; exact H)
    by_cases c4 : 0 ≤ (ji3)
    · rw [if_pos c4] at H
      have c4b0 : decide (0 ≤ (ji3)) = true := decide_eq_true c4
      clear c4
      by_cases c5 : (ji3) < (y151.length : Int)
      · rw [if_pos c5] at H
        have c5b0 : decide ((ji3) < (y151.length : Int)) = true := decide_eq_true c5
        clear c5
        obtain rfl := Option.some.inj H
        go_enter Tryd.func19, Tryd.ntmps19
        go_wp2_with (first | ((with_reducible refine gate_dst (N := 4) rfl ?_); refine Kd.R_lit Kd.string _ 9 ?hg (N := 4) ?hd (xs := ([(⟨#[]⟩ : ByteArray), (⟨#[32]⟩ : ByteArray), (⟨#[9]⟩ : ByteArray), (⟨#[10]⟩ : ByteArray), (⟨#[32, 32]⟩ : ByteArray), (⟨#[32, 13, 10]⟩ : ByteArray), (⟨#[11, 12]⟩ : ByteArray), (⟨#[194, 133, 194, 160]⟩ : ByteArray), (⟨#[226, 128, 131]⟩ : ByteArray)] : List ByteArray)) (inner := [.string (⟨#[]⟩ : ByteArray), .string (⟨#[32]⟩ : ByteArray), .string (⟨#[9]⟩ : ByteArray), .string (⟨#[10]⟩ : ByteArray), .string (⟨#[32, 32]⟩ : ByteArray), .string (⟨#[32, 13, 10]⟩ : ByteArray), .string (⟨#[11, 12]⟩ : ByteArray), .string (⟨#[194, 133, 194, 160]⟩ : ByteArray), .string (⟨#[226, 128, 131]⟩ : ByteArray)]) (ok := fun _ => True) (okp := fun _ => True) ?hr ?hp (fun _ hk => hk) trivial (Below.refl _ _) (Nat.le_refl _) (by simp) ?_; (case hd => rfl); (case hg => rfl); (case hr => first | (go_simp; done) | (go_simp; rfl)); (case hp => exact (Reps.one (show Kd.M Kd.string _ _ _ (⟨#[]⟩ : ByteArray) [.string (⟨#[]⟩ : ByteArray)] from rfl) (Reps.one (show Kd.M Kd.string _ _ _ (⟨#[32]⟩ : ByteArray) [.string (⟨#[32]⟩ : ByteArray)] from rfl) (Reps.one (show Kd.M Kd.string _ _ _ (⟨#[9]⟩ : ByteArray) [.string (⟨#[9]⟩ : ByteArray)] from rfl) (Reps.one (show Kd.M Kd.string _ _ _ (⟨#[10]⟩ : ByteArray) [.string (⟨#[10]⟩ : ByteArray)] from rfl) (Reps.one (show Kd.M Kd.string _ _ _ (⟨#[32, 32]⟩ : ByteArray) [.string (⟨#[32, 32]⟩ : ByteArray)] from rfl) (Reps.one (show Kd.M Kd.string _ _ _ (⟨#[32, 13, 10]⟩ : ByteArray) [.string (⟨#[32, 13, 10]⟩ : ByteArray)] from rfl) (Reps.one (show Kd.M Kd.string _ _ _ (⟨#[11, 12]⟩ : ByteArray) [.string (⟨#[11, 12]⟩ : ByteArray)] from rfl) (Reps.one (show Kd.M Kd.string _ _ _ (⟨#[194, 133, 194, 160]⟩ : ByteArray) [.string (⟨#[194, 133, 194, 160]⟩ : ByteArray)] from rfl) (Reps.one (show Kd.M Kd.string _ _ _ (⟨#[226, 128, 131]⟩ : ByteArray) [.string (⟨#[226, 128, 131]⟩ : ByteArray)] from rfl) (Reps.none _ _))))))))))); intro v152 w6 ho7 hb hg_ hnew_; clear hg_ hnew_; (first | rw [← Ny151.out] at ho7 | (simp only [Int.reduceToNat] at ho7; rw [← Ny151.out] at ho7)); have n0_ := Aside0.mk (Kd.R_lower ho7 (below_size (by repeat (first | (with_reducible first | exact HB.out | apply below_alloc | apply pw_below_drewN | apply below_drew1) | exact HB.out)))); have n1_ := Aside0.mk (below_step (by repeat (first | (with_reducible first | exact HB.out | apply below_alloc | apply pw_below_drewN | apply below_drew1) | exact HB.out)) hb); clear HB; have HO153 := n0_; have HB := n1_; clear n0_ n1_; clear hb ho7; obtain ⟨Ao8, co8, eo8⟩ := Kd.R_slice HO153.out; subst eo8; have p154 : 0 ≤ ((ji3) : Int) := of_decide_eq_true (by first | (with_reducible assumption) | assumption); have q154 : (ji3) < (y151.length : Int) := of_decide_eq_true (by first | (with_reducible assumption) | assumption); obtain ⟨ad154, e154, hx154_0⟩ := Kd.at_string (Kd.R_reads' HO153.out).2.2 (ji3) p154 q154; cases e154; replace p154 := eq_true p154; replace q154 := eq_true q154))
        go_ret
        exact ⟨by first | rfl | (simp [errW_none, errW_some] <;> rfl) | (simp only [← hji3]; first | rfl | (simp [errW_none, errW_some] <;> rfl)) | (simp [*, errW_none, errW_some] <;> rfl), by repeat (first | (with_reducible first | exact HB.out | apply below_alloc | apply pw_below_drewN | apply below_drew1) | exact HB.out)⟩
      · rw [if_neg c5] at H
        exact absurd H (by simp)
    · rw [if_neg c4] at H
      exact absurd H (by simp)

end Go.Proofs.YtmjoebnphacadaaDoor.Q
