-- printed by this project's own program wip/tools/mkprint.py (the kit's print.py with hand-proved contracts put in)
import Derived.Test.YthjameohenmeiaaQx0
import Derived.Test.YthjameohenmeiaaQx4
namespace Go.Proofs.Ythjameohenmeiaa.Q
open Go.RowKit Go.Proofs.YthjameohenmeiaaW.PrintWords Go.Proofs.YthjameohenmeiaaW.PrintLast Go.Proofs.YthjameohenmeiaaW.PrintMore
attribute [local go_sem] max2_int min2_int max_two min_two max_three min_three max_four min_four   -- for this text's walks alone
set_option linter.unusedVariables false
set_option linter.unusedSimpArgs false

/-! ### spec_Sorted: function 16 -/
mutual
def spec_Sorted.l0 : Nat → List (S50) → List (S50) → Int → Int → Option ((List (S50)))
  | 0, _, _, _, _ => none
  | k + 1, x0, x3, x7, x8 => if x8 < x7 then (spec_Sorted.l1 k x0 x3 x8 0 x7 x8) else (some x3)
def spec_Sorted.l1 : Nat → List (S50) → List (S50) → Int → Int → Int → Int → Option ((List (S50)))
  | 0, _, _, _, _, _, _ => none
  | k + 1, x0, x3, x4, x5, x7, x8 => if x5 < (x3.length : Int) then (if 0 ≤ x5 then (if 0 ≤ x4 then (if x4 < (x0.length : Int) then ((spec_Order.f ((rd_T50 x3 x5).f0) ((rd_T50 x3 x5).f1) ((rd_T50 x3 x5).f2) ((rd_T50 x0 x4).f0) ((rd_T50 x0 x4).f1) ((rd_T50 x0 x4).f2)).bind fun t120 => (if t120 ≤ 0 then (spec_Sorted.l1 k x0 x3 x4 (wrap64 (x5 + 1)) x7 x8) else ((some (([] : List (S50)) : List (S50))).bind fun y121 => (if x5 ≤ (x3.length : Int) then ((some (x3.take (x5 : Int).toNat : List (S50))).bind fun y124 => (if y121.length + y124.length < 3518437208883 then ((some (y121 ++ y124 : List (S50))).bind fun y128 => ((some (([(⟨(rd_T50 x0 x4).f0, (rd_T50 x0 x4).f1, (rd_T50 x0 x4).f2⟩ : S50)] : List (S50)) : List (S50))).bind fun y132 => (if y128.length + y132.length < 3518437208883 then ((some (y128 ++ y132 : List (S50))).bind fun y135 => ((some (x3.drop (x5 : Int).toNat : List (S50))).bind fun y138 => (if y135.length + y138.length < 3518437208883 then (spec_Sorted.l0 k x0 (y135 ++ y138) x7 (wrap64 (x8 + 1))) else (none)))) else (none)))) else (none))) else (none))))) else (none)) else (none)) else (none)) else ((some (([] : List (S50)) : List (S50))).bind fun y145 => (if 0 ≤ x5 then (if x5 ≤ (x3.length : Int) then ((some (x3.take (x5 : Int).toNat : List (S50))).bind fun y148 => (if y145.length + y148.length < 3518437208883 then ((some (y145 ++ y148 : List (S50))).bind fun y152 => (if 0 ≤ x4 then (if x4 < (x0.length : Int) then ((some (([(⟨(rd_T50 x0 x4).f0, (rd_T50 x0 x4).f1, (rd_T50 x0 x4).f2⟩ : S50)] : List (S50)) : List (S50))).bind fun y156 => (if y152.length + y156.length < 3518437208883 then ((some (y152 ++ y156 : List (S50))).bind fun y159 => ((some (x3.drop (x5 : Int).toNat : List (S50))).bind fun y162 => (if y159.length + y162.length < 3518437208883 then (spec_Sorted.l0 k x0 (y159 ++ y162) x7 (wrap64 (x8 + 1))) else (none)))) else (none))) else (none)) else (none))) else (none))) else (none)) else (none)))
end
def spec_Sorted.f (k : Nat) (l0 : List (S50)) : Option ((List (S50))) := spec_Sorted.l0 k l0 ([] : List (S50)) (l0.length : Int) 0
theorem spec_Sorted.mono_l : ∀ k, (∀ y0 y1 y2 y3, LeO (spec_Sorted.l0 k y0 y1 y2 y3) (spec_Sorted.l0 (k + 1) y0 y1 y2 y3)) ∧ (∀ y0 y1 y2 y3 y4 y5, LeO (spec_Sorted.l1 k y0 y1 y2 y3 y4 y5) (spec_Sorted.l1 (k + 1) y0 y1 y2 y3 y4 y5))
  | 0 => ⟨fun _ _ _ _ r h => by simp [spec_Sorted.l0] at h, fun _ _ _ _ _ _ r h => by simp [spec_Sorted.l1] at h⟩
  | k + 1 => by
    obtain ⟨ih0, ih1⟩ := spec_Sorted.mono_l k
    refine ⟨?_, ?_⟩
    · intro y0 y1 y2 y3
      unfold spec_Sorted.l0
      repeat' first
      | (with_reducible exact ih0 _ _ _ _)
      | (with_reducible exact ih1 _ _ _ _ _ _)
      | (with_reducible exact LeO.refl _)
      | (with_reducible exact LeO.none _)
      | (with_reducible refine LeO.ite ?_ ?_)
      | (with_reducible refine LeO.bind ?_ (fun _ => ?_))
      | exact ih0 _ _ _ _
      | exact ih1 _ _ _ _ _ _
      | exact LeO.none _
      | refine LeO.ite ?_ ?_
      | refine LeO.bind ?_ (fun _ => ?_)
    · intro y0 y1 y2 y3 y4 y5
      unfold spec_Sorted.l1
      repeat' first
      | (with_reducible exact ih0 _ _ _ _)
      | (with_reducible exact ih1 _ _ _ _ _ _)
      | (with_reducible exact LeO.refl _)
      | (with_reducible exact LeO.none _)
      | (with_reducible refine LeO.ite ?_ ?_)
      | (with_reducible refine LeO.bind ?_ (fun _ => ?_))
      | exact ih0 _ _ _ _
      | exact ih1 _ _ _ _ _ _
      | exact LeO.none _
      | refine LeO.ite ?_ ?_
      | refine LeO.bind ?_ (fun _ => ?_)
theorem spec_Sorted.mono : ∀ a0 k, LeO (spec_Sorted.f k a0) (spec_Sorted.f (k + 1) a0) := by
  intro a0 k
  obtain ⟨ih0, ih1⟩ := spec_Sorted.mono_l k
  unfold spec_Sorted.f
  repeat' first
      | (with_reducible exact ih0 _ _ _ _)
      | (with_reducible exact ih1 _ _ _ _ _ _)
      | (with_reducible exact LeO.refl _)
      | (with_reducible exact LeO.none _)
      | (with_reducible refine LeO.ite ?_ ?_)
      | (with_reducible refine LeO.bind ?_ (fun _ => ?_))
      | exact ih0 _ _ _ _
      | exact ih1 _ _ _ _ _ _
      | exact LeO.none _
      | refine LeO.ite ?_ ?_
      | refine LeO.bind ?_ (fun _ => ?_)
def spec_Sorted.T6 : Bool × List (List Nat × List Nat) := (true, [([], []), ([], []), ([1], [1]), ([0, 2], [0, 2]), ([3], [3]), ([4], [4]), ([4], [4]), ([5, 6, 4], [4, 5, 6]), ([7, 4], [4, 7]), ([4], [4]), ([4], [4]), ([9, 10, 4], [4, 9, 10]), ([11, 4], [4, 11]), ([8, 12, 4, 4], [4, 8, 12]), ([13, 4], [4, 13]), ([4, 14], [4, 14])])
def spec_Sorted.B6 : List Nat := [0, 0, 2, 7, 15, 31, 31, 127, 255, 31, 31, 1567, 3615, 8191, 16383, 32767]
theorem spec_Sorted.tab6 : rtab .any (opsOf Try.f16 6) = spec_Sorted.T6 := by kernel_rfl
theorem spec_Sorted.bits6 : waitsOk spec_Sorted.T6.2 spec_Sorted.B6 = true := by kernel_rfl
def spec_Sorted.T8 : Bool × List (List Nat × List Nat) := (true, [([], []), ([], []), ([], []), ([1, 2], [1, 2]), ([0, 3], [0, 3]), ([], []), ([], []), ([5, 6], [5, 6]), ([7], [7]), ([8], [8]), ([4, 9, 4], [4, 9]), ([], []), ([], []), ([11, 12], [11, 12]), ([10, 13, 10], [10, 13]), ([14, 14, 0, 1, 2, 3, 4, 5, 6, 7, 8, 9, 10, 11, 12, 13, 14], [1, 11, 14])])
def spec_Sorted.B8 : List Nat := [0, 0, 0, 6, 15, 0, 0, 96, 224, 480, 1023, 0, 0, 6144, 16383, 32767]
theorem spec_Sorted.tab8 : rtab .any (opsOf Try.f16 8) = spec_Sorted.T8 := by kernel_rfl
theorem spec_Sorted.bits8 : waitsOk spec_Sorted.T8.2 spec_Sorted.B8 = true := by kernel_rfl
set_option maxHeartbeats 8000000 in
set_option maxRecDepth 100000 in
theorem spec_Sorted.calls (k : Nat) (A0 : Option Addr) (c0 : Nat) (l0 : List (S50)) (r : List (S50)) (w : World) (hr0 : Kd.C k50 w A0 l0.length l0) (hc0 : l0.length ≤ c0) (h : spec_Sorted.f k l0 = some r) :
    Calls Try.prog 16 #[.slice A0 l0.length c0] w fun e w' => ∃ v0_ : Value, e = .returned (v0_) ∧ Kd.R k50 50 w' w.heap.size (fun _ => True) v0_ r ∧ Below w.heap.size w w' := by
  have hu50 := Try.underlying50
  have HR0 := Aside0.mk hr0
  have HC0 := Aside0.mk hc0
  clear hr0 hc0
  have HB := Aside0.mk (Below.refl w.heap.size w)
  have H : (spec_Sorted.l0 k l0 ([] : List (S50)) (l0.length : Int) 0) = some r := h
  clear h
  have H' := Aside0.mk H
  clear H
  go_enter Try.func16, Try.ntmps16
  go_wp2
  go_loopg [3, 8] k (fun kq v3 v8 w' => ∃ (x3_1 : List (S50)) (x8_1 : Int), v8 = .int .i64 x8_1 ∧ Aside0 (spec_Sorted.l0 kq l0 x3_1 (l0.length : Int) x8_1 = some r) ∧ Aside0 (kq ≤ k) ∧ Aside0 (Kd.R k50 50 w' w.heap.size (fun _ => True) v3 x3_1) ∧ Aside0 (Below w.heap.size w w'))
  case atStart => exact ⟨(([] : List (S50))), (0), (by first | rfl | (simp; done) | (simp [*]; done)), H', ⟨Nat.le_refl _⟩, ⟨by first | exact Kd.R_nil _ _ _ _ _ | exact Kd.N_nil _ _ _ _ _ | exact Kd.V_nil _ _ _ _ _ | exact Kd.Q_nil _ _ _ _ _ | exact Kd.S_nil _ _ _ _ _⟩, ⟨by repeat (first | (with_reducible first | exact HB.out | apply below_alloc | apply pw_below_drewN | apply below_drew1) | exact HB.out)⟩⟩
  case round =>
    clear H'
    try clear c1
    obtain ⟨x3_1, x8_1, rfl, HA, HK1, HO_3, HB⟩ := hrel
    cases gk with
    | zero => exact absurd HA.out (by simp [spec_Sorted.l0])
    | succ k1 =>
      have H := HA.out
      clear HA
      simp only [spec_Sorted.l0] at H
      by_cases c2 : x8_1 < (l0.length : Int)
      · rw [if_pos c2] at H
        have c2b0 : decide (x8_1 < (l0.length : Int)) = true := decide_eq_true c2
        clear c2
        have H' := Aside0.mk H
        clear H
        go_wp2
        go_loopg [5] k1 (fun kq v5 w' => ∃ (x5_2 : Int), v5 = .int .i64 x5_2 ∧ Aside0 (spec_Sorted.l1 kq l0 x3_1 x8_1 x5_2 (l0.length : Int) x8_1 = some r) ∧ Aside0 (kq ≤ k1) ∧ Aside0 (Kd.R k50 50 w' w.heap.size (fun _ => True) u3 x3_1) ∧ Aside0 (Below w.heap.size w w'))
        case atStart => exact ⟨(0), (by first | rfl | (simp; done) | (simp [*]; done)), H', ⟨Nat.le_refl _⟩, ⟨by (with_reducible repeat (first | apply Kd.R_alloc | apply Kd.R_drewN | apply Kd.R_drew)); exact HO_3.out⟩, ⟨by repeat (first | (with_reducible first | exact HB.out | apply below_alloc | apply pw_below_drewN | apply below_drew1) | exact HB.out)⟩⟩
        case round =>
          clear H'
          try clear c1
          try clear c2
          try clear c2b0
          try clear p2
          obtain ⟨x5_2, rfl, HA, HK2, HO_3, HB⟩ := hrel
          cases gk with
          | zero => exact absurd HA.out (by simp [spec_Sorted.l1])
          | succ k2 =>
            have H := HA.out
            clear HA
            simp only [spec_Sorted.l1] at H
            by_cases c3 : x5_2 < (x3_1.length : Int)
            · rw [if_pos c3] at H
              have c3b0 : decide (x5_2 < (x3_1.length : Int)) = true := decide_eq_true c3
              clear c3
              by_cases c4 : 0 ≤ x5_2
              · rw [if_pos c4] at H
                have c4b0 : decide (0 ≤ x5_2) = true := decide_eq_true c4
                clear c4
                by_cases c5 : 0 ≤ x8_1
                · rw [if_pos c5] at H
                  have c5b0 : decide (0 ≤ x8_1) = true := decide_eq_true c5
                  clear c5
                  by_cases c6 : x8_1 < (l0.length : Int)
                  · rw [if_pos c6] at H
                    have c6b0 : decide (x8_1 < (l0.length : Int)) = true := decide_eq_true c6
                    clear c6
                    replace H := Option.bind_eq_some_iff.mp H
                    obtain ⟨t120, A70, H⟩ := H
                    replace H : (if t120 ≤ 0 then (spec_Sorted.l1 k2 l0 x3_1 x8_1 (wrap64 (x5_2 + 1)) (l0.length : Int) x8_1) else ((some (([] : List (S50)) : List (S50))).bind fun y121 => (if x5_2 ≤ (x3_1.length : Int) then ((some (x3_1.take (x5_2 : Int).toNat : List (S50))).bind fun y124 => (if y121.length + y124.length < 3518437208883 then ((some (y121 ++ y124 : List (S50))).bind fun y128 => ((some (([(⟨(rd_T50 l0 x8_1).f0, (rd_T50 l0 x8_1).f1, (rd_T50 l0 x8_1).f2⟩ : S50)] : List (S50)) : List (S50))).bind fun y132 => (if y128.length + y132.length < 3518437208883 then ((some (y128 ++ y132 : List (S50))).bind fun y135 => ((some (x3_1.drop (x5_2 : Int).toNat : List (S50))).bind fun y138 => (if y135.length + y138.length < 3518437208883 then (spec_Sorted.l0 k2 l0 (y135 ++ y138) (l0.length : Int) (wrap64 (x8_1 + 1))) else (none)))) else (none)))) else (none))) else (none)))) = some r := H
                    have A7 := Aside0.mk A70
                    clear A70
                    by_cases c8 : t120 ≤ 0
                    · rw [if_pos c8] at H
                      have c8b0 : decide (t120 ≤ 0) = true := decide_eq_true c8
                      clear c8
                      have H' := Aside0.mk H
                      clear H
                      try go_wp2
                      have n0_ := Aside0.mk (Kd.R_drew HO_3.out)
                      have n1_ := Aside0.mk (below_drew1 HB.out)
                      clear HO_3
                      clear HB
                      have HO_3 := n0_
                      have HB := n1_
                      clear n0_ n1_
                      obtain ⟨Ao10, co10, eo10⟩ := Kd.R_slice HO_3.out
                      (first | subst eo10 | (injection eo10 with f1_ f2_ f3_; have f4_ := f1_.symm; have f5_ := f3_.symm; clear f1_ f2_ f3_; subst f4_; subst f5_))
                      have p118 : 0 ≤ (x5_2 : Int) := of_decide_eq_true (by first | (with_reducible assumption) | assumption)
                      have q118 : x5_2 < (x3_1.length : Int) := of_decide_eq_true (by first | (with_reducible assumption) | assumption)
                      obtain ⟨ad118, e118, hx118_0, hx118_1, hx118_2⟩ := at_T50 (Kd.R_reads' HO_3.out).2.2 x5_2 p118 q118
                      cases e118
                      replace p118 := eq_true p118
                      replace q118 := eq_true q118
                      have p119 : 0 ≤ (x8_1 : Int) := of_decide_eq_true (by first | (with_reducible assumption) | assumption)
                      have q119 : x8_1 < (l0.length : Int) := of_decide_eq_true (by first | (with_reducible assumption) | assumption)
                      obtain ⟨ad119, e119, hx119_0, hx119_1, hx119_2⟩ := at_T50 HR0.out x8_1 p119 q119
                      have hw119_2 := hx119_2
                      have hw119_1 := hx119_1
                      have hw119_0 := hx119_0
                      cases e119
                      replace hx119_0 := (HB.out.cell (World.block_lt_of_cell? w _ hx119_0)).trans hx119_0
                      replace hx119_1 := (HB.out.cell (World.block_lt_of_cell? w _ hx119_1)).trans hx119_1
                      replace hx119_2 := (HB.out.cell (World.block_lt_of_cell? w _ hx119_2)).trans hx119_2
                      replace p119 := eq_true p119
                      replace q119 := eq_true q119
                      refine start_ (n := 16) (S := fun w' => w'.cell? (ad118.add ((x5_2).toNat * 3)) = some (.int .i64 ((rd_T50 x3_1 x5_2).f0)) ∧ w'.cell? ⟨(ad118.add ((x5_2).toNat * 3)).block, (ad118.add ((x5_2).toNat * 3)).off + 1, none⟩ = some (.string ((rd_T50 x3_1 x5_2).f1)) ∧ w'.cell? ⟨(ad118.add ((x5_2).toNat * 3)).block, (ad118.add ((x5_2).toNat * 3)).off + 2, none⟩ = some (.string ((rd_T50 x3_1 x5_2).f2)) ∧ w'.cell? (ad119.add ((x8_1).toNat * 3)) = some (.int .i64 ((rd_T50 l0 x8_1).f0)) ∧ w'.cell? ⟨(ad119.add ((x8_1).toNat * 3)).block, (ad119.add ((x8_1).toNat * 3)).off + 1, none⟩ = some (.string ((rd_T50 l0 x8_1).f1)) ∧ w'.cell? ⟨(ad119.add ((x8_1).toNat * 3)).block, (ad119.add ((x8_1).toNat * 3)).off + 2, none⟩ = some (.string ((rd_T50 l0 x8_1).f2))) (ds := []) #[false, false, false, false, false, false, false, false, false, false, false, false, false, false, false, false] (by kernel_rfl) rfl rfl ⟨hx118_0, hx118_1, hx118_2, ((HB.out.cell (World.block_lt_of_cell? w _ hw119_0)).trans hw119_0), ((HB.out.cell (World.block_lt_of_cell? w _ hw119_1)).trans hw119_1), ((HB.out.cell (World.block_lt_of_cell? w _ hw119_2)).trans hw119_2)⟩ (fun hHeld => ?_); refine with_tabW spec_Sorted.tab6 spec_Sorted.bits6 (fun HT_ HW_ => ?_)
                      generalize wr.drew = w9 at HO_3 HB hx118_0 hx118_1 hx118_2 hx119_0 hx119_1 hx119_2 hHeld ⊢
                      refine pure_ (i := 0) (N := some 11) (v := ?_) (a' := ?_) #[true, false, false, false, false, false, false, false, false, false, false, false, false, false, false, false] rfl rfl (any_of HT_.out (by kernel_rfl)) (fun _ _ _ h => h) (Or.inl ⟨by rfl, ?_⟩) ?_ ?_
                      rotate_left
                      · intro w'
                        go_simp
                        with_reducible rfl
                      rotate_left
                      · simp only [Act.put, List.setIfInBounds_toArray, List.set_cons_zero, List.set_cons_succ, i64_w, i32_w]
                        rfl
                      refine pure_ (i := 1) (N := some 12) (v := ?_) (a' := ?_) #[true, true, false, false, false, false, false, false, false, false, false, false, false, false, false, false] rfl rfl (any_of HT_.out (by kernel_rfl)) (fun _ _ _ h => h) (Or.inl ⟨by rfl, ?_⟩) ?_ ?_
                      rotate_left
                      · intro w'
                        go_simp
                        with_reducible rfl
                      rotate_left
                      · simp only [Act.put, List.setIfInBounds_toArray, List.set_cons_zero, List.set_cons_succ, i64_w, i32_w]
                        rfl
                      refine pure_ (i := 2) (N := some 13) (v := ?_) (a' := ?_) #[true, true, true, false, false, false, false, false, false, false, false, false, false, false, false, false] rfl rfl (any_of HT_.out (by kernel_rfl)) (fun _ _ _ h => h) (Or.inl ⟨by rfl, ?_⟩) ?_ ?_
                      rotate_left
                      · intro w'
                        go_simp
                        with_reducible rfl
                      rotate_left
                      · simp only [Act.put, List.setIfInBounds_toArray, List.set_cons_zero, List.set_cons_succ, i64_w, i32_w]
                        rfl
                      refine pure_ (i := 3) (N := some 14) (v := ?_) (a' := ?_) #[true, true, true, true, false, false, false, false, false, false, false, false, false, false, false, false] rfl rfl (any_of HT_.out (by kernel_rfl)) (fun _ _ _ h => h) (Or.inl ⟨by rfl, ?_⟩) ?_ ?_
                      rotate_left
                      · intro w'
                        go_simp
                        with_reducible rfl
                      rotate_left
                      · simp only [Act.put, List.setIfInBounds_toArray, List.set_cons_zero, List.set_cons_succ, i64_w, i32_w]
                        rfl
                      refine pure_ (i := 4) (N := some 15) (v := ?_) (a' := ?_) #[true, true, true, true, true, false, false, false, false, false, false, false, false, false, false, false] rfl rfl (any_of HT_.out (by kernel_rfl)) (fun _ _ _ h => h) (Or.inl ⟨by rfl, ?_⟩) ?_ ?_
                      rotate_left
                      · intro w'
                        go_simp
                        with_reducible rfl
                      rotate_left
                      · simp only [Act.put, List.setIfInBounds_toArray, List.set_cons_zero, List.set_cons_succ, i64_w, i32_w]
                        rfl
                      refine pure_ (i := 5) (N := some 16) (v := ?_) (a' := ?_) #[true, true, true, true, true, true, false, false, false, false, false, false, false, false, false, false] rfl rfl (any_of HT_.out (by kernel_rfl)) (fun _ _ _ h => h) (Or.inl ⟨by rfl, ?_⟩) ?_ ?_
                      rotate_left
                      · intro w'
                        go_simp
                        with_reducible rfl
                      rotate_left
                      · simp only [Act.put, List.setIfInBounds_toArray, List.set_cons_zero, List.set_cons_succ, i64_w, i32_w]
                        rfl
                      refine pure_ (i := 6) (N := some 17) (v := ?_) (a' := ?_) #[true, true, true, true, true, true, true, false, false, false, false, false, false, false, false, false] rfl rfl (any_of HT_.out (by kernel_rfl)) (fun _ _ _ h => h) (Or.inl ⟨by rfl, ?_⟩) ?_ ?_
                      rotate_left
                      · intro w'
                        go_simp
                        with_reducible rfl
                      rotate_left
                      · simp only [Act.put, List.setIfInBounds_toArray, List.set_cons_zero, List.set_cons_succ, i64_w, i32_w]
                        rfl
                      refine pure_ (i := 7) (N := some 18) (v := ?_) (a' := ?_) #[true, true, true, true, true, true, true, true, false, false, false, false, false, false, false, false] rfl rfl (any_of HT_.out (by kernel_rfl)) (fun _ _ _ h => h) (Or.inl ⟨by rfl, ?_⟩) ?_ ?_
                      rotate_left
                      · intro w'
                        go_simp
                        with_reducible rfl
                      rotate_left
                      · simp only [Act.put, List.setIfInBounds_toArray, List.set_cons_zero, List.set_cons_succ, i64_w, i32_w]
                        rfl
                      refine pure_ (i := 9) (N := some 20) (v := ?_) (a' := ?_) #[true, true, true, true, true, true, true, true, false, true, false, false, false, false, false, false] rfl rfl (any_of HT_.out (by kernel_rfl)) (fun _ _ _ h => h) (Or.inl ⟨by rfl, ?_⟩) ?_ ?_
                      rotate_left
                      · intro w'
                        go_simp
                        with_reducible rfl
                      rotate_left
                      · simp only [Act.put, List.setIfInBounds_toArray, List.set_cons_zero, List.set_cons_succ, i64_w, i32_w]
                        rfl
                      refine pure_ (i := 10) (N := some 21) (v := ?_) (a' := ?_) #[true, true, true, true, true, true, true, true, false, true, true, false, false, false, false, false] rfl rfl (any_of HT_.out (by kernel_rfl)) (fun _ _ _ h => h) (Or.inl ⟨by rfl, ?_⟩) ?_ ?_
                      rotate_left
                      · intro w'
                        go_simp
                        with_reducible rfl
                      rotate_left
                      · simp only [Act.put, List.setIfInBounds_toArray, List.set_cons_zero, List.set_cons_succ, i64_w, i32_w]
                        rfl
                      refine pure_ (i := 11) (N := some 22) (v := ?_) (a' := ?_) #[true, true, true, true, true, true, true, true, false, true, true, true, false, false, false, false] rfl rfl (any_of HT_.out (by kernel_rfl)) (fun _ _ _ h => h) (Or.inl ⟨by rfl, ?_⟩) ?_ ?_
                      rotate_left
                      · intro w'
                        go_simp
                        with_reducible rfl
                      rotate_left
                      · simp only [Act.put, List.setIfInBounds_toArray, List.set_cons_zero, List.set_cons_succ, i64_w, i32_w]
                        rfl
                      refine take_ (i := 8) (N := some 19) (v := ?_) (a' := ?_) #[true, true, true, true, true, true, true, true, true, true, true, true, false, false, false, false] rfl rfl (take_ofW HT_.out HW_.out (by kernel_rfl)) (fun _ _ _ h => h) (Or.inl ⟨by rfl, ?_⟩) hHeld ?_ ?_
                      rotate_left
                      · rintro w' ⟨s0, s1, s2, s3, s4, s5⟩
                        go_simp
                        with_reducible rfl
                      rotate_left
                      · simp only [Act.put, List.setIfInBounds_toArray, List.set_cons_zero, List.set_cons_succ, i64_w, i32_w]
                        rfl
                      refine take_ (i := 12) (N := some 23) (v := ?_) (a' := ?_) #[true, true, true, true, true, true, true, true, true, true, true, true, true, false, false, false] rfl rfl (take_ofW HT_.out HW_.out (by kernel_rfl)) (fun _ _ _ h => h) (Or.inl ⟨by rfl, ?_⟩) hHeld ?_ ?_
                      rotate_left
                      · rintro w' ⟨s0, s1, s2, s3, s4, s5⟩
                        go_simp
                        with_reducible rfl
                      rotate_left
                      · simp only [Act.put, List.setIfInBounds_toArray, List.set_cons_zero, List.set_cons_succ, i64_w, i32_w]
                        rfl
                      refine one_ (i := 13) (N := some 24) #[true, true, true, true, true, true, true, true, true, true, true, true, true, true, false, false] rfl rfl (one_of HT_.out (by kernel_rfl)) (by decide) (fun K hK => ?_)
                      refine goes_ Try.func27 (by kernel_rfl) rfl #[.agg #[.int .i64 ((rd_T50 x3_1 x5_2).f0), .string ((rd_T50 x3_1 x5_2).f1), .string ((rd_T50 x3_1 x5_2).f2)], .agg #[.int .i64 ((rd_T50 l0 x8_1).f0), .string ((rd_T50 l0 x8_1).f1), .string ((rd_T50 l0 x8_1).f2)]] (by rfl) rfl rfl (by (try simp only [List.map_toArray, List.map_cons, List.map_nil]); first | done | rfl | (simp only [List.length_drop, List.length_take]; rfl)) ?_
                      with_reducible refine (spec_Order.calls ((rd_T50 x3_1 x5_2).f0) ((rd_T50 x3_1 x5_2).f1) ((rd_T50 x3_1 x5_2).f2) ((rd_T50 l0 x8_1).f0) ((rd_T50 l0 x8_1).f1) ((rd_T50 l0 x8_1).f2) t120 _ A7.out).mono ?_
                      rintro e w11 ⟨rfl, hb⟩
                      have HS0_ := (hb.cell (World.block_lt_of_cell? _ _ (hHeld.1))).trans (hHeld.1)
                      have HS1_ := (hb.cell (World.block_lt_of_cell? _ _ (hHeld.2.1))).trans (hHeld.2.1)
                      have HS2_ := (hb.cell (World.block_lt_of_cell? _ _ (hHeld.2.2.1))).trans (hHeld.2.2.1)
                      refine ⟨_, rfl, ?_⟩
                      have n0_ := Aside0.mk (Kd.R_below (by (with_reducible repeat (first | apply Kd.R_alloc | apply Kd.R_drewN | apply Kd.R_drew)); exact HO_3.out) hb)
                      have n1_ := Aside0.mk (below_step (by repeat (first | (with_reducible first | exact HB.out | apply below_alloc | apply pw_below_drewN | apply below_drew1) | exact HB.out)) hb)
                      clear HO_3
                      clear HB
                      have HO_3 := n0_
                      have HB := n1_
                      clear n0_ n1_
                      (try clear hb)
                      (try clear hb2)
                      (try clear hk)
                      (try clear hi)
                      refine hK.out _ _ ⟨HS0_, HS1_, HS2_, ((HB.out.cell (World.block_lt_of_cell? w _ hw119_0)).trans hw119_0), ((HB.out.cell (World.block_lt_of_cell? w _ hw119_1)).trans hw119_1), ((HB.out.cell (World.block_lt_of_cell? w _ hw119_2)).trans hw119_2)⟩ (fun hHeld => ?_)
                      clear hK K
                      refine norm_ (a' := ?_) ?_ ?_
                      rotate_left
                      · show Act.put _ (some 24) _ = _
                        simp only [Act.put, List.setIfInBounds_toArray, List.set_cons_zero, List.set_cons_succ, i64_w, i32_w]
                        rfl
                      refine pure_ (i := 14) (N := some 25) (v := ?_) (a' := ?_) #[true, true, true, true, true, true, true, true, true, true, true, true, true, true, true, false] rfl rfl (any_of HT_.out (by kernel_rfl)) (fun _ _ _ h => h) (Or.inl ⟨by rfl, ?_⟩) ?_ ?_
                      rotate_left
                      · intro w'
                        go_simp
                        with_reducible rfl
                      rotate_left
                      · simp only [Act.put, List.setIfInBounds_toArray, List.set_cons_zero, List.set_cons_succ, i64_w, i32_w]
                        rfl
                      refine pure_ (i := 15) (N := some 26) (v := ?_) (a' := ?_) #[true, true, true, true, true, true, true, true, true, true, true, true, true, true, true, true] rfl rfl (any_of HT_.out (by kernel_rfl)) (fun _ _ _ h => h) (Or.inl ⟨by rfl, ?_⟩) ?_ ?_
                      rotate_left
                      · intro w'
                        go_simp
                        with_reducible rfl
                      rotate_left
                      · simp only [Act.put, List.setIfInBounds_toArray, List.set_cons_zero, List.set_cons_succ, i64_w, i32_w]
                        rfl
                      refine done_ (done_of HT_.out (by kernel_rfl)) ?_
                      try go_wp2
                      go_roundg k2
                      case measure => have := HK1.out; have := HK2.out; omega
                      case rel => exact ⟨(wrap64 (x5_2 + 1)), (by first | rfl | (simp; done) | (simp [*]; done)), H', ⟨by have := HK1.out; have := HK2.out; omega⟩, ⟨by (with_reducible repeat (first | apply Kd.R_alloc | apply Kd.R_drewN | apply Kd.R_drew)); exact HO_3.out⟩, ⟨by repeat (first | (with_reducible first | exact HB.out | apply below_alloc | apply pw_below_drewN | apply below_drew1) | exact HB.out)⟩⟩
                    · rw [if_neg c8] at H
                      have c8b0 : decide (t120 ≤ 0) = false := decide_eq_false c8
                      clear c8
                      obtain ⟨y121, hy121⟩ : ∃ y_ : List (S50), y_ = (([] : List (S50))) := ⟨_, rfl⟩
                      replace H : (if x5_2 ≤ (x3_1.length : Int) then ((some (x3_1.take (x5_2 : Int).toNat : List (S50))).bind fun y124 => (if y121.length + y124.length < 3518437208883 then ((some (y121 ++ y124 : List (S50))).bind fun y128 => ((some (([(⟨(rd_T50 l0 x8_1).f0, (rd_T50 l0 x8_1).f1, (rd_T50 l0 x8_1).f2⟩ : S50)] : List (S50)) : List (S50))).bind fun y132 => (if y128.length + y132.length < 3518437208883 then ((some (y128 ++ y132 : List (S50))).bind fun y135 => ((some (x3_1.drop (x5_2 : Int).toNat : List (S50))).bind fun y138 => (if y135.length + y138.length < 3518437208883 then (spec_Sorted.l0 k2 l0 (y135 ++ y138) (l0.length : Int) (wrap64 (x8_1 + 1))) else (none)))) else (none)))) else (none))) else (none)) = some r := by first | (rw [hy121]; with_reducible exact H) | (have H2_ := (Option.bind_some _ _).symm.trans H; rw [hy121]; with_reducible exact H2_) | (have H2_ := (Option.bind_some _ _).symm.trans H; with_reducible exact H2_) | with_reducible exact H | (rw [hy121]; exact H) | exact H
                      have Ny121 := Aside0.mk hy121
                      clear hy121
                      have c12b0 := eq_true (of_decide_eq_true (by first | (with_reducible assumption) | assumption) : 0 ≤ x5_2)
                      by_cases c13 : x5_2 ≤ (x3_1.length : Int)
                      · rw [if_pos c13] at H
                        have c13b0 := eq_true c13
                        have c13b1 : decide (x5_2 ≤ (x3_1.length : Int)) = true := decide_eq_true c13
                        clear c13
                        obtain ⟨y124, hy124⟩ : ∃ y_ : List (S50), y_ = (x3_1.take (x5_2 : Int).toNat) := ⟨_, rfl⟩
                        replace H : (if y121.length + y124.length < 3518437208883 then ((some (y121 ++ y124 : List (S50))).bind fun y128 => ((some (([(⟨(rd_T50 l0 x8_1).f0, (rd_T50 l0 x8_1).f1, (rd_T50 l0 x8_1).f2⟩ : S50)] : List (S50)) : List (S50))).bind fun y132 => (if y128.length + y132.length < 3518437208883 then ((some (y128 ++ y132 : List (S50))).bind fun y135 => ((some (x3_1.drop (x5_2 : Int).toNat : List (S50))).bind fun y138 => (if y135.length + y138.length < 3518437208883 then (spec_Sorted.l0 k2 l0 (y135 ++ y138) (l0.length : Int) (wrap64 (x8_1 + 1))) else (none)))) else (none)))) else (none)) = some r := by first | (rw [hy124]; with_reducible exact H) | (have H2_ := (Option.bind_some _ _).symm.trans H; rw [hy124]; with_reducible exact H2_) | (have H2_ := (Option.bind_some _ _).symm.trans H; with_reducible exact H2_) | with_reducible exact H | (rw [hy124]; exact H) | exact H
                        have Ny124 := Aside0.mk hy124
                        clear hy124
                        by_cases c14 : y121.length + y124.length < 3518437208883
                        · rw [if_pos c14] at H
                          have LMc14 := Aside0.mk c14
                          clear c14
                          obtain ⟨y128, hy128⟩ : ∃ y_ : List (S50), y_ = (y121 ++ y124) := ⟨_, rfl⟩
                          replace H : ((some (([(⟨(rd_T50 l0 x8_1).f0, (rd_T50 l0 x8_1).f1, (rd_T50 l0 x8_1).f2⟩ : S50)] : List (S50)) : List (S50))).bind fun y132 => (if y128.length + y132.length < 3518437208883 then ((some (y128 ++ y132 : List (S50))).bind fun y135 => ((some (x3_1.drop (x5_2 : Int).toNat : List (S50))).bind fun y138 => (if y135.length + y138.length < 3518437208883 then (spec_Sorted.l0 k2 l0 (y135 ++ y138) (l0.length : Int) (wrap64 (x8_1 + 1))) else (none)))) else (none))) = some r := by first | (rw [hy128]; with_reducible exact H) | (have H2_ := (Option.bind_some _ _).symm.trans H; rw [hy128]; with_reducible exact H2_) | (have H2_ := (Option.bind_some _ _).symm.trans H; with_reducible exact H2_) | with_reducible exact H | (rw [hy128]; exact H) | exact H
                          have Ny128 := Aside0.mk hy128
                          clear hy128
                          obtain ⟨y132, hy132⟩ : ∃ y_ : List (S50), y_ = (([(⟨(rd_T50 l0 x8_1).f0, (rd_T50 l0 x8_1).f1, (rd_T50 l0 x8_1).f2⟩ : S50)] : List (S50))) := ⟨_, rfl⟩
                          replace H : (if y128.length + y132.length < 3518437208883 then ((some (y128 ++ y132 : List (S50))).bind fun y135 => ((some (x3_1.drop (x5_2 : Int).toNat : List (S50))).bind fun y138 => (if y135.length + y138.length < 3518437208883 then (spec_Sorted.l0 k2 l0 (y135 ++ y138) (l0.length : Int) (wrap64 (x8_1 + 1))) else (none)))) else (none)) = some r := by first | (rw [hy132]; with_reducible exact H) | (have H2_ := (Option.bind_some _ _).symm.trans H; rw [hy132]; with_reducible exact H2_) | (have H2_ := (Option.bind_some _ _).symm.trans H; with_reducible exact H2_) | with_reducible exact H | (rw [hy132]; exact H) | exact H
                          have Ny132 := Aside0.mk hy132
                          clear hy132
                          by_cases c15 : y128.length + y132.length < 3518437208883
                          · rw [if_pos c15] at H
                            have LMc15 := Aside0.mk c15
                            clear c15
                            obtain ⟨y135, hy135⟩ : ∃ y_ : List (S50), y_ = (y128 ++ y132) := ⟨_, rfl⟩
                            replace H : ((some (x3_1.drop (x5_2 : Int).toNat : List (S50))).bind fun y138 => (if y135.length + y138.length < 3518437208883 then (spec_Sorted.l0 k2 l0 (y135 ++ y138) (l0.length : Int) (wrap64 (x8_1 + 1))) else (none))) = some r := by first | (rw [hy135]; with_reducible exact H) | (have H2_ := (Option.bind_some _ _).symm.trans H; rw [hy135]; with_reducible exact H2_) | (have H2_ := (Option.bind_some _ _).symm.trans H; with_reducible exact H2_) | with_reducible exact H | (rw [hy135]; exact H) | exact H
                            have Ny135 := Aside0.mk hy135
                            clear hy135
                            have c16b0 := eq_true (of_decide_eq_true (by first | (with_reducible assumption) | assumption) : 0 ≤ x5_2)
                            have c17b0 := eq_true (of_decide_eq_true (by first | (with_reducible assumption) | assumption) : x5_2 ≤ (x3_1.length : Int))
                            obtain ⟨y138, hy138⟩ : ∃ y_ : List (S50), y_ = (x3_1.drop (x5_2 : Int).toNat) := ⟨_, rfl⟩
                            replace H : (if y135.length + y138.length < 3518437208883 then (spec_Sorted.l0 k2 l0 (y135 ++ y138) (l0.length : Int) (wrap64 (x8_1 + 1))) else (none)) = some r := by first | (rw [hy138]; with_reducible exact H) | (have H2_ := (Option.bind_some _ _).symm.trans H; rw [hy138]; with_reducible exact H2_) | (have H2_ := (Option.bind_some _ _).symm.trans H; with_reducible exact H2_) | with_reducible exact H | (rw [hy138]; exact H) | exact H
                            have Ny138 := Aside0.mk hy138
                            clear hy138
                            by_cases c18 : y135.length + y138.length < 3518437208883
                            · rw [if_pos c18] at H
                              have LMc18 := Aside0.mk c18
                              clear c18
                              obtain ⟨y142, hy142⟩ : ∃ y_ : List (S50), y_ = (y135 ++ y138) := ⟨_, rfl⟩
                              replace H : (spec_Sorted.l0 k2 l0 y142 (l0.length : Int) (wrap64 (x8_1 + 1))) = some r := by first | (rw [hy142]; with_reducible exact H) | (have H2_ := (Option.bind_some _ _).symm.trans H; rw [hy142]; with_reducible exact H2_) | (have H2_ := (Option.bind_some _ _).symm.trans H; with_reducible exact H2_) | with_reducible exact H | (rw [hy142]; exact H) | exact H
                              have Ny142 := Aside0.mk hy142
                              clear hy142
                              have H' := Aside0.mk H
                              clear H
                              try go_wp2
                              have n0_ := Aside0.mk (Kd.R_drew HO_3.out)
                              have n1_ := Aside0.mk (below_drew1 HB.out)
                              clear HO_3
                              clear HB
                              have HO_3 := n0_
                              have HB := n1_
                              clear n0_ n1_
                              obtain ⟨Ao20, co20, eo20⟩ := Kd.R_slice HO_3.out
                              (first | subst eo20 | (injection eo20 with f1_ f2_ f3_; have f4_ := f1_.symm; have f5_ := f3_.symm; clear f1_ f2_ f3_; subst f4_; subst f5_))
                              have p118 : 0 ≤ (x5_2 : Int) := of_decide_eq_true (by first | (with_reducible assumption) | assumption)
                              have q118 : x5_2 < (x3_1.length : Int) := of_decide_eq_true (by first | (with_reducible assumption) | assumption)
                              obtain ⟨ad118, e118, hx118_0, hx118_1, hx118_2⟩ := at_T50 (Kd.R_reads' HO_3.out).2.2 x5_2 p118 q118
                              cases e118
                              replace p118 := eq_true p118
                              replace q118 := eq_true q118
                              have p119 : 0 ≤ (x8_1 : Int) := of_decide_eq_true (by first | (with_reducible assumption) | assumption)
                              have q119 : x8_1 < (l0.length : Int) := of_decide_eq_true (by first | (with_reducible assumption) | assumption)
                              obtain ⟨ad119, e119, hx119_0, hx119_1, hx119_2⟩ := at_T50 HR0.out x8_1 p119 q119
                              have hw119_2 := hx119_2
                              have hw119_1 := hx119_1
                              have hw119_0 := hx119_0
                              cases e119
                              replace hx119_0 := (HB.out.cell (World.block_lt_of_cell? w _ hx119_0)).trans hx119_0
                              replace hx119_1 := (HB.out.cell (World.block_lt_of_cell? w _ hx119_1)).trans hx119_1
                              replace hx119_2 := (HB.out.cell (World.block_lt_of_cell? w _ hx119_2)).trans hx119_2
                              replace p119 := eq_true p119
                              replace q119 := eq_true q119
                              refine start_ (n := 16) (S := fun w' => w'.cell? (ad118.add ((x5_2).toNat * 3)) = some (.int .i64 ((rd_T50 x3_1 x5_2).f0)) ∧ w'.cell? ⟨(ad118.add ((x5_2).toNat * 3)).block, (ad118.add ((x5_2).toNat * 3)).off + 1, none⟩ = some (.string ((rd_T50 x3_1 x5_2).f1)) ∧ w'.cell? ⟨(ad118.add ((x5_2).toNat * 3)).block, (ad118.add ((x5_2).toNat * 3)).off + 2, none⟩ = some (.string ((rd_T50 x3_1 x5_2).f2)) ∧ w'.cell? (ad119.add ((x8_1).toNat * 3)) = some (.int .i64 ((rd_T50 l0 x8_1).f0)) ∧ w'.cell? ⟨(ad119.add ((x8_1).toNat * 3)).block, (ad119.add ((x8_1).toNat * 3)).off + 1, none⟩ = some (.string ((rd_T50 l0 x8_1).f1)) ∧ w'.cell? ⟨(ad119.add ((x8_1).toNat * 3)).block, (ad119.add ((x8_1).toNat * 3)).off + 2, none⟩ = some (.string ((rd_T50 l0 x8_1).f2))) (ds := []) #[false, false, false, false, false, false, false, false, false, false, false, false, false, false, false, false] (by kernel_rfl) rfl rfl ⟨hx118_0, hx118_1, hx118_2, ((HB.out.cell (World.block_lt_of_cell? w _ hw119_0)).trans hw119_0), ((HB.out.cell (World.block_lt_of_cell? w _ hw119_1)).trans hw119_1), ((HB.out.cell (World.block_lt_of_cell? w _ hw119_2)).trans hw119_2)⟩ (fun hHeld => ?_); refine with_tabW spec_Sorted.tab6 spec_Sorted.bits6 (fun HT_ HW_ => ?_)
                              generalize wr.drew = w19 at HO_3 HB hx118_0 hx118_1 hx118_2 hx119_0 hx119_1 hx119_2 hHeld ⊢
                              refine pure_ (i := 0) (N := some 11) (v := ?_) (a' := ?_) #[true, false, false, false, false, false, false, false, false, false, false, false, false, false, false, false] rfl rfl (any_of HT_.out (by kernel_rfl)) (fun _ _ _ h => h) (Or.inl ⟨by rfl, ?_⟩) ?_ ?_
                              rotate_left
                              · intro w'
                                go_simp
                                with_reducible rfl
                              rotate_left
                              · simp only [Act.put, List.setIfInBounds_toArray, List.set_cons_zero, List.set_cons_succ, i64_w, i32_w]
                                rfl
                              refine pure_ (i := 1) (N := some 12) (v := ?_) (a' := ?_) #[true, true, false, false, false, false, false, false, false, false, false, false, false, false, false, false] rfl rfl (any_of HT_.out (by kernel_rfl)) (fun _ _ _ h => h) (Or.inl ⟨by rfl, ?_⟩) ?_ ?_
                              rotate_left
                              · intro w'
                                go_simp
                                with_reducible rfl
                              rotate_left
                              · simp only [Act.put, List.setIfInBounds_toArray, List.set_cons_zero, List.set_cons_succ, i64_w, i32_w]
                                rfl
                              refine pure_ (i := 2) (N := some 13) (v := ?_) (a' := ?_) #[true, true, true, false, false, false, false, false, false, false, false, false, false, false, false, false] rfl rfl (any_of HT_.out (by kernel_rfl)) (fun _ _ _ h => h) (Or.inl ⟨by rfl, ?_⟩) ?_ ?_
                              rotate_left
                              · intro w'
                                go_simp
                                with_reducible rfl
                              rotate_left
                              · simp only [Act.put, List.setIfInBounds_toArray, List.set_cons_zero, List.set_cons_succ, i64_w, i32_w]
                                rfl
                              refine pure_ (i := 3) (N := some 14) (v := ?_) (a' := ?_) #[true, true, true, true, false, false, false, false, false, false, false, false, false, false, false, false] rfl rfl (any_of HT_.out (by kernel_rfl)) (fun _ _ _ h => h) (Or.inl ⟨by rfl, ?_⟩) ?_ ?_
                              rotate_left
                              · intro w'
                                go_simp
                                with_reducible rfl
                              rotate_left
                              · simp only [Act.put, List.setIfInBounds_toArray, List.set_cons_zero, List.set_cons_succ, i64_w, i32_w]
                                rfl
                              refine pure_ (i := 4) (N := some 15) (v := ?_) (a' := ?_) #[true, true, true, true, true, false, false, false, false, false, false, false, false, false, false, false] rfl rfl (any_of HT_.out (by kernel_rfl)) (fun _ _ _ h => h) (Or.inl ⟨by rfl, ?_⟩) ?_ ?_
                              rotate_left
                              · intro w'
                                go_simp
                                with_reducible rfl
                              rotate_left
                              · simp only [Act.put, List.setIfInBounds_toArray, List.set_cons_zero, List.set_cons_succ, i64_w, i32_w]
                                rfl
                              refine pure_ (i := 5) (N := some 16) (v := ?_) (a' := ?_) #[true, true, true, true, true, true, false, false, false, false, false, false, false, false, false, false] rfl rfl (any_of HT_.out (by kernel_rfl)) (fun _ _ _ h => h) (Or.inl ⟨by rfl, ?_⟩) ?_ ?_
                              rotate_left
                              · intro w'
                                go_simp
                                with_reducible rfl
                              rotate_left
                              · simp only [Act.put, List.setIfInBounds_toArray, List.set_cons_zero, List.set_cons_succ, i64_w, i32_w]
                                rfl
                              refine pure_ (i := 6) (N := some 17) (v := ?_) (a' := ?_) #[true, true, true, true, true, true, true, false, false, false, false, false, false, false, false, false] rfl rfl (any_of HT_.out (by kernel_rfl)) (fun _ _ _ h => h) (Or.inl ⟨by rfl, ?_⟩) ?_ ?_
                              rotate_left
                              · intro w'
                                go_simp
                                with_reducible rfl
                              rotate_left
                              · simp only [Act.put, List.setIfInBounds_toArray, List.set_cons_zero, List.set_cons_succ, i64_w, i32_w]
                                rfl
                              refine pure_ (i := 7) (N := some 18) (v := ?_) (a' := ?_) #[true, true, true, true, true, true, true, true, false, false, false, false, false, false, false, false] rfl rfl (any_of HT_.out (by kernel_rfl)) (fun _ _ _ h => h) (Or.inl ⟨by rfl, ?_⟩) ?_ ?_
                              rotate_left
                              · intro w'
                                go_simp
                                with_reducible rfl
                              rotate_left
                              · simp only [Act.put, List.setIfInBounds_toArray, List.set_cons_zero, List.set_cons_succ, i64_w, i32_w]
                                rfl
                              refine pure_ (i := 9) (N := some 20) (v := ?_) (a' := ?_) #[true, true, true, true, true, true, true, true, false, true, false, false, false, false, false, false] rfl rfl (any_of HT_.out (by kernel_rfl)) (fun _ _ _ h => h) (Or.inl ⟨by rfl, ?_⟩) ?_ ?_
                              rotate_left
                              · intro w'
                                go_simp
                                with_reducible rfl
                              rotate_left
                              · simp only [Act.put, List.setIfInBounds_toArray, List.set_cons_zero, List.set_cons_succ, i64_w, i32_w]
                                rfl
                              refine pure_ (i := 10) (N := some 21) (v := ?_) (a' := ?_) #[true, true, true, true, true, true, true, true, false, true, true, false, false, false, false, false] rfl rfl (any_of HT_.out (by kernel_rfl)) (fun _ _ _ h => h) (Or.inl ⟨by rfl, ?_⟩) ?_ ?_
                              rotate_left
                              · intro w'
                                go_simp
                                with_reducible rfl
                              rotate_left
                              · simp only [Act.put, List.setIfInBounds_toArray, List.set_cons_zero, List.set_cons_succ, i64_w, i32_w]
                                rfl
                              refine pure_ (i := 11) (N := some 22) (v := ?_) (a' := ?_) #[true, true, true, true, true, true, true, true, false, true, true, true, false, false, false, false] rfl rfl (any_of HT_.out (by kernel_rfl)) (fun _ _ _ h => h) (Or.inl ⟨by rfl, ?_⟩) ?_ ?_
                              rotate_left
                              · intro w'
                                go_simp
                                with_reducible rfl
                              rotate_left
                              · simp only [Act.put, List.setIfInBounds_toArray, List.set_cons_zero, List.set_cons_succ, i64_w, i32_w]
                                rfl
                              refine take_ (i := 8) (N := some 19) (v := ?_) (a' := ?_) #[true, true, true, true, true, true, true, true, true, true, true, true, false, false, false, false] rfl rfl (take_ofW HT_.out HW_.out (by kernel_rfl)) (fun _ _ _ h => h) (Or.inl ⟨by rfl, ?_⟩) hHeld ?_ ?_
                              rotate_left
                              · rintro w' ⟨s0, s1, s2, s3, s4, s5⟩
                                go_simp
                                with_reducible rfl
                              rotate_left
                              · simp only [Act.put, List.setIfInBounds_toArray, List.set_cons_zero, List.set_cons_succ, i64_w, i32_w]
                                rfl
                              refine take_ (i := 12) (N := some 23) (v := ?_) (a' := ?_) #[true, true, true, true, true, true, true, true, true, true, true, true, true, false, false, false] rfl rfl (take_ofW HT_.out HW_.out (by kernel_rfl)) (fun _ _ _ h => h) (Or.inl ⟨by rfl, ?_⟩) hHeld ?_ ?_
                              rotate_left
                              · rintro w' ⟨s0, s1, s2, s3, s4, s5⟩
                                go_simp
                                with_reducible rfl
                              rotate_left
                              · simp only [Act.put, List.setIfInBounds_toArray, List.set_cons_zero, List.set_cons_succ, i64_w, i32_w]
                                rfl
                              refine one_ (i := 13) (N := some 24) #[true, true, true, true, true, true, true, true, true, true, true, true, true, true, false, false] rfl rfl (one_of HT_.out (by kernel_rfl)) (by decide) (fun K hK => ?_)
                              refine goes_ Try.func27 (by kernel_rfl) rfl #[.agg #[.int .i64 ((rd_T50 x3_1 x5_2).f0), .string ((rd_T50 x3_1 x5_2).f1), .string ((rd_T50 x3_1 x5_2).f2)], .agg #[.int .i64 ((rd_T50 l0 x8_1).f0), .string ((rd_T50 l0 x8_1).f1), .string ((rd_T50 l0 x8_1).f2)]] (by rfl) rfl rfl (by (try simp only [List.map_toArray, List.map_cons, List.map_nil]); first | done | rfl | (simp only [List.length_drop, List.length_take]; rfl)) ?_
                              with_reducible refine (spec_Order.calls ((rd_T50 x3_1 x5_2).f0) ((rd_T50 x3_1 x5_2).f1) ((rd_T50 x3_1 x5_2).f2) ((rd_T50 l0 x8_1).f0) ((rd_T50 l0 x8_1).f1) ((rd_T50 l0 x8_1).f2) t120 _ A7.out).mono ?_
                              rintro e w21 ⟨rfl, hb⟩
                              have HS0_ := (hb.cell (World.block_lt_of_cell? _ _ (hHeld.1))).trans (hHeld.1)
                              have HS1_ := (hb.cell (World.block_lt_of_cell? _ _ (hHeld.2.1))).trans (hHeld.2.1)
                              have HS2_ := (hb.cell (World.block_lt_of_cell? _ _ (hHeld.2.2.1))).trans (hHeld.2.2.1)
                              refine ⟨_, rfl, ?_⟩
                              have n0_ := Aside0.mk (Kd.R_below (by (with_reducible repeat (first | apply Kd.R_alloc | apply Kd.R_drewN | apply Kd.R_drew)); exact HO_3.out) hb)
                              have n1_ := Aside0.mk (below_step (by repeat (first | (with_reducible first | exact HB.out | apply below_alloc | apply pw_below_drewN | apply below_drew1) | exact HB.out)) hb)
                              clear HO_3
                              clear HB
                              have HO_3 := n0_
                              have HB := n1_
                              clear n0_ n1_
                              (try clear hb)
                              (try clear hb2)
                              (try clear hk)
                              (try clear hi)
                              refine hK.out _ _ ⟨HS0_, HS1_, HS2_, ((HB.out.cell (World.block_lt_of_cell? w _ hw119_0)).trans hw119_0), ((HB.out.cell (World.block_lt_of_cell? w _ hw119_1)).trans hw119_1), ((HB.out.cell (World.block_lt_of_cell? w _ hw119_2)).trans hw119_2)⟩ (fun hHeld => ?_)
                              clear hK K
                              refine norm_ (a' := ?_) ?_ ?_
                              rotate_left
                              · show Act.put _ (some 24) _ = _
                                simp only [Act.put, List.setIfInBounds_toArray, List.set_cons_zero, List.set_cons_succ, i64_w, i32_w]
                                rfl
                              refine pure_ (i := 14) (N := some 25) (v := ?_) (a' := ?_) #[true, true, true, true, true, true, true, true, true, true, true, true, true, true, true, false] rfl rfl (any_of HT_.out (by kernel_rfl)) (fun _ _ _ h => h) (Or.inl ⟨by rfl, ?_⟩) ?_ ?_
                              rotate_left
                              · intro w'
                                go_simp
                                with_reducible rfl
                              rotate_left
                              · simp only [Act.put, List.setIfInBounds_toArray, List.set_cons_zero, List.set_cons_succ, i64_w, i32_w]
                                rfl
                              refine pure_ (i := 15) (N := some 26) (v := ?_) (a' := ?_) #[true, true, true, true, true, true, true, true, true, true, true, true, true, true, true, true] rfl rfl (any_of HT_.out (by kernel_rfl)) (fun _ _ _ h => h) (Or.inl ⟨by rfl, ?_⟩) ?_ ?_
                              rotate_left
                              · intro w'
                                go_simp
                                with_reducible rfl
                              rotate_left
                              · simp only [Act.put, List.setIfInBounds_toArray, List.set_cons_zero, List.set_cons_succ, i64_w, i32_w]
                                rfl
                              refine done_ (done_of HT_.out (by kernel_rfl)) ?_
                              try go_wp2
                              have n0_ := Aside0.mk (Kd.R_drew HO_3.out)
                              have n1_ := Aside0.mk (below_drew1 HB.out)
                              clear HO_3
                              clear HB
                              have HO_3 := n0_
                              have HB := n1_
                              clear n0_ n1_
                              have q23 : (x5_2 : Int) ≤ ((x3_1.length : Int) : Int) := of_decide_eq_true (by first | (with_reducible assumption) | assumption)
                              obtain ⟨i023, hi023, _, hsz23, _⟩ := info_parts info50
                              have hroom23 : x3_1.length ≤ co20 := (Kd.R_reads' HO_3.out).2.1
                              have hC23 : Kd.C k50 _ (some ad118) x3_1.length x3_1 := (Kd.R_reads' HO_3.out).2.2
                              have hcut23 := cut_to (P := Try.prog) 36 50 .i64 Try.underlying36 hi023 (some ad118) x3_1.length co20 x5_2 (of_decide_eq_true (by first | (with_reducible assumption) | assumption)) q23 hroom23
                              have hr23 := Kd.C_take (m := (x5_2 : Int).toNat) hC23 (by omega)
                              have hy23 : y124.length = (x5_2 : Int).toNat := (by rw [Ny124.out, List.length_take]; omega)
                              rw [← Ny124.out] at hr23
                              rw [← hy23] at hcut23
                              have HR127 := Aside0.mk hr23
                              have HC127 := Aside0.mk (show y124.length ≤ co20 from by omega)
                              clear hr23 hC23 hroom23 hi023 hsz23
                              have KY23 := Aside0.mk hy23
                              clear hy23
                              have KL23 := Aside0.mk (show (x5_2 : Int).toNat ≤ x3_1.length from by omega)
                              replace q23 := eq_true q23
                              have p131 : 0 ≤ (x8_1 : Int) := of_decide_eq_true (by first | (with_reducible assumption) | assumption)
                              have q131 : x8_1 < (l0.length : Int) := of_decide_eq_true (by first | (with_reducible assumption) | assumption)
                              obtain ⟨ad131, e131, hx131_0, hx131_1, hx131_2⟩ := at_T50 HR0.out x8_1 p131 q131
                              have hw131_2 := hx131_2
                              have hw131_1 := hx131_1
                              have hw131_0 := hx131_0
                              obtain rfl : ad119 = ad131 := (by injection e131)
                              replace hx131_0 := (HB.out.cell (World.block_lt_of_cell? w _ hx131_0)).trans hx131_0
                              replace hx131_1 := (HB.out.cell (World.block_lt_of_cell? w _ hx131_1)).trans hx131_1
                              replace hx131_2 := (HB.out.cell (World.block_lt_of_cell? w _ hx131_2)).trans hx131_2
                              replace p131 := eq_true p131
                              replace q131 := eq_true q131
                              have q24 : (x5_2 : Int) ≤ ((x3_1.length : Int) : Int) := of_decide_eq_true (by first | (with_reducible assumption) | assumption)
                              obtain ⟨i024, hi024, _, hsz24, _⟩ := info_parts info50
                              have hroom24 : x3_1.length ≤ co20 := (Kd.R_reads' HO_3.out).2.1
                              have hC24 : Kd.C k50 _ (some ad118) x3_1.length x3_1 := (Kd.R_reads' HO_3.out).2.2
                              have q024 : (0 : Int) ≤ (x5_2 : Int) := of_decide_eq_true (by first | (with_reducible assumption) | assumption)
                              have hcut24 := cut_from (P := Try.prog) 36 50 .i64 Try.underlying36 hi024 3 hsz24 (some ad118) x3_1.length co20 x5_2 q024 q24
                              have hr24 := Kd.C_drop (m := (x5_2 : Int).toNat) (c := co20) hC24 (by omega) hroom24
                              obtain ⟨A24, hA24⟩ : ∃ A1, A1 = (if co20 = (x5_2 : Int).toNat then (some ad118) else ((some ad118) : Option Addr).map (·.add ((x5_2 : Int).toNat * 3))) := ⟨_, rfl⟩
                              obtain ⟨c24, hc24⟩ : ∃ c1, c1 = co20 - (x5_2 : Int).toNat := ⟨_, rfl⟩
                              have hy24 : y138.length = x3_1.length - (x5_2 : Int).toNat := (by rw [Ny138.out, List.length_drop] <;> omega)
                              rw [show (x3_1).drop (x5_2 : Int).toNat = y138 from Ny138.out.symm] at hr24
                              replace hr24 : Kd.C k50 _ A24 y138.length y138 := (by rw [hA24]; exact hr24)
                              rw [← hy24, ← hA24, ← hc24] at hcut24
                              have HR141 := Aside0.mk hr24
                              have HC141 := Aside0.mk (show y138.length ≤ c24 from by rw [hy24, hc24]; exact Nat.sub_le_sub_right hroom24 _)
                              clear hr24 hC24 hroom24 hi024 hsz24 hc24
                              have KY24 := Aside0.mk hy24
                              have KA24 := Aside0.mk hA24
                              clear hy24 hA24
                              have KL24 := Aside0.mk (show (x5_2 : Int).toNat ≤ x3_1.length from by omega)
                              replace q24 := eq_true q24
                              refine start_ (n := 16) (S := fun w' => w'.cell? (ad119.add ((x8_1).toNat * 3)) = some (.int .i64 ((rd_T50 l0 x8_1).f0)) ∧ w'.cell? ⟨(ad119.add ((x8_1).toNat * 3)).block, (ad119.add ((x8_1).toNat * 3)).off + 1, none⟩ = some (.string ((rd_T50 l0 x8_1).f1)) ∧ w'.cell? ⟨(ad119.add ((x8_1).toNat * 3)).block, (ad119.add ((x8_1).toNat * 3)).off + 2, none⟩ = some (.string ((rd_T50 l0 x8_1).f2))) (ds := []) #[false, false, false, false, false, false, false, false, false, false, false, false, false, false, false, false] (by kernel_rfl) rfl rfl ⟨((HB.out.cell (World.block_lt_of_cell? w _ hw131_0)).trans hw131_0), ((HB.out.cell (World.block_lt_of_cell? w _ hw131_1)).trans hw131_1), ((HB.out.cell (World.block_lt_of_cell? w _ hw131_2)).trans hw131_2)⟩ (fun hHeld => ?_); refine with_tabW spec_Sorted.tab8 spec_Sorted.bits8 (fun HT_ HW_ => ?_)
                              generalize w21.drew = w22 at HO_3 HB HR127 HR141 hx131_0 hx131_1 hx131_2 hHeld ⊢
                              refine pure_ (i := 1) (N := some 30) (v := ?_) (a' := ?_) #[false, true, false, false, false, false, false, false, false, false, false, false, false, false, false, false] rfl rfl (any_of HT_.out (by kernel_rfl)) (fun _ _ _ h => h) (Or.inl ⟨by rfl, ?_⟩) ?_ ?_
                              rotate_left
                              · intro w'
                                go_simp
                                with_reducible rfl
                              rotate_left
                              · simp only [Act.put, List.setIfInBounds_toArray, List.set_cons_zero, List.set_cons_succ, i64_w, i32_w]
                                rfl
                              refine pure_ (i := 2) (N := some 31) (v := ?_) (a' := ?_) #[false, true, true, false, false, false, false, false, false, false, false, false, false, false, false, false] rfl rfl (any_of HT_.out (by kernel_rfl)) (fun _ _ _ h => h) (Or.inl ⟨by rfl, ?_⟩) ?_ ?_
                              rotate_left
                              · intro w'
                                go_simp
                                with_reducible rfl
                              rotate_left
                              · simp only [Act.put, List.setIfInBounds_toArray, List.set_cons_zero, List.set_cons_succ, i64_w, i32_w]
                                rfl
                              refine pure_ (i := 3) (N := some 32) (v := ?_) (a' := ?_) #[false, true, true, true, false, false, false, false, false, false, false, false, false, false, false, false] rfl rfl (any_of HT_.out (by kernel_rfl)) (fun _ _ _ h => h) (Or.inl ⟨by rfl, ?_⟩) ?_ ?_
                              rotate_left
                              · intro w'
                                go_simp
                                with_reducible rfl
                              rotate_left
                              · simp only [Act.put, List.setIfInBounds_toArray, List.set_cons_zero, List.set_cons_succ, i64_w, i32_w]
                                rfl
                              refine pure_ (i := 5) (N := some 34) (v := ?_) (a' := ?_) #[false, true, true, true, false, true, false, false, false, false, false, false, false, false, false, false] rfl rfl (any_of HT_.out (by kernel_rfl)) (fun _ _ _ h => h) (Or.inl ⟨by rfl, ?_⟩) ?_ ?_
                              rotate_left
                              · intro w'
                                go_simp
                                with_reducible rfl
                              rotate_left
                              · simp only [Act.put, List.setIfInBounds_toArray, List.set_cons_zero, List.set_cons_succ, i64_w, i32_w]
                                rfl
                              refine pure_ (i := 6) (N := some 35) (v := ?_) (a' := ?_) #[false, true, true, true, false, true, true, false, false, false, false, false, false, false, false, false] rfl rfl (any_of HT_.out (by kernel_rfl)) (fun _ _ _ h => h) (Or.inl ⟨by rfl, ?_⟩) ?_ ?_
                              rotate_left
                              · intro w'
                                go_simp
                                with_reducible rfl
                              rotate_left
                              · simp only [Act.put, List.setIfInBounds_toArray, List.set_cons_zero, List.set_cons_succ, i64_w, i32_w]
                                rfl
                              refine pure_ (i := 7) (N := some 36) (v := ?_) (a' := ?_) #[false, true, true, true, false, true, true, true, false, false, false, false, false, false, false, false] rfl rfl (any_of HT_.out (by kernel_rfl)) (fun _ _ _ h => h) (Or.inl ⟨by rfl, ?_⟩) ?_ ?_
                              rotate_left
                              · intro w'
                                go_simp
                                with_reducible rfl
                              rotate_left
                              · simp only [Act.put, List.setIfInBounds_toArray, List.set_cons_zero, List.set_cons_succ, i64_w, i32_w]
                                rfl
                              refine pure_ (i := 11) (N := some 40) (v := ?_) (a' := ?_) #[false, true, true, true, false, true, true, true, false, false, false, true, false, false, false, false] rfl rfl (any_of HT_.out (by kernel_rfl)) (fun _ _ _ h => h) (Or.inl ⟨by rfl, ?_⟩) ?_ ?_
                              rotate_left
                              · intro w'
                                go_simp
                                with_reducible rfl
                              rotate_left
                              · simp only [Act.put, List.setIfInBounds_toArray, List.set_cons_zero, List.set_cons_succ, i64_w, i32_w]
                                rfl
                              refine pure_ (i := 12) (N := some 41) (v := ?_) (a' := ?_) #[false, true, true, true, false, true, true, true, false, false, false, true, true, false, false, false] rfl rfl (any_of HT_.out (by kernel_rfl)) (fun _ _ _ h => h) (Or.inl ⟨by rfl, ?_⟩) ?_ ?_
                              rotate_left
                              · intro w'
                                go_simp
                                with_reducible rfl
                              rotate_left
                              · simp only [Act.put, List.setIfInBounds_toArray, List.set_cons_zero, List.set_cons_succ, i64_w, i32_w]
                                rfl
                              refine pure_ (i := 13) (N := some 42) (v := ?_) (a' := ?_) #[false, true, true, true, false, true, true, true, false, false, false, true, true, true, false, false] rfl rfl (any_of HT_.out (by kernel_rfl)) (fun _ _ _ h => h) (Or.inl ⟨by rfl, ?_⟩) ?_ ?_
                              rotate_left
                              · intro w'
                                go_simp
                                with_reducible rfl
                              rotate_left
                              · simp only [Act.put, List.setIfInBounds_toArray, List.set_cons_zero, List.set_cons_succ, i64_w, i32_w]
                                rfl
                              refine take_ (i := 8) (N := some 37) (v := ?_) (a' := ?_) #[false, true, true, true, false, true, true, true, true, false, false, true, true, true, false, false] rfl rfl (take_ofW HT_.out HW_.out (by kernel_rfl)) (fun _ _ _ h => h) (Or.inl ⟨by rfl, ?_⟩) hHeld ?_ ?_
                              rotate_left
                              · rintro w' ⟨s0, s1, s2⟩
                                go_simp
                                with_reducible rfl
                              rotate_left
                              · simp only [Act.put, List.setIfInBounds_toArray, List.set_cons_zero, List.set_cons_succ, i64_w, i32_w]
                                rfl
                              refine join_ (σ := Value × Value × Value) 3 #[true, true, true, true, true, true, true, true, true, true, false, true, true, true, false, false] (fun s_ => [(29, s_.1), (33, s_.2.1), (38, s_.2.2)]) (fun s_ w' => (w'.cell? (ad119.add ((x8_1).toNat * 3)) = some (.int .i64 ((rd_T50 l0 x8_1).f0)) ∧ w'.cell? ⟨(ad119.add ((x8_1).toNat * 3)).block, (ad119.add ((x8_1).toNat * 3)).off + 1, none⟩ = some (.string ((rd_T50 l0 x8_1).f1)) ∧ w'.cell? ⟨(ad119.add ((x8_1).toNat * 3)).block, (ad119.add ((x8_1).toNat * 3)).off + 2, none⟩ = some (.string ((rd_T50 l0 x8_1).f2))) ∧ (Kd.R k50 50 w' w.heap.size (fun k_ => some k_ ≠ (s_.2.2 : Value).ownBlock ∧ some k_ ≠ (.slice (some ad118) x3_1.length co20 : Value).ownBlock) s_.2.1 y128) ∧ (Kd.R k50 50 w' w.heap.size (fun k_ => some k_ ≠ (s_.2.1 : Value).ownBlock ∧ some k_ ≠ (.slice (some ad118) x3_1.length co20 : Value).ownBlock) s_.2.2 y132) ∧ (Kd.R k50 50 w' w.heap.size (fun k_ => some k_ ≠ (s_.2.1 : Value).ownBlock ∧ some k_ ≠ (s_.2.2 : Value).ownBlock) (.slice (some ad118) x3_1.length co20) x3_1) ∧ (Below w.heap.size w w')) ?_ ?_
                              rotate_left
                              · intro hCont
                                refine two_ (i := 0) (j := 9) (Ni := some 29) (Nj := some 38) #[true, true, true, true, false, true, true, true, true, false, false, true, true, true, false, false] #[false, true, true, true, false, true, true, true, true, true, false, true, true, true, false, false] rfl rfl rfl rfl (two_of HT_.out (by kernel_rfl)) (by decide) (by decide) (fun K hK => ?_) (fun K hK => ?_)
                                · skip
                                  refine Kd.R_lit_step k50 _ 50 ?hg (N := 29) ?hd (xs := ([] : List (S50))) (inner := []) (ok := fun _ => True) (okp := fun _ => True) ?hr ?hp (fun _ hk => hk) trivial (Below.refl _ _) (Nat.le_refl _) (by simp) ?_; (case hd => rfl); (case hg => rfl); (case hr => first | (go_simp; done) | (go_simp; rfl)); (case hp => exact (Reps.none _ _))
                                  intro v122 w25 ho26 hb hg_ hnew_
                                  clear hg_ hnew_
                                  (first | rw [← Ny121.out] at ho26 | (simp only [Int.reduceToNat] at ho26; rw [← Ny121.out] at ho26))
                                  have n0_ := Aside0.mk (Kd.R_elder' (by (with_reducible repeat (first | apply Kd.R_alloc | apply Kd.R_drewN | apply Kd.R_drew)); exact HO_3.out) (Kd.R_base ho26) hb)
                                  have n1_ := Aside0.mk (Kd.R_lower (Kd.R_new' ho26 (Kd.R_lt (by (with_reducible repeat (first | apply Kd.R_alloc | apply Kd.R_drewN | apply Kd.R_drew)); exact HO_3.out))) (below_size (by repeat (first | (with_reducible first | exact HB.out | apply below_alloc | apply pw_below_drewN | apply below_drew1) | exact HB.out))))
                                  have n2_ := Aside0.mk (Kd.C_below (by repeat (first | (with_reducible exact HR127.out) | (with_reducible refine Kd.C_alloc ?_ _) | (with_reducible refine Kd.C_drewN ?_ _) | (with_reducible refine Kd.C_drew ?_) | exact HR127.out)) hb)
                                  have n3_ := Aside0.mk (Kd.C_below (by repeat (first | (with_reducible exact HR141.out) | (with_reducible refine Kd.C_alloc ?_ _) | (with_reducible refine Kd.C_drewN ?_ _) | (with_reducible refine Kd.C_drew ?_) | exact HR141.out)) hb)
                                  have n4_ := Aside0.mk (below_step (by repeat (first | (with_reducible first | exact HB.out | apply below_alloc | apply pw_below_drewN | apply below_drew1) | exact HB.out)) hb)
                                  clear HO_3
                                  clear HR127
                                  clear HR141
                                  clear HB
                                  have HO_3 := n0_
                                  have HO123 := n1_
                                  have HR127 := n2_
                                  have HR141 := n3_
                                  have HB := n4_
                                  clear n0_ n1_ n2_ n3_ n4_
                                  clear hb ho26
                                  refine hK.out _ _ ⟨((HB.out.cell (World.block_lt_of_cell? w _ hw131_0)).trans hw131_0), ((HB.out.cell (World.block_lt_of_cell? w _ hw131_1)).trans hw131_1), ((HB.out.cell (World.block_lt_of_cell? w _ hw131_2)).trans hw131_2)⟩ (fun hHeld => ?_)
                                  clear hK K
                                  refine norm_ (a' := ?_) ?_ ?_
                                  rotate_left
                                  · show Act.put _ (some 29) _ = _
                                    simp only [Act.put, List.setIfInBounds_toArray, List.set_cons_zero, List.set_cons_succ, i64_w, i32_w]
                                    rfl
                                  refine two_ (i := 4) (j := 9) (Ni := some 33) (Nj := some 38) #[true, true, true, true, true, true, true, true, true, false, false, true, true, true, false, false] #[true, true, true, true, false, true, true, true, true, true, false, true, true, true, false, false] rfl rfl rfl rfl (two_of HT_.out (by kernel_rfl)) (by decide) (by decide) (fun K hK => ?_) (fun K hK => ?_)
                                  · skip
                                    refine Kd.R_append_rows_step k50 (w0 := w) w.heap.size (by rfl) (.tmp 29) (.tmp 32) 36 50 (.agg #[(.int .i64 0), (.string ⟨#[]⟩), (.string ⟨#[]⟩)]) 40 rfl Try.underlying36 info50 rfl (by decide) (by omega) v122 y121 y124 _ _ _ (fun k_ => some k_ ≠ (.slice (some ad118) x3_1.length co20 : Value).ownBlock) (fun _ => False) rfl rfl ?aO ?aR (fun _ _ h => h) (fun _ h => h.elim) ?aF ?aB ?aS ?aL ?_
                                    (case aR => repeat (first | exact (by repeat (first | (with_reducible exact HR127.out) | (with_reducible refine Kd.C_alloc ?_ _) | (with_reducible refine Kd.C_drewN ?_ _) | (with_reducible refine Kd.C_drew ?_) | exact HR127.out)) | (with_reducible refine Kd.C_alloc ?_ _) | (with_reducible refine Kd.C_drewN ?_ _) | (with_reducible refine Kd.C_drew ?_)))
                                    (case aB => exact (by repeat (first | (with_reducible first | exact HB.out | apply below_alloc | apply pw_below_drewN | apply below_drew1) | exact HB.out)))
                                    (case aF => exact (fun k_ hk => Kd.fresh' (Kd.R_lt (by (with_reducible repeat (first | apply Kd.R_alloc | apply Kd.R_drewN | apply Kd.R_drew)); exact HO_3.out)) k_ hk))
                                    (case aO => exact (by (with_reducible repeat (first | apply Kd.R_alloc | apply Kd.R_drewN | apply Kd.R_drew)); exact Kd.R_mono HO123.out (fun _ hk => hk.2)))
                                    (case aS => exact (below_size (by repeat (first | (with_reducible first | exact HB.out | apply below_alloc | apply pw_below_drewN | apply below_drew1) | exact HB.out))))
                                    (case aL => have := LMc14.out; omega)
                                    intro v129 w27 ho hb hg hat
                                    rw [← Ny128.out] at ho
                                    have n0_ := Aside0.mk (Kd.R_after (ok := (fun _ => True)) (by (with_reducible repeat (first | apply Kd.R_alloc | apply Kd.R_drewN | apply Kd.R_drew)); exact HO_3.out) hg hat)
                                    have n1_ := Aside0.mk (hb)
                                    have n2_ := Aside0.mk ((show Kd.C k50 w27 (some ad118) y124.length y124 from by rw [Ny124.out]; exact Kd.C_take (m := (x5_2 : Int).toNat) ((Kd.R_reads' (Kd.R_after (ok := (fun _ => True)) (by (with_reducible repeat (first | apply Kd.R_alloc | apply Kd.R_drewN | apply Kd.R_drew)); exact HO_3.out) hg hat)).2.2) KL23.out))
                                    have n3_ := Aside0.mk ((show Kd.C k50 w27 A24 y138.length y138 from by rw [Ny138.out, KA24.out]; exact Kd.C_drop (m := (x5_2 : Int).toNat) (c := co20) ((Kd.R_reads' (Kd.R_after (ok := (fun _ => True)) (by (with_reducible repeat (first | apply Kd.R_alloc | apply Kd.R_drewN | apply Kd.R_drew)); exact HO_3.out) hg hat)).2.2) KL24.out ((Kd.R_reads' (Kd.R_after (ok := (fun _ => True)) (by (with_reducible repeat (first | apply Kd.R_alloc | apply Kd.R_drewN | apply Kd.R_drew)); exact HO_3.out) hg hat)).2.1)))
                                    have n4_ := Aside0.mk (ho)
                                    clear HO_3
                                    clear HB
                                    clear HR127
                                    clear HR141
                                    clear HO123
                                    have HO_3 := n0_
                                    have HB := n1_
                                    have HR127 := n2_
                                    have HR141 := n3_
                                    have HO130 := n4_
                                    clear n0_ n1_ n2_ n3_ n4_
                                    clear ho hb hg hat
                                    refine hK.out _ _ ⟨((HB.out.cell (World.block_lt_of_cell? w _ hw131_0)).trans hw131_0), ((HB.out.cell (World.block_lt_of_cell? w _ hw131_1)).trans hw131_1), ((HB.out.cell (World.block_lt_of_cell? w _ hw131_2)).trans hw131_2)⟩ (fun hHeld => ?_)
                                    clear hK K
                                    refine norm_ (a' := ?_) ?_ ?_
                                    rotate_left
                                    · show Act.put _ (some 33) _ = _
                                      simp only [Act.put, List.setIfInBounds_toArray, List.set_cons_zero, List.set_cons_succ, i64_w, i32_w]
                                      rfl
                                    refine one_ (i := 9) (N := some 38) #[true, true, true, true, true, true, true, true, true, true, false, true, true, true, false, false] rfl rfl (one_of HT_.out (by kernel_rfl)) (by decide) (fun K hK => ?_)
                                    refine Kd.R_lit_step k50 _ 50 ?hg (N := 38) ?hd (xs := ([(⟨(rd_T50 l0 x8_1).f0, (rd_T50 l0 x8_1).f1, (rd_T50 l0 x8_1).f2⟩ : S50)] : List (S50))) (inner := [.int .i64 ((rd_T50 l0 x8_1).f0), .string ((rd_T50 l0 x8_1).f1), .string ((rd_T50 l0 x8_1).f2)]) (ok := fun _ => True) (okp := fun _ => True) ?hr ?hp (fun _ hk => hk) trivial (Below.refl _ _) (Nat.le_refl _) (by simp) ?_; (case hd => rfl); (case hg => rfl); (case hr => first | (go_simp; done) | (go_simp; rfl)); (case hp => exact (Reps.c3 (show Kd.M k50 _ _ _ (⟨(rd_T50 l0 x8_1).f0, (rd_T50 l0 x8_1).f1, (rd_T50 l0 x8_1).f2⟩ : S50) [.int .i64 ((rd_T50 l0 x8_1).f0), .string ((rd_T50 l0 x8_1).f1), .string ((rd_T50 l0 x8_1).f2)] from (k50_mkM _ _ _ (⟨(rd_T50 l0 x8_1).f0, (rd_T50 l0 x8_1).f1, (rd_T50 l0 x8_1).f2⟩ : S50) )) (Reps.none _ _)))
                                    intro v133 w28 ho29 hb hg_ hnew_
                                    clear hg_ hnew_
                                    (first | rw [← Ny132.out] at ho29 | (simp only [Int.reduceToNat] at ho29; rw [← Ny132.out] at ho29))
                                    have n0_ := Aside0.mk (Kd.R_elder' (by (with_reducible repeat (first | apply Kd.R_alloc | apply Kd.R_drewN | apply Kd.R_drew)); exact HO_3.out) (Kd.R_base ho29) hb)
                                    have n1_ := Aside0.mk (Kd.R_elder' (by (with_reducible repeat (first | apply Kd.R_alloc | apply Kd.R_drewN | apply Kd.R_drew)); exact HO130.out) (Kd.R_base ho29) hb)
                                    have n2_ := Aside0.mk (Kd.R_lower (Kd.R_new' (Kd.R_new' ho29 (Kd.R_lt (by (with_reducible repeat (first | apply Kd.R_alloc | apply Kd.R_drewN | apply Kd.R_drew)); exact HO_3.out))) (Kd.R_lt (by (with_reducible repeat (first | apply Kd.R_alloc | apply Kd.R_drewN | apply Kd.R_drew)); exact HO130.out))) (below_size (by repeat (first | (with_reducible first | exact HB.out | apply below_alloc | apply pw_below_drewN | apply below_drew1) | exact HB.out))))
                                    have n3_ := Aside0.mk (Kd.C_below (by repeat (first | (with_reducible exact HR127.out) | (with_reducible refine Kd.C_alloc ?_ _) | (with_reducible refine Kd.C_drewN ?_ _) | (with_reducible refine Kd.C_drew ?_) | exact HR127.out)) hb)
                                    have n4_ := Aside0.mk (Kd.C_below (by repeat (first | (with_reducible exact HR141.out) | (with_reducible refine Kd.C_alloc ?_ _) | (with_reducible refine Kd.C_drewN ?_ _) | (with_reducible refine Kd.C_drew ?_) | exact HR141.out)) hb)
                                    have n5_ := Aside0.mk (below_step (by repeat (first | (with_reducible first | exact HB.out | apply below_alloc | apply pw_below_drewN | apply below_drew1) | exact HB.out)) hb)
                                    clear HO_3
                                    clear HO130
                                    clear HR127
                                    clear HR141
                                    clear HB
                                    have HO_3 := n0_
                                    have HO130 := n1_
                                    have HO134 := n2_
                                    have HR127 := n3_
                                    have HR141 := n4_
                                    have HB := n5_
                                    clear n0_ n1_ n2_ n3_ n4_ n5_
                                    clear hb ho29
                                    refine hK.out _ _ ⟨((HB.out.cell (World.block_lt_of_cell? w _ hw131_0)).trans hw131_0), ((HB.out.cell (World.block_lt_of_cell? w _ hw131_1)).trans hw131_1), ((HB.out.cell (World.block_lt_of_cell? w _ hw131_2)).trans hw131_2)⟩ (fun hHeld => ?_)
                                    clear hK K
                                    refine norm_ (a' := ?_) ?_ ?_
                                    rotate_left
                                    · show Act.put _ (some 38) _ = _
                                      simp only [Act.put, List.setIfInBounds_toArray, List.set_cons_zero, List.set_cons_succ, i64_w, i32_w]
                                      rfl
                                    exact norm_ (by simp only [putAll, Act.put, List.setIfInBounds_toArray, List.set_cons_zero, List.set_cons_succ]) (hCont (v122, v129, v133) _ ⟨hHeld, (by (with_reducible repeat (first | apply Kd.R_alloc | apply Kd.R_drewN | apply Kd.R_drew)); exact Kd.R_mono HO130.out (fun _ hk => ⟨hk.2, hk.1⟩)), (by (with_reducible repeat (first | apply Kd.R_alloc | apply Kd.R_drewN | apply Kd.R_drew)); exact Kd.R_mono HO134.out (fun _ hk => ⟨hk.2, hk.1.2⟩)), (by (with_reducible repeat (first | apply Kd.R_alloc | apply Kd.R_drewN | apply Kd.R_drew)); exact Kd.R_mono HO_3.out (fun _ hk => ⟨hk.1.2, hk.2⟩)), (by repeat (first | (with_reducible first | exact HB.out | apply below_alloc | apply pw_below_drewN | apply below_drew1) | exact HB.out))⟩)
                                  · skip
                                    refine Kd.R_lit_step k50 _ 50 ?hg (N := 38) ?hd (xs := ([(⟨(rd_T50 l0 x8_1).f0, (rd_T50 l0 x8_1).f1, (rd_T50 l0 x8_1).f2⟩ : S50)] : List (S50))) (inner := [.int .i64 ((rd_T50 l0 x8_1).f0), .string ((rd_T50 l0 x8_1).f1), .string ((rd_T50 l0 x8_1).f2)]) (ok := fun _ => True) (okp := fun _ => True) ?hr ?hp (fun _ hk => hk) trivial (Below.refl _ _) (Nat.le_refl _) (by simp) ?_; (case hd => rfl); (case hg => rfl); (case hr => first | (go_simp; done) | (go_simp; rfl)); (case hp => exact (Reps.c3 (show Kd.M k50 _ _ _ (⟨(rd_T50 l0 x8_1).f0, (rd_T50 l0 x8_1).f1, (rd_T50 l0 x8_1).f2⟩ : S50) [.int .i64 ((rd_T50 l0 x8_1).f0), .string ((rd_T50 l0 x8_1).f1), .string ((rd_T50 l0 x8_1).f2)] from (k50_mkM _ _ _ (⟨(rd_T50 l0 x8_1).f0, (rd_T50 l0 x8_1).f1, (rd_T50 l0 x8_1).f2⟩ : S50) )) (Reps.none _ _)))
                                    intro v133 w27 ho28 hb hg_ hnew_
                                    clear hg_ hnew_
                                    (first | rw [← Ny132.out] at ho28 | (simp only [Int.reduceToNat] at ho28; rw [← Ny132.out] at ho28))
                                    have n0_ := Aside0.mk (Kd.R_elder' (by (with_reducible repeat (first | apply Kd.R_alloc | apply Kd.R_drewN | apply Kd.R_drew)); exact HO_3.out) (Kd.R_base ho28) hb)
                                    have n1_ := Aside0.mk (Kd.R_elder' (by (with_reducible repeat (first | apply Kd.R_alloc | apply Kd.R_drewN | apply Kd.R_drew)); exact HO123.out) (Kd.R_base ho28) hb)
                                    have n2_ := Aside0.mk (Kd.R_lower (Kd.R_new' (Kd.R_new' ho28 (Kd.R_lt (by (with_reducible repeat (first | apply Kd.R_alloc | apply Kd.R_drewN | apply Kd.R_drew)); exact HO_3.out))) (Kd.R_lt (by (with_reducible repeat (first | apply Kd.R_alloc | apply Kd.R_drewN | apply Kd.R_drew)); exact HO123.out))) (below_size (by repeat (first | (with_reducible first | exact HB.out | apply below_alloc | apply pw_below_drewN | apply below_drew1) | exact HB.out))))
                                    have n3_ := Aside0.mk (Kd.C_below (by repeat (first | (with_reducible exact HR127.out) | (with_reducible refine Kd.C_alloc ?_ _) | (with_reducible refine Kd.C_drewN ?_ _) | (with_reducible refine Kd.C_drew ?_) | exact HR127.out)) hb)
                                    have n4_ := Aside0.mk (Kd.C_below (by repeat (first | (with_reducible exact HR141.out) | (with_reducible refine Kd.C_alloc ?_ _) | (with_reducible refine Kd.C_drewN ?_ _) | (with_reducible refine Kd.C_drew ?_) | exact HR141.out)) hb)
                                    have n5_ := Aside0.mk (below_step (by repeat (first | (with_reducible first | exact HB.out | apply below_alloc | apply pw_below_drewN | apply below_drew1) | exact HB.out)) hb)
                                    clear HO_3
                                    clear HO123
                                    clear HR127
                                    clear HR141
                                    clear HB
                                    have HO_3 := n0_
                                    have HO123 := n1_
                                    have HO134 := n2_
                                    have HR127 := n3_
                                    have HR141 := n4_
                                    have HB := n5_
                                    clear n0_ n1_ n2_ n3_ n4_ n5_
                                    clear hb ho28
                                    refine hK.out _ _ ⟨((HB.out.cell (World.block_lt_of_cell? w _ hw131_0)).trans hw131_0), ((HB.out.cell (World.block_lt_of_cell? w _ hw131_1)).trans hw131_1), ((HB.out.cell (World.block_lt_of_cell? w _ hw131_2)).trans hw131_2)⟩ (fun hHeld => ?_)
                                    clear hK K
                                    refine norm_ (a' := ?_) ?_ ?_
                                    rotate_left
                                    · show Act.put _ (some 38) _ = _
                                      simp only [Act.put, List.setIfInBounds_toArray, List.set_cons_zero, List.set_cons_succ, i64_w, i32_w]
                                      rfl
                                    refine one_ (i := 4) (N := some 33) #[true, true, true, true, true, true, true, true, true, true, false, true, true, true, false, false] rfl rfl (one_of HT_.out (by kernel_rfl)) (by decide) (fun K hK => ?_)
                                    refine Kd.R_append_rows_step k50 (w0 := w) w.heap.size (by rfl) (.tmp 29) (.tmp 32) 36 50 (.agg #[(.int .i64 0), (.string ⟨#[]⟩), (.string ⟨#[]⟩)]) 40 rfl Try.underlying36 info50 rfl (by decide) (by omega) v122 y121 y124 _ _ _ (fun k_ => some k_ ≠ (.slice (some ad118) x3_1.length co20 : Value).ownBlock ∧ some k_ ≠ (v133 : Value).ownBlock) (fun _ => False) rfl rfl ?aO ?aR (fun _ _ h => h) (fun _ h => h.elim) ?aF ?aB ?aS ?aL ?_
                                    (case aR => repeat (first | exact (by repeat (first | (with_reducible exact HR127.out) | (with_reducible refine Kd.C_alloc ?_ _) | (with_reducible refine Kd.C_drewN ?_ _) | (with_reducible refine Kd.C_drew ?_) | exact HR127.out)) | (with_reducible refine Kd.C_alloc ?_ _) | (with_reducible refine Kd.C_drewN ?_ _) | (with_reducible refine Kd.C_drew ?_)))
                                    (case aB => exact (by repeat (first | (with_reducible first | exact HB.out | apply below_alloc | apply pw_below_drewN | apply below_drew1) | exact HB.out)))
                                    (case aF => exact (fun k_ hk => ⟨Kd.fresh' (Kd.R_lt (by (with_reducible repeat (first | apply Kd.R_alloc | apply Kd.R_drewN | apply Kd.R_drew)); exact HO_3.out)) k_ hk, Kd.fresh' (Kd.R_lt (by (with_reducible repeat (first | apply Kd.R_alloc | apply Kd.R_drewN | apply Kd.R_drew)); exact HO134.out)) k_ hk⟩))
                                    (case aO => exact (by (with_reducible repeat (first | apply Kd.R_alloc | apply Kd.R_drewN | apply Kd.R_drew)); exact Kd.R_mono HO123.out (fun _ hk => ⟨hk.1.2, hk.2⟩)))
                                    (case aS => exact (below_size (by repeat (first | (with_reducible first | exact HB.out | apply below_alloc | apply pw_below_drewN | apply below_drew1) | exact HB.out))))
                                    (case aL => have := LMc14.out; omega)
                                    intro v129 w29 ho hb hg hat
                                    rw [← Ny128.out] at ho
                                    have n0_ := Aside0.mk (Kd.R_after (ok := (fun k_ => some k_ ≠ (v133 : Value).ownBlock)) (by (with_reducible repeat (first | apply Kd.R_alloc | apply Kd.R_drewN | apply Kd.R_drew)); exact Kd.R_mono HO_3.out (fun _ hk => ⟨hk.2, hk.1.2⟩)) hg hat)
                                    have n1_ := Aside0.mk (Kd.R_after (ok := (fun k_ => some k_ ≠ (.slice (some ad118) x3_1.length co20 : Value).ownBlock)) (by (with_reducible repeat (first | apply Kd.R_alloc | apply Kd.R_drewN | apply Kd.R_drew)); exact Kd.R_mono HO134.out (fun _ hk => ⟨hk.1.2, hk.2⟩)) hg hat)
                                    have n2_ := Aside0.mk (hb)
                                    have n3_ := Aside0.mk ((show Kd.C k50 w29 (some ad118) y124.length y124 from by rw [Ny124.out]; exact Kd.C_take (m := (x5_2 : Int).toNat) ((Kd.R_reads' (Kd.R_after (ok := (fun k_ => some k_ ≠ (v133 : Value).ownBlock)) (by (with_reducible repeat (first | apply Kd.R_alloc | apply Kd.R_drewN | apply Kd.R_drew)); exact Kd.R_mono HO_3.out (fun _ hk => ⟨hk.2, hk.1.2⟩)) hg hat)).2.2) KL23.out))
                                    have n4_ := Aside0.mk ((show Kd.C k50 w29 A24 y138.length y138 from by rw [Ny138.out, KA24.out]; exact Kd.C_drop (m := (x5_2 : Int).toNat) (c := co20) ((Kd.R_reads' (Kd.R_after (ok := (fun k_ => some k_ ≠ (v133 : Value).ownBlock)) (by (with_reducible repeat (first | apply Kd.R_alloc | apply Kd.R_drewN | apply Kd.R_drew)); exact Kd.R_mono HO_3.out (fun _ hk => ⟨hk.2, hk.1.2⟩)) hg hat)).2.2) KL24.out ((Kd.R_reads' (Kd.R_after (ok := (fun k_ => some k_ ≠ (v133 : Value).ownBlock)) (by (with_reducible repeat (first | apply Kd.R_alloc | apply Kd.R_drewN | apply Kd.R_drew)); exact Kd.R_mono HO_3.out (fun _ hk => ⟨hk.2, hk.1.2⟩)) hg hat)).2.1)))
                                    have n5_ := Aside0.mk (ho)
                                    clear HO_3
                                    clear HO134
                                    clear HB
                                    clear HR127
                                    clear HR141
                                    clear HO123
                                    have HO_3 := n0_
                                    have HO134 := n1_
                                    have HB := n2_
                                    have HR127 := n3_
                                    have HR141 := n4_
                                    have HO130 := n5_
                                    clear n0_ n1_ n2_ n3_ n4_ n5_
                                    clear ho hb hg hat
                                    refine hK.out _ _ ⟨((HB.out.cell (World.block_lt_of_cell? w _ hw131_0)).trans hw131_0), ((HB.out.cell (World.block_lt_of_cell? w _ hw131_1)).trans hw131_1), ((HB.out.cell (World.block_lt_of_cell? w _ hw131_2)).trans hw131_2)⟩ (fun hHeld => ?_)
                                    clear hK K
                                    refine norm_ (a' := ?_) ?_ ?_
                                    rotate_left
                                    · show Act.put _ (some 33) _ = _
                                      simp only [Act.put, List.setIfInBounds_toArray, List.set_cons_zero, List.set_cons_succ, i64_w, i32_w]
                                      rfl
                                    exact norm_ (by simp only [putAll, Act.put, List.setIfInBounds_toArray, List.set_cons_zero, List.set_cons_succ]) (hCont (v122, v129, v133) _ ⟨hHeld, (by (with_reducible repeat (first | apply Kd.R_alloc | apply Kd.R_drewN | apply Kd.R_drew)); exact Kd.R_mono HO130.out (fun _ hk => ⟨hk.2, hk.1⟩)), (by (with_reducible repeat (first | apply Kd.R_alloc | apply Kd.R_drewN | apply Kd.R_drew)); exact Kd.R_mono HO134.out (fun _ hk => ⟨hk.2, hk.1⟩)), (by (with_reducible repeat (first | apply Kd.R_alloc | apply Kd.R_drewN | apply Kd.R_drew)); exact Kd.R_mono HO_3.out (fun _ hk => ⟨hk.2, hk.1⟩)), (by repeat (first | (with_reducible first | exact HB.out | apply below_alloc | apply pw_below_drewN | apply below_drew1) | exact HB.out))⟩)
                                · skip
                                  refine Kd.R_lit_step k50 _ 50 ?hg (N := 38) ?hd (xs := ([(⟨(rd_T50 l0 x8_1).f0, (rd_T50 l0 x8_1).f1, (rd_T50 l0 x8_1).f2⟩ : S50)] : List (S50))) (inner := [.int .i64 ((rd_T50 l0 x8_1).f0), .string ((rd_T50 l0 x8_1).f1), .string ((rd_T50 l0 x8_1).f2)]) (ok := fun _ => True) (okp := fun _ => True) ?hr ?hp (fun _ hk => hk) trivial (Below.refl _ _) (Nat.le_refl _) (by simp) ?_; (case hd => rfl); (case hg => rfl); (case hr => first | (go_simp; done) | (go_simp; rfl)); (case hp => exact (Reps.c3 (show Kd.M k50 _ _ _ (⟨(rd_T50 l0 x8_1).f0, (rd_T50 l0 x8_1).f1, (rd_T50 l0 x8_1).f2⟩ : S50) [.int .i64 ((rd_T50 l0 x8_1).f0), .string ((rd_T50 l0 x8_1).f1), .string ((rd_T50 l0 x8_1).f2)] from (k50_mkM _ _ _ (⟨(rd_T50 l0 x8_1).f0, (rd_T50 l0 x8_1).f1, (rd_T50 l0 x8_1).f2⟩ : S50) )) (Reps.none _ _)))
                                  intro v133 w25 ho26 hb hg_ hnew_
                                  clear hg_ hnew_
                                  (first | rw [← Ny132.out] at ho26 | (simp only [Int.reduceToNat] at ho26; rw [← Ny132.out] at ho26))
                                  have n0_ := Aside0.mk (Kd.R_elder' (by (with_reducible repeat (first | apply Kd.R_alloc | apply Kd.R_drewN | apply Kd.R_drew)); exact HO_3.out) (Kd.R_base ho26) hb)
                                  have n1_ := Aside0.mk (Kd.R_lower (Kd.R_new' ho26 (Kd.R_lt (by (with_reducible repeat (first | apply Kd.R_alloc | apply Kd.R_drewN | apply Kd.R_drew)); exact HO_3.out))) (below_size (by repeat (first | (with_reducible first | exact HB.out | apply below_alloc | apply pw_below_drewN | apply below_drew1) | exact HB.out))))
                                  have n2_ := Aside0.mk (Kd.C_below (by repeat (first | (with_reducible exact HR127.out) | (with_reducible refine Kd.C_alloc ?_ _) | (with_reducible refine Kd.C_drewN ?_ _) | (with_reducible refine Kd.C_drew ?_) | exact HR127.out)) hb)
                                  have n3_ := Aside0.mk (Kd.C_below (by repeat (first | (with_reducible exact HR141.out) | (with_reducible refine Kd.C_alloc ?_ _) | (with_reducible refine Kd.C_drewN ?_ _) | (with_reducible refine Kd.C_drew ?_) | exact HR141.out)) hb)
                                  have n4_ := Aside0.mk (below_step (by repeat (first | (with_reducible first | exact HB.out | apply below_alloc | apply pw_below_drewN | apply below_drew1) | exact HB.out)) hb)
                                  clear HO_3
                                  clear HR127
                                  clear HR141
                                  clear HB
                                  have HO_3 := n0_
                                  have HO134 := n1_
                                  have HR127 := n2_
                                  have HR141 := n3_
                                  have HB := n4_
                                  clear n0_ n1_ n2_ n3_ n4_
                                  clear hb ho26
                                  refine hK.out _ _ ⟨((HB.out.cell (World.block_lt_of_cell? w _ hw131_0)).trans hw131_0), ((HB.out.cell (World.block_lt_of_cell? w _ hw131_1)).trans hw131_1), ((HB.out.cell (World.block_lt_of_cell? w _ hw131_2)).trans hw131_2)⟩ (fun hHeld => ?_)
                                  clear hK K
                                  refine norm_ (a' := ?_) ?_ ?_
                                  rotate_left
                                  · show Act.put _ (some 38) _ = _
                                    simp only [Act.put, List.setIfInBounds_toArray, List.set_cons_zero, List.set_cons_succ, i64_w, i32_w]
                                    rfl
                                  refine one_ (i := 0) (N := some 29) #[true, true, true, true, false, true, true, true, true, true, false, true, true, true, false, false] rfl rfl (one_of HT_.out (by kernel_rfl)) (by decide) (fun K hK => ?_)
                                  refine Kd.R_lit_step k50 _ 50 ?hg (N := 29) ?hd (xs := ([] : List (S50))) (inner := []) (ok := fun _ => True) (okp := fun _ => True) ?hr ?hp (fun _ hk => hk) trivial (Below.refl _ _) (Nat.le_refl _) (by simp) ?_; (case hd => rfl); (case hg => rfl); (case hr => first | (go_simp; done) | (go_simp; rfl)); (case hp => exact (Reps.none _ _))
                                  intro v122 w27 ho28 hb hg_ hnew_
                                  clear hg_ hnew_
                                  (first | rw [← Ny121.out] at ho28 | (simp only [Int.reduceToNat] at ho28; rw [← Ny121.out] at ho28))
                                  have n0_ := Aside0.mk (Kd.R_elder' (by (with_reducible repeat (first | apply Kd.R_alloc | apply Kd.R_drewN | apply Kd.R_drew)); exact HO_3.out) (Kd.R_base ho28) hb)
                                  have n1_ := Aside0.mk (Kd.R_elder' (by (with_reducible repeat (first | apply Kd.R_alloc | apply Kd.R_drewN | apply Kd.R_drew)); exact HO134.out) (Kd.R_base ho28) hb)
                                  have n2_ := Aside0.mk (Kd.R_lower (Kd.R_new' (Kd.R_new' ho28 (Kd.R_lt (by (with_reducible repeat (first | apply Kd.R_alloc | apply Kd.R_drewN | apply Kd.R_drew)); exact HO_3.out))) (Kd.R_lt (by (with_reducible repeat (first | apply Kd.R_alloc | apply Kd.R_drewN | apply Kd.R_drew)); exact HO134.out))) (below_size (by repeat (first | (with_reducible first | exact HB.out | apply below_alloc | apply pw_below_drewN | apply below_drew1) | exact HB.out))))
                                  have n3_ := Aside0.mk (Kd.C_below (by repeat (first | (with_reducible exact HR127.out) | (with_reducible refine Kd.C_alloc ?_ _) | (with_reducible refine Kd.C_drewN ?_ _) | (with_reducible refine Kd.C_drew ?_) | exact HR127.out)) hb)
                                  have n4_ := Aside0.mk (Kd.C_below (by repeat (first | (with_reducible exact HR141.out) | (with_reducible refine Kd.C_alloc ?_ _) | (with_reducible refine Kd.C_drewN ?_ _) | (with_reducible refine Kd.C_drew ?_) | exact HR141.out)) hb)
                                  have n5_ := Aside0.mk (below_step (by repeat (first | (with_reducible first | exact HB.out | apply below_alloc | apply pw_below_drewN | apply below_drew1) | exact HB.out)) hb)
                                  clear HO_3
                                  clear HO134
                                  clear HR127
                                  clear HR141
                                  clear HB
                                  have HO_3 := n0_
                                  have HO134 := n1_
                                  have HO123 := n2_
                                  have HR127 := n3_
                                  have HR141 := n4_
                                  have HB := n5_
                                  clear n0_ n1_ n2_ n3_ n4_ n5_
                                  clear hb ho28
                                  refine hK.out _ _ ⟨((HB.out.cell (World.block_lt_of_cell? w _ hw131_0)).trans hw131_0), ((HB.out.cell (World.block_lt_of_cell? w _ hw131_1)).trans hw131_1), ((HB.out.cell (World.block_lt_of_cell? w _ hw131_2)).trans hw131_2)⟩ (fun hHeld => ?_)
                                  clear hK K
                                  refine norm_ (a' := ?_) ?_ ?_
                                  rotate_left
                                  · show Act.put _ (some 29) _ = _
                                    simp only [Act.put, List.setIfInBounds_toArray, List.set_cons_zero, List.set_cons_succ, i64_w, i32_w]
                                    rfl
                                  refine one_ (i := 4) (N := some 33) #[true, true, true, true, true, true, true, true, true, true, false, true, true, true, false, false] rfl rfl (one_of HT_.out (by kernel_rfl)) (by decide) (fun K hK => ?_)
                                  refine Kd.R_append_rows_step k50 (w0 := w) w.heap.size (by rfl) (.tmp 29) (.tmp 32) 36 50 (.agg #[(.int .i64 0), (.string ⟨#[]⟩), (.string ⟨#[]⟩)]) 40 rfl Try.underlying36 info50 rfl (by decide) (by omega) v122 y121 y124 _ _ _ (fun k_ => some k_ ≠ (.slice (some ad118) x3_1.length co20 : Value).ownBlock ∧ some k_ ≠ (v133 : Value).ownBlock) (fun _ => False) rfl rfl ?aO ?aR (fun _ _ h => h) (fun _ h => h.elim) ?aF ?aB ?aS ?aL ?_
                                  (case aR => repeat (first | exact (by repeat (first | (with_reducible exact HR127.out) | (with_reducible refine Kd.C_alloc ?_ _) | (with_reducible refine Kd.C_drewN ?_ _) | (with_reducible refine Kd.C_drew ?_) | exact HR127.out)) | (with_reducible refine Kd.C_alloc ?_ _) | (with_reducible refine Kd.C_drewN ?_ _) | (with_reducible refine Kd.C_drew ?_)))
                                  (case aB => exact (by repeat (first | (with_reducible first | exact HB.out | apply below_alloc | apply pw_below_drewN | apply below_drew1) | exact HB.out)))
                                  (case aF => exact (fun k_ hk => ⟨Kd.fresh' (Kd.R_lt (by (with_reducible repeat (first | apply Kd.R_alloc | apply Kd.R_drewN | apply Kd.R_drew)); exact HO_3.out)) k_ hk, Kd.fresh' (Kd.R_lt (by (with_reducible repeat (first | apply Kd.R_alloc | apply Kd.R_drewN | apply Kd.R_drew)); exact HO134.out)) k_ hk⟩))
                                  (case aO => exact (by (with_reducible repeat (first | apply Kd.R_alloc | apply Kd.R_drewN | apply Kd.R_drew)); exact Kd.R_mono HO123.out (fun _ hk => ⟨hk.1.2, hk.2⟩)))
                                  (case aS => exact (below_size (by repeat (first | (with_reducible first | exact HB.out | apply below_alloc | apply pw_below_drewN | apply below_drew1) | exact HB.out))))
                                  (case aL => have := LMc14.out; omega)
                                  intro v129 w29 ho hb hg hat
                                  rw [← Ny128.out] at ho
                                  have n0_ := Aside0.mk (Kd.R_after (ok := (fun k_ => some k_ ≠ (v133 : Value).ownBlock)) (by (with_reducible repeat (first | apply Kd.R_alloc | apply Kd.R_drewN | apply Kd.R_drew)); exact Kd.R_mono HO_3.out (fun _ hk => ⟨hk.1.2, hk.2⟩)) hg hat)
                                  have n1_ := Aside0.mk (Kd.R_after (ok := (fun k_ => some k_ ≠ (.slice (some ad118) x3_1.length co20 : Value).ownBlock)) (by (with_reducible repeat (first | apply Kd.R_alloc | apply Kd.R_drewN | apply Kd.R_drew)); exact Kd.R_mono HO134.out (fun _ hk => ⟨hk.1.2, hk.2⟩)) hg hat)
                                  have n2_ := Aside0.mk (hb)
                                  have n3_ := Aside0.mk ((show Kd.C k50 w29 (some ad118) y124.length y124 from by rw [Ny124.out]; exact Kd.C_take (m := (x5_2 : Int).toNat) ((Kd.R_reads' (Kd.R_after (ok := (fun k_ => some k_ ≠ (v133 : Value).ownBlock)) (by (with_reducible repeat (first | apply Kd.R_alloc | apply Kd.R_drewN | apply Kd.R_drew)); exact Kd.R_mono HO_3.out (fun _ hk => ⟨hk.1.2, hk.2⟩)) hg hat)).2.2) KL23.out))
                                  have n4_ := Aside0.mk ((show Kd.C k50 w29 A24 y138.length y138 from by rw [Ny138.out, KA24.out]; exact Kd.C_drop (m := (x5_2 : Int).toNat) (c := co20) ((Kd.R_reads' (Kd.R_after (ok := (fun k_ => some k_ ≠ (v133 : Value).ownBlock)) (by (with_reducible repeat (first | apply Kd.R_alloc | apply Kd.R_drewN | apply Kd.R_drew)); exact Kd.R_mono HO_3.out (fun _ hk => ⟨hk.1.2, hk.2⟩)) hg hat)).2.2) KL24.out ((Kd.R_reads' (Kd.R_after (ok := (fun k_ => some k_ ≠ (v133 : Value).ownBlock)) (by (with_reducible repeat (first | apply Kd.R_alloc | apply Kd.R_drewN | apply Kd.R_drew)); exact Kd.R_mono HO_3.out (fun _ hk => ⟨hk.1.2, hk.2⟩)) hg hat)).2.1)))
                                  have n5_ := Aside0.mk (ho)
                                  clear HO_3
                                  clear HO134
                                  clear HB
                                  clear HR127
                                  clear HR141
                                  clear HO123
                                  have HO_3 := n0_
                                  have HO134 := n1_
                                  have HB := n2_
                                  have HR127 := n3_
                                  have HR141 := n4_
                                  have HO130 := n5_
                                  clear n0_ n1_ n2_ n3_ n4_ n5_
                                  clear ho hb hg hat
                                  refine hK.out _ _ ⟨((HB.out.cell (World.block_lt_of_cell? w _ hw131_0)).trans hw131_0), ((HB.out.cell (World.block_lt_of_cell? w _ hw131_1)).trans hw131_1), ((HB.out.cell (World.block_lt_of_cell? w _ hw131_2)).trans hw131_2)⟩ (fun hHeld => ?_)
                                  clear hK K
                                  refine norm_ (a' := ?_) ?_ ?_
                                  rotate_left
                                  · show Act.put _ (some 33) _ = _
                                    simp only [Act.put, List.setIfInBounds_toArray, List.set_cons_zero, List.set_cons_succ, i64_w, i32_w]
                                    rfl
                                  exact norm_ (by simp only [putAll, Act.put, List.setIfInBounds_toArray, List.set_cons_zero, List.set_cons_succ]) (hCont (v122, v129, v133) _ ⟨hHeld, (by (with_reducible repeat (first | apply Kd.R_alloc | apply Kd.R_drewN | apply Kd.R_drew)); exact Kd.R_mono HO130.out (fun _ hk => ⟨hk.2, hk.1⟩)), (by (with_reducible repeat (first | apply Kd.R_alloc | apply Kd.R_drewN | apply Kd.R_drew)); exact Kd.R_mono HO134.out (fun _ hk => ⟨hk.2, hk.1⟩)), (by (with_reducible repeat (first | apply Kd.R_alloc | apply Kd.R_drewN | apply Kd.R_drew)); exact Kd.R_mono HO_3.out (fun _ hk => ⟨hk.2, hk.1⟩)), (by repeat (first | (with_reducible first | exact HB.out | apply below_alloc | apply pw_below_drewN | apply below_drew1) | exact HB.out))⟩)
                              rintro ⟨v122, v129, v133⟩ w30 ⟨hS_, h0_, h1_, h2_, h3_⟩
                              have n0_ : Aside0 (Kd.R k50 50 w30 w.heap.size (fun k_ => some k_ ≠ (v133 : Value).ownBlock ∧ some k_ ≠ (.slice (some ad118) x3_1.length co20 : Value).ownBlock) v129 y128) := ⟨h0_⟩
                              have n1_ : Aside0 (Kd.R k50 50 w30 w.heap.size (fun k_ => some k_ ≠ (v129 : Value).ownBlock ∧ some k_ ≠ (.slice (some ad118) x3_1.length co20 : Value).ownBlock) v133 y132) := ⟨h1_⟩
                              have n2_ : Aside0 (Kd.R k50 50 w30 w.heap.size (fun k_ => some k_ ≠ (v129 : Value).ownBlock ∧ some k_ ≠ (v133 : Value).ownBlock) (.slice (some ad118) x3_1.length co20) x3_1) := ⟨h2_⟩
                              have n3_ : Aside0 (Below w.heap.size w w30) := ⟨h3_⟩
                              clear HO_3
                              clear HB
                              clear h0_ h1_ h2_ h3_
                              have HO130 := n0_
                              have HO134 := n1_
                              have HO_3 := n2_
                              have HB := n3_
                              clear n0_ n1_ n2_ n3_
                              have hHeld : w30.cell? (ad119.add ((x8_1).toNat * 3)) = some (.int .i64 ((rd_T50 l0 x8_1).f0)) ∧ w30.cell? ⟨(ad119.add ((x8_1).toNat * 3)).block, (ad119.add ((x8_1).toNat * 3)).off + 1, none⟩ = some (.string ((rd_T50 l0 x8_1).f1)) ∧ w30.cell? ⟨(ad119.add ((x8_1).toNat * 3)).block, (ad119.add ((x8_1).toNat * 3)).off + 2, none⟩ = some (.string ((rd_T50 l0 x8_1).f2)) := hS_
                              have HR127 := Aside0.mk (show Kd.C k50 w30 (some ad118) y124.length y124 from by rw [Ny124.out]; exact Kd.C_take (m := (x5_2 : Int).toNat) ((Kd.R_reads' (HO_3.out)).2.2) KL23.out)
                              have HR141 := Aside0.mk (show Kd.C k50 w30 A24 y138.length y138 from by rw [Ny138.out, KA24.out]; exact Kd.C_drop (m := (x5_2 : Int).toNat) (c := co20) ((Kd.R_reads' (HO_3.out)).2.2) KL24.out ((Kd.R_reads' (HO_3.out)).2.1))
                              obtain ⟨Ao32, co32, eo32⟩ := Kd.R_slice HO134.out
                              (first | subst eo32 | (injection eo32 with f1_ f2_ f3_; have f4_ := f1_.symm; have f5_ := f3_.symm; clear f1_ f2_ f3_; subst f4_; subst f5_))
                              refine norm_ (a' := ?_) ?_ ?_
                              rotate_left
                              · simp only [putAll, Act.put, List.setIfInBounds_toArray, List.set_cons_zero, List.set_cons_succ]
                                rfl
                              refine one_ (i := 10) (N := some 39) #[true, true, true, true, true, true, true, true, true, true, true, true, true, true, false, false] rfl rfl (one_of HT_.out (by kernel_rfl)) (by decide) (fun K hK => ?_)
                              refine Kd.R_append_rows_step k50 (w0 := w) w.heap.size (by rfl) (.tmp 33) (.tmp 38) 36 50 (.agg #[(.int .i64 0), (.string ⟨#[]⟩), (.string ⟨#[]⟩)]) 40 rfl Try.underlying36 info50 rfl (by decide) (by omega) v129 y128 y132 _ _ _ (fun k_ => some k_ ≠ (.slice (some ad118) x3_1.length co20 : Value).ownBlock ∧ some k_ ≠ (.slice Ao32 y132.length co32 : Value).ownBlock) (fun _ => False) rfl rfl ?aO ?aR (fun _ _ h => h) (fun _ h => h.elim) ?aF ?aB ?aS ?aL ?_
                              (case aR => repeat (first | exact (Kd.R_reads' HO134.out).2.2 | (with_reducible refine Kd.C_alloc ?_ _) | (with_reducible refine Kd.C_drewN ?_ _) | (with_reducible refine Kd.C_drew ?_)))
                              (case aB => exact (by repeat (first | (with_reducible first | exact HB.out | apply below_alloc | apply pw_below_drewN | apply below_drew1) | exact HB.out)))
                              (case aF => exact (fun k_ hk => ⟨Kd.fresh' (Kd.R_lt (by (with_reducible repeat (first | apply Kd.R_alloc | apply Kd.R_drewN | apply Kd.R_drew)); exact HO_3.out)) k_ hk, Kd.fresh' (Kd.R_lt (by (with_reducible repeat (first | apply Kd.R_alloc | apply Kd.R_drewN | apply Kd.R_drew)); exact HO134.out)) k_ hk⟩))
                              (case aO => exact (by (with_reducible repeat (first | apply Kd.R_alloc | apply Kd.R_drewN | apply Kd.R_drew)); exact Kd.R_mono HO130.out (fun _ hk => ⟨hk.2, hk.1⟩)))
                              (case aS => exact (below_size (by repeat (first | (with_reducible first | exact HB.out | apply below_alloc | apply pw_below_drewN | apply below_drew1) | exact HB.out))))
                              (case aL => have := LMc15.out; omega)
                              intro v136 w31 ho hb hg hat
                              rw [← Ny135.out] at ho
                              have n0_ := Aside0.mk (Kd.R_after (ok := (fun k_ => some k_ ≠ (.slice Ao32 y132.length co32 : Value).ownBlock)) (by (with_reducible repeat (first | apply Kd.R_alloc | apply Kd.R_drewN | apply Kd.R_drew)); exact Kd.R_mono HO_3.out (fun _ hk => ⟨hk.2, hk.1⟩)) hg hat)
                              have n1_ := Aside0.mk (Kd.R_after (ok := (fun k_ => some k_ ≠ (.slice (some ad118) x3_1.length co20 : Value).ownBlock)) (by (with_reducible repeat (first | apply Kd.R_alloc | apply Kd.R_drewN | apply Kd.R_drew)); exact Kd.R_mono HO134.out (fun _ hk => ⟨hk.2, hk.1⟩)) hg hat)
                              have n2_ := Aside0.mk (hb)
                              have n3_ := Aside0.mk ((show Kd.C k50 w31 (some ad118) y124.length y124 from by rw [Ny124.out]; exact Kd.C_take (m := (x5_2 : Int).toNat) ((Kd.R_reads' (Kd.R_after (ok := (fun k_ => some k_ ≠ (.slice Ao32 y132.length co32 : Value).ownBlock)) (by (with_reducible repeat (first | apply Kd.R_alloc | apply Kd.R_drewN | apply Kd.R_drew)); exact Kd.R_mono HO_3.out (fun _ hk => ⟨hk.2, hk.1⟩)) hg hat)).2.2) KL23.out))
                              have n4_ := Aside0.mk ((show Kd.C k50 w31 A24 y138.length y138 from by rw [Ny138.out, KA24.out]; exact Kd.C_drop (m := (x5_2 : Int).toNat) (c := co20) ((Kd.R_reads' (Kd.R_after (ok := (fun k_ => some k_ ≠ (.slice Ao32 y132.length co32 : Value).ownBlock)) (by (with_reducible repeat (first | apply Kd.R_alloc | apply Kd.R_drewN | apply Kd.R_drew)); exact Kd.R_mono HO_3.out (fun _ hk => ⟨hk.2, hk.1⟩)) hg hat)).2.2) KL24.out ((Kd.R_reads' (Kd.R_after (ok := (fun k_ => some k_ ≠ (.slice Ao32 y132.length co32 : Value).ownBlock)) (by (with_reducible repeat (first | apply Kd.R_alloc | apply Kd.R_drewN | apply Kd.R_drew)); exact Kd.R_mono HO_3.out (fun _ hk => ⟨hk.2, hk.1⟩)) hg hat)).2.1)))
                              have n5_ := Aside0.mk (ho)
                              clear HO_3
                              clear HO134
                              clear HB
                              clear HR127
                              clear HR141
                              clear HO130
                              have HO_3 := n0_
                              have HO134 := n1_
                              have HB := n2_
                              have HR127 := n3_
                              have HR141 := n4_
                              have HO137 := n5_
                              clear n0_ n1_ n2_ n3_ n4_ n5_
                              clear ho hb hg hat
                              refine hK.out _ _ ⟨((HB.out.cell (World.block_lt_of_cell? w _ hw131_0)).trans hw131_0), ((HB.out.cell (World.block_lt_of_cell? w _ hw131_1)).trans hw131_1), ((HB.out.cell (World.block_lt_of_cell? w _ hw131_2)).trans hw131_2)⟩ (fun hHeld => ?_)
                              clear hK K
                              refine norm_ (a' := ?_) ?_ ?_
                              rotate_left
                              · show Act.put _ (some 39) _ = _
                                simp only [Act.put, List.setIfInBounds_toArray, List.set_cons_zero, List.set_cons_succ, i64_w, i32_w]
                                rfl
                              refine one_ (i := 14) (N := some 43) #[true, true, true, true, true, true, true, true, true, true, true, true, true, true, true, false] rfl rfl (one_of HT_.out (by kernel_rfl)) (by decide) (fun K hK => ?_)
                              refine Kd.R_append_rows_step k50 (w0 := w) w.heap.size (by rfl) (.tmp 39) (.tmp 42) 36 50 (.agg #[(.int .i64 0), (.string ⟨#[]⟩), (.string ⟨#[]⟩)]) 40 rfl Try.underlying36 info50 rfl (by decide) (by omega) v136 y135 y138 _ _ _ (fun k_ => some k_ ≠ (.slice (some ad118) x3_1.length co20 : Value).ownBlock ∧ some k_ ≠ (.slice Ao32 y132.length co32 : Value).ownBlock) (fun _ => False) rfl rfl ?aO ?aR (fun _ _ h => h) (fun _ h => h.elim) ?aF ?aB ?aS ?aL ?_
                              (case aR => repeat (first | exact (by repeat (first | (with_reducible exact HR141.out) | (with_reducible refine Kd.C_alloc ?_ _) | (with_reducible refine Kd.C_drewN ?_ _) | (with_reducible refine Kd.C_drew ?_) | exact HR141.out)) | (with_reducible refine Kd.C_alloc ?_ _) | (with_reducible refine Kd.C_drewN ?_ _) | (with_reducible refine Kd.C_drew ?_)))
                              (case aB => exact (by repeat (first | (with_reducible first | exact HB.out | apply below_alloc | apply pw_below_drewN | apply below_drew1) | exact HB.out)))
                              (case aF => exact (fun k_ hk => ⟨Kd.fresh' (Kd.R_lt (by (with_reducible repeat (first | apply Kd.R_alloc | apply Kd.R_drewN | apply Kd.R_drew)); exact HO_3.out)) k_ hk, Kd.fresh' (Kd.R_lt (by (with_reducible repeat (first | apply Kd.R_alloc | apply Kd.R_drewN | apply Kd.R_drew)); exact HO134.out)) k_ hk⟩))
                              (case aO => exact (by (with_reducible repeat (first | apply Kd.R_alloc | apply Kd.R_drewN | apply Kd.R_drew)); exact HO137.out))
                              (case aS => exact (below_size (by repeat (first | (with_reducible first | exact HB.out | apply below_alloc | apply pw_below_drewN | apply below_drew1) | exact HB.out))))
                              (case aL => have := LMc18.out; omega)
                              intro v143 w33 ho hb hg hat
                              rw [← Ny142.out] at ho
                              have n0_ := Aside0.mk (Kd.R_after (ok := (fun k_ => some k_ ≠ (.slice Ao32 y132.length co32 : Value).ownBlock)) (by (with_reducible repeat (first | apply Kd.R_alloc | apply Kd.R_drewN | apply Kd.R_drew)); exact HO_3.out) hg hat)
                              have n1_ := Aside0.mk (Kd.R_after (ok := (fun k_ => some k_ ≠ (.slice (some ad118) x3_1.length co20 : Value).ownBlock)) (by (with_reducible repeat (first | apply Kd.R_alloc | apply Kd.R_drewN | apply Kd.R_drew)); exact HO134.out) hg hat)
                              have n2_ := Aside0.mk (hb)
                              have n3_ := Aside0.mk ((show Kd.C k50 w33 (some ad118) y124.length y124 from by rw [Ny124.out]; exact Kd.C_take (m := (x5_2 : Int).toNat) ((Kd.R_reads' (Kd.R_after (ok := (fun k_ => some k_ ≠ (.slice Ao32 y132.length co32 : Value).ownBlock)) (by (with_reducible repeat (first | apply Kd.R_alloc | apply Kd.R_drewN | apply Kd.R_drew)); exact HO_3.out) hg hat)).2.2) KL23.out))
                              have n4_ := Aside0.mk ((show Kd.C k50 w33 A24 y138.length y138 from by rw [Ny138.out, KA24.out]; exact Kd.C_drop (m := (x5_2 : Int).toNat) (c := co20) ((Kd.R_reads' (Kd.R_after (ok := (fun k_ => some k_ ≠ (.slice Ao32 y132.length co32 : Value).ownBlock)) (by (with_reducible repeat (first | apply Kd.R_alloc | apply Kd.R_drewN | apply Kd.R_drew)); exact HO_3.out) hg hat)).2.2) KL24.out ((Kd.R_reads' (Kd.R_after (ok := (fun k_ => some k_ ≠ (.slice Ao32 y132.length co32 : Value).ownBlock)) (by (with_reducible repeat (first | apply Kd.R_alloc | apply Kd.R_drewN | apply Kd.R_drew)); exact HO_3.out) hg hat)).2.1)))
                              have n5_ := Aside0.mk (ho)
                              clear HO_3
                              clear HO134
                              clear HB
                              clear HR127
                              clear HR141
                              clear HO137
                              have HO_3 := n0_
                              have HO134 := n1_
                              have HB := n2_
                              have HR127 := n3_
                              have HR141 := n4_
                              have HO144 := n5_
                              clear n0_ n1_ n2_ n3_ n4_ n5_
                              clear ho hb hg hat
                              refine hK.out _ _ ⟨((HB.out.cell (World.block_lt_of_cell? w _ hw131_0)).trans hw131_0), ((HB.out.cell (World.block_lt_of_cell? w _ hw131_1)).trans hw131_1), ((HB.out.cell (World.block_lt_of_cell? w _ hw131_2)).trans hw131_2)⟩ (fun hHeld => ?_)
                              clear hK K
                              refine norm_ (a' := ?_) ?_ ?_
                              rotate_left
                              · show Act.put _ (some 43) _ = _
                                simp only [Act.put, List.setIfInBounds_toArray, List.set_cons_zero, List.set_cons_succ, i64_w, i32_w]
                                rfl
                              refine pure_ (i := 15) (N := some 3) (v := ?_) (a' := ?_) #[true, true, true, true, true, true, true, true, true, true, true, true, true, true, true, true] rfl rfl (any_of HT_.out (by kernel_rfl)) (fun _ _ _ h => h) (Or.inl ⟨by rfl, ?_⟩) ?_ ?_
                              rotate_left
                              · intro w'
                                go_simp
                                with_reducible rfl
                              rotate_left
                              · simp only [Act.put, List.setIfInBounds_toArray, List.set_cons_zero, List.set_cons_succ, i64_w, i32_w]
                                rfl
                              refine done_ (done_of HT_.out (by kernel_rfl)) ?_
                              try go_wp2
                              go_roundg k2
                              case measure => have := HK1.out; have := HK2.out; omega
                              case rel => exact ⟨(y142), (wrap64 (x8_1 + 1)), (by first | rfl | (simp; done) | (simp [*]; done)), H', ⟨by have := HK1.out; have := HK2.out; omega⟩, ⟨by (with_reducible repeat (first | apply Kd.R_alloc | apply Kd.R_drewN | apply Kd.R_drew)); exact Kd.R_mono HO144.out (fun _ hk => trivial)⟩, ⟨by repeat (first | (with_reducible first | exact HB.out | apply below_alloc | apply pw_below_drewN | apply below_drew1) | exact HB.out)⟩⟩
                            · rw [if_neg c18] at H
                              exact absurd H (by simp)
                          · rw [if_neg c15] at H
                            exact absurd H (by simp)
                        · rw [if_neg c14] at H
                          exact absurd H (by simp)
                      · rw [if_neg c13] at H
                        exact absurd H (by simp)
                  · rw [if_neg c6] at H
                    exact absurd H (by simp)
                · rw [if_neg c5] at H
                  exact absurd H (by simp)
              · rw [if_neg c4] at H
                exact absurd H (by simp)
            · rw [if_neg c3] at H
              have c3b0 : decide (x5_2 < (x3_1.length : Int)) = false := decide_eq_false c3
              clear c3
              obtain ⟨y145, hy145⟩ : ∃ y_ : List (S50), y_ = (([] : List (S50))) := ⟨_, rfl⟩
              replace H : (if 0 ≤ x5_2 then (if x5_2 ≤ (x3_1.length : Int) then ((some (x3_1.take (x5_2 : Int).toNat : List (S50))).bind fun y148 => (if y145.length + y148.length < 3518437208883 then ((some (y145 ++ y148 : List (S50))).bind fun y152 => (if 0 ≤ x8_1 then (if x8_1 < (l0.length : Int) then ((some (([(⟨(rd_T50 l0 x8_1).f0, (rd_T50 l0 x8_1).f1, (rd_T50 l0 x8_1).f2⟩ : S50)] : List (S50)) : List (S50))).bind fun y156 => (if y152.length + y156.length < 3518437208883 then ((some (y152 ++ y156 : List (S50))).bind fun y159 => ((some (x3_1.drop (x5_2 : Int).toNat : List (S50))).bind fun y162 => (if y159.length + y162.length < 3518437208883 then (spec_Sorted.l0 k2 l0 (y159 ++ y162) (l0.length : Int) (wrap64 (x8_1 + 1))) else (none)))) else (none))) else (none)) else (none))) else (none))) else (none)) else (none)) = some r := by first | (rw [hy145]; with_reducible exact H) | (have H2_ := (Option.bind_some _ _).symm.trans H; rw [hy145]; with_reducible exact H2_) | (have H2_ := (Option.bind_some _ _).symm.trans H; with_reducible exact H2_) | with_reducible exact H | (rw [hy145]; exact H) | exact H
              have Ny145 := Aside0.mk hy145
              clear hy145
              by_cases c34 : 0 ≤ x5_2
              · rw [if_pos c34] at H
                have c34b0 := eq_true c34
                have c34b1 : decide (0 ≤ x5_2) = true := decide_eq_true c34
                clear c34
                by_cases c35 : x5_2 ≤ (x3_1.length : Int)
                · rw [if_pos c35] at H
                  have c35b0 := eq_true c35
                  have c35b1 : decide (x5_2 ≤ (x3_1.length : Int)) = true := decide_eq_true c35
                  clear c35
                  obtain ⟨y148, hy148⟩ : ∃ y_ : List (S50), y_ = (x3_1.take (x5_2 : Int).toNat) := ⟨_, rfl⟩
                  replace H : (if y145.length + y148.length < 3518437208883 then ((some (y145 ++ y148 : List (S50))).bind fun y152 => (if 0 ≤ x8_1 then (if x8_1 < (l0.length : Int) then ((some (([(⟨(rd_T50 l0 x8_1).f0, (rd_T50 l0 x8_1).f1, (rd_T50 l0 x8_1).f2⟩ : S50)] : List (S50)) : List (S50))).bind fun y156 => (if y152.length + y156.length < 3518437208883 then ((some (y152 ++ y156 : List (S50))).bind fun y159 => ((some (x3_1.drop (x5_2 : Int).toNat : List (S50))).bind fun y162 => (if y159.length + y162.length < 3518437208883 then (spec_Sorted.l0 k2 l0 (y159 ++ y162) (l0.length : Int) (wrap64 (x8_1 + 1))) else (none)))) else (none))) else (none)) else (none))) else (none)) = some r := by first | (rw [hy148]; with_reducible exact H) | (have H2_ := (Option.bind_some _ _).symm.trans H; rw [hy148]; with_reducible exact H2_) | (have H2_ := (Option.bind_some _ _).symm.trans H; with_reducible exact H2_) | with_reducible exact H | (rw [hy148]; exact H) | exact H
                  have Ny148 := Aside0.mk hy148
                  clear hy148
                  by_cases c36 : y145.length + y148.length < 3518437208883
                  · rw [if_pos c36] at H
                    have LMc36 := Aside0.mk c36
                    clear c36
                    obtain ⟨y152, hy152⟩ : ∃ y_ : List (S50), y_ = (y145 ++ y148) := ⟨_, rfl⟩
                    replace H : (if 0 ≤ x8_1 then (if x8_1 < (l0.length : Int) then ((some (([(⟨(rd_T50 l0 x8_1).f0, (rd_T50 l0 x8_1).f1, (rd_T50 l0 x8_1).f2⟩ : S50)] : List (S50)) : List (S50))).bind fun y156 => (if y152.length + y156.length < 3518437208883 then ((some (y152 ++ y156 : List (S50))).bind fun y159 => ((some (x3_1.drop (x5_2 : Int).toNat : List (S50))).bind fun y162 => (if y159.length + y162.length < 3518437208883 then (spec_Sorted.l0 k2 l0 (y159 ++ y162) (l0.length : Int) (wrap64 (x8_1 + 1))) else (none)))) else (none))) else (none)) else (none)) = some r := by first | (rw [hy152]; with_reducible exact H) | (have H2_ := (Option.bind_some _ _).symm.trans H; rw [hy152]; with_reducible exact H2_) | (have H2_ := (Option.bind_some _ _).symm.trans H; with_reducible exact H2_) | with_reducible exact H | (rw [hy152]; exact H) | exact H
                    have Ny152 := Aside0.mk hy152
                    clear hy152
                    by_cases c37 : 0 ≤ x8_1
                    · rw [if_pos c37] at H
                      have c37b0 : decide (0 ≤ x8_1) = true := decide_eq_true c37
                      clear c37
                      by_cases c38 : x8_1 < (l0.length : Int)
                      · rw [if_pos c38] at H
                        have c38b0 : decide (x8_1 < (l0.length : Int)) = true := decide_eq_true c38
                        clear c38
                        obtain ⟨y156, hy156⟩ : ∃ y_ : List (S50), y_ = (([(⟨(rd_T50 l0 x8_1).f0, (rd_T50 l0 x8_1).f1, (rd_T50 l0 x8_1).f2⟩ : S50)] : List (S50))) := ⟨_, rfl⟩
                        replace H : (if y152.length + y156.length < 3518437208883 then ((some (y152 ++ y156 : List (S50))).bind fun y159 => ((some (x3_1.drop (x5_2 : Int).toNat : List (S50))).bind fun y162 => (if y159.length + y162.length < 3518437208883 then (spec_Sorted.l0 k2 l0 (y159 ++ y162) (l0.length : Int) (wrap64 (x8_1 + 1))) else (none)))) else (none)) = some r := by first | (rw [hy156]; with_reducible exact H) | (have H2_ := (Option.bind_some _ _).symm.trans H; rw [hy156]; with_reducible exact H2_) | (have H2_ := (Option.bind_some _ _).symm.trans H; with_reducible exact H2_) | with_reducible exact H | (rw [hy156]; exact H) | exact H
                        have Ny156 := Aside0.mk hy156
                        clear hy156
                        by_cases c39 : y152.length + y156.length < 3518437208883
                        · rw [if_pos c39] at H
                          have LMc39 := Aside0.mk c39
                          clear c39
                          obtain ⟨y159, hy159⟩ : ∃ y_ : List (S50), y_ = (y152 ++ y156) := ⟨_, rfl⟩
                          replace H : ((some (x3_1.drop (x5_2 : Int).toNat : List (S50))).bind fun y162 => (if y159.length + y162.length < 3518437208883 then (spec_Sorted.l0 k2 l0 (y159 ++ y162) (l0.length : Int) (wrap64 (x8_1 + 1))) else (none))) = some r := by first | (rw [hy159]; with_reducible exact H) | (have H2_ := (Option.bind_some _ _).symm.trans H; rw [hy159]; with_reducible exact H2_) | (have H2_ := (Option.bind_some _ _).symm.trans H; with_reducible exact H2_) | with_reducible exact H | (rw [hy159]; exact H) | exact H
                          have Ny159 := Aside0.mk hy159
                          clear hy159
                          have c40b0 := eq_true (of_decide_eq_true (by first | (with_reducible assumption) | assumption) : 0 ≤ x5_2)
                          have c41b0 := eq_true (of_decide_eq_true (by first | (with_reducible assumption) | assumption) : x5_2 ≤ (x3_1.length : Int))
                          obtain ⟨y162, hy162⟩ : ∃ y_ : List (S50), y_ = (x3_1.drop (x5_2 : Int).toNat) := ⟨_, rfl⟩
                          replace H : (if y159.length + y162.length < 3518437208883 then (spec_Sorted.l0 k2 l0 (y159 ++ y162) (l0.length : Int) (wrap64 (x8_1 + 1))) else (none)) = some r := by first | (rw [hy162]; with_reducible exact H) | (have H2_ := (Option.bind_some _ _).symm.trans H; rw [hy162]; with_reducible exact H2_) | (have H2_ := (Option.bind_some _ _).symm.trans H; with_reducible exact H2_) | with_reducible exact H | (rw [hy162]; exact H) | exact H
                          have Ny162 := Aside0.mk hy162
                          clear hy162
                          by_cases c42 : y159.length + y162.length < 3518437208883
                          · rw [if_pos c42] at H
                            have LMc42 := Aside0.mk c42
                            clear c42
                            obtain ⟨y166, hy166⟩ : ∃ y_ : List (S50), y_ = (y159 ++ y162) := ⟨_, rfl⟩
                            replace H : (spec_Sorted.l0 k2 l0 y166 (l0.length : Int) (wrap64 (x8_1 + 1))) = some r := by first | (rw [hy166]; with_reducible exact H) | (have H2_ := (Option.bind_some _ _).symm.trans H; rw [hy166]; with_reducible exact H2_) | (have H2_ := (Option.bind_some _ _).symm.trans H; with_reducible exact H2_) | with_reducible exact H | (rw [hy166]; exact H) | exact H
                            have Ny166 := Aside0.mk hy166
                            clear hy166
                            have H' := Aside0.mk H
                            clear H
                            try go_wp2
                            have n0_ := Aside0.mk (Kd.R_drew HO_3.out)
                            have n1_ := Aside0.mk (below_drew1 HB.out)
                            clear HO_3
                            clear HB
                            have HO_3 := n0_
                            have HB := n1_
                            clear n0_ n1_
                            obtain ⟨Ao44, co44, eo44⟩ := Kd.R_slice HO_3.out
                            (first | subst eo44 | (injection eo44 with f1_ f2_ f3_; have f4_ := f1_.symm; have f5_ := f3_.symm; clear f1_ f2_ f3_; subst f4_; subst f5_))
                            refine start_ (n := 16) (S := fun w' => True) (ds := []) #[false, false, false, false, false, false, false, false, false, false, false, false, false, false, false, false] (by kernel_rfl) rfl rfl trivial (fun hHeld => ?_); refine with_tabW spec_Sorted.tab6 spec_Sorted.bits6 (fun HT_ HW_ => ?_)
                            generalize wr.drew = w43 at HO_3 HB hHeld ⊢
                            refine pure_ (i := 0) (N := some 11) (v := ?_) (a' := ?_) #[true, false, false, false, false, false, false, false, false, false, false, false, false, false, false, false] rfl rfl (any_of HT_.out (by kernel_rfl)) (fun _ _ _ h => h) (Or.inl ⟨by rfl, ?_⟩) ?_ ?_
                            rotate_left
                            · intro w'
                              go_simp
                              with_reducible rfl
                            rotate_left
                            · simp only [Act.put, List.setIfInBounds_toArray, List.set_cons_zero, List.set_cons_succ, i64_w, i32_w]
                              rfl
                            refine pure_ (i := 1) (N := some 12) (v := ?_) (a' := ?_) #[true, true, false, false, false, false, false, false, false, false, false, false, false, false, false, false] rfl rfl (any_of HT_.out (by kernel_rfl)) (fun _ _ _ h => h) (Or.inl ⟨by rfl, ?_⟩) ?_ ?_
                            rotate_left
                            · intro w'
                              go_simp
                              with_reducible rfl
                            rotate_left
                            · simp only [Act.put, List.setIfInBounds_toArray, List.set_cons_zero, List.set_cons_succ, i64_w, i32_w]
                              rfl
                            refine pure_ (i := 2) (N := some 13) (v := ?_) (a' := ?_) #[true, true, true, false, false, false, false, false, false, false, false, false, false, false, false, false] rfl rfl (any_of HT_.out (by kernel_rfl)) (fun _ _ _ h => h) (Or.inl ⟨by rfl, ?_⟩) ?_ ?_
                            rotate_left
                            · intro w'
                              go_simp
                              with_reducible rfl
                            rotate_left
                            · simp only [Act.put, List.setIfInBounds_toArray, List.set_cons_zero, List.set_cons_succ, i64_w, i32_w]
                              rfl
                            refine pure_ (i := 3) (N := some 14) (v := ?_) (a' := ?_) #[true, true, true, true, false, false, false, false, false, false, false, false, false, false, false, false] rfl rfl (any_of HT_.out (by kernel_rfl)) (fun _ _ _ h => h) (Or.inl ⟨by rfl, ?_⟩) ?_ ?_
                            rotate_left
                            · intro w'
                              go_simp
                              with_reducible rfl
                            rotate_left
                            · simp only [Act.put, List.setIfInBounds_toArray, List.set_cons_zero, List.set_cons_succ, i64_w, i32_w]
                              rfl
                            refine pure_ (i := 4) (N := some 15) (v := ?_) (a' := ?_) #[true, true, true, true, true, false, false, false, false, false, false, false, false, false, false, false] rfl rfl (any_of HT_.out (by kernel_rfl)) (fun _ _ _ h => h) (Or.inl ⟨by rfl, ?_⟩) ?_ ?_
                            rotate_left
                            · intro w'
                              go_simp
                              with_reducible rfl
                            rotate_left
                            · simp only [Act.put, List.setIfInBounds_toArray, List.set_cons_zero, List.set_cons_succ, i64_w, i32_w]
                              rfl
                            refine pure_ (i := 5) (N := some 16) (v := undef) (a' := ?_) #[true, true, true, true, true, true, false, false, false, false, false, false, false, false, false, false] rfl rfl (any_of HT_.out (by kernel_rfl)) (fun _ _ _ h => h) (Or.inr ⟨by rfl, rfl⟩) ?_ ?_
                            rotate_left
                            · simp only [Act.put, List.setIfInBounds_toArray, List.set_cons_zero, List.set_cons_succ, i64_w, i32_w]
                              rfl
                            refine pure_ (i := 6) (N := some 17) (v := undef) (a' := ?_) #[true, true, true, true, true, true, true, false, false, false, false, false, false, false, false, false] rfl rfl (any_of HT_.out (by kernel_rfl)) (fun _ _ _ h => h) (Or.inr ⟨by rfl, rfl⟩) ?_ ?_
                            rotate_left
                            · simp only [Act.put, List.setIfInBounds_toArray, List.set_cons_zero, List.set_cons_succ, i64_w, i32_w]
                              rfl
                            refine pure_ (i := 7) (N := some 18) (v := undef) (a' := ?_) #[true, true, true, true, true, true, true, true, false, false, false, false, false, false, false, false] rfl rfl (any_of HT_.out (by kernel_rfl)) (fun _ _ _ h => h) (Or.inr ⟨by rfl, rfl⟩) ?_ ?_
                            rotate_left
                            · simp only [Act.put, List.setIfInBounds_toArray, List.set_cons_zero, List.set_cons_succ, i64_w, i32_w]
                              rfl
                            refine pure_ (i := 8) (N := some 19) (v := undef) (a' := ?_) #[true, true, true, true, true, true, true, true, true, false, false, false, false, false, false, false] rfl rfl (any_of HT_.out (by kernel_rfl)) (fun _ _ _ h => h) (Or.inr ⟨by rfl, rfl⟩) ?_ ?_
                            rotate_left
                            · simp only [Act.put, List.setIfInBounds_toArray, List.set_cons_zero, List.set_cons_succ, i64_w, i32_w]
                              rfl
                            refine pure_ (i := 9) (N := some 20) (v := undef) (a' := ?_) #[true, true, true, true, true, true, true, true, true, true, false, false, false, false, false, false] rfl rfl (any_of HT_.out (by kernel_rfl)) (fun _ _ _ h => h) (Or.inr ⟨by rfl, rfl⟩) ?_ ?_
                            rotate_left
                            · simp only [Act.put, List.setIfInBounds_toArray, List.set_cons_zero, List.set_cons_succ, i64_w, i32_w]
                              rfl
                            refine pure_ (i := 10) (N := some 21) (v := undef) (a' := ?_) #[true, true, true, true, true, true, true, true, true, true, true, false, false, false, false, false] rfl rfl (any_of HT_.out (by kernel_rfl)) (fun _ _ _ h => h) (Or.inr ⟨by rfl, rfl⟩) ?_ ?_
                            rotate_left
                            · simp only [Act.put, List.setIfInBounds_toArray, List.set_cons_zero, List.set_cons_succ, i64_w, i32_w]
                              rfl
                            refine pure_ (i := 11) (N := some 22) (v := undef) (a' := ?_) #[true, true, true, true, true, true, true, true, true, true, true, true, false, false, false, false] rfl rfl (any_of HT_.out (by kernel_rfl)) (fun _ _ _ h => h) (Or.inr ⟨by rfl, rfl⟩) ?_ ?_
                            rotate_left
                            · simp only [Act.put, List.setIfInBounds_toArray, List.set_cons_zero, List.set_cons_succ, i64_w, i32_w]
                              rfl
                            refine pure_ (i := 12) (N := some 23) (v := undef) (a' := ?_) #[true, true, true, true, true, true, true, true, true, true, true, true, true, false, false, false] rfl rfl (any_of HT_.out (by kernel_rfl)) (fun _ _ _ h => h) (Or.inr ⟨by rfl, rfl⟩) ?_ ?_
                            rotate_left
                            · simp only [Act.put, List.setIfInBounds_toArray, List.set_cons_zero, List.set_cons_succ, i64_w, i32_w]
                              rfl
                            refine pure_ (i := 13) (N := some 24) (v := undef) (a' := ?_) #[true, true, true, true, true, true, true, true, true, true, true, true, true, true, false, false] rfl rfl (any_of HT_.out (by kernel_rfl)) (fun _ _ _ h => h) (Or.inr ⟨by rfl, rfl⟩) ?_ ?_
                            rotate_left
                            · simp only [Act.put, List.setIfInBounds_toArray, List.set_cons_zero, List.set_cons_succ, i64_w, i32_w]
                              rfl
                            refine pure_ (i := 14) (N := some 25) (v := undef) (a' := ?_) #[true, true, true, true, true, true, true, true, true, true, true, true, true, true, true, false] rfl rfl (any_of HT_.out (by kernel_rfl)) (fun _ _ _ h => h) (Or.inr ⟨by rfl, rfl⟩) ?_ ?_
                            rotate_left
                            · simp only [Act.put, List.setIfInBounds_toArray, List.set_cons_zero, List.set_cons_succ, i64_w, i32_w]
                              rfl
                            refine pure_ (i := 15) (N := some 26) (v := ?_) (a' := ?_) #[true, true, true, true, true, true, true, true, true, true, true, true, true, true, true, true] rfl rfl (any_of HT_.out (by kernel_rfl)) (fun _ _ _ h => h) (Or.inl ⟨by rfl, ?_⟩) ?_ ?_
                            rotate_left
                            · intro w'
                              go_simp
                              with_reducible rfl
                            rotate_left
                            · simp only [Act.put, List.setIfInBounds_toArray, List.set_cons_zero, List.set_cons_succ, i64_w, i32_w]
                              rfl
                            refine done_ (done_of HT_.out (by kernel_rfl)) ?_
                            try go_wp2
                            have n0_ := Aside0.mk (Kd.R_drew HO_3.out)
                            have n1_ := Aside0.mk (below_drew1 HB.out)
                            clear HO_3
                            clear HB
                            have HO_3 := n0_
                            have HB := n1_
                            clear n0_ n1_
                            have q46 : (x5_2 : Int) ≤ ((x3_1.length : Int) : Int) := of_decide_eq_true (by first | (with_reducible assumption) | assumption)
                            obtain ⟨i046, hi046, _, hsz46, _⟩ := info_parts info50
                            have hroom46 : x3_1.length ≤ co44 := (Kd.R_reads' HO_3.out).2.1
                            have hC46 : Kd.C k50 _ Ao44 x3_1.length x3_1 := (Kd.R_reads' HO_3.out).2.2
                            have hcut46 := cut_to (P := Try.prog) 36 50 .i64 Try.underlying36 hi046 Ao44 x3_1.length co44 x5_2 (of_decide_eq_true (by first | (with_reducible assumption) | assumption)) q46 hroom46
                            have hr46 := Kd.C_take (m := (x5_2 : Int).toNat) hC46 (by omega)
                            have hy46 : y148.length = (x5_2 : Int).toNat := (by rw [Ny148.out, List.length_take]; omega)
                            rw [← Ny148.out] at hr46
                            rw [← hy46] at hcut46
                            have HR151 := Aside0.mk hr46
                            have HC151 := Aside0.mk (show y148.length ≤ co44 from by omega)
                            clear hr46 hC46 hroom46 hi046 hsz46
                            have KY46 := Aside0.mk hy46
                            clear hy46
                            have KL46 := Aside0.mk (show (x5_2 : Int).toNat ≤ x3_1.length from by omega)
                            replace q46 := eq_true q46
                            have p155 : 0 ≤ (x8_1 : Int) := of_decide_eq_true (by first | (with_reducible assumption) | assumption)
                            have q155 : x8_1 < (l0.length : Int) := of_decide_eq_true (by first | (with_reducible assumption) | assumption)
                            obtain ⟨ad155, e155, hx155_0, hx155_1, hx155_2⟩ := at_T50 HR0.out x8_1 p155 q155
                            have hw155_2 := hx155_2
                            have hw155_1 := hx155_1
                            have hw155_0 := hx155_0
                            cases e155
                            replace hx155_0 := (HB.out.cell (World.block_lt_of_cell? w _ hx155_0)).trans hx155_0
                            replace hx155_1 := (HB.out.cell (World.block_lt_of_cell? w _ hx155_1)).trans hx155_1
                            replace hx155_2 := (HB.out.cell (World.block_lt_of_cell? w _ hx155_2)).trans hx155_2
                            replace p155 := eq_true p155
                            replace q155 := eq_true q155
                            have q47 : (x5_2 : Int) ≤ ((x3_1.length : Int) : Int) := of_decide_eq_true (by first | (with_reducible assumption) | assumption)
                            obtain ⟨i047, hi047, _, hsz47, _⟩ := info_parts info50
                            have hroom47 : x3_1.length ≤ co44 := (Kd.R_reads' HO_3.out).2.1
                            have hC47 : Kd.C k50 _ Ao44 x3_1.length x3_1 := (Kd.R_reads' HO_3.out).2.2
                            have q047 : (0 : Int) ≤ (x5_2 : Int) := of_decide_eq_true (by first | (with_reducible assumption) | assumption)
                            have hcut47 := cut_from (P := Try.prog) 36 50 .i64 Try.underlying36 hi047 3 hsz47 Ao44 x3_1.length co44 x5_2 q047 q47
                            have hr47 := Kd.C_drop (m := (x5_2 : Int).toNat) (c := co44) hC47 (by omega) hroom47
                            obtain ⟨A47, hA47⟩ : ∃ A1, A1 = (if co44 = (x5_2 : Int).toNat then Ao44 else (Ao44 : Option Addr).map (·.add ((x5_2 : Int).toNat * 3))) := ⟨_, rfl⟩
                            obtain ⟨c47, hc47⟩ : ∃ c1, c1 = co44 - (x5_2 : Int).toNat := ⟨_, rfl⟩
                            have hy47 : y162.length = x3_1.length - (x5_2 : Int).toNat := (by rw [Ny162.out, List.length_drop] <;> omega)
                            rw [show (x3_1).drop (x5_2 : Int).toNat = y162 from Ny162.out.symm] at hr47
                            replace hr47 : Kd.C k50 _ A47 y162.length y162 := (by rw [hA47]; exact hr47)
                            rw [← hy47, ← hA47, ← hc47] at hcut47
                            have HR165 := Aside0.mk hr47
                            have HC165 := Aside0.mk (show y162.length ≤ c47 from by rw [hy47, hc47]; exact Nat.sub_le_sub_right hroom47 _)
                            clear hr47 hC47 hroom47 hi047 hsz47 hc47
                            have KY47 := Aside0.mk hy47
                            have KA47 := Aside0.mk hA47
                            clear hy47 hA47
                            have KL47 := Aside0.mk (show (x5_2 : Int).toNat ≤ x3_1.length from by omega)
                            replace q47 := eq_true q47
                            refine start_ (n := 16) (S := fun w' => w'.cell? (ad155.add ((x8_1).toNat * 3)) = some (.int .i64 ((rd_T50 l0 x8_1).f0)) ∧ w'.cell? ⟨(ad155.add ((x8_1).toNat * 3)).block, (ad155.add ((x8_1).toNat * 3)).off + 1, none⟩ = some (.string ((rd_T50 l0 x8_1).f1)) ∧ w'.cell? ⟨(ad155.add ((x8_1).toNat * 3)).block, (ad155.add ((x8_1).toNat * 3)).off + 2, none⟩ = some (.string ((rd_T50 l0 x8_1).f2))) (ds := []) #[false, false, false, false, false, false, false, false, false, false, false, false, false, false, false, false] (by kernel_rfl) rfl rfl ⟨((HB.out.cell (World.block_lt_of_cell? w _ hw155_0)).trans hw155_0), ((HB.out.cell (World.block_lt_of_cell? w _ hw155_1)).trans hw155_1), ((HB.out.cell (World.block_lt_of_cell? w _ hw155_2)).trans hw155_2)⟩ (fun hHeld => ?_); refine with_tabW spec_Sorted.tab8 spec_Sorted.bits8 (fun HT_ HW_ => ?_)
                            generalize w43.drew = w45 at HO_3 HB HR151 HR165 hx155_0 hx155_1 hx155_2 hHeld ⊢
                            refine pure_ (i := 1) (N := some 30) (v := ?_) (a' := ?_) #[false, true, false, false, false, false, false, false, false, false, false, false, false, false, false, false] rfl rfl (any_of HT_.out (by kernel_rfl)) (fun _ _ _ h => h) (Or.inl ⟨by rfl, ?_⟩) ?_ ?_
                            rotate_left
                            · intro w'
                              go_simp
                              with_reducible rfl
                            rotate_left
                            · simp only [Act.put, List.setIfInBounds_toArray, List.set_cons_zero, List.set_cons_succ, i64_w, i32_w]
                              rfl
                            refine pure_ (i := 2) (N := some 31) (v := ?_) (a' := ?_) #[false, true, true, false, false, false, false, false, false, false, false, false, false, false, false, false] rfl rfl (any_of HT_.out (by kernel_rfl)) (fun _ _ _ h => h) (Or.inl ⟨by rfl, ?_⟩) ?_ ?_
                            rotate_left
                            · intro w'
                              go_simp
                              with_reducible rfl
                            rotate_left
                            · simp only [Act.put, List.setIfInBounds_toArray, List.set_cons_zero, List.set_cons_succ, i64_w, i32_w]
                              rfl
                            refine pure_ (i := 3) (N := some 32) (v := ?_) (a' := ?_) #[false, true, true, true, false, false, false, false, false, false, false, false, false, false, false, false] rfl rfl (any_of HT_.out (by kernel_rfl)) (fun _ _ _ h => h) (Or.inl ⟨by rfl, ?_⟩) ?_ ?_
                            rotate_left
                            · intro w'
                              go_simp
                              with_reducible rfl
                            rotate_left
                            · simp only [Act.put, List.setIfInBounds_toArray, List.set_cons_zero, List.set_cons_succ, i64_w, i32_w]
                              rfl
                            refine pure_ (i := 5) (N := some 34) (v := ?_) (a' := ?_) #[false, true, true, true, false, true, false, false, false, false, false, false, false, false, false, false] rfl rfl (any_of HT_.out (by kernel_rfl)) (fun _ _ _ h => h) (Or.inl ⟨by rfl, ?_⟩) ?_ ?_
                            rotate_left
                            · intro w'
                              go_simp
                              with_reducible rfl
                            rotate_left
                            · simp only [Act.put, List.setIfInBounds_toArray, List.set_cons_zero, List.set_cons_succ, i64_w, i32_w]
                              rfl
                            refine pure_ (i := 6) (N := some 35) (v := ?_) (a' := ?_) #[false, true, true, true, false, true, true, false, false, false, false, false, false, false, false, false] rfl rfl (any_of HT_.out (by kernel_rfl)) (fun _ _ _ h => h) (Or.inl ⟨by rfl, ?_⟩) ?_ ?_
                            rotate_left
                            · intro w'
                              go_simp
                              with_reducible rfl
                            rotate_left
                            · simp only [Act.put, List.setIfInBounds_toArray, List.set_cons_zero, List.set_cons_succ, i64_w, i32_w]
                              rfl
                            refine pure_ (i := 7) (N := some 36) (v := ?_) (a' := ?_) #[false, true, true, true, false, true, true, true, false, false, false, false, false, false, false, false] rfl rfl (any_of HT_.out (by kernel_rfl)) (fun _ _ _ h => h) (Or.inl ⟨by rfl, ?_⟩) ?_ ?_
                            rotate_left
                            · intro w'
                              go_simp
                              with_reducible rfl
                            rotate_left
                            · simp only [Act.put, List.setIfInBounds_toArray, List.set_cons_zero, List.set_cons_succ, i64_w, i32_w]
                              rfl
                            refine pure_ (i := 11) (N := some 40) (v := ?_) (a' := ?_) #[false, true, true, true, false, true, true, true, false, false, false, true, false, false, false, false] rfl rfl (any_of HT_.out (by kernel_rfl)) (fun _ _ _ h => h) (Or.inl ⟨by rfl, ?_⟩) ?_ ?_
                            rotate_left
                            · intro w'
                              go_simp
                              with_reducible rfl
                            rotate_left
                            · simp only [Act.put, List.setIfInBounds_toArray, List.set_cons_zero, List.set_cons_succ, i64_w, i32_w]
                              rfl
                            refine pure_ (i := 12) (N := some 41) (v := ?_) (a' := ?_) #[false, true, true, true, false, true, true, true, false, false, false, true, true, false, false, false] rfl rfl (any_of HT_.out (by kernel_rfl)) (fun _ _ _ h => h) (Or.inl ⟨by rfl, ?_⟩) ?_ ?_
                            rotate_left
                            · intro w'
                              go_simp
                              with_reducible rfl
                            rotate_left
                            · simp only [Act.put, List.setIfInBounds_toArray, List.set_cons_zero, List.set_cons_succ, i64_w, i32_w]
                              rfl
                            refine pure_ (i := 13) (N := some 42) (v := ?_) (a' := ?_) #[false, true, true, true, false, true, true, true, false, false, false, true, true, true, false, false] rfl rfl (any_of HT_.out (by kernel_rfl)) (fun _ _ _ h => h) (Or.inl ⟨by rfl, ?_⟩) ?_ ?_
                            rotate_left
                            · intro w'
                              go_simp
                              with_reducible rfl
                            rotate_left
                            · simp only [Act.put, List.setIfInBounds_toArray, List.set_cons_zero, List.set_cons_succ, i64_w, i32_w]
                              rfl
                            refine take_ (i := 8) (N := some 37) (v := ?_) (a' := ?_) #[false, true, true, true, false, true, true, true, true, false, false, true, true, true, false, false] rfl rfl (take_ofW HT_.out HW_.out (by kernel_rfl)) (fun _ _ _ h => h) (Or.inl ⟨by rfl, ?_⟩) hHeld ?_ ?_
                            rotate_left
                            · rintro w' ⟨s0, s1, s2⟩
                              go_simp
                              with_reducible rfl
                            rotate_left
                            · simp only [Act.put, List.setIfInBounds_toArray, List.set_cons_zero, List.set_cons_succ, i64_w, i32_w]
                              rfl
                            refine join_ (σ := Value × Value × Value) 3 #[true, true, true, true, true, true, true, true, true, true, false, true, true, true, false, false] (fun s_ => [(29, s_.1), (33, s_.2.1), (38, s_.2.2)]) (fun s_ w' => (w'.cell? (ad155.add ((x8_1).toNat * 3)) = some (.int .i64 ((rd_T50 l0 x8_1).f0)) ∧ w'.cell? ⟨(ad155.add ((x8_1).toNat * 3)).block, (ad155.add ((x8_1).toNat * 3)).off + 1, none⟩ = some (.string ((rd_T50 l0 x8_1).f1)) ∧ w'.cell? ⟨(ad155.add ((x8_1).toNat * 3)).block, (ad155.add ((x8_1).toNat * 3)).off + 2, none⟩ = some (.string ((rd_T50 l0 x8_1).f2))) ∧ (Kd.R k50 50 w' w.heap.size (fun k_ => some k_ ≠ (s_.2.2 : Value).ownBlock ∧ some k_ ≠ (.slice Ao44 x3_1.length co44 : Value).ownBlock) s_.2.1 y152) ∧ (Kd.R k50 50 w' w.heap.size (fun k_ => some k_ ≠ (s_.2.1 : Value).ownBlock ∧ some k_ ≠ (.slice Ao44 x3_1.length co44 : Value).ownBlock) s_.2.2 y156) ∧ (Kd.R k50 50 w' w.heap.size (fun k_ => some k_ ≠ (s_.2.1 : Value).ownBlock ∧ some k_ ≠ (s_.2.2 : Value).ownBlock) (.slice Ao44 x3_1.length co44) x3_1) ∧ (Below w.heap.size w w')) ?_ ?_
                            rotate_left
                            · intro hCont
                              refine two_ (i := 0) (j := 9) (Ni := some 29) (Nj := some 38) #[true, true, true, true, false, true, true, true, true, false, false, true, true, true, false, false] #[false, true, true, true, false, true, true, true, true, true, false, true, true, true, false, false] rfl rfl rfl rfl (two_of HT_.out (by kernel_rfl)) (by decide) (by decide) (fun K hK => ?_) (fun K hK => ?_)
                              · skip
                                refine Kd.R_lit_step k50 _ 50 ?hg (N := 29) ?hd (xs := ([] : List (S50))) (inner := []) (ok := fun _ => True) (okp := fun _ => True) ?hr ?hp (fun _ hk => hk) trivial (Below.refl _ _) (Nat.le_refl _) (by simp) ?_; (case hd => rfl); (case hg => rfl); (case hr => first | (go_simp; done) | (go_simp; rfl)); (case hp => exact (Reps.none _ _))
                                intro v146 w48 ho49 hb hg_ hnew_
                                clear hg_ hnew_
                                (first | rw [← Ny145.out] at ho49 | (simp only [Int.reduceToNat] at ho49; rw [← Ny145.out] at ho49))
                                have n0_ := Aside0.mk (Kd.R_elder' (by (with_reducible repeat (first | apply Kd.R_alloc | apply Kd.R_drewN | apply Kd.R_drew)); exact HO_3.out) (Kd.R_base ho49) hb)
                                have n1_ := Aside0.mk (Kd.R_lower (Kd.R_new' ho49 (Kd.R_lt (by (with_reducible repeat (first | apply Kd.R_alloc | apply Kd.R_drewN | apply Kd.R_drew)); exact HO_3.out))) (below_size (by repeat (first | (with_reducible first | exact HB.out | apply below_alloc | apply pw_below_drewN | apply below_drew1) | exact HB.out))))
                                have n2_ := Aside0.mk (Kd.C_below (by repeat (first | (with_reducible exact HR151.out) | (with_reducible refine Kd.C_alloc ?_ _) | (with_reducible refine Kd.C_drewN ?_ _) | (with_reducible refine Kd.C_drew ?_) | exact HR151.out)) hb)
                                have n3_ := Aside0.mk (Kd.C_below (by repeat (first | (with_reducible exact HR165.out) | (with_reducible refine Kd.C_alloc ?_ _) | (with_reducible refine Kd.C_drewN ?_ _) | (with_reducible refine Kd.C_drew ?_) | exact HR165.out)) hb)
                                have n4_ := Aside0.mk (below_step (by repeat (first | (with_reducible first | exact HB.out | apply below_alloc | apply pw_below_drewN | apply below_drew1) | exact HB.out)) hb)
                                clear HO_3
                                clear HR151
                                clear HR165
                                clear HB
                                have HO_3 := n0_
                                have HO147 := n1_
                                have HR151 := n2_
                                have HR165 := n3_
                                have HB := n4_
                                clear n0_ n1_ n2_ n3_ n4_
                                clear hb ho49
                                refine hK.out _ _ ⟨((HB.out.cell (World.block_lt_of_cell? w _ hw155_0)).trans hw155_0), ((HB.out.cell (World.block_lt_of_cell? w _ hw155_1)).trans hw155_1), ((HB.out.cell (World.block_lt_of_cell? w _ hw155_2)).trans hw155_2)⟩ (fun hHeld => ?_)
                                clear hK K
                                refine norm_ (a' := ?_) ?_ ?_
                                rotate_left
                                · show Act.put _ (some 29) _ = _
                                  simp only [Act.put, List.setIfInBounds_toArray, List.set_cons_zero, List.set_cons_succ, i64_w, i32_w]
                                  rfl
                                refine two_ (i := 4) (j := 9) (Ni := some 33) (Nj := some 38) #[true, true, true, true, true, true, true, true, true, false, false, true, true, true, false, false] #[true, true, true, true, false, true, true, true, true, true, false, true, true, true, false, false] rfl rfl rfl rfl (two_of HT_.out (by kernel_rfl)) (by decide) (by decide) (fun K hK => ?_) (fun K hK => ?_)
                                · skip
                                  refine Kd.R_append_rows_step k50 (w0 := w) w.heap.size (by rfl) (.tmp 29) (.tmp 32) 36 50 (.agg #[(.int .i64 0), (.string ⟨#[]⟩), (.string ⟨#[]⟩)]) 40 rfl Try.underlying36 info50 rfl (by decide) (by omega) v146 y145 y148 _ _ _ (fun k_ => some k_ ≠ (.slice Ao44 x3_1.length co44 : Value).ownBlock) (fun _ => False) rfl rfl ?aO ?aR (fun _ _ h => h) (fun _ h => h.elim) ?aF ?aB ?aS ?aL ?_
                                  (case aR => repeat (first | exact (by repeat (first | (with_reducible exact HR151.out) | (with_reducible refine Kd.C_alloc ?_ _) | (with_reducible refine Kd.C_drewN ?_ _) | (with_reducible refine Kd.C_drew ?_) | exact HR151.out)) | (with_reducible refine Kd.C_alloc ?_ _) | (with_reducible refine Kd.C_drewN ?_ _) | (with_reducible refine Kd.C_drew ?_)))
                                  (case aB => exact (by repeat (first | (with_reducible first | exact HB.out | apply below_alloc | apply pw_below_drewN | apply below_drew1) | exact HB.out)))
                                  (case aF => exact (fun k_ hk => Kd.fresh' (Kd.R_lt (by (with_reducible repeat (first | apply Kd.R_alloc | apply Kd.R_drewN | apply Kd.R_drew)); exact HO_3.out)) k_ hk))
                                  (case aO => exact (by (with_reducible repeat (first | apply Kd.R_alloc | apply Kd.R_drewN | apply Kd.R_drew)); exact Kd.R_mono HO147.out (fun _ hk => hk.2)))
                                  (case aS => exact (below_size (by repeat (first | (with_reducible first | exact HB.out | apply below_alloc | apply pw_below_drewN | apply below_drew1) | exact HB.out))))
                                  (case aL => have := LMc36.out; omega)
                                  intro v153 w50 ho hb hg hat
                                  rw [← Ny152.out] at ho
                                  have n0_ := Aside0.mk (Kd.R_after (ok := (fun _ => True)) (by (with_reducible repeat (first | apply Kd.R_alloc | apply Kd.R_drewN | apply Kd.R_drew)); exact HO_3.out) hg hat)
                                  have n1_ := Aside0.mk (hb)
                                  have n2_ := Aside0.mk ((show Kd.C k50 w50 Ao44 y148.length y148 from by rw [Ny148.out]; exact Kd.C_take (m := (x5_2 : Int).toNat) ((Kd.R_reads' (Kd.R_after (ok := (fun _ => True)) (by (with_reducible repeat (first | apply Kd.R_alloc | apply Kd.R_drewN | apply Kd.R_drew)); exact HO_3.out) hg hat)).2.2) KL46.out))
                                  have n3_ := Aside0.mk ((show Kd.C k50 w50 A47 y162.length y162 from by rw [Ny162.out, KA47.out]; exact Kd.C_drop (m := (x5_2 : Int).toNat) (c := co44) ((Kd.R_reads' (Kd.R_after (ok := (fun _ => True)) (by (with_reducible repeat (first | apply Kd.R_alloc | apply Kd.R_drewN | apply Kd.R_drew)); exact HO_3.out) hg hat)).2.2) KL47.out ((Kd.R_reads' (Kd.R_after (ok := (fun _ => True)) (by (with_reducible repeat (first | apply Kd.R_alloc | apply Kd.R_drewN | apply Kd.R_drew)); exact HO_3.out) hg hat)).2.1)))
                                  have n4_ := Aside0.mk (ho)
                                  clear HO_3
                                  clear HB
                                  clear HR151
                                  clear HR165
                                  clear HO147
                                  have HO_3 := n0_
                                  have HB := n1_
                                  have HR151 := n2_
                                  have HR165 := n3_
                                  have HO154 := n4_
                                  clear n0_ n1_ n2_ n3_ n4_
                                  clear ho hb hg hat
                                  refine hK.out _ _ ⟨((HB.out.cell (World.block_lt_of_cell? w _ hw155_0)).trans hw155_0), ((HB.out.cell (World.block_lt_of_cell? w _ hw155_1)).trans hw155_1), ((HB.out.cell (World.block_lt_of_cell? w _ hw155_2)).trans hw155_2)⟩ (fun hHeld => ?_)
                                  clear hK K
                                  refine norm_ (a' := ?_) ?_ ?_
                                  rotate_left
                                  · show Act.put _ (some 33) _ = _
                                    simp only [Act.put, List.setIfInBounds_toArray, List.set_cons_zero, List.set_cons_succ, i64_w, i32_w]
                                    rfl
                                  refine one_ (i := 9) (N := some 38) #[true, true, true, true, true, true, true, true, true, true, false, true, true, true, false, false] rfl rfl (one_of HT_.out (by kernel_rfl)) (by decide) (fun K hK => ?_)
                                  refine Kd.R_lit_step k50 _ 50 ?hg (N := 38) ?hd (xs := ([(⟨(rd_T50 l0 x8_1).f0, (rd_T50 l0 x8_1).f1, (rd_T50 l0 x8_1).f2⟩ : S50)] : List (S50))) (inner := [.int .i64 ((rd_T50 l0 x8_1).f0), .string ((rd_T50 l0 x8_1).f1), .string ((rd_T50 l0 x8_1).f2)]) (ok := fun _ => True) (okp := fun _ => True) ?hr ?hp (fun _ hk => hk) trivial (Below.refl _ _) (Nat.le_refl _) (by simp) ?_; (case hd => rfl); (case hg => rfl); (case hr => first | (go_simp; done) | (go_simp; rfl)); (case hp => exact (Reps.c3 (show Kd.M k50 _ _ _ (⟨(rd_T50 l0 x8_1).f0, (rd_T50 l0 x8_1).f1, (rd_T50 l0 x8_1).f2⟩ : S50) [.int .i64 ((rd_T50 l0 x8_1).f0), .string ((rd_T50 l0 x8_1).f1), .string ((rd_T50 l0 x8_1).f2)] from (k50_mkM _ _ _ (⟨(rd_T50 l0 x8_1).f0, (rd_T50 l0 x8_1).f1, (rd_T50 l0 x8_1).f2⟩ : S50) )) (Reps.none _ _)))
                                  intro v157 w51 ho52 hb hg_ hnew_
                                  clear hg_ hnew_
                                  (first | rw [← Ny156.out] at ho52 | (simp only [Int.reduceToNat] at ho52; rw [← Ny156.out] at ho52))
                                  have n0_ := Aside0.mk (Kd.R_elder' (by (with_reducible repeat (first | apply Kd.R_alloc | apply Kd.R_drewN | apply Kd.R_drew)); exact HO_3.out) (Kd.R_base ho52) hb)
                                  have n1_ := Aside0.mk (Kd.R_elder' (by (with_reducible repeat (first | apply Kd.R_alloc | apply Kd.R_drewN | apply Kd.R_drew)); exact HO154.out) (Kd.R_base ho52) hb)
                                  have n2_ := Aside0.mk (Kd.R_lower (Kd.R_new' (Kd.R_new' ho52 (Kd.R_lt (by (with_reducible repeat (first | apply Kd.R_alloc | apply Kd.R_drewN | apply Kd.R_drew)); exact HO_3.out))) (Kd.R_lt (by (with_reducible repeat (first | apply Kd.R_alloc | apply Kd.R_drewN | apply Kd.R_drew)); exact HO154.out))) (below_size (by repeat (first | (with_reducible first | exact HB.out | apply below_alloc | apply pw_below_drewN | apply below_drew1) | exact HB.out))))
                                  have n3_ := Aside0.mk (Kd.C_below (by repeat (first | (with_reducible exact HR151.out) | (with_reducible refine Kd.C_alloc ?_ _) | (with_reducible refine Kd.C_drewN ?_ _) | (with_reducible refine Kd.C_drew ?_) | exact HR151.out)) hb)
                                  have n4_ := Aside0.mk (Kd.C_below (by repeat (first | (with_reducible exact HR165.out) | (with_reducible refine Kd.C_alloc ?_ _) | (with_reducible refine Kd.C_drewN ?_ _) | (with_reducible refine Kd.C_drew ?_) | exact HR165.out)) hb)
                                  have n5_ := Aside0.mk (below_step (by repeat (first | (with_reducible first | exact HB.out | apply below_alloc | apply pw_below_drewN | apply below_drew1) | exact HB.out)) hb)
                                  clear HO_3
                                  clear HO154
                                  clear HR151
                                  clear HR165
                                  clear HB
                                  have HO_3 := n0_
                                  have HO154 := n1_
                                  have HO158 := n2_
                                  have HR151 := n3_
                                  have HR165 := n4_
                                  have HB := n5_
                                  clear n0_ n1_ n2_ n3_ n4_ n5_
                                  clear hb ho52
                                  refine hK.out _ _ ⟨((HB.out.cell (World.block_lt_of_cell? w _ hw155_0)).trans hw155_0), ((HB.out.cell (World.block_lt_of_cell? w _ hw155_1)).trans hw155_1), ((HB.out.cell (World.block_lt_of_cell? w _ hw155_2)).trans hw155_2)⟩ (fun hHeld => ?_)
                                  clear hK K
                                  refine norm_ (a' := ?_) ?_ ?_
                                  rotate_left
                                  · show Act.put _ (some 38) _ = _
                                    simp only [Act.put, List.setIfInBounds_toArray, List.set_cons_zero, List.set_cons_succ, i64_w, i32_w]
                                    rfl
                                  exact norm_ (by simp only [putAll, Act.put, List.setIfInBounds_toArray, List.set_cons_zero, List.set_cons_succ]) (hCont (v146, v153, v157) _ ⟨hHeld, (by (with_reducible repeat (first | apply Kd.R_alloc | apply Kd.R_drewN | apply Kd.R_drew)); exact Kd.R_mono HO154.out (fun _ hk => ⟨hk.2, hk.1⟩)), (by (with_reducible repeat (first | apply Kd.R_alloc | apply Kd.R_drewN | apply Kd.R_drew)); exact Kd.R_mono HO158.out (fun _ hk => ⟨hk.2, hk.1.2⟩)), (by (with_reducible repeat (first | apply Kd.R_alloc | apply Kd.R_drewN | apply Kd.R_drew)); exact Kd.R_mono HO_3.out (fun _ hk => ⟨hk.1.2, hk.2⟩)), (by repeat (first | (with_reducible first | exact HB.out | apply below_alloc | apply pw_below_drewN | apply below_drew1) | exact HB.out))⟩)
                                · skip
                                  refine Kd.R_lit_step k50 _ 50 ?hg (N := 38) ?hd (xs := ([(⟨(rd_T50 l0 x8_1).f0, (rd_T50 l0 x8_1).f1, (rd_T50 l0 x8_1).f2⟩ : S50)] : List (S50))) (inner := [.int .i64 ((rd_T50 l0 x8_1).f0), .string ((rd_T50 l0 x8_1).f1), .string ((rd_T50 l0 x8_1).f2)]) (ok := fun _ => True) (okp := fun _ => True) ?hr ?hp (fun _ hk => hk) trivial (Below.refl _ _) (Nat.le_refl _) (by simp) ?_; (case hd => rfl); (case hg => rfl); (case hr => first | (go_simp; done) | (go_simp; rfl)); (case hp => exact (Reps.c3 (show Kd.M k50 _ _ _ (⟨(rd_T50 l0 x8_1).f0, (rd_T50 l0 x8_1).f1, (rd_T50 l0 x8_1).f2⟩ : S50) [.int .i64 ((rd_T50 l0 x8_1).f0), .string ((rd_T50 l0 x8_1).f1), .string ((rd_T50 l0 x8_1).f2)] from (k50_mkM _ _ _ (⟨(rd_T50 l0 x8_1).f0, (rd_T50 l0 x8_1).f1, (rd_T50 l0 x8_1).f2⟩ : S50) )) (Reps.none _ _)))
                                  intro v157 w50 ho51 hb hg_ hnew_
                                  clear hg_ hnew_
                                  (first | rw [← Ny156.out] at ho51 | (simp only [Int.reduceToNat] at ho51; rw [← Ny156.out] at ho51))
                                  have n0_ := Aside0.mk (Kd.R_elder' (by (with_reducible repeat (first | apply Kd.R_alloc | apply Kd.R_drewN | apply Kd.R_drew)); exact HO_3.out) (Kd.R_base ho51) hb)
                                  have n1_ := Aside0.mk (Kd.R_elder' (by (with_reducible repeat (first | apply Kd.R_alloc | apply Kd.R_drewN | apply Kd.R_drew)); exact HO147.out) (Kd.R_base ho51) hb)
                                  have n2_ := Aside0.mk (Kd.R_lower (Kd.R_new' (Kd.R_new' ho51 (Kd.R_lt (by (with_reducible repeat (first | apply Kd.R_alloc | apply Kd.R_drewN | apply Kd.R_drew)); exact HO_3.out))) (Kd.R_lt (by (with_reducible repeat (first | apply Kd.R_alloc | apply Kd.R_drewN | apply Kd.R_drew)); exact HO147.out))) (below_size (by repeat (first | (with_reducible first | exact HB.out | apply below_alloc | apply pw_below_drewN | apply below_drew1) | exact HB.out))))
                                  have n3_ := Aside0.mk (Kd.C_below (by repeat (first | (with_reducible exact HR151.out) | (with_reducible refine Kd.C_alloc ?_ _) | (with_reducible refine Kd.C_drewN ?_ _) | (with_reducible refine Kd.C_drew ?_) | exact HR151.out)) hb)
                                  have n4_ := Aside0.mk (Kd.C_below (by repeat (first | (with_reducible exact HR165.out) | (with_reducible refine Kd.C_alloc ?_ _) | (with_reducible refine Kd.C_drewN ?_ _) | (with_reducible refine Kd.C_drew ?_) | exact HR165.out)) hb)
                                  have n5_ := Aside0.mk (below_step (by repeat (first | (with_reducible first | exact HB.out | apply below_alloc | apply pw_below_drewN | apply below_drew1) | exact HB.out)) hb)
                                  clear HO_3
                                  clear HO147
                                  clear HR151
                                  clear HR165
                                  clear HB
                                  have HO_3 := n0_
                                  have HO147 := n1_
                                  have HO158 := n2_
                                  have HR151 := n3_
                                  have HR165 := n4_
                                  have HB := n5_
                                  clear n0_ n1_ n2_ n3_ n4_ n5_
                                  clear hb ho51
                                  refine hK.out _ _ ⟨((HB.out.cell (World.block_lt_of_cell? w _ hw155_0)).trans hw155_0), ((HB.out.cell (World.block_lt_of_cell? w _ hw155_1)).trans hw155_1), ((HB.out.cell (World.block_lt_of_cell? w _ hw155_2)).trans hw155_2)⟩ (fun hHeld => ?_)
                                  clear hK K
                                  refine norm_ (a' := ?_) ?_ ?_
                                  rotate_left
                                  · show Act.put _ (some 38) _ = _
                                    simp only [Act.put, List.setIfInBounds_toArray, List.set_cons_zero, List.set_cons_succ, i64_w, i32_w]
                                    rfl
                                  refine one_ (i := 4) (N := some 33) #[true, true, true, true, true, true, true, true, true, true, false, true, true, true, false, false] rfl rfl (one_of HT_.out (by kernel_rfl)) (by decide) (fun K hK => ?_)
                                  refine Kd.R_append_rows_step k50 (w0 := w) w.heap.size (by rfl) (.tmp 29) (.tmp 32) 36 50 (.agg #[(.int .i64 0), (.string ⟨#[]⟩), (.string ⟨#[]⟩)]) 40 rfl Try.underlying36 info50 rfl (by decide) (by omega) v146 y145 y148 _ _ _ (fun k_ => some k_ ≠ (.slice Ao44 x3_1.length co44 : Value).ownBlock ∧ some k_ ≠ (v157 : Value).ownBlock) (fun _ => False) rfl rfl ?aO ?aR (fun _ _ h => h) (fun _ h => h.elim) ?aF ?aB ?aS ?aL ?_
                                  (case aR => repeat (first | exact (by repeat (first | (with_reducible exact HR151.out) | (with_reducible refine Kd.C_alloc ?_ _) | (with_reducible refine Kd.C_drewN ?_ _) | (with_reducible refine Kd.C_drew ?_) | exact HR151.out)) | (with_reducible refine Kd.C_alloc ?_ _) | (with_reducible refine Kd.C_drewN ?_ _) | (with_reducible refine Kd.C_drew ?_)))
                                  (case aB => exact (by repeat (first | (with_reducible first | exact HB.out | apply below_alloc | apply pw_below_drewN | apply below_drew1) | exact HB.out)))
                                  (case aF => exact (fun k_ hk => ⟨Kd.fresh' (Kd.R_lt (by (with_reducible repeat (first | apply Kd.R_alloc | apply Kd.R_drewN | apply Kd.R_drew)); exact HO_3.out)) k_ hk, Kd.fresh' (Kd.R_lt (by (with_reducible repeat (first | apply Kd.R_alloc | apply Kd.R_drewN | apply Kd.R_drew)); exact HO158.out)) k_ hk⟩))
                                  (case aO => exact (by (with_reducible repeat (first | apply Kd.R_alloc | apply Kd.R_drewN | apply Kd.R_drew)); exact Kd.R_mono HO147.out (fun _ hk => ⟨hk.1.2, hk.2⟩)))
                                  (case aS => exact (below_size (by repeat (first | (with_reducible first | exact HB.out | apply below_alloc | apply pw_below_drewN | apply below_drew1) | exact HB.out))))
                                  (case aL => have := LMc36.out; omega)
                                  intro v153 w52 ho hb hg hat
                                  rw [← Ny152.out] at ho
                                  have n0_ := Aside0.mk (Kd.R_after (ok := (fun k_ => some k_ ≠ (v157 : Value).ownBlock)) (by (with_reducible repeat (first | apply Kd.R_alloc | apply Kd.R_drewN | apply Kd.R_drew)); exact Kd.R_mono HO_3.out (fun _ hk => ⟨hk.2, hk.1.2⟩)) hg hat)
                                  have n1_ := Aside0.mk (Kd.R_after (ok := (fun k_ => some k_ ≠ (.slice Ao44 x3_1.length co44 : Value).ownBlock)) (by (with_reducible repeat (first | apply Kd.R_alloc | apply Kd.R_drewN | apply Kd.R_drew)); exact Kd.R_mono HO158.out (fun _ hk => ⟨hk.1.2, hk.2⟩)) hg hat)
                                  have n2_ := Aside0.mk (hb)
                                  have n3_ := Aside0.mk ((show Kd.C k50 w52 Ao44 y148.length y148 from by rw [Ny148.out]; exact Kd.C_take (m := (x5_2 : Int).toNat) ((Kd.R_reads' (Kd.R_after (ok := (fun k_ => some k_ ≠ (v157 : Value).ownBlock)) (by (with_reducible repeat (first | apply Kd.R_alloc | apply Kd.R_drewN | apply Kd.R_drew)); exact Kd.R_mono HO_3.out (fun _ hk => ⟨hk.2, hk.1.2⟩)) hg hat)).2.2) KL46.out))
                                  have n4_ := Aside0.mk ((show Kd.C k50 w52 A47 y162.length y162 from by rw [Ny162.out, KA47.out]; exact Kd.C_drop (m := (x5_2 : Int).toNat) (c := co44) ((Kd.R_reads' (Kd.R_after (ok := (fun k_ => some k_ ≠ (v157 : Value).ownBlock)) (by (with_reducible repeat (first | apply Kd.R_alloc | apply Kd.R_drewN | apply Kd.R_drew)); exact Kd.R_mono HO_3.out (fun _ hk => ⟨hk.2, hk.1.2⟩)) hg hat)).2.2) KL47.out ((Kd.R_reads' (Kd.R_after (ok := (fun k_ => some k_ ≠ (v157 : Value).ownBlock)) (by (with_reducible repeat (first | apply Kd.R_alloc | apply Kd.R_drewN | apply Kd.R_drew)); exact Kd.R_mono HO_3.out (fun _ hk => ⟨hk.2, hk.1.2⟩)) hg hat)).2.1)))
                                  have n5_ := Aside0.mk (ho)
                                  clear HO_3
                                  clear HO158
                                  clear HB
                                  clear HR151
                                  clear HR165
                                  clear HO147
                                  have HO_3 := n0_
                                  have HO158 := n1_
                                  have HB := n2_
                                  have HR151 := n3_
                                  have HR165 := n4_
                                  have HO154 := n5_
                                  clear n0_ n1_ n2_ n3_ n4_ n5_
                                  clear ho hb hg hat
                                  refine hK.out _ _ ⟨((HB.out.cell (World.block_lt_of_cell? w _ hw155_0)).trans hw155_0), ((HB.out.cell (World.block_lt_of_cell? w _ hw155_1)).trans hw155_1), ((HB.out.cell (World.block_lt_of_cell? w _ hw155_2)).trans hw155_2)⟩ (fun hHeld => ?_)
                                  clear hK K
                                  refine norm_ (a' := ?_) ?_ ?_
                                  rotate_left
                                  · show Act.put _ (some 33) _ = _
                                    simp only [Act.put, List.setIfInBounds_toArray, List.set_cons_zero, List.set_cons_succ, i64_w, i32_w]
                                    rfl
                                  exact norm_ (by simp only [putAll, Act.put, List.setIfInBounds_toArray, List.set_cons_zero, List.set_cons_succ]) (hCont (v146, v153, v157) _ ⟨hHeld, (by (with_reducible repeat (first | apply Kd.R_alloc | apply Kd.R_drewN | apply Kd.R_drew)); exact Kd.R_mono HO154.out (fun _ hk => ⟨hk.2, hk.1⟩)), (by (with_reducible repeat (first | apply Kd.R_alloc | apply Kd.R_drewN | apply Kd.R_drew)); exact Kd.R_mono HO158.out (fun _ hk => ⟨hk.2, hk.1⟩)), (by (with_reducible repeat (first | apply Kd.R_alloc | apply Kd.R_drewN | apply Kd.R_drew)); exact Kd.R_mono HO_3.out (fun _ hk => ⟨hk.2, hk.1⟩)), (by repeat (first | (with_reducible first | exact HB.out | apply below_alloc | apply pw_below_drewN | apply below_drew1) | exact HB.out))⟩)
                              · skip
                                refine Kd.R_lit_step k50 _ 50 ?hg (N := 38) ?hd (xs := ([(⟨(rd_T50 l0 x8_1).f0, (rd_T50 l0 x8_1).f1, (rd_T50 l0 x8_1).f2⟩ : S50)] : List (S50))) (inner := [.int .i64 ((rd_T50 l0 x8_1).f0), .string ((rd_T50 l0 x8_1).f1), .string ((rd_T50 l0 x8_1).f2)]) (ok := fun _ => True) (okp := fun _ => True) ?hr ?hp (fun _ hk => hk) trivial (Below.refl _ _) (Nat.le_refl _) (by simp) ?_; (case hd => rfl); (case hg => rfl); (case hr => first | (go_simp; done) | (go_simp; rfl)); (case hp => exact (Reps.c3 (show Kd.M k50 _ _ _ (⟨(rd_T50 l0 x8_1).f0, (rd_T50 l0 x8_1).f1, (rd_T50 l0 x8_1).f2⟩ : S50) [.int .i64 ((rd_T50 l0 x8_1).f0), .string ((rd_T50 l0 x8_1).f1), .string ((rd_T50 l0 x8_1).f2)] from (k50_mkM _ _ _ (⟨(rd_T50 l0 x8_1).f0, (rd_T50 l0 x8_1).f1, (rd_T50 l0 x8_1).f2⟩ : S50) )) (Reps.none _ _)))
                                intro v157 w48 ho49 hb hg_ hnew_
                                clear hg_ hnew_
                                (first | rw [← Ny156.out] at ho49 | (simp only [Int.reduceToNat] at ho49; rw [← Ny156.out] at ho49))
                                have n0_ := Aside0.mk (Kd.R_elder' (by (with_reducible repeat (first | apply Kd.R_alloc | apply Kd.R_drewN | apply Kd.R_drew)); exact HO_3.out) (Kd.R_base ho49) hb)
                                have n1_ := Aside0.mk (Kd.R_lower (Kd.R_new' ho49 (Kd.R_lt (by (with_reducible repeat (first | apply Kd.R_alloc | apply Kd.R_drewN | apply Kd.R_drew)); exact HO_3.out))) (below_size (by repeat (first | (with_reducible first | exact HB.out | apply below_alloc | apply pw_below_drewN | apply below_drew1) | exact HB.out))))
                                have n2_ := Aside0.mk (Kd.C_below (by repeat (first | (with_reducible exact HR151.out) | (with_reducible refine Kd.C_alloc ?_ _) | (with_reducible refine Kd.C_drewN ?_ _) | (with_reducible refine Kd.C_drew ?_) | exact HR151.out)) hb)
                                have n3_ := Aside0.mk (Kd.C_below (by repeat (first | (with_reducible exact HR165.out) | (with_reducible refine Kd.C_alloc ?_ _) | (with_reducible refine Kd.C_drewN ?_ _) | (with_reducible refine Kd.C_drew ?_) | exact HR165.out)) hb)
                                have n4_ := Aside0.mk (below_step (by repeat (first | (with_reducible first | exact HB.out | apply below_alloc | apply pw_below_drewN | apply below_drew1) | exact HB.out)) hb)
                                clear HO_3
                                clear HR151
                                clear HR165
                                clear HB
                                have HO_3 := n0_
                                have HO158 := n1_
                                have HR151 := n2_
                                have HR165 := n3_
                                have HB := n4_
                                clear n0_ n1_ n2_ n3_ n4_
                                clear hb ho49
                                refine hK.out _ _ ⟨((HB.out.cell (World.block_lt_of_cell? w _ hw155_0)).trans hw155_0), ((HB.out.cell (World.block_lt_of_cell? w _ hw155_1)).trans hw155_1), ((HB.out.cell (World.block_lt_of_cell? w _ hw155_2)).trans hw155_2)⟩ (fun hHeld => ?_)
                                clear hK K
                                refine norm_ (a' := ?_) ?_ ?_
                                rotate_left
                                · show Act.put _ (some 38) _ = _
                                  simp only [Act.put, List.setIfInBounds_toArray, List.set_cons_zero, List.set_cons_succ, i64_w, i32_w]
                                  rfl
                                refine one_ (i := 0) (N := some 29) #[true, true, true, true, false, true, true, true, true, true, false, true, true, true, false, false] rfl rfl (one_of HT_.out (by kernel_rfl)) (by decide) (fun K hK => ?_)
                                refine Kd.R_lit_step k50 _ 50 ?hg (N := 29) ?hd (xs := ([] : List (S50))) (inner := []) (ok := fun _ => True) (okp := fun _ => True) ?hr ?hp (fun _ hk => hk) trivial (Below.refl _ _) (Nat.le_refl _) (by simp) ?_; (case hd => rfl); (case hg => rfl); (case hr => first | (go_simp; done) | (go_simp; rfl)); (case hp => exact (Reps.none _ _))
                                intro v146 w50 ho51 hb hg_ hnew_
                                clear hg_ hnew_
                                (first | rw [← Ny145.out] at ho51 | (simp only [Int.reduceToNat] at ho51; rw [← Ny145.out] at ho51))
                                have n0_ := Aside0.mk (Kd.R_elder' (by (with_reducible repeat (first | apply Kd.R_alloc | apply Kd.R_drewN | apply Kd.R_drew)); exact HO_3.out) (Kd.R_base ho51) hb)
                                have n1_ := Aside0.mk (Kd.R_elder' (by (with_reducible repeat (first | apply Kd.R_alloc | apply Kd.R_drewN | apply Kd.R_drew)); exact HO158.out) (Kd.R_base ho51) hb)
                                have n2_ := Aside0.mk (Kd.R_lower (Kd.R_new' (Kd.R_new' ho51 (Kd.R_lt (by (with_reducible repeat (first | apply Kd.R_alloc | apply Kd.R_drewN | apply Kd.R_drew)); exact HO_3.out))) (Kd.R_lt (by (with_reducible repeat (first | apply Kd.R_alloc | apply Kd.R_drewN | apply Kd.R_drew)); exact HO158.out))) (below_size (by repeat (first | (with_reducible first | exact HB.out | apply below_alloc | apply pw_below_drewN | apply below_drew1) | exact HB.out))))
                                have n3_ := Aside0.mk (Kd.C_below (by repeat (first | (with_reducible exact HR151.out) | (with_reducible refine Kd.C_alloc ?_ _) | (with_reducible refine Kd.C_drewN ?_ _) | (with_reducible refine Kd.C_drew ?_) | exact HR151.out)) hb)
                                have n4_ := Aside0.mk (Kd.C_below (by repeat (first | (with_reducible exact HR165.out) | (with_reducible refine Kd.C_alloc ?_ _) | (with_reducible refine Kd.C_drewN ?_ _) | (with_reducible refine Kd.C_drew ?_) | exact HR165.out)) hb)
                                have n5_ := Aside0.mk (below_step (by repeat (first | (with_reducible first | exact HB.out | apply below_alloc | apply pw_below_drewN | apply below_drew1) | exact HB.out)) hb)
                                clear HO_3
                                clear HO158
                                clear HR151
                                clear HR165
                                clear HB
                                have HO_3 := n0_
                                have HO158 := n1_
                                have HO147 := n2_
                                have HR151 := n3_
                                have HR165 := n4_
                                have HB := n5_
                                clear n0_ n1_ n2_ n3_ n4_ n5_
                                clear hb ho51
                                refine hK.out _ _ ⟨((HB.out.cell (World.block_lt_of_cell? w _ hw155_0)).trans hw155_0), ((HB.out.cell (World.block_lt_of_cell? w _ hw155_1)).trans hw155_1), ((HB.out.cell (World.block_lt_of_cell? w _ hw155_2)).trans hw155_2)⟩ (fun hHeld => ?_)
                                clear hK K
                                refine norm_ (a' := ?_) ?_ ?_
                                rotate_left
                                · show Act.put _ (some 29) _ = _
                                  simp only [Act.put, List.setIfInBounds_toArray, List.set_cons_zero, List.set_cons_succ, i64_w, i32_w]
                                  rfl
                                refine one_ (i := 4) (N := some 33) #[true, true, true, true, true, true, true, true, true, true, false, true, true, true, false, false] rfl rfl (one_of HT_.out (by kernel_rfl)) (by decide) (fun K hK => ?_)
                                refine Kd.R_append_rows_step k50 (w0 := w) w.heap.size (by rfl) (.tmp 29) (.tmp 32) 36 50 (.agg #[(.int .i64 0), (.string ⟨#[]⟩), (.string ⟨#[]⟩)]) 40 rfl Try.underlying36 info50 rfl (by decide) (by omega) v146 y145 y148 _ _ _ (fun k_ => some k_ ≠ (.slice Ao44 x3_1.length co44 : Value).ownBlock ∧ some k_ ≠ (v157 : Value).ownBlock) (fun _ => False) rfl rfl ?aO ?aR (fun _ _ h => h) (fun _ h => h.elim) ?aF ?aB ?aS ?aL ?_
                                (case aR => repeat (first | exact (by repeat (first | (with_reducible exact HR151.out) | (with_reducible refine Kd.C_alloc ?_ _) | (with_reducible refine Kd.C_drewN ?_ _) | (with_reducible refine Kd.C_drew ?_) | exact HR151.out)) | (with_reducible refine Kd.C_alloc ?_ _) | (with_reducible refine Kd.C_drewN ?_ _) | (with_reducible refine Kd.C_drew ?_)))
                                (case aB => exact (by repeat (first | (with_reducible first | exact HB.out | apply below_alloc | apply pw_below_drewN | apply below_drew1) | exact HB.out)))
                                (case aF => exact (fun k_ hk => ⟨Kd.fresh' (Kd.R_lt (by (with_reducible repeat (first | apply Kd.R_alloc | apply Kd.R_drewN | apply Kd.R_drew)); exact HO_3.out)) k_ hk, Kd.fresh' (Kd.R_lt (by (with_reducible repeat (first | apply Kd.R_alloc | apply Kd.R_drewN | apply Kd.R_drew)); exact HO158.out)) k_ hk⟩))
                                (case aO => exact (by (with_reducible repeat (first | apply Kd.R_alloc | apply Kd.R_drewN | apply Kd.R_drew)); exact Kd.R_mono HO147.out (fun _ hk => ⟨hk.1.2, hk.2⟩)))
                                (case aS => exact (below_size (by repeat (first | (with_reducible first | exact HB.out | apply below_alloc | apply pw_below_drewN | apply below_drew1) | exact HB.out))))
                                (case aL => have := LMc36.out; omega)
                                intro v153 w52 ho hb hg hat
                                rw [← Ny152.out] at ho
                                have n0_ := Aside0.mk (Kd.R_after (ok := (fun k_ => some k_ ≠ (v157 : Value).ownBlock)) (by (with_reducible repeat (first | apply Kd.R_alloc | apply Kd.R_drewN | apply Kd.R_drew)); exact Kd.R_mono HO_3.out (fun _ hk => ⟨hk.1.2, hk.2⟩)) hg hat)
                                have n1_ := Aside0.mk (Kd.R_after (ok := (fun k_ => some k_ ≠ (.slice Ao44 x3_1.length co44 : Value).ownBlock)) (by (with_reducible repeat (first | apply Kd.R_alloc | apply Kd.R_drewN | apply Kd.R_drew)); exact Kd.R_mono HO158.out (fun _ hk => ⟨hk.1.2, hk.2⟩)) hg hat)
                                have n2_ := Aside0.mk (hb)
                                have n3_ := Aside0.mk ((show Kd.C k50 w52 Ao44 y148.length y148 from by rw [Ny148.out]; exact Kd.C_take (m := (x5_2 : Int).toNat) ((Kd.R_reads' (Kd.R_after (ok := (fun k_ => some k_ ≠ (v157 : Value).ownBlock)) (by (with_reducible repeat (first | apply Kd.R_alloc | apply Kd.R_drewN | apply Kd.R_drew)); exact Kd.R_mono HO_3.out (fun _ hk => ⟨hk.1.2, hk.2⟩)) hg hat)).2.2) KL46.out))
                                have n4_ := Aside0.mk ((show Kd.C k50 w52 A47 y162.length y162 from by rw [Ny162.out, KA47.out]; exact Kd.C_drop (m := (x5_2 : Int).toNat) (c := co44) ((Kd.R_reads' (Kd.R_after (ok := (fun k_ => some k_ ≠ (v157 : Value).ownBlock)) (by (with_reducible repeat (first | apply Kd.R_alloc | apply Kd.R_drewN | apply Kd.R_drew)); exact Kd.R_mono HO_3.out (fun _ hk => ⟨hk.1.2, hk.2⟩)) hg hat)).2.2) KL47.out ((Kd.R_reads' (Kd.R_after (ok := (fun k_ => some k_ ≠ (v157 : Value).ownBlock)) (by (with_reducible repeat (first | apply Kd.R_alloc | apply Kd.R_drewN | apply Kd.R_drew)); exact Kd.R_mono HO_3.out (fun _ hk => ⟨hk.1.2, hk.2⟩)) hg hat)).2.1)))
                                have n5_ := Aside0.mk (ho)
                                clear HO_3
                                clear HO158
                                clear HB
                                clear HR151
                                clear HR165
                                clear HO147
                                have HO_3 := n0_
                                have HO158 := n1_
                                have HB := n2_
                                have HR151 := n3_
                                have HR165 := n4_
                                have HO154 := n5_
                                clear n0_ n1_ n2_ n3_ n4_ n5_
                                clear ho hb hg hat
                                refine hK.out _ _ ⟨((HB.out.cell (World.block_lt_of_cell? w _ hw155_0)).trans hw155_0), ((HB.out.cell (World.block_lt_of_cell? w _ hw155_1)).trans hw155_1), ((HB.out.cell (World.block_lt_of_cell? w _ hw155_2)).trans hw155_2)⟩ (fun hHeld => ?_)
                                clear hK K
                                refine norm_ (a' := ?_) ?_ ?_
                                rotate_left
                                · show Act.put _ (some 33) _ = _
                                  simp only [Act.put, List.setIfInBounds_toArray, List.set_cons_zero, List.set_cons_succ, i64_w, i32_w]
                                  rfl
                                exact norm_ (by simp only [putAll, Act.put, List.setIfInBounds_toArray, List.set_cons_zero, List.set_cons_succ]) (hCont (v146, v153, v157) _ ⟨hHeld, (by (with_reducible repeat (first | apply Kd.R_alloc | apply Kd.R_drewN | apply Kd.R_drew)); exact Kd.R_mono HO154.out (fun _ hk => ⟨hk.2, hk.1⟩)), (by (with_reducible repeat (first | apply Kd.R_alloc | apply Kd.R_drewN | apply Kd.R_drew)); exact Kd.R_mono HO158.out (fun _ hk => ⟨hk.2, hk.1⟩)), (by (with_reducible repeat (first | apply Kd.R_alloc | apply Kd.R_drewN | apply Kd.R_drew)); exact Kd.R_mono HO_3.out (fun _ hk => ⟨hk.2, hk.1⟩)), (by repeat (first | (with_reducible first | exact HB.out | apply below_alloc | apply pw_below_drewN | apply below_drew1) | exact HB.out))⟩)
                            rintro ⟨v146, v153, v157⟩ w53 ⟨hS_, h0_, h1_, h2_, h3_⟩
                            have n0_ : Aside0 (Kd.R k50 50 w53 w.heap.size (fun k_ => some k_ ≠ (v157 : Value).ownBlock ∧ some k_ ≠ (.slice Ao44 x3_1.length co44 : Value).ownBlock) v153 y152) := ⟨h0_⟩
                            have n1_ : Aside0 (Kd.R k50 50 w53 w.heap.size (fun k_ => some k_ ≠ (v153 : Value).ownBlock ∧ some k_ ≠ (.slice Ao44 x3_1.length co44 : Value).ownBlock) v157 y156) := ⟨h1_⟩
                            have n2_ : Aside0 (Kd.R k50 50 w53 w.heap.size (fun k_ => some k_ ≠ (v153 : Value).ownBlock ∧ some k_ ≠ (v157 : Value).ownBlock) (.slice Ao44 x3_1.length co44) x3_1) := ⟨h2_⟩
                            have n3_ : Aside0 (Below w.heap.size w w53) := ⟨h3_⟩
                            clear HO_3
                            clear HB
                            clear h0_ h1_ h2_ h3_
                            have HO154 := n0_
                            have HO158 := n1_
                            have HO_3 := n2_
                            have HB := n3_
                            clear n0_ n1_ n2_ n3_
                            have hHeld : w53.cell? (ad155.add ((x8_1).toNat * 3)) = some (.int .i64 ((rd_T50 l0 x8_1).f0)) ∧ w53.cell? ⟨(ad155.add ((x8_1).toNat * 3)).block, (ad155.add ((x8_1).toNat * 3)).off + 1, none⟩ = some (.string ((rd_T50 l0 x8_1).f1)) ∧ w53.cell? ⟨(ad155.add ((x8_1).toNat * 3)).block, (ad155.add ((x8_1).toNat * 3)).off + 2, none⟩ = some (.string ((rd_T50 l0 x8_1).f2)) := hS_
                            have HR151 := Aside0.mk (show Kd.C k50 w53 Ao44 y148.length y148 from by rw [Ny148.out]; exact Kd.C_take (m := (x5_2 : Int).toNat) ((Kd.R_reads' (HO_3.out)).2.2) KL46.out)
                            have HR165 := Aside0.mk (show Kd.C k50 w53 A47 y162.length y162 from by rw [Ny162.out, KA47.out]; exact Kd.C_drop (m := (x5_2 : Int).toNat) (c := co44) ((Kd.R_reads' (HO_3.out)).2.2) KL47.out ((Kd.R_reads' (HO_3.out)).2.1))
                            obtain ⟨Ao55, co55, eo55⟩ := Kd.R_slice HO158.out
                            (first | subst eo55 | (injection eo55 with f1_ f2_ f3_; have f4_ := f1_.symm; have f5_ := f3_.symm; clear f1_ f2_ f3_; subst f4_; subst f5_))
                            refine norm_ (a' := ?_) ?_ ?_
                            rotate_left
                            · simp only [putAll, Act.put, List.setIfInBounds_toArray, List.set_cons_zero, List.set_cons_succ]
                              rfl
                            refine one_ (i := 10) (N := some 39) #[true, true, true, true, true, true, true, true, true, true, true, true, true, true, false, false] rfl rfl (one_of HT_.out (by kernel_rfl)) (by decide) (fun K hK => ?_)
                            refine Kd.R_append_rows_step k50 (w0 := w) w.heap.size (by rfl) (.tmp 33) (.tmp 38) 36 50 (.agg #[(.int .i64 0), (.string ⟨#[]⟩), (.string ⟨#[]⟩)]) 40 rfl Try.underlying36 info50 rfl (by decide) (by omega) v153 y152 y156 _ _ _ (fun k_ => some k_ ≠ (.slice Ao44 x3_1.length co44 : Value).ownBlock ∧ some k_ ≠ (.slice Ao55 y156.length co55 : Value).ownBlock) (fun _ => False) rfl rfl ?aO ?aR (fun _ _ h => h) (fun _ h => h.elim) ?aF ?aB ?aS ?aL ?_
                            (case aR => repeat (first | exact (Kd.R_reads' HO158.out).2.2 | (with_reducible refine Kd.C_alloc ?_ _) | (with_reducible refine Kd.C_drewN ?_ _) | (with_reducible refine Kd.C_drew ?_)))
                            (case aB => exact (by repeat (first | (with_reducible first | exact HB.out | apply below_alloc | apply pw_below_drewN | apply below_drew1) | exact HB.out)))
                            (case aF => exact (fun k_ hk => ⟨Kd.fresh' (Kd.R_lt (by (with_reducible repeat (first | apply Kd.R_alloc | apply Kd.R_drewN | apply Kd.R_drew)); exact HO_3.out)) k_ hk, Kd.fresh' (Kd.R_lt (by (with_reducible repeat (first | apply Kd.R_alloc | apply Kd.R_drewN | apply Kd.R_drew)); exact HO158.out)) k_ hk⟩))
                            (case aO => exact (by (with_reducible repeat (first | apply Kd.R_alloc | apply Kd.R_drewN | apply Kd.R_drew)); exact Kd.R_mono HO154.out (fun _ hk => ⟨hk.2, hk.1⟩)))
                            (case aS => exact (below_size (by repeat (first | (with_reducible first | exact HB.out | apply below_alloc | apply pw_below_drewN | apply below_drew1) | exact HB.out))))
                            (case aL => have := LMc39.out; omega)
                            intro v160 w54 ho hb hg hat
                            rw [← Ny159.out] at ho
                            have n0_ := Aside0.mk (Kd.R_after (ok := (fun k_ => some k_ ≠ (.slice Ao55 y156.length co55 : Value).ownBlock)) (by (with_reducible repeat (first | apply Kd.R_alloc | apply Kd.R_drewN | apply Kd.R_drew)); exact Kd.R_mono HO_3.out (fun _ hk => ⟨hk.2, hk.1⟩)) hg hat)
                            have n1_ := Aside0.mk (Kd.R_after (ok := (fun k_ => some k_ ≠ (.slice Ao44 x3_1.length co44 : Value).ownBlock)) (by (with_reducible repeat (first | apply Kd.R_alloc | apply Kd.R_drewN | apply Kd.R_drew)); exact Kd.R_mono HO158.out (fun _ hk => ⟨hk.2, hk.1⟩)) hg hat)
                            have n2_ := Aside0.mk (hb)
                            have n3_ := Aside0.mk ((show Kd.C k50 w54 Ao44 y148.length y148 from by rw [Ny148.out]; exact Kd.C_take (m := (x5_2 : Int).toNat) ((Kd.R_reads' (Kd.R_after (ok := (fun k_ => some k_ ≠ (.slice Ao55 y156.length co55 : Value).ownBlock)) (by (with_reducible repeat (first | apply Kd.R_alloc | apply Kd.R_drewN | apply Kd.R_drew)); exact Kd.R_mono HO_3.out (fun _ hk => ⟨hk.2, hk.1⟩)) hg hat)).2.2) KL46.out))
                            have n4_ := Aside0.mk ((show Kd.C k50 w54 A47 y162.length y162 from by rw [Ny162.out, KA47.out]; exact Kd.C_drop (m := (x5_2 : Int).toNat) (c := co44) ((Kd.R_reads' (Kd.R_after (ok := (fun k_ => some k_ ≠ (.slice Ao55 y156.length co55 : Value).ownBlock)) (by (with_reducible repeat (first | apply Kd.R_alloc | apply Kd.R_drewN | apply Kd.R_drew)); exact Kd.R_mono HO_3.out (fun _ hk => ⟨hk.2, hk.1⟩)) hg hat)).2.2) KL47.out ((Kd.R_reads' (Kd.R_after (ok := (fun k_ => some k_ ≠ (.slice Ao55 y156.length co55 : Value).ownBlock)) (by (with_reducible repeat (first | apply Kd.R_alloc | apply Kd.R_drewN | apply Kd.R_drew)); exact Kd.R_mono HO_3.out (fun _ hk => ⟨hk.2, hk.1⟩)) hg hat)).2.1)))
                            have n5_ := Aside0.mk (ho)
                            clear HO_3
                            clear HO158
                            clear HB
                            clear HR151
                            clear HR165
                            clear HO154
                            have HO_3 := n0_
                            have HO158 := n1_
                            have HB := n2_
                            have HR151 := n3_
                            have HR165 := n4_
                            have HO161 := n5_
                            clear n0_ n1_ n2_ n3_ n4_ n5_
                            clear ho hb hg hat
                            refine hK.out _ _ ⟨((HB.out.cell (World.block_lt_of_cell? w _ hw155_0)).trans hw155_0), ((HB.out.cell (World.block_lt_of_cell? w _ hw155_1)).trans hw155_1), ((HB.out.cell (World.block_lt_of_cell? w _ hw155_2)).trans hw155_2)⟩ (fun hHeld => ?_)
                            clear hK K
                            refine norm_ (a' := ?_) ?_ ?_
                            rotate_left
                            · show Act.put _ (some 39) _ = _
                              simp only [Act.put, List.setIfInBounds_toArray, List.set_cons_zero, List.set_cons_succ, i64_w, i32_w]
                              rfl
                            refine one_ (i := 14) (N := some 43) #[true, true, true, true, true, true, true, true, true, true, true, true, true, true, true, false] rfl rfl (one_of HT_.out (by kernel_rfl)) (by decide) (fun K hK => ?_)
                            refine Kd.R_append_rows_step k50 (w0 := w) w.heap.size (by rfl) (.tmp 39) (.tmp 42) 36 50 (.agg #[(.int .i64 0), (.string ⟨#[]⟩), (.string ⟨#[]⟩)]) 40 rfl Try.underlying36 info50 rfl (by decide) (by omega) v160 y159 y162 _ _ _ (fun k_ => some k_ ≠ (.slice Ao44 x3_1.length co44 : Value).ownBlock ∧ some k_ ≠ (.slice Ao55 y156.length co55 : Value).ownBlock) (fun _ => False) rfl rfl ?aO ?aR (fun _ _ h => h) (fun _ h => h.elim) ?aF ?aB ?aS ?aL ?_
                            (case aR => repeat (first | exact (by repeat (first | (with_reducible exact HR165.out) | (with_reducible refine Kd.C_alloc ?_ _) | (with_reducible refine Kd.C_drewN ?_ _) | (with_reducible refine Kd.C_drew ?_) | exact HR165.out)) | (with_reducible refine Kd.C_alloc ?_ _) | (with_reducible refine Kd.C_drewN ?_ _) | (with_reducible refine Kd.C_drew ?_)))
                            (case aB => exact (by repeat (first | (with_reducible first | exact HB.out | apply below_alloc | apply pw_below_drewN | apply below_drew1) | exact HB.out)))
                            (case aF => exact (fun k_ hk => ⟨Kd.fresh' (Kd.R_lt (by (with_reducible repeat (first | apply Kd.R_alloc | apply Kd.R_drewN | apply Kd.R_drew)); exact HO_3.out)) k_ hk, Kd.fresh' (Kd.R_lt (by (with_reducible repeat (first | apply Kd.R_alloc | apply Kd.R_drewN | apply Kd.R_drew)); exact HO158.out)) k_ hk⟩))
                            (case aO => exact (by (with_reducible repeat (first | apply Kd.R_alloc | apply Kd.R_drewN | apply Kd.R_drew)); exact HO161.out))
                            (case aS => exact (below_size (by repeat (first | (with_reducible first | exact HB.out | apply below_alloc | apply pw_below_drewN | apply below_drew1) | exact HB.out))))
                            (case aL => have := LMc42.out; omega)
                            intro v167 w56 ho hb hg hat
                            rw [← Ny166.out] at ho
                            have n0_ := Aside0.mk (Kd.R_after (ok := (fun k_ => some k_ ≠ (.slice Ao55 y156.length co55 : Value).ownBlock)) (by (with_reducible repeat (first | apply Kd.R_alloc | apply Kd.R_drewN | apply Kd.R_drew)); exact HO_3.out) hg hat)
                            have n1_ := Aside0.mk (Kd.R_after (ok := (fun k_ => some k_ ≠ (.slice Ao44 x3_1.length co44 : Value).ownBlock)) (by (with_reducible repeat (first | apply Kd.R_alloc | apply Kd.R_drewN | apply Kd.R_drew)); exact HO158.out) hg hat)
                            have n2_ := Aside0.mk (hb)
                            have n3_ := Aside0.mk ((show Kd.C k50 w56 Ao44 y148.length y148 from by rw [Ny148.out]; exact Kd.C_take (m := (x5_2 : Int).toNat) ((Kd.R_reads' (Kd.R_after (ok := (fun k_ => some k_ ≠ (.slice Ao55 y156.length co55 : Value).ownBlock)) (by (with_reducible repeat (first | apply Kd.R_alloc | apply Kd.R_drewN | apply Kd.R_drew)); exact HO_3.out) hg hat)).2.2) KL46.out))
                            have n4_ := Aside0.mk ((show Kd.C k50 w56 A47 y162.length y162 from by rw [Ny162.out, KA47.out]; exact Kd.C_drop (m := (x5_2 : Int).toNat) (c := co44) ((Kd.R_reads' (Kd.R_after (ok := (fun k_ => some k_ ≠ (.slice Ao55 y156.length co55 : Value).ownBlock)) (by (with_reducible repeat (first | apply Kd.R_alloc | apply Kd.R_drewN | apply Kd.R_drew)); exact HO_3.out) hg hat)).2.2) KL47.out ((Kd.R_reads' (Kd.R_after (ok := (fun k_ => some k_ ≠ (.slice Ao55 y156.length co55 : Value).ownBlock)) (by (with_reducible repeat (first | apply Kd.R_alloc | apply Kd.R_drewN | apply Kd.R_drew)); exact HO_3.out) hg hat)).2.1)))
                            have n5_ := Aside0.mk (ho)
                            clear HO_3
                            clear HO158
                            clear HB
                            clear HR151
                            clear HR165
                            clear HO161
                            have HO_3 := n0_
                            have HO158 := n1_
                            have HB := n2_
                            have HR151 := n3_
                            have HR165 := n4_
                            have HO168 := n5_
                            clear n0_ n1_ n2_ n3_ n4_ n5_
                            clear ho hb hg hat
                            refine hK.out _ _ ⟨((HB.out.cell (World.block_lt_of_cell? w _ hw155_0)).trans hw155_0), ((HB.out.cell (World.block_lt_of_cell? w _ hw155_1)).trans hw155_1), ((HB.out.cell (World.block_lt_of_cell? w _ hw155_2)).trans hw155_2)⟩ (fun hHeld => ?_)
                            clear hK K
                            refine norm_ (a' := ?_) ?_ ?_
                            rotate_left
                            · show Act.put _ (some 43) _ = _
                              simp only [Act.put, List.setIfInBounds_toArray, List.set_cons_zero, List.set_cons_succ, i64_w, i32_w]
                              rfl
                            refine pure_ (i := 15) (N := some 3) (v := ?_) (a' := ?_) #[true, true, true, true, true, true, true, true, true, true, true, true, true, true, true, true] rfl rfl (any_of HT_.out (by kernel_rfl)) (fun _ _ _ h => h) (Or.inl ⟨by rfl, ?_⟩) ?_ ?_
                            rotate_left
                            · intro w'
                              go_simp
                              with_reducible rfl
                            rotate_left
                            · simp only [Act.put, List.setIfInBounds_toArray, List.set_cons_zero, List.set_cons_succ, i64_w, i32_w]
                              rfl
                            refine done_ (done_of HT_.out (by kernel_rfl)) ?_
                            try go_wp2
                            go_roundg k2
                            case measure => have := HK1.out; have := HK2.out; omega
                            case rel => exact ⟨(y166), (wrap64 (x8_1 + 1)), (by first | rfl | (simp; done) | (simp [*]; done)), H', ⟨by have := HK1.out; have := HK2.out; omega⟩, ⟨by (with_reducible repeat (first | apply Kd.R_alloc | apply Kd.R_drewN | apply Kd.R_drew)); exact Kd.R_mono HO168.out (fun _ hk => trivial)⟩, ⟨by repeat (first | (with_reducible first | exact HB.out | apply below_alloc | apply pw_below_drewN | apply below_drew1) | exact HB.out)⟩⟩
                          · rw [if_neg c42] at H
                            exact absurd H (by simp)
                        · rw [if_neg c39] at H
                          exact absurd H (by simp)
                      · rw [if_neg c38] at H
                        exact absurd H (by simp)
                    · rw [if_neg c37] at H
                      exact absurd H (by simp)
                  · rw [if_neg c36] at H
                    exact absurd H (by simp)
                · rw [if_neg c35] at H
                  exact absurd H (by simp)
              · rw [if_neg c34] at H
                exact absurd H (by simp)
      · rw [if_neg c2] at H
        have c2b0 : decide (x8_1 < (l0.length : Int)) = false := decide_eq_false c2
        clear c2
        obtain rfl := Option.some.inj H
        go_wp2
        go_ret
        exact ⟨_, by first | rfl | (simp [errW_none, errW_some] <;> rfl) | (simp [*, errW_none, errW_some] <;> rfl), by (with_reducible repeat (first | apply Kd.R_alloc | apply Kd.R_drewN | apply Kd.R_drew)); exact HO_3.out, by repeat (first | (with_reducible first | exact HB.out | apply below_alloc | apply pw_below_drewN | apply below_drew1) | exact HB.out)⟩

end Go.Proofs.Ythjameohenmeiaa.Q
