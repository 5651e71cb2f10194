-- printed by this project's own program wip/tools/mkprint.py (the kit's print.py with hand-proved contracts put in)
import Derived.Test.YtbffhefeepmpcaaQx0
namespace Go.Proofs.Ytbffhefeepmpcaa.Q
open Go.RowKit Go.Proofs.YtbffhefeepmpcaaW.PrintWords Go.Proofs.YtbffhefeepmpcaaW.PrintLast Go.Proofs.YtbffhefeepmpcaaW.PrintMore
attribute [local go_sem] max2_int min2_int max_two min_two max_three min_three max_four min_four   -- for this text's walks alone
set_option linter.unusedVariables false
set_option linter.unusedSimpArgs false

/-! ### spec_Set: function 29 -/
mutual
def spec_Set.l0 : Nat → List (S50) → List (S50) → Int → Int → Option ((List (S50)))
  | 0, _, _, _, _ => none
  | k + 1, x0, x3, x9, x10 => if x10 < x9 then (spec_Set.l1 k x0 x3 x10 true (wrap64 (x10 + 1)) x9 x10) else (some x3)
def spec_Set.l1 : Nat → List (S50) → List (S50) → Int → Bool → Int → Int → Int → Option ((List (S50)))
  | 0, _, _, _, _, _, _, _ => none
  | k + 1, x0, x3, x4, x5, x6, x9, x10 => if x6 < (x0.length : Int) then (if x5 = true then (if 0 ≤ x6 then (if 0 ≤ x4 then (if x4 < (x0.length : Int) then (spec_Set.l1 k x0 x3 x4 (((rd_T50 x0 x6).f0).toList != ((rd_T50 x0 x4).f0).toList) (wrap64 (x6 + 1)) x9 x10) else (none)) else (none)) else (none)) else (spec_Set.l1 k x0 x3 x4 false (wrap64 (x6 + 1)) x9 x10)) else (if x5 = true then (spec_Set.l2 k x0 x3 x4 0 x9 x10) else (spec_Set.l0 k x0 x3 x9 (wrap64 (x10 + 1))))
def spec_Set.l2 : Nat → List (S50) → List (S50) → Int → Int → Int → Int → Option ((List (S50)))
  | 0, _, _, _, _, _, _ => none
  | k + 1, x0, x3, x4, x7, x9, x10 => if x7 < (x3.length : Int) then (if 0 ≤ x7 then (if 0 ≤ x4 then (if x4 < (x0.length : Int) then (if (Op.bytesLess (((rd_T50 x3 x7).f0).toList) (((rd_T50 x0 x4).f0).toList)) = true then (spec_Set.l2 k x0 x3 x4 (wrap64 (x7 + 1)) x9 x10) else ((some (([] : List (S50)) : List (S50))).bind fun y173 => (if x7 ≤ (x3.length : Int) then ((some (x3.take (x7 : Int).toNat : List (S50))).bind fun y176 => (if y173.length + y176.length < 4398046511104 then ((some (y173 ++ y176 : List (S50))).bind fun y180 => ((some (([(⟨(rd_T50 x0 x4).f0, (rd_T50 x0 x4).f1⟩ : S50)] : List (S50)) : List (S50))).bind fun y184 => (if y180.length + y184.length < 4398046511104 then ((some (y180 ++ y184 : List (S50))).bind fun y187 => ((some (x3.drop (x7 : Int).toNat : List (S50))).bind fun y190 => (if y187.length + y190.length < 4398046511104 then (spec_Set.l0 k x0 (y187 ++ y190) x9 (wrap64 (x10 + 1))) else (none)))) else (none)))) else (none))) else (none)))) else (none)) else (none)) else (none)) else ((some (([] : List (S50)) : List (S50))).bind fun y197 => (if 0 ≤ x7 then (if x7 ≤ (x3.length : Int) then ((some (x3.take (x7 : Int).toNat : List (S50))).bind fun y200 => (if y197.length + y200.length < 4398046511104 then ((some (y197 ++ y200 : List (S50))).bind fun y204 => (if 0 ≤ x4 then (if x4 < (x0.length : Int) then ((some (([(⟨(rd_T50 x0 x4).f0, (rd_T50 x0 x4).f1⟩ : S50)] : List (S50)) : List (S50))).bind fun y208 => (if y204.length + y208.length < 4398046511104 then ((some (y204 ++ y208 : List (S50))).bind fun y211 => ((some (x3.drop (x7 : Int).toNat : List (S50))).bind fun y214 => (if y211.length + y214.length < 4398046511104 then (spec_Set.l0 k x0 (y211 ++ y214) x9 (wrap64 (x10 + 1))) else (none)))) else (none))) else (none)) else (none))) else (none))) else (none)) else (none)))
end
def spec_Set.f (k : Nat) (l0 : List (S50)) : Option ((List (S50))) := spec_Set.l0 k l0 ([] : List (S50)) (l0.length : Int) 0
theorem spec_Set.mono_l : ∀ k, (∀ y0 y1 y2 y3, LeO (spec_Set.l0 k y0 y1 y2 y3) (spec_Set.l0 (k + 1) y0 y1 y2 y3)) ∧ (∀ y0 y1 y2 y3 y4 y5 y6, LeO (spec_Set.l1 k y0 y1 y2 y3 y4 y5 y6) (spec_Set.l1 (k + 1) y0 y1 y2 y3 y4 y5 y6)) ∧ (∀ y0 y1 y2 y3 y4 y5, LeO (spec_Set.l2 k y0 y1 y2 y3 y4 y5) (spec_Set.l2 (k + 1) y0 y1 y2 y3 y4 y5))
  | 0 => ⟨fun _ _ _ _ r h => by simp [spec_Set.l0] at h, fun _ _ _ _ _ _ _ r h => by simp [spec_Set.l1] at h, fun _ _ _ _ _ _ r h => by simp [spec_Set.l2] at h⟩
  | k + 1 => by
    obtain ⟨ih0, ih1, ih2⟩ := spec_Set.mono_l k
    refine ⟨?_, ?_, ?_⟩
    · intro y0 y1 y2 y3
      unfold spec_Set.l0
      repeat' first
      | (with_reducible exact ih0 _ _ _ _)
      | (with_reducible exact ih1 _ _ _ _ _ _ _)
      | (with_reducible exact ih2 _ _ _ _ _ _)
      | (with_reducible exact LeO.refl _)
      | (with_reducible exact LeO.none _)
      | (with_reducible refine LeO.ite ?_ ?_)
      | (with_reducible refine LeO.bind ?_ (fun _ => ?_))
      | exact ih0 _ _ _ _
      | exact ih1 _ _ _ _ _ _ _
      | exact ih2 _ _ _ _ _ _
      | exact LeO.none _
      | refine LeO.ite ?_ ?_
      | refine LeO.bind ?_ (fun _ => ?_)
    · intro y0 y1 y2 y3 y4 y5 y6
      unfold spec_Set.l1
      repeat' first
      | (with_reducible exact ih0 _ _ _ _)
      | (with_reducible exact ih1 _ _ _ _ _ _ _)
      | (with_reducible exact ih2 _ _ _ _ _ _)
      | (with_reducible exact LeO.refl _)
      | (with_reducible exact LeO.none _)
      | (with_reducible refine LeO.ite ?_ ?_)
      | (with_reducible refine LeO.bind ?_ (fun _ => ?_))
      | exact ih0 _ _ _ _
      | exact ih1 _ _ _ _ _ _ _
      | exact ih2 _ _ _ _ _ _
      | exact LeO.none _
      | refine LeO.ite ?_ ?_
      | refine LeO.bind ?_ (fun _ => ?_)
    · intro y0 y1 y2 y3 y4 y5
      unfold spec_Set.l2
      repeat' first
      | (with_reducible exact ih0 _ _ _ _)
      | (with_reducible exact ih1 _ _ _ _ _ _ _)
      | (with_reducible exact ih2 _ _ _ _ _ _)
      | (with_reducible exact LeO.refl _)
      | (with_reducible exact LeO.none _)
      | (with_reducible refine LeO.ite ?_ ?_)
      | (with_reducible refine LeO.bind ?_ (fun _ => ?_))
      | exact ih0 _ _ _ _
      | exact ih1 _ _ _ _ _ _ _
      | exact ih2 _ _ _ _ _ _
      | exact LeO.none _
      | refine LeO.ite ?_ ?_
      | refine LeO.bind ?_ (fun _ => ?_)
theorem spec_Set.mono : ∀ a0 k, LeO (spec_Set.f k a0) (spec_Set.f (k + 1) a0) := by
  intro a0 k
  obtain ⟨ih0, ih1, ih2⟩ := spec_Set.mono_l k
  unfold spec_Set.f
  repeat' first
      | (with_reducible exact ih0 _ _ _ _)
      | (with_reducible exact ih1 _ _ _ _ _ _ _)
      | (with_reducible exact ih2 _ _ _ _ _ _)
      | (with_reducible exact LeO.refl _)
      | (with_reducible exact LeO.none _)
      | (with_reducible refine LeO.ite ?_ ?_)
      | (with_reducible refine LeO.bind ?_ (fun _ => ?_))
      | exact ih0 _ _ _ _
      | exact ih1 _ _ _ _ _ _ _
      | exact ih2 _ _ _ _ _ _
      | exact LeO.none _
      | refine LeO.ite ?_ ?_
      | refine LeO.bind ?_ (fun _ => ?_)
def spec_Set.T9 : Bool × List (List Nat × List Nat) := (true, [([], []), ([0], [0]), ([1], [1]), ([1], [1]), ([2, 3, 1], [1, 2, 3]), ([4, 1], [1, 4]), ([5, 1], [1, 5]), ([1], [1]), ([1], [1]), ([7, 8, 1], [1, 7, 8]), ([9, 1], [1, 9]), ([10, 1], [1, 10]), ([6, 11, 1], [1, 6, 11]), ([1, 12], [1, 12]), ([13, 1, 0, 1, 2, 3, 4, 5, 6, 7, 8, 9, 10, 11, 12, 13], [0, 13])])
def spec_Set.B9 : List Nat := [0, 1, 3, 3, 15, 31, 63, 3, 3, 387, 899, 1923, 4095, 8191, 16383]
theorem spec_Set.tab9 : rtab .any (opsOf Try.f29 9) = spec_Set.T9 := by kernel_rfl
theorem spec_Set.bits9 : waitsOk spec_Set.T9.2 spec_Set.B9 = true := by kernel_rfl
def spec_Set.T12 : Bool × List (List Nat × List Nat) := (true, [([], []), ([], []), ([1], [1]), ([0, 2], [0, 2]), ([3], [3]), ([4], [4]), ([4], [4]), ([5, 6, 4], [4, 5, 6]), ([7, 4], [4, 7]), ([8, 4], [4, 8]), ([4], [4]), ([4], [4]), ([10, 11, 4], [4, 10, 11]), ([12, 4], [4, 12]), ([13, 4], [4, 13]), ([9, 14, 4], [4, 9, 14]), ([4, 15], [4, 15])])
def spec_Set.B12 : List Nat := [0, 0, 2, 7, 15, 31, 31, 127, 255, 511, 31, 31, 3103, 7199, 15391, 32767, 65535]
theorem spec_Set.tab12 : rtab .any (opsOf Try.f29 12) = spec_Set.T12 := by kernel_rfl
theorem spec_Set.bits12 : waitsOk spec_Set.T12.2 spec_Set.B12 = true := by kernel_rfl
def spec_Set.T14 : Bool × List (List Nat × List Nat) := (true, [([], []), ([], []), ([], []), ([1, 2], [1, 2]), ([0, 3], [0, 3]), ([], []), ([], []), ([5, 6], [5, 6]), ([7], [7]), ([8], [8]), ([4, 9, 4], [4, 9]), ([], []), ([], []), ([11, 12], [11, 12]), ([10, 13, 10], [10, 13]), ([14, 14, 0, 1, 2, 3, 4, 5, 6, 7, 8, 9, 10, 11, 12, 13, 14], [1, 11, 14])])
def spec_Set.B14 : List Nat := [0, 0, 0, 6, 15, 0, 0, 96, 224, 480, 1023, 0, 0, 6144, 16383, 32767]
theorem spec_Set.tab14 : rtab .any (opsOf Try.f29 14) = spec_Set.T14 := by kernel_rfl
theorem spec_Set.bits14 : waitsOk spec_Set.T14.2 spec_Set.B14 = true := by kernel_rfl
set_option maxHeartbeats 8000000 in
set_option maxRecDepth 100000 in
theorem spec_Set.calls (k : Nat) (A0 : Option Addr) (c0 : Nat) (l0 : List (S50)) (r : List (S50)) (w : World) (hr0 : Kd.C k50 w A0 l0.length l0) (hc0 : l0.length ≤ c0) (h : spec_Set.f k l0 = some r) :
    Calls Try.prog 29 #[.slice A0 l0.length c0] w fun e w' => ∃ v0_ : Value, e = .returned (v0_) ∧ Kd.R k50 50 w' w.heap.size (fun _ => True) v0_ r ∧ Below w.heap.size w w' := by
  have hu50 := Try.underlying50
  have HR0 := Aside0.mk hr0
  have HC0 := Aside0.mk hc0
  clear hr0 hc0
  have HB := Aside0.mk (Below.refl w.heap.size w)
  have H : (spec_Set.l0 k l0 ([] : List (S50)) (l0.length : Int) 0) = some r := h
  clear h
  have H' := Aside0.mk H
  clear H
  go_enter Try.func29, Try.ntmps29
  go_wp2
  go_loopg [3, 10] k (fun kq v3 v10 w' => ∃ (x3_1 : List (S50)) (x10_1 : Int), v10 = .int .i64 x10_1 ∧ Aside0 (spec_Set.l0 kq l0 x3_1 (l0.length : Int) x10_1 = some r) ∧ Aside0 (kq ≤ k) ∧ Aside0 (Kd.R k50 50 w' w.heap.size (fun _ => True) v3 x3_1) ∧ Aside0 (Below w.heap.size w w'))
  case atStart => exact ⟨(([] : List (S50))), (0), (by first | rfl | (simp; done) | (simp [*]; done)), H', ⟨Nat.le_refl _⟩, ⟨by first | exact Kd.R_nil _ _ _ _ _ | exact Kd.N_nil _ _ _ _ _ | exact Kd.V_nil _ _ _ _ _ | exact Kd.Q_nil _ _ _ _ _ | exact Kd.S_nil _ _ _ _ _⟩, ⟨by repeat (first | (with_reducible first | exact HB.out | apply below_alloc | apply pw_below_drewN | apply below_drew1) | exact HB.out)⟩⟩
  case round =>
    clear H'
    obtain ⟨x3_1, x10_1, rfl, HA, HK1, HO_3, HB⟩ := hrel
    cases gk with
    | zero => exact absurd HA.out (by simp [spec_Set.l0])
    | succ k1 =>
      have H := HA.out
      clear HA
      simp only [spec_Set.l0] at H
      by_cases c2 : x10_1 < (l0.length : Int)
      · rw [if_pos c2] at H
        have c2b0 : decide (x10_1 < (l0.length : Int)) = true := decide_eq_true c2
        clear c2
        have H' := Aside0.mk H
        clear H
        go_wp2
        go_loopg [5, 6] k1 (fun kq v5 v6 w' => ∃ (x5_2 : Bool) (x6_2 : Int), v5 = .bool x5_2 ∧ v6 = .int .i64 x6_2 ∧ Aside0 (spec_Set.l1 kq l0 x3_1 x10_1 x5_2 x6_2 (l0.length : Int) x10_1 = some r) ∧ Aside0 (kq ≤ k1) ∧ Aside0 (Kd.R k50 50 w' w.heap.size (fun _ => True) u3 x3_1) ∧ Aside0 (Below w.heap.size w w'))
        case atStart => exact ⟨(true), (wrap64 (x10_1 + 1)), (by first | rfl | (simp; done) | (simp [*]; done)), (by first | rfl | (simp; done) | (simp [*]; done)), H', ⟨Nat.le_refl _⟩, ⟨by (with_reducible repeat (first | apply Kd.R_alloc | apply Kd.R_drewN | apply Kd.R_drew)); exact HO_3.out⟩, ⟨by repeat (first | (with_reducible first | exact HB.out | apply below_alloc | apply pw_below_drewN | apply below_drew1) | exact HB.out)⟩⟩
        case round =>
          clear H'
          try clear c2
          try clear c2b0
          try clear p2
          obtain ⟨x5_2, x6_2, rfl, rfl, HA, HK2, HO_3, HB⟩ := hrel
          cases gk with
          | zero => exact absurd HA.out (by simp [spec_Set.l1])
          | succ k2 =>
            have H := HA.out
            clear HA
            simp only [spec_Set.l1] at H
            by_cases c3 : x6_2 < (l0.length : Int)
            · rw [if_pos c3] at H
              have c3b0 : decide (x6_2 < (l0.length : Int)) = true := decide_eq_true c3
              clear c3
              by_cases c4 : x5_2 = true
              · subst c4
                have H1 : (if 0 ≤ x6_2 then (if 0 ≤ x10_1 then (if x10_1 < (l0.length : Int) then (spec_Set.l1 k2 l0 x3_1 x10_1 (((rd_T50 l0 x6_2).f0).toList != ((rd_T50 l0 x10_1).f0).toList) (wrap64 (x6_2 + 1)) (l0.length : Int) x10_1) else (none)) else (none)) else (none)) = some r := by rw [if_pos rfl] at H; exact H
                clear H
                have H := H1
                clear H1
                by_cases c5 : 0 ≤ x6_2
                · rw [if_pos c5] at H
                  have c5b0 : decide (0 ≤ x6_2) = true := decide_eq_true c5
                  clear c5
                  by_cases c6 : 0 ≤ x10_1
                  · rw [if_pos c6] at H
                    have c6b0 : decide (0 ≤ x10_1) = true := decide_eq_true c6
                    clear c6
                    by_cases c7 : x10_1 < (l0.length : Int)
                    · rw [if_pos c7] at H
                      have c7b0 : decide (x10_1 < (l0.length : Int)) = true := decide_eq_true c7
                      clear c7
                      have H' := Aside0.mk H
                      clear H
                      try go_wp2
                      have n0_ := Aside0.mk (Kd.R_drew HO_3.out)
                      have n1_ := Aside0.mk (below_drew1 HB.out)
                      clear HO_3
                      clear HB
                      have HO_3 := n0_
                      have HB := n1_
                      clear n0_ n1_
                      have p169 : 0 ≤ (x6_2 : Int) := of_decide_eq_true (by first | (with_reducible assumption) | assumption)
                      have q169 : x6_2 < (l0.length : Int) := of_decide_eq_true (by first | (with_reducible assumption) | assumption)
                      obtain ⟨ad169, e169, hx169_0, hx169_1⟩ := at_T50 HR0.out x6_2 p169 q169
                      have hw169_1 := hx169_1
                      have hw169_0 := hx169_0
                      cases e169
                      replace hx169_0 := (HB.out.cell (World.block_lt_of_cell? w _ hx169_0)).trans hx169_0
                      replace hx169_1 := (HB.out.cell (World.block_lt_of_cell? w _ hx169_1)).trans hx169_1
                      replace p169 := eq_true p169
                      replace q169 := eq_true q169
                      have p170 : 0 ≤ (x10_1 : Int) := of_decide_eq_true (by first | (with_reducible assumption) | assumption)
                      have q170 : x10_1 < (l0.length : Int) := of_decide_eq_true (by first | (with_reducible assumption) | assumption)
                      obtain ⟨ad170, e170, hx170_0, hx170_1⟩ := at_T50 HR0.out x10_1 p170 q170
                      have hw170_1 := hx170_1
                      have hw170_0 := hx170_0
                      obtain rfl : ad169 = ad170 := (by injection e170)
                      replace hx170_0 := (HB.out.cell (World.block_lt_of_cell? w _ hx170_0)).trans hx170_0
                      replace hx170_1 := (HB.out.cell (World.block_lt_of_cell? w _ hx170_1)).trans hx170_1
                      replace p170 := eq_true p170
                      replace q170 := eq_true q170
                      refine start_ (n := 15) (S := fun w' => w'.cell? (ad169.add ((x6_2).toNat * 2)) = some (.string ((rd_T50 l0 x6_2).f0)) ∧ w'.cell? ⟨(ad169.add ((x6_2).toNat * 2)).block, (ad169.add ((x6_2).toNat * 2)).off + 1, none⟩ = some (.string ((rd_T50 l0 x6_2).f1)) ∧ w'.cell? (ad169.add ((x10_1).toNat * 2)) = some (.string ((rd_T50 l0 x10_1).f0)) ∧ w'.cell? ⟨(ad169.add ((x10_1).toNat * 2)).block, (ad169.add ((x10_1).toNat * 2)).off + 1, none⟩ = some (.string ((rd_T50 l0 x10_1).f1))) (ds := []) #[false, false, false, false, false, false, false, false, false, false, false, false, false, false, false] (by kernel_rfl) rfl rfl ⟨((HB.out.cell (World.block_lt_of_cell? w _ hw169_0)).trans hw169_0), ((HB.out.cell (World.block_lt_of_cell? w _ hw169_1)).trans hw169_1), ((HB.out.cell (World.block_lt_of_cell? w _ hw170_0)).trans hw170_0), ((HB.out.cell (World.block_lt_of_cell? w _ hw170_1)).trans hw170_1)⟩ (fun hHeld => ?_); refine with_tabW spec_Set.tab9 spec_Set.bits9 (fun HT_ HW_ => ?_)
                      generalize wr.drew = w8 at HO_3 HB hx169_0 hx169_1 hx170_0 hx170_1 hHeld ⊢
                      refine pure_ (i := 0) (N := some 21) (v := ?_) (a' := ?_) #[true, false, false, false, false, false, false, false, false, false, false, false, false, false, false] rfl rfl (any_of HT_.out (by kernel_rfl)) (fun _ _ _ h => h) (Or.inl ⟨by rfl, ?_⟩) ?_ ?_
                      rotate_left
                      · intro w'
                        go_simp
                        with_reducible rfl
                      rotate_left
                      · simp only [Act.put, List.setIfInBounds_toArray, List.set_cons_zero, List.set_cons_succ, i64_w, i32_w]
                        rfl
                      refine pure_ (i := 1) (N := some 22) (v := ?_) (a' := ?_) #[true, true, false, false, false, false, false, false, false, false, false, false, false, false, false] rfl rfl (any_of HT_.out (by kernel_rfl)) (fun _ _ _ h => h) (Or.inl ⟨by rfl, ?_⟩) ?_ ?_
                      rotate_left
                      · intro w'
                        go_simp
                        with_reducible rfl
                      rotate_left
                      · simp only [Act.put, List.setIfInBounds_toArray, List.set_cons_zero, List.set_cons_succ, i64_w, i32_w]
                        rfl
                      refine pure_ (i := 2) (N := some 23) (v := ?_) (a' := ?_) #[true, true, true, false, false, false, false, false, false, false, false, false, false, false, false] rfl rfl (any_of HT_.out (by kernel_rfl)) (fun _ _ _ h => h) (Or.inl ⟨by rfl, ?_⟩) ?_ ?_
                      rotate_left
                      · intro w'
                        go_simp
                        with_reducible rfl
                      rotate_left
                      · simp only [Act.put, List.setIfInBounds_toArray, List.set_cons_zero, List.set_cons_succ, i64_w, i32_w]
                        rfl
                      refine pure_ (i := 3) (N := some 24) (v := ?_) (a' := ?_) #[true, true, true, true, false, false, false, false, false, false, false, false, false, false, false] rfl rfl (any_of HT_.out (by kernel_rfl)) (fun _ _ _ h => h) (Or.inl ⟨by rfl, ?_⟩) ?_ ?_
                      rotate_left
                      · intro w'
                        go_simp
                        with_reducible rfl
                      rotate_left
                      · simp only [Act.put, List.setIfInBounds_toArray, List.set_cons_zero, List.set_cons_succ, i64_w, i32_w]
                        rfl
                      refine pure_ (i := 4) (N := some 25) (v := ?_) (a' := ?_) #[true, true, true, true, true, false, false, false, false, false, false, false, false, false, false] rfl rfl (any_of HT_.out (by kernel_rfl)) (fun _ _ _ h => h) (Or.inl ⟨by rfl, ?_⟩) ?_ ?_
                      rotate_left
                      · intro w'
                        go_simp
                        with_reducible rfl
                      rotate_left
                      · simp only [Act.put, List.setIfInBounds_toArray, List.set_cons_zero, List.set_cons_succ, i64_w, i32_w]
                        rfl
                      refine pure_ (i := 5) (N := some 26) (v := ?_) (a' := ?_) #[true, true, true, true, true, true, false, false, false, false, false, false, false, false, false] rfl rfl (any_of HT_.out (by kernel_rfl)) (fun _ _ _ h => h) (Or.inl ⟨by rfl, ?_⟩) ?_ ?_
                      rotate_left
                      · intro w'
                        go_simp
                        with_reducible rfl
                      rotate_left
                      · simp only [Act.put, List.setIfInBounds_toArray, List.set_cons_zero, List.set_cons_succ, i64_w, i32_w]
                        rfl
                      refine pure_ (i := 7) (N := some 28) (v := ?_) (a' := ?_) #[true, true, true, true, true, true, false, true, false, false, false, false, false, false, false] rfl rfl (any_of HT_.out (by kernel_rfl)) (fun _ _ _ h => h) (Or.inl ⟨by rfl, ?_⟩) ?_ ?_
                      rotate_left
                      · intro w'
                        go_simp
                        with_reducible rfl
                      rotate_left
                      · simp only [Act.put, List.setIfInBounds_toArray, List.set_cons_zero, List.set_cons_succ, i64_w, i32_w]
                        rfl
                      refine pure_ (i := 8) (N := some 29) (v := ?_) (a' := ?_) #[true, true, true, true, true, true, false, true, true, false, false, false, false, false, false] rfl rfl (any_of HT_.out (by kernel_rfl)) (fun _ _ _ h => h) (Or.inl ⟨by rfl, ?_⟩) ?_ ?_
                      rotate_left
                      · intro w'
                        go_simp
                        with_reducible rfl
                      rotate_left
                      · simp only [Act.put, List.setIfInBounds_toArray, List.set_cons_zero, List.set_cons_succ, i64_w, i32_w]
                        rfl
                      refine pure_ (i := 9) (N := some 30) (v := ?_) (a' := ?_) #[true, true, true, true, true, true, false, true, true, true, false, false, false, false, false] rfl rfl (any_of HT_.out (by kernel_rfl)) (fun _ _ _ h => h) (Or.inl ⟨by rfl, ?_⟩) ?_ ?_
                      rotate_left
                      · intro w'
                        go_simp
                        with_reducible rfl
                      rotate_left
                      · simp only [Act.put, List.setIfInBounds_toArray, List.set_cons_zero, List.set_cons_succ, i64_w, i32_w]
                        rfl
                      refine pure_ (i := 10) (N := some 31) (v := ?_) (a' := ?_) #[true, true, true, true, true, true, false, true, true, true, true, false, false, false, false] rfl rfl (any_of HT_.out (by kernel_rfl)) (fun _ _ _ h => h) (Or.inl ⟨by rfl, ?_⟩) ?_ ?_
                      rotate_left
                      · intro w'
                        go_simp
                        with_reducible rfl
                      rotate_left
                      · simp only [Act.put, List.setIfInBounds_toArray, List.set_cons_zero, List.set_cons_succ, i64_w, i32_w]
                        rfl
                      refine take_ (i := 6) (N := some 27) (v := ?_) (a' := ?_) #[true, true, true, true, true, true, true, true, true, true, true, false, false, false, false] rfl rfl (take_ofW HT_.out HW_.out (by kernel_rfl)) (fun _ _ _ h => h) (Or.inl ⟨by rfl, ?_⟩) hHeld ?_ ?_
                      rotate_left
                      · rintro w' ⟨s0, s1, s2, s3⟩
                        go_simp
                        with_reducible rfl
                      rotate_left
                      · simp only [Act.put, List.setIfInBounds_toArray, List.set_cons_zero, List.set_cons_succ, i64_w, i32_w]
                        rfl
                      refine take_ (i := 11) (N := some 32) (v := ?_) (a' := ?_) #[true, true, true, true, true, true, true, true, true, true, true, true, false, false, false] rfl rfl (take_ofW HT_.out HW_.out (by kernel_rfl)) (fun _ _ _ h => h) (Or.inl ⟨by rfl, ?_⟩) hHeld ?_ ?_
                      rotate_left
                      · rintro w' ⟨s0, s1, s2, s3⟩
                        go_simp
                        with_reducible rfl
                      rotate_left
                      · simp only [Act.put, List.setIfInBounds_toArray, List.set_cons_zero, List.set_cons_succ, i64_w, i32_w]
                        rfl
                      refine pure_ (i := 12) (N := some 33) (v := ?_) (a' := ?_) #[true, true, true, true, true, true, true, true, true, true, true, true, true, false, false] rfl rfl (any_of HT_.out (by kernel_rfl)) (fun _ _ _ h => h) (Or.inl ⟨by rfl, ?_⟩) ?_ ?_
                      rotate_left
                      · intro w'
                        go_simp
                        with_reducible rfl
                      rotate_left
                      · simp only [Act.put, List.setIfInBounds_toArray, List.set_cons_zero, List.set_cons_succ, i64_w, i32_w]
                        rfl
                      refine pure_ (i := 13) (N := some 34) (v := ?_) (a' := ?_) #[true, true, true, true, true, true, true, true, true, true, true, true, true, true, false] rfl rfl (any_of HT_.out (by kernel_rfl)) (fun _ _ _ h => h) (Or.inl ⟨by rfl, ?_⟩) ?_ ?_
                      rotate_left
                      · intro w'
                        go_simp
                        with_reducible rfl
                      rotate_left
                      · simp only [Act.put, List.setIfInBounds_toArray, List.set_cons_zero, List.set_cons_succ, i64_w, i32_w]
                        rfl
                      refine pure_ (i := 14) (N := some 5) (v := ?_) (a' := ?_) #[true, true, true, true, true, true, true, true, true, true, true, true, true, true, true] rfl rfl (any_of HT_.out (by kernel_rfl)) (fun _ _ _ h => h) (Or.inl ⟨by rfl, ?_⟩) ?_ ?_
                      rotate_left
                      · intro w'
                        go_simp
                        with_reducible rfl
                      rotate_left
                      · simp only [Act.put, List.setIfInBounds_toArray, List.set_cons_zero, List.set_cons_succ, i64_w, i32_w]
                        rfl
                      refine done_ (done_of HT_.out (by kernel_rfl)) ?_
                      try go_wp2
                      go_roundg k2
                      case measure => have := HK1.out; have := HK2.out; omega
                      case rel => exact ⟨((((rd_T50 l0 x6_2).f0).toList != ((rd_T50 l0 x10_1).f0).toList)), (wrap64 (x6_2 + 1)), (by first | rfl | (simp; done) | (simp [*]; done)), (by first | rfl | (simp; done) | (simp [*]; done)), H', ⟨by have := HK1.out; have := HK2.out; omega⟩, ⟨by (with_reducible repeat (first | apply Kd.R_alloc | apply Kd.R_drewN | apply Kd.R_drew)); exact HO_3.out⟩, ⟨by repeat (first | (with_reducible first | exact HB.out | apply below_alloc | apply pw_below_drewN | apply below_drew1) | exact HB.out)⟩⟩
                    · rw [if_neg c7] at H
                      exact absurd H (by simp)
                  · rw [if_neg c6] at H
                    exact absurd H (by simp)
                · rw [if_neg c5] at H
                  exact absurd H (by simp)
              · replace c4 := Bool.eq_false_iff.mpr c4
                subst c4
                have H1 : (spec_Set.l1 k2 l0 x3_1 x10_1 false (wrap64 (x6_2 + 1)) (l0.length : Int) x10_1) = some r := by rw [if_neg (show ¬ (false = true) by decide)] at H; exact H
                clear H
                have H := H1
                clear H1
                have H' := Aside0.mk H
                clear H
                try go_wp2
                have n0_ := Aside0.mk (Kd.R_drew HO_3.out)
                have n1_ := Aside0.mk (below_drew1 HB.out)
                clear HO_3
                clear HB
                have HO_3 := n0_
                have HB := n1_
                clear n0_ n1_
                refine start_ (n := 15) (S := fun w' => True) (ds := []) #[false, false, false, false, false, false, false, false, false, false, false, false, false, false, false] (by kernel_rfl) rfl rfl trivial (fun hHeld => ?_); refine with_tabW spec_Set.tab9 spec_Set.bits9 (fun HT_ HW_ => ?_)
                generalize wr.drew = w9 at HO_3 HB hHeld ⊢
                refine pure_ (i := 0) (N := some 21) (v := ?_) (a' := ?_) #[true, false, false, false, false, false, false, false, false, false, false, false, false, false, false] rfl rfl (any_of HT_.out (by kernel_rfl)) (fun _ _ _ h => h) (Or.inl ⟨by rfl, ?_⟩) ?_ ?_
                rotate_left
                · intro w'
                  go_simp
                  with_reducible rfl
                rotate_left
                · simp only [Act.put, List.setIfInBounds_toArray, List.set_cons_zero, List.set_cons_succ, i64_w, i32_w]
                  rfl
                refine pure_ (i := 1) (N := some 22) (v := ?_) (a' := ?_) #[true, true, false, false, false, false, false, false, false, false, false, false, false, false, false] rfl rfl (any_of HT_.out (by kernel_rfl)) (fun _ _ _ h => h) (Or.inl ⟨by rfl, ?_⟩) ?_ ?_
                rotate_left
                · intro w'
                  go_simp
                  with_reducible rfl
                rotate_left
                · simp only [Act.put, List.setIfInBounds_toArray, List.set_cons_zero, List.set_cons_succ, i64_w, i32_w]
                  rfl
                refine pure_ (i := 2) (N := some 23) (v := undef) (a' := ?_) #[true, true, true, false, false, false, false, false, false, false, false, false, false, false, false] rfl rfl (any_of HT_.out (by kernel_rfl)) (fun _ _ _ h => h) (Or.inr ⟨by rfl, rfl⟩) ?_ ?_
                rotate_left
                · simp only [Act.put, List.setIfInBounds_toArray, List.set_cons_zero, List.set_cons_succ, i64_w, i32_w]
                  rfl
                refine pure_ (i := 3) (N := some 24) (v := undef) (a' := ?_) #[true, true, true, true, false, false, false, false, false, false, false, false, false, false, false] rfl rfl (any_of HT_.out (by kernel_rfl)) (fun _ _ _ h => h) (Or.inr ⟨by rfl, rfl⟩) ?_ ?_
                rotate_left
                · simp only [Act.put, List.setIfInBounds_toArray, List.set_cons_zero, List.set_cons_succ, i64_w, i32_w]
                  rfl
                refine pure_ (i := 4) (N := some 25) (v := undef) (a' := ?_) #[true, true, true, true, true, false, false, false, false, false, false, false, false, false, false] rfl rfl (any_of HT_.out (by kernel_rfl)) (fun _ _ _ h => h) (Or.inr ⟨by rfl, rfl⟩) ?_ ?_
                rotate_left
                · simp only [Act.put, List.setIfInBounds_toArray, List.set_cons_zero, List.set_cons_succ, i64_w, i32_w]
                  rfl
                refine pure_ (i := 5) (N := some 26) (v := undef) (a' := ?_) #[true, true, true, true, true, true, false, false, false, false, false, false, false, false, false] rfl rfl (any_of HT_.out (by kernel_rfl)) (fun _ _ _ h => h) (Or.inr ⟨by rfl, rfl⟩) ?_ ?_
                rotate_left
                · simp only [Act.put, List.setIfInBounds_toArray, List.set_cons_zero, List.set_cons_succ, i64_w, i32_w]
                  rfl
                refine pure_ (i := 6) (N := some 27) (v := undef) (a' := ?_) #[true, true, true, true, true, true, true, false, false, false, false, false, false, false, false] rfl rfl (any_of HT_.out (by kernel_rfl)) (fun _ _ _ h => h) (Or.inr ⟨by rfl, rfl⟩) ?_ ?_
                rotate_left
                · simp only [Act.put, List.setIfInBounds_toArray, List.set_cons_zero, List.set_cons_succ, i64_w, i32_w]
                  rfl
                refine pure_ (i := 7) (N := some 28) (v := undef) (a' := ?_) #[true, true, true, true, true, true, true, true, false, false, false, false, false, false, false] rfl rfl (any_of HT_.out (by kernel_rfl)) (fun _ _ _ h => h) (Or.inr ⟨by rfl, rfl⟩) ?_ ?_
                rotate_left
                · simp only [Act.put, List.setIfInBounds_toArray, List.set_cons_zero, List.set_cons_succ, i64_w, i32_w]
                  rfl
                refine pure_ (i := 8) (N := some 29) (v := undef) (a' := ?_) #[true, true, true, true, true, true, true, true, true, false, false, false, false, false, false] rfl rfl (any_of HT_.out (by kernel_rfl)) (fun _ _ _ h => h) (Or.inr ⟨by rfl, rfl⟩) ?_ ?_
                rotate_left
                · simp only [Act.put, List.setIfInBounds_toArray, List.set_cons_zero, List.set_cons_succ, i64_w, i32_w]
                  rfl
                refine pure_ (i := 9) (N := some 30) (v := undef) (a' := ?_) #[true, true, true, true, true, true, true, true, true, true, false, false, false, false, false] rfl rfl (any_of HT_.out (by kernel_rfl)) (fun _ _ _ h => h) (Or.inr ⟨by rfl, rfl⟩) ?_ ?_
                rotate_left
                · simp only [Act.put, List.setIfInBounds_toArray, List.set_cons_zero, List.set_cons_succ, i64_w, i32_w]
                  rfl
                refine pure_ (i := 10) (N := some 31) (v := undef) (a' := ?_) #[true, true, true, true, true, true, true, true, true, true, true, false, false, false, false] rfl rfl (any_of HT_.out (by kernel_rfl)) (fun _ _ _ h => h) (Or.inr ⟨by rfl, rfl⟩) ?_ ?_
                rotate_left
                · simp only [Act.put, List.setIfInBounds_toArray, List.set_cons_zero, List.set_cons_succ, i64_w, i32_w]
                  rfl
                refine pure_ (i := 11) (N := some 32) (v := undef) (a' := ?_) #[true, true, true, true, true, true, true, true, true, true, true, true, false, false, false] rfl rfl (any_of HT_.out (by kernel_rfl)) (fun _ _ _ h => h) (Or.inr ⟨by rfl, rfl⟩) ?_ ?_
                rotate_left
                · simp only [Act.put, List.setIfInBounds_toArray, List.set_cons_zero, List.set_cons_succ, i64_w, i32_w]
                  rfl
                refine pure_ (i := 12) (N := some 33) (v := undef) (a' := ?_) #[true, true, true, true, true, true, true, true, true, true, true, true, true, false, false] rfl rfl (any_of HT_.out (by kernel_rfl)) (fun _ _ _ h => h) (Or.inr ⟨by rfl, rfl⟩) ?_ ?_
                rotate_left
                · simp only [Act.put, List.setIfInBounds_toArray, List.set_cons_zero, List.set_cons_succ, i64_w, i32_w]
                  rfl
                refine pure_ (i := 13) (N := some 34) (v := ?_) (a' := ?_) #[true, true, true, true, true, true, true, true, true, true, true, true, true, true, false] rfl rfl (any_of HT_.out (by kernel_rfl)) (fun _ _ _ h => h) (Or.inl ⟨by rfl, ?_⟩) ?_ ?_
                rotate_left
                · intro w'
                  go_simp
                  with_reducible rfl
                rotate_left
                · simp only [Act.put, List.setIfInBounds_toArray, List.set_cons_zero, List.set_cons_succ, i64_w, i32_w]
                  rfl
                refine pure_ (i := 14) (N := some 5) (v := ?_) (a' := ?_) #[true, true, true, true, true, true, true, true, true, true, true, true, true, true, true] rfl rfl (any_of HT_.out (by kernel_rfl)) (fun _ _ _ h => h) (Or.inl ⟨by rfl, ?_⟩) ?_ ?_
                rotate_left
                · intro w'
                  go_simp
                  with_reducible rfl
                rotate_left
                · simp only [Act.put, List.setIfInBounds_toArray, List.set_cons_zero, List.set_cons_succ, i64_w, i32_w]
                  rfl
                refine done_ (done_of HT_.out (by kernel_rfl)) ?_
                try go_wp2
                go_roundg k2
                case measure => have := HK1.out; have := HK2.out; omega
                case rel => exact ⟨(false), (wrap64 (x6_2 + 1)), (by first | rfl | (simp; done) | (simp [*]; done)), (by first | rfl | (simp; done) | (simp [*]; done)), H', ⟨by have := HK1.out; have := HK2.out; omega⟩, ⟨by (with_reducible repeat (first | apply Kd.R_alloc | apply Kd.R_drewN | apply Kd.R_drew)); exact HO_3.out⟩, ⟨by repeat (first | (with_reducible first | exact HB.out | apply below_alloc | apply pw_below_drewN | apply below_drew1) | exact HB.out)⟩⟩
            · rw [if_neg c3] at H
              have c3b0 : decide (x6_2 < (l0.length : Int)) = false := decide_eq_false c3
              clear c3
              by_cases c10 : x5_2 = true
              · subst c10
                have H1 : (spec_Set.l2 k2 l0 x3_1 x10_1 0 (l0.length : Int) x10_1) = some r := by rw [if_pos rfl] at H; exact H
                clear H
                have H := H1
                clear H1
                have H' := Aside0.mk H
                clear H
                go_wp2
                go_loopg [7] k2 (fun kq v7 w' => ∃ (x7_3 : Int), v7 = .int .i64 x7_3 ∧ Aside0 (spec_Set.l2 kq l0 x3_1 x10_1 x7_3 (l0.length : Int) x10_1 = some r) ∧ Aside0 (kq ≤ k2) ∧ Aside0 (Kd.R k50 50 w' w.heap.size (fun _ => True) u3 x3_1) ∧ Aside0 (Below w.heap.size w w'))
                case atStart => exact ⟨(0), (by first | rfl | (simp; done) | (simp [*]; done)), H', ⟨Nat.le_refl _⟩, ⟨by (with_reducible repeat (first | apply Kd.R_alloc | apply Kd.R_drewN | apply Kd.R_drew)); exact HO_3.out⟩, ⟨by repeat (first | (with_reducible first | exact HB.out | apply below_alloc | apply pw_below_drewN | apply below_drew1) | exact HB.out)⟩⟩
                case round =>
                  clear H'
                  try clear c1
                  try clear p1
                  try clear q1
                  try clear hx1
                  try clear c2
                  try clear c2b0
                  try clear p2
                  try clear c3
                  try clear c3b0
                  try clear c4
                  try clear c5
                  try clear c5b0
                  try clear c6
                  try clear c6b0
                  try clear p6
                  try clear c7
                  try clear c7b0
                  try clear c10
                  try clear hx169_0
                  try clear hx169_1
                  try clear hx170_0
                  try clear hx170_1
                  try clear p169
                  try clear p170
                  try clear p2
                  try clear q169
                  try clear q170
                  obtain ⟨x7_3, rfl, HA, HK3, HO_3, HB⟩ := hrel
                  cases gk with
                  | zero => exact absurd HA.out (by simp [spec_Set.l2])
                  | succ k3 =>
                    have H := HA.out
                    clear HA
                    simp only [spec_Set.l2] at H
                    by_cases c11 : x7_3 < (x3_1.length : Int)
                    · rw [if_pos c11] at H
                      have c11b0 : decide (x7_3 < (x3_1.length : Int)) = true := decide_eq_true c11
                      clear c11
                      by_cases c12 : 0 ≤ x7_3
                      · rw [if_pos c12] at H
                        have c12b0 : decide (0 ≤ x7_3) = true := decide_eq_true c12
                        clear c12
                        by_cases c13 : 0 ≤ x10_1
                        · rw [if_pos c13] at H
                          have c13b0 : decide (0 ≤ x10_1) = true := decide_eq_true c13
                          clear c13
                          by_cases c14 : x10_1 < (l0.length : Int)
                          · rw [if_pos c14] at H
                            have c14b0 : decide (x10_1 < (l0.length : Int)) = true := decide_eq_true c14
                            clear c14
                            by_cases c15 : (Op.bytesLess (((rd_T50 x3_1 x7_3).f0).toList) (((rd_T50 l0 x10_1).f0).toList)) = true
                            · rw [if_pos c15] at H
                              have c15b0 : (Op.bytesLess (((rd_T50 x3_1 x7_3).f0).toList) (((rd_T50 l0 x10_1).f0).toList)) = true := c15
                              clear c15
                              have H' := Aside0.mk H
                              clear H
                              try go_wp2
                              have n0_ := Aside0.mk (Kd.R_drew HO_3.out)
                              have n1_ := Aside0.mk (below_drew1 HB.out)
                              clear HO_3
                              clear HB
                              have HO_3 := n0_
                              have HB := n1_
                              clear n0_ n1_
                              obtain ⟨Ao17, co17, eo17⟩ := Kd.R_slice HO_3.out
                              (first | subst eo17 | (injection eo17 with f1_ f2_ f3_; have f4_ := f1_.symm; have f5_ := f3_.symm; clear f1_ f2_ f3_; subst f4_; subst f5_))
                              have p171 : 0 ≤ (x7_3 : Int) := of_decide_eq_true (by first | (with_reducible assumption) | assumption)
                              have q171 : x7_3 < (x3_1.length : Int) := of_decide_eq_true (by first | (with_reducible assumption) | assumption)
                              obtain ⟨ad171, e171, hx171_0, hx171_1⟩ := at_T50 (Kd.R_reads' HO_3.out).2.2 x7_3 p171 q171
                              cases e171
                              replace p171 := eq_true p171
                              replace q171 := eq_true q171
                              have p172 : 0 ≤ (x10_1 : Int) := of_decide_eq_true (by first | (with_reducible assumption) | assumption)
                              have q172 : x10_1 < (l0.length : Int) := of_decide_eq_true (by first | (with_reducible assumption) | assumption)
                              obtain ⟨ad172, e172, hx172_0, hx172_1⟩ := at_T50 HR0.out x10_1 p172 q172
                              have hw172_1 := hx172_1
                              have hw172_0 := hx172_0
                              cases e172
                              replace hx172_0 := (HB.out.cell (World.block_lt_of_cell? w _ hx172_0)).trans hx172_0
                              replace hx172_1 := (HB.out.cell (World.block_lt_of_cell? w _ hx172_1)).trans hx172_1
                              replace p172 := eq_true p172
                              replace q172 := eq_true q172
                              refine start_ (n := 17) (S := fun w' => w'.cell? (ad171.add ((x7_3).toNat * 2)) = some (.string ((rd_T50 x3_1 x7_3).f0)) ∧ w'.cell? ⟨(ad171.add ((x7_3).toNat * 2)).block, (ad171.add ((x7_3).toNat * 2)).off + 1, none⟩ = some (.string ((rd_T50 x3_1 x7_3).f1)) ∧ w'.cell? (ad172.add ((x10_1).toNat * 2)) = some (.string ((rd_T50 l0 x10_1).f0)) ∧ w'.cell? ⟨(ad172.add ((x10_1).toNat * 2)).block, (ad172.add ((x10_1).toNat * 2)).off + 1, none⟩ = some (.string ((rd_T50 l0 x10_1).f1))) (ds := []) #[false, false, false, false, false, false, false, false, false, false, false, false, false, false, false, false, false] (by kernel_rfl) rfl rfl ⟨hx171_0, hx171_1, ((HB.out.cell (World.block_lt_of_cell? w _ hw172_0)).trans hw172_0), ((HB.out.cell (World.block_lt_of_cell? w _ hw172_1)).trans hw172_1)⟩ (fun hHeld => ?_); refine with_tabW spec_Set.tab12 spec_Set.bits12 (fun HT_ HW_ => ?_)
                              generalize wr.drew = w16 at HO_3 HB hx171_0 hx171_1 hx172_0 hx172_1 hHeld ⊢
                              refine pure_ (i := 0) (N := some 37) (v := ?_) (a' := ?_) #[true, false, false, false, false, false, false, false, false, false, false, false, false, false, false, false, false] rfl rfl (any_of HT_.out (by kernel_rfl)) (fun _ _ _ h => h) (Or.inl ⟨by rfl, ?_⟩) ?_ ?_
                              rotate_left
                              · intro w'
                                go_simp
                                with_reducible rfl
                              rotate_left
                              · simp only [Act.put, List.setIfInBounds_toArray, List.set_cons_zero, List.set_cons_succ, i64_w, i32_w]
                                rfl
                              refine pure_ (i := 1) (N := some 38) (v := ?_) (a' := ?_) #[true, true, false, false, false, false, false, false, false, false, false, false, false, false, false, false, false] rfl rfl (any_of HT_.out (by kernel_rfl)) (fun _ _ _ h => h) (Or.inl ⟨by rfl, ?_⟩) ?_ ?_
                              rotate_left
                              · intro w'
                                go_simp
                                with_reducible rfl
                              rotate_left
                              · simp only [Act.put, List.setIfInBounds_toArray, List.set_cons_zero, List.set_cons_succ, i64_w, i32_w]
                                rfl
                              refine pure_ (i := 2) (N := some 39) (v := ?_) (a' := ?_) #[true, true, true, false, false, false, false, false, false, false, false, false, false, false, false, false, false] rfl rfl (any_of HT_.out (by kernel_rfl)) (fun _ _ _ h => h) (Or.inl ⟨by rfl, ?_⟩) ?_ ?_
                              rotate_left
                              · intro w'
                                go_simp
                                with_reducible rfl
                              rotate_left
                              · simp only [Act.put, List.setIfInBounds_toArray, List.set_cons_zero, List.set_cons_succ, i64_w, i32_w]
                                rfl
                              refine pure_ (i := 3) (N := some 40) (v := ?_) (a' := ?_) #[true, true, true, true, false, false, false, false, false, false, false, false, false, false, false, false, false] rfl rfl (any_of HT_.out (by kernel_rfl)) (fun _ _ _ h => h) (Or.inl ⟨by rfl, ?_⟩) ?_ ?_
                              rotate_left
                              · intro w'
                                go_simp
                                with_reducible rfl
                              rotate_left
                              · simp only [Act.put, List.setIfInBounds_toArray, List.set_cons_zero, List.set_cons_succ, i64_w, i32_w]
                                rfl
                              refine pure_ (i := 4) (N := some 41) (v := ?_) (a' := ?_) #[true, true, true, true, true, false, false, false, false, false, false, false, false, false, false, false, false] rfl rfl (any_of HT_.out (by kernel_rfl)) (fun _ _ _ h => h) (Or.inl ⟨by rfl, ?_⟩) ?_ ?_
                              rotate_left
                              · intro w'
                                go_simp
                                with_reducible rfl
                              rotate_left
                              · simp only [Act.put, List.setIfInBounds_toArray, List.set_cons_zero, List.set_cons_succ, i64_w, i32_w]
                                rfl
                              refine pure_ (i := 5) (N := some 42) (v := ?_) (a' := ?_) #[true, true, true, true, true, true, false, false, false, false, false, false, false, false, false, false, false] rfl rfl (any_of HT_.out (by kernel_rfl)) (fun _ _ _ h => h) (Or.inl ⟨by rfl, ?_⟩) ?_ ?_
                              rotate_left
                              · intro w'
                                go_simp
                                with_reducible rfl
                              rotate_left
                              · simp only [Act.put, List.setIfInBounds_toArray, List.set_cons_zero, List.set_cons_succ, i64_w, i32_w]
                                rfl
                              refine pure_ (i := 6) (N := some 43) (v := ?_) (a' := ?_) #[true, true, true, true, true, true, true, false, false, false, false, false, false, false, false, false, false] rfl rfl (any_of HT_.out (by kernel_rfl)) (fun _ _ _ h => h) (Or.inl ⟨by rfl, ?_⟩) ?_ ?_
                              rotate_left
                              · intro w'
                                go_simp
                                with_reducible rfl
                              rotate_left
                              · simp only [Act.put, List.setIfInBounds_toArray, List.set_cons_zero, List.set_cons_succ, i64_w, i32_w]
                                rfl
                              refine pure_ (i := 7) (N := some 44) (v := ?_) (a' := ?_) #[true, true, true, true, true, true, true, true, false, false, false, false, false, false, false, false, false] rfl rfl (any_of HT_.out (by kernel_rfl)) (fun _ _ _ h => h) (Or.inl ⟨by rfl, ?_⟩) ?_ ?_
                              rotate_left
                              · intro w'
                                go_simp
                                with_reducible rfl
                              rotate_left
                              · simp only [Act.put, List.setIfInBounds_toArray, List.set_cons_zero, List.set_cons_succ, i64_w, i32_w]
                                rfl
                              refine pure_ (i := 8) (N := some 45) (v := ?_) (a' := ?_) #[true, true, true, true, true, true, true, true, true, false, false, false, false, false, false, false, false] rfl rfl (any_of HT_.out (by kernel_rfl)) (fun _ _ _ h => h) (Or.inl ⟨by rfl, ?_⟩) ?_ ?_
                              rotate_left
                              · intro w'
                                go_simp
                                with_reducible rfl
                              rotate_left
                              · simp only [Act.put, List.setIfInBounds_toArray, List.set_cons_zero, List.set_cons_succ, i64_w, i32_w]
                                rfl
                              refine pure_ (i := 10) (N := some 47) (v := ?_) (a' := ?_) #[true, true, true, true, true, true, true, true, true, false, true, false, false, false, false, false, false] rfl rfl (any_of HT_.out (by kernel_rfl)) (fun _ _ _ h => h) (Or.inl ⟨by rfl, ?_⟩) ?_ ?_
                              rotate_left
                              · intro w'
                                go_simp
                                with_reducible rfl
                              rotate_left
                              · simp only [Act.put, List.setIfInBounds_toArray, List.set_cons_zero, List.set_cons_succ, i64_w, i32_w]
                                rfl
                              refine pure_ (i := 11) (N := some 48) (v := ?_) (a' := ?_) #[true, true, true, true, true, true, true, true, true, false, true, true, false, false, false, false, false] rfl rfl (any_of HT_.out (by kernel_rfl)) (fun _ _ _ h => h) (Or.inl ⟨by rfl, ?_⟩) ?_ ?_
                              rotate_left
                              · intro w'
                                go_simp
                                with_reducible rfl
                              rotate_left
                              · simp only [Act.put, List.setIfInBounds_toArray, List.set_cons_zero, List.set_cons_succ, i64_w, i32_w]
                                rfl
                              refine pure_ (i := 12) (N := some 49) (v := ?_) (a' := ?_) #[true, true, true, true, true, true, true, true, true, false, true, true, true, false, false, false, false] rfl rfl (any_of HT_.out (by kernel_rfl)) (fun _ _ _ h => h) (Or.inl ⟨by rfl, ?_⟩) ?_ ?_
                              rotate_left
                              · intro w'
                                go_simp
                                with_reducible rfl
                              rotate_left
                              · simp only [Act.put, List.setIfInBounds_toArray, List.set_cons_zero, List.set_cons_succ, i64_w, i32_w]
                                rfl
                              refine pure_ (i := 13) (N := some 50) (v := ?_) (a' := ?_) #[true, true, true, true, true, true, true, true, true, false, true, true, true, true, false, false, false] rfl rfl (any_of HT_.out (by kernel_rfl)) (fun _ _ _ h => h) (Or.inl ⟨by rfl, ?_⟩) ?_ ?_
                              rotate_left
                              · intro w'
                                go_simp
                                with_reducible rfl
                              rotate_left
                              · simp only [Act.put, List.setIfInBounds_toArray, List.set_cons_zero, List.set_cons_succ, i64_w, i32_w]
                                rfl
                              refine take_ (i := 9) (N := some 46) (v := ?_) (a' := ?_) #[true, true, true, true, true, true, true, true, true, true, true, true, true, true, false, false, false] rfl rfl (take_ofW HT_.out HW_.out (by kernel_rfl)) (fun _ _ _ h => h) (Or.inl ⟨by rfl, ?_⟩) hHeld ?_ ?_
                              rotate_left
                              · rintro w' ⟨s0, s1, s2, s3⟩
                                go_simp
                                with_reducible rfl
                              rotate_left
                              · simp only [Act.put, List.setIfInBounds_toArray, List.set_cons_zero, List.set_cons_succ, i64_w, i32_w]
                                rfl
                              refine take_ (i := 14) (N := some 51) (v := ?_) (a' := ?_) #[true, true, true, true, true, true, true, true, true, true, true, true, true, true, true, false, false] rfl rfl (take_ofW HT_.out HW_.out (by kernel_rfl)) (fun _ _ _ h => h) (Or.inl ⟨by rfl, ?_⟩) hHeld ?_ ?_
                              rotate_left
                              · rintro w' ⟨s0, s1, s2, s3⟩
                                go_simp
                                with_reducible rfl
                              rotate_left
                              · simp only [Act.put, List.setIfInBounds_toArray, List.set_cons_zero, List.set_cons_succ, i64_w, i32_w]
                                rfl
                              refine pure_ (i := 15) (N := some 52) (v := ?_) (a' := ?_) #[true, true, true, true, true, true, true, true, true, true, true, true, true, true, true, true, false] rfl rfl (any_of HT_.out (by kernel_rfl)) (fun _ _ _ h => h) (Or.inl ⟨by rfl, ?_⟩) ?_ ?_
                              rotate_left
                              · intro w'
                                go_simp
                                with_reducible rfl
                              rotate_left
                              · simp only [Act.put, List.setIfInBounds_toArray, List.set_cons_zero, List.set_cons_succ, i64_w, i32_w]
                                rfl
                              refine pure_ (i := 16) (N := some 53) (v := ?_) (a' := ?_) #[true, true, true, true, true, true, true, true, true, true, true, true, true, true, true, true, true] rfl rfl (any_of HT_.out (by kernel_rfl)) (fun _ _ _ h => h) (Or.inl ⟨by rfl, ?_⟩) ?_ ?_
                              rotate_left
                              · intro w'
                                go_simp
                                with_reducible rfl
                              rotate_left
                              · simp only [Act.put, List.setIfInBounds_toArray, List.set_cons_zero, List.set_cons_succ, i64_w, i32_w]
                                rfl
                              refine done_ (done_of HT_.out (by kernel_rfl)) ?_
                              try go_wp2
                              go_roundg k3
                              case measure => have := HK1.out; have := HK2.out; have := HK3.out; omega
                              case rel => exact ⟨(wrap64 (x7_3 + 1)), (by first | rfl | (simp; done) | (simp [*]; done)), H', ⟨by have := HK1.out; have := HK2.out; have := HK3.out; omega⟩, ⟨by (with_reducible repeat (first | apply Kd.R_alloc | apply Kd.R_drewN | apply Kd.R_drew)); exact HO_3.out⟩, ⟨by repeat (first | (with_reducible first | exact HB.out | apply below_alloc | apply pw_below_drewN | apply below_drew1) | exact HB.out)⟩⟩
                            · rw [if_neg c15] at H
                              have c15b0 : (Op.bytesLess (((rd_T50 x3_1 x7_3).f0).toList) (((rd_T50 l0 x10_1).f0).toList)) = false := by simpa using c15
                              clear c15
                              obtain ⟨y173, hy173⟩ : ∃ y_ : List (S50), y_ = (([] : List (S50))) := ⟨_, rfl⟩
                              replace H : (if x7_3 ≤ (x3_1.length : Int) then ((some (x3_1.take (x7_3 : Int).toNat : List (S50))).bind fun y176 => (if y173.length + y176.length < 4398046511104 then ((some (y173 ++ y176 : List (S50))).bind fun y180 => ((some (([(⟨(rd_T50 l0 x10_1).f0, (rd_T50 l0 x10_1).f1⟩ : S50)] : List (S50)) : List (S50))).bind fun y184 => (if y180.length + y184.length < 4398046511104 then ((some (y180 ++ y184 : List (S50))).bind fun y187 => ((some (x3_1.drop (x7_3 : Int).toNat : List (S50))).bind fun y190 => (if y187.length + y190.length < 4398046511104 then (spec_Set.l0 k3 l0 (y187 ++ y190) (l0.length : Int) (wrap64 (x10_1 + 1))) else (none)))) else (none)))) else (none))) else (none)) = some r := by first | (rw [hy173]; with_reducible exact H) | (have H2_ := (Option.bind_some _ _).symm.trans H; rw [hy173]; with_reducible exact H2_) | (have H2_ := (Option.bind_some _ _).symm.trans H; with_reducible exact H2_) | with_reducible exact H | (rw [hy173]; exact H) | exact H
                              have Ny173 := Aside0.mk hy173
                              clear hy173
                              have c18b0 := eq_true (of_decide_eq_true (by first | (with_reducible assumption) | assumption) : 0 ≤ x7_3)
                              by_cases c19 : x7_3 ≤ (x3_1.length : Int)
                              · rw [if_pos c19] at H
                                have c19b0 := eq_true c19
                                have c19b1 : decide (x7_3 ≤ (x3_1.length : Int)) = true := decide_eq_true c19
                                clear c19
                                obtain ⟨y176, hy176⟩ : ∃ y_ : List (S50), y_ = (x3_1.take (x7_3 : Int).toNat) := ⟨_, rfl⟩
                                replace H : (if y173.length + y176.length < 4398046511104 then ((some (y173 ++ y176 : List (S50))).bind fun y180 => ((some (([(⟨(rd_T50 l0 x10_1).f0, (rd_T50 l0 x10_1).f1⟩ : S50)] : List (S50)) : List (S50))).bind fun y184 => (if y180.length + y184.length < 4398046511104 then ((some (y180 ++ y184 : List (S50))).bind fun y187 => ((some (x3_1.drop (x7_3 : Int).toNat : List (S50))).bind fun y190 => (if y187.length + y190.length < 4398046511104 then (spec_Set.l0 k3 l0 (y187 ++ y190) (l0.length : Int) (wrap64 (x10_1 + 1))) else (none)))) else (none)))) else (none)) = some r := by first | (rw [hy176]; with_reducible exact H) | (have H2_ := (Option.bind_some _ _).symm.trans H; rw [hy176]; with_reducible exact H2_) | (have H2_ := (Option.bind_some _ _).symm.trans H; with_reducible exact H2_) | with_reducible exact H | (rw [hy176]; exact H) | exact H
                                have Ny176 := Aside0.mk hy176
                                clear hy176
                                by_cases c20 : y173.length + y176.length < 4398046511104
                                · rw [if_pos c20] at H
                                  have LMc20 := Aside0.mk c20
                                  clear c20
                                  obtain ⟨y180, hy180⟩ : ∃ y_ : List (S50), y_ = (y173 ++ y176) := ⟨_, rfl⟩
                                  replace H : ((some (([(⟨(rd_T50 l0 x10_1).f0, (rd_T50 l0 x10_1).f1⟩ : S50)] : List (S50)) : List (S50))).bind fun y184 => (if y180.length + y184.length < 4398046511104 then ((some (y180 ++ y184 : List (S50))).bind fun y187 => ((some (x3_1.drop (x7_3 : Int).toNat : List (S50))).bind fun y190 => (if y187.length + y190.length < 4398046511104 then (spec_Set.l0 k3 l0 (y187 ++ y190) (l0.length : Int) (wrap64 (x10_1 + 1))) else (none)))) else (none))) = some r := by first | (rw [hy180]; with_reducible exact H) | (have H2_ := (Option.bind_some _ _).symm.trans H; rw [hy180]; with_reducible exact H2_) | (have H2_ := (Option.bind_some _ _).symm.trans H; with_reducible exact H2_) | with_reducible exact H | (rw [hy180]; exact H) | exact H
                                  have Ny180 := Aside0.mk hy180
                                  clear hy180
                                  obtain ⟨y184, hy184⟩ : ∃ y_ : List (S50), y_ = (([(⟨(rd_T50 l0 x10_1).f0, (rd_T50 l0 x10_1).f1⟩ : S50)] : List (S50))) := ⟨_, rfl⟩
                                  replace H : (if y180.length + y184.length < 4398046511104 then ((some (y180 ++ y184 : List (S50))).bind fun y187 => ((some (x3_1.drop (x7_3 : Int).toNat : List (S50))).bind fun y190 => (if y187.length + y190.length < 4398046511104 then (spec_Set.l0 k3 l0 (y187 ++ y190) (l0.length : Int) (wrap64 (x10_1 + 1))) else (none)))) else (none)) = some r := by first | (rw [hy184]; with_reducible exact H) | (have H2_ := (Option.bind_some _ _).symm.trans H; rw [hy184]; with_reducible exact H2_) | (have H2_ := (Option.bind_some _ _).symm.trans H; with_reducible exact H2_) | with_reducible exact H | (rw [hy184]; exact H) | exact H
                                  have Ny184 := Aside0.mk hy184
                                  clear hy184
                                  by_cases c21 : y180.length + y184.length < 4398046511104
                                  · rw [if_pos c21] at H
                                    have LMc21 := Aside0.mk c21
                                    clear c21
                                    obtain ⟨y187, hy187⟩ : ∃ y_ : List (S50), y_ = (y180 ++ y184) := ⟨_, rfl⟩
                                    replace H : ((some (x3_1.drop (x7_3 : Int).toNat : List (S50))).bind fun y190 => (if y187.length + y190.length < 4398046511104 then (spec_Set.l0 k3 l0 (y187 ++ y190) (l0.length : Int) (wrap64 (x10_1 + 1))) else (none))) = some r := by first | (rw [hy187]; with_reducible exact H) | (have H2_ := (Option.bind_some _ _).symm.trans H; rw [hy187]; with_reducible exact H2_) | (have H2_ := (Option.bind_some _ _).symm.trans H; with_reducible exact H2_) | with_reducible exact H | (rw [hy187]; exact H) | exact H
                                    have Ny187 := Aside0.mk hy187
                                    clear hy187
                                    have c22b0 := eq_true (of_decide_eq_true (by first | (with_reducible assumption) | assumption) : 0 ≤ x7_3)
                                    have c23b0 := eq_true (of_decide_eq_true (by first | (with_reducible assumption) | assumption) : x7_3 ≤ (x3_1.length : Int))
                                    obtain ⟨y190, hy190⟩ : ∃ y_ : List (S50), y_ = (x3_1.drop (x7_3 : Int).toNat) := ⟨_, rfl⟩
                                    replace H : (if y187.length + y190.length < 4398046511104 then (spec_Set.l0 k3 l0 (y187 ++ y190) (l0.length : Int) (wrap64 (x10_1 + 1))) else (none)) = some r := by first | (rw [hy190]; with_reducible exact H) | (have H2_ := (Option.bind_some _ _).symm.trans H; rw [hy190]; with_reducible exact H2_) | (have H2_ := (Option.bind_some _ _).symm.trans H; with_reducible exact H2_) | with_reducible exact H | (rw [hy190]; exact H) | exact H
                                    have Ny190 := Aside0.mk hy190
                                    clear hy190
                                    by_cases c24 : y187.length + y190.length < 4398046511104
                                    · rw [if_pos c24] at H
                                      have LMc24 := Aside0.mk c24
                                      clear c24
                                      obtain ⟨y194, hy194⟩ : ∃ y_ : List (S50), y_ = (y187 ++ y190) := ⟨_, rfl⟩
                                      replace H : (spec_Set.l0 k3 l0 y194 (l0.length : Int) (wrap64 (x10_1 + 1))) = some r := by first | (rw [hy194]; with_reducible exact H) | (have H2_ := (Option.bind_some _ _).symm.trans H; rw [hy194]; with_reducible exact H2_) | (have H2_ := (Option.bind_some _ _).symm.trans H; with_reducible exact H2_) | with_reducible exact H | (rw [hy194]; exact H) | exact H
                                      have Ny194 := Aside0.mk hy194
                                      clear hy194
                                      have H' := Aside0.mk H
                                      clear H
                                      try go_wp2
                                      have n0_ := Aside0.mk (Kd.R_drew HO_3.out)
                                      have n1_ := Aside0.mk (below_drew1 HB.out)
                                      clear HO_3
                                      clear HB
                                      have HO_3 := n0_
                                      have HB := n1_
                                      clear n0_ n1_
                                      obtain ⟨Ao26, co26, eo26⟩ := Kd.R_slice HO_3.out
                                      (first | subst eo26 | (injection eo26 with f1_ f2_ f3_; have f4_ := f1_.symm; have f5_ := f3_.symm; clear f1_ f2_ f3_; subst f4_; subst f5_))
                                      have p171 : 0 ≤ (x7_3 : Int) := of_decide_eq_true (by first | (with_reducible assumption) | assumption)
                                      have q171 : x7_3 < (x3_1.length : Int) := of_decide_eq_true (by first | (with_reducible assumption) | assumption)
                                      obtain ⟨ad171, e171, hx171_0, hx171_1⟩ := at_T50 (Kd.R_reads' HO_3.out).2.2 x7_3 p171 q171
                                      cases e171
                                      replace p171 := eq_true p171
                                      replace q171 := eq_true q171
                                      have p172 : 0 ≤ (x10_1 : Int) := of_decide_eq_true (by first | (with_reducible assumption) | assumption)
                                      have q172 : x10_1 < (l0.length : Int) := of_decide_eq_true (by first | (with_reducible assumption) | assumption)
                                      obtain ⟨ad172, e172, hx172_0, hx172_1⟩ := at_T50 HR0.out x10_1 p172 q172
                                      have hw172_1 := hx172_1
                                      have hw172_0 := hx172_0
                                      cases e172
                                      replace hx172_0 := (HB.out.cell (World.block_lt_of_cell? w _ hx172_0)).trans hx172_0
                                      replace hx172_1 := (HB.out.cell (World.block_lt_of_cell? w _ hx172_1)).trans hx172_1
                                      replace p172 := eq_true p172
                                      replace q172 := eq_true q172
                                      refine start_ (n := 17) (S := fun w' => w'.cell? (ad171.add ((x7_3).toNat * 2)) = some (.string ((rd_T50 x3_1 x7_3).f0)) ∧ w'.cell? ⟨(ad171.add ((x7_3).toNat * 2)).block, (ad171.add ((x7_3).toNat * 2)).off + 1, none⟩ = some (.string ((rd_T50 x3_1 x7_3).f1)) ∧ w'.cell? (ad172.add ((x10_1).toNat * 2)) = some (.string ((rd_T50 l0 x10_1).f0)) ∧ w'.cell? ⟨(ad172.add ((x10_1).toNat * 2)).block, (ad172.add ((x10_1).toNat * 2)).off + 1, none⟩ = some (.string ((rd_T50 l0 x10_1).f1))) (ds := []) #[false, false, false, false, false, false, false, false, false, false, false, false, false, false, false, false, false] (by kernel_rfl) rfl rfl ⟨hx171_0, hx171_1, ((HB.out.cell (World.block_lt_of_cell? w _ hw172_0)).trans hw172_0), ((HB.out.cell (World.block_lt_of_cell? w _ hw172_1)).trans hw172_1)⟩ (fun hHeld => ?_); refine with_tabW spec_Set.tab12 spec_Set.bits12 (fun HT_ HW_ => ?_)
                                      generalize wr.drew = w25 at HO_3 HB hx171_0 hx171_1 hx172_0 hx172_1 hHeld ⊢
                                      refine pure_ (i := 0) (N := some 37) (v := ?_) (a' := ?_) #[true, false, false, false, false, false, false, false, false, false, false, false, false, false, false, false, false] rfl rfl (any_of HT_.out (by kernel_rfl)) (fun _ _ _ h => h) (Or.inl ⟨by rfl, ?_⟩) ?_ ?_
                                      rotate_left
                                      · intro w'
                                        go_simp
                                        with_reducible rfl
                                      rotate_left
                                      · simp only [Act.put, List.setIfInBounds_toArray, List.set_cons_zero, List.set_cons_succ, i64_w, i32_w]
                                        rfl
                                      refine pure_ (i := 1) (N := some 38) (v := ?_) (a' := ?_) #[true, true, false, false, false, false, false, false, false, false, false, false, false, false, false, false, false] rfl rfl (any_of HT_.out (by kernel_rfl)) (fun _ _ _ h => h) (Or.inl ⟨by rfl, ?_⟩) ?_ ?_
                                      rotate_left
                                      · intro w'
                                        go_simp
                                        with_reducible rfl
                                      rotate_left
                                      · simp only [Act.put, List.setIfInBounds_toArray, List.set_cons_zero, List.set_cons_succ, i64_w, i32_w]
                                        rfl
                                      refine pure_ (i := 2) (N := some 39) (v := ?_) (a' := ?_) #[true, true, true, false, false, false, false, false, false, false, false, false, false, false, false, false, false] rfl rfl (any_of HT_.out (by kernel_rfl)) (fun _ _ _ h => h) (Or.inl ⟨by rfl, ?_⟩) ?_ ?_
                                      rotate_left
                                      · intro w'
                                        go_simp
                                        with_reducible rfl
                                      rotate_left
                                      · simp only [Act.put, List.setIfInBounds_toArray, List.set_cons_zero, List.set_cons_succ, i64_w, i32_w]
                                        rfl
                                      refine pure_ (i := 3) (N := some 40) (v := ?_) (a' := ?_) #[true, true, true, true, false, false, false, false, false, false, false, false, false, false, false, false, false] rfl rfl (any_of HT_.out (by kernel_rfl)) (fun _ _ _ h => h) (Or.inl ⟨by rfl, ?_⟩) ?_ ?_
                                      rotate_left
                                      · intro w'
                                        go_simp
                                        with_reducible rfl
                                      rotate_left
                                      · simp only [Act.put, List.setIfInBounds_toArray, List.set_cons_zero, List.set_cons_succ, i64_w, i32_w]
                                        rfl
                                      refine pure_ (i := 4) (N := some 41) (v := ?_) (a' := ?_) #[true, true, true, true, true, false, false, false, false, false, false, false, false, false, false, false, false] rfl rfl (any_of HT_.out (by kernel_rfl)) (fun _ _ _ h => h) (Or.inl ⟨by rfl, ?_⟩) ?_ ?_
                                      rotate_left
                                      · intro w'
                                        go_simp
                                        with_reducible rfl
                                      rotate_left
                                      · simp only [Act.put, List.setIfInBounds_toArray, List.set_cons_zero, List.set_cons_succ, i64_w, i32_w]
                                        rfl
                                      refine pure_ (i := 5) (N := some 42) (v := ?_) (a' := ?_) #[true, true, true, true, true, true, false, false, false, false, false, false, false, false, false, false, false] rfl rfl (any_of HT_.out (by kernel_rfl)) (fun _ _ _ h => h) (Or.inl ⟨by rfl, ?_⟩) ?_ ?_
                                      rotate_left
                                      · intro w'
                                        go_simp
                                        with_reducible rfl
                                      rotate_left
                                      · simp only [Act.put, List.setIfInBounds_toArray, List.set_cons_zero, List.set_cons_succ, i64_w, i32_w]
                                        rfl
                                      refine pure_ (i := 6) (N := some 43) (v := ?_) (a' := ?_) #[true, true, true, true, true, true, true, false, false, false, false, false, false, false, false, false, false] rfl rfl (any_of HT_.out (by kernel_rfl)) (fun _ _ _ h => h) (Or.inl ⟨by rfl, ?_⟩) ?_ ?_
                                      rotate_left
                                      · intro w'
                                        go_simp
                                        with_reducible rfl
                                      rotate_left
                                      · simp only [Act.put, List.setIfInBounds_toArray, List.set_cons_zero, List.set_cons_succ, i64_w, i32_w]
                                        rfl
                                      refine pure_ (i := 7) (N := some 44) (v := ?_) (a' := ?_) #[true, true, true, true, true, true, true, true, false, false, false, false, false, false, false, false, false] rfl rfl (any_of HT_.out (by kernel_rfl)) (fun _ _ _ h => h) (Or.inl ⟨by rfl, ?_⟩) ?_ ?_
                                      rotate_left
                                      · intro w'
                                        go_simp
                                        with_reducible rfl
                                      rotate_left
                                      · simp only [Act.put, List.setIfInBounds_toArray, List.set_cons_zero, List.set_cons_succ, i64_w, i32_w]
                                        rfl
                                      refine pure_ (i := 8) (N := some 45) (v := ?_) (a' := ?_) #[true, true, true, true, true, true, true, true, true, false, false, false, false, false, false, false, false] rfl rfl (any_of HT_.out (by kernel_rfl)) (fun _ _ _ h => h) (Or.inl ⟨by rfl, ?_⟩) ?_ ?_
                                      rotate_left
                                      · intro w'
                                        go_simp
                                        with_reducible rfl
                                      rotate_left
                                      · simp only [Act.put, List.setIfInBounds_toArray, List.set_cons_zero, List.set_cons_succ, i64_w, i32_w]
                                        rfl
                                      refine pure_ (i := 10) (N := some 47) (v := ?_) (a' := ?_) #[true, true, true, true, true, true, true, true, true, false, true, false, false, false, false, false, false] rfl rfl (any_of HT_.out (by kernel_rfl)) (fun _ _ _ h => h) (Or.inl ⟨by rfl, ?_⟩) ?_ ?_
                                      rotate_left
                                      · intro w'
                                        go_simp
                                        with_reducible rfl
                                      rotate_left
                                      · simp only [Act.put, List.setIfInBounds_toArray, List.set_cons_zero, List.set_cons_succ, i64_w, i32_w]
                                        rfl
                                      refine pure_ (i := 11) (N := some 48) (v := ?_) (a' := ?_) #[true, true, true, true, true, true, true, true, true, false, true, true, false, false, false, false, false] rfl rfl (any_of HT_.out (by kernel_rfl)) (fun _ _ _ h => h) (Or.inl ⟨by rfl, ?_⟩) ?_ ?_
                                      rotate_left
                                      · intro w'
                                        go_simp
                                        with_reducible rfl
                                      rotate_left
                                      · simp only [Act.put, List.setIfInBounds_toArray, List.set_cons_zero, List.set_cons_succ, i64_w, i32_w]
                                        rfl
                                      refine pure_ (i := 12) (N := some 49) (v := ?_) (a' := ?_) #[true, true, true, true, true, true, true, true, true, false, true, true, true, false, false, false, false] rfl rfl (any_of HT_.out (by kernel_rfl)) (fun _ _ _ h => h) (Or.inl ⟨by rfl, ?_⟩) ?_ ?_
                                      rotate_left
                                      · intro w'
                                        go_simp
                                        with_reducible rfl
                                      rotate_left
                                      · simp only [Act.put, List.setIfInBounds_toArray, List.set_cons_zero, List.set_cons_succ, i64_w, i32_w]
                                        rfl
                                      refine pure_ (i := 13) (N := some 50) (v := ?_) (a' := ?_) #[true, true, true, true, true, true, true, true, true, false, true, true, true, true, false, false, false] rfl rfl (any_of HT_.out (by kernel_rfl)) (fun _ _ _ h => h) (Or.inl ⟨by rfl, ?_⟩) ?_ ?_
                                      rotate_left
                                      · intro w'
                                        go_simp
                                        with_reducible rfl
                                      rotate_left
                                      · simp only [Act.put, List.setIfInBounds_toArray, List.set_cons_zero, List.set_cons_succ, i64_w, i32_w]
                                        rfl
                                      refine take_ (i := 9) (N := some 46) (v := ?_) (a' := ?_) #[true, true, true, true, true, true, true, true, true, true, true, true, true, true, false, false, false] rfl rfl (take_ofW HT_.out HW_.out (by kernel_rfl)) (fun _ _ _ h => h) (Or.inl ⟨by rfl, ?_⟩) hHeld ?_ ?_
                                      rotate_left
                                      · rintro w' ⟨s0, s1, s2, s3⟩
                                        go_simp
                                        with_reducible rfl
                                      rotate_left
                                      · simp only [Act.put, List.setIfInBounds_toArray, List.set_cons_zero, List.set_cons_succ, i64_w, i32_w]
                                        rfl
                                      refine take_ (i := 14) (N := some 51) (v := ?_) (a' := ?_) #[true, true, true, true, true, true, true, true, true, true, true, true, true, true, true, false, false] rfl rfl (take_ofW HT_.out HW_.out (by kernel_rfl)) (fun _ _ _ h => h) (Or.inl ⟨by rfl, ?_⟩) hHeld ?_ ?_
                                      rotate_left
                                      · rintro w' ⟨s0, s1, s2, s3⟩
                                        go_simp
                                        with_reducible rfl
                                      rotate_left
                                      · simp only [Act.put, List.setIfInBounds_toArray, List.set_cons_zero, List.set_cons_succ, i64_w, i32_w]
                                        rfl
                                      refine pure_ (i := 15) (N := some 52) (v := ?_) (a' := ?_) #[true, true, true, true, true, true, true, true, true, true, true, true, true, true, true, true, false] rfl rfl (any_of HT_.out (by kernel_rfl)) (fun _ _ _ h => h) (Or.inl ⟨by rfl, ?_⟩) ?_ ?_
                                      rotate_left
                                      · intro w'
                                        go_simp
                                        with_reducible rfl
                                      rotate_left
                                      · simp only [Act.put, List.setIfInBounds_toArray, List.set_cons_zero, List.set_cons_succ, i64_w, i32_w]
                                        rfl
                                      refine pure_ (i := 16) (N := some 53) (v := ?_) (a' := ?_) #[true, true, true, true, true, true, true, true, true, true, true, true, true, true, true, true, true] rfl rfl (any_of HT_.out (by kernel_rfl)) (fun _ _ _ h => h) (Or.inl ⟨by rfl, ?_⟩) ?_ ?_
                                      rotate_left
                                      · intro w'
                                        go_simp
                                        with_reducible rfl
                                      rotate_left
                                      · simp only [Act.put, List.setIfInBounds_toArray, List.set_cons_zero, List.set_cons_succ, i64_w, i32_w]
                                        rfl
                                      refine done_ (done_of HT_.out (by kernel_rfl)) ?_
                                      try go_wp2
                                      have n0_ := Aside0.mk (Kd.R_drew HO_3.out)
                                      have n1_ := Aside0.mk (below_drew1 HB.out)
                                      clear HO_3
                                      clear HB
                                      have HO_3 := n0_
                                      have HB := n1_
                                      clear n0_ n1_
                                      have q28 : (x7_3 : Int) ≤ ((x3_1.length : Int) : Int) := of_decide_eq_true (by first | (with_reducible assumption) | assumption)
                                      obtain ⟨i028, hi028, _, hsz28, _⟩ := info_parts info50
                                      have hroom28 : x3_1.length ≤ co26 := (Kd.R_reads' HO_3.out).2.1
                                      have hC28 : Kd.C k50 _ (some ad171) x3_1.length x3_1 := (Kd.R_reads' HO_3.out).2.2
                                      have hcut28 := cut_to (P := Try.prog) 31 50 .i64 Try.underlying31 hi028 (some ad171) x3_1.length co26 x7_3 (of_decide_eq_true (by first | (with_reducible assumption) | assumption)) q28 hroom28
                                      have hr28 := Kd.C_take (m := (x7_3 : Int).toNat) hC28 (by omega)
                                      have hy28 : y176.length = (x7_3 : Int).toNat := (by rw [Ny176.out, List.length_take]; omega)
                                      rw [← Ny176.out] at hr28
                                      rw [← hy28] at hcut28
                                      have HR179 := Aside0.mk hr28
                                      have HC179 := Aside0.mk (show y176.length ≤ co26 from by omega)
                                      clear hr28 hC28 hroom28 hi028 hsz28
                                      have KY28 := Aside0.mk hy28
                                      clear hy28
                                      have KL28 := Aside0.mk (show (x7_3 : Int).toNat ≤ x3_1.length from by omega)
                                      replace q28 := eq_true q28
                                      have p183 : 0 ≤ (x10_1 : Int) := of_decide_eq_true (by first | (with_reducible assumption) | assumption)
                                      have q183 : x10_1 < (l0.length : Int) := of_decide_eq_true (by first | (with_reducible assumption) | assumption)
                                      obtain ⟨ad183, e183, hx183_0, hx183_1⟩ := at_T50 HR0.out x10_1 p183 q183
                                      have hw183_1 := hx183_1
                                      have hw183_0 := hx183_0
                                      obtain rfl : ad172 = ad183 := (by injection e183)
                                      replace hx183_0 := (HB.out.cell (World.block_lt_of_cell? w _ hx183_0)).trans hx183_0
                                      replace hx183_1 := (HB.out.cell (World.block_lt_of_cell? w _ hx183_1)).trans hx183_1
                                      replace p183 := eq_true p183
                                      replace q183 := eq_true q183
                                      have q29 : (x7_3 : Int) ≤ ((x3_1.length : Int) : Int) := of_decide_eq_true (by first | (with_reducible assumption) | assumption)
                                      obtain ⟨i029, hi029, _, hsz29, _⟩ := info_parts info50
                                      have hroom29 : x3_1.length ≤ co26 := (Kd.R_reads' HO_3.out).2.1
                                      have hC29 : Kd.C k50 _ (some ad171) x3_1.length x3_1 := (Kd.R_reads' HO_3.out).2.2
                                      have q029 : (0 : Int) ≤ (x7_3 : Int) := of_decide_eq_true (by first | (with_reducible assumption) | assumption)
                                      have hcut29 := cut_from (P := Try.prog) 31 50 .i64 Try.underlying31 hi029 2 hsz29 (some ad171) x3_1.length co26 x7_3 q029 q29
                                      have hr29 := Kd.C_drop (m := (x7_3 : Int).toNat) (c := co26) hC29 (by omega) hroom29
                                      obtain ⟨A29, hA29⟩ : ∃ A1, A1 = (if co26 = (x7_3 : Int).toNat then (some ad171) else ((some ad171) : Option Addr).map (·.add ((x7_3 : Int).toNat * 2))) := ⟨_, rfl⟩
                                      obtain ⟨c29, hc29⟩ : ∃ c1, c1 = co26 - (x7_3 : Int).toNat := ⟨_, rfl⟩
                                      have hy29 : y190.length = x3_1.length - (x7_3 : Int).toNat := (by rw [Ny190.out, List.length_drop] <;> omega)
                                      rw [show (x3_1).drop (x7_3 : Int).toNat = y190 from Ny190.out.symm] at hr29
                                      replace hr29 : Kd.C k50 _ A29 y190.length y190 := (by rw [hA29]; exact hr29)
                                      rw [← hy29, ← hA29, ← hc29] at hcut29
                                      have HR193 := Aside0.mk hr29
                                      have HC193 := Aside0.mk (show y190.length ≤ c29 from by rw [hy29, hc29]; exact Nat.sub_le_sub_right hroom29 _)
                                      clear hr29 hC29 hroom29 hi029 hsz29 hc29
                                      have KY29 := Aside0.mk hy29
                                      have KA29 := Aside0.mk hA29
                                      clear hy29 hA29
                                      have KL29 := Aside0.mk (show (x7_3 : Int).toNat ≤ x3_1.length from by omega)
                                      replace q29 := eq_true q29
                                      refine start_ (n := 16) (S := fun w' => w'.cell? (ad172.add ((x10_1).toNat * 2)) = some (.string ((rd_T50 l0 x10_1).f0)) ∧ w'.cell? ⟨(ad172.add ((x10_1).toNat * 2)).block, (ad172.add ((x10_1).toNat * 2)).off + 1, none⟩ = some (.string ((rd_T50 l0 x10_1).f1))) (ds := []) #[false, false, false, false, false, false, false, false, false, false, false, false, false, false, false, false] (by kernel_rfl) rfl rfl ⟨((HB.out.cell (World.block_lt_of_cell? w _ hw183_0)).trans hw183_0), ((HB.out.cell (World.block_lt_of_cell? w _ hw183_1)).trans hw183_1)⟩ (fun hHeld => ?_); refine with_tabW spec_Set.tab14 spec_Set.bits14 (fun HT_ HW_ => ?_)
                                      generalize w25.drew = w27 at HO_3 HB HR179 HR193 hx183_0 hx183_1 hHeld ⊢
                                      refine pure_ (i := 1) (N := some 57) (v := ?_) (a' := ?_) #[false, true, false, false, false, false, false, false, false, false, false, false, false, false, false, false] rfl rfl (any_of HT_.out (by kernel_rfl)) (fun _ _ _ h => h) (Or.inl ⟨by rfl, ?_⟩) ?_ ?_
                                      rotate_left
                                      · intro w'
                                        go_simp
                                        with_reducible rfl
                                      rotate_left
                                      · simp only [Act.put, List.setIfInBounds_toArray, List.set_cons_zero, List.set_cons_succ, i64_w, i32_w]
                                        rfl
                                      refine pure_ (i := 2) (N := some 58) (v := ?_) (a' := ?_) #[false, true, true, false, false, false, false, false, false, false, false, false, false, false, false, false] rfl rfl (any_of HT_.out (by kernel_rfl)) (fun _ _ _ h => h) (Or.inl ⟨by rfl, ?_⟩) ?_ ?_
                                      rotate_left
                                      · intro w'
                                        go_simp
                                        with_reducible rfl
                                      rotate_left
                                      · simp only [Act.put, List.setIfInBounds_toArray, List.set_cons_zero, List.set_cons_succ, i64_w, i32_w]
                                        rfl
                                      refine pure_ (i := 3) (N := some 59) (v := ?_) (a' := ?_) #[false, true, true, true, false, false, false, false, false, false, false, false, false, false, false, false] rfl rfl (any_of HT_.out (by kernel_rfl)) (fun _ _ _ h => h) (Or.inl ⟨by rfl, ?_⟩) ?_ ?_
                                      rotate_left
                                      · intro w'
                                        go_simp
                                        with_reducible rfl
                                      rotate_left
                                      · simp only [Act.put, List.setIfInBounds_toArray, List.set_cons_zero, List.set_cons_succ, i64_w, i32_w]
                                        rfl
                                      refine pure_ (i := 5) (N := some 61) (v := ?_) (a' := ?_) #[false, true, true, true, false, true, false, false, false, false, false, false, false, false, false, false] rfl rfl (any_of HT_.out (by kernel_rfl)) (fun _ _ _ h => h) (Or.inl ⟨by rfl, ?_⟩) ?_ ?_
                                      rotate_left
                                      · intro w'
                                        go_simp
                                        with_reducible rfl
                                      rotate_left
                                      · simp only [Act.put, List.setIfInBounds_toArray, List.set_cons_zero, List.set_cons_succ, i64_w, i32_w]
                                        rfl
                                      refine pure_ (i := 6) (N := some 62) (v := ?_) (a' := ?_) #[false, true, true, true, false, true, true, false, false, false, false, false, false, false, false, false] rfl rfl (any_of HT_.out (by kernel_rfl)) (fun _ _ _ h => h) (Or.inl ⟨by rfl, ?_⟩) ?_ ?_
                                      rotate_left
                                      · intro w'
                                        go_simp
                                        with_reducible rfl
                                      rotate_left
                                      · simp only [Act.put, List.setIfInBounds_toArray, List.set_cons_zero, List.set_cons_succ, i64_w, i32_w]
                                        rfl
                                      refine pure_ (i := 7) (N := some 63) (v := ?_) (a' := ?_) #[false, true, true, true, false, true, true, true, false, false, false, false, false, false, false, false] rfl rfl (any_of HT_.out (by kernel_rfl)) (fun _ _ _ h => h) (Or.inl ⟨by rfl, ?_⟩) ?_ ?_
                                      rotate_left
                                      · intro w'
                                        go_simp
                                        with_reducible rfl
                                      rotate_left
                                      · simp only [Act.put, List.setIfInBounds_toArray, List.set_cons_zero, List.set_cons_succ, i64_w, i32_w]
                                        rfl
                                      refine pure_ (i := 11) (N := some 67) (v := ?_) (a' := ?_) #[false, true, true, true, false, true, true, true, false, false, false, true, false, false, false, false] rfl rfl (any_of HT_.out (by kernel_rfl)) (fun _ _ _ h => h) (Or.inl ⟨by rfl, ?_⟩) ?_ ?_
                                      rotate_left
                                      · intro w'
                                        go_simp
                                        with_reducible rfl
                                      rotate_left
                                      · simp only [Act.put, List.setIfInBounds_toArray, List.set_cons_zero, List.set_cons_succ, i64_w, i32_w]
                                        rfl
                                      refine pure_ (i := 12) (N := some 68) (v := ?_) (a' := ?_) #[false, true, true, true, false, true, true, true, false, false, false, true, true, false, false, false] rfl rfl (any_of HT_.out (by kernel_rfl)) (fun _ _ _ h => h) (Or.inl ⟨by rfl, ?_⟩) ?_ ?_
                                      rotate_left
                                      · intro w'
                                        go_simp
                                        with_reducible rfl
                                      rotate_left
                                      · simp only [Act.put, List.setIfInBounds_toArray, List.set_cons_zero, List.set_cons_succ, i64_w, i32_w]
                                        rfl
                                      refine pure_ (i := 13) (N := some 69) (v := ?_) (a' := ?_) #[false, true, true, true, false, true, true, true, false, false, false, true, true, true, false, false] rfl rfl (any_of HT_.out (by kernel_rfl)) (fun _ _ _ h => h) (Or.inl ⟨by rfl, ?_⟩) ?_ ?_
                                      rotate_left
                                      · intro w'
                                        go_simp
                                        with_reducible rfl
                                      rotate_left
                                      · simp only [Act.put, List.setIfInBounds_toArray, List.set_cons_zero, List.set_cons_succ, i64_w, i32_w]
                                        rfl
                                      refine take_ (i := 8) (N := some 64) (v := ?_) (a' := ?_) #[false, true, true, true, false, true, true, true, true, false, false, true, true, true, false, false] rfl rfl (take_ofW HT_.out HW_.out (by kernel_rfl)) (fun _ _ _ h => h) (Or.inl ⟨by rfl, ?_⟩) hHeld ?_ ?_
                                      rotate_left
                                      · rintro w' ⟨s0, s1⟩
                                        go_simp
                                        with_reducible rfl
                                      rotate_left
                                      · simp only [Act.put, List.setIfInBounds_toArray, List.set_cons_zero, List.set_cons_succ, i64_w, i32_w]
                                        rfl
                                      refine join_ (σ := Value × Value × Value) 3 #[true, true, true, true, true, true, true, true, true, true, false, true, true, true, false, false] (fun s_ => [(56, s_.1), (60, s_.2.1), (65, s_.2.2)]) (fun s_ w' => (w'.cell? (ad172.add ((x10_1).toNat * 2)) = some (.string ((rd_T50 l0 x10_1).f0)) ∧ w'.cell? ⟨(ad172.add ((x10_1).toNat * 2)).block, (ad172.add ((x10_1).toNat * 2)).off + 1, none⟩ = some (.string ((rd_T50 l0 x10_1).f1))) ∧ (Kd.R k50 50 w' w.heap.size (fun k_ => some k_ ≠ (s_.2.2 : Value).ownBlock ∧ some k_ ≠ (.slice (some ad171) x3_1.length co26 : Value).ownBlock) s_.2.1 y180) ∧ (Kd.R k50 50 w' w.heap.size (fun k_ => some k_ ≠ (s_.2.1 : Value).ownBlock ∧ some k_ ≠ (.slice (some ad171) x3_1.length co26 : Value).ownBlock) s_.2.2 y184) ∧ (Kd.R k50 50 w' w.heap.size (fun k_ => some k_ ≠ (s_.2.1 : Value).ownBlock ∧ some k_ ≠ (s_.2.2 : Value).ownBlock) (.slice (some ad171) x3_1.length co26) x3_1) ∧ (Below w.heap.size w w')) ?_ ?_
                                      rotate_left
                                      · intro hCont
                                        refine two_ (i := 0) (j := 9) (Ni := some 56) (Nj := some 65) #[true, true, true, true, false, true, true, true, true, false, false, true, true, true, false, false] #[false, true, true, true, false, true, true, true, true, true, false, true, true, true, false, false] rfl rfl rfl rfl (two_of HT_.out (by kernel_rfl)) (by decide) (by decide) (fun K hK => ?_) (fun K hK => ?_)
                                        · skip
                                          refine Kd.R_lit_step k50 _ 50 ?hg (N := 56) ?hd (xs := ([] : List (S50))) (inner := []) (ok := fun _ => True) (okp := fun _ => True) ?hr ?hp (fun _ hk => hk) trivial (Below.refl _ _) (Nat.le_refl _) (by simp) ?_; (case hd => rfl); (case hg => rfl); (case hr => first | (go_simp; done) | (go_simp; rfl)); (case hp => exact (Reps.none _ _))
                                          intro v174 w30 ho31 hb hg_ hnew_
                                          clear hg_ hnew_
                                          (first | rw [← Ny173.out] at ho31 | (simp only [Int.reduceToNat] at ho31; rw [← Ny173.out] at ho31))
                                          have n0_ := Aside0.mk (Kd.R_elder' (by (with_reducible repeat (first | apply Kd.R_alloc | apply Kd.R_drewN | apply Kd.R_drew)); exact HO_3.out) (Kd.R_base ho31) hb)
                                          have n1_ := Aside0.mk (Kd.R_lower (Kd.R_new' ho31 (Kd.R_lt (by (with_reducible repeat (first | apply Kd.R_alloc | apply Kd.R_drewN | apply Kd.R_drew)); exact HO_3.out))) (below_size (by repeat (first | (with_reducible first | exact HB.out | apply below_alloc | apply pw_below_drewN | apply below_drew1) | exact HB.out))))
                                          have n2_ := Aside0.mk (Kd.C_below (by repeat (first | (with_reducible exact HR179.out) | (with_reducible refine Kd.C_alloc ?_ _) | (with_reducible refine Kd.C_drewN ?_ _) | (with_reducible refine Kd.C_drew ?_) | exact HR179.out)) hb)
                                          have n3_ := Aside0.mk (Kd.C_below (by repeat (first | (with_reducible exact HR193.out) | (with_reducible refine Kd.C_alloc ?_ _) | (with_reducible refine Kd.C_drewN ?_ _) | (with_reducible refine Kd.C_drew ?_) | exact HR193.out)) hb)
                                          have n4_ := Aside0.mk (below_step (by repeat (first | (with_reducible first | exact HB.out | apply below_alloc | apply pw_below_drewN | apply below_drew1) | exact HB.out)) hb)
                                          clear HO_3
                                          clear HR179
                                          clear HR193
                                          clear HB
                                          have HO_3 := n0_
                                          have HO175 := n1_
                                          have HR179 := n2_
                                          have HR193 := n3_
                                          have HB := n4_
                                          clear n0_ n1_ n2_ n3_ n4_
                                          clear hb ho31
                                          refine hK.out _ _ ⟨((HB.out.cell (World.block_lt_of_cell? w _ hw183_0)).trans hw183_0), ((HB.out.cell (World.block_lt_of_cell? w _ hw183_1)).trans hw183_1)⟩ (fun hHeld => ?_)
                                          clear hK K
                                          refine norm_ (a' := ?_) ?_ ?_
                                          rotate_left
                                          · show Act.put _ (some 56) _ = _
                                            simp only [Act.put, List.setIfInBounds_toArray, List.set_cons_zero, List.set_cons_succ, i64_w, i32_w]
                                            rfl
                                          refine two_ (i := 4) (j := 9) (Ni := some 60) (Nj := some 65) #[true, true, true, true, true, true, true, true, true, false, false, true, true, true, false, false] #[true, true, true, true, false, true, true, true, true, true, false, true, true, true, false, false] rfl rfl rfl rfl (two_of HT_.out (by kernel_rfl)) (by decide) (by decide) (fun K hK => ?_) (fun K hK => ?_)
                                          · skip
                                            refine Kd.R_append_rows_step k50 (w0 := w) w.heap.size (by rfl) (.tmp 56) (.tmp 59) 31 50 (.agg #[(.string ⟨#[]⟩), (.string ⟨#[]⟩)]) 32 rfl Try.underlying31 info50 rfl (by decide) (by omega) v174 y173 y176 _ _ _ (fun k_ => some k_ ≠ (.slice (some ad171) x3_1.length co26 : Value).ownBlock) (fun _ => False) rfl rfl ?aO ?aR (fun _ _ h => h) (fun _ h => h.elim) ?aF ?aB ?aS ?aL ?_
                                            (case aR => repeat (first | exact (by repeat (first | (with_reducible exact HR179.out) | (with_reducible refine Kd.C_alloc ?_ _) | (with_reducible refine Kd.C_drewN ?_ _) | (with_reducible refine Kd.C_drew ?_) | exact HR179.out)) | (with_reducible refine Kd.C_alloc ?_ _) | (with_reducible refine Kd.C_drewN ?_ _) | (with_reducible refine Kd.C_drew ?_)))
                                            (case aB => exact (by repeat (first | (with_reducible first | exact HB.out | apply below_alloc | apply pw_below_drewN | apply below_drew1) | exact HB.out)))
                                            (case aF => exact (fun k_ hk => Kd.fresh' (Kd.R_lt (by (with_reducible repeat (first | apply Kd.R_alloc | apply Kd.R_drewN | apply Kd.R_drew)); exact HO_3.out)) k_ hk))
                                            (case aO => exact (by (with_reducible repeat (first | apply Kd.R_alloc | apply Kd.R_drewN | apply Kd.R_drew)); exact Kd.R_mono HO175.out (fun _ hk => hk.2)))
                                            (case aS => exact (below_size (by repeat (first | (with_reducible first | exact HB.out | apply below_alloc | apply pw_below_drewN | apply below_drew1) | exact HB.out))))
                                            (case aL => have := LMc20.out; omega)
                                            intro v181 w32 ho hb hg hat
                                            rw [← Ny180.out] at ho
                                            have n0_ := Aside0.mk (Kd.R_after (ok := (fun _ => True)) (by (with_reducible repeat (first | apply Kd.R_alloc | apply Kd.R_drewN | apply Kd.R_drew)); exact HO_3.out) hg hat)
                                            have n1_ := Aside0.mk (hb)
                                            have n2_ := Aside0.mk ((show Kd.C k50 w32 (some ad171) y176.length y176 from by rw [Ny176.out]; exact Kd.C_take (m := (x7_3 : Int).toNat) ((Kd.R_reads' (Kd.R_after (ok := (fun _ => True)) (by (with_reducible repeat (first | apply Kd.R_alloc | apply Kd.R_drewN | apply Kd.R_drew)); exact HO_3.out) hg hat)).2.2) KL28.out))
                                            have n3_ := Aside0.mk ((show Kd.C k50 w32 A29 y190.length y190 from by rw [Ny190.out, KA29.out]; exact Kd.C_drop (m := (x7_3 : Int).toNat) (c := co26) ((Kd.R_reads' (Kd.R_after (ok := (fun _ => True)) (by (with_reducible repeat (first | apply Kd.R_alloc | apply Kd.R_drewN | apply Kd.R_drew)); exact HO_3.out) hg hat)).2.2) KL29.out ((Kd.R_reads' (Kd.R_after (ok := (fun _ => True)) (by (with_reducible repeat (first | apply Kd.R_alloc | apply Kd.R_drewN | apply Kd.R_drew)); exact HO_3.out) hg hat)).2.1)))
                                            have n4_ := Aside0.mk (ho)
                                            clear HO_3
                                            clear HB
                                            clear HR179
                                            clear HR193
                                            clear HO175
                                            have HO_3 := n0_
                                            have HB := n1_
                                            have HR179 := n2_
                                            have HR193 := n3_
                                            have HO182 := n4_
                                            clear n0_ n1_ n2_ n3_ n4_
                                            clear ho hb hg hat
                                            refine hK.out _ _ ⟨((HB.out.cell (World.block_lt_of_cell? w _ hw183_0)).trans hw183_0), ((HB.out.cell (World.block_lt_of_cell? w _ hw183_1)).trans hw183_1)⟩ (fun hHeld => ?_)
                                            clear hK K
                                            refine norm_ (a' := ?_) ?_ ?_
                                            rotate_left
                                            · show Act.put _ (some 60) _ = _
                                              simp only [Act.put, List.setIfInBounds_toArray, List.set_cons_zero, List.set_cons_succ, i64_w, i32_w]
                                              rfl
                                            refine one_ (i := 9) (N := some 65) #[true, true, true, true, true, true, true, true, true, true, false, true, true, true, false, false] rfl rfl (one_of HT_.out (by kernel_rfl)) (by decide) (fun K hK => ?_)
                                            refine Kd.R_lit_step k50 _ 50 ?hg (N := 65) ?hd (xs := ([(⟨(rd_T50 l0 x10_1).f0, (rd_T50 l0 x10_1).f1⟩ : S50)] : List (S50))) (inner := [.string ((rd_T50 l0 x10_1).f0), .string ((rd_T50 l0 x10_1).f1)]) (ok := fun _ => True) (okp := fun _ => True) ?hr ?hp (fun _ hk => hk) trivial (Below.refl _ _) (Nat.le_refl _) (by simp) ?_; (case hd => rfl); (case hg => rfl); (case hr => first | (go_simp; done) | (go_simp; rfl)); (case hp => exact (Reps.c2 (show Kd.M k50 _ _ _ (⟨(rd_T50 l0 x10_1).f0, (rd_T50 l0 x10_1).f1⟩ : S50) [.string ((rd_T50 l0 x10_1).f0), .string ((rd_T50 l0 x10_1).f1)] from (k50_mkM _ _ _ (⟨(rd_T50 l0 x10_1).f0, (rd_T50 l0 x10_1).f1⟩ : S50) )) (Reps.none _ _)))
                                            intro v185 w33 ho34 hb hg_ hnew_
                                            clear hg_ hnew_
                                            (first | rw [← Ny184.out] at ho34 | (simp only [Int.reduceToNat] at ho34; rw [← Ny184.out] at ho34))
                                            have n0_ := Aside0.mk (Kd.R_elder' (by (with_reducible repeat (first | apply Kd.R_alloc | apply Kd.R_drewN | apply Kd.R_drew)); exact HO_3.out) (Kd.R_base ho34) hb)
                                            have n1_ := Aside0.mk (Kd.R_elder' (by (with_reducible repeat (first | apply Kd.R_alloc | apply Kd.R_drewN | apply Kd.R_drew)); exact HO182.out) (Kd.R_base ho34) hb)
                                            have n2_ := Aside0.mk (Kd.R_lower (Kd.R_new' (Kd.R_new' ho34 (Kd.R_lt (by (with_reducible repeat (first | apply Kd.R_alloc | apply Kd.R_drewN | apply Kd.R_drew)); exact HO_3.out))) (Kd.R_lt (by (with_reducible repeat (first | apply Kd.R_alloc | apply Kd.R_drewN | apply Kd.R_drew)); exact HO182.out))) (below_size (by repeat (first | (with_reducible first | exact HB.out | apply below_alloc | apply pw_below_drewN | apply below_drew1) | exact HB.out))))
                                            have n3_ := Aside0.mk (Kd.C_below (by repeat (first | (with_reducible exact HR179.out) | (with_reducible refine Kd.C_alloc ?_ _) | (with_reducible refine Kd.C_drewN ?_ _) | (with_reducible refine Kd.C_drew ?_) | exact HR179.out)) hb)
                                            have n4_ := Aside0.mk (Kd.C_below (by repeat (first | (with_reducible exact HR193.out) | (with_reducible refine Kd.C_alloc ?_ _) | (with_reducible refine Kd.C_drewN ?_ _) | (with_reducible refine Kd.C_drew ?_) | exact HR193.out)) hb)
                                            have n5_ := Aside0.mk (below_step (by repeat (first | (with_reducible first | exact HB.out | apply below_alloc | apply pw_below_drewN | apply below_drew1) | exact HB.out)) hb)
                                            clear HO_3
                                            clear HO182
                                            clear HR179
                                            clear HR193
                                            clear HB
                                            have HO_3 := n0_
                                            have HO182 := n1_
                                            have HO186 := n2_
                                            have HR179 := n3_
                                            have HR193 := n4_
                                            have HB := n5_
                                            clear n0_ n1_ n2_ n3_ n4_ n5_
                                            clear hb ho34
                                            refine hK.out _ _ ⟨((HB.out.cell (World.block_lt_of_cell? w _ hw183_0)).trans hw183_0), ((HB.out.cell (World.block_lt_of_cell? w _ hw183_1)).trans hw183_1)⟩ (fun hHeld => ?_)
                                            clear hK K
                                            refine norm_ (a' := ?_) ?_ ?_
                                            rotate_left
                                            · show Act.put _ (some 65) _ = _
                                              simp only [Act.put, List.setIfInBounds_toArray, List.set_cons_zero, List.set_cons_succ, i64_w, i32_w]
                                              rfl
                                            exact norm_ (by simp only [putAll, Act.put, List.setIfInBounds_toArray, List.set_cons_zero, List.set_cons_succ]) (hCont (v174, v181, v185) _ ⟨hHeld, (by (with_reducible repeat (first | apply Kd.R_alloc | apply Kd.R_drewN | apply Kd.R_drew)); exact Kd.R_mono HO182.out (fun _ hk => ⟨hk.2, hk.1⟩)), (by (with_reducible repeat (first | apply Kd.R_alloc | apply Kd.R_drewN | apply Kd.R_drew)); exact Kd.R_mono HO186.out (fun _ hk => ⟨hk.2, hk.1.2⟩)), (by (with_reducible repeat (first | apply Kd.R_alloc | apply Kd.R_drewN | apply Kd.R_drew)); exact Kd.R_mono HO_3.out (fun _ hk => ⟨hk.1.2, hk.2⟩)), (by repeat (first | (with_reducible first | exact HB.out | apply below_alloc | apply pw_below_drewN | apply below_drew1) | exact HB.out))⟩)
                                          · skip
                                            refine Kd.R_lit_step k50 _ 50 ?hg (N := 65) ?hd (xs := ([(⟨(rd_T50 l0 x10_1).f0, (rd_T50 l0 x10_1).f1⟩ : S50)] : List (S50))) (inner := [.string ((rd_T50 l0 x10_1).f0), .string ((rd_T50 l0 x10_1).f1)]) (ok := fun _ => True) (okp := fun _ => True) ?hr ?hp (fun _ hk => hk) trivial (Below.refl _ _) (Nat.le_refl _) (by simp) ?_; (case hd => rfl); (case hg => rfl); (case hr => first | (go_simp; done) | (go_simp; rfl)); (case hp => exact (Reps.c2 (show Kd.M k50 _ _ _ (⟨(rd_T50 l0 x10_1).f0, (rd_T50 l0 x10_1).f1⟩ : S50) [.string ((rd_T50 l0 x10_1).f0), .string ((rd_T50 l0 x10_1).f1)] from (k50_mkM _ _ _ (⟨(rd_T50 l0 x10_1).f0, (rd_T50 l0 x10_1).f1⟩ : S50) )) (Reps.none _ _)))
                                            intro v185 w32 ho33 hb hg_ hnew_
                                            clear hg_ hnew_
                                            (first | rw [← Ny184.out] at ho33 | (simp only [Int.reduceToNat] at ho33; rw [← Ny184.out] at ho33))
                                            have n0_ := Aside0.mk (Kd.R_elder' (by (with_reducible repeat (first | apply Kd.R_alloc | apply Kd.R_drewN | apply Kd.R_drew)); exact HO_3.out) (Kd.R_base ho33) hb)
                                            have n1_ := Aside0.mk (Kd.R_elder' (by (with_reducible repeat (first | apply Kd.R_alloc | apply Kd.R_drewN | apply Kd.R_drew)); exact HO175.out) (Kd.R_base ho33) hb)
                                            have n2_ := Aside0.mk (Kd.R_lower (Kd.R_new' (Kd.R_new' ho33 (Kd.R_lt (by (with_reducible repeat (first | apply Kd.R_alloc | apply Kd.R_drewN | apply Kd.R_drew)); exact HO_3.out))) (Kd.R_lt (by (with_reducible repeat (first | apply Kd.R_alloc | apply Kd.R_drewN | apply Kd.R_drew)); exact HO175.out))) (below_size (by repeat (first | (with_reducible first | exact HB.out | apply below_alloc | apply pw_below_drewN | apply below_drew1) | exact HB.out))))
                                            have n3_ := Aside0.mk (Kd.C_below (by repeat (first | (with_reducible exact HR179.out) | (with_reducible refine Kd.C_alloc ?_ _) | (with_reducible refine Kd.C_drewN ?_ _) | (with_reducible refine Kd.C_drew ?_) | exact HR179.out)) hb)
                                            have n4_ := Aside0.mk (Kd.C_below (by repeat (first | (with_reducible exact HR193.out) | (with_reducible refine Kd.C_alloc ?_ _) | (with_reducible refine Kd.C_drewN ?_ _) | (with_reducible refine Kd.C_drew ?_) | exact HR193.out)) hb)
                                            have n5_ := Aside0.mk (below_step (by repeat (first | (with_reducible first | exact HB.out | apply below_alloc | apply pw_below_drewN | apply below_drew1) | exact HB.out)) hb)
                                            clear HO_3
                                            clear HO175
                                            clear HR179
                                            clear HR193
                                            clear HB
                                            have HO_3 := n0_
                                            have HO175 := n1_
                                            have HO186 := n2_
                                            have HR179 := n3_
                                            have HR193 := n4_
                                            have HB := n5_
                                            clear n0_ n1_ n2_ n3_ n4_ n5_
                                            clear hb ho33
                                            refine hK.out _ _ ⟨((HB.out.cell (World.block_lt_of_cell? w _ hw183_0)).trans hw183_0), ((HB.out.cell (World.block_lt_of_cell? w _ hw183_1)).trans hw183_1)⟩ (fun hHeld => ?_)
                                            clear hK K
                                            refine norm_ (a' := ?_) ?_ ?_
                                            rotate_left
                                            · show Act.put _ (some 65) _ = _
                                              simp only [Act.put, List.setIfInBounds_toArray, List.set_cons_zero, List.set_cons_succ, i64_w, i32_w]
                                              rfl
                                            refine one_ (i := 4) (N := some 60) #[true, true, true, true, true, true, true, true, true, true, false, true, true, true, false, false] rfl rfl (one_of HT_.out (by kernel_rfl)) (by decide) (fun K hK => ?_)
                                            refine Kd.R_append_rows_step k50 (w0 := w) w.heap.size (by rfl) (.tmp 56) (.tmp 59) 31 50 (.agg #[(.string ⟨#[]⟩), (.string ⟨#[]⟩)]) 32 rfl Try.underlying31 info50 rfl (by decide) (by omega) v174 y173 y176 _ _ _ (fun k_ => some k_ ≠ (.slice (some ad171) x3_1.length co26 : Value).ownBlock ∧ some k_ ≠ (v185 : Value).ownBlock) (fun _ => False) rfl rfl ?aO ?aR (fun _ _ h => h) (fun _ h => h.elim) ?aF ?aB ?aS ?aL ?_
                                            (case aR => repeat (first | exact (by repeat (first | (with_reducible exact HR179.out) | (with_reducible refine Kd.C_alloc ?_ _) | (with_reducible refine Kd.C_drewN ?_ _) | (with_reducible refine Kd.C_drew ?_) | exact HR179.out)) | (with_reducible refine Kd.C_alloc ?_ _) | (with_reducible refine Kd.C_drewN ?_ _) | (with_reducible refine Kd.C_drew ?_)))
                                            (case aB => exact (by repeat (first | (with_reducible first | exact HB.out | apply below_alloc | apply pw_below_drewN | apply below_drew1) | exact HB.out)))
                                            (case aF => exact (fun k_ hk => ⟨Kd.fresh' (Kd.R_lt (by (with_reducible repeat (first | apply Kd.R_alloc | apply Kd.R_drewN | apply Kd.R_drew)); exact HO_3.out)) k_ hk, Kd.fresh' (Kd.R_lt (by (with_reducible repeat (first | apply Kd.R_alloc | apply Kd.R_drewN | apply Kd.R_drew)); exact HO186.out)) k_ hk⟩))
                                            (case aO => exact (by (with_reducible repeat (first | apply Kd.R_alloc | apply Kd.R_drewN | apply Kd.R_drew)); exact Kd.R_mono HO175.out (fun _ hk => ⟨hk.1.2, hk.2⟩)))
                                            (case aS => exact (below_size (by repeat (first | (with_reducible first | exact HB.out | apply below_alloc | apply pw_below_drewN | apply below_drew1) | exact HB.out))))
                                            (case aL => have := LMc20.out; omega)
                                            intro v181 w34 ho hb hg hat
                                            rw [← Ny180.out] at ho
                                            have n0_ := Aside0.mk (Kd.R_after (ok := (fun k_ => some k_ ≠ (v185 : Value).ownBlock)) (by (with_reducible repeat (first | apply Kd.R_alloc | apply Kd.R_drewN | apply Kd.R_drew)); exact Kd.R_mono HO_3.out (fun _ hk => ⟨hk.2, hk.1.2⟩)) hg hat)
                                            have n1_ := Aside0.mk (Kd.R_after (ok := (fun k_ => some k_ ≠ (.slice (some ad171) x3_1.length co26 : Value).ownBlock)) (by (with_reducible repeat (first | apply Kd.R_alloc | apply Kd.R_drewN | apply Kd.R_drew)); exact Kd.R_mono HO186.out (fun _ hk => ⟨hk.1.2, hk.2⟩)) hg hat)
                                            have n2_ := Aside0.mk (hb)
                                            have n3_ := Aside0.mk ((show Kd.C k50 w34 (some ad171) y176.length y176 from by rw [Ny176.out]; exact Kd.C_take (m := (x7_3 : Int).toNat) ((Kd.R_reads' (Kd.R_after (ok := (fun k_ => some k_ ≠ (v185 : Value).ownBlock)) (by (with_reducible repeat (first | apply Kd.R_alloc | apply Kd.R_drewN | apply Kd.R_drew)); exact Kd.R_mono HO_3.out (fun _ hk => ⟨hk.2, hk.1.2⟩)) hg hat)).2.2) KL28.out))
                                            have n4_ := Aside0.mk ((show Kd.C k50 w34 A29 y190.length y190 from by rw [Ny190.out, KA29.out]; exact Kd.C_drop (m := (x7_3 : Int).toNat) (c := co26) ((Kd.R_reads' (Kd.R_after (ok := (fun k_ => some k_ ≠ (v185 : Value).ownBlock)) (by (with_reducible repeat (first | apply Kd.R_alloc | apply Kd.R_drewN | apply Kd.R_drew)); exact Kd.R_mono HO_3.out (fun _ hk => ⟨hk.2, hk.1.2⟩)) hg hat)).2.2) KL29.out ((Kd.R_reads' (Kd.R_after (ok := (fun k_ => some k_ ≠ (v185 : Value).ownBlock)) (by (with_reducible repeat (first | apply Kd.R_alloc | apply Kd.R_drewN | apply Kd.R_drew)); exact Kd.R_mono HO_3.out (fun _ hk => ⟨hk.2, hk.1.2⟩)) hg hat)).2.1)))
                                            have n5_ := Aside0.mk (ho)
                                            clear HO_3
                                            clear HO186
                                            clear HB
                                            clear HR179
                                            clear HR193
                                            clear HO175
                                            have HO_3 := n0_
                                            have HO186 := n1_
                                            have HB := n2_
                                            have HR179 := n3_
                                            have HR193 := n4_
                                            have HO182 := n5_
                                            clear n0_ n1_ n2_ n3_ n4_ n5_
                                            clear ho hb hg hat
                                            refine hK.out _ _ ⟨((HB.out.cell (World.block_lt_of_cell? w _ hw183_0)).trans hw183_0), ((HB.out.cell (World.block_lt_of_cell? w _ hw183_1)).trans hw183_1)⟩ (fun hHeld => ?_)
                                            clear hK K
                                            refine norm_ (a' := ?_) ?_ ?_
                                            rotate_left
                                            · show Act.put _ (some 60) _ = _
                                              simp only [Act.put, List.setIfInBounds_toArray, List.set_cons_zero, List.set_cons_succ, i64_w, i32_w]
                                              rfl
                                            exact norm_ (by simp only [putAll, Act.put, List.setIfInBounds_toArray, List.set_cons_zero, List.set_cons_succ]) (hCont (v174, v181, v185) _ ⟨hHeld, (by (with_reducible repeat (first | apply Kd.R_alloc | apply Kd.R_drewN | apply Kd.R_drew)); exact Kd.R_mono HO182.out (fun _ hk => ⟨hk.2, hk.1⟩)), (by (with_reducible repeat (first | apply Kd.R_alloc | apply Kd.R_drewN | apply Kd.R_drew)); exact Kd.R_mono HO186.out (fun _ hk => ⟨hk.2, hk.1⟩)), (by (with_reducible repeat (first | apply Kd.R_alloc | apply Kd.R_drewN | apply Kd.R_drew)); exact Kd.R_mono HO_3.out (fun _ hk => ⟨hk.2, hk.1⟩)), (by repeat (first | (with_reducible first | exact HB.out | apply below_alloc | apply pw_below_drewN | apply below_drew1) | exact HB.out))⟩)
                                        · skip
                                          refine Kd.R_lit_step k50 _ 50 ?hg (N := 65) ?hd (xs := ([(⟨(rd_T50 l0 x10_1).f0, (rd_T50 l0 x10_1).f1⟩ : S50)] : List (S50))) (inner := [.string ((rd_T50 l0 x10_1).f0), .string ((rd_T50 l0 x10_1).f1)]) (ok := fun _ => True) (okp := fun _ => True) ?hr ?hp (fun _ hk => hk) trivial (Below.refl _ _) (Nat.le_refl _) (by simp) ?_; (case hd => rfl); (case hg => rfl); (case hr => first | (go_simp; done) | (go_simp; rfl)); (case hp => exact (Reps.c2 (show Kd.M k50 _ _ _ (⟨(rd_T50 l0 x10_1).f0, (rd_T50 l0 x10_1).f1⟩ : S50) [.string ((rd_T50 l0 x10_1).f0), .string ((rd_T50 l0 x10_1).f1)] from (k50_mkM _ _ _ (⟨(rd_T50 l0 x10_1).f0, (rd_T50 l0 x10_1).f1⟩ : S50) )) (Reps.none _ _)))
                                          intro v185 w30 ho31 hb hg_ hnew_
                                          clear hg_ hnew_
                                          (first | rw [← Ny184.out] at ho31 | (simp only [Int.reduceToNat] at ho31; rw [← Ny184.out] at ho31))
                                          have n0_ := Aside0.mk (Kd.R_elder' (by (with_reducible repeat (first | apply Kd.R_alloc | apply Kd.R_drewN | apply Kd.R_drew)); exact HO_3.out) (Kd.R_base ho31) hb)
                                          have n1_ := Aside0.mk (Kd.R_lower (Kd.R_new' ho31 (Kd.R_lt (by (with_reducible repeat (first | apply Kd.R_alloc | apply Kd.R_drewN | apply Kd.R_drew)); exact HO_3.out))) (below_size (by repeat (first | (with_reducible first | exact HB.out | apply below_alloc | apply pw_below_drewN | apply below_drew1) | exact HB.out))))
                                          have n2_ := Aside0.mk (Kd.C_below (by repeat (first | (with_reducible exact HR179.out) | (with_reducible refine Kd.C_alloc ?_ _) | (with_reducible refine Kd.C_drewN ?_ _) | (with_reducible refine Kd.C_drew ?_) | exact HR179.out)) hb)
                                          have n3_ := Aside0.mk (Kd.C_below (by repeat (first | (with_reducible exact HR193.out) | (with_reducible refine Kd.C_alloc ?_ _) | (with_reducible refine Kd.C_drewN ?_ _) | (with_reducible refine Kd.C_drew ?_) | exact HR193.out)) hb)
                                          have n4_ := Aside0.mk (below_step (by repeat (first | (with_reducible first | exact HB.out | apply below_alloc | apply pw_below_drewN | apply below_drew1) | exact HB.out)) hb)
                                          clear HO_3
                                          clear HR179
                                          clear HR193
                                          clear HB
                                          have HO_3 := n0_
                                          have HO186 := n1_
                                          have HR179 := n2_
                                          have HR193 := n3_
                                          have HB := n4_
                                          clear n0_ n1_ n2_ n3_ n4_
                                          clear hb ho31
                                          refine hK.out _ _ ⟨((HB.out.cell (World.block_lt_of_cell? w _ hw183_0)).trans hw183_0), ((HB.out.cell (World.block_lt_of_cell? w _ hw183_1)).trans hw183_1)⟩ (fun hHeld => ?_)
                                          clear hK K
                                          refine norm_ (a' := ?_) ?_ ?_
                                          rotate_left
                                          · show Act.put _ (some 65) _ = _
                                            simp only [Act.put, List.setIfInBounds_toArray, List.set_cons_zero, List.set_cons_succ, i64_w, i32_w]
                                            rfl
                                          refine one_ (i := 0) (N := some 56) #[true, true, true, true, false, true, true, true, true, true, false, true, true, true, false, false] rfl rfl (one_of HT_.out (by kernel_rfl)) (by decide) (fun K hK => ?_)
                                          refine Kd.R_lit_step k50 _ 50 ?hg (N := 56) ?hd (xs := ([] : List (S50))) (inner := []) (ok := fun _ => True) (okp := fun _ => True) ?hr ?hp (fun _ hk => hk) trivial (Below.refl _ _) (Nat.le_refl _) (by simp) ?_; (case hd => rfl); (case hg => rfl); (case hr => first | (go_simp; done) | (go_simp; rfl)); (case hp => exact (Reps.none _ _))
                                          intro v174 w32 ho33 hb hg_ hnew_
                                          clear hg_ hnew_
                                          (first | rw [← Ny173.out] at ho33 | (simp only [Int.reduceToNat] at ho33; rw [← Ny173.out] at ho33))
                                          have n0_ := Aside0.mk (Kd.R_elder' (by (with_reducible repeat (first | apply Kd.R_alloc | apply Kd.R_drewN | apply Kd.R_drew)); exact HO_3.out) (Kd.R_base ho33) hb)
                                          have n1_ := Aside0.mk (Kd.R_elder' (by (with_reducible repeat (first | apply Kd.R_alloc | apply Kd.R_drewN | apply Kd.R_drew)); exact HO186.out) (Kd.R_base ho33) hb)
                                          have n2_ := Aside0.mk (Kd.R_lower (Kd.R_new' (Kd.R_new' ho33 (Kd.R_lt (by (with_reducible repeat (first | apply Kd.R_alloc | apply Kd.R_drewN | apply Kd.R_drew)); exact HO_3.out))) (Kd.R_lt (by (with_reducible repeat (first | apply Kd.R_alloc | apply Kd.R_drewN | apply Kd.R_drew)); exact HO186.out))) (below_size (by repeat (first | (with_reducible first | exact HB.out | apply below_alloc | apply pw_below_drewN | apply below_drew1) | exact HB.out))))
                                          have n3_ := Aside0.mk (Kd.C_below (by repeat (first | (with_reducible exact HR179.out) | (with_reducible refine Kd.C_alloc ?_ _) | (with_reducible refine Kd.C_drewN ?_ _) | (with_reducible refine Kd.C_drew ?_) | exact HR179.out)) hb)
                                          have n4_ := Aside0.mk (Kd.C_below (by repeat (first | (with_reducible exact HR193.out) | (with_reducible refine Kd.C_alloc ?_ _) | (with_reducible refine Kd.C_drewN ?_ _) | (with_reducible refine Kd.C_drew ?_) | exact HR193.out)) hb)
                                          have n5_ := Aside0.mk (below_step (by repeat (first | (with_reducible first | exact HB.out | apply below_alloc | apply pw_below_drewN | apply below_drew1) | exact HB.out)) hb)
                                          clear HO_3
                                          clear HO186
                                          clear HR179
                                          clear HR193
                                          clear HB
                                          have HO_3 := n0_
                                          have HO186 := n1_
                                          have HO175 := n2_
                                          have HR179 := n3_
                                          have HR193 := n4_
                                          have HB := n5_
                                          clear n0_ n1_ n2_ n3_ n4_ n5_
                                          clear hb ho33
                                          refine hK.out _ _ ⟨((HB.out.cell (World.block_lt_of_cell? w _ hw183_0)).trans hw183_0), ((HB.out.cell (World.block_lt_of_cell? w _ hw183_1)).trans hw183_1)⟩ (fun hHeld => ?_)
                                          clear hK K
                                          refine norm_ (a' := ?_) ?_ ?_
                                          rotate_left
                                          · show Act.put _ (some 56) _ = _
                                            simp only [Act.put, List.setIfInBounds_toArray, List.set_cons_zero, List.set_cons_succ, i64_w, i32_w]
                                            rfl
                                          refine one_ (i := 4) (N := some 60) #[true, true, true, true, true, true, true, true, true, true, false, true, true, true, false, false] rfl rfl (one_of HT_.out (by kernel_rfl)) (by decide) (fun K hK => ?_)
                                          refine Kd.R_append_rows_step k50 (w0 := w) w.heap.size (by rfl) (.tmp 56) (.tmp 59) 31 50 (.agg #[(.string ⟨#[]⟩), (.string ⟨#[]⟩)]) 32 rfl Try.underlying31 info50 rfl (by decide) (by omega) v174 y173 y176 _ _ _ (fun k_ => some k_ ≠ (.slice (some ad171) x3_1.length co26 : Value).ownBlock ∧ some k_ ≠ (v185 : Value).ownBlock) (fun _ => False) rfl rfl ?aO ?aR (fun _ _ h => h) (fun _ h => h.elim) ?aF ?aB ?aS ?aL ?_
                                          (case aR => repeat (first | exact (by repeat (first | (with_reducible exact HR179.out) | (with_reducible refine Kd.C_alloc ?_ _) | (with_reducible refine Kd.C_drewN ?_ _) | (with_reducible refine Kd.C_drew ?_) | exact HR179.out)) | (with_reducible refine Kd.C_alloc ?_ _) | (with_reducible refine Kd.C_drewN ?_ _) | (with_reducible refine Kd.C_drew ?_)))
                                          (case aB => exact (by repeat (first | (with_reducible first | exact HB.out | apply below_alloc | apply pw_below_drewN | apply below_drew1) | exact HB.out)))
                                          (case aF => exact (fun k_ hk => ⟨Kd.fresh' (Kd.R_lt (by (with_reducible repeat (first | apply Kd.R_alloc | apply Kd.R_drewN | apply Kd.R_drew)); exact HO_3.out)) k_ hk, Kd.fresh' (Kd.R_lt (by (with_reducible repeat (first | apply Kd.R_alloc | apply Kd.R_drewN | apply Kd.R_drew)); exact HO186.out)) k_ hk⟩))
                                          (case aO => exact (by (with_reducible repeat (first | apply Kd.R_alloc | apply Kd.R_drewN | apply Kd.R_drew)); exact Kd.R_mono HO175.out (fun _ hk => ⟨hk.1.2, hk.2⟩)))
                                          (case aS => exact (below_size (by repeat (first | (with_reducible first | exact HB.out | apply below_alloc | apply pw_below_drewN | apply below_drew1) | exact HB.out))))
                                          (case aL => have := LMc20.out; omega)
                                          intro v181 w34 ho hb hg hat
                                          rw [← Ny180.out] at ho
                                          have n0_ := Aside0.mk (Kd.R_after (ok := (fun k_ => some k_ ≠ (v185 : Value).ownBlock)) (by (with_reducible repeat (first | apply Kd.R_alloc | apply Kd.R_drewN | apply Kd.R_drew)); exact Kd.R_mono HO_3.out (fun _ hk => ⟨hk.1.2, hk.2⟩)) hg hat)
                                          have n1_ := Aside0.mk (Kd.R_after (ok := (fun k_ => some k_ ≠ (.slice (some ad171) x3_1.length co26 : Value).ownBlock)) (by (with_reducible repeat (first | apply Kd.R_alloc | apply Kd.R_drewN | apply Kd.R_drew)); exact Kd.R_mono HO186.out (fun _ hk => ⟨hk.1.2, hk.2⟩)) hg hat)
                                          have n2_ := Aside0.mk (hb)
                                          have n3_ := Aside0.mk ((show Kd.C k50 w34 (some ad171) y176.length y176 from by rw [Ny176.out]; exact Kd.C_take (m := (x7_3 : Int).toNat) ((Kd.R_reads' (Kd.R_after (ok := (fun k_ => some k_ ≠ (v185 : Value).ownBlock)) (by (with_reducible repeat (first | apply Kd.R_alloc | apply Kd.R_drewN | apply Kd.R_drew)); exact Kd.R_mono HO_3.out (fun _ hk => ⟨hk.1.2, hk.2⟩)) hg hat)).2.2) KL28.out))
                                          have n4_ := Aside0.mk ((show Kd.C k50 w34 A29 y190.length y190 from by rw [Ny190.out, KA29.out]; exact Kd.C_drop (m := (x7_3 : Int).toNat) (c := co26) ((Kd.R_reads' (Kd.R_after (ok := (fun k_ => some k_ ≠ (v185 : Value).ownBlock)) (by (with_reducible repeat (first | apply Kd.R_alloc | apply Kd.R_drewN | apply Kd.R_drew)); exact Kd.R_mono HO_3.out (fun _ hk => ⟨hk.1.2, hk.2⟩)) hg hat)).2.2) KL29.out ((Kd.R_reads' (Kd.R_after (ok := (fun k_ => some k_ ≠ (v185 : Value).ownBlock)) (by (with_reducible repeat (first | apply Kd.R_alloc | apply Kd.R_drewN | apply Kd.R_drew)); exact Kd.R_mono HO_3.out (fun _ hk => ⟨hk.1.2, hk.2⟩)) hg hat)).2.1)))
                                          have n5_ := Aside0.mk (ho)
                                          clear HO_3
                                          clear HO186
                                          clear HB
                                          clear HR179
                                          clear HR193
                                          clear HO175
                                          have HO_3 := n0_
                                          have HO186 := n1_
                                          have HB := n2_
                                          have HR179 := n3_
                                          have HR193 := n4_
                                          have HO182 := n5_
                                          clear n0_ n1_ n2_ n3_ n4_ n5_
                                          clear ho hb hg hat
                                          refine hK.out _ _ ⟨((HB.out.cell (World.block_lt_of_cell? w _ hw183_0)).trans hw183_0), ((HB.out.cell (World.block_lt_of_cell? w _ hw183_1)).trans hw183_1)⟩ (fun hHeld => ?_)
                                          clear hK K
                                          refine norm_ (a' := ?_) ?_ ?_
                                          rotate_left
                                          · show Act.put _ (some 60) _ = _
                                            simp only [Act.put, List.setIfInBounds_toArray, List.set_cons_zero, List.set_cons_succ, i64_w, i32_w]
                                            rfl
                                          exact norm_ (by simp only [putAll, Act.put, List.setIfInBounds_toArray, List.set_cons_zero, List.set_cons_succ]) (hCont (v174, v181, v185) _ ⟨hHeld, (by (with_reducible repeat (first | apply Kd.R_alloc | apply Kd.R_drewN | apply Kd.R_drew)); exact Kd.R_mono HO182.out (fun _ hk => ⟨hk.2, hk.1⟩)), (by (with_reducible repeat (first | apply Kd.R_alloc | apply Kd.R_drewN | apply Kd.R_drew)); exact Kd.R_mono HO186.out (fun _ hk => ⟨hk.2, hk.1⟩)), (by (with_reducible repeat (first | apply Kd.R_alloc | apply Kd.R_drewN | apply Kd.R_drew)); exact Kd.R_mono HO_3.out (fun _ hk => ⟨hk.2, hk.1⟩)), (by repeat (first | (with_reducible first | exact HB.out | apply below_alloc | apply pw_below_drewN | apply below_drew1) | exact HB.out))⟩)
                                      rintro ⟨v174, v181, v185⟩ w35 ⟨hS_, h0_, h1_, h2_, h3_⟩
                                      have n0_ : Aside0 (Kd.R k50 50 w35 w.heap.size (fun k_ => some k_ ≠ (v185 : Value).ownBlock ∧ some k_ ≠ (.slice (some ad171) x3_1.length co26 : Value).ownBlock) v181 y180) := ⟨h0_⟩
                                      have n1_ : Aside0 (Kd.R k50 50 w35 w.heap.size (fun k_ => some k_ ≠ (v181 : Value).ownBlock ∧ some k_ ≠ (.slice (some ad171) x3_1.length co26 : Value).ownBlock) v185 y184) := ⟨h1_⟩
                                      have n2_ : Aside0 (Kd.R k50 50 w35 w.heap.size (fun k_ => some k_ ≠ (v181 : Value).ownBlock ∧ some k_ ≠ (v185 : Value).ownBlock) (.slice (some ad171) x3_1.length co26) x3_1) := ⟨h2_⟩
                                      have n3_ : Aside0 (Below w.heap.size w w35) := ⟨h3_⟩
                                      clear HO_3
                                      clear HB
                                      clear h0_ h1_ h2_ h3_
                                      have HO182 := n0_
                                      have HO186 := n1_
                                      have HO_3 := n2_
                                      have HB := n3_
                                      clear n0_ n1_ n2_ n3_
                                      have hHeld : w35.cell? (ad172.add ((x10_1).toNat * 2)) = some (.string ((rd_T50 l0 x10_1).f0)) ∧ w35.cell? ⟨(ad172.add ((x10_1).toNat * 2)).block, (ad172.add ((x10_1).toNat * 2)).off + 1, none⟩ = some (.string ((rd_T50 l0 x10_1).f1)) := hS_
                                      have HR179 := Aside0.mk (show Kd.C k50 w35 (some ad171) y176.length y176 from by rw [Ny176.out]; exact Kd.C_take (m := (x7_3 : Int).toNat) ((Kd.R_reads' (HO_3.out)).2.2) KL28.out)
                                      have HR193 := Aside0.mk (show Kd.C k50 w35 A29 y190.length y190 from by rw [Ny190.out, KA29.out]; exact Kd.C_drop (m := (x7_3 : Int).toNat) (c := co26) ((Kd.R_reads' (HO_3.out)).2.2) KL29.out ((Kd.R_reads' (HO_3.out)).2.1))
                                      obtain ⟨Ao37, co37, eo37⟩ := Kd.R_slice HO186.out
                                      (first | subst eo37 | (injection eo37 with f1_ f2_ f3_; have f4_ := f1_.symm; have f5_ := f3_.symm; clear f1_ f2_ f3_; subst f4_; subst f5_))
                                      refine norm_ (a' := ?_) ?_ ?_
                                      rotate_left
                                      · simp only [putAll, Act.put, List.setIfInBounds_toArray, List.set_cons_zero, List.set_cons_succ]
                                        rfl
                                      refine one_ (i := 10) (N := some 66) #[true, true, true, true, true, true, true, true, true, true, true, true, true, true, false, false] rfl rfl (one_of HT_.out (by kernel_rfl)) (by decide) (fun K hK => ?_)
                                      refine Kd.R_append_rows_step k50 (w0 := w) w.heap.size (by rfl) (.tmp 60) (.tmp 65) 31 50 (.agg #[(.string ⟨#[]⟩), (.string ⟨#[]⟩)]) 32 rfl Try.underlying31 info50 rfl (by decide) (by omega) v181 y180 y184 _ _ _ (fun k_ => some k_ ≠ (.slice (some ad171) x3_1.length co26 : Value).ownBlock ∧ some k_ ≠ (.slice Ao37 y184.length co37 : Value).ownBlock) (fun _ => False) rfl rfl ?aO ?aR (fun _ _ h => h) (fun _ h => h.elim) ?aF ?aB ?aS ?aL ?_
                                      (case aR => repeat (first | exact (Kd.R_reads' HO186.out).2.2 | (with_reducible refine Kd.C_alloc ?_ _) | (with_reducible refine Kd.C_drewN ?_ _) | (with_reducible refine Kd.C_drew ?_)))
                                      (case aB => exact (by repeat (first | (with_reducible first | exact HB.out | apply below_alloc | apply pw_below_drewN | apply below_drew1) | exact HB.out)))
                                      (case aF => exact (fun k_ hk => ⟨Kd.fresh' (Kd.R_lt (by (with_reducible repeat (first | apply Kd.R_alloc | apply Kd.R_drewN | apply Kd.R_drew)); exact HO_3.out)) k_ hk, Kd.fresh' (Kd.R_lt (by (with_reducible repeat (first | apply Kd.R_alloc | apply Kd.R_drewN | apply Kd.R_drew)); exact HO186.out)) k_ hk⟩))
                                      (case aO => exact (by (with_reducible repeat (first | apply Kd.R_alloc | apply Kd.R_drewN | apply Kd.R_drew)); exact Kd.R_mono HO182.out (fun _ hk => ⟨hk.2, hk.1⟩)))
                                      (case aS => exact (below_size (by repeat (first | (with_reducible first | exact HB.out | apply below_alloc | apply pw_below_drewN | apply below_drew1) | exact HB.out))))
                                      (case aL => have := LMc21.out; omega)
                                      intro v188 w36 ho hb hg hat
                                      rw [← Ny187.out] at ho
                                      have n0_ := Aside0.mk (Kd.R_after (ok := (fun k_ => some k_ ≠ (.slice Ao37 y184.length co37 : Value).ownBlock)) (by (with_reducible repeat (first | apply Kd.R_alloc | apply Kd.R_drewN | apply Kd.R_drew)); exact Kd.R_mono HO_3.out (fun _ hk => ⟨hk.2, hk.1⟩)) hg hat)
                                      have n1_ := Aside0.mk (Kd.R_after (ok := (fun k_ => some k_ ≠ (.slice (some ad171) x3_1.length co26 : Value).ownBlock)) (by (with_reducible repeat (first | apply Kd.R_alloc | apply Kd.R_drewN | apply Kd.R_drew)); exact Kd.R_mono HO186.out (fun _ hk => ⟨hk.2, hk.1⟩)) hg hat)
                                      have n2_ := Aside0.mk (hb)
                                      have n3_ := Aside0.mk ((show Kd.C k50 w36 (some ad171) y176.length y176 from by rw [Ny176.out]; exact Kd.C_take (m := (x7_3 : Int).toNat) ((Kd.R_reads' (Kd.R_after (ok := (fun k_ => some k_ ≠ (.slice Ao37 y184.length co37 : Value).ownBlock)) (by (with_reducible repeat (first | apply Kd.R_alloc | apply Kd.R_drewN | apply Kd.R_drew)); exact Kd.R_mono HO_3.out (fun _ hk => ⟨hk.2, hk.1⟩)) hg hat)).2.2) KL28.out))
                                      have n4_ := Aside0.mk ((show Kd.C k50 w36 A29 y190.length y190 from by rw [Ny190.out, KA29.out]; exact Kd.C_drop (m := (x7_3 : Int).toNat) (c := co26) ((Kd.R_reads' (Kd.R_after (ok := (fun k_ => some k_ ≠ (.slice Ao37 y184.length co37 : Value).ownBlock)) (by (with_reducible repeat (first | apply Kd.R_alloc | apply Kd.R_drewN | apply Kd.R_drew)); exact Kd.R_mono HO_3.out (fun _ hk => ⟨hk.2, hk.1⟩)) hg hat)).2.2) KL29.out ((Kd.R_reads' (Kd.R_after (ok := (fun k_ => some k_ ≠ (.slice Ao37 y184.length co37 : Value).ownBlock)) (by (with_reducible repeat (first | apply Kd.R_alloc | apply Kd.R_drewN | apply Kd.R_drew)); exact Kd.R_mono HO_3.out (fun _ hk => ⟨hk.2, hk.1⟩)) hg hat)).2.1)))
                                      have n5_ := Aside0.mk (ho)
                                      clear HO_3
                                      clear HO186
                                      clear HB
                                      clear HR179
                                      clear HR193
                                      clear HO182
                                      have HO_3 := n0_
                                      have HO186 := n1_
                                      have HB := n2_
                                      have HR179 := n3_
                                      have HR193 := n4_
                                      have HO189 := n5_
                                      clear n0_ n1_ n2_ n3_ n4_ n5_
                                      clear ho hb hg hat
                                      refine hK.out _ _ ⟨((HB.out.cell (World.block_lt_of_cell? w _ hw183_0)).trans hw183_0), ((HB.out.cell (World.block_lt_of_cell? w _ hw183_1)).trans hw183_1)⟩ (fun hHeld => ?_)
                                      clear hK K
                                      refine norm_ (a' := ?_) ?_ ?_
                                      rotate_left
                                      · show Act.put _ (some 66) _ = _
                                        simp only [Act.put, List.setIfInBounds_toArray, List.set_cons_zero, List.set_cons_succ, i64_w, i32_w]
                                        rfl
                                      refine one_ (i := 14) (N := some 70) #[true, true, true, true, true, true, true, true, true, true, true, true, true, true, true, false] rfl rfl (one_of HT_.out (by kernel_rfl)) (by decide) (fun K hK => ?_)
                                      refine Kd.R_append_rows_step k50 (w0 := w) w.heap.size (by rfl) (.tmp 66) (.tmp 69) 31 50 (.agg #[(.string ⟨#[]⟩), (.string ⟨#[]⟩)]) 32 rfl Try.underlying31 info50 rfl (by decide) (by omega) v188 y187 y190 _ _ _ (fun k_ => some k_ ≠ (.slice (some ad171) x3_1.length co26 : Value).ownBlock ∧ some k_ ≠ (.slice Ao37 y184.length co37 : Value).ownBlock) (fun _ => False) rfl rfl ?aO ?aR (fun _ _ h => h) (fun _ h => h.elim) ?aF ?aB ?aS ?aL ?_
                                      (case aR => repeat (first | exact (by repeat (first | (with_reducible exact HR193.out) | (with_reducible refine Kd.C_alloc ?_ _) | (with_reducible refine Kd.C_drewN ?_ _) | (with_reducible refine Kd.C_drew ?_) | exact HR193.out)) | (with_reducible refine Kd.C_alloc ?_ _) | (with_reducible refine Kd.C_drewN ?_ _) | (with_reducible refine Kd.C_drew ?_)))
                                      (case aB => exact (by repeat (first | (with_reducible first | exact HB.out | apply below_alloc | apply pw_below_drewN | apply below_drew1) | exact HB.out)))
                                      (case aF => exact (fun k_ hk => ⟨Kd.fresh' (Kd.R_lt (by (with_reducible repeat (first | apply Kd.R_alloc | apply Kd.R_drewN | apply Kd.R_drew)); exact HO_3.out)) k_ hk, Kd.fresh' (Kd.R_lt (by (with_reducible repeat (first | apply Kd.R_alloc | apply Kd.R_drewN | apply Kd.R_drew)); exact HO186.out)) k_ hk⟩))
                                      (case aO => exact (by (with_reducible repeat (first | apply Kd.R_alloc | apply Kd.R_drewN | apply Kd.R_drew)); exact HO189.out))
                                      (case aS => exact (below_size (by repeat (first | (with_reducible first | exact HB.out | apply below_alloc | apply pw_below_drewN | apply below_drew1) | exact HB.out))))
                                      (case aL => have := LMc24.out; omega)
                                      intro v195 w38 ho hb hg hat
                                      rw [← Ny194.out] at ho
                                      have n0_ := Aside0.mk (Kd.R_after (ok := (fun k_ => some k_ ≠ (.slice Ao37 y184.length co37 : Value).ownBlock)) (by (with_reducible repeat (first | apply Kd.R_alloc | apply Kd.R_drewN | apply Kd.R_drew)); exact HO_3.out) hg hat)
                                      have n1_ := Aside0.mk (Kd.R_after (ok := (fun k_ => some k_ ≠ (.slice (some ad171) x3_1.length co26 : Value).ownBlock)) (by (with_reducible repeat (first | apply Kd.R_alloc | apply Kd.R_drewN | apply Kd.R_drew)); exact HO186.out) hg hat)
                                      have n2_ := Aside0.mk (hb)
                                      have n3_ := Aside0.mk ((show Kd.C k50 w38 (some ad171) y176.length y176 from by rw [Ny176.out]; exact Kd.C_take (m := (x7_3 : Int).toNat) ((Kd.R_reads' (Kd.R_after (ok := (fun k_ => some k_ ≠ (.slice Ao37 y184.length co37 : Value).ownBlock)) (by (with_reducible repeat (first | apply Kd.R_alloc | apply Kd.R_drewN | apply Kd.R_drew)); exact HO_3.out) hg hat)).2.2) KL28.out))
                                      have n4_ := Aside0.mk ((show Kd.C k50 w38 A29 y190.length y190 from by rw [Ny190.out, KA29.out]; exact Kd.C_drop (m := (x7_3 : Int).toNat) (c := co26) ((Kd.R_reads' (Kd.R_after (ok := (fun k_ => some k_ ≠ (.slice Ao37 y184.length co37 : Value).ownBlock)) (by (with_reducible repeat (first | apply Kd.R_alloc | apply Kd.R_drewN | apply Kd.R_drew)); exact HO_3.out) hg hat)).2.2) KL29.out ((Kd.R_reads' (Kd.R_after (ok := (fun k_ => some k_ ≠ (.slice Ao37 y184.length co37 : Value).ownBlock)) (by (with_reducible repeat (first | apply Kd.R_alloc | apply Kd.R_drewN | apply Kd.R_drew)); exact HO_3.out) hg hat)).2.1)))
                                      have n5_ := Aside0.mk (ho)
                                      clear HO_3
                                      clear HO186
                                      clear HB
                                      clear HR179
                                      clear HR193
                                      clear HO189
                                      have HO_3 := n0_
                                      have HO186 := n1_
                                      have HB := n2_
                                      have HR179 := n3_
                                      have HR193 := n4_
                                      have HO196 := n5_
                                      clear n0_ n1_ n2_ n3_ n4_ n5_
                                      clear ho hb hg hat
                                      refine hK.out _ _ ⟨((HB.out.cell (World.block_lt_of_cell? w _ hw183_0)).trans hw183_0), ((HB.out.cell (World.block_lt_of_cell? w _ hw183_1)).trans hw183_1)⟩ (fun hHeld => ?_)
                                      clear hK K
                                      refine norm_ (a' := ?_) ?_ ?_
                                      rotate_left
                                      · show Act.put _ (some 70) _ = _
                                        simp only [Act.put, List.setIfInBounds_toArray, List.set_cons_zero, List.set_cons_succ, i64_w, i32_w]
                                        rfl
                                      refine pure_ (i := 15) (N := some 3) (v := ?_) (a' := ?_) #[true, true, true, true, true, true, true, true, true, true, true, true, true, true, true, true] rfl rfl (any_of HT_.out (by kernel_rfl)) (fun _ _ _ h => h) (Or.inl ⟨by rfl, ?_⟩) ?_ ?_
                                      rotate_left
                                      · intro w'
                                        go_simp
                                        with_reducible rfl
                                      rotate_left
                                      · simp only [Act.put, List.setIfInBounds_toArray, List.set_cons_zero, List.set_cons_succ, i64_w, i32_w]
                                        rfl
                                      refine done_ (done_of HT_.out (by kernel_rfl)) ?_
                                      try go_wp2
                                      go_roundg k3
                                      case measure => have := HK1.out; have := HK2.out; have := HK3.out; omega
                                      case rel => exact ⟨(y194), (wrap64 (x10_1 + 1)), (by first | rfl | (simp; done) | (simp [*]; done)), H', ⟨by have := HK1.out; have := HK2.out; have := HK3.out; omega⟩, ⟨by (with_reducible repeat (first | apply Kd.R_alloc | apply Kd.R_drewN | apply Kd.R_drew)); exact Kd.R_mono HO196.out (fun _ hk => trivial)⟩, ⟨by repeat (first | (with_reducible first | exact HB.out | apply below_alloc | apply pw_below_drewN | apply below_drew1) | exact HB.out)⟩⟩
                                    · rw [if_neg c24] at H
                                      exact absurd H (by simp)
                                  · rw [if_neg c21] at H
                                    exact absurd H (by simp)
                                · rw [if_neg c20] at H
                                  exact absurd H (by simp)
                              · rw [if_neg c19] at H
                                exact absurd H (by simp)
                          · rw [if_neg c14] at H
                            exact absurd H (by simp)
                        · rw [if_neg c13] at H
                          exact absurd H (by simp)
                      · rw [if_neg c12] at H
                        exact absurd H (by simp)
                    · rw [if_neg c11] at H
                      have c11b0 : decide (x7_3 < (x3_1.length : Int)) = false := decide_eq_false c11
                      clear c11
                      obtain ⟨y197, hy197⟩ : ∃ y_ : List (S50), y_ = (([] : List (S50))) := ⟨_, rfl⟩
                      replace H : (if 0 ≤ x7_3 then (if x7_3 ≤ (x3_1.length : Int) then ((some (x3_1.take (x7_3 : Int).toNat : List (S50))).bind fun y200 => (if y197.length + y200.length < 4398046511104 then ((some (y197 ++ y200 : List (S50))).bind fun y204 => (if 0 ≤ x10_1 then (if x10_1 < (l0.length : Int) then ((some (([(⟨(rd_T50 l0 x10_1).f0, (rd_T50 l0 x10_1).f1⟩ : S50)] : List (S50)) : List (S50))).bind fun y208 => (if y204.length + y208.length < 4398046511104 then ((some (y204 ++ y208 : List (S50))).bind fun y211 => ((some (x3_1.drop (x7_3 : Int).toNat : List (S50))).bind fun y214 => (if y211.length + y214.length < 4398046511104 then (spec_Set.l0 k3 l0 (y211 ++ y214) (l0.length : Int) (wrap64 (x10_1 + 1))) else (none)))) else (none))) else (none)) else (none))) else (none))) else (none)) else (none)) = some r := by first | (rw [hy197]; with_reducible exact H) | (have H2_ := (Option.bind_some _ _).symm.trans H; rw [hy197]; with_reducible exact H2_) | (have H2_ := (Option.bind_some _ _).symm.trans H; with_reducible exact H2_) | with_reducible exact H | (rw [hy197]; exact H) | exact H
                      have Ny197 := Aside0.mk hy197
                      clear hy197
                      by_cases c39 : 0 ≤ x7_3
                      · rw [if_pos c39] at H
                        have c39b0 := eq_true c39
                        have c39b1 : decide (0 ≤ x7_3) = true := decide_eq_true c39
                        clear c39
                        by_cases c40 : x7_3 ≤ (x3_1.length : Int)
                        · rw [if_pos c40] at H
                          have c40b0 := eq_true c40
                          have c40b1 : decide (x7_3 ≤ (x3_1.length : Int)) = true := decide_eq_true c40
                          clear c40
                          obtain ⟨y200, hy200⟩ : ∃ y_ : List (S50), y_ = (x3_1.take (x7_3 : Int).toNat) := ⟨_, rfl⟩
                          replace H : (if y197.length + y200.length < 4398046511104 then ((some (y197 ++ y200 : List (S50))).bind fun y204 => (if 0 ≤ x10_1 then (if x10_1 < (l0.length : Int) then ((some (([(⟨(rd_T50 l0 x10_1).f0, (rd_T50 l0 x10_1).f1⟩ : S50)] : List (S50)) : List (S50))).bind fun y208 => (if y204.length + y208.length < 4398046511104 then ((some (y204 ++ y208 : List (S50))).bind fun y211 => ((some (x3_1.drop (x7_3 : Int).toNat : List (S50))).bind fun y214 => (if y211.length + y214.length < 4398046511104 then (spec_Set.l0 k3 l0 (y211 ++ y214) (l0.length : Int) (wrap64 (x10_1 + 1))) else (none)))) else (none))) else (none)) else (none))) else (none)) = some r := by first | (rw [hy200]; with_reducible exact H) | (have H2_ := (Option.bind_some _ _).symm.trans H; rw [hy200]; with_reducible exact H2_) | (have H2_ := (Option.bind_some _ _).symm.trans H; with_reducible exact H2_) | with_reducible exact H | (rw [hy200]; exact H) | exact H
                          have Ny200 := Aside0.mk hy200
                          clear hy200
                          by_cases c41 : y197.length + y200.length < 4398046511104
                          · rw [if_pos c41] at H
                            have LMc41 := Aside0.mk c41
                            clear c41
                            obtain ⟨y204, hy204⟩ : ∃ y_ : List (S50), y_ = (y197 ++ y200) := ⟨_, rfl⟩
                            replace H : (if 0 ≤ x10_1 then (if x10_1 < (l0.length : Int) then ((some (([(⟨(rd_T50 l0 x10_1).f0, (rd_T50 l0 x10_1).f1⟩ : S50)] : List (S50)) : List (S50))).bind fun y208 => (if y204.length + y208.length < 4398046511104 then ((some (y204 ++ y208 : List (S50))).bind fun y211 => ((some (x3_1.drop (x7_3 : Int).toNat : List (S50))).bind fun y214 => (if y211.length + y214.length < 4398046511104 then (spec_Set.l0 k3 l0 (y211 ++ y214) (l0.length : Int) (wrap64 (x10_1 + 1))) else (none)))) else (none))) else (none)) else (none)) = some r := by first | (rw [hy204]; with_reducible exact H) | (have H2_ := (Option.bind_some _ _).symm.trans H; rw [hy204]; with_reducible exact H2_) | (have H2_ := (Option.bind_some _ _).symm.trans H; with_reducible exact H2_) | with_reducible exact H | (rw [hy204]; exact H) | exact H
                            have Ny204 := Aside0.mk hy204
                            clear hy204
                            by_cases c42 : 0 ≤ x10_1
                            · rw [if_pos c42] at H
                              have c42b0 : decide (0 ≤ x10_1) = true := decide_eq_true c42
                              clear c42
                              by_cases c43 : x10_1 < (l0.length : Int)
                              · rw [if_pos c43] at H
                                have c43b0 : decide (x10_1 < (l0.length : Int)) = true := decide_eq_true c43
                                clear c43
                                obtain ⟨y208, hy208⟩ : ∃ y_ : List (S50), y_ = (([(⟨(rd_T50 l0 x10_1).f0, (rd_T50 l0 x10_1).f1⟩ : S50)] : List (S50))) := ⟨_, rfl⟩
                                replace H : (if y204.length + y208.length < 4398046511104 then ((some (y204 ++ y208 : List (S50))).bind fun y211 => ((some (x3_1.drop (x7_3 : Int).toNat : List (S50))).bind fun y214 => (if y211.length + y214.length < 4398046511104 then (spec_Set.l0 k3 l0 (y211 ++ y214) (l0.length : Int) (wrap64 (x10_1 + 1))) else (none)))) else (none)) = some r := by first | (rw [hy208]; with_reducible exact H) | (have H2_ := (Option.bind_some _ _).symm.trans H; rw [hy208]; with_reducible exact H2_) | (have H2_ := (Option.bind_some _ _).symm.trans H; with_reducible exact H2_) | with_reducible exact H | (rw [hy208]; exact H) | exact H
                                have Ny208 := Aside0.mk hy208
                                clear hy208
                                by_cases c44 : y204.length + y208.length < 4398046511104
                                · rw [if_pos c44] at H
                                  have LMc44 := Aside0.mk c44
                                  clear c44
                                  obtain ⟨y211, hy211⟩ : ∃ y_ : List (S50), y_ = (y204 ++ y208) := ⟨_, rfl⟩
                                  replace H : ((some (x3_1.drop (x7_3 : Int).toNat : List (S50))).bind fun y214 => (if y211.length + y214.length < 4398046511104 then (spec_Set.l0 k3 l0 (y211 ++ y214) (l0.length : Int) (wrap64 (x10_1 + 1))) else (none))) = some r := by first | (rw [hy211]; with_reducible exact H) | (have H2_ := (Option.bind_some _ _).symm.trans H; rw [hy211]; with_reducible exact H2_) | (have H2_ := (Option.bind_some _ _).symm.trans H; with_reducible exact H2_) | with_reducible exact H | (rw [hy211]; exact H) | exact H
                                  have Ny211 := Aside0.mk hy211
                                  clear hy211
                                  have c45b0 := eq_true (of_decide_eq_true (by first | (with_reducible assumption) | assumption) : 0 ≤ x7_3)
                                  have c46b0 := eq_true (of_decide_eq_true (by first | (with_reducible assumption) | assumption) : x7_3 ≤ (x3_1.length : Int))
                                  obtain ⟨y214, hy214⟩ : ∃ y_ : List (S50), y_ = (x3_1.drop (x7_3 : Int).toNat) := ⟨_, rfl⟩
                                  replace H : (if y211.length + y214.length < 4398046511104 then (spec_Set.l0 k3 l0 (y211 ++ y214) (l0.length : Int) (wrap64 (x10_1 + 1))) else (none)) = some r := by first | (rw [hy214]; with_reducible exact H) | (have H2_ := (Option.bind_some _ _).symm.trans H; rw [hy214]; with_reducible exact H2_) | (have H2_ := (Option.bind_some _ _).symm.trans H; with_reducible exact H2_) | with_reducible exact H | (rw [hy214]; exact H) | exact H
                                  have Ny214 := Aside0.mk hy214
                                  clear hy214
                                  by_cases c47 : y211.length + y214.length < 4398046511104
                                  · rw [if_pos c47] at H
                                    have LMc47 := Aside0.mk c47
                                    clear c47
                                    obtain ⟨y218, hy218⟩ : ∃ y_ : List (S50), y_ = (y211 ++ y214) := ⟨_, rfl⟩
                                    replace H : (spec_Set.l0 k3 l0 y218 (l0.length : Int) (wrap64 (x10_1 + 1))) = some r := by first | (rw [hy218]; with_reducible exact H) | (have H2_ := (Option.bind_some _ _).symm.trans H; rw [hy218]; with_reducible exact H2_) | (have H2_ := (Option.bind_some _ _).symm.trans H; with_reducible exact H2_) | with_reducible exact H | (rw [hy218]; exact H) | exact H
                                    have Ny218 := Aside0.mk hy218
                                    clear hy218
                                    have H' := Aside0.mk H
                                    clear H
                                    try go_wp2
                                    have n0_ := Aside0.mk (Kd.R_drew HO_3.out)
                                    have n1_ := Aside0.mk (below_drew1 HB.out)
                                    clear HO_3
                                    clear HB
                                    have HO_3 := n0_
                                    have HB := n1_
                                    clear n0_ n1_
                                    obtain ⟨Ao49, co49, eo49⟩ := Kd.R_slice HO_3.out
                                    (first | subst eo49 | (injection eo49 with f1_ f2_ f3_; have f4_ := f1_.symm; have f5_ := f3_.symm; clear f1_ f2_ f3_; subst f4_; subst f5_))
                                    refine start_ (n := 17) (S := fun w' => True) (ds := []) #[false, false, false, false, false, false, false, false, false, false, false, false, false, false, false, false, false] (by kernel_rfl) rfl rfl trivial (fun hHeld => ?_); refine with_tabW spec_Set.tab12 spec_Set.bits12 (fun HT_ HW_ => ?_)
                                    generalize wr.drew = w48 at HO_3 HB hHeld ⊢
                                    refine pure_ (i := 0) (N := some 37) (v := ?_) (a' := ?_) #[true, false, false, false, false, false, false, false, false, false, false, false, false, false, false, false, false] rfl rfl (any_of HT_.out (by kernel_rfl)) (fun _ _ _ h => h) (Or.inl ⟨by rfl, ?_⟩) ?_ ?_
                                    rotate_left
                                    · intro w'
                                      go_simp
                                      with_reducible rfl
                                    rotate_left
                                    · simp only [Act.put, List.setIfInBounds_toArray, List.set_cons_zero, List.set_cons_succ, i64_w, i32_w]
                                      rfl
                                    refine pure_ (i := 1) (N := some 38) (v := ?_) (a' := ?_) #[true, true, false, false, false, false, false, false, false, false, false, false, false, false, false, false, false] rfl rfl (any_of HT_.out (by kernel_rfl)) (fun _ _ _ h => h) (Or.inl ⟨by rfl, ?_⟩) ?_ ?_
                                    rotate_left
                                    · intro w'
                                      go_simp
                                      with_reducible rfl
                                    rotate_left
                                    · simp only [Act.put, List.setIfInBounds_toArray, List.set_cons_zero, List.set_cons_succ, i64_w, i32_w]
                                      rfl
                                    refine pure_ (i := 2) (N := some 39) (v := ?_) (a' := ?_) #[true, true, true, false, false, false, false, false, false, false, false, false, false, false, false, false, false] rfl rfl (any_of HT_.out (by kernel_rfl)) (fun _ _ _ h => h) (Or.inl ⟨by rfl, ?_⟩) ?_ ?_
                                    rotate_left
                                    · intro w'
                                      go_simp
                                      with_reducible rfl
                                    rotate_left
                                    · simp only [Act.put, List.setIfInBounds_toArray, List.set_cons_zero, List.set_cons_succ, i64_w, i32_w]
                                      rfl
                                    refine pure_ (i := 3) (N := some 40) (v := ?_) (a' := ?_) #[true, true, true, true, false, false, false, false, false, false, false, false, false, false, false, false, false] rfl rfl (any_of HT_.out (by kernel_rfl)) (fun _ _ _ h => h) (Or.inl ⟨by rfl, ?_⟩) ?_ ?_
                                    rotate_left
                                    · intro w'
                                      go_simp
                                      with_reducible rfl
                                    rotate_left
                                    · simp only [Act.put, List.setIfInBounds_toArray, List.set_cons_zero, List.set_cons_succ, i64_w, i32_w]
                                      rfl
                                    refine pure_ (i := 4) (N := some 41) (v := ?_) (a' := ?_) #[true, true, true, true, true, false, false, false, false, false, false, false, false, false, false, false, false] rfl rfl (any_of HT_.out (by kernel_rfl)) (fun _ _ _ h => h) (Or.inl ⟨by rfl, ?_⟩) ?_ ?_
                                    rotate_left
                                    · intro w'
                                      go_simp
                                      with_reducible rfl
                                    rotate_left
                                    · simp only [Act.put, List.setIfInBounds_toArray, List.set_cons_zero, List.set_cons_succ, i64_w, i32_w]
                                      rfl
                                    refine pure_ (i := 5) (N := some 42) (v := undef) (a' := ?_) #[true, true, true, true, true, true, false, false, false, false, false, false, false, false, false, false, false] rfl rfl (any_of HT_.out (by kernel_rfl)) (fun _ _ _ h => h) (Or.inr ⟨by rfl, rfl⟩) ?_ ?_
                                    rotate_left
                                    · simp only [Act.put, List.setIfInBounds_toArray, List.set_cons_zero, List.set_cons_succ, i64_w, i32_w]
                                      rfl
                                    refine pure_ (i := 6) (N := some 43) (v := undef) (a' := ?_) #[true, true, true, true, true, true, true, false, false, false, false, false, false, false, false, false, false] rfl rfl (any_of HT_.out (by kernel_rfl)) (fun _ _ _ h => h) (Or.inr ⟨by rfl, rfl⟩) ?_ ?_
                                    rotate_left
                                    · simp only [Act.put, List.setIfInBounds_toArray, List.set_cons_zero, List.set_cons_succ, i64_w, i32_w]
                                      rfl
                                    refine pure_ (i := 7) (N := some 44) (v := undef) (a' := ?_) #[true, true, true, true, true, true, true, true, false, false, false, false, false, false, false, false, false] rfl rfl (any_of HT_.out (by kernel_rfl)) (fun _ _ _ h => h) (Or.inr ⟨by rfl, rfl⟩) ?_ ?_
                                    rotate_left
                                    · simp only [Act.put, List.setIfInBounds_toArray, List.set_cons_zero, List.set_cons_succ, i64_w, i32_w]
                                      rfl
                                    refine pure_ (i := 8) (N := some 45) (v := undef) (a' := ?_) #[true, true, true, true, true, true, true, true, true, false, false, false, false, false, false, false, false] rfl rfl (any_of HT_.out (by kernel_rfl)) (fun _ _ _ h => h) (Or.inr ⟨by rfl, rfl⟩) ?_ ?_
                                    rotate_left
                                    · simp only [Act.put, List.setIfInBounds_toArray, List.set_cons_zero, List.set_cons_succ, i64_w, i32_w]
                                      rfl
                                    refine pure_ (i := 9) (N := some 46) (v := undef) (a' := ?_) #[true, true, true, true, true, true, true, true, true, true, false, false, false, false, false, false, false] rfl rfl (any_of HT_.out (by kernel_rfl)) (fun _ _ _ h => h) (Or.inr ⟨by rfl, rfl⟩) ?_ ?_
                                    rotate_left
                                    · simp only [Act.put, List.setIfInBounds_toArray, List.set_cons_zero, List.set_cons_succ, i64_w, i32_w]
                                      rfl
                                    refine pure_ (i := 10) (N := some 47) (v := undef) (a' := ?_) #[true, true, true, true, true, true, true, true, true, true, true, false, false, false, false, false, false] rfl rfl (any_of HT_.out (by kernel_rfl)) (fun _ _ _ h => h) (Or.inr ⟨by rfl, rfl⟩) ?_ ?_
                                    rotate_left
                                    · simp only [Act.put, List.setIfInBounds_toArray, List.set_cons_zero, List.set_cons_succ, i64_w, i32_w]
                                      rfl
                                    refine pure_ (i := 11) (N := some 48) (v := undef) (a' := ?_) #[true, true, true, true, true, true, true, true, true, true, true, true, false, false, false, false, false] rfl rfl (any_of HT_.out (by kernel_rfl)) (fun _ _ _ h => h) (Or.inr ⟨by rfl, rfl⟩) ?_ ?_
                                    rotate_left
                                    · simp only [Act.put, List.setIfInBounds_toArray, List.set_cons_zero, List.set_cons_succ, i64_w, i32_w]
                                      rfl
                                    refine pure_ (i := 12) (N := some 49) (v := undef) (a' := ?_) #[true, true, true, true, true, true, true, true, true, true, true, true, true, false, false, false, false] rfl rfl (any_of HT_.out (by kernel_rfl)) (fun _ _ _ h => h) (Or.inr ⟨by rfl, rfl⟩) ?_ ?_
                                    rotate_left
                                    · simp only [Act.put, List.setIfInBounds_toArray, List.set_cons_zero, List.set_cons_succ, i64_w, i32_w]
                                      rfl
                                    refine pure_ (i := 13) (N := some 50) (v := undef) (a' := ?_) #[true, true, true, true, true, true, true, true, true, true, true, true, true, true, false, false, false] rfl rfl (any_of HT_.out (by kernel_rfl)) (fun _ _ _ h => h) (Or.inr ⟨by rfl, rfl⟩) ?_ ?_
                                    rotate_left
                                    · simp only [Act.put, List.setIfInBounds_toArray, List.set_cons_zero, List.set_cons_succ, i64_w, i32_w]
                                      rfl
                                    refine pure_ (i := 14) (N := some 51) (v := undef) (a' := ?_) #[true, true, true, true, true, true, true, true, true, true, true, true, true, true, true, false, false] rfl rfl (any_of HT_.out (by kernel_rfl)) (fun _ _ _ h => h) (Or.inr ⟨by rfl, rfl⟩) ?_ ?_
                                    rotate_left
                                    · simp only [Act.put, List.setIfInBounds_toArray, List.set_cons_zero, List.set_cons_succ, i64_w, i32_w]
                                      rfl
                                    refine pure_ (i := 15) (N := some 52) (v := undef) (a' := ?_) #[true, true, true, true, true, true, true, true, true, true, true, true, true, true, true, true, false] rfl rfl (any_of HT_.out (by kernel_rfl)) (fun _ _ _ h => h) (Or.inr ⟨by rfl, rfl⟩) ?_ ?_
                                    rotate_left
                                    · simp only [Act.put, List.setIfInBounds_toArray, List.set_cons_zero, List.set_cons_succ, i64_w, i32_w]
                                      rfl
                                    refine pure_ (i := 16) (N := some 53) (v := ?_) (a' := ?_) #[true, true, true, true, true, true, true, true, true, true, true, true, true, true, true, true, true] rfl rfl (any_of HT_.out (by kernel_rfl)) (fun _ _ _ h => h) (Or.inl ⟨by rfl, ?_⟩) ?_ ?_
                                    rotate_left
                                    · intro w'
                                      go_simp
                                      with_reducible rfl
                                    rotate_left
                                    · simp only [Act.put, List.setIfInBounds_toArray, List.set_cons_zero, List.set_cons_succ, i64_w, i32_w]
                                      rfl
                                    refine done_ (done_of HT_.out (by kernel_rfl)) ?_
                                    try go_wp2
                                    have n0_ := Aside0.mk (Kd.R_drew HO_3.out)
                                    have n1_ := Aside0.mk (below_drew1 HB.out)
                                    clear HO_3
                                    clear HB
                                    have HO_3 := n0_
                                    have HB := n1_
                                    clear n0_ n1_
                                    have q51 : (x7_3 : Int) ≤ ((x3_1.length : Int) : Int) := of_decide_eq_true (by first | (with_reducible assumption) | assumption)
                                    obtain ⟨i051, hi051, _, hsz51, _⟩ := info_parts info50
                                    have hroom51 : x3_1.length ≤ co49 := (Kd.R_reads' HO_3.out).2.1
                                    have hC51 : Kd.C k50 _ Ao49 x3_1.length x3_1 := (Kd.R_reads' HO_3.out).2.2
                                    have hcut51 := cut_to (P := Try.prog) 31 50 .i64 Try.underlying31 hi051 Ao49 x3_1.length co49 x7_3 (of_decide_eq_true (by first | (with_reducible assumption) | assumption)) q51 hroom51
                                    have hr51 := Kd.C_take (m := (x7_3 : Int).toNat) hC51 (by omega)
                                    have hy51 : y200.length = (x7_3 : Int).toNat := (by rw [Ny200.out, List.length_take]; omega)
                                    rw [← Ny200.out] at hr51
                                    rw [← hy51] at hcut51
                                    have HR203 := Aside0.mk hr51
                                    have HC203 := Aside0.mk (show y200.length ≤ co49 from by omega)
                                    clear hr51 hC51 hroom51 hi051 hsz51
                                    have KY51 := Aside0.mk hy51
                                    clear hy51
                                    have KL51 := Aside0.mk (show (x7_3 : Int).toNat ≤ x3_1.length from by omega)
                                    replace q51 := eq_true q51
                                    have p207 : 0 ≤ (x10_1 : Int) := of_decide_eq_true (by first | (with_reducible assumption) | assumption)
                                    have q207 : x10_1 < (l0.length : Int) := of_decide_eq_true (by first | (with_reducible assumption) | assumption)
                                    obtain ⟨ad207, e207, hx207_0, hx207_1⟩ := at_T50 HR0.out x10_1 p207 q207
                                    have hw207_1 := hx207_1
                                    have hw207_0 := hx207_0
                                    cases e207
                                    replace hx207_0 := (HB.out.cell (World.block_lt_of_cell? w _ hx207_0)).trans hx207_0
                                    replace hx207_1 := (HB.out.cell (World.block_lt_of_cell? w _ hx207_1)).trans hx207_1
                                    replace p207 := eq_true p207
                                    replace q207 := eq_true q207
                                    have q52 : (x7_3 : Int) ≤ ((x3_1.length : Int) : Int) := of_decide_eq_true (by first | (with_reducible assumption) | assumption)
                                    obtain ⟨i052, hi052, _, hsz52, _⟩ := info_parts info50
                                    have hroom52 : x3_1.length ≤ co49 := (Kd.R_reads' HO_3.out).2.1
                                    have hC52 : Kd.C k50 _ Ao49 x3_1.length x3_1 := (Kd.R_reads' HO_3.out).2.2
                                    have q052 : (0 : Int) ≤ (x7_3 : Int) := of_decide_eq_true (by first | (with_reducible assumption) | assumption)
                                    have hcut52 := cut_from (P := Try.prog) 31 50 .i64 Try.underlying31 hi052 2 hsz52 Ao49 x3_1.length co49 x7_3 q052 q52
                                    have hr52 := Kd.C_drop (m := (x7_3 : Int).toNat) (c := co49) hC52 (by omega) hroom52
                                    obtain ⟨A52, hA52⟩ : ∃ A1, A1 = (if co49 = (x7_3 : Int).toNat then Ao49 else (Ao49 : Option Addr).map (·.add ((x7_3 : Int).toNat * 2))) := ⟨_, rfl⟩
                                    obtain ⟨c52, hc52⟩ : ∃ c1, c1 = co49 - (x7_3 : Int).toNat := ⟨_, rfl⟩
                                    have hy52 : y214.length = x3_1.length - (x7_3 : Int).toNat := (by rw [Ny214.out, List.length_drop] <;> omega)
                                    rw [show (x3_1).drop (x7_3 : Int).toNat = y214 from Ny214.out.symm] at hr52
                                    replace hr52 : Kd.C k50 _ A52 y214.length y214 := (by rw [hA52]; exact hr52)
                                    rw [← hy52, ← hA52, ← hc52] at hcut52
                                    have HR217 := Aside0.mk hr52
                                    have HC217 := Aside0.mk (show y214.length ≤ c52 from by rw [hy52, hc52]; exact Nat.sub_le_sub_right hroom52 _)
                                    clear hr52 hC52 hroom52 hi052 hsz52 hc52
                                    have KY52 := Aside0.mk hy52
                                    have KA52 := Aside0.mk hA52
                                    clear hy52 hA52
                                    have KL52 := Aside0.mk (show (x7_3 : Int).toNat ≤ x3_1.length from by omega)
                                    replace q52 := eq_true q52
                                    refine start_ (n := 16) (S := fun w' => w'.cell? (ad207.add ((x10_1).toNat * 2)) = some (.string ((rd_T50 l0 x10_1).f0)) ∧ w'.cell? ⟨(ad207.add ((x10_1).toNat * 2)).block, (ad207.add ((x10_1).toNat * 2)).off + 1, none⟩ = some (.string ((rd_T50 l0 x10_1).f1))) (ds := []) #[false, false, false, false, false, false, false, false, false, false, false, false, false, false, false, false] (by kernel_rfl) rfl rfl ⟨((HB.out.cell (World.block_lt_of_cell? w _ hw207_0)).trans hw207_0), ((HB.out.cell (World.block_lt_of_cell? w _ hw207_1)).trans hw207_1)⟩ (fun hHeld => ?_); refine with_tabW spec_Set.tab14 spec_Set.bits14 (fun HT_ HW_ => ?_)
                                    generalize w48.drew = w50 at HO_3 HB HR203 HR217 hx207_0 hx207_1 hHeld ⊢
                                    refine pure_ (i := 1) (N := some 57) (v := ?_) (a' := ?_) #[false, true, false, false, false, false, false, false, false, false, false, false, false, false, false, false] rfl rfl (any_of HT_.out (by kernel_rfl)) (fun _ _ _ h => h) (Or.inl ⟨by rfl, ?_⟩) ?_ ?_
                                    rotate_left
                                    · intro w'
                                      go_simp
                                      with_reducible rfl
                                    rotate_left
                                    · simp only [Act.put, List.setIfInBounds_toArray, List.set_cons_zero, List.set_cons_succ, i64_w, i32_w]
                                      rfl
                                    refine pure_ (i := 2) (N := some 58) (v := ?_) (a' := ?_) #[false, true, true, false, false, false, false, false, false, false, false, false, false, false, false, false] rfl rfl (any_of HT_.out (by kernel_rfl)) (fun _ _ _ h => h) (Or.inl ⟨by rfl, ?_⟩) ?_ ?_
                                    rotate_left
                                    · intro w'
                                      go_simp
                                      with_reducible rfl
                                    rotate_left
                                    · simp only [Act.put, List.setIfInBounds_toArray, List.set_cons_zero, List.set_cons_succ, i64_w, i32_w]
                                      rfl
                                    refine pure_ (i := 3) (N := some 59) (v := ?_) (a' := ?_) #[false, true, true, true, false, false, false, false, false, false, false, false, false, false, false, false] rfl rfl (any_of HT_.out (by kernel_rfl)) (fun _ _ _ h => h) (Or.inl ⟨by rfl, ?_⟩) ?_ ?_
                                    rotate_left
                                    · intro w'
                                      go_simp
                                      with_reducible rfl
                                    rotate_left
                                    · simp only [Act.put, List.setIfInBounds_toArray, List.set_cons_zero, List.set_cons_succ, i64_w, i32_w]
                                      rfl
                                    refine pure_ (i := 5) (N := some 61) (v := ?_) (a' := ?_) #[false, true, true, true, false, true, false, false, false, false, false, false, false, false, false, false] rfl rfl (any_of HT_.out (by kernel_rfl)) (fun _ _ _ h => h) (Or.inl ⟨by rfl, ?_⟩) ?_ ?_
                                    rotate_left
                                    · intro w'
                                      go_simp
                                      with_reducible rfl
                                    rotate_left
                                    · simp only [Act.put, List.setIfInBounds_toArray, List.set_cons_zero, List.set_cons_succ, i64_w, i32_w]
                                      rfl
                                    refine pure_ (i := 6) (N := some 62) (v := ?_) (a' := ?_) #[false, true, true, true, false, true, true, false, false, false, false, false, false, false, false, false] rfl rfl (any_of HT_.out (by kernel_rfl)) (fun _ _ _ h => h) (Or.inl ⟨by rfl, ?_⟩) ?_ ?_
                                    rotate_left
                                    · intro w'
                                      go_simp
                                      with_reducible rfl
                                    rotate_left
                                    · simp only [Act.put, List.setIfInBounds_toArray, List.set_cons_zero, List.set_cons_succ, i64_w, i32_w]
                                      rfl
                                    refine pure_ (i := 7) (N := some 63) (v := ?_) (a' := ?_) #[false, true, true, true, false, true, true, true, false, false, false, false, false, false, false, false] rfl rfl (any_of HT_.out (by kernel_rfl)) (fun _ _ _ h => h) (Or.inl ⟨by rfl, ?_⟩) ?_ ?_
                                    rotate_left
                                    · intro w'
                                      go_simp
                                      with_reducible rfl
                                    rotate_left
                                    · simp only [Act.put, List.setIfInBounds_toArray, List.set_cons_zero, List.set_cons_succ, i64_w, i32_w]
                                      rfl
                                    refine pure_ (i := 11) (N := some 67) (v := ?_) (a' := ?_) #[false, true, true, true, false, true, true, true, false, false, false, true, false, false, false, false] rfl rfl (any_of HT_.out (by kernel_rfl)) (fun _ _ _ h => h) (Or.inl ⟨by rfl, ?_⟩) ?_ ?_
                                    rotate_left
                                    · intro w'
                                      go_simp
                                      with_reducible rfl
                                    rotate_left
                                    · simp only [Act.put, List.setIfInBounds_toArray, List.set_cons_zero, List.set_cons_succ, i64_w, i32_w]
                                      rfl
                                    refine pure_ (i := 12) (N := some 68) (v := ?_) (a' := ?_) #[false, true, true, true, false, true, true, true, false, false, false, true, true, false, false, false] rfl rfl (any_of HT_.out (by kernel_rfl)) (fun _ _ _ h => h) (Or.inl ⟨by rfl, ?_⟩) ?_ ?_
                                    rotate_left
                                    · intro w'
                                      go_simp
                                      with_reducible rfl
                                    rotate_left
                                    · simp only [Act.put, List.setIfInBounds_toArray, List.set_cons_zero, List.set_cons_succ, i64_w, i32_w]
                                      rfl
                                    refine pure_ (i := 13) (N := some 69) (v := ?_) (a' := ?_) #[false, true, true, true, false, true, true, true, false, false, false, true, true, true, false, false] rfl rfl (any_of HT_.out (by kernel_rfl)) (fun _ _ _ h => h) (Or.inl ⟨by rfl, ?_⟩) ?_ ?_
                                    rotate_left
                                    · intro w'
                                      go_simp
                                      with_reducible rfl
                                    rotate_left
                                    · simp only [Act.put, List.setIfInBounds_toArray, List.set_cons_zero, List.set_cons_succ, i64_w, i32_w]
                                      rfl
                                    refine take_ (i := 8) (N := some 64) (v := ?_) (a' := ?_) #[false, true, true, true, false, true, true, true, true, false, false, true, true, true, false, false] rfl rfl (take_ofW HT_.out HW_.out (by kernel_rfl)) (fun _ _ _ h => h) (Or.inl ⟨by rfl, ?_⟩) hHeld ?_ ?_
                                    rotate_left
                                    · rintro w' ⟨s0, s1⟩
                                      go_simp
                                      with_reducible rfl
                                    rotate_left
                                    · simp only [Act.put, List.setIfInBounds_toArray, List.set_cons_zero, List.set_cons_succ, i64_w, i32_w]
                                      rfl
                                    refine join_ (σ := Value × Value × Value) 3 #[true, true, true, true, true, true, true, true, true, true, false, true, true, true, false, false] (fun s_ => [(56, s_.1), (60, s_.2.1), (65, s_.2.2)]) (fun s_ w' => (w'.cell? (ad207.add ((x10_1).toNat * 2)) = some (.string ((rd_T50 l0 x10_1).f0)) ∧ w'.cell? ⟨(ad207.add ((x10_1).toNat * 2)).block, (ad207.add ((x10_1).toNat * 2)).off + 1, none⟩ = some (.string ((rd_T50 l0 x10_1).f1))) ∧ (Kd.R k50 50 w' w.heap.size (fun k_ => some k_ ≠ (s_.2.2 : Value).ownBlock ∧ some k_ ≠ (.slice Ao49 x3_1.length co49 : Value).ownBlock) s_.2.1 y204) ∧ (Kd.R k50 50 w' w.heap.size (fun k_ => some k_ ≠ (s_.2.1 : Value).ownBlock ∧ some k_ ≠ (.slice Ao49 x3_1.length co49 : Value).ownBlock) s_.2.2 y208) ∧ (Kd.R k50 50 w' w.heap.size (fun k_ => some k_ ≠ (s_.2.1 : Value).ownBlock ∧ some k_ ≠ (s_.2.2 : Value).ownBlock) (.slice Ao49 x3_1.length co49) x3_1) ∧ (Below w.heap.size w w')) ?_ ?_
                                    rotate_left
                                    · intro hCont
                                      refine two_ (i := 0) (j := 9) (Ni := some 56) (Nj := some 65) #[true, true, true, true, false, true, true, true, true, false, false, true, true, true, false, false] #[false, true, true, true, false, true, true, true, true, true, false, true, true, true, false, false] rfl rfl rfl rfl (two_of HT_.out (by kernel_rfl)) (by decide) (by decide) (fun K hK => ?_) (fun K hK => ?_)
                                      · skip
                                        refine Kd.R_lit_step k50 _ 50 ?hg (N := 56) ?hd (xs := ([] : List (S50))) (inner := []) (ok := fun _ => True) (okp := fun _ => True) ?hr ?hp (fun _ hk => hk) trivial (Below.refl _ _) (Nat.le_refl _) (by simp) ?_; (case hd => rfl); (case hg => rfl); (case hr => first | (go_simp; done) | (go_simp; rfl)); (case hp => exact (Reps.none _ _))
                                        intro v198 w53 ho54 hb hg_ hnew_
                                        clear hg_ hnew_
                                        (first | rw [← Ny197.out] at ho54 | (simp only [Int.reduceToNat] at ho54; rw [← Ny197.out] at ho54))
                                        have n0_ := Aside0.mk (Kd.R_elder' (by (with_reducible repeat (first | apply Kd.R_alloc | apply Kd.R_drewN | apply Kd.R_drew)); exact HO_3.out) (Kd.R_base ho54) hb)
                                        have n1_ := Aside0.mk (Kd.R_lower (Kd.R_new' ho54 (Kd.R_lt (by (with_reducible repeat (first | apply Kd.R_alloc | apply Kd.R_drewN | apply Kd.R_drew)); exact HO_3.out))) (below_size (by repeat (first | (with_reducible first | exact HB.out | apply below_alloc | apply pw_below_drewN | apply below_drew1) | exact HB.out))))
                                        have n2_ := Aside0.mk (Kd.C_below (by repeat (first | (with_reducible exact HR203.out) | (with_reducible refine Kd.C_alloc ?_ _) | (with_reducible refine Kd.C_drewN ?_ _) | (with_reducible refine Kd.C_drew ?_) | exact HR203.out)) hb)
                                        have n3_ := Aside0.mk (Kd.C_below (by repeat (first | (with_reducible exact HR217.out) | (with_reducible refine Kd.C_alloc ?_ _) | (with_reducible refine Kd.C_drewN ?_ _) | (with_reducible refine Kd.C_drew ?_) | exact HR217.out)) hb)
                                        have n4_ := Aside0.mk (below_step (by repeat (first | (with_reducible first | exact HB.out | apply below_alloc | apply pw_below_drewN | apply below_drew1) | exact HB.out)) hb)
                                        clear HO_3
                                        clear HR203
                                        clear HR217
                                        clear HB
                                        have HO_3 := n0_
                                        have HO199 := n1_
                                        have HR203 := n2_
                                        have HR217 := n3_
                                        have HB := n4_
                                        clear n0_ n1_ n2_ n3_ n4_
                                        clear hb ho54
                                        refine hK.out _ _ ⟨((HB.out.cell (World.block_lt_of_cell? w _ hw207_0)).trans hw207_0), ((HB.out.cell (World.block_lt_of_cell? w _ hw207_1)).trans hw207_1)⟩ (fun hHeld => ?_)
                                        clear hK K
                                        refine norm_ (a' := ?_) ?_ ?_
                                        rotate_left
                                        · show Act.put _ (some 56) _ = _
                                          simp only [Act.put, List.setIfInBounds_toArray, List.set_cons_zero, List.set_cons_succ, i64_w, i32_w]
                                          rfl
                                        refine two_ (i := 4) (j := 9) (Ni := some 60) (Nj := some 65) #[true, true, true, true, true, true, true, true, true, false, false, true, true, true, false, false] #[true, true, true, true, false, true, true, true, true, true, false, true, true, true, false, false] rfl rfl rfl rfl (two_of HT_.out (by kernel_rfl)) (by decide) (by decide) (fun K hK => ?_) (fun K hK => ?_)
                                        · skip
                                          refine Kd.R_append_rows_step k50 (w0 := w) w.heap.size (by rfl) (.tmp 56) (.tmp 59) 31 50 (.agg #[(.string ⟨#[]⟩), (.string ⟨#[]⟩)]) 32 rfl Try.underlying31 info50 rfl (by decide) (by omega) v198 y197 y200 _ _ _ (fun k_ => some k_ ≠ (.slice Ao49 x3_1.length co49 : Value).ownBlock) (fun _ => False) rfl rfl ?aO ?aR (fun _ _ h => h) (fun _ h => h.elim) ?aF ?aB ?aS ?aL ?_
                                          (case aR => repeat (first | exact (by repeat (first | (with_reducible exact HR203.out) | (with_reducible refine Kd.C_alloc ?_ _) | (with_reducible refine Kd.C_drewN ?_ _) | (with_reducible refine Kd.C_drew ?_) | exact HR203.out)) | (with_reducible refine Kd.C_alloc ?_ _) | (with_reducible refine Kd.C_drewN ?_ _) | (with_reducible refine Kd.C_drew ?_)))
                                          (case aB => exact (by repeat (first | (with_reducible first | exact HB.out | apply below_alloc | apply pw_below_drewN | apply below_drew1) | exact HB.out)))
                                          (case aF => exact (fun k_ hk => Kd.fresh' (Kd.R_lt (by (with_reducible repeat (first | apply Kd.R_alloc | apply Kd.R_drewN | apply Kd.R_drew)); exact HO_3.out)) k_ hk))
                                          (case aO => exact (by (with_reducible repeat (first | apply Kd.R_alloc | apply Kd.R_drewN | apply Kd.R_drew)); exact Kd.R_mono HO199.out (fun _ hk => hk.2)))
                                          (case aS => exact (below_size (by repeat (first | (with_reducible first | exact HB.out | apply below_alloc | apply pw_below_drewN | apply below_drew1) | exact HB.out))))
                                          (case aL => have := LMc41.out; omega)
                                          intro v205 w55 ho hb hg hat
                                          rw [← Ny204.out] at ho
                                          have n0_ := Aside0.mk (Kd.R_after (ok := (fun _ => True)) (by (with_reducible repeat (first | apply Kd.R_alloc | apply Kd.R_drewN | apply Kd.R_drew)); exact HO_3.out) hg hat)
                                          have n1_ := Aside0.mk (hb)
                                          have n2_ := Aside0.mk ((show Kd.C k50 w55 Ao49 y200.length y200 from by rw [Ny200.out]; exact Kd.C_take (m := (x7_3 : Int).toNat) ((Kd.R_reads' (Kd.R_after (ok := (fun _ => True)) (by (with_reducible repeat (first | apply Kd.R_alloc | apply Kd.R_drewN | apply Kd.R_drew)); exact HO_3.out) hg hat)).2.2) KL51.out))
                                          have n3_ := Aside0.mk ((show Kd.C k50 w55 A52 y214.length y214 from by rw [Ny214.out, KA52.out]; exact Kd.C_drop (m := (x7_3 : Int).toNat) (c := co49) ((Kd.R_reads' (Kd.R_after (ok := (fun _ => True)) (by (with_reducible repeat (first | apply Kd.R_alloc | apply Kd.R_drewN | apply Kd.R_drew)); exact HO_3.out) hg hat)).2.2) KL52.out ((Kd.R_reads' (Kd.R_after (ok := (fun _ => True)) (by (with_reducible repeat (first | apply Kd.R_alloc | apply Kd.R_drewN | apply Kd.R_drew)); exact HO_3.out) hg hat)).2.1)))
                                          have n4_ := Aside0.mk (ho)
                                          clear HO_3
                                          clear HB
                                          clear HR203
                                          clear HR217
                                          clear HO199
                                          have HO_3 := n0_
                                          have HB := n1_
                                          have HR203 := n2_
                                          have HR217 := n3_
                                          have HO206 := n4_
                                          clear n0_ n1_ n2_ n3_ n4_
                                          clear ho hb hg hat
                                          refine hK.out _ _ ⟨((HB.out.cell (World.block_lt_of_cell? w _ hw207_0)).trans hw207_0), ((HB.out.cell (World.block_lt_of_cell? w _ hw207_1)).trans hw207_1)⟩ (fun hHeld => ?_)
                                          clear hK K
                                          refine norm_ (a' := ?_) ?_ ?_
                                          rotate_left
                                          · show Act.put _ (some 60) _ = _
                                            simp only [Act.put, List.setIfInBounds_toArray, List.set_cons_zero, List.set_cons_succ, i64_w, i32_w]
                                            rfl
                                          refine one_ (i := 9) (N := some 65) #[true, true, true, true, true, true, true, true, true, true, false, true, true, true, false, false] rfl rfl (one_of HT_.out (by kernel_rfl)) (by decide) (fun K hK => ?_)
                                          refine Kd.R_lit_step k50 _ 50 ?hg (N := 65) ?hd (xs := ([(⟨(rd_T50 l0 x10_1).f0, (rd_T50 l0 x10_1).f1⟩ : S50)] : List (S50))) (inner := [.string ((rd_T50 l0 x10_1).f0), .string ((rd_T50 l0 x10_1).f1)]) (ok := fun _ => True) (okp := fun _ => True) ?hr ?hp (fun _ hk => hk) trivial (Below.refl _ _) (Nat.le_refl _) (by simp) ?_; (case hd => rfl); (case hg => rfl); (case hr => first | (go_simp; done) | (go_simp; rfl)); (case hp => exact (Reps.c2 (show Kd.M k50 _ _ _ (⟨(rd_T50 l0 x10_1).f0, (rd_T50 l0 x10_1).f1⟩ : S50) [.string ((rd_T50 l0 x10_1).f0), .string ((rd_T50 l0 x10_1).f1)] from (k50_mkM _ _ _ (⟨(rd_T50 l0 x10_1).f0, (rd_T50 l0 x10_1).f1⟩ : S50) )) (Reps.none _ _)))
                                          intro v209 w56 ho57 hb hg_ hnew_
                                          clear hg_ hnew_
                                          (first | rw [← Ny208.out] at ho57 | (simp only [Int.reduceToNat] at ho57; rw [← Ny208.out] at ho57))
                                          have n0_ := Aside0.mk (Kd.R_elder' (by (with_reducible repeat (first | apply Kd.R_alloc | apply Kd.R_drewN | apply Kd.R_drew)); exact HO_3.out) (Kd.R_base ho57) hb)
                                          have n1_ := Aside0.mk (Kd.R_elder' (by (with_reducible repeat (first | apply Kd.R_alloc | apply Kd.R_drewN | apply Kd.R_drew)); exact HO206.out) (Kd.R_base ho57) hb)
                                          have n2_ := Aside0.mk (Kd.R_lower (Kd.R_new' (Kd.R_new' ho57 (Kd.R_lt (by (with_reducible repeat (first | apply Kd.R_alloc | apply Kd.R_drewN | apply Kd.R_drew)); exact HO_3.out))) (Kd.R_lt (by (with_reducible repeat (first | apply Kd.R_alloc | apply Kd.R_drewN | apply Kd.R_drew)); exact HO206.out))) (below_size (by repeat (first | (with_reducible first | exact HB.out | apply below_alloc | apply pw_below_drewN | apply below_drew1) | exact HB.out))))
                                          have n3_ := Aside0.mk (Kd.C_below (by repeat (first | (with_reducible exact HR203.out) | (with_reducible refine Kd.C_alloc ?_ _) | (with_reducible refine Kd.C_drewN ?_ _) | (with_reducible refine Kd.C_drew ?_) | exact HR203.out)) hb)
                                          have n4_ := Aside0.mk (Kd.C_below (by repeat (first | (with_reducible exact HR217.out) | (with_reducible refine Kd.C_alloc ?_ _) | (with_reducible refine Kd.C_drewN ?_ _) | (with_reducible refine Kd.C_drew ?_) | exact HR217.out)) hb)
                                          have n5_ := Aside0.mk (below_step (by repeat (first | (with_reducible first | exact HB.out | apply below_alloc | apply pw_below_drewN | apply below_drew1) | exact HB.out)) hb)
                                          clear HO_3
                                          clear HO206
                                          clear HR203
                                          clear HR217
                                          clear HB
                                          have HO_3 := n0_
                                          have HO206 := n1_
                                          have HO210 := n2_
                                          have HR203 := n3_
                                          have HR217 := n4_
                                          have HB := n5_
                                          clear n0_ n1_ n2_ n3_ n4_ n5_
                                          clear hb ho57
                                          refine hK.out _ _ ⟨((HB.out.cell (World.block_lt_of_cell? w _ hw207_0)).trans hw207_0), ((HB.out.cell (World.block_lt_of_cell? w _ hw207_1)).trans hw207_1)⟩ (fun hHeld => ?_)
                                          clear hK K
                                          refine norm_ (a' := ?_) ?_ ?_
                                          rotate_left
                                          · show Act.put _ (some 65) _ = _
                                            simp only [Act.put, List.setIfInBounds_toArray, List.set_cons_zero, List.set_cons_succ, i64_w, i32_w]
                                            rfl
                                          exact norm_ (by simp only [putAll, Act.put, List.setIfInBounds_toArray, List.set_cons_zero, List.set_cons_succ]) (hCont (v198, v205, v209) _ ⟨hHeld, (by (with_reducible repeat (first | apply Kd.R_alloc | apply Kd.R_drewN | apply Kd.R_drew)); exact Kd.R_mono HO206.out (fun _ hk => ⟨hk.2, hk.1⟩)), (by (with_reducible repeat (first | apply Kd.R_alloc | apply Kd.R_drewN | apply Kd.R_drew)); exact Kd.R_mono HO210.out (fun _ hk => ⟨hk.2, hk.1.2⟩)), (by (with_reducible repeat (first | apply Kd.R_alloc | apply Kd.R_drewN | apply Kd.R_drew)); exact Kd.R_mono HO_3.out (fun _ hk => ⟨hk.1.2, hk.2⟩)), (by repeat (first | (with_reducible first | exact HB.out | apply below_alloc | apply pw_below_drewN | apply below_drew1) | exact HB.out))⟩)
                                        · skip
                                          refine Kd.R_lit_step k50 _ 50 ?hg (N := 65) ?hd (xs := ([(⟨(rd_T50 l0 x10_1).f0, (rd_T50 l0 x10_1).f1⟩ : S50)] : List (S50))) (inner := [.string ((rd_T50 l0 x10_1).f0), .string ((rd_T50 l0 x10_1).f1)]) (ok := fun _ => True) (okp := fun _ => True) ?hr ?hp (fun _ hk => hk) trivial (Below.refl _ _) (Nat.le_refl _) (by simp) ?_; (case hd => rfl); (case hg => rfl); (case hr => first | (go_simp; done) | (go_simp; rfl)); (case hp => exact (Reps.c2 (show Kd.M k50 _ _ _ (⟨(rd_T50 l0 x10_1).f0, (rd_T50 l0 x10_1).f1⟩ : S50) [.string ((rd_T50 l0 x10_1).f0), .string ((rd_T50 l0 x10_1).f1)] from (k50_mkM _ _ _ (⟨(rd_T50 l0 x10_1).f0, (rd_T50 l0 x10_1).f1⟩ : S50) )) (Reps.none _ _)))
                                          intro v209 w55 ho56 hb hg_ hnew_
                                          clear hg_ hnew_
                                          (first | rw [← Ny208.out] at ho56 | (simp only [Int.reduceToNat] at ho56; rw [← Ny208.out] at ho56))
                                          have n0_ := Aside0.mk (Kd.R_elder' (by (with_reducible repeat (first | apply Kd.R_alloc | apply Kd.R_drewN | apply Kd.R_drew)); exact HO_3.out) (Kd.R_base ho56) hb)
                                          have n1_ := Aside0.mk (Kd.R_elder' (by (with_reducible repeat (first | apply Kd.R_alloc | apply Kd.R_drewN | apply Kd.R_drew)); exact HO199.out) (Kd.R_base ho56) hb)
                                          have n2_ := Aside0.mk (Kd.R_lower (Kd.R_new' (Kd.R_new' ho56 (Kd.R_lt (by (with_reducible repeat (first | apply Kd.R_alloc | apply Kd.R_drewN | apply Kd.R_drew)); exact HO_3.out))) (Kd.R_lt (by (with_reducible repeat (first | apply Kd.R_alloc | apply Kd.R_drewN | apply Kd.R_drew)); exact HO199.out))) (below_size (by repeat (first | (with_reducible first | exact HB.out | apply below_alloc | apply pw_below_drewN | apply below_drew1) | exact HB.out))))
                                          have n3_ := Aside0.mk (Kd.C_below (by repeat (first | (with_reducible exact HR203.out) | (with_reducible refine Kd.C_alloc ?_ _) | (with_reducible refine Kd.C_drewN ?_ _) | (with_reducible refine Kd.C_drew ?_) | exact HR203.out)) hb)
                                          have n4_ := Aside0.mk (Kd.C_below (by repeat (first | (with_reducible exact HR217.out) | (with_reducible refine Kd.C_alloc ?_ _) | (with_reducible refine Kd.C_drewN ?_ _) | (with_reducible refine Kd.C_drew ?_) | exact HR217.out)) hb)
                                          have n5_ := Aside0.mk (below_step (by repeat (first | (with_reducible first | exact HB.out | apply below_alloc | apply pw_below_drewN | apply below_drew1) | exact HB.out)) hb)
                                          clear HO_3
                                          clear HO199
                                          clear HR203
                                          clear HR217
                                          clear HB
                                          have HO_3 := n0_
                                          have HO199 := n1_
                                          have HO210 := n2_
                                          have HR203 := n3_
                                          have HR217 := n4_
                                          have HB := n5_
                                          clear n0_ n1_ n2_ n3_ n4_ n5_
                                          clear hb ho56
                                          refine hK.out _ _ ⟨((HB.out.cell (World.block_lt_of_cell? w _ hw207_0)).trans hw207_0), ((HB.out.cell (World.block_lt_of_cell? w _ hw207_1)).trans hw207_1)⟩ (fun hHeld => ?_)
                                          clear hK K
                                          refine norm_ (a' := ?_) ?_ ?_
                                          rotate_left
                                          · show Act.put _ (some 65) _ = _
                                            simp only [Act.put, List.setIfInBounds_toArray, List.set_cons_zero, List.set_cons_succ, i64_w, i32_w]
                                            rfl
                                          refine one_ (i := 4) (N := some 60) #[true, true, true, true, true, true, true, true, true, true, false, true, true, true, false, false] rfl rfl (one_of HT_.out (by kernel_rfl)) (by decide) (fun K hK => ?_)
                                          refine Kd.R_append_rows_step k50 (w0 := w) w.heap.size (by rfl) (.tmp 56) (.tmp 59) 31 50 (.agg #[(.string ⟨#[]⟩), (.string ⟨#[]⟩)]) 32 rfl Try.underlying31 info50 rfl (by decide) (by omega) v198 y197 y200 _ _ _ (fun k_ => some k_ ≠ (.slice Ao49 x3_1.length co49 : Value).ownBlock ∧ some k_ ≠ (v209 : Value).ownBlock) (fun _ => False) rfl rfl ?aO ?aR (fun _ _ h => h) (fun _ h => h.elim) ?aF ?aB ?aS ?aL ?_
                                          (case aR => repeat (first | exact (by repeat (first | (with_reducible exact HR203.out) | (with_reducible refine Kd.C_alloc ?_ _) | (with_reducible refine Kd.C_drewN ?_ _) | (with_reducible refine Kd.C_drew ?_) | exact HR203.out)) | (with_reducible refine Kd.C_alloc ?_ _) | (with_reducible refine Kd.C_drewN ?_ _) | (with_reducible refine Kd.C_drew ?_)))
                                          (case aB => exact (by repeat (first | (with_reducible first | exact HB.out | apply below_alloc | apply pw_below_drewN | apply below_drew1) | exact HB.out)))
                                          (case aF => exact (fun k_ hk => ⟨Kd.fresh' (Kd.R_lt (by (with_reducible repeat (first | apply Kd.R_alloc | apply Kd.R_drewN | apply Kd.R_drew)); exact HO_3.out)) k_ hk, Kd.fresh' (Kd.R_lt (by (with_reducible repeat (first | apply Kd.R_alloc | apply Kd.R_drewN | apply Kd.R_drew)); exact HO210.out)) k_ hk⟩))
                                          (case aO => exact (by (with_reducible repeat (first | apply Kd.R_alloc | apply Kd.R_drewN | apply Kd.R_drew)); exact Kd.R_mono HO199.out (fun _ hk => ⟨hk.1.2, hk.2⟩)))
                                          (case aS => exact (below_size (by repeat (first | (with_reducible first | exact HB.out | apply below_alloc | apply pw_below_drewN | apply below_drew1) | exact HB.out))))
                                          (case aL => have := LMc41.out; omega)
                                          intro v205 w57 ho hb hg hat
                                          rw [← Ny204.out] at ho
                                          have n0_ := Aside0.mk (Kd.R_after (ok := (fun k_ => some k_ ≠ (v209 : Value).ownBlock)) (by (with_reducible repeat (first | apply Kd.R_alloc | apply Kd.R_drewN | apply Kd.R_drew)); exact Kd.R_mono HO_3.out (fun _ hk => ⟨hk.2, hk.1.2⟩)) hg hat)
                                          have n1_ := Aside0.mk (Kd.R_after (ok := (fun k_ => some k_ ≠ (.slice Ao49 x3_1.length co49 : Value).ownBlock)) (by (with_reducible repeat (first | apply Kd.R_alloc | apply Kd.R_drewN | apply Kd.R_drew)); exact Kd.R_mono HO210.out (fun _ hk => ⟨hk.1.2, hk.2⟩)) hg hat)
                                          have n2_ := Aside0.mk (hb)
                                          have n3_ := Aside0.mk ((show Kd.C k50 w57 Ao49 y200.length y200 from by rw [Ny200.out]; exact Kd.C_take (m := (x7_3 : Int).toNat) ((Kd.R_reads' (Kd.R_after (ok := (fun k_ => some k_ ≠ (v209 : Value).ownBlock)) (by (with_reducible repeat (first | apply Kd.R_alloc | apply Kd.R_drewN | apply Kd.R_drew)); exact Kd.R_mono HO_3.out (fun _ hk => ⟨hk.2, hk.1.2⟩)) hg hat)).2.2) KL51.out))
                                          have n4_ := Aside0.mk ((show Kd.C k50 w57 A52 y214.length y214 from by rw [Ny214.out, KA52.out]; exact Kd.C_drop (m := (x7_3 : Int).toNat) (c := co49) ((Kd.R_reads' (Kd.R_after (ok := (fun k_ => some k_ ≠ (v209 : Value).ownBlock)) (by (with_reducible repeat (first | apply Kd.R_alloc | apply Kd.R_drewN | apply Kd.R_drew)); exact Kd.R_mono HO_3.out (fun _ hk => ⟨hk.2, hk.1.2⟩)) hg hat)).2.2) KL52.out ((Kd.R_reads' (Kd.R_after (ok := (fun k_ => some k_ ≠ (v209 : Value).ownBlock)) (by (with_reducible repeat (first | apply Kd.R_alloc | apply Kd.R_drewN | apply Kd.R_drew)); exact Kd.R_mono HO_3.out (fun _ hk => ⟨hk.2, hk.1.2⟩)) hg hat)).2.1)))
                                          have n5_ := Aside0.mk (ho)
                                          clear HO_3
                                          clear HO210
                                          clear HB
                                          clear HR203
                                          clear HR217
                                          clear HO199
                                          have HO_3 := n0_
                                          have HO210 := n1_
                                          have HB := n2_
                                          have HR203 := n3_
                                          have HR217 := n4_
                                          have HO206 := n5_
                                          clear n0_ n1_ n2_ n3_ n4_ n5_
                                          clear ho hb hg hat
                                          refine hK.out _ _ ⟨((HB.out.cell (World.block_lt_of_cell? w _ hw207_0)).trans hw207_0), ((HB.out.cell (World.block_lt_of_cell? w _ hw207_1)).trans hw207_1)⟩ (fun hHeld => ?_)
                                          clear hK K
                                          refine norm_ (a' := ?_) ?_ ?_
                                          rotate_left
                                          · show Act.put _ (some 60) _ = _
                                            simp only [Act.put, List.setIfInBounds_toArray, List.set_cons_zero, List.set_cons_succ, i64_w, i32_w]
                                            rfl
                                          exact norm_ (by simp only [putAll, Act.put, List.setIfInBounds_toArray, List.set_cons_zero, List.set_cons_succ]) (hCont (v198, v205, v209) _ ⟨hHeld, (by (with_reducible repeat (first | apply Kd.R_alloc | apply Kd.R_drewN | apply Kd.R_drew)); exact Kd.R_mono HO206.out (fun _ hk => ⟨hk.2, hk.1⟩)), (by (with_reducible repeat (first | apply Kd.R_alloc | apply Kd.R_drewN | apply Kd.R_drew)); exact Kd.R_mono HO210.out (fun _ hk => ⟨hk.2, hk.1⟩)), (by (with_reducible repeat (first | apply Kd.R_alloc | apply Kd.R_drewN | apply Kd.R_drew)); exact Kd.R_mono HO_3.out (fun _ hk => ⟨hk.2, hk.1⟩)), (by repeat (first | (with_reducible first | exact HB.out | apply below_alloc | apply pw_below_drewN | apply below_drew1) | exact HB.out))⟩)
                                      · skip
                                        refine Kd.R_lit_step k50 _ 50 ?hg (N := 65) ?hd (xs := ([(⟨(rd_T50 l0 x10_1).f0, (rd_T50 l0 x10_1).f1⟩ : S50)] : List (S50))) (inner := [.string ((rd_T50 l0 x10_1).f0), .string ((rd_T50 l0 x10_1).f1)]) (ok := fun _ => True) (okp := fun _ => True) ?hr ?hp (fun _ hk => hk) trivial (Below.refl _ _) (Nat.le_refl _) (by simp) ?_; (case hd => rfl); (case hg => rfl); (case hr => first | (go_simp; done) | (go_simp; rfl)); (case hp => exact (Reps.c2 (show Kd.M k50 _ _ _ (⟨(rd_T50 l0 x10_1).f0, (rd_T50 l0 x10_1).f1⟩ : S50) [.string ((rd_T50 l0 x10_1).f0), .string ((rd_T50 l0 x10_1).f1)] from (k50_mkM _ _ _ (⟨(rd_T50 l0 x10_1).f0, (rd_T50 l0 x10_1).f1⟩ : S50) )) (Reps.none _ _)))
                                        intro v209 w53 ho54 hb hg_ hnew_
                                        clear hg_ hnew_
                                        (first | rw [← Ny208.out] at ho54 | (simp only [Int.reduceToNat] at ho54; rw [← Ny208.out] at ho54))
                                        have n0_ := Aside0.mk (Kd.R_elder' (by (with_reducible repeat (first | apply Kd.R_alloc | apply Kd.R_drewN | apply Kd.R_drew)); exact HO_3.out) (Kd.R_base ho54) hb)
                                        have n1_ := Aside0.mk (Kd.R_lower (Kd.R_new' ho54 (Kd.R_lt (by (with_reducible repeat (first | apply Kd.R_alloc | apply Kd.R_drewN | apply Kd.R_drew)); exact HO_3.out))) (below_size (by repeat (first | (with_reducible first | exact HB.out | apply below_alloc | apply pw_below_drewN | apply below_drew1) | exact HB.out))))
                                        have n2_ := Aside0.mk (Kd.C_below (by repeat (first | (with_reducible exact HR203.out) | (with_reducible refine Kd.C_alloc ?_ _) | (with_reducible refine Kd.C_drewN ?_ _) | (with_reducible refine Kd.C_drew ?_) | exact HR203.out)) hb)
                                        have n3_ := Aside0.mk (Kd.C_below (by repeat (first | (with_reducible exact HR217.out) | (with_reducible refine Kd.C_alloc ?_ _) | (with_reducible refine Kd.C_drewN ?_ _) | (with_reducible refine Kd.C_drew ?_) | exact HR217.out)) hb)
                                        have n4_ := Aside0.mk (below_step (by repeat (first | (with_reducible first | exact HB.out | apply below_alloc | apply pw_below_drewN | apply below_drew1) | exact HB.out)) hb)
                                        clear HO_3
                                        clear HR203
                                        clear HR217
                                        clear HB
                                        have HO_3 := n0_
                                        have HO210 := n1_
                                        have HR203 := n2_
                                        have HR217 := n3_
                                        have HB := n4_
                                        clear n0_ n1_ n2_ n3_ n4_
                                        clear hb ho54
                                        refine hK.out _ _ ⟨((HB.out.cell (World.block_lt_of_cell? w _ hw207_0)).trans hw207_0), ((HB.out.cell (World.block_lt_of_cell? w _ hw207_1)).trans hw207_1)⟩ (fun hHeld => ?_)
                                        clear hK K
                                        refine norm_ (a' := ?_) ?_ ?_
                                        rotate_left
                                        · show Act.put _ (some 65) _ = _
                                          simp only [Act.put, List.setIfInBounds_toArray, List.set_cons_zero, List.set_cons_succ, i64_w, i32_w]
                                          rfl
                                        refine one_ (i := 0) (N := some 56) #[true, true, true, true, false, true, true, true, true, true, false, true, true, true, false, false] rfl rfl (one_of HT_.out (by kernel_rfl)) (by decide) (fun K hK => ?_)
                                        refine Kd.R_lit_step k50 _ 50 ?hg (N := 56) ?hd (xs := ([] : List (S50))) (inner := []) (ok := fun _ => True) (okp := fun _ => True) ?hr ?hp (fun _ hk => hk) trivial (Below.refl _ _) (Nat.le_refl _) (by simp) ?_; (case hd => rfl); (case hg => rfl); (case hr => first | (go_simp; done) | (go_simp; rfl)); (case hp => exact (Reps.none _ _))
                                        intro v198 w55 ho56 hb hg_ hnew_
                                        clear hg_ hnew_
                                        (first | rw [← Ny197.out] at ho56 | (simp only [Int.reduceToNat] at ho56; rw [← Ny197.out] at ho56))
                                        have n0_ := Aside0.mk (Kd.R_elder' (by (with_reducible repeat (first | apply Kd.R_alloc | apply Kd.R_drewN | apply Kd.R_drew)); exact HO_3.out) (Kd.R_base ho56) hb)
                                        have n1_ := Aside0.mk (Kd.R_elder' (by (with_reducible repeat (first | apply Kd.R_alloc | apply Kd.R_drewN | apply Kd.R_drew)); exact HO210.out) (Kd.R_base ho56) hb)
                                        have n2_ := Aside0.mk (Kd.R_lower (Kd.R_new' (Kd.R_new' ho56 (Kd.R_lt (by (with_reducible repeat (first | apply Kd.R_alloc | apply Kd.R_drewN | apply Kd.R_drew)); exact HO_3.out))) (Kd.R_lt (by (with_reducible repeat (first | apply Kd.R_alloc | apply Kd.R_drewN | apply Kd.R_drew)); exact HO210.out))) (below_size (by repeat (first | (with_reducible first | exact HB.out | apply below_alloc | apply pw_below_drewN | apply below_drew1) | exact HB.out))))
                                        have n3_ := Aside0.mk (Kd.C_below (by repeat (first | (with_reducible exact HR203.out) | (with_reducible refine Kd.C_alloc ?_ _) | (with_reducible refine Kd.C_drewN ?_ _) | (with_reducible refine Kd.C_drew ?_) | exact HR203.out)) hb)
                                        have n4_ := Aside0.mk (Kd.C_below (by repeat (first | (with_reducible exact HR217.out) | (with_reducible refine Kd.C_alloc ?_ _) | (with_reducible refine Kd.C_drewN ?_ _) | (with_reducible refine Kd.C_drew ?_) | exact HR217.out)) hb)
                                        have n5_ := Aside0.mk (below_step (by repeat (first | (with_reducible first | exact HB.out | apply below_alloc | apply pw_below_drewN | apply below_drew1) | exact HB.out)) hb)
                                        clear HO_3
                                        clear HO210
                                        clear HR203
                                        clear HR217
                                        clear HB
                                        have HO_3 := n0_
                                        have HO210 := n1_
                                        have HO199 := n2_
                                        have HR203 := n3_
                                        have HR217 := n4_
                                        have HB := n5_
                                        clear n0_ n1_ n2_ n3_ n4_ n5_
                                        clear hb ho56
                                        refine hK.out _ _ ⟨((HB.out.cell (World.block_lt_of_cell? w _ hw207_0)).trans hw207_0), ((HB.out.cell (World.block_lt_of_cell? w _ hw207_1)).trans hw207_1)⟩ (fun hHeld => ?_)
                                        clear hK K
                                        refine norm_ (a' := ?_) ?_ ?_
                                        rotate_left
                                        · show Act.put _ (some 56) _ = _
                                          simp only [Act.put, List.setIfInBounds_toArray, List.set_cons_zero, List.set_cons_succ, i64_w, i32_w]
                                          rfl
                                        refine one_ (i := 4) (N := some 60) #[true, true, true, true, true, true, true, true, true, true, false, true, true, true, false, false] rfl rfl (one_of HT_.out (by kernel_rfl)) (by decide) (fun K hK => ?_)
                                        refine Kd.R_append_rows_step k50 (w0 := w) w.heap.size (by rfl) (.tmp 56) (.tmp 59) 31 50 (.agg #[(.string ⟨#[]⟩), (.string ⟨#[]⟩)]) 32 rfl Try.underlying31 info50 rfl (by decide) (by omega) v198 y197 y200 _ _ _ (fun k_ => some k_ ≠ (.slice Ao49 x3_1.length co49 : Value).ownBlock ∧ some k_ ≠ (v209 : Value).ownBlock) (fun _ => False) rfl rfl ?aO ?aR (fun _ _ h => h) (fun _ h => h.elim) ?aF ?aB ?aS ?aL ?_
                                        (case aR => repeat (first | exact (by repeat (first | (with_reducible exact HR203.out) | (with_reducible refine Kd.C_alloc ?_ _) | (with_reducible refine Kd.C_drewN ?_ _) | (with_reducible refine Kd.C_drew ?_) | exact HR203.out)) | (with_reducible refine Kd.C_alloc ?_ _) | (with_reducible refine Kd.C_drewN ?_ _) | (with_reducible refine Kd.C_drew ?_)))
                                        (case aB => exact (by repeat (first | (with_reducible first | exact HB.out | apply below_alloc | apply pw_below_drewN | apply below_drew1) | exact HB.out)))
                                        (case aF => exact (fun k_ hk => ⟨Kd.fresh' (Kd.R_lt (by (with_reducible repeat (first | apply Kd.R_alloc | apply Kd.R_drewN | apply Kd.R_drew)); exact HO_3.out)) k_ hk, Kd.fresh' (Kd.R_lt (by (with_reducible repeat (first | apply Kd.R_alloc | apply Kd.R_drewN | apply Kd.R_drew)); exact HO210.out)) k_ hk⟩))
                                        (case aO => exact (by (with_reducible repeat (first | apply Kd.R_alloc | apply Kd.R_drewN | apply Kd.R_drew)); exact Kd.R_mono HO199.out (fun _ hk => ⟨hk.1.2, hk.2⟩)))
                                        (case aS => exact (below_size (by repeat (first | (with_reducible first | exact HB.out | apply below_alloc | apply pw_below_drewN | apply below_drew1) | exact HB.out))))
                                        (case aL => have := LMc41.out; omega)
                                        intro v205 w57 ho hb hg hat
                                        rw [← Ny204.out] at ho
                                        have n0_ := Aside0.mk (Kd.R_after (ok := (fun k_ => some k_ ≠ (v209 : Value).ownBlock)) (by (with_reducible repeat (first | apply Kd.R_alloc | apply Kd.R_drewN | apply Kd.R_drew)); exact Kd.R_mono HO_3.out (fun _ hk => ⟨hk.1.2, hk.2⟩)) hg hat)
                                        have n1_ := Aside0.mk (Kd.R_after (ok := (fun k_ => some k_ ≠ (.slice Ao49 x3_1.length co49 : Value).ownBlock)) (by (with_reducible repeat (first | apply Kd.R_alloc | apply Kd.R_drewN | apply Kd.R_drew)); exact Kd.R_mono HO210.out (fun _ hk => ⟨hk.1.2, hk.2⟩)) hg hat)
                                        have n2_ := Aside0.mk (hb)
                                        have n3_ := Aside0.mk ((show Kd.C k50 w57 Ao49 y200.length y200 from by rw [Ny200.out]; exact Kd.C_take (m := (x7_3 : Int).toNat) ((Kd.R_reads' (Kd.R_after (ok := (fun k_ => some k_ ≠ (v209 : Value).ownBlock)) (by (with_reducible repeat (first | apply Kd.R_alloc | apply Kd.R_drewN | apply Kd.R_drew)); exact Kd.R_mono HO_3.out (fun _ hk => ⟨hk.1.2, hk.2⟩)) hg hat)).2.2) KL51.out))
                                        have n4_ := Aside0.mk ((show Kd.C k50 w57 A52 y214.length y214 from by rw [Ny214.out, KA52.out]; exact Kd.C_drop (m := (x7_3 : Int).toNat) (c := co49) ((Kd.R_reads' (Kd.R_after (ok := (fun k_ => some k_ ≠ (v209 : Value).ownBlock)) (by (with_reducible repeat (first | apply Kd.R_alloc | apply Kd.R_drewN | apply Kd.R_drew)); exact Kd.R_mono HO_3.out (fun _ hk => ⟨hk.1.2, hk.2⟩)) hg hat)).2.2) KL52.out ((Kd.R_reads' (Kd.R_after (ok := (fun k_ => some k_ ≠ (v209 : Value).ownBlock)) (by (with_reducible repeat (first | apply Kd.R_alloc | apply Kd.R_drewN | apply Kd.R_drew)); exact Kd.R_mono HO_3.out (fun _ hk => ⟨hk.1.2, hk.2⟩)) hg hat)).2.1)))
                                        have n5_ := Aside0.mk (ho)
                                        clear HO_3
                                        clear HO210
                                        clear HB
                                        clear HR203
                                        clear HR217
                                        clear HO199
                                        have HO_3 := n0_
                                        have HO210 := n1_
                                        have HB := n2_
                                        have HR203 := n3_
                                        have HR217 := n4_
                                        have HO206 := n5_
                                        clear n0_ n1_ n2_ n3_ n4_ n5_
                                        clear ho hb hg hat
                                        refine hK.out _ _ ⟨((HB.out.cell (World.block_lt_of_cell? w _ hw207_0)).trans hw207_0), ((HB.out.cell (World.block_lt_of_cell? w _ hw207_1)).trans hw207_1)⟩ (fun hHeld => ?_)
                                        clear hK K
                                        refine norm_ (a' := ?_) ?_ ?_
                                        rotate_left
                                        · show Act.put _ (some 60) _ = _
                                          simp only [Act.put, List.setIfInBounds_toArray, List.set_cons_zero, List.set_cons_succ, i64_w, i32_w]
                                          rfl
                                        exact norm_ (by simp only [putAll, Act.put, List.setIfInBounds_toArray, List.set_cons_zero, List.set_cons_succ]) (hCont (v198, v205, v209) _ ⟨hHeld, (by (with_reducible repeat (first | apply Kd.R_alloc | apply Kd.R_drewN | apply Kd.R_drew)); exact Kd.R_mono HO206.out (fun _ hk => ⟨hk.2, hk.1⟩)), (by (with_reducible repeat (first | apply Kd.R_alloc | apply Kd.R_drewN | apply Kd.R_drew)); exact Kd.R_mono HO210.out (fun _ hk => ⟨hk.2, hk.1⟩)), (by (with_reducible repeat (first | apply Kd.R_alloc | apply Kd.R_drewN | apply Kd.R_drew)); exact Kd.R_mono HO_3.out (fun _ hk => ⟨hk.2, hk.1⟩)), (by repeat (first | (with_reducible first | exact HB.out | apply below_alloc | apply pw_below_drewN | apply below_drew1) | exact HB.out))⟩)
                                    rintro ⟨v198, v205, v209⟩ w58 ⟨hS_, h0_, h1_, h2_, h3_⟩
                                    have n0_ : Aside0 (Kd.R k50 50 w58 w.heap.size (fun k_ => some k_ ≠ (v209 : Value).ownBlock ∧ some k_ ≠ (.slice Ao49 x3_1.length co49 : Value).ownBlock) v205 y204) := ⟨h0_⟩
                                    have n1_ : Aside0 (Kd.R k50 50 w58 w.heap.size (fun k_ => some k_ ≠ (v205 : Value).ownBlock ∧ some k_ ≠ (.slice Ao49 x3_1.length co49 : Value).ownBlock) v209 y208) := ⟨h1_⟩
                                    have n2_ : Aside0 (Kd.R k50 50 w58 w.heap.size (fun k_ => some k_ ≠ (v205 : Value).ownBlock ∧ some k_ ≠ (v209 : Value).ownBlock) (.slice Ao49 x3_1.length co49) x3_1) := ⟨h2_⟩
                                    have n3_ : Aside0 (Below w.heap.size w w58) := ⟨h3_⟩
                                    clear HO_3
                                    clear HB
                                    clear h0_ h1_ h2_ h3_
                                    have HO206 := n0_
                                    have HO210 := n1_
                                    have HO_3 := n2_
                                    have HB := n3_
                                    clear n0_ n1_ n2_ n3_
                                    have hHeld : w58.cell? (ad207.add ((x10_1).toNat * 2)) = some (.string ((rd_T50 l0 x10_1).f0)) ∧ w58.cell? ⟨(ad207.add ((x10_1).toNat * 2)).block, (ad207.add ((x10_1).toNat * 2)).off + 1, none⟩ = some (.string ((rd_T50 l0 x10_1).f1)) := hS_
                                    have HR203 := Aside0.mk (show Kd.C k50 w58 Ao49 y200.length y200 from by rw [Ny200.out]; exact Kd.C_take (m := (x7_3 : Int).toNat) ((Kd.R_reads' (HO_3.out)).2.2) KL51.out)
                                    have HR217 := Aside0.mk (show Kd.C k50 w58 A52 y214.length y214 from by rw [Ny214.out, KA52.out]; exact Kd.C_drop (m := (x7_3 : Int).toNat) (c := co49) ((Kd.R_reads' (HO_3.out)).2.2) KL52.out ((Kd.R_reads' (HO_3.out)).2.1))
                                    obtain ⟨Ao60, co60, eo60⟩ := Kd.R_slice HO210.out
                                    (first | subst eo60 | (injection eo60 with f1_ f2_ f3_; have f4_ := f1_.symm; have f5_ := f3_.symm; clear f1_ f2_ f3_; subst f4_; subst f5_))
                                    refine norm_ (a' := ?_) ?_ ?_
                                    rotate_left
                                    · simp only [putAll, Act.put, List.setIfInBounds_toArray, List.set_cons_zero, List.set_cons_succ]
                                      rfl
                                    refine one_ (i := 10) (N := some 66) #[true, true, true, true, true, true, true, true, true, true, true, true, true, true, false, false] rfl rfl (one_of HT_.out (by kernel_rfl)) (by decide) (fun K hK => ?_)
                                    refine Kd.R_append_rows_step k50 (w0 := w) w.heap.size (by rfl) (.tmp 60) (.tmp 65) 31 50 (.agg #[(.string ⟨#[]⟩), (.string ⟨#[]⟩)]) 32 rfl Try.underlying31 info50 rfl (by decide) (by omega) v205 y204 y208 _ _ _ (fun k_ => some k_ ≠ (.slice Ao49 x3_1.length co49 : Value).ownBlock ∧ some k_ ≠ (.slice Ao60 y208.length co60 : Value).ownBlock) (fun _ => False) rfl rfl ?aO ?aR (fun _ _ h => h) (fun _ h => h.elim) ?aF ?aB ?aS ?aL ?_
                                    (case aR => repeat (first | exact (Kd.R_reads' HO210.out).2.2 | (with_reducible refine Kd.C_alloc ?_ _) | (with_reducible refine Kd.C_drewN ?_ _) | (with_reducible refine Kd.C_drew ?_)))
                                    (case aB => exact (by repeat (first | (with_reducible first | exact HB.out | apply below_alloc | apply pw_below_drewN | apply below_drew1) | exact HB.out)))
                                    (case aF => exact (fun k_ hk => ⟨Kd.fresh' (Kd.R_lt (by (with_reducible repeat (first | apply Kd.R_alloc | apply Kd.R_drewN | apply Kd.R_drew)); exact HO_3.out)) k_ hk, Kd.fresh' (Kd.R_lt (by (with_reducible repeat (first | apply Kd.R_alloc | apply Kd.R_drewN | apply Kd.R_drew)); exact HO210.out)) k_ hk⟩))
                                    (case aO => exact (by (with_reducible repeat (first | apply Kd.R_alloc | apply Kd.R_drewN | apply Kd.R_drew)); exact Kd.R_mono HO206.out (fun _ hk => ⟨hk.2, hk.1⟩)))
                                    (case aS => exact (below_size (by repeat (first | (with_reducible first | exact HB.out | apply below_alloc | apply pw_below_drewN | apply below_drew1) | exact HB.out))))
                                    (case aL => have := LMc44.out; omega)
                                    intro v212 w59 ho hb hg hat
                                    rw [← Ny211.out] at ho
                                    have n0_ := Aside0.mk (Kd.R_after (ok := (fun k_ => some k_ ≠ (.slice Ao60 y208.length co60 : Value).ownBlock)) (by (with_reducible repeat (first | apply Kd.R_alloc | apply Kd.R_drewN | apply Kd.R_drew)); exact Kd.R_mono HO_3.out (fun _ hk => ⟨hk.2, hk.1⟩)) hg hat)
                                    have n1_ := Aside0.mk (Kd.R_after (ok := (fun k_ => some k_ ≠ (.slice Ao49 x3_1.length co49 : Value).ownBlock)) (by (with_reducible repeat (first | apply Kd.R_alloc | apply Kd.R_drewN | apply Kd.R_drew)); exact Kd.R_mono HO210.out (fun _ hk => ⟨hk.2, hk.1⟩)) hg hat)
                                    have n2_ := Aside0.mk (hb)
                                    have n3_ := Aside0.mk ((show Kd.C k50 w59 Ao49 y200.length y200 from by rw [Ny200.out]; exact Kd.C_take (m := (x7_3 : Int).toNat) ((Kd.R_reads' (Kd.R_after (ok := (fun k_ => some k_ ≠ (.slice Ao60 y208.length co60 : Value).ownBlock)) (by (with_reducible repeat (first | apply Kd.R_alloc | apply Kd.R_drewN | apply Kd.R_drew)); exact Kd.R_mono HO_3.out (fun _ hk => ⟨hk.2, hk.1⟩)) hg hat)).2.2) KL51.out))
                                    have n4_ := Aside0.mk ((show Kd.C k50 w59 A52 y214.length y214 from by rw [Ny214.out, KA52.out]; exact Kd.C_drop (m := (x7_3 : Int).toNat) (c := co49) ((Kd.R_reads' (Kd.R_after (ok := (fun k_ => some k_ ≠ (.slice Ao60 y208.length co60 : Value).ownBlock)) (by (with_reducible repeat (first | apply Kd.R_alloc | apply Kd.R_drewN | apply Kd.R_drew)); exact Kd.R_mono HO_3.out (fun _ hk => ⟨hk.2, hk.1⟩)) hg hat)).2.2) KL52.out ((Kd.R_reads' (Kd.R_after (ok := (fun k_ => some k_ ≠ (.slice Ao60 y208.length co60 : Value).ownBlock)) (by (with_reducible repeat (first | apply Kd.R_alloc | apply Kd.R_drewN | apply Kd.R_drew)); exact Kd.R_mono HO_3.out (fun _ hk => ⟨hk.2, hk.1⟩)) hg hat)).2.1)))
                                    have n5_ := Aside0.mk (ho)
                                    clear HO_3
                                    clear HO210
                                    clear HB
                                    clear HR203
                                    clear HR217
                                    clear HO206
                                    have HO_3 := n0_
                                    have HO210 := n1_
                                    have HB := n2_
                                    have HR203 := n3_
                                    have HR217 := n4_
                                    have HO213 := n5_
                                    clear n0_ n1_ n2_ n3_ n4_ n5_
                                    clear ho hb hg hat
                                    refine hK.out _ _ ⟨((HB.out.cell (World.block_lt_of_cell? w _ hw207_0)).trans hw207_0), ((HB.out.cell (World.block_lt_of_cell? w _ hw207_1)).trans hw207_1)⟩ (fun hHeld => ?_)
                                    clear hK K
                                    refine norm_ (a' := ?_) ?_ ?_
                                    rotate_left
                                    · show Act.put _ (some 66) _ = _
                                      simp only [Act.put, List.setIfInBounds_toArray, List.set_cons_zero, List.set_cons_succ, i64_w, i32_w]
                                      rfl
                                    refine one_ (i := 14) (N := some 70) #[true, true, true, true, true, true, true, true, true, true, true, true, true, true, true, false] rfl rfl (one_of HT_.out (by kernel_rfl)) (by decide) (fun K hK => ?_)
                                    refine Kd.R_append_rows_step k50 (w0 := w) w.heap.size (by rfl) (.tmp 66) (.tmp 69) 31 50 (.agg #[(.string ⟨#[]⟩), (.string ⟨#[]⟩)]) 32 rfl Try.underlying31 info50 rfl (by decide) (by omega) v212 y211 y214 _ _ _ (fun k_ => some k_ ≠ (.slice Ao49 x3_1.length co49 : Value).ownBlock ∧ some k_ ≠ (.slice Ao60 y208.length co60 : Value).ownBlock) (fun _ => False) rfl rfl ?aO ?aR (fun _ _ h => h) (fun _ h => h.elim) ?aF ?aB ?aS ?aL ?_
                                    (case aR => repeat (first | exact (by repeat (first | (with_reducible exact HR217.out) | (with_reducible refine Kd.C_alloc ?_ _) | (with_reducible refine Kd.C_drewN ?_ _) | (with_reducible refine Kd.C_drew ?_) | exact HR217.out)) | (with_reducible refine Kd.C_alloc ?_ _) | (with_reducible refine Kd.C_drewN ?_ _) | (with_reducible refine Kd.C_drew ?_)))
                                    (case aB => exact (by repeat (first | (with_reducible first | exact HB.out | apply below_alloc | apply pw_below_drewN | apply below_drew1) | exact HB.out)))
                                    (case aF => exact (fun k_ hk => ⟨Kd.fresh' (Kd.R_lt (by (with_reducible repeat (first | apply Kd.R_alloc | apply Kd.R_drewN | apply Kd.R_drew)); exact HO_3.out)) k_ hk, Kd.fresh' (Kd.R_lt (by (with_reducible repeat (first | apply Kd.R_alloc | apply Kd.R_drewN | apply Kd.R_drew)); exact HO210.out)) k_ hk⟩))
                                    (case aO => exact (by (with_reducible repeat (first | apply Kd.R_alloc | apply Kd.R_drewN | apply Kd.R_drew)); exact HO213.out))
                                    (case aS => exact (below_size (by repeat (first | (with_reducible first | exact HB.out | apply below_alloc | apply pw_below_drewN | apply below_drew1) | exact HB.out))))
                                    (case aL => have := LMc47.out; omega)
                                    intro v219 w61 ho hb hg hat
                                    rw [← Ny218.out] at ho
                                    have n0_ := Aside0.mk (Kd.R_after (ok := (fun k_ => some k_ ≠ (.slice Ao60 y208.length co60 : Value).ownBlock)) (by (with_reducible repeat (first | apply Kd.R_alloc | apply Kd.R_drewN | apply Kd.R_drew)); exact HO_3.out) hg hat)
                                    have n1_ := Aside0.mk (Kd.R_after (ok := (fun k_ => some k_ ≠ (.slice Ao49 x3_1.length co49 : Value).ownBlock)) (by (with_reducible repeat (first | apply Kd.R_alloc | apply Kd.R_drewN | apply Kd.R_drew)); exact HO210.out) hg hat)
                                    have n2_ := Aside0.mk (hb)
                                    have n3_ := Aside0.mk ((show Kd.C k50 w61 Ao49 y200.length y200 from by rw [Ny200.out]; exact Kd.C_take (m := (x7_3 : Int).toNat) ((Kd.R_reads' (Kd.R_after (ok := (fun k_ => some k_ ≠ (.slice Ao60 y208.length co60 : Value).ownBlock)) (by (with_reducible repeat (first | apply Kd.R_alloc | apply Kd.R_drewN | apply Kd.R_drew)); exact HO_3.out) hg hat)).2.2) KL51.out))
                                    have n4_ := Aside0.mk ((show Kd.C k50 w61 A52 y214.length y214 from by rw [Ny214.out, KA52.out]; exact Kd.C_drop (m := (x7_3 : Int).toNat) (c := co49) ((Kd.R_reads' (Kd.R_after (ok := (fun k_ => some k_ ≠ (.slice Ao60 y208.length co60 : Value).ownBlock)) (by (with_reducible repeat (first | apply Kd.R_alloc | apply Kd.R_drewN | apply Kd.R_drew)); exact HO_3.out) hg hat)).2.2) KL52.out ((Kd.R_reads' (Kd.R_after (ok := (fun k_ => some k_ ≠ (.slice Ao60 y208.length co60 : Value).ownBlock)) (by (with_reducible repeat (first | apply Kd.R_alloc | apply Kd.R_drewN | apply Kd.R_drew)); exact HO_3.out) hg hat)).2.1)))
                                    have n5_ := Aside0.mk (ho)
                                    clear HO_3
                                    clear HO210
                                    clear HB
                                    clear HR203
                                    clear HR217
                                    clear HO213
                                    have HO_3 := n0_
                                    have HO210 := n1_
                                    have HB := n2_
                                    have HR203 := n3_
                                    have HR217 := n4_
                                    have HO220 := n5_
                                    clear n0_ n1_ n2_ n3_ n4_ n5_
                                    clear ho hb hg hat
                                    refine hK.out _ _ ⟨((HB.out.cell (World.block_lt_of_cell? w _ hw207_0)).trans hw207_0), ((HB.out.cell (World.block_lt_of_cell? w _ hw207_1)).trans hw207_1)⟩ (fun hHeld => ?_)
                                    clear hK K
                                    refine norm_ (a' := ?_) ?_ ?_
                                    rotate_left
                                    · show Act.put _ (some 70) _ = _
                                      simp only [Act.put, List.setIfInBounds_toArray, List.set_cons_zero, List.set_cons_succ, i64_w, i32_w]
                                      rfl
                                    refine pure_ (i := 15) (N := some 3) (v := ?_) (a' := ?_) #[true, true, true, true, true, true, true, true, true, true, true, true, true, true, true, true] rfl rfl (any_of HT_.out (by kernel_rfl)) (fun _ _ _ h => h) (Or.inl ⟨by rfl, ?_⟩) ?_ ?_
                                    rotate_left
                                    · intro w'
                                      go_simp
                                      with_reducible rfl
                                    rotate_left
                                    · simp only [Act.put, List.setIfInBounds_toArray, List.set_cons_zero, List.set_cons_succ, i64_w, i32_w]
                                      rfl
                                    refine done_ (done_of HT_.out (by kernel_rfl)) ?_
                                    try go_wp2
                                    go_roundg k3
                                    case measure => have := HK1.out; have := HK2.out; have := HK3.out; omega
                                    case rel => exact ⟨(y218), (wrap64 (x10_1 + 1)), (by first | rfl | (simp; done) | (simp [*]; done)), H', ⟨by have := HK1.out; have := HK2.out; have := HK3.out; omega⟩, ⟨by (with_reducible repeat (first | apply Kd.R_alloc | apply Kd.R_drewN | apply Kd.R_drew)); exact Kd.R_mono HO220.out (fun _ hk => trivial)⟩, ⟨by repeat (first | (with_reducible first | exact HB.out | apply below_alloc | apply pw_below_drewN | apply below_drew1) | exact HB.out)⟩⟩
                                  · rw [if_neg c47] at H
                                    exact absurd H (by simp)
                                · rw [if_neg c44] at H
                                  exact absurd H (by simp)
                              · rw [if_neg c43] at H
                                exact absurd H (by simp)
                            · rw [if_neg c42] at H
                              exact absurd H (by simp)
                          · rw [if_neg c41] at H
                            exact absurd H (by simp)
                        · rw [if_neg c40] at H
                          exact absurd H (by simp)
                      · rw [if_neg c39] at H
                        exact absurd H (by simp)
              · replace c10 := Bool.eq_false_iff.mpr c10
                subst c10
                have H1 : (spec_Set.l0 k2 l0 x3_1 (l0.length : Int) (wrap64 (x10_1 + 1))) = some r := by rw [if_neg (show ¬ (false = true) by decide)] at H; exact H
                clear H
                have H := H1
                clear H1
                have H' := Aside0.mk H
                clear H
                go_wp2
                go_roundg k2
                case measure => have := HK1.out; have := HK2.out; omega
                case rel => exact ⟨(x3_1), (wrap64 (x10_1 + 1)), (by first | rfl | (simp; done) | (simp [*]; done)), H', ⟨by have := HK1.out; have := HK2.out; omega⟩, ⟨by (with_reducible repeat (first | apply Kd.R_alloc | apply Kd.R_drewN | apply Kd.R_drew)); exact HO_3.out⟩, ⟨by repeat (first | (with_reducible first | exact HB.out | apply below_alloc | apply pw_below_drewN | apply below_drew1) | exact HB.out)⟩⟩
      · rw [if_neg c2] at H
        have c2b0 : decide (x10_1 < (l0.length : Int)) = false := decide_eq_false c2
        clear c2
        obtain rfl := Option.some.inj H
        go_wp2
        go_ret
        exact ⟨_, by first | rfl | (simp [errW_none, errW_some] <;> rfl) | (simp [*, errW_none, errW_some] <;> rfl), by (with_reducible repeat (first | apply Kd.R_alloc | apply Kd.R_drewN | apply Kd.R_drew)); exact HO_3.out, by repeat (first | (with_reducible first | exact HB.out | apply below_alloc | apply pw_below_drewN | apply below_drew1) | exact HB.out)⟩

end Go.Proofs.Ytbffhefeepmpcaa.Q
