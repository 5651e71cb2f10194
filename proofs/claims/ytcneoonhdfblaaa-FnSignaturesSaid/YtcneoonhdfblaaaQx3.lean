-- printed by this project's own program wip/tools/mkprint.py (the kit's print.py with hand-proved contracts put in)
import Derived.Test.YtcneoonhdfblaaaQx0
namespace Go.Proofs.Ytcneoonhdfblaaa.Q
open Go.RowKit Go.Proofs.YtcneoonhdfblaaaW.PrintWords Go.Proofs.YtcneoonhdfblaaaW.PrintLast Go.Proofs.YtcneoonhdfblaaaW.PrintMore
attribute [local go_sem] max2_int min2_int max_two min_two max_three min_three max_four min_four   -- for this text's walks alone
set_option linter.unusedVariables false
set_option linter.unusedSimpArgs false

/-! ### spec_Set: function 13 -/
mutual
def spec_Set.l0 : Nat → List (S37) → List (S37) → Int → Int → Option ((List (S37)))
  | 0, _, _, _, _ => none
  | k + 1, x0, x3, x9, x10 => if x10 < x9 then (spec_Set.l1 k x0 x3 x10 true (wrap64 (x10 + 1)) x9 x10) else (some x3)
def spec_Set.l1 : Nat → List (S37) → List (S37) → Int → Bool → Int → Int → Int → Option ((List (S37)))
  | 0, _, _, _, _, _, _, _ => none
  | k + 1, x0, x3, x4, x5, x6, x9, x10 => if x6 < (x0.length : Int) then (if x5 = true then (if 0 ≤ x6 then (if 0 ≤ x4 then (if x4 < (x0.length : Int) then (spec_Set.l1 k x0 x3 x4 (((rd_T37 x0 x6).f0).toList != ((rd_T37 x0 x4).f0).toList) (wrap64 (x6 + 1)) x9 x10) else (none)) else (none)) else (none)) else (spec_Set.l1 k x0 x3 x4 false (wrap64 (x6 + 1)) x9 x10)) else (if x5 = true then (spec_Set.l2 k x0 x3 x4 0 x9 x10) else (spec_Set.l0 k x0 x3 x9 (wrap64 (x10 + 1))))
def spec_Set.l2 : Nat → List (S37) → List (S37) → Int → Int → Int → Int → Option ((List (S37)))
  | 0, _, _, _, _, _, _ => none
  | k + 1, x0, x3, x4, x7, x9, x10 => if x7 < (x3.length : Int) then (if 0 ≤ x7 then (if 0 ≤ x4 then (if x4 < (x0.length : Int) then (if (Op.bytesLess (((rd_T37 x3 x7).f0).toList) (((rd_T37 x0 x4).f0).toList)) = true then (spec_Set.l2 k x0 x3 x4 (wrap64 (x7 + 1)) x9 x10) else ((some (([] : List (S37)) : List (S37))).bind fun y109 => (if x7 ≤ (x3.length : Int) then ((some (x3.take (x7 : Int).toNat : List (S37))).bind fun y112 => (if y109.length + y112.length < 4398046511104 then ((some (y109 ++ y112 : List (S37))).bind fun y116 => ((some (([(⟨(rd_T37 x0 x4).f0, (rd_T37 x0 x4).f1⟩ : S37)] : List (S37)) : List (S37))).bind fun y120 => (if y116.length + y120.length < 4398046511104 then ((some (y116 ++ y120 : List (S37))).bind fun y123 => ((some (x3.drop (x7 : Int).toNat : List (S37))).bind fun y126 => (if y123.length + y126.length < 4398046511104 then (spec_Set.l0 k x0 (y123 ++ y126) x9 (wrap64 (x10 + 1))) else (none)))) else (none)))) else (none))) else (none)))) else (none)) else (none)) else (none)) else ((some (([] : List (S37)) : List (S37))).bind fun y133 => (if 0 ≤ x7 then (if x7 ≤ (x3.length : Int) then ((some (x3.take (x7 : Int).toNat : List (S37))).bind fun y136 => (if y133.length + y136.length < 4398046511104 then ((some (y133 ++ y136 : List (S37))).bind fun y140 => (if 0 ≤ x4 then (if x4 < (x0.length : Int) then ((some (([(⟨(rd_T37 x0 x4).f0, (rd_T37 x0 x4).f1⟩ : S37)] : List (S37)) : List (S37))).bind fun y144 => (if y140.length + y144.length < 4398046511104 then ((some (y140 ++ y144 : List (S37))).bind fun y147 => ((some (x3.drop (x7 : Int).toNat : List (S37))).bind fun y150 => (if y147.length + y150.length < 4398046511104 then (spec_Set.l0 k x0 (y147 ++ y150) x9 (wrap64 (x10 + 1))) else (none)))) else (none))) else (none)) else (none))) else (none))) else (none)) else (none)))
end
def spec_Set.f (k : Nat) (l0 : List (S37)) : Option ((List (S37))) := spec_Set.l0 k l0 ([] : List (S37)) (l0.length : Int) 0
theorem spec_Set.mono_l : ∀ k, (∀ y0 y1 y2 y3, LeO (spec_Set.l0 k y0 y1 y2 y3) (spec_Set.l0 (k + 1) y0 y1 y2 y3)) ∧ (∀ y0 y1 y2 y3 y4 y5 y6, LeO (spec_Set.l1 k y0 y1 y2 y3 y4 y5 y6) (spec_Set.l1 (k + 1) y0 y1 y2 y3 y4 y5 y6)) ∧ (∀ y0 y1 y2 y3 y4 y5, LeO (spec_Set.l2 k y0 y1 y2 y3 y4 y5) (spec_Set.l2 (k + 1) y0 y1 y2 y3 y4 y5))
  | 0 => ⟨fun _ _ _ _ r h => by simp [spec_Set.l0] at h, fun _ _ _ _ _ _ _ r h => by simp [spec_Set.l1] at h, fun _ _ _ _ _ _ r h => by simp [spec_Set.l2] at h⟩
  | k + 1 => by
    obtain ⟨ih0, ih1, ih2⟩ := spec_Set.mono_l k
    refine ⟨?_, ?_, ?_⟩
    · intro y0 y1 y2 y3
      unfold spec_Set.l0
      repeat' first
      | (with_reducible exact ih0 _ _ _ _)
      | (with_reducible exact ih1 _ _ _ _ _ _ _)
      | (with_reducible exact ih2 _ _ _ _ _ _)
      | (with_reducible exact LeO.refl _)
      | (with_reducible exact LeO.none _)
      | (with_reducible refine LeO.ite ?_ ?_)
      | (with_reducible refine LeO.bind ?_ (fun _ => ?_))
      | exact ih0 _ _ _ _
      | exact ih1 _ _ _ _ _ _ _
      | exact ih2 _ _ _ _ _ _
      | exact LeO.none _
      | refine LeO.ite ?_ ?_
      | refine LeO.bind ?_ (fun _ => ?_)
    · intro y0 y1 y2 y3 y4 y5 y6
      unfold spec_Set.l1
      repeat' first
      | (with_reducible exact ih0 _ _ _ _)
      | (with_reducible exact ih1 _ _ _ _ _ _ _)
      | (with_reducible exact ih2 _ _ _ _ _ _)
      | (with_reducible exact LeO.refl _)
      | (with_reducible exact LeO.none _)
      | (with_reducible refine LeO.ite ?_ ?_)
      | (with_reducible refine LeO.bind ?_ (fun _ => ?_))
      | exact ih0 _ _ _ _
      | exact ih1 _ _ _ _ _ _ _
      | exact ih2 _ _ _ _ _ _
      | exact LeO.none _
      | refine LeO.ite ?_ ?_
      | refine LeO.bind ?_ (fun _ => ?_)
    · intro y0 y1 y2 y3 y4 y5
      unfold spec_Set.l2
      repeat' first
      | (with_reducible exact ih0 _ _ _ _)
      | (with_reducible exact ih1 _ _ _ _ _ _ _)
      | (with_reducible exact ih2 _ _ _ _ _ _)
      | (with_reducible exact LeO.refl _)
      | (with_reducible exact LeO.none _)
      | (with_reducible refine LeO.ite ?_ ?_)
      | (with_reducible refine LeO.bind ?_ (fun _ => ?_))
      | exact ih0 _ _ _ _
      | exact ih1 _ _ _ _ _ _ _
      | exact ih2 _ _ _ _ _ _
      | exact LeO.none _
      | refine LeO.ite ?_ ?_
      | refine LeO.bind ?_ (fun _ => ?_)
theorem spec_Set.mono : ∀ a0 k, LeO (spec_Set.f k a0) (spec_Set.f (k + 1) a0) := by
  intro a0 k
  obtain ⟨ih0, ih1, ih2⟩ := spec_Set.mono_l k
  unfold spec_Set.f
  repeat' first
      | (with_reducible exact ih0 _ _ _ _)
      | (with_reducible exact ih1 _ _ _ _ _ _ _)
      | (with_reducible exact ih2 _ _ _ _ _ _)
      | (with_reducible exact LeO.refl _)
      | (with_reducible exact LeO.none _)
      | (with_reducible refine LeO.ite ?_ ?_)
      | (with_reducible refine LeO.bind ?_ (fun _ => ?_))
      | exact ih0 _ _ _ _
      | exact ih1 _ _ _ _ _ _ _
      | exact ih2 _ _ _ _ _ _
      | exact LeO.none _
      | refine LeO.ite ?_ ?_
      | refine LeO.bind ?_ (fun _ => ?_)
def spec_Set.T9 : Bool × List (List Nat × List Nat) := (true, [([], []), ([0], [0]), ([1], [1]), ([1], [1]), ([2, 3, 1], [1, 2, 3]), ([4, 1], [1, 4]), ([5, 1], [1, 5]), ([1], [1]), ([1], [1]), ([7, 8, 1], [1, 7, 8]), ([9, 1], [1, 9]), ([10, 1], [1, 10]), ([6, 11, 1], [1, 6, 11]), ([1, 12], [1, 12]), ([13, 1, 0, 1, 2, 3, 4, 5, 6, 7, 8, 9, 10, 11, 12, 13], [0, 13])])
def spec_Set.B9 : List Nat := [0, 1, 3, 3, 15, 31, 63, 3, 3, 387, 899, 1923, 4095, 8191, 16383]
theorem spec_Set.tab9 : rtab .any (opsOf Try.f13 9) = spec_Set.T9 := by kernel_rfl
theorem spec_Set.bits9 : waitsOk spec_Set.T9.2 spec_Set.B9 = true := by kernel_rfl
def spec_Set.T12 : Bool × List (List Nat × List Nat) := (true, [([], []), ([], []), ([1], [1]), ([0, 2], [0, 2]), ([3], [3]), ([4], [4]), ([4], [4]), ([5, 6, 4], [4, 5, 6]), ([7, 4], [4, 7]), ([8, 4], [4, 8]), ([4], [4]), ([4], [4]), ([10, 11, 4], [4, 10, 11]), ([12, 4], [4, 12]), ([13, 4], [4, 13]), ([9, 14, 4], [4, 9, 14]), ([4, 15], [4, 15])])
def spec_Set.B12 : List Nat := [0, 0, 2, 7, 15, 31, 31, 127, 255, 511, 31, 31, 3103, 7199, 15391, 32767, 65535]
theorem spec_Set.tab12 : rtab .any (opsOf Try.f13 12) = spec_Set.T12 := by kernel_rfl
theorem spec_Set.bits12 : waitsOk spec_Set.T12.2 spec_Set.B12 = true := by kernel_rfl
def spec_Set.T14 : Bool × List (List Nat × List Nat) := (true, [([], []), ([], []), ([], []), ([1, 2], [1, 2]), ([0, 3], [0, 3]), ([], []), ([], []), ([5, 6], [5, 6]), ([7], [7]), ([8], [8]), ([4, 9, 4], [4, 9]), ([], []), ([], []), ([11, 12], [11, 12]), ([10, 13, 10], [10, 13]), ([14, 14, 0, 1, 2, 3, 4, 5, 6, 7, 8, 9, 10, 11, 12, 13, 14], [1, 11, 14])])
def spec_Set.B14 : List Nat := [0, 0, 0, 6, 15, 0, 0, 96, 224, 480, 1023, 0, 0, 6144, 16383, 32767]
theorem spec_Set.tab14 : rtab .any (opsOf Try.f13 14) = spec_Set.T14 := by kernel_rfl
theorem spec_Set.bits14 : waitsOk spec_Set.T14.2 spec_Set.B14 = true := by kernel_rfl
set_option maxHeartbeats 8000000 in
set_option maxRecDepth 100000 in
theorem spec_Set.calls (k : Nat) (A0 : Option Addr) (c0 : Nat) (l0 : List (S37)) (r : List (S37)) (w : World) (hr0 : Kd.C k37 w A0 l0.length l0) (hc0 : l0.length ≤ c0) (h : spec_Set.f k l0 = some r) :
    Calls Try.prog 13 #[.slice A0 l0.length c0] w fun e w' => ∃ v0_ : Value, e = .returned (v0_) ∧ Kd.R k37 37 w' w.heap.size (fun _ => True) v0_ r ∧ Below w.heap.size w w' := by
  have hu37 := Try.underlying37
  have HR0 := Aside0.mk hr0
  have HC0 := Aside0.mk hc0
  clear hr0 hc0
  have HB := Aside0.mk (Below.refl w.heap.size w)
  have H : (spec_Set.l0 k l0 ([] : List (S37)) (l0.length : Int) 0) = some r := h
  clear h
  have H' := Aside0.mk H
  clear H
  go_enter Try.func13, Try.ntmps13
  go_wp2
  go_loopg [3, 10] k (fun kq v3 v10 w' => ∃ (x3_1 : List (S37)) (x10_1 : Int), v10 = .int .i64 x10_1 ∧ Aside0 (spec_Set.l0 kq l0 x3_1 (l0.length : Int) x10_1 = some r) ∧ Aside0 (kq ≤ k) ∧ Aside0 (Kd.R k37 37 w' w.heap.size (fun _ => True) v3 x3_1) ∧ Aside0 (Below w.heap.size w w'))
  case atStart => exact ⟨(([] : List (S37))), (0), (by first | rfl | (simp; done) | (simp [*]; done)), H', ⟨Nat.le_refl _⟩, ⟨by first | exact Kd.R_nil _ _ _ _ _ | exact Kd.N_nil _ _ _ _ _ | exact Kd.V_nil _ _ _ _ _ | exact Kd.Q_nil _ _ _ _ _ | exact Kd.S_nil _ _ _ _ _⟩, ⟨by repeat (first | (with_reducible first | exact HB.out | apply below_alloc | apply pw_below_drewN | apply below_drew1) | exact HB.out)⟩⟩
  case round =>
    clear H'
    try clear c1
    obtain ⟨x3_1, x10_1, rfl, HA, HK1, HO_3, HB⟩ := hrel
    cases gk with
    | zero => exact absurd HA.out (by simp [spec_Set.l0])
    | succ k1 =>
      have H := HA.out
      clear HA
      simp only [spec_Set.l0] at H
      by_cases c2 : x10_1 < (l0.length : Int)
      · rw [if_pos c2] at H
        have c2b0 : decide (x10_1 < (l0.length : Int)) = true := decide_eq_true c2
        clear c2
        have H' := Aside0.mk H
        clear H
        go_wp2
        go_loopg [5, 6] k1 (fun kq v5 v6 w' => ∃ (x5_2 : Bool) (x6_2 : Int), v5 = .bool x5_2 ∧ v6 = .int .i64 x6_2 ∧ Aside0 (spec_Set.l1 kq l0 x3_1 x10_1 x5_2 x6_2 (l0.length : Int) x10_1 = some r) ∧ Aside0 (kq ≤ k1) ∧ Aside0 (Kd.R k37 37 w' w.heap.size (fun _ => True) u3 x3_1) ∧ Aside0 (Below w.heap.size w w'))
        case atStart => exact ⟨(true), (wrap64 (x10_1 + 1)), (by first | rfl | (simp; done) | (simp [*]; done)), (by first | rfl | (simp; done) | (simp [*]; done)), H', ⟨Nat.le_refl _⟩, ⟨by (with_reducible repeat (first | apply Kd.R_alloc | apply Kd.R_drewN | apply Kd.R_drew)); exact HO_3.out⟩, ⟨by repeat (first | (with_reducible first | exact HB.out | apply below_alloc | apply pw_below_drewN | apply below_drew1) | exact HB.out)⟩⟩
        case round =>
          clear H'
          try clear c1
          try clear c2
          try clear c2b0
          try clear p2
          obtain ⟨x5_2, x6_2, rfl, rfl, HA, HK2, HO_3, HB⟩ := hrel
          cases gk with
          | zero => exact absurd HA.out (by simp [spec_Set.l1])
          | succ k2 =>
            have H := HA.out
            clear HA
            simp only [spec_Set.l1] at H
            by_cases c3 : x6_2 < (l0.length : Int)
            · rw [if_pos c3] at H
              have c3b0 : decide (x6_2 < (l0.length : Int)) = true := decide_eq_true c3
              clear c3
              by_cases c4 : x5_2 = true
              · subst c4
                have H1 : (if 0 ≤ x6_2 then (if 0 ≤ x10_1 then (if x10_1 < (l0.length : Int) then (spec_Set.l1 k2 l0 x3_1 x10_1 (((rd_T37 l0 x6_2).f0).toList != ((rd_T37 l0 x10_1).f0).toList) (wrap64 (x6_2 + 1)) (l0.length : Int) x10_1) else (none)) else (none)) else (none)) = some r := by rw [if_pos rfl] at H; exact H
                clear H
                have H := H1
                clear H1
                by_cases c5 : 0 ≤ x6_2
                · rw [if_pos c5] at H
                  have c5b0 : decide (0 ≤ x6_2) = true := decide_eq_true c5
                  clear c5
                  by_cases c6 : 0 ≤ x10_1
                  · rw [if_pos c6] at H
                    have c6b0 : decide (0 ≤ x10_1) = true := decide_eq_true c6
                    clear c6
                    by_cases c7 : x10_1 < (l0.length : Int)
                    · rw [if_pos c7] at H
                      have c7b0 : decide (x10_1 < (l0.length : Int)) = true := decide_eq_true c7
                      clear c7
                      have H' := Aside0.mk H
                      clear H
                      try go_wp2
                      have n0_ := Aside0.mk (Kd.R_drew HO_3.out)
                      have n1_ := Aside0.mk (below_drew1 HB.out)
                      clear HO_3
                      clear HB
                      have HO_3 := n0_
                      have HB := n1_
                      clear n0_ n1_
                      have p105 : 0 ≤ (x6_2 : Int) := of_decide_eq_true (by first | (with_reducible assumption) | assumption)
                      have q105 : x6_2 < (l0.length : Int) := of_decide_eq_true (by first | (with_reducible assumption) | assumption)
                      obtain ⟨ad105, e105, hx105_0, hx105_1⟩ := at_T37 HR0.out x6_2 p105 q105
                      have hw105_1 := hx105_1
                      have hw105_0 := hx105_0
                      cases e105
                      replace hx105_0 := (HB.out.cell (World.block_lt_of_cell? w _ hx105_0)).trans hx105_0
                      replace hx105_1 := (HB.out.cell (World.block_lt_of_cell? w _ hx105_1)).trans hx105_1
                      replace p105 := eq_true p105
                      replace q105 := eq_true q105
                      have p106 : 0 ≤ (x10_1 : Int) := of_decide_eq_true (by first | (with_reducible assumption) | assumption)
                      have q106 : x10_1 < (l0.length : Int) := of_decide_eq_true (by first | (with_reducible assumption) | assumption)
                      obtain ⟨ad106, e106, hx106_0, hx106_1⟩ := at_T37 HR0.out x10_1 p106 q106
                      have hw106_1 := hx106_1
                      have hw106_0 := hx106_0
                      obtain rfl : ad105 = ad106 := (by injection e106)
                      replace hx106_0 := (HB.out.cell (World.block_lt_of_cell? w _ hx106_0)).trans hx106_0
                      replace hx106_1 := (HB.out.cell (World.block_lt_of_cell? w _ hx106_1)).trans hx106_1
                      replace p106 := eq_true p106
                      replace q106 := eq_true q106
                      refine start_ (n := 15) (S := fun w' => w'.cell? (ad105.add ((x6_2).toNat * 2)) = some (.string ((rd_T37 l0 x6_2).f0)) ∧ w'.cell? ⟨(ad105.add ((x6_2).toNat * 2)).block, (ad105.add ((x6_2).toNat * 2)).off + 1, none⟩ = some (.string ((rd_T37 l0 x6_2).f1)) ∧ w'.cell? (ad105.add ((x10_1).toNat * 2)) = some (.string ((rd_T37 l0 x10_1).f0)) ∧ w'.cell? ⟨(ad105.add ((x10_1).toNat * 2)).block, (ad105.add ((x10_1).toNat * 2)).off + 1, none⟩ = some (.string ((rd_T37 l0 x10_1).f1))) (ds := []) #[false, false, false, false, false, false, false, false, false, false, false, false, false, false, false] (by kernel_rfl) rfl rfl ⟨((HB.out.cell (World.block_lt_of_cell? w _ hw105_0)).trans hw105_0), ((HB.out.cell (World.block_lt_of_cell? w _ hw105_1)).trans hw105_1), ((HB.out.cell (World.block_lt_of_cell? w _ hw106_0)).trans hw106_0), ((HB.out.cell (World.block_lt_of_cell? w _ hw106_1)).trans hw106_1)⟩ (fun hHeld => ?_); refine with_tabW spec_Set.tab9 spec_Set.bits9 (fun HT_ HW_ => ?_)
                      generalize wr.drew = w8 at HO_3 HB hx105_0 hx105_1 hx106_0 hx106_1 hHeld ⊢
                      refine pure_ (i := 0) (N := some 21) (v := ?_) (a' := ?_) #[true, false, false, false, false, false, false, false, false, false, false, false, false, false, false] rfl rfl (any_of HT_.out (by kernel_rfl)) (fun _ _ _ h => h) (Or.inl ⟨by rfl, ?_⟩) ?_ ?_
                      rotate_left
                      · intro w'
                        go_simp
                        with_reducible rfl
                      rotate_left
                      · simp only [Act.put, List.setIfInBounds_toArray, List.set_cons_zero, List.set_cons_succ, i64_w, i32_w]
                        rfl
                      refine pure_ (i := 1) (N := some 22) (v := ?_) (a' := ?_) #[true, true, false, false, false, false, false, false, false, false, false, false, false, false, false] rfl rfl (any_of HT_.out (by kernel_rfl)) (fun _ _ _ h => h) (Or.inl ⟨by rfl, ?_⟩) ?_ ?_
                      rotate_left
                      · intro w'
                        go_simp
                        with_reducible rfl
                      rotate_left
                      · simp only [Act.put, List.setIfInBounds_toArray, List.set_cons_zero, List.set_cons_succ, i64_w, i32_w]
                        rfl
                      refine pure_ (i := 2) (N := some 23) (v := ?_) (a' := ?_) #[true, true, true, false, false, false, false, false, false, false, false, false, false, false, false] rfl rfl (any_of HT_.out (by kernel_rfl)) (fun _ _ _ h => h) (Or.inl ⟨by rfl, ?_⟩) ?_ ?_
                      rotate_left
                      · intro w'
                        go_simp
                        with_reducible rfl
                      rotate_left
                      · simp only [Act.put, List.setIfInBounds_toArray, List.set_cons_zero, List.set_cons_succ, i64_w, i32_w]
                        rfl
                      refine pure_ (i := 3) (N := some 24) (v := ?_) (a' := ?_) #[true, true, true, true, false, false, false, false, false, false, false, false, false, false, false] rfl rfl (any_of HT_.out (by kernel_rfl)) (fun _ _ _ h => h) (Or.inl ⟨by rfl, ?_⟩) ?_ ?_
                      rotate_left
                      · intro w'
                        go_simp
                        with_reducible rfl
                      rotate_left
                      · simp only [Act.put, List.setIfInBounds_toArray, List.set_cons_zero, List.set_cons_succ, i64_w, i32_w]
                        rfl
                      refine pure_ (i := 4) (N := some 25) (v := ?_) (a' := ?_) #[true, true, true, true, true, false, false, false, false, false, false, false, false, false, false] rfl rfl (any_of HT_.out (by kernel_rfl)) (fun _ _ _ h => h) (Or.inl ⟨by rfl, ?_⟩) ?_ ?_
                      rotate_left
                      · intro w'
                        go_simp
                        with_reducible rfl
                      rotate_left
                      · simp only [Act.put, List.setIfInBounds_toArray, List.set_cons_zero, List.set_cons_succ, i64_w, i32_w]
                        rfl
                      refine pure_ (i := 5) (N := some 26) (v := ?_) (a' := ?_) #[true, true, true, true, true, true, false, false, false, false, false, false, false, false, false] rfl rfl (any_of HT_.out (by kernel_rfl)) (fun _ _ _ h => h) (Or.inl ⟨by rfl, ?_⟩) ?_ ?_
                      rotate_left
                      · intro w'
                        go_simp
                        with_reducible rfl
                      rotate_left
                      · simp only [Act.put, List.setIfInBounds_toArray, List.set_cons_zero, List.set_cons_succ, i64_w, i32_w]
                        rfl
                      refine pure_ (i := 7) (N := some 28) (v := ?_) (a' := ?_) #[true, true, true, true, true, true, false, true, false, false, false, false, false, false, false] rfl rfl (any_of HT_.out (by kernel_rfl)) (fun _ _ _ h => h) (Or.inl ⟨by rfl, ?_⟩) ?_ ?_
                      rotate_left
                      · intro w'
                        go_simp
                        with_reducible rfl
                      rotate_left
                      · simp only [Act.put, List.setIfInBounds_toArray, List.set_cons_zero, List.set_cons_succ, i64_w, i32_w]
                        rfl
                      refine pure_ (i := 8) (N := some 29) (v := ?_) (a' := ?_) #[true, true, true, true, true, true, false, true, true, false, false, false, false, false, false] rfl rfl (any_of HT_.out (by kernel_rfl)) (fun _ _ _ h => h) (Or.inl ⟨by rfl, ?_⟩) ?_ ?_
                      rotate_left
                      · intro w'
                        go_simp
                        with_reducible rfl
                      rotate_left
                      · simp only [Act.put, List.setIfInBounds_toArray, List.set_cons_zero, List.set_cons_succ, i64_w, i32_w]
                        rfl
                      refine pure_ (i := 9) (N := some 30) (v := ?_) (a' := ?_) #[true, true, true, true, true, true, false, true, true, true, false, false, false, false, false] rfl rfl (any_of HT_.out (by kernel_rfl)) (fun _ _ _ h => h) (Or.inl ⟨by rfl, ?_⟩) ?_ ?_
                      rotate_left
                      · intro w'
                        go_simp
                        with_reducible rfl
                      rotate_left
                      · simp only [Act.put, List.setIfInBounds_toArray, List.set_cons_zero, List.set_cons_succ, i64_w, i32_w]
                        rfl
                      refine pure_ (i := 10) (N := some 31) (v := ?_) (a' := ?_) #[true, true, true, true, true, true, false, true, true, true, true, false, false, false, false] rfl rfl (any_of HT_.out (by kernel_rfl)) (fun _ _ _ h => h) (Or.inl ⟨by rfl, ?_⟩) ?_ ?_
                      rotate_left
                      · intro w'
                        go_simp
                        with_reducible rfl
                      rotate_left
                      · simp only [Act.put, List.setIfInBounds_toArray, List.set_cons_zero, List.set_cons_succ, i64_w, i32_w]
                        rfl
                      refine take_ (i := 6) (N := some 27) (v := ?_) (a' := ?_) #[true, true, true, true, true, true, true, true, true, true, true, false, false, false, false] rfl rfl (take_ofW HT_.out HW_.out (by kernel_rfl)) (fun _ _ _ h => h) (Or.inl ⟨by rfl, ?_⟩) hHeld ?_ ?_
                      rotate_left
                      · rintro w' ⟨s0, s1, s2, s3⟩
                        go_simp
                        with_reducible rfl
                      rotate_left
                      · simp only [Act.put, List.setIfInBounds_toArray, List.set_cons_zero, List.set_cons_succ, i64_w, i32_w]
                        rfl
                      refine take_ (i := 11) (N := some 32) (v := ?_) (a' := ?_) #[true, true, true, true, true, true, true, true, true, true, true, true, false, false, false] rfl rfl (take_ofW HT_.out HW_.out (by kernel_rfl)) (fun _ _ _ h => h) (Or.inl ⟨by rfl, ?_⟩) hHeld ?_ ?_
                      rotate_left
                      · rintro w' ⟨s0, s1, s2, s3⟩
                        go_simp
                        with_reducible rfl
                      rotate_left
                      · simp only [Act.put, List.setIfInBounds_toArray, List.set_cons_zero, List.set_cons_succ, i64_w, i32_w]
                        rfl
                      refine pure_ (i := 12) (N := some 33) (v := ?_) (a' := ?_) #[true, true, true, true, true, true, true, true, true, true, true, true, true, false, false] rfl rfl (any_of HT_.out (by kernel_rfl)) (fun _ _ _ h => h) (Or.inl ⟨by rfl, ?_⟩) ?_ ?_
                      rotate_left
                      · intro w'
                        go_simp
                        with_reducible rfl
                      rotate_left
                      · simp only [Act.put, List.setIfInBounds_toArray, List.set_cons_zero, List.set_cons_succ, i64_w, i32_w]
                        rfl
                      refine pure_ (i := 13) (N := some 34) (v := ?_) (a' := ?_) #[true, true, true, true, true, true, true, true, true, true, true, true, true, true, false] rfl rfl (any_of HT_.out (by kernel_rfl)) (fun _ _ _ h => h) (Or.inl ⟨by rfl, ?_⟩) ?_ ?_
                      rotate_left
                      · intro w'
                        go_simp
                        with_reducible rfl
                      rotate_left
                      · simp only [Act.put, List.setIfInBounds_toArray, List.set_cons_zero, List.set_cons_succ, i64_w, i32_w]
                        rfl
                      refine pure_ (i := 14) (N := some 5) (v := ?_) (a' := ?_) #[true, true, true, true, true, true, true, true, true, true, true, true, true, true, true] rfl rfl (any_of HT_.out (by kernel_rfl)) (fun _ _ _ h => h) (Or.inl ⟨by rfl, ?_⟩) ?_ ?_
                      rotate_left
                      · intro w'
                        go_simp
                        with_reducible rfl
                      rotate_left
                      · simp only [Act.put, List.setIfInBounds_toArray, List.set_cons_zero, List.set_cons_succ, i64_w, i32_w]
                        rfl
                      refine done_ (done_of HT_.out (by kernel_rfl)) ?_
                      try go_wp2
                      go_roundg k2
                      case measure => have := HK1.out; have := HK2.out; omega
                      case rel => exact ⟨((((rd_T37 l0 x6_2).f0).toList != ((rd_T37 l0 x10_1).f0).toList)), (wrap64 (x6_2 + 1)), (by first | rfl | (simp; done) | (simp [*]; done)), (by first | rfl | (simp; done) | (simp [*]; done)), H', ⟨by have := HK1.out; have := HK2.out; omega⟩, ⟨by (with_reducible repeat (first | apply Kd.R_alloc | apply Kd.R_drewN | apply Kd.R_drew)); exact HO_3.out⟩, ⟨by repeat (first | (with_reducible first | exact HB.out | apply below_alloc | apply pw_below_drewN | apply below_drew1) | exact HB.out)⟩⟩
                    · rw [if_neg c7] at H
                      exact absurd H (by simp)
                  · rw [if_neg c6] at H
                    exact absurd H (by simp)
                · rw [if_neg c5] at H
                  exact absurd H (by simp)
              · replace c4 := Bool.eq_false_iff.mpr c4
                subst c4
                have H1 : (spec_Set.l1 k2 l0 x3_1 x10_1 false (wrap64 (x6_2 + 1)) (l0.length : Int) x10_1) = some r := by rw [if_neg (show ¬ (false = true) by decide)] at H; exact H
                clear H
                have H := H1
                clear H1
                have H' := Aside0.mk H
                clear H
                try go_wp2
                have n0_ := Aside0.mk (Kd.R_drew HO_3.out)
                have n1_ := Aside0.mk (below_drew1 HB.out)
                clear HO_3
                clear HB
                have HO_3 := n0_
                have HB := n1_
                clear n0_ n1_
                refine start_ (n := 15) (S := fun w' => True) (ds := []) #[false, false, false, false, false, false, false, false, false, false, false, false, false, false, false] (by kernel_rfl) rfl rfl trivial (fun hHeld => ?_); refine with_tabW spec_Set.tab9 spec_Set.bits9 (fun HT_ HW_ => ?_)
                generalize wr.drew = w9 at HO_3 HB hHeld ⊢
                refine pure_ (i := 0) (N := some 21) (v := ?_) (a' := ?_) #[true, false, false, false, false, false, false, false, false, false, false, false, false, false, false] rfl rfl (any_of HT_.out (by kernel_rfl)) (fun _ _ _ h => h) (Or.inl ⟨by rfl, ?_⟩) ?_ ?_
                rotate_left
                · intro w'
                  go_simp
                  with_reducible rfl
                rotate_left
                · simp only [Act.put, List.setIfInBounds_toArray, List.set_cons_zero, List.set_cons_succ, i64_w, i32_w]
                  rfl
                refine pure_ (i := 1) (N := some 22) (v := ?_) (a' := ?_) #[true, true, false, false, false, false, false, false, false, false, false, false, false, false, false] rfl rfl (any_of HT_.out (by kernel_rfl)) (fun _ _ _ h => h) (Or.inl ⟨by rfl, ?_⟩) ?_ ?_
                rotate_left
                · intro w'
                  go_simp
                  with_reducible rfl
                rotate_left
                · simp only [Act.put, List.setIfInBounds_toArray, List.set_cons_zero, List.set_cons_succ, i64_w, i32_w]
                  rfl
                refine pure_ (i := 2) (N := some 23) (v := undef) (a' := ?_) #[true, true, true, false, false, false, false, false, false, false, false, false, false, false, false] rfl rfl (any_of HT_.out (by kernel_rfl)) (fun _ _ _ h => h) (Or.inr ⟨by rfl, rfl⟩) ?_ ?_
                rotate_left
                · simp only [Act.put, List.setIfInBounds_toArray, List.set_cons_zero, List.set_cons_succ, i64_w, i32_w]
                  rfl
                refine pure_ (i := 3) (N := some 24) (v := undef) (a' := ?_) #[true, true, true, true, false, false, false, false, false, false, false, false, false, false, false] rfl rfl (any_of HT_.out (by kernel_rfl)) (fun _ _ _ h => h) (Or.inr ⟨by rfl, rfl⟩) ?_ ?_
                rotate_left
                · simp only [Act.put, List.setIfInBounds_toArray, List.set_cons_zero, List.set_cons_succ, i64_w, i32_w]
                  rfl
                refine pure_ (i := 4) (N := some 25) (v := undef) (a' := ?_) #[true, true, true, true, true, false, false, false, false, false, false, false, false, false, false] rfl rfl (any_of HT_.out (by kernel_rfl)) (fun _ _ _ h => h) (Or.inr ⟨by rfl, rfl⟩) ?_ ?_
                rotate_left
                · simp only [Act.put, List.setIfInBounds_toArray, List.set_cons_zero, List.set_cons_succ, i64_w, i32_w]
                  rfl
                refine pure_ (i := 5) (N := some 26) (v := undef) (a' := ?_) #[true, true, true, true, true, true, false, false, false, false, false, false, false, false, false] rfl rfl (any_of HT_.out (by kernel_rfl)) (fun _ _ _ h => h) (Or.inr ⟨by rfl, rfl⟩) ?_ ?_
                rotate_left
                · simp only [Act.put, List.setIfInBounds_toArray, List.set_cons_zero, List.set_cons_succ, i64_w, i32_w]
                  rfl
                refine pure_ (i := 6) (N := some 27) (v := undef) (a' := ?_) #[true, true, true, true, true, true, true, false, false, false, false, false, false, false, false] rfl rfl (any_of HT_.out (by kernel_rfl)) (fun _ _ _ h => h) (Or.inr ⟨by rfl, rfl⟩) ?_ ?_
                rotate_left
                · simp only [Act.put, List.setIfInBounds_toArray, List.set_cons_zero, List.set_cons_succ, i64_w, i32_w]
                  rfl
                refine pure_ (i := 7) (N := some 28) (v := undef) (a' := ?_) #[true, true, true, true, true, true, true, true, false, false, false, false, false, false, false] rfl rfl (any_of HT_.out (by kernel_rfl)) (fun _ _ _ h => h) (Or.inr ⟨by rfl, rfl⟩) ?_ ?_
                rotate_left
                · simp only [Act.put, List.setIfInBounds_toArray, List.set_cons_zero, List.set_cons_succ, i64_w, i32_w]
                  rfl
                refine pure_ (i := 8) (N := some 29) (v := undef) (a' := ?_) #[true, true, true, true, true, true, true, true, true, false, false, false, false, false, false] rfl rfl (any_of HT_.out (by kernel_rfl)) (fun _ _ _ h => h) (Or.inr ⟨by rfl, rfl⟩) ?_ ?_
                rotate_left
                · simp only [Act.put, List.setIfInBounds_toArray, List.set_cons_zero, List.set_cons_succ, i64_w, i32_w]
                  rfl
                refine pure_ (i := 9) (N := some 30) (v := undef) (a' := ?_) #[true, true, true, true, true, true, true, true, true, true, false, false, false, false, false] rfl rfl (any_of HT_.out (by kernel_rfl)) (fun _ _ _ h => h) (Or.inr ⟨by rfl, rfl⟩) ?_ ?_
                rotate_left
                · simp only [Act.put, List.setIfInBounds_toArray, List.set_cons_zero, List.set_cons_succ, i64_w, i32_w]
                  rfl
                refine pure_ (i := 10) (N := some 31) (v := undef) (a' := ?_) #[true, true, true, true, true, true, true, true, true, true, true, false, false, false, false] rfl rfl (any_of HT_.out (by kernel_rfl)) (fun _ _ _ h => h) (Or.inr ⟨by rfl, rfl⟩) ?_ ?_
                rotate_left
                · simp only [Act.put, List.setIfInBounds_toArray, List.set_cons_zero, List.set_cons_succ, i64_w, i32_w]
                  rfl
                refine pure_ (i := 11) (N := some 32) (v := undef) (a' := ?_) #[true, true, true, true, true, true, true, true, true, true, true, true, false, false, false] rfl rfl (any_of HT_.out (by kernel_rfl)) (fun _ _ _ h => h) (Or.inr ⟨by rfl, rfl⟩) ?_ ?_
                rotate_left
                · simp only [Act.put, List.setIfInBounds_toArray, List.set_cons_zero, List.set_cons_succ, i64_w, i32_w]
                  rfl
                refine pure_ (i := 12) (N := some 33) (v := undef) (a' := ?_) #[true, true, true, true, true, true, true, true, true, true, true, true, true, false, false] rfl rfl (any_of HT_.out (by kernel_rfl)) (fun _ _ _ h => h) (Or.inr ⟨by rfl, rfl⟩) ?_ ?_
                rotate_left
                · simp only [Act.put, List.setIfInBounds_toArray, List.set_cons_zero, List.set_cons_succ, i64_w, i32_w]
                  rfl
                refine pure_ (i := 13) (N := some 34) (v := ?_) (a' := ?_) #[true, true, true, true, true, true, true, true, true, true, true, true, true, true, false] rfl rfl (any_of HT_.out (by kernel_rfl)) (fun _ _ _ h => h) (Or.inl ⟨by rfl, ?_⟩) ?_ ?_
                rotate_left
                · intro w'
                  go_simp
                  with_reducible rfl
                rotate_left
                · simp only [Act.put, List.setIfInBounds_toArray, List.set_cons_zero, List.set_cons_succ, i64_w, i32_w]
                  rfl
                refine pure_ (i := 14) (N := some 5) (v := ?_) (a' := ?_) #[true, true, true, true, true, true, true, true, true, true, true, true, true, true, true] rfl rfl (any_of HT_.out (by kernel_rfl)) (fun _ _ _ h => h) (Or.inl ⟨by rfl, ?_⟩) ?_ ?_
                rotate_left
                · intro w'
                  go_simp
                  with_reducible rfl
                rotate_left
                · simp only [Act.put, List.setIfInBounds_toArray, List.set_cons_zero, List.set_cons_succ, i64_w, i32_w]
                  rfl
                refine done_ (done_of HT_.out (by kernel_rfl)) ?_
                try go_wp2
                go_roundg k2
                case measure => have := HK1.out; have := HK2.out; omega
                case rel => exact ⟨(false), (wrap64 (x6_2 + 1)), (by first | rfl | (simp; done) | (simp [*]; done)), (by first | rfl | (simp; done) | (simp [*]; done)), H', ⟨by have := HK1.out; have := HK2.out; omega⟩, ⟨by (with_reducible repeat (first | apply Kd.R_alloc | apply Kd.R_drewN | apply Kd.R_drew)); exact HO_3.out⟩, ⟨by repeat (first | (with_reducible first | exact HB.out | apply below_alloc | apply pw_below_drewN | apply below_drew1) | exact HB.out)⟩⟩
            · rw [if_neg c3] at H
              have c3b0 : decide (x6_2 < (l0.length : Int)) = false := decide_eq_false c3
              clear c3
              by_cases c10 : x5_2 = true
              · subst c10
                have H1 : (spec_Set.l2 k2 l0 x3_1 x10_1 0 (l0.length : Int) x10_1) = some r := by rw [if_pos rfl] at H; exact H
                clear H
                have H := H1
                clear H1
                have H' := Aside0.mk H
                clear H
                go_wp2
                go_loopg [7] k2 (fun kq v7 w' => ∃ (x7_3 : Int), v7 = .int .i64 x7_3 ∧ Aside0 (spec_Set.l2 kq l0 x3_1 x10_1 x7_3 (l0.length : Int) x10_1 = some r) ∧ Aside0 (kq ≤ k2) ∧ Aside0 (Kd.R k37 37 w' w.heap.size (fun _ => True) u3 x3_1) ∧ Aside0 (Below w.heap.size w w'))
                case atStart => exact ⟨(0), (by first | rfl | (simp; done) | (simp [*]; done)), H', ⟨Nat.le_refl _⟩, ⟨by (with_reducible repeat (first | apply Kd.R_alloc | apply Kd.R_drewN | apply Kd.R_drew)); exact HO_3.out⟩, ⟨by repeat (first | (with_reducible first | exact HB.out | apply below_alloc | apply pw_below_drewN | apply below_drew1) | exact HB.out)⟩⟩
                case round =>
                  clear H'
                  try clear c1
                  try clear p1
                  try clear q1
                  try clear hx1
                  try clear c2
                  try clear c2b0
                  try clear p2
                  try clear c3
                  try clear c3b0
                  try clear c4
                  try clear c5
                  try clear c5b0
                  try clear c6
                  try clear c6b0
                  try clear p6
                  try clear c7
                  try clear c7b0
                  try clear c10
                  try clear p10
                  try clear q10
                  try clear hx10
                  try clear hx105_0
                  try clear hx105_1
                  try clear hx106_0
                  try clear hx106_1
                  try clear p105
                  try clear p106
                  try clear p2
                  try clear q105
                  try clear q106
                  obtain ⟨x7_3, rfl, HA, HK3, HO_3, HB⟩ := hrel
                  cases gk with
                  | zero => exact absurd HA.out (by simp [spec_Set.l2])
                  | succ k3 =>
                    have H := HA.out
                    clear HA
                    simp only [spec_Set.l2] at H
                    by_cases c11 : x7_3 < (x3_1.length : Int)
                    · rw [if_pos c11] at H
                      have c11b0 : decide (x7_3 < (x3_1.length : Int)) = true := decide_eq_true c11
                      clear c11
                      by_cases c12 : 0 ≤ x7_3
                      · rw [if_pos c12] at H
                        have c12b0 : decide (0 ≤ x7_3) = true := decide_eq_true c12
                        clear c12
                        by_cases c13 : 0 ≤ x10_1
                        · rw [if_pos c13] at H
                          have c13b0 : decide (0 ≤ x10_1) = true := decide_eq_true c13
                          clear c13
                          by_cases c14 : x10_1 < (l0.length : Int)
                          · rw [if_pos c14] at H
                            have c14b0 : decide (x10_1 < (l0.length : Int)) = true := decide_eq_true c14
                            clear c14
                            by_cases c15 : (Op.bytesLess (((rd_T37 x3_1 x7_3).f0).toList) (((rd_T37 l0 x10_1).f0).toList)) = true
                            · rw [if_pos c15] at H
                              have c15b0 : (Op.bytesLess (((rd_T37 x3_1 x7_3).f0).toList) (((rd_T37 l0 x10_1).f0).toList)) = true := c15
                              clear c15
                              have H' := Aside0.mk H
                              clear H
                              try go_wp2
                              have n0_ := Aside0.mk (Kd.R_drew HO_3.out)
                              have n1_ := Aside0.mk (below_drew1 HB.out)
                              clear HO_3
                              clear HB
                              have HO_3 := n0_
                              have HB := n1_
                              clear n0_ n1_
                              obtain ⟨Ao17, co17, eo17⟩ := Kd.R_slice HO_3.out
                              (first | subst eo17 | (injection eo17 with f1_ f2_ f3_; have f4_ := f1_.symm; have f5_ := f3_.symm; clear f1_ f2_ f3_; subst f4_; subst f5_))
                              have p107 : 0 ≤ (x7_3 : Int) := of_decide_eq_true (by first | (with_reducible assumption) | assumption)
                              have q107 : x7_3 < (x3_1.length : Int) := of_decide_eq_true (by first | (with_reducible assumption) | assumption)
                              obtain ⟨ad107, e107, hx107_0, hx107_1⟩ := at_T37 (Kd.R_reads' HO_3.out).2.2 x7_3 p107 q107
                              cases e107
                              replace p107 := eq_true p107
                              replace q107 := eq_true q107
                              have p108 : 0 ≤ (x10_1 : Int) := of_decide_eq_true (by first | (with_reducible assumption) | assumption)
                              have q108 : x10_1 < (l0.length : Int) := of_decide_eq_true (by first | (with_reducible assumption) | assumption)
                              obtain ⟨ad108, e108, hx108_0, hx108_1⟩ := at_T37 HR0.out x10_1 p108 q108
                              have hw108_1 := hx108_1
                              have hw108_0 := hx108_0
                              cases e108
                              replace hx108_0 := (HB.out.cell (World.block_lt_of_cell? w _ hx108_0)).trans hx108_0
                              replace hx108_1 := (HB.out.cell (World.block_lt_of_cell? w _ hx108_1)).trans hx108_1
                              replace p108 := eq_true p108
                              replace q108 := eq_true q108
                              refine start_ (n := 17) (S := fun w' => w'.cell? (ad107.add ((x7_3).toNat * 2)) = some (.string ((rd_T37 x3_1 x7_3).f0)) ∧ w'.cell? ⟨(ad107.add ((x7_3).toNat * 2)).block, (ad107.add ((x7_3).toNat * 2)).off + 1, none⟩ = some (.string ((rd_T37 x3_1 x7_3).f1)) ∧ w'.cell? (ad108.add ((x10_1).toNat * 2)) = some (.string ((rd_T37 l0 x10_1).f0)) ∧ w'.cell? ⟨(ad108.add ((x10_1).toNat * 2)).block, (ad108.add ((x10_1).toNat * 2)).off + 1, none⟩ = some (.string ((rd_T37 l0 x10_1).f1))) (ds := []) #[false, false, false, false, false, false, false, false, false, false, false, false, false, false, false, false, false] (by kernel_rfl) rfl rfl ⟨hx107_0, hx107_1, ((HB.out.cell (World.block_lt_of_cell? w _ hw108_0)).trans hw108_0), ((HB.out.cell (World.block_lt_of_cell? w _ hw108_1)).trans hw108_1)⟩ (fun hHeld => ?_); refine with_tabW spec_Set.tab12 spec_Set.bits12 (fun HT_ HW_ => ?_)
                              generalize wr.drew = w16 at HO_3 HB hx107_0 hx107_1 hx108_0 hx108_1 hHeld ⊢
                              refine pure_ (i := 0) (N := some 37) (v := ?_) (a' := ?_) #[true, false, false, false, false, false, false, false, false, false, false, false, false, false, false, false, false] rfl rfl (any_of HT_.out (by kernel_rfl)) (fun _ _ _ h => h) (Or.inl ⟨by rfl, ?_⟩) ?_ ?_
                              rotate_left
                              · intro w'
                                go_simp
                                with_reducible rfl
                              rotate_left
                              · simp only [Act.put, List.setIfInBounds_toArray, List.set_cons_zero, List.set_cons_succ, i64_w, i32_w]
                                rfl
                              refine pure_ (i := 1) (N := some 38) (v := ?_) (a' := ?_) #[true, true, false, false, false, false, false, false, false, false, false, false, false, false, false, false, false] rfl rfl (any_of HT_.out (by kernel_rfl)) (fun _ _ _ h => h) (Or.inl ⟨by rfl, ?_⟩) ?_ ?_
                              rotate_left
                              · intro w'
                                go_simp
                                with_reducible rfl
                              rotate_left
                              · simp only [Act.put, List.setIfInBounds_toArray, List.set_cons_zero, List.set_cons_succ, i64_w, i32_w]
                                rfl
                              refine pure_ (i := 2) (N := some 39) (v := ?_) (a' := ?_) #[true, true, true, false, false, false, false, false, false, false, false, false, false, false, false, false, false] rfl rfl (any_of HT_.out (by kernel_rfl)) (fun _ _ _ h => h) (Or.inl ⟨by rfl, ?_⟩) ?_ ?_
                              rotate_left
                              · intro w'
                                go_simp
                                with_reducible rfl
                              rotate_left
                              · simp only [Act.put, List.setIfInBounds_toArray, List.set_cons_zero, List.set_cons_succ, i64_w, i32_w]
                                rfl
                              refine pure_ (i := 3) (N := some 40) (v := ?_) (a' := ?_) #[true, true, true, true, false, false, false, false, false, false, false, false, false, false, false, false, false] rfl rfl (any_of HT_.out (by kernel_rfl)) (fun _ _ _ h => h) (Or.inl ⟨by rfl, ?_⟩) ?_ ?_
                              rotate_left
                              · intro w'
                                go_simp
                                with_reducible rfl
                              rotate_left
                              · simp only [Act.put, List.setIfInBounds_toArray, List.set_cons_zero, List.set_cons_succ, i64_w, i32_w]
                                rfl
                              refine pure_ (i := 4) (N := some 41) (v := ?_) (a' := ?_) #[true, true, true, true, true, false, false, false, false, false, false, false, false, false, false, false, false] rfl rfl (any_of HT_.out (by kernel_rfl)) (fun _ _ _ h => h) (Or.inl ⟨by rfl, ?_⟩) ?_ ?_
                              rotate_left
                              · intro w'
                                go_simp
                                with_reducible rfl
                              rotate_left
                              · simp only [Act.put, List.setIfInBounds_toArray, List.set_cons_zero, List.set_cons_succ, i64_w, i32_w]
                                rfl
                              refine pure_ (i := 5) (N := some 42) (v := ?_) (a' := ?_) #[true, true, true, true, true, true, false, false, false, false, false, false, false, false, false, false, false] rfl rfl (any_of HT_.out (by kernel_rfl)) (fun _ _ _ h => h) (Or.inl ⟨by rfl, ?_⟩) ?_ ?_
                              rotate_left
                              · intro w'
                                go_simp
                                with_reducible rfl
                              rotate_left
                              · simp only [Act.put, List.setIfInBounds_toArray, List.set_cons_zero, List.set_cons_succ, i64_w, i32_w]
                                rfl
                              refine pure_ (i := 6) (N := some 43) (v := ?_) (a' := ?_) #[true, true, true, true, true, true, true, false, false, false, false, false, false, false, false, false, false] rfl rfl (any_of HT_.out (by kernel_rfl)) (fun _ _ _ h => h) (Or.inl ⟨by rfl, ?_⟩) ?_ ?_
                              rotate_left
                              · intro w'
                                go_simp
                                with_reducible rfl
                              rotate_left
                              · simp only [Act.put, List.setIfInBounds_toArray, List.set_cons_zero, List.set_cons_succ, i64_w, i32_w]
                                rfl
                              refine pure_ (i := 7) (N := some 44) (v := ?_) (a' := ?_) #[true, true, true, true, true, true, true, true, false, false, false, false, false, false, false, false, false] rfl rfl (any_of HT_.out (by kernel_rfl)) (fun _ _ _ h => h) (Or.inl ⟨by rfl, ?_⟩) ?_ ?_
                              rotate_left
                              · intro w'
                                go_simp
                                with_reducible rfl
                              rotate_left
                              · simp only [Act.put, List.setIfInBounds_toArray, List.set_cons_zero, List.set_cons_succ, i64_w, i32_w]
                                rfl
                              refine pure_ (i := 8) (N := some 45) (v := ?_) (a' := ?_) #[true, true, true, true, true, true, true, true, true, false, false, false, false, false, false, false, false] rfl rfl (any_of HT_.out (by kernel_rfl)) (fun _ _ _ h => h) (Or.inl ⟨by rfl, ?_⟩) ?_ ?_
                              rotate_left
                              · intro w'
                                go_simp
                                with_reducible rfl
                              rotate_left
                              · simp only [Act.put, List.setIfInBounds_toArray, List.set_cons_zero, List.set_cons_succ, i64_w, i32_w]
                                rfl
                              refine pure_ (i := 10) (N := some 47) (v := ?_) (a' := ?_) #[true, true, true, true, true, true, true, true, true, false, true, false, false, false, false, false, false] rfl rfl (any_of HT_.out (by kernel_rfl)) (fun _ _ _ h => h) (Or.inl ⟨by rfl, ?_⟩) ?_ ?_
                              rotate_left
                              · intro w'
                                go_simp
                                with_reducible rfl
                              rotate_left
                              · simp only [Act.put, List.setIfInBounds_toArray, List.set_cons_zero, List.set_cons_succ, i64_w, i32_w]
                                rfl
                              refine pure_ (i := 11) (N := some 48) (v := ?_) (a' := ?_) #[true, true, true, true, true, true, true, true, true, false, true, true, false, false, false, false, false] rfl rfl (any_of HT_.out (by kernel_rfl)) (fun _ _ _ h => h) (Or.inl ⟨by rfl, ?_⟩) ?_ ?_
                              rotate_left
                              · intro w'
                                go_simp
                                with_reducible rfl
                              rotate_left
                              · simp only [Act.put, List.setIfInBounds_toArray, List.set_cons_zero, List.set_cons_succ, i64_w, i32_w]
                                rfl
                              refine pure_ (i := 12) (N := some 49) (v := ?_) (a' := ?_) #[true, true, true, true, true, true, true, true, true, false, true, true, true, false, false, false, false] rfl rfl (any_of HT_.out (by kernel_rfl)) (fun _ _ _ h => h) (Or.inl ⟨by rfl, ?_⟩) ?_ ?_
                              rotate_left
                              · intro w'
                                go_simp
                                with_reducible rfl
                              rotate_left
                              · simp only [Act.put, List.setIfInBounds_toArray, List.set_cons_zero, List.set_cons_succ, i64_w, i32_w]
                                rfl
                              refine pure_ (i := 13) (N := some 50) (v := ?_) (a' := ?_) #[true, true, true, true, true, true, true, true, true, false, true, true, true, true, false, false, false] rfl rfl (any_of HT_.out (by kernel_rfl)) (fun _ _ _ h => h) (Or.inl ⟨by rfl, ?_⟩) ?_ ?_
                              rotate_left
                              · intro w'
                                go_simp
                                with_reducible rfl
                              rotate_left
                              · simp only [Act.put, List.setIfInBounds_toArray, List.set_cons_zero, List.set_cons_succ, i64_w, i32_w]
                                rfl
                              refine take_ (i := 9) (N := some 46) (v := ?_) (a' := ?_) #[true, true, true, true, true, true, true, true, true, true, true, true, true, true, false, false, false] rfl rfl (take_ofW HT_.out HW_.out (by kernel_rfl)) (fun _ _ _ h => h) (Or.inl ⟨by rfl, ?_⟩) hHeld ?_ ?_
                              rotate_left
                              · rintro w' ⟨s0, s1, s2, s3⟩
                                go_simp
                                with_reducible rfl
                              rotate_left
                              · simp only [Act.put, List.setIfInBounds_toArray, List.set_cons_zero, List.set_cons_succ, i64_w, i32_w]
                                rfl
                              refine take_ (i := 14) (N := some 51) (v := ?_) (a' := ?_) #[true, true, true, true, true, true, true, true, true, true, true, true, true, true, true, false, false] rfl rfl (take_ofW HT_.out HW_.out (by kernel_rfl)) (fun _ _ _ h => h) (Or.inl ⟨by rfl, ?_⟩) hHeld ?_ ?_
                              rotate_left
                              · rintro w' ⟨s0, s1, s2, s3⟩
                                go_simp
                                with_reducible rfl
                              rotate_left
                              · simp only [Act.put, List.setIfInBounds_toArray, List.set_cons_zero, List.set_cons_succ, i64_w, i32_w]
                                rfl
                              refine pure_ (i := 15) (N := some 52) (v := ?_) (a' := ?_) #[true, true, true, true, true, true, true, true, true, true, true, true, true, true, true, true, false] rfl rfl (any_of HT_.out (by kernel_rfl)) (fun _ _ _ h => h) (Or.inl ⟨by rfl, ?_⟩) ?_ ?_
                              rotate_left
                              · intro w'
                                go_simp
                                with_reducible rfl
                              rotate_left
                              · simp only [Act.put, List.setIfInBounds_toArray, List.set_cons_zero, List.set_cons_succ, i64_w, i32_w]
                                rfl
                              refine pure_ (i := 16) (N := some 53) (v := ?_) (a' := ?_) #[true, true, true, true, true, true, true, true, true, true, true, true, true, true, true, true, true] rfl rfl (any_of HT_.out (by kernel_rfl)) (fun _ _ _ h => h) (Or.inl ⟨by rfl, ?_⟩) ?_ ?_
                              rotate_left
                              · intro w'
                                go_simp
                                with_reducible rfl
                              rotate_left
                              · simp only [Act.put, List.setIfInBounds_toArray, List.set_cons_zero, List.set_cons_succ, i64_w, i32_w]
                                rfl
                              refine done_ (done_of HT_.out (by kernel_rfl)) ?_
                              try go_wp2
                              go_roundg k3
                              case measure => have := HK1.out; have := HK2.out; have := HK3.out; omega
                              case rel => exact ⟨(wrap64 (x7_3 + 1)), (by first | rfl | (simp; done) | (simp [*]; done)), H', ⟨by have := HK1.out; have := HK2.out; have := HK3.out; omega⟩, ⟨by (with_reducible repeat (first | apply Kd.R_alloc | apply Kd.R_drewN | apply Kd.R_drew)); exact HO_3.out⟩, ⟨by repeat (first | (with_reducible first | exact HB.out | apply below_alloc | apply pw_below_drewN | apply below_drew1) | exact HB.out)⟩⟩
                            · rw [if_neg c15] at H
                              have c15b0 : (Op.bytesLess (((rd_T37 x3_1 x7_3).f0).toList) (((rd_T37 l0 x10_1).f0).toList)) = false := by simpa using c15
                              clear c15
                              obtain ⟨y109, hy109⟩ : ∃ y_ : List (S37), y_ = (([] : List (S37))) := ⟨_, rfl⟩
                              replace H : (if x7_3 ≤ (x3_1.length : Int) then ((some (x3_1.take (x7_3 : Int).toNat : List (S37))).bind fun y112 => (if y109.length + y112.length < 4398046511104 then ((some (y109 ++ y112 : List (S37))).bind fun y116 => ((some (([(⟨(rd_T37 l0 x10_1).f0, (rd_T37 l0 x10_1).f1⟩ : S37)] : List (S37)) : List (S37))).bind fun y120 => (if y116.length + y120.length < 4398046511104 then ((some (y116 ++ y120 : List (S37))).bind fun y123 => ((some (x3_1.drop (x7_3 : Int).toNat : List (S37))).bind fun y126 => (if y123.length + y126.length < 4398046511104 then (spec_Set.l0 k3 l0 (y123 ++ y126) (l0.length : Int) (wrap64 (x10_1 + 1))) else (none)))) else (none)))) else (none))) else (none)) = some r := by first | (rw [hy109]; with_reducible exact H) | (have H2_ := (Option.bind_some _ _).symm.trans H; rw [hy109]; with_reducible exact H2_) | (have H2_ := (Option.bind_some _ _).symm.trans H; with_reducible exact H2_) | with_reducible exact H | (rw [hy109]; exact H) | exact H
                              have Ny109 := Aside0.mk hy109
                              clear hy109
                              have c18b0 := eq_true (of_decide_eq_true (by first | (with_reducible assumption) | assumption) : 0 ≤ x7_3)
                              by_cases c19 : x7_3 ≤ (x3_1.length : Int)
                              · rw [if_pos c19] at H
                                have c19b0 := eq_true c19
                                have c19b1 : decide (x7_3 ≤ (x3_1.length : Int)) = true := decide_eq_true c19
                                clear c19
                                obtain ⟨y112, hy112⟩ : ∃ y_ : List (S37), y_ = (x3_1.take (x7_3 : Int).toNat) := ⟨_, rfl⟩
                                replace H : (if y109.length + y112.length < 4398046511104 then ((some (y109 ++ y112 : List (S37))).bind fun y116 => ((some (([(⟨(rd_T37 l0 x10_1).f0, (rd_T37 l0 x10_1).f1⟩ : S37)] : List (S37)) : List (S37))).bind fun y120 => (if y116.length + y120.length < 4398046511104 then ((some (y116 ++ y120 : List (S37))).bind fun y123 => ((some (x3_1.drop (x7_3 : Int).toNat : List (S37))).bind fun y126 => (if y123.length + y126.length < 4398046511104 then (spec_Set.l0 k3 l0 (y123 ++ y126) (l0.length : Int) (wrap64 (x10_1 + 1))) else (none)))) else (none)))) else (none)) = some r := by first | (rw [hy112]; with_reducible exact H) | (have H2_ := (Option.bind_some _ _).symm.trans H; rw [hy112]; with_reducible exact H2_) | (have H2_ := (Option.bind_some _ _).symm.trans H; with_reducible exact H2_) | with_reducible exact H | (rw [hy112]; exact H) | exact H
                                have Ny112 := Aside0.mk hy112
                                clear hy112
                                by_cases c20 : y109.length + y112.length < 4398046511104
                                · rw [if_pos c20] at H
                                  have LMc20 := Aside0.mk c20
                                  clear c20
                                  obtain ⟨y116, hy116⟩ : ∃ y_ : List (S37), y_ = (y109 ++ y112) := ⟨_, rfl⟩
                                  replace H : ((some (([(⟨(rd_T37 l0 x10_1).f0, (rd_T37 l0 x10_1).f1⟩ : S37)] : List (S37)) : List (S37))).bind fun y120 => (if y116.length + y120.length < 4398046511104 then ((some (y116 ++ y120 : List (S37))).bind fun y123 => ((some (x3_1.drop (x7_3 : Int).toNat : List (S37))).bind fun y126 => (if y123.length + y126.length < 4398046511104 then (spec_Set.l0 k3 l0 (y123 ++ y126) (l0.length : Int) (wrap64 (x10_1 + 1))) else (none)))) else (none))) = some r := by first | (rw [hy116]; with_reducible exact H) | (have H2_ := (Option.bind_some _ _).symm.trans H; rw [hy116]; with_reducible exact H2_) | (have H2_ := (Option.bind_some _ _).symm.trans H; with_reducible exact H2_) | with_reducible exact H | (rw [hy116]; exact H) | exact H
                                  have Ny116 := Aside0.mk hy116
                                  clear hy116
                                  obtain ⟨y120, hy120⟩ : ∃ y_ : List (S37), y_ = (([(⟨(rd_T37 l0 x10_1).f0, (rd_T37 l0 x10_1).f1⟩ : S37)] : List (S37))) := ⟨_, rfl⟩
                                  replace H : (if y116.length + y120.length < 4398046511104 then ((some (y116 ++ y120 : List (S37))).bind fun y123 => ((some (x3_1.drop (x7_3 : Int).toNat : List (S37))).bind fun y126 => (if y123.length + y126.length < 4398046511104 then (spec_Set.l0 k3 l0 (y123 ++ y126) (l0.length : Int) (wrap64 (x10_1 + 1))) else (none)))) else (none)) = some r := by first | (rw [hy120]; with_reducible exact H) | (have H2_ := (Option.bind_some _ _).symm.trans H; rw [hy120]; with_reducible exact H2_) | (have H2_ := (Option.bind_some _ _).symm.trans H; with_reducible exact H2_) | with_reducible exact H | (rw [hy120]; exact H) | exact H
                                  have Ny120 := Aside0.mk hy120
                                  clear hy120
                                  by_cases c21 : y116.length + y120.length < 4398046511104
                                  · rw [if_pos c21] at H
                                    have LMc21 := Aside0.mk c21
                                    clear c21
                                    obtain ⟨y123, hy123⟩ : ∃ y_ : List (S37), y_ = (y116 ++ y120) := ⟨_, rfl⟩
                                    replace H : ((some (x3_1.drop (x7_3 : Int).toNat : List (S37))).bind fun y126 => (if y123.length + y126.length < 4398046511104 then (spec_Set.l0 k3 l0 (y123 ++ y126) (l0.length : Int) (wrap64 (x10_1 + 1))) else (none))) = some r := by first | (rw [hy123]; with_reducible exact H) | (have H2_ := (Option.bind_some _ _).symm.trans H; rw [hy123]; with_reducible exact H2_) | (have H2_ := (Option.bind_some _ _).symm.trans H; with_reducible exact H2_) | with_reducible exact H | (rw [hy123]; exact H) | exact H
                                    have Ny123 := Aside0.mk hy123
                                    clear hy123
                                    have c22b0 := eq_true (of_decide_eq_true (by first | (with_reducible assumption) | assumption) : 0 ≤ x7_3)
                                    have c23b0 := eq_true (of_decide_eq_true (by first | (with_reducible assumption) | assumption) : x7_3 ≤ (x3_1.length : Int))
                                    obtain ⟨y126, hy126⟩ : ∃ y_ : List (S37), y_ = (x3_1.drop (x7_3 : Int).toNat) := ⟨_, rfl⟩
                                    replace H : (if y123.length + y126.length < 4398046511104 then (spec_Set.l0 k3 l0 (y123 ++ y126) (l0.length : Int) (wrap64 (x10_1 + 1))) else (none)) = some r := by first | (rw [hy126]; with_reducible exact H) | (have H2_ := (Option.bind_some _ _).symm.trans H; rw [hy126]; with_reducible exact H2_) | (have H2_ := (Option.bind_some _ _).symm.trans H; with_reducible exact H2_) | with_reducible exact H | (rw [hy126]; exact H) | exact H
                                    have Ny126 := Aside0.mk hy126
                                    clear hy126
                                    by_cases c24 : y123.length + y126.length < 4398046511104
                                    · rw [if_pos c24] at H
                                      have LMc24 := Aside0.mk c24
                                      clear c24
                                      obtain ⟨y130, hy130⟩ : ∃ y_ : List (S37), y_ = (y123 ++ y126) := ⟨_, rfl⟩
                                      replace H : (spec_Set.l0 k3 l0 y130 (l0.length : Int) (wrap64 (x10_1 + 1))) = some r := by first | (rw [hy130]; with_reducible exact H) | (have H2_ := (Option.bind_some _ _).symm.trans H; rw [hy130]; with_reducible exact H2_) | (have H2_ := (Option.bind_some _ _).symm.trans H; with_reducible exact H2_) | with_reducible exact H | (rw [hy130]; exact H) | exact H
                                      have Ny130 := Aside0.mk hy130
                                      clear hy130
                                      have H' := Aside0.mk H
                                      clear H
                                      try go_wp2
                                      have n0_ := Aside0.mk (Kd.R_drew HO_3.out)
                                      have n1_ := Aside0.mk (below_drew1 HB.out)
                                      clear HO_3
                                      clear HB
                                      have HO_3 := n0_
                                      have HB := n1_
                                      clear n0_ n1_
                                      obtain ⟨Ao26, co26, eo26⟩ := Kd.R_slice HO_3.out
                                      (first | subst eo26 | (injection eo26 with f1_ f2_ f3_; have f4_ := f1_.symm; have f5_ := f3_.symm; clear f1_ f2_ f3_; subst f4_; subst f5_))
                                      have p107 : 0 ≤ (x7_3 : Int) := of_decide_eq_true (by first | (with_reducible assumption) | assumption)
                                      have q107 : x7_3 < (x3_1.length : Int) := of_decide_eq_true (by first | (with_reducible assumption) | assumption)
                                      obtain ⟨ad107, e107, hx107_0, hx107_1⟩ := at_T37 (Kd.R_reads' HO_3.out).2.2 x7_3 p107 q107
                                      cases e107
                                      replace p107 := eq_true p107
                                      replace q107 := eq_true q107
                                      have p108 : 0 ≤ (x10_1 : Int) := of_decide_eq_true (by first | (with_reducible assumption) | assumption)
                                      have q108 : x10_1 < (l0.length : Int) := of_decide_eq_true (by first | (with_reducible assumption) | assumption)
                                      obtain ⟨ad108, e108, hx108_0, hx108_1⟩ := at_T37 HR0.out x10_1 p108 q108
                                      have hw108_1 := hx108_1
                                      have hw108_0 := hx108_0
                                      cases e108
                                      replace hx108_0 := (HB.out.cell (World.block_lt_of_cell? w _ hx108_0)).trans hx108_0
                                      replace hx108_1 := (HB.out.cell (World.block_lt_of_cell? w _ hx108_1)).trans hx108_1
                                      replace p108 := eq_true p108
                                      replace q108 := eq_true q108
                                      refine start_ (n := 17) (S := fun w' => w'.cell? (ad107.add ((x7_3).toNat * 2)) = some (.string ((rd_T37 x3_1 x7_3).f0)) ∧ w'.cell? ⟨(ad107.add ((x7_3).toNat * 2)).block, (ad107.add ((x7_3).toNat * 2)).off + 1, none⟩ = some (.string ((rd_T37 x3_1 x7_3).f1)) ∧ w'.cell? (ad108.add ((x10_1).toNat * 2)) = some (.string ((rd_T37 l0 x10_1).f0)) ∧ w'.cell? ⟨(ad108.add ((x10_1).toNat * 2)).block, (ad108.add ((x10_1).toNat * 2)).off + 1, none⟩ = some (.string ((rd_T37 l0 x10_1).f1))) (ds := []) #[false, false, false, false, false, false, false, false, false, false, false, false, false, false, false, false, false] (by kernel_rfl) rfl rfl ⟨hx107_0, hx107_1, ((HB.out.cell (World.block_lt_of_cell? w _ hw108_0)).trans hw108_0), ((HB.out.cell (World.block_lt_of_cell? w _ hw108_1)).trans hw108_1)⟩ (fun hHeld => ?_); refine with_tabW spec_Set.tab12 spec_Set.bits12 (fun HT_ HW_ => ?_)
                                      generalize wr.drew = w25 at HO_3 HB hx107_0 hx107_1 hx108_0 hx108_1 hHeld ⊢
                                      refine pure_ (i := 0) (N := some 37) (v := ?_) (a' := ?_) #[true, false, false, false, false, false, false, false, false, false, false, false, false, false, false, false, false] rfl rfl (any_of HT_.out (by kernel_rfl)) (fun _ _ _ h => h) (Or.inl ⟨by rfl, ?_⟩) ?_ ?_
                                      rotate_left
                                      · intro w'
                                        go_simp
                                        with_reducible rfl
                                      rotate_left
                                      · simp only [Act.put, List.setIfInBounds_toArray, List.set_cons_zero, List.set_cons_succ, i64_w, i32_w]
                                        rfl
                                      refine pure_ (i := 1) (N := some 38) (v := ?_) (a' := ?_) #[true, true, false, false, false, false, false, false, false, false, false, false, false, false, false, false, false] rfl rfl (any_of HT_.out (by kernel_rfl)) (fun _ _ _ h => h) (Or.inl ⟨by rfl, ?_⟩) ?_ ?_
                                      rotate_left
                                      · intro w'
                                        go_simp
                                        with_reducible rfl
                                      rotate_left
                                      · simp only [Act.put, List.setIfInBounds_toArray, List.set_cons_zero, List.set_cons_succ, i64_w, i32_w]
                                        rfl
                                      refine pure_ (i := 2) (N := some 39) (v := ?_) (a' := ?_) #[true, true, true, false, false, false, false, false, false, false, false, false, false, false, false, false, false] rfl rfl (any_of HT_.out (by kernel_rfl)) (fun _ _ _ h => h) (Or.inl ⟨by rfl, ?_⟩) ?_ ?_
                                      rotate_left
                                      · intro w'
                                        go_simp
                                        with_reducible rfl
                                      rotate_left
                                      · simp only [Act.put, List.setIfInBounds_toArray, List.set_cons_zero, List.set_cons_succ, i64_w, i32_w]
                                        rfl
                                      refine pure_ (i := 3) (N := some 40) (v := ?_) (a' := ?_) #[true, true, true, true, false, false, false, false, false, false, false, false, false, false, false, false, false] rfl rfl (any_of HT_.out (by kernel_rfl)) (fun _ _ _ h => h) (Or.inl ⟨by rfl, ?_⟩) ?_ ?_
                                      rotate_left
                                      · intro w'
                                        go_simp
                                        with_reducible rfl
                                      rotate_left
                                      · simp only [Act.put, List.setIfInBounds_toArray, List.set_cons_zero, List.set_cons_succ, i64_w, i32_w]
                                        rfl
                                      refine pure_ (i := 4) (N := some 41) (v := ?_) (a' := ?_) #[true, true, true, true, true, false, false, false, false, false, false, false, false, false, false, false, false] rfl rfl (any_of HT_.out (by kernel_rfl)) (fun _ _ _ h => h) (Or.inl ⟨by rfl, ?_⟩) ?_ ?_
                                      rotate_left
                                      · intro w'
                                        go_simp
                                        with_reducible rfl
                                      rotate_left
                                      · simp only [Act.put, List.setIfInBounds_toArray, List.set_cons_zero, List.set_cons_succ, i64_w, i32_w]
                                        rfl
                                      refine pure_ (i := 5) (N := some 42) (v := ?_) (a' := ?_) #[true, true, true, true, true, true, false, false, false, false, false, false, false, false, false, false, false] rfl rfl (any_of HT_.out (by kernel_rfl)) (fun _ _ _ h => h) (Or.inl ⟨by rfl, ?_⟩) ?_ ?_
                                      rotate_left
                                      · intro w'
                                        go_simp
                                        with_reducible rfl
                                      rotate_left
                                      · simp only [Act.put, List.setIfInBounds_toArray, List.set_cons_zero, List.set_cons_succ, i64_w, i32_w]
                                        rfl
                                      refine pure_ (i := 6) (N := some 43) (v := ?_) (a' := ?_) #[true, true, true, true, true, true, true, false, false, false, false, false, false, false, false, false, false] rfl rfl (any_of HT_.out (by kernel_rfl)) (fun _ _ _ h => h) (Or.inl ⟨by rfl, ?_⟩) ?_ ?_
                                      rotate_left
                                      · intro w'
                                        go_simp
                                        with_reducible rfl
                                      rotate_left
                                      · simp only [Act.put, List.setIfInBounds_toArray, List.set_cons_zero, List.set_cons_succ, i64_w, i32_w]
                                        rfl
                                      refine pure_ (i := 7) (N := some 44) (v := ?_) (a' := ?_) #[true, true, true, true, true, true, true, true, false, false, false, false, false, false, false, false, false] rfl rfl (any_of HT_.out (by kernel_rfl)) (fun _ _ _ h => h) (Or.inl ⟨by rfl, ?_⟩) ?_ ?_
                                      rotate_left
                                      · intro w'
                                        go_simp
                                        with_reducible rfl
                                      rotate_left
                                      · simp only [Act.put, List.setIfInBounds_toArray, List.set_cons_zero, List.set_cons_succ, i64_w, i32_w]
                                        rfl
                                      refine pure_ (i := 8) (N := some 45) (v := ?_) (a' := ?_) #[true, true, true, true, true, true, true, true, true, false, false, false, false, false, false, false, false] rfl rfl (any_of HT_.out (by kernel_rfl)) (fun _ _ _ h => h) (Or.inl ⟨by rfl, ?_⟩) ?_ ?_
                                      rotate_left
                                      · intro w'
                                        go_simp
                                        with_reducible rfl
                                      rotate_left
                                      · simp only [Act.put, List.setIfInBounds_toArray, List.set_cons_zero, List.set_cons_succ, i64_w, i32_w]
                                        rfl
                                      refine pure_ (i := 10) (N := some 47) (v := ?_) (a' := ?_) #[true, true, true, true, true, true, true, true, true, false, true, false, false, false, false, false, false] rfl rfl (any_of HT_.out (by kernel_rfl)) (fun _ _ _ h => h) (Or.inl ⟨by rfl, ?_⟩) ?_ ?_
                                      rotate_left
                                      · intro w'
                                        go_simp
                                        with_reducible rfl
                                      rotate_left
                                      · simp only [Act.put, List.setIfInBounds_toArray, List.set_cons_zero, List.set_cons_succ, i64_w, i32_w]
                                        rfl
                                      refine pure_ (i := 11) (N := some 48) (v := ?_) (a' := ?_) #[true, true, true, true, true, true, true, true, true, false, true, true, false, false, false, false, false] rfl rfl (any_of HT_.out (by kernel_rfl)) (fun _ _ _ h => h) (Or.inl ⟨by rfl, ?_⟩) ?_ ?_
                                      rotate_left
                                      · intro w'
                                        go_simp
                                        with_reducible rfl
                                      rotate_left
                                      · simp only [Act.put, List.setIfInBounds_toArray, List.set_cons_zero, List.set_cons_succ, i64_w, i32_w]
                                        rfl
                                      refine pure_ (i := 12) (N := some 49) (v := ?_) (a' := ?_) #[true, true, true, true, true, true, true, true, true, false, true, true, true, false, false, false, false] rfl rfl (any_of HT_.out (by kernel_rfl)) (fun _ _ _ h => h) (Or.inl ⟨by rfl, ?_⟩) ?_ ?_
                                      rotate_left
                                      · intro w'
                                        go_simp
                                        with_reducible rfl
                                      rotate_left
                                      · simp only [Act.put, List.setIfInBounds_toArray, List.set_cons_zero, List.set_cons_succ, i64_w, i32_w]
                                        rfl
                                      refine pure_ (i := 13) (N := some 50) (v := ?_) (a' := ?_) #[true, true, true, true, true, true, true, true, true, false, true, true, true, true, false, false, false] rfl rfl (any_of HT_.out (by kernel_rfl)) (fun _ _ _ h => h) (Or.inl ⟨by rfl, ?_⟩) ?_ ?_
                                      rotate_left
                                      · intro w'
                                        go_simp
                                        with_reducible rfl
                                      rotate_left
                                      · simp only [Act.put, List.setIfInBounds_toArray, List.set_cons_zero, List.set_cons_succ, i64_w, i32_w]
                                        rfl
                                      refine take_ (i := 9) (N := some 46) (v := ?_) (a' := ?_) #[true, true, true, true, true, true, true, true, true, true, true, true, true, true, false, false, false] rfl rfl (take_ofW HT_.out HW_.out (by kernel_rfl)) (fun _ _ _ h => h) (Or.inl ⟨by rfl, ?_⟩) hHeld ?_ ?_
                                      rotate_left
                                      · rintro w' ⟨s0, s1, s2, s3⟩
                                        go_simp
                                        with_reducible rfl
                                      rotate_left
                                      · simp only [Act.put, List.setIfInBounds_toArray, List.set_cons_zero, List.set_cons_succ, i64_w, i32_w]
                                        rfl
                                      refine take_ (i := 14) (N := some 51) (v := ?_) (a' := ?_) #[true, true, true, true, true, true, true, true, true, true, true, true, true, true, true, false, false] rfl rfl (take_ofW HT_.out HW_.out (by kernel_rfl)) (fun _ _ _ h => h) (Or.inl ⟨by rfl, ?_⟩) hHeld ?_ ?_
                                      rotate_left
                                      · rintro w' ⟨s0, s1, s2, s3⟩
                                        go_simp
                                        with_reducible rfl
                                      rotate_left
                                      · simp only [Act.put, List.setIfInBounds_toArray, List.set_cons_zero, List.set_cons_succ, i64_w, i32_w]
                                        rfl
                                      refine pure_ (i := 15) (N := some 52) (v := ?_) (a' := ?_) #[true, true, true, true, true, true, true, true, true, true, true, true, true, true, true, true, false] rfl rfl (any_of HT_.out (by kernel_rfl)) (fun _ _ _ h => h) (Or.inl ⟨by rfl, ?_⟩) ?_ ?_
                                      rotate_left
                                      · intro w'
                                        go_simp
                                        with_reducible rfl
                                      rotate_left
                                      · simp only [Act.put, List.setIfInBounds_toArray, List.set_cons_zero, List.set_cons_succ, i64_w, i32_w]
                                        rfl
                                      refine pure_ (i := 16) (N := some 53) (v := ?_) (a' := ?_) #[true, true, true, true, true, true, true, true, true, true, true, true, true, true, true, true, true] rfl rfl (any_of HT_.out (by kernel_rfl)) (fun _ _ _ h => h) (Or.inl ⟨by rfl, ?_⟩) ?_ ?_
                                      rotate_left
                                      · intro w'
                                        go_simp
                                        with_reducible rfl
                                      rotate_left
                                      · simp only [Act.put, List.setIfInBounds_toArray, List.set_cons_zero, List.set_cons_succ, i64_w, i32_w]
                                        rfl
                                      refine done_ (done_of HT_.out (by kernel_rfl)) ?_
                                      try go_wp2
                                      have n0_ := Aside0.mk (Kd.R_drew HO_3.out)
                                      have n1_ := Aside0.mk (below_drew1 HB.out)
                                      clear HO_3
                                      clear HB
                                      have HO_3 := n0_
                                      have HB := n1_
                                      clear n0_ n1_
                                      have q28 : (x7_3 : Int) ≤ ((x3_1.length : Int) : Int) := of_decide_eq_true (by first | (with_reducible assumption) | assumption)
                                      obtain ⟨i028, hi028, _, hsz28, _⟩ := info_parts info37
                                      have hroom28 : x3_1.length ≤ co26 := (Kd.R_reads' HO_3.out).2.1
                                      have hC28 : Kd.C k37 _ (some ad107) x3_1.length x3_1 := (Kd.R_reads' HO_3.out).2.2
                                      have hcut28 := cut_to (P := Try.prog) 34 37 .i64 Try.underlying34 hi028 (some ad107) x3_1.length co26 x7_3 (of_decide_eq_true (by first | (with_reducible assumption) | assumption)) q28 hroom28
                                      have hr28 := Kd.C_take (m := (x7_3 : Int).toNat) hC28 (by omega)
                                      have hy28 : y112.length = (x7_3 : Int).toNat := (by rw [Ny112.out, List.length_take]; omega)
                                      rw [← Ny112.out] at hr28
                                      rw [← hy28] at hcut28
                                      have HR115 := Aside0.mk hr28
                                      have HC115 := Aside0.mk (show y112.length ≤ co26 from by omega)
                                      clear hr28 hC28 hroom28 hi028 hsz28
                                      have KY28 := Aside0.mk hy28
                                      clear hy28
                                      have KL28 := Aside0.mk (show (x7_3 : Int).toNat ≤ x3_1.length from by omega)
                                      replace q28 := eq_true q28
                                      have p119 : 0 ≤ (x10_1 : Int) := of_decide_eq_true (by first | (with_reducible assumption) | assumption)
                                      have q119 : x10_1 < (l0.length : Int) := of_decide_eq_true (by first | (with_reducible assumption) | assumption)
                                      obtain ⟨ad119, e119, hx119_0, hx119_1⟩ := at_T37 HR0.out x10_1 p119 q119
                                      have hw119_1 := hx119_1
                                      have hw119_0 := hx119_0
                                      obtain rfl : ad108 = ad119 := (by injection e119)
                                      replace hx119_0 := (HB.out.cell (World.block_lt_of_cell? w _ hx119_0)).trans hx119_0
                                      replace hx119_1 := (HB.out.cell (World.block_lt_of_cell? w _ hx119_1)).trans hx119_1
                                      replace p119 := eq_true p119
                                      replace q119 := eq_true q119
                                      have q29 : (x7_3 : Int) ≤ ((x3_1.length : Int) : Int) := of_decide_eq_true (by first | (with_reducible assumption) | assumption)
                                      obtain ⟨i029, hi029, _, hsz29, _⟩ := info_parts info37
                                      have hroom29 : x3_1.length ≤ co26 := (Kd.R_reads' HO_3.out).2.1
                                      have hC29 : Kd.C k37 _ (some ad107) x3_1.length x3_1 := (Kd.R_reads' HO_3.out).2.2
                                      have q029 : (0 : Int) ≤ (x7_3 : Int) := of_decide_eq_true (by first | (with_reducible assumption) | assumption)
                                      have hcut29 := cut_from (P := Try.prog) 34 37 .i64 Try.underlying34 hi029 2 hsz29 (some ad107) x3_1.length co26 x7_3 q029 q29
                                      have hr29 := Kd.C_drop (m := (x7_3 : Int).toNat) (c := co26) hC29 (by omega) hroom29
                                      obtain ⟨A29, hA29⟩ : ∃ A1, A1 = (if co26 = (x7_3 : Int).toNat then (some ad107) else ((some ad107) : Option Addr).map (·.add ((x7_3 : Int).toNat * 2))) := ⟨_, rfl⟩
                                      obtain ⟨c29, hc29⟩ : ∃ c1, c1 = co26 - (x7_3 : Int).toNat := ⟨_, rfl⟩
                                      have hy29 : y126.length = x3_1.length - (x7_3 : Int).toNat := (by rw [Ny126.out, List.length_drop] <;> omega)
                                      rw [show (x3_1).drop (x7_3 : Int).toNat = y126 from Ny126.out.symm] at hr29
                                      replace hr29 : Kd.C k37 _ A29 y126.length y126 := (by rw [hA29]; exact hr29)
                                      rw [← hy29, ← hA29, ← hc29] at hcut29
                                      have HR129 := Aside0.mk hr29
                                      have HC129 := Aside0.mk (show y126.length ≤ c29 from by rw [hy29, hc29]; exact Nat.sub_le_sub_right hroom29 _)
                                      clear hr29 hC29 hroom29 hi029 hsz29 hc29
                                      have KY29 := Aside0.mk hy29
                                      have KA29 := Aside0.mk hA29
                                      clear hy29 hA29
                                      have KL29 := Aside0.mk (show (x7_3 : Int).toNat ≤ x3_1.length from by omega)
                                      replace q29 := eq_true q29
                                      refine start_ (n := 16) (S := fun w' => w'.cell? (ad108.add ((x10_1).toNat * 2)) = some (.string ((rd_T37 l0 x10_1).f0)) ∧ w'.cell? ⟨(ad108.add ((x10_1).toNat * 2)).block, (ad108.add ((x10_1).toNat * 2)).off + 1, none⟩ = some (.string ((rd_T37 l0 x10_1).f1))) (ds := []) #[false, false, false, false, false, false, false, false, false, false, false, false, false, false, false, false] (by kernel_rfl) rfl rfl ⟨((HB.out.cell (World.block_lt_of_cell? w _ hw119_0)).trans hw119_0), ((HB.out.cell (World.block_lt_of_cell? w _ hw119_1)).trans hw119_1)⟩ (fun hHeld => ?_); refine with_tabW spec_Set.tab14 spec_Set.bits14 (fun HT_ HW_ => ?_)
                                      generalize w25.drew = w27 at HO_3 HB HR115 HR129 hx119_0 hx119_1 hHeld ⊢
                                      refine pure_ (i := 1) (N := some 57) (v := ?_) (a' := ?_) #[false, true, false, false, false, false, false, false, false, false, false, false, false, false, false, false] rfl rfl (any_of HT_.out (by kernel_rfl)) (fun _ _ _ h => h) (Or.inl ⟨by rfl, ?_⟩) ?_ ?_
                                      rotate_left
                                      · intro w'
                                        go_simp
                                        with_reducible rfl
                                      rotate_left
                                      · simp only [Act.put, List.setIfInBounds_toArray, List.set_cons_zero, List.set_cons_succ, i64_w, i32_w]
                                        rfl
                                      refine pure_ (i := 2) (N := some 58) (v := ?_) (a' := ?_) #[false, true, true, false, false, false, false, false, false, false, false, false, false, false, false, false] rfl rfl (any_of HT_.out (by kernel_rfl)) (fun _ _ _ h => h) (Or.inl ⟨by rfl, ?_⟩) ?_ ?_
                                      rotate_left
                                      · intro w'
                                        go_simp
                                        with_reducible rfl
                                      rotate_left
                                      · simp only [Act.put, List.setIfInBounds_toArray, List.set_cons_zero, List.set_cons_succ, i64_w, i32_w]
                                        rfl
                                      refine pure_ (i := 3) (N := some 59) (v := ?_) (a' := ?_) #[false, true, true, true, false, false, false, false, false, false, false, false, false, false, false, false] rfl rfl (any_of HT_.out (by kernel_rfl)) (fun _ _ _ h => h) (Or.inl ⟨by rfl, ?_⟩) ?_ ?_
                                      rotate_left
                                      · intro w'
                                        go_simp
                                        with_reducible rfl
                                      rotate_left
                                      · simp only [Act.put, List.setIfInBounds_toArray, List.set_cons_zero, List.set_cons_succ, i64_w, i32_w]
                                        rfl
                                      refine pure_ (i := 5) (N := some 61) (v := ?_) (a' := ?_) #[false, true, true, true, false, true, false, false, false, false, false, false, false, false, false, false] rfl rfl (any_of HT_.out (by kernel_rfl)) (fun _ _ _ h => h) (Or.inl ⟨by rfl, ?_⟩) ?_ ?_
                                      rotate_left
                                      · intro w'
                                        go_simp
                                        with_reducible rfl
                                      rotate_left
                                      · simp only [Act.put, List.setIfInBounds_toArray, List.set_cons_zero, List.set_cons_succ, i64_w, i32_w]
                                        rfl
                                      refine pure_ (i := 6) (N := some 62) (v := ?_) (a' := ?_) #[false, true, true, true, false, true, true, false, false, false, false, false, false, false, false, false] rfl rfl (any_of HT_.out (by kernel_rfl)) (fun _ _ _ h => h) (Or.inl ⟨by rfl, ?_⟩) ?_ ?_
                                      rotate_left
                                      · intro w'
                                        go_simp
                                        with_reducible rfl
                                      rotate_left
                                      · simp only [Act.put, List.setIfInBounds_toArray, List.set_cons_zero, List.set_cons_succ, i64_w, i32_w]
                                        rfl
                                      refine pure_ (i := 7) (N := some 63) (v := ?_) (a' := ?_) #[false, true, true, true, false, true, true, true, false, false, false, false, false, false, false, false] rfl rfl (any_of HT_.out (by kernel_rfl)) (fun _ _ _ h => h) (Or.inl ⟨by rfl, ?_⟩) ?_ ?_
                                      rotate_left
                                      · intro w'
                                        go_simp
                                        with_reducible rfl
                                      rotate_left
                                      · simp only [Act.put, List.setIfInBounds_toArray, List.set_cons_zero, List.set_cons_succ, i64_w, i32_w]
                                        rfl
                                      refine pure_ (i := 11) (N := some 67) (v := ?_) (a' := ?_) #[false, true, true, true, false, true, true, true, false, false, false, true, false, false, false, false] rfl rfl (any_of HT_.out (by kernel_rfl)) (fun _ _ _ h => h) (Or.inl ⟨by rfl, ?_⟩) ?_ ?_
                                      rotate_left
                                      · intro w'
                                        go_simp
                                        with_reducible rfl
                                      rotate_left
                                      · simp only [Act.put, List.setIfInBounds_toArray, List.set_cons_zero, List.set_cons_succ, i64_w, i32_w]
                                        rfl
                                      refine pure_ (i := 12) (N := some 68) (v := ?_) (a' := ?_) #[false, true, true, true, false, true, true, true, false, false, false, true, true, false, false, false] rfl rfl (any_of HT_.out (by kernel_rfl)) (fun _ _ _ h => h) (Or.inl ⟨by rfl, ?_⟩) ?_ ?_
                                      rotate_left
                                      · intro w'
                                        go_simp
                                        with_reducible rfl
                                      rotate_left
                                      · simp only [Act.put, List.setIfInBounds_toArray, List.set_cons_zero, List.set_cons_succ, i64_w, i32_w]
                                        rfl
                                      refine pure_ (i := 13) (N := some 69) (v := ?_) (a' := ?_) #[false, true, true, true, false, true, true, true, false, false, false, true, true, true, false, false] rfl rfl (any_of HT_.out (by kernel_rfl)) (fun _ _ _ h => h) (Or.inl ⟨by rfl, ?_⟩) ?_ ?_
                                      rotate_left
                                      · intro w'
                                        go_simp
                                        with_reducible rfl
                                      rotate_left
                                      · simp only [Act.put, List.setIfInBounds_toArray, List.set_cons_zero, List.set_cons_succ, i64_w, i32_w]
                                        rfl
                                      refine take_ (i := 8) (N := some 64) (v := ?_) (a' := ?_) #[false, true, true, true, false, true, true, true, true, false, false, true, true, true, false, false] rfl rfl (take_ofW HT_.out HW_.out (by kernel_rfl)) (fun _ _ _ h => h) (Or.inl ⟨by rfl, ?_⟩) hHeld ?_ ?_
                                      rotate_left
                                      · rintro w' ⟨s0, s1⟩
                                        go_simp
                                        with_reducible rfl
                                      rotate_left
                                      · simp only [Act.put, List.setIfInBounds_toArray, List.set_cons_zero, List.set_cons_succ, i64_w, i32_w]
                                        rfl
                                      refine join_ (σ := Value × Value × Value) 3 #[true, true, true, true, true, true, true, true, true, true, false, true, true, true, false, false] (fun s_ => [(56, s_.1), (60, s_.2.1), (65, s_.2.2)]) (fun s_ w' => (w'.cell? (ad108.add ((x10_1).toNat * 2)) = some (.string ((rd_T37 l0 x10_1).f0)) ∧ w'.cell? ⟨(ad108.add ((x10_1).toNat * 2)).block, (ad108.add ((x10_1).toNat * 2)).off + 1, none⟩ = some (.string ((rd_T37 l0 x10_1).f1))) ∧ (Kd.R k37 37 w' w.heap.size (fun k_ => some k_ ≠ (s_.2.2 : Value).ownBlock ∧ some k_ ≠ (.slice (some ad107) x3_1.length co26 : Value).ownBlock) s_.2.1 y116) ∧ (Kd.R k37 37 w' w.heap.size (fun k_ => some k_ ≠ (s_.2.1 : Value).ownBlock ∧ some k_ ≠ (.slice (some ad107) x3_1.length co26 : Value).ownBlock) s_.2.2 y120) ∧ (Kd.R k37 37 w' w.heap.size (fun k_ => some k_ ≠ (s_.2.1 : Value).ownBlock ∧ some k_ ≠ (s_.2.2 : Value).ownBlock) (.slice (some ad107) x3_1.length co26) x3_1) ∧ (Below w.heap.size w w')) ?_ ?_
                                      rotate_left
                                      · intro hCont
                                        refine two_ (i := 0) (j := 9) (Ni := some 56) (Nj := some 65) #[true, true, true, true, false, true, true, true, true, false, false, true, true, true, false, false] #[false, true, true, true, false, true, true, true, true, true, false, true, true, true, false, false] rfl rfl rfl rfl (two_of HT_.out (by kernel_rfl)) (by decide) (by decide) (fun K hK => ?_) (fun K hK => ?_)
                                        · skip
                                          refine Kd.R_lit_step k37 _ 37 ?hg (N := 56) ?hd (xs := ([] : List (S37))) (inner := []) (ok := fun _ => True) (okp := fun _ => True) ?hr ?hp (fun _ hk => hk) trivial (Below.refl _ _) (Nat.le_refl _) (by simp) ?_; (case hd => rfl); (case hg => rfl); (case hr => first | (go_simp; done) | (go_simp; rfl)); (case hp => exact (Reps.none _ _))
                                          intro v110 w30 ho31 hb hg_ hnew_
                                          clear hg_ hnew_
                                          (first | rw [← Ny109.out] at ho31 | (simp only [Int.reduceToNat] at ho31; rw [← Ny109.out] at ho31))
                                          have n0_ := Aside0.mk (Kd.R_elder' (by (with_reducible repeat (first | apply Kd.R_alloc | apply Kd.R_drewN | apply Kd.R_drew)); exact HO_3.out) (Kd.R_base ho31) hb)
                                          have n1_ := Aside0.mk (Kd.R_lower (Kd.R_new' ho31 (Kd.R_lt (by (with_reducible repeat (first | apply Kd.R_alloc | apply Kd.R_drewN | apply Kd.R_drew)); exact HO_3.out))) (below_size (by repeat (first | (with_reducible first | exact HB.out | apply below_alloc | apply pw_below_drewN | apply below_drew1) | exact HB.out))))
                                          have n2_ := Aside0.mk (Kd.C_below (by repeat (first | (with_reducible exact HR115.out) | (with_reducible refine Kd.C_alloc ?_ _) | (with_reducible refine Kd.C_drewN ?_ _) | (with_reducible refine Kd.C_drew ?_) | exact HR115.out)) hb)
                                          have n3_ := Aside0.mk (Kd.C_below (by repeat (first | (with_reducible exact HR129.out) | (with_reducible refine Kd.C_alloc ?_ _) | (with_reducible refine Kd.C_drewN ?_ _) | (with_reducible refine Kd.C_drew ?_) | exact HR129.out)) hb)
                                          have n4_ := Aside0.mk (below_step (by repeat (first | (with_reducible first | exact HB.out | apply below_alloc | apply pw_below_drewN | apply below_drew1) | exact HB.out)) hb)
                                          clear HO_3
                                          clear HR115
                                          clear HR129
                                          clear HB
                                          have HO_3 := n0_
                                          have HO111 := n1_
                                          have HR115 := n2_
                                          have HR129 := n3_
                                          have HB := n4_
                                          clear n0_ n1_ n2_ n3_ n4_
                                          clear hb ho31
                                          refine hK.out _ _ ⟨((HB.out.cell (World.block_lt_of_cell? w _ hw119_0)).trans hw119_0), ((HB.out.cell (World.block_lt_of_cell? w _ hw119_1)).trans hw119_1)⟩ (fun hHeld => ?_)
                                          clear hK K
                                          refine norm_ (a' := ?_) ?_ ?_
                                          rotate_left
                                          · show Act.put _ (some 56) _ = _
                                            simp only [Act.put, List.setIfInBounds_toArray, List.set_cons_zero, List.set_cons_succ, i64_w, i32_w]
                                            rfl
                                          refine two_ (i := 4) (j := 9) (Ni := some 60) (Nj := some 65) #[true, true, true, true, true, true, true, true, true, false, false, true, true, true, false, false] #[true, true, true, true, false, true, true, true, true, true, false, true, true, true, false, false] rfl rfl rfl rfl (two_of HT_.out (by kernel_rfl)) (by decide) (by decide) (fun K hK => ?_) (fun K hK => ?_)
                                          · skip
                                            refine Kd.R_append_rows_step k37 (w0 := w) w.heap.size (by rfl) (.tmp 56) (.tmp 59) 34 37 (.agg #[(.string ⟨#[]⟩), (.string ⟨#[]⟩)]) 32 rfl Try.underlying34 info37 rfl (by decide) (by omega) v110 y109 y112 _ _ _ (fun k_ => some k_ ≠ (.slice (some ad107) x3_1.length co26 : Value).ownBlock) (fun _ => False) rfl rfl ?aO ?aR (fun _ _ h => h) (fun _ h => h.elim) ?aF ?aB ?aS ?aL ?_
                                            (case aR => repeat (first | exact (by repeat (first | (with_reducible exact HR115.out) | (with_reducible refine Kd.C_alloc ?_ _) | (with_reducible refine Kd.C_drewN ?_ _) | (with_reducible refine Kd.C_drew ?_) | exact HR115.out)) | (with_reducible refine Kd.C_alloc ?_ _) | (with_reducible refine Kd.C_drewN ?_ _) | (with_reducible refine Kd.C_drew ?_)))
                                            (case aB => exact (by repeat (first | (with_reducible first | exact HB.out | apply below_alloc | apply pw_below_drewN | apply below_drew1) | exact HB.out)))
                                            (case aF => exact (fun k_ hk => Kd.fresh' (Kd.R_lt (by (with_reducible repeat (first | apply Kd.R_alloc | apply Kd.R_drewN | apply Kd.R_drew)); exact HO_3.out)) k_ hk))
                                            (case aO => exact (by (with_reducible repeat (first | apply Kd.R_alloc | apply Kd.R_drewN | apply Kd.R_drew)); exact Kd.R_mono HO111.out (fun _ hk => hk.2)))
                                            (case aS => exact (below_size (by repeat (first | (with_reducible first | exact HB.out | apply below_alloc | apply pw_below_drewN | apply below_drew1) | exact HB.out))))
                                            (case aL => have := LMc20.out; first | omega | exact this | exact Nat.le_of_lt this)
                                            intro v117 w32 ho hb hg hat
                                            rw [← Ny116.out] at ho
                                            have n0_ := Aside0.mk (Kd.R_after (ok := (fun _ => True)) (by (with_reducible repeat (first | apply Kd.R_alloc | apply Kd.R_drewN | apply Kd.R_drew)); exact HO_3.out) hg hat)
                                            have n1_ := Aside0.mk (hb)
                                            have n2_ := Aside0.mk ((show Kd.C k37 w32 (some ad107) y112.length y112 from by rw [Ny112.out]; exact Kd.C_take (m := (x7_3 : Int).toNat) ((Kd.R_reads' (Kd.R_after (ok := (fun _ => True)) (by (with_reducible repeat (first | apply Kd.R_alloc | apply Kd.R_drewN | apply Kd.R_drew)); exact HO_3.out) hg hat)).2.2) KL28.out))
                                            have n3_ := Aside0.mk ((show Kd.C k37 w32 A29 y126.length y126 from by rw [Ny126.out, KA29.out]; exact Kd.C_drop (m := (x7_3 : Int).toNat) (c := co26) ((Kd.R_reads' (Kd.R_after (ok := (fun _ => True)) (by (with_reducible repeat (first | apply Kd.R_alloc | apply Kd.R_drewN | apply Kd.R_drew)); exact HO_3.out) hg hat)).2.2) KL29.out ((Kd.R_reads' (Kd.R_after (ok := (fun _ => True)) (by (with_reducible repeat (first | apply Kd.R_alloc | apply Kd.R_drewN | apply Kd.R_drew)); exact HO_3.out) hg hat)).2.1)))
                                            have n4_ := Aside0.mk (ho)
                                            clear HO_3
                                            clear HB
                                            clear HR115
                                            clear HR129
                                            clear HO111
                                            have HO_3 := n0_
                                            have HB := n1_
                                            have HR115 := n2_
                                            have HR129 := n3_
                                            have HO118 := n4_
                                            clear n0_ n1_ n2_ n3_ n4_
                                            clear ho hb hg hat
                                            refine hK.out _ _ ⟨((HB.out.cell (World.block_lt_of_cell? w _ hw119_0)).trans hw119_0), ((HB.out.cell (World.block_lt_of_cell? w _ hw119_1)).trans hw119_1)⟩ (fun hHeld => ?_)
                                            clear hK K
                                            refine norm_ (a' := ?_) ?_ ?_
                                            rotate_left
                                            · show Act.put _ (some 60) _ = _
                                              simp only [Act.put, List.setIfInBounds_toArray, List.set_cons_zero, List.set_cons_succ, i64_w, i32_w]
                                              rfl
                                            refine one_ (i := 9) (N := some 65) #[true, true, true, true, true, true, true, true, true, true, false, true, true, true, false, false] rfl rfl (one_of HT_.out (by kernel_rfl)) (by decide) (fun K hK => ?_)
                                            refine Kd.R_lit_step k37 _ 37 ?hg (N := 65) ?hd (xs := ([(⟨(rd_T37 l0 x10_1).f0, (rd_T37 l0 x10_1).f1⟩ : S37)] : List (S37))) (inner := [.string ((rd_T37 l0 x10_1).f0), .string ((rd_T37 l0 x10_1).f1)]) (ok := fun _ => True) (okp := fun _ => True) ?hr ?hp (fun _ hk => hk) trivial (Below.refl _ _) (Nat.le_refl _) (by simp) ?_; (case hd => rfl); (case hg => rfl); (case hr => first | (go_simp; done) | (go_simp; rfl)); (case hp => exact (Reps.c2 (show Kd.M k37 _ _ _ (⟨(rd_T37 l0 x10_1).f0, (rd_T37 l0 x10_1).f1⟩ : S37) [.string ((rd_T37 l0 x10_1).f0), .string ((rd_T37 l0 x10_1).f1)] from (k37_mkM _ _ _ (⟨(rd_T37 l0 x10_1).f0, (rd_T37 l0 x10_1).f1⟩ : S37) )) (Reps.none _ _)))
                                            intro v121 w33 ho34 hb hg_ hnew_
                                            clear hg_ hnew_
                                            (first | rw [← Ny120.out] at ho34 | (simp only [Int.reduceToNat] at ho34; rw [← Ny120.out] at ho34))
                                            have n0_ := Aside0.mk (Kd.R_elder' (by (with_reducible repeat (first | apply Kd.R_alloc | apply Kd.R_drewN | apply Kd.R_drew)); exact HO_3.out) (Kd.R_base ho34) hb)
                                            have n1_ := Aside0.mk (Kd.R_elder' (by (with_reducible repeat (first | apply Kd.R_alloc | apply Kd.R_drewN | apply Kd.R_drew)); exact HO118.out) (Kd.R_base ho34) hb)
                                            have n2_ := Aside0.mk (Kd.R_lower (Kd.R_new' (Kd.R_new' ho34 (Kd.R_lt (by (with_reducible repeat (first | apply Kd.R_alloc | apply Kd.R_drewN | apply Kd.R_drew)); exact HO_3.out))) (Kd.R_lt (by (with_reducible repeat (first | apply Kd.R_alloc | apply Kd.R_drewN | apply Kd.R_drew)); exact HO118.out))) (below_size (by repeat (first | (with_reducible first | exact HB.out | apply below_alloc | apply pw_below_drewN | apply below_drew1) | exact HB.out))))
                                            have n3_ := Aside0.mk (Kd.C_below (by repeat (first | (with_reducible exact HR115.out) | (with_reducible refine Kd.C_alloc ?_ _) | (with_reducible refine Kd.C_drewN ?_ _) | (with_reducible refine Kd.C_drew ?_) | exact HR115.out)) hb)
                                            have n4_ := Aside0.mk (Kd.C_below (by repeat (first | (with_reducible exact HR129.out) | (with_reducible refine Kd.C_alloc ?_ _) | (with_reducible refine Kd.C_drewN ?_ _) | (with_reducible refine Kd.C_drew ?_) | exact HR129.out)) hb)
                                            have n5_ := Aside0.mk (below_step (by repeat (first | (with_reducible first | exact HB.out | apply below_alloc | apply pw_below_drewN | apply below_drew1) | exact HB.out)) hb)
                                            clear HO_3
                                            clear HO118
                                            clear HR115
                                            clear HR129
                                            clear HB
                                            have HO_3 := n0_
                                            have HO118 := n1_
                                            have HO122 := n2_
                                            have HR115 := n3_
                                            have HR129 := n4_
                                            have HB := n5_
                                            clear n0_ n1_ n2_ n3_ n4_ n5_
                                            clear hb ho34
                                            refine hK.out _ _ ⟨((HB.out.cell (World.block_lt_of_cell? w _ hw119_0)).trans hw119_0), ((HB.out.cell (World.block_lt_of_cell? w _ hw119_1)).trans hw119_1)⟩ (fun hHeld => ?_)
                                            clear hK K
                                            refine norm_ (a' := ?_) ?_ ?_
                                            rotate_left
                                            · show Act.put _ (some 65) _ = _
                                              simp only [Act.put, List.setIfInBounds_toArray, List.set_cons_zero, List.set_cons_succ, i64_w, i32_w]
                                              rfl
                                            exact norm_ (by simp only [putAll, Act.put, List.setIfInBounds_toArray, List.set_cons_zero, List.set_cons_succ]) (hCont (v110, v117, v121) _ ⟨hHeld, (by (with_reducible repeat (first | apply Kd.R_alloc | apply Kd.R_drewN | apply Kd.R_drew)); exact Kd.R_mono HO118.out (fun _ hk => ⟨hk.2, hk.1⟩)), (by (with_reducible repeat (first | apply Kd.R_alloc | apply Kd.R_drewN | apply Kd.R_drew)); exact Kd.R_mono HO122.out (fun _ hk => ⟨hk.2, hk.1.2⟩)), (by (with_reducible repeat (first | apply Kd.R_alloc | apply Kd.R_drewN | apply Kd.R_drew)); exact Kd.R_mono HO_3.out (fun _ hk => ⟨hk.1.2, hk.2⟩)), (by repeat (first | (with_reducible first | exact HB.out | apply below_alloc | apply pw_below_drewN | apply below_drew1) | exact HB.out))⟩)
                                          · skip
                                            refine Kd.R_lit_step k37 _ 37 ?hg (N := 65) ?hd (xs := ([(⟨(rd_T37 l0 x10_1).f0, (rd_T37 l0 x10_1).f1⟩ : S37)] : List (S37))) (inner := [.string ((rd_T37 l0 x10_1).f0), .string ((rd_T37 l0 x10_1).f1)]) (ok := fun _ => True) (okp := fun _ => True) ?hr ?hp (fun _ hk => hk) trivial (Below.refl _ _) (Nat.le_refl _) (by simp) ?_; (case hd => rfl); (case hg => rfl); (case hr => first | (go_simp; done) | (go_simp; rfl)); (case hp => exact (Reps.c2 (show Kd.M k37 _ _ _ (⟨(rd_T37 l0 x10_1).f0, (rd_T37 l0 x10_1).f1⟩ : S37) [.string ((rd_T37 l0 x10_1).f0), .string ((rd_T37 l0 x10_1).f1)] from (k37_mkM _ _ _ (⟨(rd_T37 l0 x10_1).f0, (rd_T37 l0 x10_1).f1⟩ : S37) )) (Reps.none _ _)))
                                            intro v121 w32 ho33 hb hg_ hnew_
                                            clear hg_ hnew_
                                            (first | rw [← Ny120.out] at ho33 | (simp only [Int.reduceToNat] at ho33; rw [← Ny120.out] at ho33))
                                            have n0_ := Aside0.mk (Kd.R_elder' (by (with_reducible repeat (first | apply Kd.R_alloc | apply Kd.R_drewN | apply Kd.R_drew)); exact HO_3.out) (Kd.R_base ho33) hb)
                                            have n1_ := Aside0.mk (Kd.R_elder' (by (with_reducible repeat (first | apply Kd.R_alloc | apply Kd.R_drewN | apply Kd.R_drew)); exact HO111.out) (Kd.R_base ho33) hb)
                                            have n2_ := Aside0.mk (Kd.R_lower (Kd.R_new' (Kd.R_new' ho33 (Kd.R_lt (by (with_reducible repeat (first | apply Kd.R_alloc | apply Kd.R_drewN | apply Kd.R_drew)); exact HO_3.out))) (Kd.R_lt (by (with_reducible repeat (first | apply Kd.R_alloc | apply Kd.R_drewN | apply Kd.R_drew)); exact HO111.out))) (below_size (by repeat (first | (with_reducible first | exact HB.out | apply below_alloc | apply pw_below_drewN | apply below_drew1) | exact HB.out))))
                                            have n3_ := Aside0.mk (Kd.C_below (by repeat (first | (with_reducible exact HR115.out) | (with_reducible refine Kd.C_alloc ?_ _) | (with_reducible refine Kd.C_drewN ?_ _) | (with_reducible refine Kd.C_drew ?_) | exact HR115.out)) hb)
                                            have n4_ := Aside0.mk (Kd.C_below (by repeat (first | (with_reducible exact HR129.out) | (with_reducible refine Kd.C_alloc ?_ _) | (with_reducible refine Kd.C_drewN ?_ _) | (with_reducible refine Kd.C_drew ?_) | exact HR129.out)) hb)
                                            have n5_ := Aside0.mk (below_step (by repeat (first | (with_reducible first | exact HB.out | apply below_alloc | apply pw_below_drewN | apply below_drew1) | exact HB.out)) hb)
                                            clear HO_3
                                            clear HO111
                                            clear HR115
                                            clear HR129
                                            clear HB
                                            have HO_3 := n0_
                                            have HO111 := n1_
                                            have HO122 := n2_
                                            have HR115 := n3_
                                            have HR129 := n4_
                                            have HB := n5_
                                            clear n0_ n1_ n2_ n3_ n4_ n5_
                                            clear hb ho33
                                            refine hK.out _ _ ⟨((HB.out.cell (World.block_lt_of_cell? w _ hw119_0)).trans hw119_0), ((HB.out.cell (World.block_lt_of_cell? w _ hw119_1)).trans hw119_1)⟩ (fun hHeld => ?_)
                                            clear hK K
                                            refine norm_ (a' := ?_) ?_ ?_
                                            rotate_left
                                            · show Act.put _ (some 65) _ = _
                                              simp only [Act.put, List.setIfInBounds_toArray, List.set_cons_zero, List.set_cons_succ, i64_w, i32_w]
                                              rfl
                                            refine one_ (i := 4) (N := some 60) #[true, true, true, true, true, true, true, true, true, true, false, true, true, true, false, false] rfl rfl (one_of HT_.out (by kernel_rfl)) (by decide) (fun K hK => ?_)
                                            refine Kd.R_append_rows_step k37 (w0 := w) w.heap.size (by rfl) (.tmp 56) (.tmp 59) 34 37 (.agg #[(.string ⟨#[]⟩), (.string ⟨#[]⟩)]) 32 rfl Try.underlying34 info37 rfl (by decide) (by omega) v110 y109 y112 _ _ _ (fun k_ => some k_ ≠ (.slice (some ad107) x3_1.length co26 : Value).ownBlock ∧ some k_ ≠ (v121 : Value).ownBlock) (fun _ => False) rfl rfl ?aO ?aR (fun _ _ h => h) (fun _ h => h.elim) ?aF ?aB ?aS ?aL ?_
                                            (case aR => repeat (first | exact (by repeat (first | (with_reducible exact HR115.out) | (with_reducible refine Kd.C_alloc ?_ _) | (with_reducible refine Kd.C_drewN ?_ _) | (with_reducible refine Kd.C_drew ?_) | exact HR115.out)) | (with_reducible refine Kd.C_alloc ?_ _) | (with_reducible refine Kd.C_drewN ?_ _) | (with_reducible refine Kd.C_drew ?_)))
                                            (case aB => exact (by repeat (first | (with_reducible first | exact HB.out | apply below_alloc | apply pw_below_drewN | apply below_drew1) | exact HB.out)))
                                            (case aF => exact (fun k_ hk => ⟨Kd.fresh' (Kd.R_lt (by (with_reducible repeat (first | apply Kd.R_alloc | apply Kd.R_drewN | apply Kd.R_drew)); exact HO_3.out)) k_ hk, Kd.fresh' (Kd.R_lt (by (with_reducible repeat (first | apply Kd.R_alloc | apply Kd.R_drewN | apply Kd.R_drew)); exact HO122.out)) k_ hk⟩))
                                            (case aO => exact (by (with_reducible repeat (first | apply Kd.R_alloc | apply Kd.R_drewN | apply Kd.R_drew)); exact Kd.R_mono HO111.out (fun _ hk => ⟨hk.1.2, hk.2⟩)))
                                            (case aS => exact (below_size (by repeat (first | (with_reducible first | exact HB.out | apply below_alloc | apply pw_below_drewN | apply below_drew1) | exact HB.out))))
                                            (case aL => have := LMc20.out; first | omega | exact this | exact Nat.le_of_lt this)
                                            intro v117 w34 ho hb hg hat
                                            rw [← Ny116.out] at ho
                                            have n0_ := Aside0.mk (Kd.R_after (ok := (fun k_ => some k_ ≠ (v121 : Value).ownBlock)) (by (with_reducible repeat (first | apply Kd.R_alloc | apply Kd.R_drewN | apply Kd.R_drew)); exact Kd.R_mono HO_3.out (fun _ hk => ⟨hk.2, hk.1.2⟩)) hg hat)
                                            have n1_ := Aside0.mk (Kd.R_after (ok := (fun k_ => some k_ ≠ (.slice (some ad107) x3_1.length co26 : Value).ownBlock)) (by (with_reducible repeat (first | apply Kd.R_alloc | apply Kd.R_drewN | apply Kd.R_drew)); exact Kd.R_mono HO122.out (fun _ hk => ⟨hk.1.2, hk.2⟩)) hg hat)
                                            have n2_ := Aside0.mk (hb)
                                            have n3_ := Aside0.mk ((show Kd.C k37 w34 (some ad107) y112.length y112 from by rw [Ny112.out]; exact Kd.C_take (m := (x7_3 : Int).toNat) ((Kd.R_reads' (Kd.R_after (ok := (fun k_ => some k_ ≠ (v121 : Value).ownBlock)) (by (with_reducible repeat (first | apply Kd.R_alloc | apply Kd.R_drewN | apply Kd.R_drew)); exact Kd.R_mono HO_3.out (fun _ hk => ⟨hk.2, hk.1.2⟩)) hg hat)).2.2) KL28.out))
                                            have n4_ := Aside0.mk ((show Kd.C k37 w34 A29 y126.length y126 from by rw [Ny126.out, KA29.out]; exact Kd.C_drop (m := (x7_3 : Int).toNat) (c := co26) ((Kd.R_reads' (Kd.R_after (ok := (fun k_ => some k_ ≠ (v121 : Value).ownBlock)) (by (with_reducible repeat (first | apply Kd.R_alloc | apply Kd.R_drewN | apply Kd.R_drew)); exact Kd.R_mono HO_3.out (fun _ hk => ⟨hk.2, hk.1.2⟩)) hg hat)).2.2) KL29.out ((Kd.R_reads' (Kd.R_after (ok := (fun k_ => some k_ ≠ (v121 : Value).ownBlock)) (by (with_reducible repeat (first | apply Kd.R_alloc | apply Kd.R_drewN | apply Kd.R_drew)); exact Kd.R_mono HO_3.out (fun _ hk => ⟨hk.2, hk.1.2⟩)) hg hat)).2.1)))
                                            have n5_ := Aside0.mk (ho)
                                            clear HO_3
                                            clear HO122
                                            clear HB
                                            clear HR115
                                            clear HR129
                                            clear HO111
                                            have HO_3 := n0_
                                            have HO122 := n1_
                                            have HB := n2_
                                            have HR115 := n3_
                                            have HR129 := n4_
                                            have HO118 := n5_
                                            clear n0_ n1_ n2_ n3_ n4_ n5_
                                            clear ho hb hg hat
                                            refine hK.out _ _ ⟨((HB.out.cell (World.block_lt_of_cell? w _ hw119_0)).trans hw119_0), ((HB.out.cell (World.block_lt_of_cell? w _ hw119_1)).trans hw119_1)⟩ (fun hHeld => ?_)
                                            clear hK K
                                            refine norm_ (a' := ?_) ?_ ?_
                                            rotate_left
                                            · show Act.put _ (some 60) _ = _
                                              simp only [Act.put, List.setIfInBounds_toArray, List.set_cons_zero, List.set_cons_succ, i64_w, i32_w]
                                              rfl
                                            exact norm_ (by simp only [putAll, Act.put, List.setIfInBounds_toArray, List.set_cons_zero, List.set_cons_succ]) (hCont (v110, v117, v121) _ ⟨hHeld, (by (with_reducible repeat (first | apply Kd.R_alloc | apply Kd.R_drewN | apply Kd.R_drew)); exact Kd.R_mono HO118.out (fun _ hk => ⟨hk.2, hk.1⟩)), (by (with_reducible repeat (first | apply Kd.R_alloc | apply Kd.R_drewN | apply Kd.R_drew)); exact Kd.R_mono HO122.out (fun _ hk => ⟨hk.2, hk.1⟩)), (by (with_reducible repeat (first | apply Kd.R_alloc | apply Kd.R_drewN | apply Kd.R_drew)); exact Kd.R_mono HO_3.out (fun _ hk => ⟨hk.2, hk.1⟩)), (by repeat (first | (with_reducible first | exact HB.out | apply below_alloc | apply pw_below_drewN | apply below_drew1) | exact HB.out))⟩)
                                        · skip
                                          refine Kd.R_lit_step k37 _ 37 ?hg (N := 65) ?hd (xs := ([(⟨(rd_T37 l0 x10_1).f0, (rd_T37 l0 x10_1).f1⟩ : S37)] : List (S37))) (inner := [.string ((rd_T37 l0 x10_1).f0), .string ((rd_T37 l0 x10_1).f1)]) (ok := fun _ => True) (okp := fun _ => True) ?hr ?hp (fun _ hk => hk) trivial (Below.refl _ _) (Nat.le_refl _) (by simp) ?_; (case hd => rfl); (case hg => rfl); (case hr => first | (go_simp; done) | (go_simp; rfl)); (case hp => exact (Reps.c2 (show Kd.M k37 _ _ _ (⟨(rd_T37 l0 x10_1).f0, (rd_T37 l0 x10_1).f1⟩ : S37) [.string ((rd_T37 l0 x10_1).f0), .string ((rd_T37 l0 x10_1).f1)] from (k37_mkM _ _ _ (⟨(rd_T37 l0 x10_1).f0, (rd_T37 l0 x10_1).f1⟩ : S37) )) (Reps.none _ _)))
                                          intro v121 w30 ho31 hb hg_ hnew_
                                          clear hg_ hnew_
                                          (first | rw [← Ny120.out] at ho31 | (simp only [Int.reduceToNat] at ho31; rw [← Ny120.out] at ho31))
                                          have n0_ := Aside0.mk (Kd.R_elder' (by (with_reducible repeat (first | apply Kd.R_alloc | apply Kd.R_drewN | apply Kd.R_drew)); exact HO_3.out) (Kd.R_base ho31) hb)
                                          have n1_ := Aside0.mk (Kd.R_lower (Kd.R_new' ho31 (Kd.R_lt (by (with_reducible repeat (first | apply Kd.R_alloc | apply Kd.R_drewN | apply Kd.R_drew)); exact HO_3.out))) (below_size (by repeat (first | (with_reducible first | exact HB.out | apply below_alloc | apply pw_below_drewN | apply below_drew1) | exact HB.out))))
                                          have n2_ := Aside0.mk (Kd.C_below (by repeat (first | (with_reducible exact HR115.out) | (with_reducible refine Kd.C_alloc ?_ _) | (with_reducible refine Kd.C_drewN ?_ _) | (with_reducible refine Kd.C_drew ?_) | exact HR115.out)) hb)
                                          have n3_ := Aside0.mk (Kd.C_below (by repeat (first | (with_reducible exact HR129.out) | (with_reducible refine Kd.C_alloc ?_ _) | (with_reducible refine Kd.C_drewN ?_ _) | (with_reducible refine Kd.C_drew ?_) | exact HR129.out)) hb)
                                          have n4_ := Aside0.mk (below_step (by repeat (first | (with_reducible first | exact HB.out | apply below_alloc | apply pw_below_drewN | apply below_drew1) | exact HB.out)) hb)
                                          clear HO_3
                                          clear HR115
                                          clear HR129
                                          clear HB
                                          have HO_3 := n0_
                                          have HO122 := n1_
                                          have HR115 := n2_
                                          have HR129 := n3_
                                          have HB := n4_
                                          clear n0_ n1_ n2_ n3_ n4_
                                          clear hb ho31
                                          refine hK.out _ _ ⟨((HB.out.cell (World.block_lt_of_cell? w _ hw119_0)).trans hw119_0), ((HB.out.cell (World.block_lt_of_cell? w _ hw119_1)).trans hw119_1)⟩ (fun hHeld => ?_)
                                          clear hK K
                                          refine norm_ (a' := ?_) ?_ ?_
                                          rotate_left
                                          · show Act.put _ (some 65) _ = _
                                            simp only [Act.put, List.setIfInBounds_toArray, List.set_cons_zero, List.set_cons_succ, i64_w, i32_w]
                                            rfl
                                          refine one_ (i := 0) (N := some 56) #[true, true, true, true, false, true, true, true, true, true, false, true, true, true, false, false] rfl rfl (one_of HT_.out (by kernel_rfl)) (by decide) (fun K hK => ?_)
                                          refine Kd.R_lit_step k37 _ 37 ?hg (N := 56) ?hd (xs := ([] : List (S37))) (inner := []) (ok := fun _ => True) (okp := fun _ => True) ?hr ?hp (fun _ hk => hk) trivial (Below.refl _ _) (Nat.le_refl _) (by simp) ?_; (case hd => rfl); (case hg => rfl); (case hr => first | (go_simp; done) | (go_simp; rfl)); (case hp => exact (Reps.none _ _))
                                          intro v110 w32 ho33 hb hg_ hnew_
                                          clear hg_ hnew_
                                          (first | rw [← Ny109.out] at ho33 | (simp only [Int.reduceToNat] at ho33; rw [← Ny109.out] at ho33))
                                          have n0_ := Aside0.mk (Kd.R_elder' (by (with_reducible repeat (first | apply Kd.R_alloc | apply Kd.R_drewN | apply Kd.R_drew)); exact HO_3.out) (Kd.R_base ho33) hb)
                                          have n1_ := Aside0.mk (Kd.R_elder' (by (with_reducible repeat (first | apply Kd.R_alloc | apply Kd.R_drewN | apply Kd.R_drew)); exact HO122.out) (Kd.R_base ho33) hb)
                                          have n2_ := Aside0.mk (Kd.R_lower (Kd.R_new' (Kd.R_new' ho33 (Kd.R_lt (by (with_reducible repeat (first | apply Kd.R_alloc | apply Kd.R_drewN | apply Kd.R_drew)); exact HO_3.out))) (Kd.R_lt (by (with_reducible repeat (first | apply Kd.R_alloc | apply Kd.R_drewN | apply Kd.R_drew)); exact HO122.out))) (below_size (by repeat (first | (with_reducible first | exact HB.out | apply below_alloc | apply pw_below_drewN | apply below_drew1) | exact HB.out))))
                                          have n3_ := Aside0.mk (Kd.C_below (by repeat (first | (with_reducible exact HR115.out) | (with_reducible refine Kd.C_alloc ?_ _) | (with_reducible refine Kd.C_drewN ?_ _) | (with_reducible refine Kd.C_drew ?_) | exact HR115.out)) hb)
                                          have n4_ := Aside0.mk (Kd.C_below (by repeat (first | (with_reducible exact HR129.out) | (with_reducible refine Kd.C_alloc ?_ _) | (with_reducible refine Kd.C_drewN ?_ _) | (with_reducible refine Kd.C_drew ?_) | exact HR129.out)) hb)
                                          have n5_ := Aside0.mk (below_step (by repeat (first | (with_reducible first | exact HB.out | apply below_alloc | apply pw_below_drewN | apply below_drew1) | exact HB.out)) hb)
                                          clear HO_3
                                          clear HO122
                                          clear HR115
                                          clear HR129
                                          clear HB
                                          have HO_3 := n0_
                                          have HO122 := n1_
                                          have HO111 := n2_
                                          have HR115 := n3_
                                          have HR129 := n4_
                                          have HB := n5_
                                          clear n0_ n1_ n2_ n3_ n4_ n5_
                                          clear hb ho33
                                          refine hK.out _ _ ⟨((HB.out.cell (World.block_lt_of_cell? w _ hw119_0)).trans hw119_0), ((HB.out.cell (World.block_lt_of_cell? w _ hw119_1)).trans hw119_1)⟩ (fun hHeld => ?_)
                                          clear hK K
                                          refine norm_ (a' := ?_) ?_ ?_
                                          rotate_left
                                          · show Act.put _ (some 56) _ = _
                                            simp only [Act.put, List.setIfInBounds_toArray, List.set_cons_zero, List.set_cons_succ, i64_w, i32_w]
                                            rfl
                                          refine one_ (i := 4) (N := some 60) #[true, true, true, true, true, true, true, true, true, true, false, true, true, true, false, false] rfl rfl (one_of HT_.out (by kernel_rfl)) (by decide) (fun K hK => ?_)
                                          refine Kd.R_append_rows_step k37 (w0 := w) w.heap.size (by rfl) (.tmp 56) (.tmp 59) 34 37 (.agg #[(.string ⟨#[]⟩), (.string ⟨#[]⟩)]) 32 rfl Try.underlying34 info37 rfl (by decide) (by omega) v110 y109 y112 _ _ _ (fun k_ => some k_ ≠ (.slice (some ad107) x3_1.length co26 : Value).ownBlock ∧ some k_ ≠ (v121 : Value).ownBlock) (fun _ => False) rfl rfl ?aO ?aR (fun _ _ h => h) (fun _ h => h.elim) ?aF ?aB ?aS ?aL ?_
                                          (case aR => repeat (first | exact (by repeat (first | (with_reducible exact HR115.out) | (with_reducible refine Kd.C_alloc ?_ _) | (with_reducible refine Kd.C_drewN ?_ _) | (with_reducible refine Kd.C_drew ?_) | exact HR115.out)) | (with_reducible refine Kd.C_alloc ?_ _) | (with_reducible refine Kd.C_drewN ?_ _) | (with_reducible refine Kd.C_drew ?_)))
                                          (case aB => exact (by repeat (first | (with_reducible first | exact HB.out | apply below_alloc | apply pw_below_drewN | apply below_drew1) | exact HB.out)))
                                          (case aF => exact (fun k_ hk => ⟨Kd.fresh' (Kd.R_lt (by (with_reducible repeat (first | apply Kd.R_alloc | apply Kd.R_drewN | apply Kd.R_drew)); exact HO_3.out)) k_ hk, Kd.fresh' (Kd.R_lt (by (with_reducible repeat (first | apply Kd.R_alloc | apply Kd.R_drewN | apply Kd.R_drew)); exact HO122.out)) k_ hk⟩))
                                          (case aO => exact (by (with_reducible repeat (first | apply Kd.R_alloc | apply Kd.R_drewN | apply Kd.R_drew)); exact Kd.R_mono HO111.out (fun _ hk => ⟨hk.1.2, hk.2⟩)))
                                          (case aS => exact (below_size (by repeat (first | (with_reducible first | exact HB.out | apply below_alloc | apply pw_below_drewN | apply below_drew1) | exact HB.out))))
                                          (case aL => have := LMc20.out; first | omega | exact this | exact Nat.le_of_lt this)
                                          intro v117 w34 ho hb hg hat
                                          rw [← Ny116.out] at ho
                                          have n0_ := Aside0.mk (Kd.R_after (ok := (fun k_ => some k_ ≠ (v121 : Value).ownBlock)) (by (with_reducible repeat (first | apply Kd.R_alloc | apply Kd.R_drewN | apply Kd.R_drew)); exact Kd.R_mono HO_3.out (fun _ hk => ⟨hk.1.2, hk.2⟩)) hg hat)
                                          have n1_ := Aside0.mk (Kd.R_after (ok := (fun k_ => some k_ ≠ (.slice (some ad107) x3_1.length co26 : Value).ownBlock)) (by (with_reducible repeat (first | apply Kd.R_alloc | apply Kd.R_drewN | apply Kd.R_drew)); exact Kd.R_mono HO122.out (fun _ hk => ⟨hk.1.2, hk.2⟩)) hg hat)
                                          have n2_ := Aside0.mk (hb)
                                          have n3_ := Aside0.mk ((show Kd.C k37 w34 (some ad107) y112.length y112 from by rw [Ny112.out]; exact Kd.C_take (m := (x7_3 : Int).toNat) ((Kd.R_reads' (Kd.R_after (ok := (fun k_ => some k_ ≠ (v121 : Value).ownBlock)) (by (with_reducible repeat (first | apply Kd.R_alloc | apply Kd.R_drewN | apply Kd.R_drew)); exact Kd.R_mono HO_3.out (fun _ hk => ⟨hk.1.2, hk.2⟩)) hg hat)).2.2) KL28.out))
                                          have n4_ := Aside0.mk ((show Kd.C k37 w34 A29 y126.length y126 from by rw [Ny126.out, KA29.out]; exact Kd.C_drop (m := (x7_3 : Int).toNat) (c := co26) ((Kd.R_reads' (Kd.R_after (ok := (fun k_ => some k_ ≠ (v121 : Value).ownBlock)) (by (with_reducible repeat (first | apply Kd.R_alloc | apply Kd.R_drewN | apply Kd.R_drew)); exact Kd.R_mono HO_3.out (fun _ hk => ⟨hk.1.2, hk.2⟩)) hg hat)).2.2) KL29.out ((Kd.R_reads' (Kd.R_after (ok := (fun k_ => some k_ ≠ (v121 : Value).ownBlock)) (by (with_reducible repeat (first | apply Kd.R_alloc | apply Kd.R_drewN | apply Kd.R_drew)); exact Kd.R_mono HO_3.out (fun _ hk => ⟨hk.1.2, hk.2⟩)) hg hat)).2.1)))
                                          have n5_ := Aside0.mk (ho)
                                          clear HO_3
                                          clear HO122
                                          clear HB
                                          clear HR115
                                          clear HR129
                                          clear HO111
                                          have HO_3 := n0_
                                          have HO122 := n1_
                                          have HB := n2_
                                          have HR115 := n3_
                                          have HR129 := n4_
                                          have HO118 := n5_
                                          clear n0_ n1_ n2_ n3_ n4_ n5_
                                          clear ho hb hg hat
                                          refine hK.out _ _ ⟨((HB.out.cell (World.block_lt_of_cell? w _ hw119_0)).trans hw119_0), ((HB.out.cell (World.block_lt_of_cell? w _ hw119_1)).trans hw119_1)⟩ (fun hHeld => ?_)
                                          clear hK K
                                          refine norm_ (a' := ?_) ?_ ?_
                                          rotate_left
                                          · show Act.put _ (some 60) _ = _
                                            simp only [Act.put, List.setIfInBounds_toArray, List.set_cons_zero, List.set_cons_succ, i64_w, i32_w]
                                            rfl
                                          exact norm_ (by simp only [putAll, Act.put, List.setIfInBounds_toArray, List.set_cons_zero, List.set_cons_succ]) (hCont (v110, v117, v121) _ ⟨hHeld, (by (with_reducible repeat (first | apply Kd.R_alloc | apply Kd.R_drewN | apply Kd.R_drew)); exact Kd.R_mono HO118.out (fun _ hk => ⟨hk.2, hk.1⟩)), (by (with_reducible repeat (first | apply Kd.R_alloc | apply Kd.R_drewN | apply Kd.R_drew)); exact Kd.R_mono HO122.out (fun _ hk => ⟨hk.2, hk.1⟩)), (by (with_reducible repeat (first | apply Kd.R_alloc | apply Kd.R_drewN | apply Kd.R_drew)); exact Kd.R_mono HO_3.out (fun _ hk => ⟨hk.2, hk.1⟩)), (by repeat (first | (with_reducible first | exact HB.out | apply below_alloc | apply pw_below_drewN | apply below_drew1) | exact HB.out))⟩)
                                      rintro ⟨v110, v117, v121⟩ w35 ⟨hS_, h0_, h1_, h2_, h3_⟩
                                      have n0_ : Aside0 (Kd.R k37 37 w35 w.heap.size (fun k_ => some k_ ≠ (v121 : Value).ownBlock ∧ some k_ ≠ (.slice (some ad107) x3_1.length co26 : Value).ownBlock) v117 y116) := ⟨h0_⟩
                                      have n1_ : Aside0 (Kd.R k37 37 w35 w.heap.size (fun k_ => some k_ ≠ (v117 : Value).ownBlock ∧ some k_ ≠ (.slice (some ad107) x3_1.length co26 : Value).ownBlock) v121 y120) := ⟨h1_⟩
                                      have n2_ : Aside0 (Kd.R k37 37 w35 w.heap.size (fun k_ => some k_ ≠ (v117 : Value).ownBlock ∧ some k_ ≠ (v121 : Value).ownBlock) (.slice (some ad107) x3_1.length co26) x3_1) := ⟨h2_⟩
                                      have n3_ : Aside0 (Below w.heap.size w w35) := ⟨h3_⟩
                                      clear HO_3
                                      clear HB
                                      clear h0_ h1_ h2_ h3_
                                      have HO118 := n0_
                                      have HO122 := n1_
                                      have HO_3 := n2_
                                      have HB := n3_
                                      clear n0_ n1_ n2_ n3_
                                      have hHeld : w35.cell? (ad108.add ((x10_1).toNat * 2)) = some (.string ((rd_T37 l0 x10_1).f0)) ∧ w35.cell? ⟨(ad108.add ((x10_1).toNat * 2)).block, (ad108.add ((x10_1).toNat * 2)).off + 1, none⟩ = some (.string ((rd_T37 l0 x10_1).f1)) := hS_
                                      have HR115 := Aside0.mk (show Kd.C k37 w35 (some ad107) y112.length y112 from by rw [Ny112.out]; exact Kd.C_take (m := (x7_3 : Int).toNat) ((Kd.R_reads' (HO_3.out)).2.2) KL28.out)
                                      have HR129 := Aside0.mk (show Kd.C k37 w35 A29 y126.length y126 from by rw [Ny126.out, KA29.out]; exact Kd.C_drop (m := (x7_3 : Int).toNat) (c := co26) ((Kd.R_reads' (HO_3.out)).2.2) KL29.out ((Kd.R_reads' (HO_3.out)).2.1))
                                      obtain ⟨Ao37, co37, eo37⟩ := Kd.R_slice HO122.out
                                      (first | subst eo37 | (injection eo37 with f1_ f2_ f3_; have f4_ := f1_.symm; have f5_ := f3_.symm; clear f1_ f2_ f3_; subst f4_; subst f5_))
                                      refine norm_ (a' := ?_) ?_ ?_
                                      rotate_left
                                      · simp only [putAll, Act.put, List.setIfInBounds_toArray, List.set_cons_zero, List.set_cons_succ]
                                        rfl
                                      refine one_ (i := 10) (N := some 66) #[true, true, true, true, true, true, true, true, true, true, true, true, true, true, false, false] rfl rfl (one_of HT_.out (by kernel_rfl)) (by decide) (fun K hK => ?_)
                                      refine Kd.R_append_rows_step k37 (w0 := w) w.heap.size (by rfl) (.tmp 60) (.tmp 65) 34 37 (.agg #[(.string ⟨#[]⟩), (.string ⟨#[]⟩)]) 32 rfl Try.underlying34 info37 rfl (by decide) (by omega) v117 y116 y120 _ _ _ (fun k_ => some k_ ≠ (.slice (some ad107) x3_1.length co26 : Value).ownBlock ∧ some k_ ≠ (.slice Ao37 y120.length co37 : Value).ownBlock) (fun _ => False) rfl rfl ?aO ?aR (fun _ _ h => h) (fun _ h => h.elim) ?aF ?aB ?aS ?aL ?_
                                      (case aR => repeat (first | exact (Kd.R_reads' HO122.out).2.2 | (with_reducible refine Kd.C_alloc ?_ _) | (with_reducible refine Kd.C_drewN ?_ _) | (with_reducible refine Kd.C_drew ?_)))
                                      (case aB => exact (by repeat (first | (with_reducible first | exact HB.out | apply below_alloc | apply pw_below_drewN | apply below_drew1) | exact HB.out)))
                                      (case aF => exact (fun k_ hk => ⟨Kd.fresh' (Kd.R_lt (by (with_reducible repeat (first | apply Kd.R_alloc | apply Kd.R_drewN | apply Kd.R_drew)); exact HO_3.out)) k_ hk, Kd.fresh' (Kd.R_lt (by (with_reducible repeat (first | apply Kd.R_alloc | apply Kd.R_drewN | apply Kd.R_drew)); exact HO122.out)) k_ hk⟩))
                                      (case aO => exact (by (with_reducible repeat (first | apply Kd.R_alloc | apply Kd.R_drewN | apply Kd.R_drew)); exact Kd.R_mono HO118.out (fun _ hk => ⟨hk.2, hk.1⟩)))
                                      (case aS => exact (below_size (by repeat (first | (with_reducible first | exact HB.out | apply below_alloc | apply pw_below_drewN | apply below_drew1) | exact HB.out))))
                                      (case aL => have := LMc21.out; first | omega | exact this | exact Nat.le_of_lt this)
                                      intro v124 w36 ho hb hg hat
                                      rw [← Ny123.out] at ho
                                      have n0_ := Aside0.mk (Kd.R_after (ok := (fun k_ => some k_ ≠ (.slice Ao37 y120.length co37 : Value).ownBlock)) (by (with_reducible repeat (first | apply Kd.R_alloc | apply Kd.R_drewN | apply Kd.R_drew)); exact Kd.R_mono HO_3.out (fun _ hk => ⟨hk.2, hk.1⟩)) hg hat)
                                      have n1_ := Aside0.mk (Kd.R_after (ok := (fun k_ => some k_ ≠ (.slice (some ad107) x3_1.length co26 : Value).ownBlock)) (by (with_reducible repeat (first | apply Kd.R_alloc | apply Kd.R_drewN | apply Kd.R_drew)); exact Kd.R_mono HO122.out (fun _ hk => ⟨hk.2, hk.1⟩)) hg hat)
                                      have n2_ := Aside0.mk (hb)
                                      have n3_ := Aside0.mk ((show Kd.C k37 w36 (some ad107) y112.length y112 from by rw [Ny112.out]; exact Kd.C_take (m := (x7_3 : Int).toNat) ((Kd.R_reads' (Kd.R_after (ok := (fun k_ => some k_ ≠ (.slice Ao37 y120.length co37 : Value).ownBlock)) (by (with_reducible repeat (first | apply Kd.R_alloc | apply Kd.R_drewN | apply Kd.R_drew)); exact Kd.R_mono HO_3.out (fun _ hk => ⟨hk.2, hk.1⟩)) hg hat)).2.2) KL28.out))
                                      have n4_ := Aside0.mk ((show Kd.C k37 w36 A29 y126.length y126 from by rw [Ny126.out, KA29.out]; exact Kd.C_drop (m := (x7_3 : Int).toNat) (c := co26) ((Kd.R_reads' (Kd.R_after (ok := (fun k_ => some k_ ≠ (.slice Ao37 y120.length co37 : Value).ownBlock)) (by (with_reducible repeat (first | apply Kd.R_alloc | apply Kd.R_drewN | apply Kd.R_drew)); exact Kd.R_mono HO_3.out (fun _ hk => ⟨hk.2, hk.1⟩)) hg hat)).2.2) KL29.out ((Kd.R_reads' (Kd.R_after (ok := (fun k_ => some k_ ≠ (.slice Ao37 y120.length co37 : Value).ownBlock)) (by (with_reducible repeat (first | apply Kd.R_alloc | apply Kd.R_drewN | apply Kd.R_drew)); exact Kd.R_mono HO_3.out (fun _ hk => ⟨hk.2, hk.1⟩)) hg hat)).2.1)))
                                      have n5_ := Aside0.mk (ho)
                                      clear HO_3
                                      clear HO122
                                      clear HB
                                      clear HR115
                                      clear HR129
                                      clear HO118
                                      have HO_3 := n0_
                                      have HO122 := n1_
                                      have HB := n2_
                                      have HR115 := n3_
                                      have HR129 := n4_
                                      have HO125 := n5_
                                      clear n0_ n1_ n2_ n3_ n4_ n5_
                                      clear ho hb hg hat
                                      refine hK.out _ _ ⟨((HB.out.cell (World.block_lt_of_cell? w _ hw119_0)).trans hw119_0), ((HB.out.cell (World.block_lt_of_cell? w _ hw119_1)).trans hw119_1)⟩ (fun hHeld => ?_)
                                      clear hK K
                                      refine norm_ (a' := ?_) ?_ ?_
                                      rotate_left
                                      · show Act.put _ (some 66) _ = _
                                        simp only [Act.put, List.setIfInBounds_toArray, List.set_cons_zero, List.set_cons_succ, i64_w, i32_w]
                                        rfl
                                      refine one_ (i := 14) (N := some 70) #[true, true, true, true, true, true, true, true, true, true, true, true, true, true, true, false] rfl rfl (one_of HT_.out (by kernel_rfl)) (by decide) (fun K hK => ?_)
                                      refine Kd.R_append_rows_step k37 (w0 := w) w.heap.size (by rfl) (.tmp 66) (.tmp 69) 34 37 (.agg #[(.string ⟨#[]⟩), (.string ⟨#[]⟩)]) 32 rfl Try.underlying34 info37 rfl (by decide) (by omega) v124 y123 y126 _ _ _ (fun k_ => some k_ ≠ (.slice (some ad107) x3_1.length co26 : Value).ownBlock ∧ some k_ ≠ (.slice Ao37 y120.length co37 : Value).ownBlock) (fun _ => False) rfl rfl ?aO ?aR (fun _ _ h => h) (fun _ h => h.elim) ?aF ?aB ?aS ?aL ?_
                                      (case aR => repeat (first | exact (by repeat (first | (with_reducible exact HR129.out) | (with_reducible refine Kd.C_alloc ?_ _) | (with_reducible refine Kd.C_drewN ?_ _) | (with_reducible refine Kd.C_drew ?_) | exact HR129.out)) | (with_reducible refine Kd.C_alloc ?_ _) | (with_reducible refine Kd.C_drewN ?_ _) | (with_reducible refine Kd.C_drew ?_)))
                                      (case aB => exact (by repeat (first | (with_reducible first | exact HB.out | apply below_alloc | apply pw_below_drewN | apply below_drew1) | exact HB.out)))
                                      (case aF => exact (fun k_ hk => ⟨Kd.fresh' (Kd.R_lt (by (with_reducible repeat (first | apply Kd.R_alloc | apply Kd.R_drewN | apply Kd.R_drew)); exact HO_3.out)) k_ hk, Kd.fresh' (Kd.R_lt (by (with_reducible repeat (first | apply Kd.R_alloc | apply Kd.R_drewN | apply Kd.R_drew)); exact HO122.out)) k_ hk⟩))
                                      (case aO => exact (by (with_reducible repeat (first | apply Kd.R_alloc | apply Kd.R_drewN | apply Kd.R_drew)); exact HO125.out))
                                      (case aS => exact (below_size (by repeat (first | (with_reducible first | exact HB.out | apply below_alloc | apply pw_below_drewN | apply below_drew1) | exact HB.out))))
                                      (case aL => have := LMc24.out; first | omega | exact this | exact Nat.le_of_lt this)
                                      intro v131 w38 ho hb hg hat
                                      rw [← Ny130.out] at ho
                                      have n0_ := Aside0.mk (Kd.R_after (ok := (fun k_ => some k_ ≠ (.slice Ao37 y120.length co37 : Value).ownBlock)) (by (with_reducible repeat (first | apply Kd.R_alloc | apply Kd.R_drewN | apply Kd.R_drew)); exact HO_3.out) hg hat)
                                      have n1_ := Aside0.mk (Kd.R_after (ok := (fun k_ => some k_ ≠ (.slice (some ad107) x3_1.length co26 : Value).ownBlock)) (by (with_reducible repeat (first | apply Kd.R_alloc | apply Kd.R_drewN | apply Kd.R_drew)); exact HO122.out) hg hat)
                                      have n2_ := Aside0.mk (hb)
                                      have n3_ := Aside0.mk ((show Kd.C k37 w38 (some ad107) y112.length y112 from by rw [Ny112.out]; exact Kd.C_take (m := (x7_3 : Int).toNat) ((Kd.R_reads' (Kd.R_after (ok := (fun k_ => some k_ ≠ (.slice Ao37 y120.length co37 : Value).ownBlock)) (by (with_reducible repeat (first | apply Kd.R_alloc | apply Kd.R_drewN | apply Kd.R_drew)); exact HO_3.out) hg hat)).2.2) KL28.out))
                                      have n4_ := Aside0.mk ((show Kd.C k37 w38 A29 y126.length y126 from by rw [Ny126.out, KA29.out]; exact Kd.C_drop (m := (x7_3 : Int).toNat) (c := co26) ((Kd.R_reads' (Kd.R_after (ok := (fun k_ => some k_ ≠ (.slice Ao37 y120.length co37 : Value).ownBlock)) (by (with_reducible repeat (first | apply Kd.R_alloc | apply Kd.R_drewN | apply Kd.R_drew)); exact HO_3.out) hg hat)).2.2) KL29.out ((Kd.R_reads' (Kd.R_after (ok := (fun k_ => some k_ ≠ (.slice Ao37 y120.length co37 : Value).ownBlock)) (by (with_reducible repeat (first | apply Kd.R_alloc | apply Kd.R_drewN | apply Kd.R_drew)); exact HO_3.out) hg hat)).2.1)))
                                      have n5_ := Aside0.mk (ho)
                                      clear HO_3
                                      clear HO122
                                      clear HB
                                      clear HR115
                                      clear HR129
                                      clear HO125
                                      have HO_3 := n0_
                                      have HO122 := n1_
                                      have HB := n2_
                                      have HR115 := n3_
                                      have HR129 := n4_
                                      have HO132 := n5_
                                      clear n0_ n1_ n2_ n3_ n4_ n5_
                                      clear ho hb hg hat
                                      refine hK.out _ _ ⟨((HB.out.cell (World.block_lt_of_cell? w _ hw119_0)).trans hw119_0), ((HB.out.cell (World.block_lt_of_cell? w _ hw119_1)).trans hw119_1)⟩ (fun hHeld => ?_)
                                      clear hK K
                                      refine norm_ (a' := ?_) ?_ ?_
                                      rotate_left
                                      · show Act.put _ (some 70) _ = _
                                        simp only [Act.put, List.setIfInBounds_toArray, List.set_cons_zero, List.set_cons_succ, i64_w, i32_w]
                                        rfl
                                      refine pure_ (i := 15) (N := some 3) (v := ?_) (a' := ?_) #[true, true, true, true, true, true, true, true, true, true, true, true, true, true, true, true] rfl rfl (any_of HT_.out (by kernel_rfl)) (fun _ _ _ h => h) (Or.inl ⟨by rfl, ?_⟩) ?_ ?_
                                      rotate_left
                                      · intro w'
                                        go_simp
                                        with_reducible rfl
                                      rotate_left
                                      · simp only [Act.put, List.setIfInBounds_toArray, List.set_cons_zero, List.set_cons_succ, i64_w, i32_w]
                                        rfl
                                      refine done_ (done_of HT_.out (by kernel_rfl)) ?_
                                      try go_wp2
                                      go_roundg k3
                                      case measure => have := HK1.out; have := HK2.out; have := HK3.out; omega
                                      case rel => exact ⟨(y130), (wrap64 (x10_1 + 1)), (by first | rfl | (simp; done) | (simp [*]; done)), H', ⟨by have := HK1.out; have := HK2.out; have := HK3.out; omega⟩, ⟨by (with_reducible repeat (first | apply Kd.R_alloc | apply Kd.R_drewN | apply Kd.R_drew)); exact Kd.R_mono HO132.out (fun _ hk => trivial)⟩, ⟨by repeat (first | (with_reducible first | exact HB.out | apply below_alloc | apply pw_below_drewN | apply below_drew1) | exact HB.out)⟩⟩
                                    · rw [if_neg c24] at H
                                      exact absurd H (by simp)
                                  · rw [if_neg c21] at H
                                    exact absurd H (by simp)
                                · rw [if_neg c20] at H
                                  exact absurd H (by simp)
                              · rw [if_neg c19] at H
                                exact absurd H (by simp)
                          · rw [if_neg c14] at H
                            exact absurd H (by simp)
                        · rw [if_neg c13] at H
                          exact absurd H (by simp)
                      · rw [if_neg c12] at H
                        exact absurd H (by simp)
                    · rw [if_neg c11] at H
                      have c11b0 : decide (x7_3 < (x3_1.length : Int)) = false := decide_eq_false c11
                      clear c11
                      obtain ⟨y133, hy133⟩ : ∃ y_ : List (S37), y_ = (([] : List (S37))) := ⟨_, rfl⟩
                      replace H : (if 0 ≤ x7_3 then (if x7_3 ≤ (x3_1.length : Int) then ((some (x3_1.take (x7_3 : Int).toNat : List (S37))).bind fun y136 => (if y133.length + y136.length < 4398046511104 then ((some (y133 ++ y136 : List (S37))).bind fun y140 => (if 0 ≤ x10_1 then (if x10_1 < (l0.length : Int) then ((some (([(⟨(rd_T37 l0 x10_1).f0, (rd_T37 l0 x10_1).f1⟩ : S37)] : List (S37)) : List (S37))).bind fun y144 => (if y140.length + y144.length < 4398046511104 then ((some (y140 ++ y144 : List (S37))).bind fun y147 => ((some (x3_1.drop (x7_3 : Int).toNat : List (S37))).bind fun y150 => (if y147.length + y150.length < 4398046511104 then (spec_Set.l0 k3 l0 (y147 ++ y150) (l0.length : Int) (wrap64 (x10_1 + 1))) else (none)))) else (none))) else (none)) else (none))) else (none))) else (none)) else (none)) = some r := by first | (rw [hy133]; with_reducible exact H) | (have H2_ := (Option.bind_some _ _).symm.trans H; rw [hy133]; with_reducible exact H2_) | (have H2_ := (Option.bind_some _ _).symm.trans H; with_reducible exact H2_) | with_reducible exact H | (rw [hy133]; exact H) | exact H
                      have Ny133 := Aside0.mk hy133
                      clear hy133
                      by_cases c39 : 0 ≤ x7_3
                      · rw [if_pos c39] at H
                        have c39b0 := eq_true c39
                        have c39b1 : decide (0 ≤ x7_3) = true := decide_eq_true c39
                        clear c39
                        by_cases c40 : x7_3 ≤ (x3_1.length : Int)
                        · rw [if_pos c40] at H
                          have c40b0 := eq_true c40
                          have c40b1 : decide (x7_3 ≤ (x3_1.length : Int)) = true := decide_eq_true c40
                          clear c40
                          obtain ⟨y136, hy136⟩ : ∃ y_ : List (S37), y_ = (x3_1.take (x7_3 : Int).toNat) := ⟨_, rfl⟩
                          replace H : (if y133.length + y136.length < 4398046511104 then ((some (y133 ++ y136 : List (S37))).bind fun y140 => (if 0 ≤ x10_1 then (if x10_1 < (l0.length : Int) then ((some (([(⟨(rd_T37 l0 x10_1).f0, (rd_T37 l0 x10_1).f1⟩ : S37)] : List (S37)) : List (S37))).bind fun y144 => (if y140.length + y144.length < 4398046511104 then ((some (y140 ++ y144 : List (S37))).bind fun y147 => ((some (x3_1.drop (x7_3 : Int).toNat : List (S37))).bind fun y150 => (if y147.length + y150.length < 4398046511104 then (spec_Set.l0 k3 l0 (y147 ++ y150) (l0.length : Int) (wrap64 (x10_1 + 1))) else (none)))) else (none))) else (none)) else (none))) else (none)) = some r := by first | (rw [hy136]; with_reducible exact H) | (have H2_ := (Option.bind_some _ _).symm.trans H; rw [hy136]; with_reducible exact H2_) | (have H2_ := (Option.bind_some _ _).symm.trans H; with_reducible exact H2_) | with_reducible exact H | (rw [hy136]; exact H) | exact H
                          have Ny136 := Aside0.mk hy136
                          clear hy136
                          by_cases c41 : y133.length + y136.length < 4398046511104
                          · rw [if_pos c41] at H
                            have LMc41 := Aside0.mk c41
                            clear c41
                            obtain ⟨y140, hy140⟩ : ∃ y_ : List (S37), y_ = (y133 ++ y136) := ⟨_, rfl⟩
                            replace H : (if 0 ≤ x10_1 then (if x10_1 < (l0.length : Int) then ((some (([(⟨(rd_T37 l0 x10_1).f0, (rd_T37 l0 x10_1).f1⟩ : S37)] : List (S37)) : List (S37))).bind fun y144 => (if y140.length + y144.length < 4398046511104 then ((some (y140 ++ y144 : List (S37))).bind fun y147 => ((some (x3_1.drop (x7_3 : Int).toNat : List (S37))).bind fun y150 => (if y147.length + y150.length < 4398046511104 then (spec_Set.l0 k3 l0 (y147 ++ y150) (l0.length : Int) (wrap64 (x10_1 + 1))) else (none)))) else (none))) else (none)) else (none)) = some r := by first | (rw [hy140]; with_reducible exact H) | (have H2_ := (Option.bind_some _ _).symm.trans H; rw [hy140]; with_reducible exact H2_) | (have H2_ := (Option.bind_some _ _).symm.trans H; with_reducible exact H2_) | with_reducible exact H | (rw [hy140]; exact H) | exact H
                            have Ny140 := Aside0.mk hy140
                            clear hy140
                            by_cases c42 : 0 ≤ x10_1
                            · rw [if_pos c42] at H
                              have c42b0 : decide (0 ≤ x10_1) = true := decide_eq_true c42
                              clear c42
                              by_cases c43 : x10_1 < (l0.length : Int)
                              · rw [if_pos c43] at H
                                have c43b0 : decide (x10_1 < (l0.length : Int)) = true := decide_eq_true c43
                                clear c43
                                obtain ⟨y144, hy144⟩ : ∃ y_ : List (S37), y_ = (([(⟨(rd_T37 l0 x10_1).f0, (rd_T37 l0 x10_1).f1⟩ : S37)] : List (S37))) := ⟨_, rfl⟩
                                replace H : (if y140.length + y144.length < 4398046511104 then ((some (y140 ++ y144 : List (S37))).bind fun y147 => ((some (x3_1.drop (x7_3 : Int).toNat : List (S37))).bind fun y150 => (if y147.length + y150.length < 4398046511104 then (spec_Set.l0 k3 l0 (y147 ++ y150) (l0.length : Int) (wrap64 (x10_1 + 1))) else (none)))) else (none)) = some r := by first | (rw [hy144]; with_reducible exact H) | (have H2_ := (Option.bind_some _ _).symm.trans H; rw [hy144]; with_reducible exact H2_) | (have H2_ := (Option.bind_some _ _).symm.trans H; with_reducible exact H2_) | with_reducible exact H | (rw [hy144]; exact H) | exact H
                                have Ny144 := Aside0.mk hy144
                                clear hy144
                                by_cases c44 : y140.length + y144.length < 4398046511104
                                · rw [if_pos c44] at H
                                  have LMc44 := Aside0.mk c44
                                  clear c44
                                  obtain ⟨y147, hy147⟩ : ∃ y_ : List (S37), y_ = (y140 ++ y144) := ⟨_, rfl⟩
                                  replace H : ((some (x3_1.drop (x7_3 : Int).toNat : List (S37))).bind fun y150 => (if y147.length + y150.length < 4398046511104 then (spec_Set.l0 k3 l0 (y147 ++ y150) (l0.length : Int) (wrap64 (x10_1 + 1))) else (none))) = some r := by first | (rw [hy147]; with_reducible exact H) | (have H2_ := (Option.bind_some _ _).symm.trans H; rw [hy147]; with_reducible exact H2_) | (have H2_ := (Option.bind_some _ _).symm.trans H; with_reducible exact H2_) | with_reducible exact H | (rw [hy147]; exact H) | exact H
                                  have Ny147 := Aside0.mk hy147
                                  clear hy147
                                  have c45b0 := eq_true (of_decide_eq_true (by first | (with_reducible assumption) | assumption) : 0 ≤ x7_3)
                                  have c46b0 := eq_true (of_decide_eq_true (by first | (with_reducible assumption) | assumption) : x7_3 ≤ (x3_1.length : Int))
                                  obtain ⟨y150, hy150⟩ : ∃ y_ : List (S37), y_ = (x3_1.drop (x7_3 : Int).toNat) := ⟨_, rfl⟩
                                  replace H : (if y147.length + y150.length < 4398046511104 then (spec_Set.l0 k3 l0 (y147 ++ y150) (l0.length : Int) (wrap64 (x10_1 + 1))) else (none)) = some r := by first | (rw [hy150]; with_reducible exact H) | (have H2_ := (Option.bind_some _ _).symm.trans H; rw [hy150]; with_reducible exact H2_) | (have H2_ := (Option.bind_some _ _).symm.trans H; with_reducible exact H2_) | with_reducible exact H | (rw [hy150]; exact H) | exact H
                                  have Ny150 := Aside0.mk hy150
                                  clear hy150
                                  by_cases c47 : y147.length + y150.length < 4398046511104
                                  · rw [if_pos c47] at H
                                    have LMc47 := Aside0.mk c47
                                    clear c47
                                    obtain ⟨y154, hy154⟩ : ∃ y_ : List (S37), y_ = (y147 ++ y150) := ⟨_, rfl⟩
                                    replace H : (spec_Set.l0 k3 l0 y154 (l0.length : Int) (wrap64 (x10_1 + 1))) = some r := by first | (rw [hy154]; with_reducible exact H) | (have H2_ := (Option.bind_some _ _).symm.trans H; rw [hy154]; with_reducible exact H2_) | (have H2_ := (Option.bind_some _ _).symm.trans H; with_reducible exact H2_) | with_reducible exact H | (rw [hy154]; exact H) | exact H
                                    have Ny154 := Aside0.mk hy154
                                    clear hy154
                                    have H' := Aside0.mk H
                                    clear H
                                    try go_wp2
                                    have n0_ := Aside0.mk (Kd.R_drew HO_3.out)
                                    have n1_ := Aside0.mk (below_drew1 HB.out)
                                    clear HO_3
                                    clear HB
                                    have HO_3 := n0_
                                    have HB := n1_
                                    clear n0_ n1_
                                    obtain ⟨Ao49, co49, eo49⟩ := Kd.R_slice HO_3.out
                                    (first | subst eo49 | (injection eo49 with f1_ f2_ f3_; have f4_ := f1_.symm; have f5_ := f3_.symm; clear f1_ f2_ f3_; subst f4_; subst f5_))
                                    refine start_ (n := 17) (S := fun w' => True) (ds := []) #[false, false, false, false, false, false, false, false, false, false, false, false, false, false, false, false, false] (by kernel_rfl) rfl rfl trivial (fun hHeld => ?_); refine with_tabW spec_Set.tab12 spec_Set.bits12 (fun HT_ HW_ => ?_)
                                    generalize wr.drew = w48 at HO_3 HB hHeld ⊢
                                    refine pure_ (i := 0) (N := some 37) (v := ?_) (a' := ?_) #[true, false, false, false, false, false, false, false, false, false, false, false, false, false, false, false, false] rfl rfl (any_of HT_.out (by kernel_rfl)) (fun _ _ _ h => h) (Or.inl ⟨by rfl, ?_⟩) ?_ ?_
                                    rotate_left
                                    · intro w'
                                      go_simp
                                      with_reducible rfl
                                    rotate_left
                                    · simp only [Act.put, List.setIfInBounds_toArray, List.set_cons_zero, List.set_cons_succ, i64_w, i32_w]
                                      rfl
                                    refine pure_ (i := 1) (N := some 38) (v := ?_) (a' := ?_) #[true, true, false, false, false, false, false, false, false, false, false, false, false, false, false, false, false] rfl rfl (any_of HT_.out (by kernel_rfl)) (fun _ _ _ h => h) (Or.inl ⟨by rfl, ?_⟩) ?_ ?_
                                    rotate_left
                                    · intro w'
                                      go_simp
                                      with_reducible rfl
                                    rotate_left
                                    · simp only [Act.put, List.setIfInBounds_toArray, List.set_cons_zero, List.set_cons_succ, i64_w, i32_w]
                                      rfl
                                    refine pure_ (i := 2) (N := some 39) (v := ?_) (a' := ?_) #[true, true, true, false, false, false, false, false, false, false, false, false, false, false, false, false, false] rfl rfl (any_of HT_.out (by kernel_rfl)) (fun _ _ _ h => h) (Or.inl ⟨by rfl, ?_⟩) ?_ ?_
                                    rotate_left
                                    · intro w'
                                      go_simp
                                      with_reducible rfl
                                    rotate_left
                                    · simp only [Act.put, List.setIfInBounds_toArray, List.set_cons_zero, List.set_cons_succ, i64_w, i32_w]
                                      rfl
                                    refine pure_ (i := 3) (N := some 40) (v := ?_) (a' := ?_) #[true, true, true, true, false, false, false, false, false, false, false, false, false, false, false, false, false] rfl rfl (any_of HT_.out (by kernel_rfl)) (fun _ _ _ h => h) (Or.inl ⟨by rfl, ?_⟩) ?_ ?_
                                    rotate_left
                                    · intro w'
                                      go_simp
                                      with_reducible rfl
                                    rotate_left
                                    · simp only [Act.put, List.setIfInBounds_toArray, List.set_cons_zero, List.set_cons_succ, i64_w, i32_w]
                                      rfl
                                    refine pure_ (i := 4) (N := some 41) (v := ?_) (a' := ?_) #[true, true, true, true, true, false, false, false, false, false, false, false, false, false, false, false, false] rfl rfl (any_of HT_.out (by kernel_rfl)) (fun _ _ _ h => h) (Or.inl ⟨by rfl, ?_⟩) ?_ ?_
                                    rotate_left
                                    · intro w'
                                      go_simp
                                      with_reducible rfl
                                    rotate_left
                                    · simp only [Act.put, List.setIfInBounds_toArray, List.set_cons_zero, List.set_cons_succ, i64_w, i32_w]
                                      rfl
                                    refine pure_ (i := 5) (N := some 42) (v := undef) (a' := ?_) #[true, true, true, true, true, true, false, false, false, false, false, false, false, false, false, false, false] rfl rfl (any_of HT_.out (by kernel_rfl)) (fun _ _ _ h => h) (Or.inr ⟨by rfl, rfl⟩) ?_ ?_
                                    rotate_left
                                    · simp only [Act.put, List.setIfInBounds_toArray, List.set_cons_zero, List.set_cons_succ, i64_w, i32_w]
                                      rfl
                                    refine pure_ (i := 6) (N := some 43) (v := undef) (a' := ?_) #[true, true, true, true, true, true, true, false, false, false, false, false, false, false, false, false, false] rfl rfl (any_of HT_.out (by kernel_rfl)) (fun _ _ _ h => h) (Or.inr ⟨by rfl, rfl⟩) ?_ ?_
                                    rotate_left
                                    · simp only [Act.put, List.setIfInBounds_toArray, List.set_cons_zero, List.set_cons_succ, i64_w, i32_w]
                                      rfl
                                    refine pure_ (i := 7) (N := some 44) (v := undef) (a' := ?_) #[true, true, true, true, true, true, true, true, false, false, false, false, false, false, false, false, false] rfl rfl (any_of HT_.out (by kernel_rfl)) (fun _ _ _ h => h) (Or.inr ⟨by rfl, rfl⟩) ?_ ?_
                                    rotate_left
                                    · simp only [Act.put, List.setIfInBounds_toArray, List.set_cons_zero, List.set_cons_succ, i64_w, i32_w]
                                      rfl
                                    refine pure_ (i := 8) (N := some 45) (v := undef) (a' := ?_) #[true, true, true, true, true, true, true, true, true, false, false, false, false, false, false, false, false] rfl rfl (any_of HT_.out (by kernel_rfl)) (fun _ _ _ h => h) (Or.inr ⟨by rfl, rfl⟩) ?_ ?_
                                    rotate_left
                                    · simp only [Act.put, List.setIfInBounds_toArray, List.set_cons_zero, List.set_cons_succ, i64_w, i32_w]
                                      rfl
                                    refine pure_ (i := 9) (N := some 46) (v := undef) (a' := ?_) #[true, true, true, true, true, true, true, true, true, true, false, false, false, false, false, false, false] rfl rfl (any_of HT_.out (by kernel_rfl)) (fun _ _ _ h => h) (Or.inr ⟨by rfl, rfl⟩) ?_ ?_
                                    rotate_left
                                    · simp only [Act.put, List.setIfInBounds_toArray, List.set_cons_zero, List.set_cons_succ, i64_w, i32_w]
                                      rfl
                                    refine pure_ (i := 10) (N := some 47) (v := undef) (a' := ?_) #[true, true, true, true, true, true, true, true, true, true, true, false, false, false, false, false, false] rfl rfl (any_of HT_.out (by kernel_rfl)) (fun _ _ _ h => h) (Or.inr ⟨by rfl, rfl⟩) ?_ ?_
                                    rotate_left
                                    · simp only [Act.put, List.setIfInBounds_toArray, List.set_cons_zero, List.set_cons_succ, i64_w, i32_w]
                                      rfl
                                    refine pure_ (i := 11) (N := some 48) (v := undef) (a' := ?_) #[true, true, true, true, true, true, true, true, true, true, true, true, false, false, false, false, false] rfl rfl (any_of HT_.out (by kernel_rfl)) (fun _ _ _ h => h) (Or.inr ⟨by rfl, rfl⟩) ?_ ?_
                                    rotate_left
                                    · simp only [Act.put, List.setIfInBounds_toArray, List.set_cons_zero, List.set_cons_succ, i64_w, i32_w]
                                      rfl
                                    refine pure_ (i := 12) (N := some 49) (v := undef) (a' := ?_) #[true, true, true, true, true, true, true, true, true, true, true, true, true, false, false, false, false] rfl rfl (any_of HT_.out (by kernel_rfl)) (fun _ _ _ h => h) (Or.inr ⟨by rfl, rfl⟩) ?_ ?_
                                    rotate_left
                                    · simp only [Act.put, List.setIfInBounds_toArray, List.set_cons_zero, List.set_cons_succ, i64_w, i32_w]
                                      rfl
                                    refine pure_ (i := 13) (N := some 50) (v := undef) (a' := ?_) #[true, true, true, true, true, true, true, true, true, true, true, true, true, true, false, false, false] rfl rfl (any_of HT_.out (by kernel_rfl)) (fun _ _ _ h => h) (Or.inr ⟨by rfl, rfl⟩) ?_ ?_
                                    rotate_left
                                    · simp only [Act.put, List.setIfInBounds_toArray, List.set_cons_zero, List.set_cons_succ, i64_w, i32_w]
                                      rfl
                                    refine pure_ (i := 14) (N := some 51) (v := undef) (a' := ?_) #[true, true, true, true, true, true, true, true, true, true, true, true, true, true, true, false, false] rfl rfl (any_of HT_.out (by kernel_rfl)) (fun _ _ _ h => h) (Or.inr ⟨by rfl, rfl⟩) ?_ ?_
                                    rotate_left
                                    · simp only [Act.put, List.setIfInBounds_toArray, List.set_cons_zero, List.set_cons_succ, i64_w, i32_w]
                                      rfl
                                    refine pure_ (i := 15) (N := some 52) (v := undef) (a' := ?_) #[true, true, true, true, true, true, true, true, true, true, true, true, true, true, true, true, false] rfl rfl (any_of HT_.out (by kernel_rfl)) (fun _ _ _ h => h) (Or.inr ⟨by rfl, rfl⟩) ?_ ?_
                                    rotate_left
                                    · simp only [Act.put, List.setIfInBounds_toArray, List.set_cons_zero, List.set_cons_succ, i64_w, i32_w]
                                      rfl
                                    refine pure_ (i := 16) (N := some 53) (v := ?_) (a' := ?_) #[true, true, true, true, true, true, true, true, true, true, true, true, true, true, true, true, true] rfl rfl (any_of HT_.out (by kernel_rfl)) (fun _ _ _ h => h) (Or.inl ⟨by rfl, ?_⟩) ?_ ?_
                                    rotate_left
                                    · intro w'
                                      go_simp
                                      with_reducible rfl
                                    rotate_left
                                    · simp only [Act.put, List.setIfInBounds_toArray, List.set_cons_zero, List.set_cons_succ, i64_w, i32_w]
                                      rfl
                                    refine done_ (done_of HT_.out (by kernel_rfl)) ?_
                                    try go_wp2
                                    have n0_ := Aside0.mk (Kd.R_drew HO_3.out)
                                    have n1_ := Aside0.mk (below_drew1 HB.out)
                                    clear HO_3
                                    clear HB
                                    have HO_3 := n0_
                                    have HB := n1_
                                    clear n0_ n1_
                                    have q51 : (x7_3 : Int) ≤ ((x3_1.length : Int) : Int) := of_decide_eq_true (by first | (with_reducible assumption) | assumption)
                                    obtain ⟨i051, hi051, _, hsz51, _⟩ := info_parts info37
                                    have hroom51 : x3_1.length ≤ co49 := (Kd.R_reads' HO_3.out).2.1
                                    have hC51 : Kd.C k37 _ Ao49 x3_1.length x3_1 := (Kd.R_reads' HO_3.out).2.2
                                    have hcut51 := cut_to (P := Try.prog) 34 37 .i64 Try.underlying34 hi051 Ao49 x3_1.length co49 x7_3 (of_decide_eq_true (by first | (with_reducible assumption) | assumption)) q51 hroom51
                                    have hr51 := Kd.C_take (m := (x7_3 : Int).toNat) hC51 (by omega)
                                    have hy51 : y136.length = (x7_3 : Int).toNat := (by rw [Ny136.out, List.length_take]; omega)
                                    rw [← Ny136.out] at hr51
                                    rw [← hy51] at hcut51
                                    have HR139 := Aside0.mk hr51
                                    have HC139 := Aside0.mk (show y136.length ≤ co49 from by omega)
                                    clear hr51 hC51 hroom51 hi051 hsz51
                                    have KY51 := Aside0.mk hy51
                                    clear hy51
                                    have KL51 := Aside0.mk (show (x7_3 : Int).toNat ≤ x3_1.length from by omega)
                                    replace q51 := eq_true q51
                                    have p143 : 0 ≤ (x10_1 : Int) := of_decide_eq_true (by first | (with_reducible assumption) | assumption)
                                    have q143 : x10_1 < (l0.length : Int) := of_decide_eq_true (by first | (with_reducible assumption) | assumption)
                                    obtain ⟨ad143, e143, hx143_0, hx143_1⟩ := at_T37 HR0.out x10_1 p143 q143
                                    have hw143_1 := hx143_1
                                    have hw143_0 := hx143_0
                                    cases e143
                                    replace hx143_0 := (HB.out.cell (World.block_lt_of_cell? w _ hx143_0)).trans hx143_0
                                    replace hx143_1 := (HB.out.cell (World.block_lt_of_cell? w _ hx143_1)).trans hx143_1
                                    replace p143 := eq_true p143
                                    replace q143 := eq_true q143
                                    have q52 : (x7_3 : Int) ≤ ((x3_1.length : Int) : Int) := of_decide_eq_true (by first | (with_reducible assumption) | assumption)
                                    obtain ⟨i052, hi052, _, hsz52, _⟩ := info_parts info37
                                    have hroom52 : x3_1.length ≤ co49 := (Kd.R_reads' HO_3.out).2.1
                                    have hC52 : Kd.C k37 _ Ao49 x3_1.length x3_1 := (Kd.R_reads' HO_3.out).2.2
                                    have q052 : (0 : Int) ≤ (x7_3 : Int) := of_decide_eq_true (by first | (with_reducible assumption) | assumption)
                                    have hcut52 := cut_from (P := Try.prog) 34 37 .i64 Try.underlying34 hi052 2 hsz52 Ao49 x3_1.length co49 x7_3 q052 q52
                                    have hr52 := Kd.C_drop (m := (x7_3 : Int).toNat) (c := co49) hC52 (by omega) hroom52
                                    obtain ⟨A52, hA52⟩ : ∃ A1, A1 = (if co49 = (x7_3 : Int).toNat then Ao49 else (Ao49 : Option Addr).map (·.add ((x7_3 : Int).toNat * 2))) := ⟨_, rfl⟩
                                    obtain ⟨c52, hc52⟩ : ∃ c1, c1 = co49 - (x7_3 : Int).toNat := ⟨_, rfl⟩
                                    have hy52 : y150.length = x3_1.length - (x7_3 : Int).toNat := (by rw [Ny150.out, List.length_drop] <;> omega)
                                    rw [show (x3_1).drop (x7_3 : Int).toNat = y150 from Ny150.out.symm] at hr52
                                    replace hr52 : Kd.C k37 _ A52 y150.length y150 := (by rw [hA52]; exact hr52)
                                    rw [← hy52, ← hA52, ← hc52] at hcut52
                                    have HR153 := Aside0.mk hr52
                                    have HC153 := Aside0.mk (show y150.length ≤ c52 from by rw [hy52, hc52]; exact Nat.sub_le_sub_right hroom52 _)
                                    clear hr52 hC52 hroom52 hi052 hsz52 hc52
                                    have KY52 := Aside0.mk hy52
                                    have KA52 := Aside0.mk hA52
                                    clear hy52 hA52
                                    have KL52 := Aside0.mk (show (x7_3 : Int).toNat ≤ x3_1.length from by omega)
                                    replace q52 := eq_true q52
                                    refine start_ (n := 16) (S := fun w' => w'.cell? (ad143.add ((x10_1).toNat * 2)) = some (.string ((rd_T37 l0 x10_1).f0)) ∧ w'.cell? ⟨(ad143.add ((x10_1).toNat * 2)).block, (ad143.add ((x10_1).toNat * 2)).off + 1, none⟩ = some (.string ((rd_T37 l0 x10_1).f1))) (ds := []) #[false, false, false, false, false, false, false, false, false, false, false, false, false, false, false, false] (by kernel_rfl) rfl rfl ⟨((HB.out.cell (World.block_lt_of_cell? w _ hw143_0)).trans hw143_0), ((HB.out.cell (World.block_lt_of_cell? w _ hw143_1)).trans hw143_1)⟩ (fun hHeld => ?_); refine with_tabW spec_Set.tab14 spec_Set.bits14 (fun HT_ HW_ => ?_)
                                    generalize w48.drew = w50 at HO_3 HB HR139 HR153 hx143_0 hx143_1 hHeld ⊢
                                    refine pure_ (i := 1) (N := some 57) (v := ?_) (a' := ?_) #[false, true, false, false, false, false, false, false, false, false, false, false, false, false, false, false] rfl rfl (any_of HT_.out (by kernel_rfl)) (fun _ _ _ h => h) (Or.inl ⟨by rfl, ?_⟩) ?_ ?_
                                    rotate_left
                                    · intro w'
                                      go_simp
                                      with_reducible rfl
                                    rotate_left
                                    · simp only [Act.put, List.setIfInBounds_toArray, List.set_cons_zero, List.set_cons_succ, i64_w, i32_w]
                                      rfl
                                    refine pure_ (i := 2) (N := some 58) (v := ?_) (a' := ?_) #[false, true, true, false, false, false, false, false, false, false, false, false, false, false, false, false] rfl rfl (any_of HT_.out (by kernel_rfl)) (fun _ _ _ h => h) (Or.inl ⟨by rfl, ?_⟩) ?_ ?_
                                    rotate_left
                                    · intro w'
                                      go_simp
                                      with_reducible rfl
                                    rotate_left
                                    · simp only [Act.put, List.setIfInBounds_toArray, List.set_cons_zero, List.set_cons_succ, i64_w, i32_w]
                                      rfl
                                    refine pure_ (i := 3) (N := some 59) (v := ?_) (a' := ?_) #[false, true, true, true, false, false, false, false, false, false, false, false, false, false, false, false] rfl rfl (any_of HT_.out (by kernel_rfl)) (fun _ _ _ h => h) (Or.inl ⟨by rfl, ?_⟩) ?_ ?_
                                    rotate_left
                                    · intro w'
                                      go_simp
                                      with_reducible rfl
                                    rotate_left
                                    · simp only [Act.put, List.setIfInBounds_toArray, List.set_cons_zero, List.set_cons_succ, i64_w, i32_w]
                                      rfl
                                    refine pure_ (i := 5) (N := some 61) (v := ?_) (a' := ?_) #[false, true, true, true, false, true, false, false, false, false, false, false, false, false, false, false] rfl rfl (any_of HT_.out (by kernel_rfl)) (fun _ _ _ h => h) (Or.inl ⟨by rfl, ?_⟩) ?_ ?_
                                    rotate_left
                                    · intro w'
                                      go_simp
                                      with_reducible rfl
                                    rotate_left
                                    · simp only [Act.put, List.setIfInBounds_toArray, List.set_cons_zero, List.set_cons_succ, i64_w, i32_w]
                                      rfl
                                    refine pure_ (i := 6) (N := some 62) (v := ?_) (a' := ?_) #[false, true, true, true, false, true, true, false, false, false, false, false, false, false, false, false] rfl rfl (any_of HT_.out (by kernel_rfl)) (fun _ _ _ h => h) (Or.inl ⟨by rfl, ?_⟩) ?_ ?_
                                    rotate_left
                                    · intro w'
                                      go_simp
                                      with_reducible rfl
                                    rotate_left
                                    · simp only [Act.put, List.setIfInBounds_toArray, List.set_cons_zero, List.set_cons_succ, i64_w, i32_w]
                                      rfl
                                    refine pure_ (i := 7) (N := some 63) (v := ?_) (a' := ?_) #[false, true, true, true, false, true, true, true, false, false, false, false, false, false, false, false] rfl rfl (any_of HT_.out (by kernel_rfl)) (fun _ _ _ h => h) (Or.inl ⟨by rfl, ?_⟩) ?_ ?_
                                    rotate_left
                                    · intro w'
                                      go_simp
                                      with_reducible rfl
                                    rotate_left
                                    · simp only [Act.put, List.setIfInBounds_toArray, List.set_cons_zero, List.set_cons_succ, i64_w, i32_w]
                                      rfl
                                    refine pure_ (i := 11) (N := some 67) (v := ?_) (a' := ?_) #[false, true, true, true, false, true, true, true, false, false, false, true, false, false, false, false] rfl rfl (any_of HT_.out (by kernel_rfl)) (fun _ _ _ h => h) (Or.inl ⟨by rfl, ?_⟩) ?_ ?_
                                    rotate_left
                                    · intro w'
                                      go_simp
                                      with_reducible rfl
                                    rotate_left
                                    · simp only [Act.put, List.setIfInBounds_toArray, List.set_cons_zero, List.set_cons_succ, i64_w, i32_w]
                                      rfl
                                    refine pure_ (i := 12) (N := some 68) (v := ?_) (a' := ?_) #[false, true, true, true, false, true, true, true, false, false, false, true, true, false, false, false] rfl rfl (any_of HT_.out (by kernel_rfl)) (fun _ _ _ h => h) (Or.inl ⟨by rfl, ?_⟩) ?_ ?_
                                    rotate_left
                                    · intro w'
                                      go_simp
                                      with_reducible rfl
                                    rotate_left
                                    · simp only [Act.put, List.setIfInBounds_toArray, List.set_cons_zero, List.set_cons_succ, i64_w, i32_w]
                                      rfl
                                    refine pure_ (i := 13) (N := some 69) (v := ?_) (a' := ?_) #[false, true, true, true, false, true, true, true, false, false, false, true, true, true, false, false] rfl rfl (any_of HT_.out (by kernel_rfl)) (fun _ _ _ h => h) (Or.inl ⟨by rfl, ?_⟩) ?_ ?_
                                    rotate_left
                                    · intro w'
                                      go_simp
                                      with_reducible rfl
                                    rotate_left
                                    · simp only [Act.put, List.setIfInBounds_toArray, List.set_cons_zero, List.set_cons_succ, i64_w, i32_w]
                                      rfl
                                    refine take_ (i := 8) (N := some 64) (v := ?_) (a' := ?_) #[false, true, true, true, false, true, true, true, true, false, false, true, true, true, false, false] rfl rfl (take_ofW HT_.out HW_.out (by kernel_rfl)) (fun _ _ _ h => h) (Or.inl ⟨by rfl, ?_⟩) hHeld ?_ ?_
                                    rotate_left
                                    · rintro w' ⟨s0, s1⟩
                                      go_simp
                                      with_reducible rfl
                                    rotate_left
                                    · simp only [Act.put, List.setIfInBounds_toArray, List.set_cons_zero, List.set_cons_succ, i64_w, i32_w]
                                      rfl
                                    refine join_ (σ := Value × Value × Value) 3 #[true, true, true, true, true, true, true, true, true, true, false, true, true, true, false, false] (fun s_ => [(56, s_.1), (60, s_.2.1), (65, s_.2.2)]) (fun s_ w' => (w'.cell? (ad143.add ((x10_1).toNat * 2)) = some (.string ((rd_T37 l0 x10_1).f0)) ∧ w'.cell? ⟨(ad143.add ((x10_1).toNat * 2)).block, (ad143.add ((x10_1).toNat * 2)).off + 1, none⟩ = some (.string ((rd_T37 l0 x10_1).f1))) ∧ (Kd.R k37 37 w' w.heap.size (fun k_ => some k_ ≠ (s_.2.2 : Value).ownBlock ∧ some k_ ≠ (.slice Ao49 x3_1.length co49 : Value).ownBlock) s_.2.1 y140) ∧ (Kd.R k37 37 w' w.heap.size (fun k_ => some k_ ≠ (s_.2.1 : Value).ownBlock ∧ some k_ ≠ (.slice Ao49 x3_1.length co49 : Value).ownBlock) s_.2.2 y144) ∧ (Kd.R k37 37 w' w.heap.size (fun k_ => some k_ ≠ (s_.2.1 : Value).ownBlock ∧ some k_ ≠ (s_.2.2 : Value).ownBlock) (.slice Ao49 x3_1.length co49) x3_1) ∧ (Below w.heap.size w w')) ?_ ?_
                                    rotate_left
                                    · intro hCont
                                      refine two_ (i := 0) (j := 9) (Ni := some 56) (Nj := some 65) #[true, true, true, true, false, true, true, true, true, false, false, true, true, true, false, false] #[false, true, true, true, false, true, true, true, true, true, false, true, true, true, false, false] rfl rfl rfl rfl (two_of HT_.out (by kernel_rfl)) (by decide) (by decide) (fun K hK => ?_) (fun K hK => ?_)
                                      · skip
                                        refine Kd.R_lit_step k37 _ 37 ?hg (N := 56) ?hd (xs := ([] : List (S37))) (inner := []) (ok := fun _ => True) (okp := fun _ => True) ?hr ?hp (fun _ hk => hk) trivial (Below.refl _ _) (Nat.le_refl _) (by simp) ?_; (case hd => rfl); (case hg => rfl); (case hr => first | (go_simp; done) | (go_simp; rfl)); (case hp => exact (Reps.none _ _))
                                        intro v134 w53 ho54 hb hg_ hnew_
                                        clear hg_ hnew_
                                        (first | rw [← Ny133.out] at ho54 | (simp only [Int.reduceToNat] at ho54; rw [← Ny133.out] at ho54))
                                        have n0_ := Aside0.mk (Kd.R_elder' (by (with_reducible repeat (first | apply Kd.R_alloc | apply Kd.R_drewN | apply Kd.R_drew)); exact HO_3.out) (Kd.R_base ho54) hb)
                                        have n1_ := Aside0.mk (Kd.R_lower (Kd.R_new' ho54 (Kd.R_lt (by (with_reducible repeat (first | apply Kd.R_alloc | apply Kd.R_drewN | apply Kd.R_drew)); exact HO_3.out))) (below_size (by repeat (first | (with_reducible first | exact HB.out | apply below_alloc | apply pw_below_drewN | apply below_drew1) | exact HB.out))))
                                        have n2_ := Aside0.mk (Kd.C_below (by repeat (first | (with_reducible exact HR139.out) | (with_reducible refine Kd.C_alloc ?_ _) | (with_reducible refine Kd.C_drewN ?_ _) | (with_reducible refine Kd.C_drew ?_) | exact HR139.out)) hb)
                                        have n3_ := Aside0.mk (Kd.C_below (by repeat (first | (with_reducible exact HR153.out) | (with_reducible refine Kd.C_alloc ?_ _) | (with_reducible refine Kd.C_drewN ?_ _) | (with_reducible refine Kd.C_drew ?_) | exact HR153.out)) hb)
                                        have n4_ := Aside0.mk (below_step (by repeat (first | (with_reducible first | exact HB.out | apply below_alloc | apply pw_below_drewN | apply below_drew1) | exact HB.out)) hb)
                                        clear HO_3
                                        clear HR139
                                        clear HR153
                                        clear HB
                                        have HO_3 := n0_
                                        have HO135 := n1_
                                        have HR139 := n2_
                                        have HR153 := n3_
                                        have HB := n4_
                                        clear n0_ n1_ n2_ n3_ n4_
                                        clear hb ho54
                                        refine hK.out _ _ ⟨((HB.out.cell (World.block_lt_of_cell? w _ hw143_0)).trans hw143_0), ((HB.out.cell (World.block_lt_of_cell? w _ hw143_1)).trans hw143_1)⟩ (fun hHeld => ?_)
                                        clear hK K
                                        refine norm_ (a' := ?_) ?_ ?_
                                        rotate_left
                                        · show Act.put _ (some 56) _ = _
                                          simp only [Act.put, List.setIfInBounds_toArray, List.set_cons_zero, List.set_cons_succ, i64_w, i32_w]
                                          rfl
                                        refine two_ (i := 4) (j := 9) (Ni := some 60) (Nj := some 65) #[true, true, true, true, true, true, true, true, true, false, false, true, true, true, false, false] #[true, true, true, true, false, true, true, true, true, true, false, true, true, true, false, false] rfl rfl rfl rfl (two_of HT_.out (by kernel_rfl)) (by decide) (by decide) (fun K hK => ?_) (fun K hK => ?_)
                                        · skip
                                          refine Kd.R_append_rows_step k37 (w0 := w) w.heap.size (by rfl) (.tmp 56) (.tmp 59) 34 37 (.agg #[(.string ⟨#[]⟩), (.string ⟨#[]⟩)]) 32 rfl Try.underlying34 info37 rfl (by decide) (by omega) v134 y133 y136 _ _ _ (fun k_ => some k_ ≠ (.slice Ao49 x3_1.length co49 : Value).ownBlock) (fun _ => False) rfl rfl ?aO ?aR (fun _ _ h => h) (fun _ h => h.elim) ?aF ?aB ?aS ?aL ?_
                                          (case aR => repeat (first | exact (by repeat (first | (with_reducible exact HR139.out) | (with_reducible refine Kd.C_alloc ?_ _) | (with_reducible refine Kd.C_drewN ?_ _) | (with_reducible refine Kd.C_drew ?_) | exact HR139.out)) | (with_reducible refine Kd.C_alloc ?_ _) | (with_reducible refine Kd.C_drewN ?_ _) | (with_reducible refine Kd.C_drew ?_)))
                                          (case aB => exact (by repeat (first | (with_reducible first | exact HB.out | apply below_alloc | apply pw_below_drewN | apply below_drew1) | exact HB.out)))
                                          (case aF => exact (fun k_ hk => Kd.fresh' (Kd.R_lt (by (with_reducible repeat (first | apply Kd.R_alloc | apply Kd.R_drewN | apply Kd.R_drew)); exact HO_3.out)) k_ hk))
                                          (case aO => exact (by (with_reducible repeat (first | apply Kd.R_alloc | apply Kd.R_drewN | apply Kd.R_drew)); exact Kd.R_mono HO135.out (fun _ hk => hk.2)))
                                          (case aS => exact (below_size (by repeat (first | (with_reducible first | exact HB.out | apply below_alloc | apply pw_below_drewN | apply below_drew1) | exact HB.out))))
                                          (case aL => have := LMc41.out; first | omega | exact this | exact Nat.le_of_lt this)
                                          intro v141 w55 ho hb hg hat
                                          rw [← Ny140.out] at ho
                                          have n0_ := Aside0.mk (Kd.R_after (ok := (fun _ => True)) (by (with_reducible repeat (first | apply Kd.R_alloc | apply Kd.R_drewN | apply Kd.R_drew)); exact HO_3.out) hg hat)
                                          have n1_ := Aside0.mk (hb)
                                          have n2_ := Aside0.mk ((show Kd.C k37 w55 Ao49 y136.length y136 from by rw [Ny136.out]; exact Kd.C_take (m := (x7_3 : Int).toNat) ((Kd.R_reads' (Kd.R_after (ok := (fun _ => True)) (by (with_reducible repeat (first | apply Kd.R_alloc | apply Kd.R_drewN | apply Kd.R_drew)); exact HO_3.out) hg hat)).2.2) KL51.out))
                                          have n3_ := Aside0.mk ((show Kd.C k37 w55 A52 y150.length y150 from by rw [Ny150.out, KA52.out]; exact Kd.C_drop (m := (x7_3 : Int).toNat) (c := co49) ((Kd.R_reads' (Kd.R_after (ok := (fun _ => True)) (by (with_reducible repeat (first | apply Kd.R_alloc | apply Kd.R_drewN | apply Kd.R_drew)); exact HO_3.out) hg hat)).2.2) KL52.out ((Kd.R_reads' (Kd.R_after (ok := (fun _ => True)) (by (with_reducible repeat (first | apply Kd.R_alloc | apply Kd.R_drewN | apply Kd.R_drew)); exact HO_3.out) hg hat)).2.1)))
                                          have n4_ := Aside0.mk (ho)
                                          clear HO_3
                                          clear HB
                                          clear HR139
                                          clear HR153
                                          clear HO135
                                          have HO_3 := n0_
                                          have HB := n1_
                                          have HR139 := n2_
                                          have HR153 := n3_
                                          have HO142 := n4_
                                          clear n0_ n1_ n2_ n3_ n4_
                                          clear ho hb hg hat
                                          refine hK.out _ _ ⟨((HB.out.cell (World.block_lt_of_cell? w _ hw143_0)).trans hw143_0), ((HB.out.cell (World.block_lt_of_cell? w _ hw143_1)).trans hw143_1)⟩ (fun hHeld => ?_)
                                          clear hK K
                                          refine norm_ (a' := ?_) ?_ ?_
                                          rotate_left
                                          · show Act.put _ (some 60) _ = _
                                            simp only [Act.put, List.setIfInBounds_toArray, List.set_cons_zero, List.set_cons_succ, i64_w, i32_w]
                                            rfl
                                          refine one_ (i := 9) (N := some 65) #[true, true, true, true, true, true, true, true, true, true, false, true, true, true, false, false] rfl rfl (one_of HT_.out (by kernel_rfl)) (by decide) (fun K hK => ?_)
                                          refine Kd.R_lit_step k37 _ 37 ?hg (N := 65) ?hd (xs := ([(⟨(rd_T37 l0 x10_1).f0, (rd_T37 l0 x10_1).f1⟩ : S37)] : List (S37))) (inner := [.string ((rd_T37 l0 x10_1).f0), .string ((rd_T37 l0 x10_1).f1)]) (ok := fun _ => True) (okp := fun _ => True) ?hr ?hp (fun _ hk => hk) trivial (Below.refl _ _) (Nat.le_refl _) (by simp) ?_; (case hd => rfl); (case hg => rfl); (case hr => first | (go_simp; done) | (go_simp; rfl)); (case hp => exact (Reps.c2 (show Kd.M k37 _ _ _ (⟨(rd_T37 l0 x10_1).f0, (rd_T37 l0 x10_1).f1⟩ : S37) [.string ((rd_T37 l0 x10_1).f0), .string ((rd_T37 l0 x10_1).f1)] from (k37_mkM _ _ _ (⟨(rd_T37 l0 x10_1).f0, (rd_T37 l0 x10_1).f1⟩ : S37) )) (Reps.none _ _)))
                                          intro v145 w56 ho57 hb hg_ hnew_
                                          clear hg_ hnew_
                                          (first | rw [← Ny144.out] at ho57 | (simp only [Int.reduceToNat] at ho57; rw [← Ny144.out] at ho57))
                                          have n0_ := Aside0.mk (Kd.R_elder' (by (with_reducible repeat (first | apply Kd.R_alloc | apply Kd.R_drewN | apply Kd.R_drew)); exact HO_3.out) (Kd.R_base ho57) hb)
                                          have n1_ := Aside0.mk (Kd.R_elder' (by (with_reducible repeat (first | apply Kd.R_alloc | apply Kd.R_drewN | apply Kd.R_drew)); exact HO142.out) (Kd.R_base ho57) hb)
                                          have n2_ := Aside0.mk (Kd.R_lower (Kd.R_new' (Kd.R_new' ho57 (Kd.R_lt (by (with_reducible repeat (first | apply Kd.R_alloc | apply Kd.R_drewN | apply Kd.R_drew)); exact HO_3.out))) (Kd.R_lt (by (with_reducible repeat (first | apply Kd.R_alloc | apply Kd.R_drewN | apply Kd.R_drew)); exact HO142.out))) (below_size (by repeat (first | (with_reducible first | exact HB.out | apply below_alloc | apply pw_below_drewN | apply below_drew1) | exact HB.out))))
                                          have n3_ := Aside0.mk (Kd.C_below (by repeat (first | (with_reducible exact HR139.out) | (with_reducible refine Kd.C_alloc ?_ _) | (with_reducible refine Kd.C_drewN ?_ _) | (with_reducible refine Kd.C_drew ?_) | exact HR139.out)) hb)
                                          have n4_ := Aside0.mk (Kd.C_below (by repeat (first | (with_reducible exact HR153.out) | (with_reducible refine Kd.C_alloc ?_ _) | (with_reducible refine Kd.C_drewN ?_ _) | (with_reducible refine Kd.C_drew ?_) | exact HR153.out)) hb)
                                          have n5_ := Aside0.mk (below_step (by repeat (first | (with_reducible first | exact HB.out | apply below_alloc | apply pw_below_drewN | apply below_drew1) | exact HB.out)) hb)
                                          clear HO_3
                                          clear HO142
                                          clear HR139
                                          clear HR153
                                          clear HB
                                          have HO_3 := n0_
                                          have HO142 := n1_
                                          have HO146 := n2_
                                          have HR139 := n3_
                                          have HR153 := n4_
                                          have HB := n5_
                                          clear n0_ n1_ n2_ n3_ n4_ n5_
                                          clear hb ho57
                                          refine hK.out _ _ ⟨((HB.out.cell (World.block_lt_of_cell? w _ hw143_0)).trans hw143_0), ((HB.out.cell (World.block_lt_of_cell? w _ hw143_1)).trans hw143_1)⟩ (fun hHeld => ?_)
                                          clear hK K
                                          refine norm_ (a' := ?_) ?_ ?_
                                          rotate_left
                                          · show Act.put _ (some 65) _ = _
                                            simp only [Act.put, List.setIfInBounds_toArray, List.set_cons_zero, List.set_cons_succ, i64_w, i32_w]
                                            rfl
                                          exact norm_ (by simp only [putAll, Act.put, List.setIfInBounds_toArray, List.set_cons_zero, List.set_cons_succ]) (hCont (v134, v141, v145) _ ⟨hHeld, (by (with_reducible repeat (first | apply Kd.R_alloc | apply Kd.R_drewN | apply Kd.R_drew)); exact Kd.R_mono HO142.out (fun _ hk => ⟨hk.2, hk.1⟩)), (by (with_reducible repeat (first | apply Kd.R_alloc | apply Kd.R_drewN | apply Kd.R_drew)); exact Kd.R_mono HO146.out (fun _ hk => ⟨hk.2, hk.1.2⟩)), (by (with_reducible repeat (first | apply Kd.R_alloc | apply Kd.R_drewN | apply Kd.R_drew)); exact Kd.R_mono HO_3.out (fun _ hk => ⟨hk.1.2, hk.2⟩)), (by repeat (first | (with_reducible first | exact HB.out | apply below_alloc | apply pw_below_drewN | apply below_drew1) | exact HB.out))⟩)
                                        · skip
                                          refine Kd.R_lit_step k37 _ 37 ?hg (N := 65) ?hd (xs := ([(⟨(rd_T37 l0 x10_1).f0, (rd_T37 l0 x10_1).f1⟩ : S37)] : List (S37))) (inner := [.string ((rd_T37 l0 x10_1).f0), .string ((rd_T37 l0 x10_1).f1)]) (ok := fun _ => True) (okp := fun _ => True) ?hr ?hp (fun _ hk => hk) trivial (Below.refl _ _) (Nat.le_refl _) (by simp) ?_; (case hd => rfl); (case hg => rfl); (case hr => first | (go_simp; done) | (go_simp; rfl)); (case hp => exact (Reps.c2 (show Kd.M k37 _ _ _ (⟨(rd_T37 l0 x10_1).f0, (rd_T37 l0 x10_1).f1⟩ : S37) [.string ((rd_T37 l0 x10_1).f0), .string ((rd_T37 l0 x10_1).f1)] from (k37_mkM _ _ _ (⟨(rd_T37 l0 x10_1).f0, (rd_T37 l0 x10_1).f1⟩ : S37) )) (Reps.none _ _)))
                                          intro v145 w55 ho56 hb hg_ hnew_
                                          clear hg_ hnew_
                                          (first | rw [← Ny144.out] at ho56 | (simp only [Int.reduceToNat] at ho56; rw [← Ny144.out] at ho56))
                                          have n0_ := Aside0.mk (Kd.R_elder' (by (with_reducible repeat (first | apply Kd.R_alloc | apply Kd.R_drewN | apply Kd.R_drew)); exact HO_3.out) (Kd.R_base ho56) hb)
                                          have n1_ := Aside0.mk (Kd.R_elder' (by (with_reducible repeat (first | apply Kd.R_alloc | apply Kd.R_drewN | apply Kd.R_drew)); exact HO135.out) (Kd.R_base ho56) hb)
                                          have n2_ := Aside0.mk (Kd.R_lower (Kd.R_new' (Kd.R_new' ho56 (Kd.R_lt (by (with_reducible repeat (first | apply Kd.R_alloc | apply Kd.R_drewN | apply Kd.R_drew)); exact HO_3.out))) (Kd.R_lt (by (with_reducible repeat (first | apply Kd.R_alloc | apply Kd.R_drewN | apply Kd.R_drew)); exact HO135.out))) (below_size (by repeat (first | (with_reducible first | exact HB.out | apply below_alloc | apply pw_below_drewN | apply below_drew1) | exact HB.out))))
                                          have n3_ := Aside0.mk (Kd.C_below (by repeat (first | (with_reducible exact HR139.out) | (with_reducible refine Kd.C_alloc ?_ _) | (with_reducible refine Kd.C_drewN ?_ _) | (with_reducible refine Kd.C_drew ?_) | exact HR139.out)) hb)
                                          have n4_ := Aside0.mk (Kd.C_below (by repeat (first | (with_reducible exact HR153.out) | (with_reducible refine Kd.C_alloc ?_ _) | (with_reducible refine Kd.C_drewN ?_ _) | (with_reducible refine Kd.C_drew ?_) | exact HR153.out)) hb)
                                          have n5_ := Aside0.mk (below_step (by repeat (first | (with_reducible first | exact HB.out | apply below_alloc | apply pw_below_drewN | apply below_drew1) | exact HB.out)) hb)
                                          clear HO_3
                                          clear HO135
                                          clear HR139
                                          clear HR153
                                          clear HB
                                          have HO_3 := n0_
                                          have HO135 := n1_
                                          have HO146 := n2_
                                          have HR139 := n3_
                                          have HR153 := n4_
                                          have HB := n5_
                                          clear n0_ n1_ n2_ n3_ n4_ n5_
                                          clear hb ho56
                                          refine hK.out _ _ ⟨((HB.out.cell (World.block_lt_of_cell? w _ hw143_0)).trans hw143_0), ((HB.out.cell (World.block_lt_of_cell? w _ hw143_1)).trans hw143_1)⟩ (fun hHeld => ?_)
                                          clear hK K
                                          refine norm_ (a' := ?_) ?_ ?_
                                          rotate_left
                                          · show Act.put _ (some 65) _ = _
                                            simp only [Act.put, List.setIfInBounds_toArray, List.set_cons_zero, List.set_cons_succ, i64_w, i32_w]
                                            rfl
                                          refine one_ (i := 4) (N := some 60) #[true, true, true, true, true, true, true, true, true, true, false, true, true, true, false, false] rfl rfl (one_of HT_.out (by kernel_rfl)) (by decide) (fun K hK => ?_)
                                          refine Kd.R_append_rows_step k37 (w0 := w) w.heap.size (by rfl) (.tmp 56) (.tmp 59) 34 37 (.agg #[(.string ⟨#[]⟩), (.string ⟨#[]⟩)]) 32 rfl Try.underlying34 info37 rfl (by decide) (by omega) v134 y133 y136 _ _ _ (fun k_ => some k_ ≠ (.slice Ao49 x3_1.length co49 : Value).ownBlock ∧ some k_ ≠ (v145 : Value).ownBlock) (fun _ => False) rfl rfl ?aO ?aR (fun _ _ h => h) (fun _ h => h.elim) ?aF ?aB ?aS ?aL ?_
                                          (case aR => repeat (first | exact (by repeat (first | (with_reducible exact HR139.out) | (with_reducible refine Kd.C_alloc ?_ _) | (with_reducible refine Kd.C_drewN ?_ _) | (with_reducible refine Kd.C_drew ?_) | exact HR139.out)) | (with_reducible refine Kd.C_alloc ?_ _) | (with_reducible refine Kd.C_drewN ?_ _) | (with_reducible refine Kd.C_drew ?_)))
                                          (case aB => exact (by repeat (first | (with_reducible first | exact HB.out | apply below_alloc | apply pw_below_drewN | apply below_drew1) | exact HB.out)))
                                          (case aF => exact (fun k_ hk => ⟨Kd.fresh' (Kd.R_lt (by (with_reducible repeat (first | apply Kd.R_alloc | apply Kd.R_drewN | apply Kd.R_drew)); exact HO_3.out)) k_ hk, Kd.fresh' (Kd.R_lt (by (with_reducible repeat (first | apply Kd.R_alloc | apply Kd.R_drewN | apply Kd.R_drew)); exact HO146.out)) k_ hk⟩))
                                          (case aO => exact (by (with_reducible repeat (first | apply Kd.R_alloc | apply Kd.R_drewN | apply Kd.R_drew)); exact Kd.R_mono HO135.out (fun _ hk => ⟨hk.1.2, hk.2⟩)))
                                          (case aS => exact (below_size (by repeat (first | (with_reducible first | exact HB.out | apply below_alloc | apply pw_below_drewN | apply below_drew1) | exact HB.out))))
                                          (case aL => have := LMc41.out; first | omega | exact this | exact Nat.le_of_lt this)
                                          intro v141 w57 ho hb hg hat
                                          rw [← Ny140.out] at ho
                                          have n0_ := Aside0.mk (Kd.R_after (ok := (fun k_ => some k_ ≠ (v145 : Value).ownBlock)) (by (with_reducible repeat (first | apply Kd.R_alloc | apply Kd.R_drewN | apply Kd.R_drew)); exact Kd.R_mono HO_3.out (fun _ hk => ⟨hk.2, hk.1.2⟩)) hg hat)
                                          have n1_ := Aside0.mk (Kd.R_after (ok := (fun k_ => some k_ ≠ (.slice Ao49 x3_1.length co49 : Value).ownBlock)) (by (with_reducible repeat (first | apply Kd.R_alloc | apply Kd.R_drewN | apply Kd.R_drew)); exact Kd.R_mono HO146.out (fun _ hk => ⟨hk.1.2, hk.2⟩)) hg hat)
                                          have n2_ := Aside0.mk (hb)
                                          have n3_ := Aside0.mk ((show Kd.C k37 w57 Ao49 y136.length y136 from by rw [Ny136.out]; exact Kd.C_take (m := (x7_3 : Int).toNat) ((Kd.R_reads' (Kd.R_after (ok := (fun k_ => some k_ ≠ (v145 : Value).ownBlock)) (by (with_reducible repeat (first | apply Kd.R_alloc | apply Kd.R_drewN | apply Kd.R_drew)); exact Kd.R_mono HO_3.out (fun _ hk => ⟨hk.2, hk.1.2⟩)) hg hat)).2.2) KL51.out))
                                          have n4_ := Aside0.mk ((show Kd.C k37 w57 A52 y150.length y150 from by rw [Ny150.out, KA52.out]; exact Kd.C_drop (m := (x7_3 : Int).toNat) (c := co49) ((Kd.R_reads' (Kd.R_after (ok := (fun k_ => some k_ ≠ (v145 : Value).ownBlock)) (by (with_reducible repeat (first | apply Kd.R_alloc | apply Kd.R_drewN | apply Kd.R_drew)); exact Kd.R_mono HO_3.out (fun _ hk => ⟨hk.2, hk.1.2⟩)) hg hat)).2.2) KL52.out ((Kd.R_reads' (Kd.R_after (ok := (fun k_ => some k_ ≠ (v145 : Value).ownBlock)) (by (with_reducible repeat (first | apply Kd.R_alloc | apply Kd.R_drewN | apply Kd.R_drew)); exact Kd.R_mono HO_3.out (fun _ hk => ⟨hk.2, hk.1.2⟩)) hg hat)).2.1)))
                                          have n5_ := Aside0.mk (ho)
                                          clear HO_3
                                          clear HO146
                                          clear HB
                                          clear HR139
                                          clear HR153
                                          clear HO135
                                          have HO_3 := n0_
                                          have HO146 := n1_
                                          have HB := n2_
                                          have HR139 := n3_
                                          have HR153 := n4_
                                          have HO142 := n5_
                                          clear n0_ n1_ n2_ n3_ n4_ n5_
                                          clear ho hb hg hat
                                          refine hK.out _ _ ⟨((HB.out.cell (World.block_lt_of_cell? w _ hw143_0)).trans hw143_0), ((HB.out.cell (World.block_lt_of_cell? w _ hw143_1)).trans hw143_1)⟩ (fun hHeld => ?_)
                                          clear hK K
                                          refine norm_ (a' := ?_) ?_ ?_
                                          rotate_left
                                          · show Act.put _ (some 60) _ = _
                                            simp only [Act.put, List.setIfInBounds_toArray, List.set_cons_zero, List.set_cons_succ, i64_w, i32_w]
                                            rfl
                                          exact norm_ (by simp only [putAll, Act.put, List.setIfInBounds_toArray, List.set_cons_zero, List.set_cons_succ]) (hCont (v134, v141, v145) _ ⟨hHeld, (by (with_reducible repeat (first | apply Kd.R_alloc | apply Kd.R_drewN | apply Kd.R_drew)); exact Kd.R_mono HO142.out (fun _ hk => ⟨hk.2, hk.1⟩)), (by (with_reducible repeat (first | apply Kd.R_alloc | apply Kd.R_drewN | apply Kd.R_drew)); exact Kd.R_mono HO146.out (fun _ hk => ⟨hk.2, hk.1⟩)), (by (with_reducible repeat (first | apply Kd.R_alloc | apply Kd.R_drewN | apply Kd.R_drew)); exact Kd.R_mono HO_3.out (fun _ hk => ⟨hk.2, hk.1⟩)), (by repeat (first | (with_reducible first | exact HB.out | apply below_alloc | apply pw_below_drewN | apply below_drew1) | exact HB.out))⟩)
                                      · skip
                                        refine Kd.R_lit_step k37 _ 37 ?hg (N := 65) ?hd (xs := ([(⟨(rd_T37 l0 x10_1).f0, (rd_T37 l0 x10_1).f1⟩ : S37)] : List (S37))) (inner := [.string ((rd_T37 l0 x10_1).f0), .string ((rd_T37 l0 x10_1).f1)]) (ok := fun _ => True) (okp := fun _ => True) ?hr ?hp (fun _ hk => hk) trivial (Below.refl _ _) (Nat.le_refl _) (by simp) ?_; (case hd => rfl); (case hg => rfl); (case hr => first | (go_simp; done) | (go_simp; rfl)); (case hp => exact (Reps.c2 (show Kd.M k37 _ _ _ (⟨(rd_T37 l0 x10_1).f0, (rd_T37 l0 x10_1).f1⟩ : S37) [.string ((rd_T37 l0 x10_1).f0), .string ((rd_T37 l0 x10_1).f1)] from (k37_mkM _ _ _ (⟨(rd_T37 l0 x10_1).f0, (rd_T37 l0 x10_1).f1⟩ : S37) )) (Reps.none _ _)))
                                        intro v145 w53 ho54 hb hg_ hnew_
                                        clear hg_ hnew_
                                        (first | rw [← Ny144.out] at ho54 | (simp only [Int.reduceToNat] at ho54; rw [← Ny144.out] at ho54))
                                        have n0_ := Aside0.mk (Kd.R_elder' (by (with_reducible repeat (first | apply Kd.R_alloc | apply Kd.R_drewN | apply Kd.R_drew)); exact HO_3.out) (Kd.R_base ho54) hb)
                                        have n1_ := Aside0.mk (Kd.R_lower (Kd.R_new' ho54 (Kd.R_lt (by (with_reducible repeat (first | apply Kd.R_alloc | apply Kd.R_drewN | apply Kd.R_drew)); exact HO_3.out))) (below_size (by repeat (first | (with_reducible first | exact HB.out | apply below_alloc | apply pw_below_drewN | apply below_drew1) | exact HB.out))))
                                        have n2_ := Aside0.mk (Kd.C_below (by repeat (first | (with_reducible exact HR139.out) | (with_reducible refine Kd.C_alloc ?_ _) | (with_reducible refine Kd.C_drewN ?_ _) | (with_reducible refine Kd.C_drew ?_) | exact HR139.out)) hb)
                                        have n3_ := Aside0.mk (Kd.C_below (by repeat (first | (with_reducible exact HR153.out) | (with_reducible refine Kd.C_alloc ?_ _) | (with_reducible refine Kd.C_drewN ?_ _) | (with_reducible refine Kd.C_drew ?_) | exact HR153.out)) hb)
                                        have n4_ := Aside0.mk (below_step (by repeat (first | (with_reducible first | exact HB.out | apply below_alloc | apply pw_below_drewN | apply below_drew1) | exact HB.out)) hb)
                                        clear HO_3
                                        clear HR139
                                        clear HR153
                                        clear HB
                                        have HO_3 := n0_
                                        have HO146 := n1_
                                        have HR139 := n2_
                                        have HR153 := n3_
                                        have HB := n4_
                                        clear n0_ n1_ n2_ n3_ n4_
                                        clear hb ho54
                                        refine hK.out _ _ ⟨((HB.out.cell (World.block_lt_of_cell? w _ hw143_0)).trans hw143_0), ((HB.out.cell (World.block_lt_of_cell? w _ hw143_1)).trans hw143_1)⟩ (fun hHeld => ?_)
                                        clear hK K
                                        refine norm_ (a' := ?_) ?_ ?_
                                        rotate_left
                                        · show Act.put _ (some 65) _ = _
                                          simp only [Act.put, List.setIfInBounds_toArray, List.set_cons_zero, List.set_cons_succ, i64_w, i32_w]
                                          rfl
                                        refine one_ (i := 0) (N := some 56) #[true, true, true, true, false, true, true, true, true, true, false, true, true, true, false, false] rfl rfl (one_of HT_.out (by kernel_rfl)) (by decide) (fun K hK => ?_)
                                        refine Kd.R_lit_step k37 _ 37 ?hg (N := 56) ?hd (xs := ([] : List (S37))) (inner := []) (ok := fun _ => True) (okp := fun _ => True) ?hr ?hp (fun _ hk => hk) trivial (Below.refl _ _) (Nat.le_refl _) (by simp) ?_; (case hd => rfl); (case hg => rfl); (case hr => first | (go_simp; done) | (go_simp; rfl)); (case hp => exact (Reps.none _ _))
                                        intro v134 w55 ho56 hb hg_ hnew_
                                        clear hg_ hnew_
                                        (first | rw [← Ny133.out] at ho56 | (simp only [Int.reduceToNat] at ho56; rw [← Ny133.out] at ho56))
                                        have n0_ := Aside0.mk (Kd.R_elder' (by (with_reducible repeat (first | apply Kd.R_alloc | apply Kd.R_drewN | apply Kd.R_drew)); exact HO_3.out) (Kd.R_base ho56) hb)
                                        have n1_ := Aside0.mk (Kd.R_elder' (by (with_reducible repeat (first | apply Kd.R_alloc | apply Kd.R_drewN | apply Kd.R_drew)); exact HO146.out) (Kd.R_base ho56) hb)
                                        have n2_ := Aside0.mk (Kd.R_lower (Kd.R_new' (Kd.R_new' ho56 (Kd.R_lt (by (with_reducible repeat (first | apply Kd.R_alloc | apply Kd.R_drewN | apply Kd.R_drew)); exact HO_3.out))) (Kd.R_lt (by (with_reducible repeat (first | apply Kd.R_alloc | apply Kd.R_drewN | apply Kd.R_drew)); exact HO146.out))) (below_size (by repeat (first | (with_reducible first | exact HB.out | apply below_alloc | apply pw_below_drewN | apply below_drew1) | exact HB.out))))
                                        have n3_ := Aside0.mk (Kd.C_below (by repeat (first | (with_reducible exact HR139.out) | (with_reducible refine Kd.C_alloc ?_ _) | (with_reducible refine Kd.C_drewN ?_ _) | (with_reducible refine Kd.C_drew ?_) | exact HR139.out)) hb)
                                        have n4_ := Aside0.mk (Kd.C_below (by repeat (first | (with_reducible exact HR153.out) | (with_reducible refine Kd.C_alloc ?_ _) | (with_reducible refine Kd.C_drewN ?_ _) | (with_reducible refine Kd.C_drew ?_) | exact HR153.out)) hb)
                                        have n5_ := Aside0.mk (below_step (by repeat (first | (with_reducible first | exact HB.out | apply below_alloc | apply pw_below_drewN | apply below_drew1) | exact HB.out)) hb)
                                        clear HO_3
                                        clear HO146
                                        clear HR139
                                        clear HR153
                                        clear HB
                                        have HO_3 := n0_
                                        have HO146 := n1_
                                        have HO135 := n2_
                                        have HR139 := n3_
                                        have HR153 := n4_
                                        have HB := n5_
                                        clear n0_ n1_ n2_ n3_ n4_ n5_
                                        clear hb ho56
                                        refine hK.out _ _ ⟨((HB.out.cell (World.block_lt_of_cell? w _ hw143_0)).trans hw143_0), ((HB.out.cell (World.block_lt_of_cell? w _ hw143_1)).trans hw143_1)⟩ (fun hHeld => ?_)
                                        clear hK K
                                        refine norm_ (a' := ?_) ?_ ?_
                                        rotate_left
                                        · show Act.put _ (some 56) _ = _
                                          simp only [Act.put, List.setIfInBounds_toArray, List.set_cons_zero, List.set_cons_succ, i64_w, i32_w]
                                          rfl
                                        refine one_ (i := 4) (N := some 60) #[true, true, true, true, true, true, true, true, true, true, false, true, true, true, false, false] rfl rfl (one_of HT_.out (by kernel_rfl)) (by decide) (fun K hK => ?_)
                                        refine Kd.R_append_rows_step k37 (w0 := w) w.heap.size (by rfl) (.tmp 56) (.tmp 59) 34 37 (.agg #[(.string ⟨#[]⟩), (.string ⟨#[]⟩)]) 32 rfl Try.underlying34 info37 rfl (by decide) (by omega) v134 y133 y136 _ _ _ (fun k_ => some k_ ≠ (.slice Ao49 x3_1.length co49 : Value).ownBlock ∧ some k_ ≠ (v145 : Value).ownBlock) (fun _ => False) rfl rfl ?aO ?aR (fun _ _ h => h) (fun _ h => h.elim) ?aF ?aB ?aS ?aL ?_
                                        (case aR => repeat (first | exact (by repeat (first | (with_reducible exact HR139.out) | (with_reducible refine Kd.C_alloc ?_ _) | (with_reducible refine Kd.C_drewN ?_ _) | (with_reducible refine Kd.C_drew ?_) | exact HR139.out)) | (with_reducible refine Kd.C_alloc ?_ _) | (with_reducible refine Kd.C_drewN ?_ _) | (with_reducible refine Kd.C_drew ?_)))
                                        (case aB => exact (by repeat (first | (with_reducible first | exact HB.out | apply below_alloc | apply pw_below_drewN | apply below_drew1) | exact HB.out)))
                                        (case aF => exact (fun k_ hk => ⟨Kd.fresh' (Kd.R_lt (by (with_reducible repeat (first | apply Kd.R_alloc | apply Kd.R_drewN | apply Kd.R_drew)); exact HO_3.out)) k_ hk, Kd.fresh' (Kd.R_lt (by (with_reducible repeat (first | apply Kd.R_alloc | apply Kd.R_drewN | apply Kd.R_drew)); exact HO146.out)) k_ hk⟩))
                                        (case aO => exact (by (with_reducible repeat (first | apply Kd.R_alloc | apply Kd.R_drewN | apply Kd.R_drew)); exact Kd.R_mono HO135.out (fun _ hk => ⟨hk.1.2, hk.2⟩)))
                                        (case aS => exact (below_size (by repeat (first | (with_reducible first | exact HB.out | apply below_alloc | apply pw_below_drewN | apply below_drew1) | exact HB.out))))
                                        (case aL => have := LMc41.out; first | omega | exact this | exact Nat.le_of_lt this)
                                        intro v141 w57 ho hb hg hat
                                        rw [← Ny140.out] at ho
                                        have n0_ := Aside0.mk (Kd.R_after (ok := (fun k_ => some k_ ≠ (v145 : Value).ownBlock)) (by (with_reducible repeat (first | apply Kd.R_alloc | apply Kd.R_drewN | apply Kd.R_drew)); exact Kd.R_mono HO_3.out (fun _ hk => ⟨hk.1.2, hk.2⟩)) hg hat)
                                        have n1_ := Aside0.mk (Kd.R_after (ok := (fun k_ => some k_ ≠ (.slice Ao49 x3_1.length co49 : Value).ownBlock)) (by (with_reducible repeat (first | apply Kd.R_alloc | apply Kd.R_drewN | apply Kd.R_drew)); exact Kd.R_mono HO146.out (fun _ hk => ⟨hk.1.2, hk.2⟩)) hg hat)
                                        have n2_ := Aside0.mk (hb)
                                        have n3_ := Aside0.mk ((show Kd.C k37 w57 Ao49 y136.length y136 from by rw [Ny136.out]; exact Kd.C_take (m := (x7_3 : Int).toNat) ((Kd.R_reads' (Kd.R_after (ok := (fun k_ => some k_ ≠ (v145 : Value).ownBlock)) (by (with_reducible repeat (first | apply Kd.R_alloc | apply Kd.R_drewN | apply Kd.R_drew)); exact Kd.R_mono HO_3.out (fun _ hk => ⟨hk.1.2, hk.2⟩)) hg hat)).2.2) KL51.out))
                                        have n4_ := Aside0.mk ((show Kd.C k37 w57 A52 y150.length y150 from by rw [Ny150.out, KA52.out]; exact Kd.C_drop (m := (x7_3 : Int).toNat) (c := co49) ((Kd.R_reads' (Kd.R_after (ok := (fun k_ => some k_ ≠ (v145 : Value).ownBlock)) (by (with_reducible repeat (first | apply Kd.R_alloc | apply Kd.R_drewN | apply Kd.R_drew)); exact Kd.R_mono HO_3.out (fun _ hk => ⟨hk.1.2, hk.2⟩)) hg hat)).2.2) KL52.out ((Kd.R_reads' (Kd.R_after (ok := (fun k_ => some k_ ≠ (v145 : Value).ownBlock)) (by (with_reducible repeat (first | apply Kd.R_alloc | apply Kd.R_drewN | apply Kd.R_drew)); exact Kd.R_mono HO_3.out (fun _ hk => ⟨hk.1.2, hk.2⟩)) hg hat)).2.1)))
                                        have n5_ := Aside0.mk (ho)
                                        clear HO_3
                                        clear HO146
                                        clear HB
                                        clear HR139
                                        clear HR153
                                        clear HO135
                                        have HO_3 := n0_
                                        have HO146 := n1_
                                        have HB := n2_
                                        have HR139 := n3_
                                        have HR153 := n4_
                                        have HO142 := n5_
                                        clear n0_ n1_ n2_ n3_ n4_ n5_
                                        clear ho hb hg hat
                                        refine hK.out _ _ ⟨((HB.out.cell (World.block_lt_of_cell? w _ hw143_0)).trans hw143_0), ((HB.out.cell (World.block_lt_of_cell? w _ hw143_1)).trans hw143_1)⟩ (fun hHeld => ?_)
                                        clear hK K
                                        refine norm_ (a' := ?_) ?_ ?_
                                        rotate_left
                                        · show Act.put _ (some 60) _ = _
                                          simp only [Act.put, List.setIfInBounds_toArray, List.set_cons_zero, List.set_cons_succ, i64_w, i32_w]
                                          rfl
                                        exact norm_ (by simp only [putAll, Act.put, List.setIfInBounds_toArray, List.set_cons_zero, List.set_cons_succ]) (hCont (v134, v141, v145) _ ⟨hHeld, (by (with_reducible repeat (first | apply Kd.R_alloc | apply Kd.R_drewN | apply Kd.R_drew)); exact Kd.R_mono HO142.out (fun _ hk => ⟨hk.2, hk.1⟩)), (by (with_reducible repeat (first | apply Kd.R_alloc | apply Kd.R_drewN | apply Kd.R_drew)); exact Kd.R_mono HO146.out (fun _ hk => ⟨hk.2, hk.1⟩)), (by (with_reducible repeat (first | apply Kd.R_alloc | apply Kd.R_drewN | apply Kd.R_drew)); exact Kd.R_mono HO_3.out (fun _ hk => ⟨hk.2, hk.1⟩)), (by repeat (first | (with_reducible first | exact HB.out | apply below_alloc | apply pw_below_drewN | apply below_drew1) | exact HB.out))⟩)
                                    rintro ⟨v134, v141, v145⟩ w58 ⟨hS_, h0_, h1_, h2_, h3_⟩
                                    have n0_ : Aside0 (Kd.R k37 37 w58 w.heap.size (fun k_ => some k_ ≠ (v145 : Value).ownBlock ∧ some k_ ≠ (.slice Ao49 x3_1.length co49 : Value).ownBlock) v141 y140) := ⟨h0_⟩
                                    have n1_ : Aside0 (Kd.R k37 37 w58 w.heap.size (fun k_ => some k_ ≠ (v141 : Value).ownBlock ∧ some k_ ≠ (.slice Ao49 x3_1.length co49 : Value).ownBlock) v145 y144) := ⟨h1_⟩
                                    have n2_ : Aside0 (Kd.R k37 37 w58 w.heap.size (fun k_ => some k_ ≠ (v141 : Value).ownBlock ∧ some k_ ≠ (v145 : Value).ownBlock) (.slice Ao49 x3_1.length co49) x3_1) := ⟨h2_⟩
                                    have n3_ : Aside0 (Below w.heap.size w w58) := ⟨h3_⟩
                                    clear HO_3
                                    clear HB
                                    clear h0_ h1_ h2_ h3_
                                    have HO142 := n0_
                                    have HO146 := n1_
                                    have HO_3 := n2_
                                    have HB := n3_
                                    clear n0_ n1_ n2_ n3_
                                    have hHeld : w58.cell? (ad143.add ((x10_1).toNat * 2)) = some (.string ((rd_T37 l0 x10_1).f0)) ∧ w58.cell? ⟨(ad143.add ((x10_1).toNat * 2)).block, (ad143.add ((x10_1).toNat * 2)).off + 1, none⟩ = some (.string ((rd_T37 l0 x10_1).f1)) := hS_
                                    have HR139 := Aside0.mk (show Kd.C k37 w58 Ao49 y136.length y136 from by rw [Ny136.out]; exact Kd.C_take (m := (x7_3 : Int).toNat) ((Kd.R_reads' (HO_3.out)).2.2) KL51.out)
                                    have HR153 := Aside0.mk (show Kd.C k37 w58 A52 y150.length y150 from by rw [Ny150.out, KA52.out]; exact Kd.C_drop (m := (x7_3 : Int).toNat) (c := co49) ((Kd.R_reads' (HO_3.out)).2.2) KL52.out ((Kd.R_reads' (HO_3.out)).2.1))
                                    obtain ⟨Ao60, co60, eo60⟩ := Kd.R_slice HO146.out
                                    (first | subst eo60 | (injection eo60 with f1_ f2_ f3_; have f4_ := f1_.symm; have f5_ := f3_.symm; clear f1_ f2_ f3_; subst f4_; subst f5_))
                                    refine norm_ (a' := ?_) ?_ ?_
                                    rotate_left
                                    · simp only [putAll, Act.put, List.setIfInBounds_toArray, List.set_cons_zero, List.set_cons_succ]
                                      rfl
                                    refine one_ (i := 10) (N := some 66) #[true, true, true, true, true, true, true, true, true, true, true, true, true, true, false, false] rfl rfl (one_of HT_.out (by kernel_rfl)) (by decide) (fun K hK => ?_)
                                    refine Kd.R_append_rows_step k37 (w0 := w) w.heap.size (by rfl) (.tmp 60) (.tmp 65) 34 37 (.agg #[(.string ⟨#[]⟩), (.string ⟨#[]⟩)]) 32 rfl Try.underlying34 info37 rfl (by decide) (by omega) v141 y140 y144 _ _ _ (fun k_ => some k_ ≠ (.slice Ao49 x3_1.length co49 : Value).ownBlock ∧ some k_ ≠ (.slice Ao60 y144.length co60 : Value).ownBlock) (fun _ => False) rfl rfl ?aO ?aR (fun _ _ h => h) (fun _ h => h.elim) ?aF ?aB ?aS ?aL ?_
                                    (case aR => repeat (first | exact (Kd.R_reads' HO146.out).2.2 | (with_reducible refine Kd.C_alloc ?_ _) | (with_reducible refine Kd.C_drewN ?_ _) | (with_reducible refine Kd.C_drew ?_)))
                                    (case aB => exact (by repeat (first | (with_reducible first | exact HB.out | apply below_alloc | apply pw_below_drewN | apply below_drew1) | exact HB.out)))
                                    (case aF => exact (fun k_ hk => ⟨Kd.fresh' (Kd.R_lt (by (with_reducible repeat (first | apply Kd.R_alloc | apply Kd.R_drewN | apply Kd.R_drew)); exact HO_3.out)) k_ hk, Kd.fresh' (Kd.R_lt (by (with_reducible repeat (first | apply Kd.R_alloc | apply Kd.R_drewN | apply Kd.R_drew)); exact HO146.out)) k_ hk⟩))
                                    (case aO => exact (by (with_reducible repeat (first | apply Kd.R_alloc | apply Kd.R_drewN | apply Kd.R_drew)); exact Kd.R_mono HO142.out (fun _ hk => ⟨hk.2, hk.1⟩)))
                                    (case aS => exact (below_size (by repeat (first | (with_reducible first | exact HB.out | apply below_alloc | apply pw_below_drewN | apply below_drew1) | exact HB.out))))
                                    (case aL => have := LMc44.out; first | omega | exact this | exact Nat.le_of_lt this)
                                    intro v148 w59 ho hb hg hat
                                    rw [← Ny147.out] at ho
                                    have n0_ := Aside0.mk (Kd.R_after (ok := (fun k_ => some k_ ≠ (.slice Ao60 y144.length co60 : Value).ownBlock)) (by (with_reducible repeat (first | apply Kd.R_alloc | apply Kd.R_drewN | apply Kd.R_drew)); exact Kd.R_mono HO_3.out (fun _ hk => ⟨hk.2, hk.1⟩)) hg hat)
                                    have n1_ := Aside0.mk (Kd.R_after (ok := (fun k_ => some k_ ≠ (.slice Ao49 x3_1.length co49 : Value).ownBlock)) (by (with_reducible repeat (first | apply Kd.R_alloc | apply Kd.R_drewN | apply Kd.R_drew)); exact Kd.R_mono HO146.out (fun _ hk => ⟨hk.2, hk.1⟩)) hg hat)
                                    have n2_ := Aside0.mk (hb)
                                    have n3_ := Aside0.mk ((show Kd.C k37 w59 Ao49 y136.length y136 from by rw [Ny136.out]; exact Kd.C_take (m := (x7_3 : Int).toNat) ((Kd.R_reads' (Kd.R_after (ok := (fun k_ => some k_ ≠ (.slice Ao60 y144.length co60 : Value).ownBlock)) (by (with_reducible repeat (first | apply Kd.R_alloc | apply Kd.R_drewN | apply Kd.R_drew)); exact Kd.R_mono HO_3.out (fun _ hk => ⟨hk.2, hk.1⟩)) hg hat)).2.2) KL51.out))
                                    have n4_ := Aside0.mk ((show Kd.C k37 w59 A52 y150.length y150 from by rw [Ny150.out, KA52.out]; exact Kd.C_drop (m := (x7_3 : Int).toNat) (c := co49) ((Kd.R_reads' (Kd.R_after (ok := (fun k_ => some k_ ≠ (.slice Ao60 y144.length co60 : Value).ownBlock)) (by (with_reducible repeat (first | apply Kd.R_alloc | apply Kd.R_drewN | apply Kd.R_drew)); exact Kd.R_mono HO_3.out (fun _ hk => ⟨hk.2, hk.1⟩)) hg hat)).2.2) KL52.out ((Kd.R_reads' (Kd.R_after (ok := (fun k_ => some k_ ≠ (.slice Ao60 y144.length co60 : Value).ownBlock)) (by (with_reducible repeat (first | apply Kd.R_alloc | apply Kd.R_drewN | apply Kd.R_drew)); exact Kd.R_mono HO_3.out (fun _ hk => ⟨hk.2, hk.1⟩)) hg hat)).2.1)))
                                    have n5_ := Aside0.mk (ho)
                                    clear HO_3
                                    clear HO146
                                    clear HB
                                    clear HR139
                                    clear HR153
                                    clear HO142
                                    have HO_3 := n0_
                                    have HO146 := n1_
                                    have HB := n2_
                                    have HR139 := n3_
                                    have HR153 := n4_
                                    have HO149 := n5_
                                    clear n0_ n1_ n2_ n3_ n4_ n5_
                                    clear ho hb hg hat
                                    refine hK.out _ _ ⟨((HB.out.cell (World.block_lt_of_cell? w _ hw143_0)).trans hw143_0), ((HB.out.cell (World.block_lt_of_cell? w _ hw143_1)).trans hw143_1)⟩ (fun hHeld => ?_)
                                    clear hK K
                                    refine norm_ (a' := ?_) ?_ ?_
                                    rotate_left
                                    · show Act.put _ (some 66) _ = _
                                      simp only [Act.put, List.setIfInBounds_toArray, List.set_cons_zero, List.set_cons_succ, i64_w, i32_w]
                                      rfl
                                    refine one_ (i := 14) (N := some 70) #[true, true, true, true, true, true, true, true, true, true, true, true, true, true, true, false] rfl rfl (one_of HT_.out (by kernel_rfl)) (by decide) (fun K hK => ?_)
                                    refine Kd.R_append_rows_step k37 (w0 := w) w.heap.size (by rfl) (.tmp 66) (.tmp 69) 34 37 (.agg #[(.string ⟨#[]⟩), (.string ⟨#[]⟩)]) 32 rfl Try.underlying34 info37 rfl (by decide) (by omega) v148 y147 y150 _ _ _ (fun k_ => some k_ ≠ (.slice Ao49 x3_1.length co49 : Value).ownBlock ∧ some k_ ≠ (.slice Ao60 y144.length co60 : Value).ownBlock) (fun _ => False) rfl rfl ?aO ?aR (fun _ _ h => h) (fun _ h => h.elim) ?aF ?aB ?aS ?aL ?_
                                    (case aR => repeat (first | exact (by repeat (first | (with_reducible exact HR153.out) | (with_reducible refine Kd.C_alloc ?_ _) | (with_reducible refine Kd.C_drewN ?_ _) | (with_reducible refine Kd.C_drew ?_) | exact HR153.out)) | (with_reducible refine Kd.C_alloc ?_ _) | (with_reducible refine Kd.C_drewN ?_ _) | (with_reducible refine Kd.C_drew ?_)))
                                    (case aB => exact (by repeat (first | (with_reducible first | exact HB.out | apply below_alloc | apply pw_below_drewN | apply below_drew1) | exact HB.out)))
                                    (case aF => exact (fun k_ hk => ⟨Kd.fresh' (Kd.R_lt (by (with_reducible repeat (first | apply Kd.R_alloc | apply Kd.R_drewN | apply Kd.R_drew)); exact HO_3.out)) k_ hk, Kd.fresh' (Kd.R_lt (by (with_reducible repeat (first | apply Kd.R_alloc | apply Kd.R_drewN | apply Kd.R_drew)); exact HO146.out)) k_ hk⟩))
                                    (case aO => exact (by (with_reducible repeat (first | apply Kd.R_alloc | apply Kd.R_drewN | apply Kd.R_drew)); exact HO149.out))
                                    (case aS => exact (below_size (by repeat (first | (with_reducible first | exact HB.out | apply below_alloc | apply pw_below_drewN | apply below_drew1) | exact HB.out))))
                                    (case aL => have := LMc47.out; first | omega | exact this | exact Nat.le_of_lt this)
                                    intro v155 w61 ho hb hg hat
                                    rw [← Ny154.out] at ho
                                    have n0_ := Aside0.mk (Kd.R_after (ok := (fun k_ => some k_ ≠ (.slice Ao60 y144.length co60 : Value).ownBlock)) (by (with_reducible repeat (first | apply Kd.R_alloc | apply Kd.R_drewN | apply Kd.R_drew)); exact HO_3.out) hg hat)
                                    have n1_ := Aside0.mk (Kd.R_after (ok := (fun k_ => some k_ ≠ (.slice Ao49 x3_1.length co49 : Value).ownBlock)) (by (with_reducible repeat (first | apply Kd.R_alloc | apply Kd.R_drewN | apply Kd.R_drew)); exact HO146.out) hg hat)
                                    have n2_ := Aside0.mk (hb)
                                    have n3_ := Aside0.mk ((show Kd.C k37 w61 Ao49 y136.length y136 from by rw [Ny136.out]; exact Kd.C_take (m := (x7_3 : Int).toNat) ((Kd.R_reads' (Kd.R_after (ok := (fun k_ => some k_ ≠ (.slice Ao60 y144.length co60 : Value).ownBlock)) (by (with_reducible repeat (first | apply Kd.R_alloc | apply Kd.R_drewN | apply Kd.R_drew)); exact HO_3.out) hg hat)).2.2) KL51.out))
                                    have n4_ := Aside0.mk ((show Kd.C k37 w61 A52 y150.length y150 from by rw [Ny150.out, KA52.out]; exact Kd.C_drop (m := (x7_3 : Int).toNat) (c := co49) ((Kd.R_reads' (Kd.R_after (ok := (fun k_ => some k_ ≠ (.slice Ao60 y144.length co60 : Value).ownBlock)) (by (with_reducible repeat (first | apply Kd.R_alloc | apply Kd.R_drewN | apply Kd.R_drew)); exact HO_3.out) hg hat)).2.2) KL52.out ((Kd.R_reads' (Kd.R_after (ok := (fun k_ => some k_ ≠ (.slice Ao60 y144.length co60 : Value).ownBlock)) (by (with_reducible repeat (first | apply Kd.R_alloc | apply Kd.R_drewN | apply Kd.R_drew)); exact HO_3.out) hg hat)).2.1)))
                                    have n5_ := Aside0.mk (ho)
                                    clear HO_3
                                    clear HO146
                                    clear HB
                                    clear HR139
                                    clear HR153
                                    clear HO149
                                    have HO_3 := n0_
                                    have HO146 := n1_
                                    have HB := n2_
                                    have HR139 := n3_
                                    have HR153 := n4_
                                    have HO156 := n5_
                                    clear n0_ n1_ n2_ n3_ n4_ n5_
                                    clear ho hb hg hat
                                    refine hK.out _ _ ⟨((HB.out.cell (World.block_lt_of_cell? w _ hw143_0)).trans hw143_0), ((HB.out.cell (World.block_lt_of_cell? w _ hw143_1)).trans hw143_1)⟩ (fun hHeld => ?_)
                                    clear hK K
                                    refine norm_ (a' := ?_) ?_ ?_
                                    rotate_left
                                    · show Act.put _ (some 70) _ = _
                                      simp only [Act.put, List.setIfInBounds_toArray, List.set_cons_zero, List.set_cons_succ, i64_w, i32_w]
                                      rfl
                                    refine pure_ (i := 15) (N := some 3) (v := ?_) (a' := ?_) #[true, true, true, true, true, true, true, true, true, true, true, true, true, true, true, true] rfl rfl (any_of HT_.out (by kernel_rfl)) (fun _ _ _ h => h) (Or.inl ⟨by rfl, ?_⟩) ?_ ?_
                                    rotate_left
                                    · intro w'
                                      go_simp
                                      with_reducible rfl
                                    rotate_left
                                    · simp only [Act.put, List.setIfInBounds_toArray, List.set_cons_zero, List.set_cons_succ, i64_w, i32_w]
                                      rfl
                                    refine done_ (done_of HT_.out (by kernel_rfl)) ?_
                                    try go_wp2
                                    go_roundg k3
                                    case measure => have := HK1.out; have := HK2.out; have := HK3.out; omega
                                    case rel => exact ⟨(y154), (wrap64 (x10_1 + 1)), (by first | rfl | (simp; done) | (simp [*]; done)), H', ⟨by have := HK1.out; have := HK2.out; have := HK3.out; omega⟩, ⟨by (with_reducible repeat (first | apply Kd.R_alloc | apply Kd.R_drewN | apply Kd.R_drew)); exact Kd.R_mono HO156.out (fun _ hk => trivial)⟩, ⟨by repeat (first | (with_reducible first | exact HB.out | apply below_alloc | apply pw_below_drewN | apply below_drew1) | exact HB.out)⟩⟩
                                  · rw [if_neg c47] at H
                                    exact absurd H (by simp)
                                · rw [if_neg c44] at H
                                  exact absurd H (by simp)
                              · rw [if_neg c43] at H
                                exact absurd H (by simp)
                            · rw [if_neg c42] at H
                              exact absurd H (by simp)
                          · rw [if_neg c41] at H
                            exact absurd H (by simp)
                        · rw [if_neg c40] at H
                          exact absurd H (by simp)
                      · rw [if_neg c39] at H
                        exact absurd H (by simp)
              · replace c10 := Bool.eq_false_iff.mpr c10
                subst c10
                have H1 : (spec_Set.l0 k2 l0 x3_1 (l0.length : Int) (wrap64 (x10_1 + 1))) = some r := by rw [if_neg (show ¬ (false = true) by decide)] at H; exact H
                clear H
                have H := H1
                clear H1
                have H' := Aside0.mk H
                clear H
                go_wp2
                go_roundg k2
                case measure => have := HK1.out; have := HK2.out; omega
                case rel => exact ⟨(x3_1), (wrap64 (x10_1 + 1)), (by first | rfl | (simp; done) | (simp [*]; done)), H', ⟨by have := HK1.out; have := HK2.out; omega⟩, ⟨by (with_reducible repeat (first | apply Kd.R_alloc | apply Kd.R_drewN | apply Kd.R_drew)); exact HO_3.out⟩, ⟨by repeat (first | (with_reducible first | exact HB.out | apply below_alloc | apply pw_below_drewN | apply below_drew1) | exact HB.out)⟩⟩
      · rw [if_neg c2] at H
        have c2b0 : decide (x10_1 < (l0.length : Int)) = false := decide_eq_false c2
        clear c2
        obtain rfl := Option.some.inj H
        go_wp2
        go_ret
        exact ⟨_, by first | rfl | (simp [errW_none, errW_some] <;> rfl) | (simp [*, errW_none, errW_some] <;> rfl), by (with_reducible repeat (first | apply Kd.R_alloc | apply Kd.R_drewN | apply Kd.R_drew)); exact HO_3.out, by repeat (first | (with_reducible first | exact HB.out | apply below_alloc | apply pw_below_drewN | apply below_drew1) | exact HB.out)⟩

end Go.Proofs.Ytcneoonhdfblaaa.Q
