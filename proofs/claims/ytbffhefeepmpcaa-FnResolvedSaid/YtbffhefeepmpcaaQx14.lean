-- printed by this project's own program wip/tools/mkprint.py (the kit's print.py with hand-proved contracts put in)
import Derived.Test.YtbffhefeepmpcaaQx0
import Derived.Test.YtbffhefeepmpcaaQx13
namespace Go.Proofs.Ytbffhefeepmpcaa.Q
open Go.RowKit Go.Proofs.YtbffhefeepmpcaaW.PrintWords Go.Proofs.YtbffhefeepmpcaaW.PrintLast Go.Proofs.YtbffhefeepmpcaaW.PrintMore
attribute [local go_sem] max2_int min2_int max_two min_two max_three min_three max_four min_four   -- for this text's walks alone
set_option linter.unusedVariables false
set_option linter.unusedSimpArgs false

/-! ### spec_MatchAll: function 33 -/
def spec_MatchAll.l0 : Nat → List (S40) → List (S50) → Int → Int → Int → Option (Int)
  | 0, _, _, _, _, _ => none
  | k + 1, x0, x1, x5, x9, x10 => if x10 < x9 then (if 0 ≤ x10 then (if x10 < (x0.length : Int) then ((spec_Value.f k x1 ((rd_T40 x0 x10).f1)).bind fun t292 => ((spec_MatchValue.f k ((rd_T40 x0 x10).f0) ((rd_T40 x0 x10).f1) ((rd_T40 x0 x10).f2) t292).bind fun t293 => (if t293 = 0 then (some 0) else (if t293 = 2 then (spec_MatchAll.l0 k x0 x1 2 x9 (wrap64 (x10 + 1))) else (spec_MatchAll.l0 k x0 x1 x5 x9 (wrap64 (x10 + 1))))))) else (none)) else (none)) else (some x5)
def spec_MatchAll.f (k : Nat) (l0 : List (S40)) (l1 : List (S50)) : Option (Int) := spec_MatchAll.l0 k l0 l1 1 (l0.length : Int) 0
theorem spec_MatchAll.mono_l : ∀ k, (∀ y0 y1 y2 y3 y4, LeO (spec_MatchAll.l0 k y0 y1 y2 y3 y4) (spec_MatchAll.l0 (k + 1) y0 y1 y2 y3 y4))
  | 0 => fun _ _ _ _ _ r h => by simp [spec_MatchAll.l0] at h
  | k + 1 => by
    have ih0 := spec_MatchAll.mono_l k
    · intro y0 y1 y2 y3 y4
      unfold spec_MatchAll.l0
      repeat' first
      | (with_reducible exact ih0 _ _ _ _ _)
      | (with_reducible exact spec_MatchValue.mono _ _ _ _ _)
      | (with_reducible exact spec_Value.mono _ _ _)
      | (with_reducible exact LeO.refl _)
      | (with_reducible exact LeO.none _)
      | (with_reducible refine LeO.ite ?_ ?_)
      | (with_reducible refine LeO.bind ?_ (fun _ => ?_))
      | exact ih0 _ _ _ _ _
      | exact spec_MatchValue.mono _ _ _ _ _
      | exact spec_Value.mono _ _ _
      | exact LeO.none _
      | refine LeO.ite ?_ ?_
      | refine LeO.bind ?_ (fun _ => ?_)
theorem spec_MatchAll.mono : ∀ a0 a1 k, LeO (spec_MatchAll.f k a0 a1) (spec_MatchAll.f (k + 1) a0 a1) := by
  intro a0 a1 k
  have ih0 := spec_MatchAll.mono_l k
  unfold spec_MatchAll.f
  repeat' first
      | (with_reducible exact ih0 _ _ _ _ _)
      | (with_reducible exact spec_MatchValue.mono _ _ _ _ _)
      | (with_reducible exact spec_Value.mono _ _ _)
      | (with_reducible exact LeO.refl _)
      | (with_reducible exact LeO.none _)
      | (with_reducible refine LeO.ite ?_ ?_)
      | (with_reducible refine LeO.bind ?_ (fun _ => ?_))
      | exact ih0 _ _ _ _ _
      | exact spec_MatchValue.mono _ _ _ _ _
      | exact spec_Value.mono _ _ _
      | exact LeO.none _
      | refine LeO.ite ?_ ?_
      | refine LeO.bind ?_ (fun _ => ?_)
def spec_MatchAll.T5 : Bool × List (List Nat × List Nat) := (true, [([], []), ([], []), ([0, 1], [0, 1]), ([2], [2]), ([], []), ([], []), ([], []), ([5, 6], [5, 6]), ([7], [7]), ([8], [8]), ([4, 9], [4, 9]), ([3, 10, 10], [3, 10]), ([11, 11, 0, 1, 2, 3, 4, 5, 6, 7, 8, 9, 10, 11], [11])])
def spec_MatchAll.B5 : List Nat := [0, 0, 3, 7, 0, 0, 0, 96, 224, 480, 1008, 2047, 4095]
theorem spec_MatchAll.tab5 : rtab .any (opsOf Try.f33 5) = spec_MatchAll.T5 := by kernel_rfl
theorem spec_MatchAll.bits5 : waitsOk spec_MatchAll.T5.2 spec_MatchAll.B5 = true := by kernel_rfl
set_option maxHeartbeats 8000000 in
set_option maxRecDepth 100000 in
theorem spec_MatchAll.calls (k : Nat) (A0 : Option Addr) (c0 : Nat) (l0 : List (S40)) (A1 : Option Addr) (c1 : Nat) (l1 : List (S50)) (r : Int) (w : World) (hr0 : Kd.C k40 w A0 l0.length l0) (hc0 : l0.length ≤ c0) (hr1 : Kd.C k50 w A1 l1.length l1) (hc1 : l1.length ≤ c1) (h : spec_MatchAll.f k l0 l1 = some r) :
    Calls Try.prog 33 #[.slice A0 l0.length c0, .slice A1 l1.length c1] w fun e w' => e = .returned (.int .i64 r) ∧ Below w.heap.size w w' := by
  have hu40 := Try.underlying40
  have HR0 := Aside0.mk hr0
  have HC0 := Aside0.mk hc0
  clear hr0 hc0
  have HR1 := Aside0.mk hr1
  have HC1 := Aside0.mk hc1
  clear hr1 hc1
  have HB := Aside0.mk (Below.refl w.heap.size w)
  have H : (spec_MatchAll.l0 k l0 l1 1 (l0.length : Int) 0) = some r := h
  clear h
  have H' := Aside0.mk H
  clear H
  go_enter Try.func33, Try.ntmps33
  go_wp2
  go_loopg [5, 10] k (fun kq v5 v10 w' => ∃ (x5_1 : Int) (x10_1 : Int), v5 = .int .i64 x5_1 ∧ v10 = .int .i64 x10_1 ∧ Aside0 (spec_MatchAll.l0 kq l0 l1 x5_1 (l0.length : Int) x10_1 = some r) ∧ Aside0 (kq ≤ k) ∧ Aside0 (Below w.heap.size w w'))
  case atStart => exact ⟨(1), (0), (by first | rfl | (simp; done) | (simp [*]; done)), (by first | rfl | (simp; done) | (simp [*]; done)), H', ⟨Nat.le_refl _⟩, ⟨by repeat (first | (with_reducible first | exact HB.out | apply below_alloc | apply pw_below_drewN | apply below_drew1) | exact HB.out)⟩⟩
  case round =>
    clear H'
    try clear c1
    try clear p2
    obtain ⟨x5_1, x10_1, rfl, rfl, HA, HK1, HB⟩ := hrel
    cases gk with
    | zero => exact absurd HA.out (by simp [spec_MatchAll.l0])
    | succ k1 =>
      have H := HA.out
      clear HA
      simp only [spec_MatchAll.l0] at H
      by_cases c3 : x10_1 < (l0.length : Int)
      · rw [if_pos c3] at H
        have c3b0 : decide (x10_1 < (l0.length : Int)) = true := decide_eq_true c3
        clear c3
        by_cases c4 : 0 ≤ x10_1
        · rw [if_pos c4] at H
          have c4b0 : decide (0 ≤ x10_1) = true := decide_eq_true c4
          clear c4
          by_cases c5 : x10_1 < (l0.length : Int)
          · rw [if_pos c5] at H
            have c5b0 : decide (x10_1 < (l0.length : Int)) = true := decide_eq_true c5
            clear c5
            replace H := Option.bind_eq_some_iff.mp H
            obtain ⟨t292, A60, H⟩ := H
            replace H : ((spec_MatchValue.f k1 ((rd_T40 l0 x10_1).f0) ((rd_T40 l0 x10_1).f1) ((rd_T40 l0 x10_1).f2) t292).bind fun t293 => (if t293 = 0 then (some 0) else (if t293 = 2 then (spec_MatchAll.l0 k1 l0 l1 2 (l0.length : Int) (wrap64 (x10_1 + 1))) else (spec_MatchAll.l0 k1 l0 l1 x5_1 (l0.length : Int) (wrap64 (x10_1 + 1)))))) = some r := H
            have A6 := Aside0.mk A60
            clear A60
            replace H := Option.bind_eq_some_iff.mp H
            obtain ⟨t293, A70, H⟩ := H
            replace H : (if t293 = 0 then (some 0) else (if t293 = 2 then (spec_MatchAll.l0 k1 l0 l1 2 (l0.length : Int) (wrap64 (x10_1 + 1))) else (spec_MatchAll.l0 k1 l0 l1 x5_1 (l0.length : Int) (wrap64 (x10_1 + 1))))) = some r := H
            have A7 := Aside0.mk A70
            clear A70
            by_cases c8 : t293 = 0
            · rw [if_pos c8] at H
              have c8b0 : (t293 == 0) = true := beq_iff_eq.mpr c8
              have c8b1 : (t293 != 0) = false := bne_eq_false_iff_eq.mpr c8
              clear c8
              obtain rfl := Option.some.inj H
              try go_wp2
              have n0_ := Aside0.mk (below_drew1 HB.out)
              clear HB
              have HB := n0_
              clear n0_
              have p290 : 0 ≤ (x10_1 : Int) := of_decide_eq_true (by first | (with_reducible assumption) | assumption)
              have q290 : x10_1 < (l0.length : Int) := of_decide_eq_true (by first | (with_reducible assumption) | assumption)
              obtain ⟨ad290, e290, hx290_0, hx290_1, hx290_2⟩ := at_T40 HR0.out x10_1 p290 q290
              have hw290_2 := hx290_2
              have hw290_1 := hx290_1
              have hw290_0 := hx290_0
              cases e290
              replace hx290_0 := (HB.out.cell (World.block_lt_of_cell? w _ hx290_0)).trans hx290_0
              replace hx290_1 := (HB.out.cell (World.block_lt_of_cell? w _ hx290_1)).trans hx290_1
              replace hx290_2 := (HB.out.cell (World.block_lt_of_cell? w _ hx290_2)).trans hx290_2
              replace p290 := eq_true p290
              replace q290 := eq_true q290
              have p291 : 0 ≤ (x10_1 : Int) := of_decide_eq_true (by first | (with_reducible assumption) | assumption)
              have q291 : x10_1 < (l0.length : Int) := of_decide_eq_true (by first | (with_reducible assumption) | assumption)
              obtain ⟨ad291, e291, hx291_0, hx291_1, hx291_2⟩ := at_T40 HR0.out x10_1 p291 q291
              have hw291_2 := hx291_2
              have hw291_1 := hx291_1
              have hw291_0 := hx291_0
              obtain rfl : ad290 = ad291 := (by injection e291)
              replace hx291_0 := (HB.out.cell (World.block_lt_of_cell? w _ hx291_0)).trans hx291_0
              replace hx291_1 := (HB.out.cell (World.block_lt_of_cell? w _ hx291_1)).trans hx291_1
              replace hx291_2 := (HB.out.cell (World.block_lt_of_cell? w _ hx291_2)).trans hx291_2
              replace p291 := eq_true p291
              replace q291 := eq_true q291
              refine start_ (n := 13) (S := fun w' => w'.cell? (ad290.add ((x10_1).toNat * 3)) = some (.int .i64 ((rd_T40 l0 x10_1).f0)) ∧ w'.cell? ⟨(ad290.add ((x10_1).toNat * 3)).block, (ad290.add ((x10_1).toNat * 3)).off + 1, none⟩ = some (.string ((rd_T40 l0 x10_1).f1)) ∧ w'.cell? ⟨(ad290.add ((x10_1).toNat * 3)).block, (ad290.add ((x10_1).toNat * 3)).off + 2, none⟩ = some (.string ((rd_T40 l0 x10_1).f2)) ∧ w'.cell? (ad290.add ((x10_1).toNat * 3)) = some (.int .i64 ((rd_T40 l0 x10_1).f0)) ∧ w'.cell? ⟨(ad290.add ((x10_1).toNat * 3)).block, (ad290.add ((x10_1).toNat * 3)).off + 1, none⟩ = some (.string ((rd_T40 l0 x10_1).f1)) ∧ w'.cell? ⟨(ad290.add ((x10_1).toNat * 3)).block, (ad290.add ((x10_1).toNat * 3)).off + 2, none⟩ = some (.string ((rd_T40 l0 x10_1).f2))) (ds := []) #[false, false, false, false, false, false, false, false, false, false, false, false, false] (by kernel_rfl) rfl rfl ⟨((HB.out.cell (World.block_lt_of_cell? w _ hw290_0)).trans hw290_0), ((HB.out.cell (World.block_lt_of_cell? w _ hw290_1)).trans hw290_1), ((HB.out.cell (World.block_lt_of_cell? w _ hw290_2)).trans hw290_2), ((HB.out.cell (World.block_lt_of_cell? w _ hw291_0)).trans hw291_0), ((HB.out.cell (World.block_lt_of_cell? w _ hw291_1)).trans hw291_1), ((HB.out.cell (World.block_lt_of_cell? w _ hw291_2)).trans hw291_2)⟩ (fun hHeld => ?_); refine with_tabW spec_MatchAll.tab5 spec_MatchAll.bits5 (fun HT_ HW_ => ?_)
              generalize wr.drew = w9 at HB hx290_0 hx290_1 hx290_2 hx291_0 hx291_1 hx291_2 hHeld ⊢
              refine pure_ (i := 0) (N := some 13) (v := ?_) (a' := ?_) #[true, false, false, false, false, false, false, false, false, false, false, false, false] rfl rfl (any_of HT_.out (by kernel_rfl)) (fun _ _ _ h => h) (Or.inl ⟨by rfl, ?_⟩) ?_ ?_
              rotate_left
              · intro w'
                go_simp
                with_reducible rfl
              rotate_left
              · simp only [Act.put, List.setIfInBounds_toArray, List.set_cons_zero, List.set_cons_succ, i64_w, i32_w]
                rfl
              refine pure_ (i := 1) (N := some 14) (v := ?_) (a' := ?_) #[true, true, false, false, false, false, false, false, false, false, false, false, false] rfl rfl (any_of HT_.out (by kernel_rfl)) (fun _ _ _ h => h) (Or.inl ⟨by rfl, ?_⟩) ?_ ?_
              rotate_left
              · intro w'
                go_simp
                with_reducible rfl
              rotate_left
              · simp only [Act.put, List.setIfInBounds_toArray, List.set_cons_zero, List.set_cons_succ, i64_w, i32_w]
                rfl
              refine pure_ (i := 2) (N := some 15) (v := ?_) (a' := ?_) #[true, true, true, false, false, false, false, false, false, false, false, false, false] rfl rfl (any_of HT_.out (by kernel_rfl)) (fun _ _ _ h => h) (Or.inl ⟨by rfl, ?_⟩) ?_ ?_
              rotate_left
              · intro w'
                go_simp
                with_reducible rfl
              rotate_left
              · simp only [Act.put, List.setIfInBounds_toArray, List.set_cons_zero, List.set_cons_succ, i64_w, i32_w]
                rfl
              refine pure_ (i := 4) (N := some 17) (v := ?_) (a' := ?_) #[true, true, true, false, true, false, false, false, false, false, false, false, false] rfl rfl (any_of HT_.out (by kernel_rfl)) (fun _ _ _ h => h) (Or.inl ⟨by rfl, ?_⟩) ?_ ?_
              rotate_left
              · intro w'
                go_simp
                with_reducible rfl
              rotate_left
              · simp only [Act.put, List.setIfInBounds_toArray, List.set_cons_zero, List.set_cons_succ, i64_w, i32_w]
                rfl
              refine pure_ (i := 5) (N := some 18) (v := ?_) (a' := ?_) #[true, true, true, false, true, true, false, false, false, false, false, false, false] rfl rfl (any_of HT_.out (by kernel_rfl)) (fun _ _ _ h => h) (Or.inl ⟨by rfl, ?_⟩) ?_ ?_
              rotate_left
              · intro w'
                go_simp
                with_reducible rfl
              rotate_left
              · simp only [Act.put, List.setIfInBounds_toArray, List.set_cons_zero, List.set_cons_succ, i64_w, i32_w]
                rfl
              refine pure_ (i := 6) (N := some 19) (v := ?_) (a' := ?_) #[true, true, true, false, true, true, true, false, false, false, false, false, false] rfl rfl (any_of HT_.out (by kernel_rfl)) (fun _ _ _ h => h) (Or.inl ⟨by rfl, ?_⟩) ?_ ?_
              rotate_left
              · intro w'
                go_simp
                with_reducible rfl
              rotate_left
              · simp only [Act.put, List.setIfInBounds_toArray, List.set_cons_zero, List.set_cons_succ, i64_w, i32_w]
                rfl
              refine pure_ (i := 7) (N := some 20) (v := ?_) (a' := ?_) #[true, true, true, false, true, true, true, true, false, false, false, false, false] rfl rfl (any_of HT_.out (by kernel_rfl)) (fun _ _ _ h => h) (Or.inl ⟨by rfl, ?_⟩) ?_ ?_
              rotate_left
              · intro w'
                go_simp
                with_reducible rfl
              rotate_left
              · simp only [Act.put, List.setIfInBounds_toArray, List.set_cons_zero, List.set_cons_succ, i64_w, i32_w]
                rfl
              refine pure_ (i := 8) (N := some 21) (v := ?_) (a' := ?_) #[true, true, true, false, true, true, true, true, true, false, false, false, false] rfl rfl (any_of HT_.out (by kernel_rfl)) (fun _ _ _ h => h) (Or.inl ⟨by rfl, ?_⟩) ?_ ?_
              rotate_left
              · intro w'
                go_simp
                with_reducible rfl
              rotate_left
              · simp only [Act.put, List.setIfInBounds_toArray, List.set_cons_zero, List.set_cons_succ, i64_w, i32_w]
                rfl
              refine take_ (i := 3) (N := some 16) (v := ?_) (a' := ?_) #[true, true, true, true, true, true, true, true, true, false, false, false, false] rfl rfl (take_ofW HT_.out HW_.out (by kernel_rfl)) (fun _ _ _ h => h) (Or.inl ⟨by rfl, ?_⟩) hHeld ?_ ?_
              rotate_left
              · rintro w' ⟨s0, s1, s2, s3, s4, s5⟩
                go_simp
                with_reducible rfl
              rotate_left
              · simp only [Act.put, List.setIfInBounds_toArray, List.set_cons_zero, List.set_cons_succ, i64_w, i32_w]
                rfl
              refine take_ (i := 9) (N := some 22) (v := ?_) (a' := ?_) #[true, true, true, true, true, true, true, true, true, true, false, false, false] rfl rfl (take_ofW HT_.out HW_.out (by kernel_rfl)) (fun _ _ _ h => h) (Or.inl ⟨by rfl, ?_⟩) hHeld ?_ ?_
              rotate_left
              · rintro w' ⟨s0, s1, s2, s3, s4, s5⟩
                go_simp
                with_reducible rfl
              rotate_left
              · simp only [Act.put, List.setIfInBounds_toArray, List.set_cons_zero, List.set_cons_succ, i64_w, i32_w]
                rfl
              refine one_ (i := 10) (N := some 23) #[true, true, true, true, true, true, true, true, true, true, true, false, false] rfl rfl (one_of HT_.out (by kernel_rfl)) (by decide) (fun K hK => ?_)
              refine goes_ Try.func60 (by kernel_rfl) rfl #[.slice A1 l1.length c1, .string ((rd_T40 l0 x10_1).f1)] (by rfl) rfl rfl (by (try simp only [List.map_toArray, List.map_cons, List.map_nil]); first | done | rfl | (simp only [List.length_drop, List.length_take]; rfl)) ?_
              with_reducible refine (spec_Value.calls k1 _ _ l1 ((rd_T40 l0 x10_1).f1) t292 _ ?side1 ?side2 A6.out).mono ?_
              (case side1 => repeat (first | exact (Kd.C_below HR1.out HB.out) | (with_reducible refine Kd.C_alloc ?_ _) | (with_reducible refine Kd.C_drewN ?_ _) | (with_reducible refine Kd.C_drew ?_)))
              (case side2 => exact HC1.out)
              rintro e w' ⟨rfl, ⟨nd, rfl⟩⟩
              refine ⟨_, rfl, ?_⟩
              refine hK.out _ _ ⟨((HB.out.cell (World.block_lt_of_cell? w _ hw290_0)).trans hw290_0), ((HB.out.cell (World.block_lt_of_cell? w _ hw290_1)).trans hw290_1), ((HB.out.cell (World.block_lt_of_cell? w _ hw290_2)).trans hw290_2), ((HB.out.cell (World.block_lt_of_cell? w _ hw291_0)).trans hw291_0), ((HB.out.cell (World.block_lt_of_cell? w _ hw291_1)).trans hw291_1), ((HB.out.cell (World.block_lt_of_cell? w _ hw291_2)).trans hw291_2)⟩ (fun hHeld => ?_)
              clear hK K
              refine norm_ (a' := ?_) ?_ ?_
              rotate_left
              · show Act.put _ (some 23) _ = _
                simp only [Act.put, List.setIfInBounds_toArray, List.set_cons_zero, List.set_cons_succ, i64_w, i32_w]
                rfl
              refine one_ (i := 11) (N := some 24) #[true, true, true, true, true, true, true, true, true, true, true, true, false] rfl rfl (one_of HT_.out (by kernel_rfl)) (by decide) (fun K hK => ?_)
              refine goes_ Try.func59 (by kernel_rfl) rfl #[.agg #[.int .i64 ((rd_T40 l0 x10_1).f0), .string ((rd_T40 l0 x10_1).f1), .string ((rd_T40 l0 x10_1).f2)], .string t292] (by rfl) rfl rfl (by (try simp only [List.map_toArray, List.map_cons, List.map_nil]); first | done | rfl | (simp only [List.length_drop, List.length_take]; rfl)) ?_
              with_reducible refine (spec_MatchValue.calls k1 ((rd_T40 l0 x10_1).f0) ((rd_T40 l0 x10_1).f1) ((rd_T40 l0 x10_1).f2) t292 t293 _ A7.out).mono ?_
              rintro e w10 ⟨rfl, hb⟩
              refine ⟨_, rfl, ?_⟩
              have n0_ := Aside0.mk (below_step (by repeat (first | (with_reducible first | exact HB.out | apply below_alloc | apply pw_below_drewN | apply below_drew1) | exact HB.out)) hb)
              clear HB
              have HB := n0_
              clear n0_
              (try clear hb)
              (try clear hb2)
              (try clear hk)
              (try clear hi)
              refine hK.out _ _ ⟨((HB.out.cell (World.block_lt_of_cell? w _ hw290_0)).trans hw290_0), ((HB.out.cell (World.block_lt_of_cell? w _ hw290_1)).trans hw290_1), ((HB.out.cell (World.block_lt_of_cell? w _ hw290_2)).trans hw290_2), ((HB.out.cell (World.block_lt_of_cell? w _ hw291_0)).trans hw291_0), ((HB.out.cell (World.block_lt_of_cell? w _ hw291_1)).trans hw291_1), ((HB.out.cell (World.block_lt_of_cell? w _ hw291_2)).trans hw291_2)⟩ (fun hHeld => ?_)
              clear hK K
              refine norm_ (a' := ?_) ?_ ?_
              rotate_left
              · show Act.put _ (some 24) _ = _
                simp only [Act.put, List.setIfInBounds_toArray, List.set_cons_zero, List.set_cons_succ, i64_w, i32_w]
                rfl
              refine pure_ (i := 12) (N := some 7) (v := ?_) (a' := ?_) #[true, true, true, true, true, true, true, true, true, true, true, true, true] rfl rfl (any_of HT_.out (by kernel_rfl)) (fun _ _ _ h => h) (Or.inl ⟨by rfl, ?_⟩) ?_ ?_
              rotate_left
              · intro w'
                go_simp
                with_reducible rfl
              rotate_left
              · simp only [Act.put, List.setIfInBounds_toArray, List.set_cons_zero, List.set_cons_succ, i64_w, i32_w]
                rfl
              refine done_ (done_of HT_.out (by kernel_rfl)) ?_
              try go_wp2
              go_ret
              exact ⟨by first | rfl | (simp [errW_none, errW_some] <;> rfl) | (simp [*, errW_none, errW_some] <;> rfl), by repeat (first | (with_reducible first | exact HB.out | apply below_alloc | apply pw_below_drewN | apply below_drew1) | exact HB.out)⟩
            · rw [if_neg c8] at H
              have c8b0 : (t293 == 0) = false := beq_eq_false_iff_ne.mpr c8
              have c8b1 : (t293 != 0) = true := bne_iff_ne.mpr c8
              by_cases c11 : t293 = 2
              · rw [if_pos c11] at H
                have c11b0 : (t293 == 2) = true := beq_iff_eq.mpr c11
                have c11b1 : (t293 != 2) = false := bne_eq_false_iff_eq.mpr c11
                clear c11
                have H' := Aside0.mk H
                clear H
                try go_wp2
                have n0_ := Aside0.mk (below_drew1 HB.out)
                clear HB
                have HB := n0_
                clear n0_
                have p290 : 0 ≤ (x10_1 : Int) := of_decide_eq_true (by first | (with_reducible assumption) | assumption)
                have q290 : x10_1 < (l0.length : Int) := of_decide_eq_true (by first | (with_reducible assumption) | assumption)
                obtain ⟨ad290, e290, hx290_0, hx290_1, hx290_2⟩ := at_T40 HR0.out x10_1 p290 q290
                have hw290_2 := hx290_2
                have hw290_1 := hx290_1
                have hw290_0 := hx290_0
                cases e290
                replace hx290_0 := (HB.out.cell (World.block_lt_of_cell? w _ hx290_0)).trans hx290_0
                replace hx290_1 := (HB.out.cell (World.block_lt_of_cell? w _ hx290_1)).trans hx290_1
                replace hx290_2 := (HB.out.cell (World.block_lt_of_cell? w _ hx290_2)).trans hx290_2
                replace p290 := eq_true p290
                replace q290 := eq_true q290
                have p291 : 0 ≤ (x10_1 : Int) := of_decide_eq_true (by first | (with_reducible assumption) | assumption)
                have q291 : x10_1 < (l0.length : Int) := of_decide_eq_true (by first | (with_reducible assumption) | assumption)
                obtain ⟨ad291, e291, hx291_0, hx291_1, hx291_2⟩ := at_T40 HR0.out x10_1 p291 q291
                have hw291_2 := hx291_2
                have hw291_1 := hx291_1
                have hw291_0 := hx291_0
                obtain rfl : ad290 = ad291 := (by injection e291)
                replace hx291_0 := (HB.out.cell (World.block_lt_of_cell? w _ hx291_0)).trans hx291_0
                replace hx291_1 := (HB.out.cell (World.block_lt_of_cell? w _ hx291_1)).trans hx291_1
                replace hx291_2 := (HB.out.cell (World.block_lt_of_cell? w _ hx291_2)).trans hx291_2
                replace p291 := eq_true p291
                replace q291 := eq_true q291
                refine start_ (n := 13) (S := fun w' => w'.cell? (ad290.add ((x10_1).toNat * 3)) = some (.int .i64 ((rd_T40 l0 x10_1).f0)) ∧ w'.cell? ⟨(ad290.add ((x10_1).toNat * 3)).block, (ad290.add ((x10_1).toNat * 3)).off + 1, none⟩ = some (.string ((rd_T40 l0 x10_1).f1)) ∧ w'.cell? ⟨(ad290.add ((x10_1).toNat * 3)).block, (ad290.add ((x10_1).toNat * 3)).off + 2, none⟩ = some (.string ((rd_T40 l0 x10_1).f2)) ∧ w'.cell? (ad290.add ((x10_1).toNat * 3)) = some (.int .i64 ((rd_T40 l0 x10_1).f0)) ∧ w'.cell? ⟨(ad290.add ((x10_1).toNat * 3)).block, (ad290.add ((x10_1).toNat * 3)).off + 1, none⟩ = some (.string ((rd_T40 l0 x10_1).f1)) ∧ w'.cell? ⟨(ad290.add ((x10_1).toNat * 3)).block, (ad290.add ((x10_1).toNat * 3)).off + 2, none⟩ = some (.string ((rd_T40 l0 x10_1).f2))) (ds := []) #[false, false, false, false, false, false, false, false, false, false, false, false, false] (by kernel_rfl) rfl rfl ⟨((HB.out.cell (World.block_lt_of_cell? w _ hw290_0)).trans hw290_0), ((HB.out.cell (World.block_lt_of_cell? w _ hw290_1)).trans hw290_1), ((HB.out.cell (World.block_lt_of_cell? w _ hw290_2)).trans hw290_2), ((HB.out.cell (World.block_lt_of_cell? w _ hw291_0)).trans hw291_0), ((HB.out.cell (World.block_lt_of_cell? w _ hw291_1)).trans hw291_1), ((HB.out.cell (World.block_lt_of_cell? w _ hw291_2)).trans hw291_2)⟩ (fun hHeld => ?_); refine with_tabW spec_MatchAll.tab5 spec_MatchAll.bits5 (fun HT_ HW_ => ?_)
                generalize wr.drew = w12 at HB hx290_0 hx290_1 hx290_2 hx291_0 hx291_1 hx291_2 hHeld ⊢
                refine pure_ (i := 0) (N := some 13) (v := ?_) (a' := ?_) #[true, false, false, false, false, false, false, false, false, false, false, false, false] rfl rfl (any_of HT_.out (by kernel_rfl)) (fun _ _ _ h => h) (Or.inl ⟨by rfl, ?_⟩) ?_ ?_
                rotate_left
                · intro w'
                  go_simp
                  with_reducible rfl
                rotate_left
                · simp only [Act.put, List.setIfInBounds_toArray, List.set_cons_zero, List.set_cons_succ, i64_w, i32_w]
                  rfl
                refine pure_ (i := 1) (N := some 14) (v := ?_) (a' := ?_) #[true, true, false, false, false, false, false, false, false, false, false, false, false] rfl rfl (any_of HT_.out (by kernel_rfl)) (fun _ _ _ h => h) (Or.inl ⟨by rfl, ?_⟩) ?_ ?_
                rotate_left
                · intro w'
                  go_simp
                  with_reducible rfl
                rotate_left
                · simp only [Act.put, List.setIfInBounds_toArray, List.set_cons_zero, List.set_cons_succ, i64_w, i32_w]
                  rfl
                refine pure_ (i := 2) (N := some 15) (v := ?_) (a' := ?_) #[true, true, true, false, false, false, false, false, false, false, false, false, false] rfl rfl (any_of HT_.out (by kernel_rfl)) (fun _ _ _ h => h) (Or.inl ⟨by rfl, ?_⟩) ?_ ?_
                rotate_left
                · intro w'
                  go_simp
                  with_reducible rfl
                rotate_left
                · simp only [Act.put, List.setIfInBounds_toArray, List.set_cons_zero, List.set_cons_succ, i64_w, i32_w]
                  rfl
                refine pure_ (i := 4) (N := some 17) (v := ?_) (a' := ?_) #[true, true, true, false, true, false, false, false, false, false, false, false, false] rfl rfl (any_of HT_.out (by kernel_rfl)) (fun _ _ _ h => h) (Or.inl ⟨by rfl, ?_⟩) ?_ ?_
                rotate_left
                · intro w'
                  go_simp
                  with_reducible rfl
                rotate_left
                · simp only [Act.put, List.setIfInBounds_toArray, List.set_cons_zero, List.set_cons_succ, i64_w, i32_w]
                  rfl
                refine pure_ (i := 5) (N := some 18) (v := ?_) (a' := ?_) #[true, true, true, false, true, true, false, false, false, false, false, false, false] rfl rfl (any_of HT_.out (by kernel_rfl)) (fun _ _ _ h => h) (Or.inl ⟨by rfl, ?_⟩) ?_ ?_
                rotate_left
                · intro w'
                  go_simp
                  with_reducible rfl
                rotate_left
                · simp only [Act.put, List.setIfInBounds_toArray, List.set_cons_zero, List.set_cons_succ, i64_w, i32_w]
                  rfl
                refine pure_ (i := 6) (N := some 19) (v := ?_) (a' := ?_) #[true, true, true, false, true, true, true, false, false, false, false, false, false] rfl rfl (any_of HT_.out (by kernel_rfl)) (fun _ _ _ h => h) (Or.inl ⟨by rfl, ?_⟩) ?_ ?_
                rotate_left
                · intro w'
                  go_simp
                  with_reducible rfl
                rotate_left
                · simp only [Act.put, List.setIfInBounds_toArray, List.set_cons_zero, List.set_cons_succ, i64_w, i32_w]
                  rfl
                refine pure_ (i := 7) (N := some 20) (v := ?_) (a' := ?_) #[true, true, true, false, true, true, true, true, false, false, false, false, false] rfl rfl (any_of HT_.out (by kernel_rfl)) (fun _ _ _ h => h) (Or.inl ⟨by rfl, ?_⟩) ?_ ?_
                rotate_left
                · intro w'
                  go_simp
                  with_reducible rfl
                rotate_left
                · simp only [Act.put, List.setIfInBounds_toArray, List.set_cons_zero, List.set_cons_succ, i64_w, i32_w]
                  rfl
                refine pure_ (i := 8) (N := some 21) (v := ?_) (a' := ?_) #[true, true, true, false, true, true, true, true, true, false, false, false, false] rfl rfl (any_of HT_.out (by kernel_rfl)) (fun _ _ _ h => h) (Or.inl ⟨by rfl, ?_⟩) ?_ ?_
                rotate_left
                · intro w'
                  go_simp
                  with_reducible rfl
                rotate_left
                · simp only [Act.put, List.setIfInBounds_toArray, List.set_cons_zero, List.set_cons_succ, i64_w, i32_w]
                  rfl
                refine take_ (i := 3) (N := some 16) (v := ?_) (a' := ?_) #[true, true, true, true, true, true, true, true, true, false, false, false, false] rfl rfl (take_ofW HT_.out HW_.out (by kernel_rfl)) (fun _ _ _ h => h) (Or.inl ⟨by rfl, ?_⟩) hHeld ?_ ?_
                rotate_left
                · rintro w' ⟨s0, s1, s2, s3, s4, s5⟩
                  go_simp
                  with_reducible rfl
                rotate_left
                · simp only [Act.put, List.setIfInBounds_toArray, List.set_cons_zero, List.set_cons_succ, i64_w, i32_w]
                  rfl
                refine take_ (i := 9) (N := some 22) (v := ?_) (a' := ?_) #[true, true, true, true, true, true, true, true, true, true, false, false, false] rfl rfl (take_ofW HT_.out HW_.out (by kernel_rfl)) (fun _ _ _ h => h) (Or.inl ⟨by rfl, ?_⟩) hHeld ?_ ?_
                rotate_left
                · rintro w' ⟨s0, s1, s2, s3, s4, s5⟩
                  go_simp
                  with_reducible rfl
                rotate_left
                · simp only [Act.put, List.setIfInBounds_toArray, List.set_cons_zero, List.set_cons_succ, i64_w, i32_w]
                  rfl
                refine one_ (i := 10) (N := some 23) #[true, true, true, true, true, true, true, true, true, true, true, false, false] rfl rfl (one_of HT_.out (by kernel_rfl)) (by decide) (fun K hK => ?_)
                refine goes_ Try.func60 (by kernel_rfl) rfl #[.slice A1 l1.length c1, .string ((rd_T40 l0 x10_1).f1)] (by rfl) rfl rfl (by (try simp only [List.map_toArray, List.map_cons, List.map_nil]); first | done | rfl | (simp only [List.length_drop, List.length_take]; rfl)) ?_
                with_reducible refine (spec_Value.calls k1 _ _ l1 ((rd_T40 l0 x10_1).f1) t292 _ ?side1 ?side2 A6.out).mono ?_
                (case side1 => repeat (first | exact (Kd.C_below HR1.out HB.out) | (with_reducible refine Kd.C_alloc ?_ _) | (with_reducible refine Kd.C_drewN ?_ _) | (with_reducible refine Kd.C_drew ?_)))
                (case side2 => exact HC1.out)
                rintro e w' ⟨rfl, ⟨nd, rfl⟩⟩
                refine ⟨_, rfl, ?_⟩
                refine hK.out _ _ ⟨((HB.out.cell (World.block_lt_of_cell? w _ hw290_0)).trans hw290_0), ((HB.out.cell (World.block_lt_of_cell? w _ hw290_1)).trans hw290_1), ((HB.out.cell (World.block_lt_of_cell? w _ hw290_2)).trans hw290_2), ((HB.out.cell (World.block_lt_of_cell? w _ hw291_0)).trans hw291_0), ((HB.out.cell (World.block_lt_of_cell? w _ hw291_1)).trans hw291_1), ((HB.out.cell (World.block_lt_of_cell? w _ hw291_2)).trans hw291_2)⟩ (fun hHeld => ?_)
                clear hK K
                refine norm_ (a' := ?_) ?_ ?_
                rotate_left
                · show Act.put _ (some 23) _ = _
                  simp only [Act.put, List.setIfInBounds_toArray, List.set_cons_zero, List.set_cons_succ, i64_w, i32_w]
                  rfl
                refine one_ (i := 11) (N := some 24) #[true, true, true, true, true, true, true, true, true, true, true, true, false] rfl rfl (one_of HT_.out (by kernel_rfl)) (by decide) (fun K hK => ?_)
                refine goes_ Try.func59 (by kernel_rfl) rfl #[.agg #[.int .i64 ((rd_T40 l0 x10_1).f0), .string ((rd_T40 l0 x10_1).f1), .string ((rd_T40 l0 x10_1).f2)], .string t292] (by rfl) rfl rfl (by (try simp only [List.map_toArray, List.map_cons, List.map_nil]); first | done | rfl | (simp only [List.length_drop, List.length_take]; rfl)) ?_
                with_reducible refine (spec_MatchValue.calls k1 ((rd_T40 l0 x10_1).f0) ((rd_T40 l0 x10_1).f1) ((rd_T40 l0 x10_1).f2) t292 t293 _ A7.out).mono ?_
                rintro e w13 ⟨rfl, hb⟩
                refine ⟨_, rfl, ?_⟩
                have n0_ := Aside0.mk (below_step (by repeat (first | (with_reducible first | exact HB.out | apply below_alloc | apply pw_below_drewN | apply below_drew1) | exact HB.out)) hb)
                clear HB
                have HB := n0_
                clear n0_
                (try clear hb)
                (try clear hb2)
                (try clear hk)
                (try clear hi)
                refine hK.out _ _ ⟨((HB.out.cell (World.block_lt_of_cell? w _ hw290_0)).trans hw290_0), ((HB.out.cell (World.block_lt_of_cell? w _ hw290_1)).trans hw290_1), ((HB.out.cell (World.block_lt_of_cell? w _ hw290_2)).trans hw290_2), ((HB.out.cell (World.block_lt_of_cell? w _ hw291_0)).trans hw291_0), ((HB.out.cell (World.block_lt_of_cell? w _ hw291_1)).trans hw291_1), ((HB.out.cell (World.block_lt_of_cell? w _ hw291_2)).trans hw291_2)⟩ (fun hHeld => ?_)
                clear hK K
                refine norm_ (a' := ?_) ?_ ?_
                rotate_left
                · show Act.put _ (some 24) _ = _
                  simp only [Act.put, List.setIfInBounds_toArray, List.set_cons_zero, List.set_cons_succ, i64_w, i32_w]
                  rfl
                refine pure_ (i := 12) (N := some 7) (v := ?_) (a' := ?_) #[true, true, true, true, true, true, true, true, true, true, true, true, true] rfl rfl (any_of HT_.out (by kernel_rfl)) (fun _ _ _ h => h) (Or.inl ⟨by rfl, ?_⟩) ?_ ?_
                rotate_left
                · intro w'
                  go_simp
                  with_reducible rfl
                rotate_left
                · simp only [Act.put, List.setIfInBounds_toArray, List.set_cons_zero, List.set_cons_succ, i64_w, i32_w]
                  rfl
                refine done_ (done_of HT_.out (by kernel_rfl)) ?_
                try go_wp2
                go_roundg k1
                case measure => have := HK1.out; omega
                case rel => exact ⟨(2), (wrap64 (x10_1 + 1)), (by first | rfl | (simp; done) | (simp [*]; done)), (by first | rfl | (simp; done) | (simp [*]; done)), H', ⟨by have := HK1.out; omega⟩, ⟨by repeat (first | (with_reducible first | exact HB.out | apply below_alloc | apply pw_below_drewN | apply below_drew1) | exact HB.out)⟩⟩
              · rw [if_neg c11] at H
                have c11b0 : (t293 == 2) = false := beq_eq_false_iff_ne.mpr c11
                have c11b1 : (t293 != 2) = true := bne_iff_ne.mpr c11
                have H' := Aside0.mk H
                clear H
                try go_wp2
                have n0_ := Aside0.mk (below_drew1 HB.out)
                clear HB
                have HB := n0_
                clear n0_
                have p290 : 0 ≤ (x10_1 : Int) := of_decide_eq_true (by first | (with_reducible assumption) | assumption)
                have q290 : x10_1 < (l0.length : Int) := of_decide_eq_true (by first | (with_reducible assumption) | assumption)
                obtain ⟨ad290, e290, hx290_0, hx290_1, hx290_2⟩ := at_T40 HR0.out x10_1 p290 q290
                have hw290_2 := hx290_2
                have hw290_1 := hx290_1
                have hw290_0 := hx290_0
                cases e290
                replace hx290_0 := (HB.out.cell (World.block_lt_of_cell? w _ hx290_0)).trans hx290_0
                replace hx290_1 := (HB.out.cell (World.block_lt_of_cell? w _ hx290_1)).trans hx290_1
                replace hx290_2 := (HB.out.cell (World.block_lt_of_cell? w _ hx290_2)).trans hx290_2
                replace p290 := eq_true p290
                replace q290 := eq_true q290
                have p291 : 0 ≤ (x10_1 : Int) := of_decide_eq_true (by first | (with_reducible assumption) | assumption)
                have q291 : x10_1 < (l0.length : Int) := of_decide_eq_true (by first | (with_reducible assumption) | assumption)
                obtain ⟨ad291, e291, hx291_0, hx291_1, hx291_2⟩ := at_T40 HR0.out x10_1 p291 q291
                have hw291_2 := hx291_2
                have hw291_1 := hx291_1
                have hw291_0 := hx291_0
                obtain rfl : ad290 = ad291 := (by injection e291)
                replace hx291_0 := (HB.out.cell (World.block_lt_of_cell? w _ hx291_0)).trans hx291_0
                replace hx291_1 := (HB.out.cell (World.block_lt_of_cell? w _ hx291_1)).trans hx291_1
                replace hx291_2 := (HB.out.cell (World.block_lt_of_cell? w _ hx291_2)).trans hx291_2
                replace p291 := eq_true p291
                replace q291 := eq_true q291
                refine start_ (n := 13) (S := fun w' => w'.cell? (ad290.add ((x10_1).toNat * 3)) = some (.int .i64 ((rd_T40 l0 x10_1).f0)) ∧ w'.cell? ⟨(ad290.add ((x10_1).toNat * 3)).block, (ad290.add ((x10_1).toNat * 3)).off + 1, none⟩ = some (.string ((rd_T40 l0 x10_1).f1)) ∧ w'.cell? ⟨(ad290.add ((x10_1).toNat * 3)).block, (ad290.add ((x10_1).toNat * 3)).off + 2, none⟩ = some (.string ((rd_T40 l0 x10_1).f2)) ∧ w'.cell? (ad290.add ((x10_1).toNat * 3)) = some (.int .i64 ((rd_T40 l0 x10_1).f0)) ∧ w'.cell? ⟨(ad290.add ((x10_1).toNat * 3)).block, (ad290.add ((x10_1).toNat * 3)).off + 1, none⟩ = some (.string ((rd_T40 l0 x10_1).f1)) ∧ w'.cell? ⟨(ad290.add ((x10_1).toNat * 3)).block, (ad290.add ((x10_1).toNat * 3)).off + 2, none⟩ = some (.string ((rd_T40 l0 x10_1).f2))) (ds := []) #[false, false, false, false, false, false, false, false, false, false, false, false, false] (by kernel_rfl) rfl rfl ⟨((HB.out.cell (World.block_lt_of_cell? w _ hw290_0)).trans hw290_0), ((HB.out.cell (World.block_lt_of_cell? w _ hw290_1)).trans hw290_1), ((HB.out.cell (World.block_lt_of_cell? w _ hw290_2)).trans hw290_2), ((HB.out.cell (World.block_lt_of_cell? w _ hw291_0)).trans hw291_0), ((HB.out.cell (World.block_lt_of_cell? w _ hw291_1)).trans hw291_1), ((HB.out.cell (World.block_lt_of_cell? w _ hw291_2)).trans hw291_2)⟩ (fun hHeld => ?_); refine with_tabW spec_MatchAll.tab5 spec_MatchAll.bits5 (fun HT_ HW_ => ?_)
                generalize wr.drew = w14 at HB hx290_0 hx290_1 hx290_2 hx291_0 hx291_1 hx291_2 hHeld ⊢
                refine pure_ (i := 0) (N := some 13) (v := ?_) (a' := ?_) #[true, false, false, false, false, false, false, false, false, false, false, false, false] rfl rfl (any_of HT_.out (by kernel_rfl)) (fun _ _ _ h => h) (Or.inl ⟨by rfl, ?_⟩) ?_ ?_
                rotate_left
                · intro w'
                  go_simp
                  with_reducible rfl
                rotate_left
                · simp only [Act.put, List.setIfInBounds_toArray, List.set_cons_zero, List.set_cons_succ, i64_w, i32_w]
                  rfl
                refine pure_ (i := 1) (N := some 14) (v := ?_) (a' := ?_) #[true, true, false, false, false, false, false, false, false, false, false, false, false] rfl rfl (any_of HT_.out (by kernel_rfl)) (fun _ _ _ h => h) (Or.inl ⟨by rfl, ?_⟩) ?_ ?_
                rotate_left
                · intro w'
                  go_simp
                  with_reducible rfl
                rotate_left
                · simp only [Act.put, List.setIfInBounds_toArray, List.set_cons_zero, List.set_cons_succ, i64_w, i32_w]
                  rfl
                refine pure_ (i := 2) (N := some 15) (v := ?_) (a' := ?_) #[true, true, true, false, false, false, false, false, false, false, false, false, false] rfl rfl (any_of HT_.out (by kernel_rfl)) (fun _ _ _ h => h) (Or.inl ⟨by rfl, ?_⟩) ?_ ?_
                rotate_left
                · intro w'
                  go_simp
                  with_reducible rfl
                rotate_left
                · simp only [Act.put, List.setIfInBounds_toArray, List.set_cons_zero, List.set_cons_succ, i64_w, i32_w]
                  rfl
                refine pure_ (i := 4) (N := some 17) (v := ?_) (a' := ?_) #[true, true, true, false, true, false, false, false, false, false, false, false, false] rfl rfl (any_of HT_.out (by kernel_rfl)) (fun _ _ _ h => h) (Or.inl ⟨by rfl, ?_⟩) ?_ ?_
                rotate_left
                · intro w'
                  go_simp
                  with_reducible rfl
                rotate_left
                · simp only [Act.put, List.setIfInBounds_toArray, List.set_cons_zero, List.set_cons_succ, i64_w, i32_w]
                  rfl
                refine pure_ (i := 5) (N := some 18) (v := ?_) (a' := ?_) #[true, true, true, false, true, true, false, false, false, false, false, false, false] rfl rfl (any_of HT_.out (by kernel_rfl)) (fun _ _ _ h => h) (Or.inl ⟨by rfl, ?_⟩) ?_ ?_
                rotate_left
                · intro w'
                  go_simp
                  with_reducible rfl
                rotate_left
                · simp only [Act.put, List.setIfInBounds_toArray, List.set_cons_zero, List.set_cons_succ, i64_w, i32_w]
                  rfl
                refine pure_ (i := 6) (N := some 19) (v := ?_) (a' := ?_) #[true, true, true, false, true, true, true, false, false, false, false, false, false] rfl rfl (any_of HT_.out (by kernel_rfl)) (fun _ _ _ h => h) (Or.inl ⟨by rfl, ?_⟩) ?_ ?_
                rotate_left
                · intro w'
                  go_simp
                  with_reducible rfl
                rotate_left
                · simp only [Act.put, List.setIfInBounds_toArray, List.set_cons_zero, List.set_cons_succ, i64_w, i32_w]
                  rfl
                refine pure_ (i := 7) (N := some 20) (v := ?_) (a' := ?_) #[true, true, true, false, true, true, true, true, false, false, false, false, false] rfl rfl (any_of HT_.out (by kernel_rfl)) (fun _ _ _ h => h) (Or.inl ⟨by rfl, ?_⟩) ?_ ?_
                rotate_left
                · intro w'
                  go_simp
                  with_reducible rfl
                rotate_left
                · simp only [Act.put, List.setIfInBounds_toArray, List.set_cons_zero, List.set_cons_succ, i64_w, i32_w]
                  rfl
                refine pure_ (i := 8) (N := some 21) (v := ?_) (a' := ?_) #[true, true, true, false, true, true, true, true, true, false, false, false, false] rfl rfl (any_of HT_.out (by kernel_rfl)) (fun _ _ _ h => h) (Or.inl ⟨by rfl, ?_⟩) ?_ ?_
                rotate_left
                · intro w'
                  go_simp
                  with_reducible rfl
                rotate_left
                · simp only [Act.put, List.setIfInBounds_toArray, List.set_cons_zero, List.set_cons_succ, i64_w, i32_w]
                  rfl
                refine take_ (i := 3) (N := some 16) (v := ?_) (a' := ?_) #[true, true, true, true, true, true, true, true, true, false, false, false, false] rfl rfl (take_ofW HT_.out HW_.out (by kernel_rfl)) (fun _ _ _ h => h) (Or.inl ⟨by rfl, ?_⟩) hHeld ?_ ?_
                rotate_left
                · rintro w' ⟨s0, s1, s2, s3, s4, s5⟩
                  go_simp
                  with_reducible rfl
                rotate_left
                · simp only [Act.put, List.setIfInBounds_toArray, List.set_cons_zero, List.set_cons_succ, i64_w, i32_w]
                  rfl
                refine take_ (i := 9) (N := some 22) (v := ?_) (a' := ?_) #[true, true, true, true, true, true, true, true, true, true, false, false, false] rfl rfl (take_ofW HT_.out HW_.out (by kernel_rfl)) (fun _ _ _ h => h) (Or.inl ⟨by rfl, ?_⟩) hHeld ?_ ?_
                rotate_left
                · rintro w' ⟨s0, s1, s2, s3, s4, s5⟩
                  go_simp
                  with_reducible rfl
                rotate_left
                · simp only [Act.put, List.setIfInBounds_toArray, List.set_cons_zero, List.set_cons_succ, i64_w, i32_w]
                  rfl
                refine one_ (i := 10) (N := some 23) #[true, true, true, true, true, true, true, true, true, true, true, false, false] rfl rfl (one_of HT_.out (by kernel_rfl)) (by decide) (fun K hK => ?_)
                refine goes_ Try.func60 (by kernel_rfl) rfl #[.slice A1 l1.length c1, .string ((rd_T40 l0 x10_1).f1)] (by rfl) rfl rfl (by (try simp only [List.map_toArray, List.map_cons, List.map_nil]); first | done | rfl | (simp only [List.length_drop, List.length_take]; rfl)) ?_
                with_reducible refine (spec_Value.calls k1 _ _ l1 ((rd_T40 l0 x10_1).f1) t292 _ ?side1 ?side2 A6.out).mono ?_
                (case side1 => repeat (first | exact (Kd.C_below HR1.out HB.out) | (with_reducible refine Kd.C_alloc ?_ _) | (with_reducible refine Kd.C_drewN ?_ _) | (with_reducible refine Kd.C_drew ?_)))
                (case side2 => exact HC1.out)
                rintro e w' ⟨rfl, ⟨nd, rfl⟩⟩
                refine ⟨_, rfl, ?_⟩
                refine hK.out _ _ ⟨((HB.out.cell (World.block_lt_of_cell? w _ hw290_0)).trans hw290_0), ((HB.out.cell (World.block_lt_of_cell? w _ hw290_1)).trans hw290_1), ((HB.out.cell (World.block_lt_of_cell? w _ hw290_2)).trans hw290_2), ((HB.out.cell (World.block_lt_of_cell? w _ hw291_0)).trans hw291_0), ((HB.out.cell (World.block_lt_of_cell? w _ hw291_1)).trans hw291_1), ((HB.out.cell (World.block_lt_of_cell? w _ hw291_2)).trans hw291_2)⟩ (fun hHeld => ?_)
                clear hK K
                refine norm_ (a' := ?_) ?_ ?_
                rotate_left
                · show Act.put _ (some 23) _ = _
                  simp only [Act.put, List.setIfInBounds_toArray, List.set_cons_zero, List.set_cons_succ, i64_w, i32_w]
                  rfl
                refine one_ (i := 11) (N := some 24) #[true, true, true, true, true, true, true, true, true, true, true, true, false] rfl rfl (one_of HT_.out (by kernel_rfl)) (by decide) (fun K hK => ?_)
                refine goes_ Try.func59 (by kernel_rfl) rfl #[.agg #[.int .i64 ((rd_T40 l0 x10_1).f0), .string ((rd_T40 l0 x10_1).f1), .string ((rd_T40 l0 x10_1).f2)], .string t292] (by rfl) rfl rfl (by (try simp only [List.map_toArray, List.map_cons, List.map_nil]); first | done | rfl | (simp only [List.length_drop, List.length_take]; rfl)) ?_
                with_reducible refine (spec_MatchValue.calls k1 ((rd_T40 l0 x10_1).f0) ((rd_T40 l0 x10_1).f1) ((rd_T40 l0 x10_1).f2) t292 t293 _ A7.out).mono ?_
                rintro e w15 ⟨rfl, hb⟩
                refine ⟨_, rfl, ?_⟩
                have n0_ := Aside0.mk (below_step (by repeat (first | (with_reducible first | exact HB.out | apply below_alloc | apply pw_below_drewN | apply below_drew1) | exact HB.out)) hb)
                clear HB
                have HB := n0_
                clear n0_
                (try clear hb)
                (try clear hb2)
                (try clear hk)
                (try clear hi)
                refine hK.out _ _ ⟨((HB.out.cell (World.block_lt_of_cell? w _ hw290_0)).trans hw290_0), ((HB.out.cell (World.block_lt_of_cell? w _ hw290_1)).trans hw290_1), ((HB.out.cell (World.block_lt_of_cell? w _ hw290_2)).trans hw290_2), ((HB.out.cell (World.block_lt_of_cell? w _ hw291_0)).trans hw291_0), ((HB.out.cell (World.block_lt_of_cell? w _ hw291_1)).trans hw291_1), ((HB.out.cell (World.block_lt_of_cell? w _ hw291_2)).trans hw291_2)⟩ (fun hHeld => ?_)
                clear hK K
                refine norm_ (a' := ?_) ?_ ?_
                rotate_left
                · show Act.put _ (some 24) _ = _
                  simp only [Act.put, List.setIfInBounds_toArray, List.set_cons_zero, List.set_cons_succ, i64_w, i32_w]
                  rfl
                refine pure_ (i := 12) (N := some 7) (v := ?_) (a' := ?_) #[true, true, true, true, true, true, true, true, true, true, true, true, true] rfl rfl (any_of HT_.out (by kernel_rfl)) (fun _ _ _ h => h) (Or.inl ⟨by rfl, ?_⟩) ?_ ?_
                rotate_left
                · intro w'
                  go_simp
                  with_reducible rfl
                rotate_left
                · simp only [Act.put, List.setIfInBounds_toArray, List.set_cons_zero, List.set_cons_succ, i64_w, i32_w]
                  rfl
                refine done_ (done_of HT_.out (by kernel_rfl)) ?_
                try go_wp2
                go_roundg k1
                case measure => have := HK1.out; omega
                case rel => exact ⟨(x5_1), (wrap64 (x10_1 + 1)), (by first | rfl | (simp; done) | (simp [*]; done)), (by first | rfl | (simp; done) | (simp [*]; done)), H', ⟨by have := HK1.out; omega⟩, ⟨by repeat (first | (with_reducible first | exact HB.out | apply below_alloc | apply pw_below_drewN | apply below_drew1) | exact HB.out)⟩⟩
          · rw [if_neg c5] at H
            exact absurd H (by simp)
        · rw [if_neg c4] at H
          exact absurd H (by simp)
      · rw [if_neg c3] at H
        have c3b0 : decide (x10_1 < (l0.length : Int)) = false := decide_eq_false c3
        clear c3
        obtain rfl := Option.some.inj H
        go_wp2
        go_ret
        exact ⟨by first | rfl | (simp [errW_none, errW_some] <;> rfl) | (simp [*, errW_none, errW_some] <;> rfl), by repeat (first | (with_reducible first | exact HB.out | apply below_alloc | apply pw_below_drewN | apply below_drew1) | exact HB.out)⟩

end Go.Proofs.Ytbffhefeepmpcaa.Q
