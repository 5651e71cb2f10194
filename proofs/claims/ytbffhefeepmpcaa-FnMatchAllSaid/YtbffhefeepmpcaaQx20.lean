-- printed by this project's own program wip/tools/mkprint.py (the kit's print.py with hand-proved contracts put in)
import Derived.Test.YtbffhefeepmpcaaQx0
namespace Go.Proofs.Ytbffhefeepmpcaa.Q
open Go.RowKit Go.Proofs.YtbffhefeepmpcaaW.PrintWords Go.Proofs.YtbffhefeepmpcaaW.PrintLast Go.Proofs.YtbffhefeepmpcaaW.PrintMore
attribute [local go_sem] max2_int min2_int max_two min_two max_three min_three max_four min_four   -- for this text's walks alone
set_option linter.unusedVariables false
set_option linter.unusedSimpArgs false

/-! ### laws_fits: function 32 -/
mutual
def laws_fits.l0 : Nat → List (S48) → List (S37) → Int → Int → Option (Bool)
  | 0, _, _, _, _ => none
  | k + 1, x1, x10, x11, x12 => if x12 < x11 then (if 0 ≤ x12 then (if x12 < (x10.length : Int) then (laws_fits.l1 k x1 (⟨#[]⟩ : ByteArray) x10 x11 x12 x1 (x1.length : Int) 0 ((rd_T37 x10 x12).f0) ((rd_T37 x10 x12).f1) ((rd_T37 x10 x12).f2)) else (none)) else (none)) else (some true)
def laws_fits.l1 : Nat → List (S48) → ByteArray → List (S37) → Int → Int → List (S48) → Int → Int → Int → ByteArray → ByteArray → Option (Bool)
  | 0, _, _, _, _, _, _, _, _, _, _, _ => none
  | k + 1, x1, x7, x10, x11, x12, x16, x17, x18, x285000, x285001, x285002 => if x18 < x17 then (if 0 ≤ x18 then (if x18 < (x16.length : Int) then (if ((rd_T48 x16 x18).f0).toList = x285001.toList then (laws_fits.l1 k x1 ((rd_T48 x16 x18).f1) x10 x11 x12 x16 x17 (wrap64 (x18 + 1)) x285000 x285001 x285002) else (laws_fits.l1 k x1 x7 x10 x11 x12 x16 x17 (wrap64 (x18 + 1)) x285000 x285001 x285002)) else (none)) else (none)) else (if ((x7.toList == x285002.toList) != (x285000 == 0)) = true then (some false) else (laws_fits.l0 k x1 x10 x11 (wrap64 (x12 + 1))))
end
def laws_fits.f (k : Nat) (l0 : List (S37)) (l1 : List (S48)) : Option (Bool) := laws_fits.l0 k l1 l0 (l0.length : Int) 0
theorem laws_fits.mono_l : ∀ k, (∀ y0 y1 y2 y3, LeO (laws_fits.l0 k y0 y1 y2 y3) (laws_fits.l0 (k + 1) y0 y1 y2 y3)) ∧ (∀ y0 y1 y2 y3 y4 y5 y6 y7 y8 y9 y10, LeO (laws_fits.l1 k y0 y1 y2 y3 y4 y5 y6 y7 y8 y9 y10) (laws_fits.l1 (k + 1) y0 y1 y2 y3 y4 y5 y6 y7 y8 y9 y10))
  | 0 => ⟨fun _ _ _ _ r h => by simp [laws_fits.l0] at h, fun _ _ _ _ _ _ _ _ _ _ _ r h => by simp [laws_fits.l1] at h⟩
  | k + 1 => by
    obtain ⟨ih0, ih1⟩ := laws_fits.mono_l k
    refine ⟨?_, ?_⟩
    · intro y0 y1 y2 y3
      unfold laws_fits.l0
      repeat' first
      | (with_reducible exact ih0 _ _ _ _)
      | (with_reducible exact ih1 _ _ _ _ _ _ _ _ _ _ _)
      | (with_reducible exact LeO.refl _)
      | (with_reducible exact LeO.none _)
      | (with_reducible refine LeO.ite ?_ ?_)
      | (with_reducible refine LeO.bind ?_ (fun _ => ?_))
      | exact ih0 _ _ _ _
      | exact ih1 _ _ _ _ _ _ _ _ _ _ _
      | exact LeO.none _
      | refine LeO.ite ?_ ?_
      | refine LeO.bind ?_ (fun _ => ?_)
    · intro y0 y1 y2 y3 y4 y5 y6 y7 y8 y9 y10
      unfold laws_fits.l1
      repeat' first
      | (with_reducible exact ih0 _ _ _ _)
      | (with_reducible exact ih1 _ _ _ _ _ _ _ _ _ _ _)
      | (with_reducible exact LeO.refl _)
      | (with_reducible exact LeO.none _)
      | (with_reducible refine LeO.ite ?_ ?_)
      | (with_reducible refine LeO.bind ?_ (fun _ => ?_))
      | exact ih0 _ _ _ _
      | exact ih1 _ _ _ _ _ _ _ _ _ _ _
      | exact LeO.none _
      | refine LeO.ite ?_ ?_
      | refine LeO.bind ?_ (fun _ => ?_)
theorem laws_fits.mono : ∀ a0 a1 k, LeO (laws_fits.f k a0 a1) (laws_fits.f (k + 1) a0 a1) := by
  intro a0 a1 k
  obtain ⟨ih0, ih1⟩ := laws_fits.mono_l k
  unfold laws_fits.f
  repeat' first
      | (with_reducible exact ih0 _ _ _ _)
      | (with_reducible exact ih1 _ _ _ _ _ _ _ _ _ _ _)
      | (with_reducible exact LeO.refl _)
      | (with_reducible exact LeO.none _)
      | (with_reducible refine LeO.ite ?_ ?_)
      | (with_reducible refine LeO.bind ?_ (fun _ => ?_))
      | exact ih0 _ _ _ _
      | exact ih1 _ _ _ _ _ _ _ _ _ _ _
      | exact LeO.none _
      | refine LeO.ite ?_ ?_
      | refine LeO.bind ?_ (fun _ => ?_)
set_option maxHeartbeats 8000000 in
set_option maxRecDepth 100000 in
theorem laws_fits.calls (k : Nat) (A0 : Option Addr) (c0 : Nat) (l0 : List (S37)) (A1 : Option Addr) (c1 : Nat) (l1 : List (S48)) (r : Bool) (w : World) (hr0 : Kd.C k37 w A0 l0.length l0) (hc0 : l0.length ≤ c0) (hr1 : Kd.C k48 w A1 l1.length l1) (hc1 : l1.length ≤ c1) (h : laws_fits.f k l0 l1 = some r) :
    Calls Try.prog 32 #[.slice A0 l0.length c0, .slice A1 l1.length c1] w fun e w' => e = .returned (.bool r) ∧ Below w.heap.size w w' := by
  have hu37 := Try.underlying37
  have hu48 := Try.underlying48
  have HR0 := Aside0.mk hr0
  have HC0 := Aside0.mk hc0
  clear hr0 hc0
  have HR1 := Aside0.mk hr1
  have HC1 := Aside0.mk hc1
  clear hr1 hc1
  have HB := Aside0.mk (Below.refl w.heap.size w)
  have H : (laws_fits.l0 k l1 l0 (l0.length : Int) 0) = some r := h
  clear h
  have H' := Aside0.mk H
  clear H
  go_enter Try.func32, Try.ntmps32
  go_wp2
  go_loopg [12] k (fun kq v12 w' => ∃ (x12_1 : Int), v12 = .int .i64 x12_1 ∧ Aside0 (laws_fits.l0 kq l1 l0 (l0.length : Int) x12_1 = some r) ∧ Aside0 (kq ≤ k) ∧ Aside0 (Below w.heap.size w w'))
  case atStart => exact ⟨(0), (by first | rfl | (simp; done) | (simp [*]; done)), H', ⟨Nat.le_refl _⟩, ⟨by repeat (first | (with_reducible first | exact HB.out | apply below_alloc | apply pw_below_drewN | apply below_drew1) | exact HB.out)⟩⟩
  case round =>
    clear H'
    try clear c1
    try clear p2
    obtain ⟨x12_1, rfl, HA, HK1, HB⟩ := hrel
    cases gk with
    | zero => exact absurd HA.out (by simp [laws_fits.l0])
    | succ k1 =>
      have H := HA.out
      clear HA
      simp only [laws_fits.l0] at H
      by_cases c3 : x12_1 < (l0.length : Int)
      · rw [if_pos c3] at H
        have c3b0 : decide (x12_1 < (l0.length : Int)) = true := decide_eq_true c3
        clear c3
        by_cases c4 : 0 ≤ x12_1
        · rw [if_pos c4] at H
          have c4b0 : decide (0 ≤ x12_1) = true := decide_eq_true c4
          clear c4
          by_cases c5 : x12_1 < (l0.length : Int)
          · rw [if_pos c5] at H
            have c5b0 : decide (x12_1 < (l0.length : Int)) = true := decide_eq_true c5
            clear c5
            have H' := Aside0.mk H
            clear H
            have p283 : 0 ≤ (x12_1 : Int) := of_decide_eq_true (by first | (with_reducible assumption) | assumption)
            have q283 : x12_1 < (l0.length : Int) := of_decide_eq_true (by first | (with_reducible assumption) | assumption)
            obtain ⟨ad283, e283, hx283_0, hx283_1, hx283_2⟩ := at_T37 HR0.out x12_1 p283 q283
            cases e283
            replace hx283_0 := (HB.out.cell (World.block_lt_of_cell? w _ hx283_0)).trans hx283_0
            replace hx283_1 := (HB.out.cell (World.block_lt_of_cell? w _ hx283_1)).trans hx283_1
            replace hx283_2 := (HB.out.cell (World.block_lt_of_cell? w _ hx283_2)).trans hx283_2
            replace p283 := eq_true p283
            replace q283 := eq_true q283
            go_wp2_with (first | ((with_reducible refine gate_dst (N := 6) rfl ?_); refine box_event ?hg (N := 6) ?hd (cs := #[.int .i64 0, .string (⟨#[]⟩ : ByteArray), .string (⟨#[]⟩ : ByteArray)]) (t := 37) ?hr ?_; (case hd => rfl); (case hg => rfl); (case hr => first | (go_simp; done) | (go_simp; rfl)); intro gb284 hg w6 hbox hb; have n0_ := Aside0.mk (below_step (by repeat (first | (with_reducible first | exact HB.out | apply below_alloc | apply pw_below_drewN | apply below_drew1) | exact HB.out)) hb); have n1_ := Aside0.mk (hbox); have n2_ := Aside0.mk ((by rw [hg]; exact (below_size (by repeat (first | (with_reducible first | exact HB.out | apply below_alloc | apply pw_below_drewN | apply below_drew1) | exact HB.out))) : w.heap.size ≤ gb284)); have n3_ := Aside0.mk ((by rw [hg]; exact (below_size (by repeat (first | (with_reducible first | exact HB.out | apply below_alloc | apply pw_below_drewN | apply below_drew1) | exact HB.out))) : w.heap.size ≤ gb284)); clear HB; have HB := n0_; have BK284 := n1_; have GW284 := n2_; have GE284 := n3_; clear n0_ n1_ n2_ n3_; clear hb hbox hg; have hcz7_0 : w6.cell? ⟨gb284, 0, none⟩ = some (.int .i64 0) := (blk_cell BK284.out 0).trans rfl; have hcz7_1 : w6.cell? ⟨gb284, 1, none⟩ = some (.string (⟨#[]⟩ : ByteArray)) := (blk_cell BK284.out 1).trans rfl; have hcz7_2 : w6.cell? ⟨gb284, 2, none⟩ = some (.string (⟨#[]⟩ : ByteArray)) := (blk_cell BK284.out 2).trans rfl; have hfz7_0 := blk_frozen BK284.out 0; have hfz7_1 := blk_frozen BK284.out 1; have hfz7_2 := blk_frozen BK284.out 2))
            go_loopg [7, 18] k1 (fun kq v7 v18 w' => ∃ (x7_2 : ByteArray) (x18_2 : Int), v7 = .string x7_2 ∧ v18 = .int .i64 x18_2 ∧ Aside0 (laws_fits.l1 kq l1 x7_2 l0 (l0.length : Int) x12_1 l1 (l1.length : Int) x18_2 ((rd_T37 l0 x12_1).f0) ((rd_T37 l0 x12_1).f1) ((rd_T37 l0 x12_1).f2) = some r) ∧ Aside0 (kq ≤ k1) ∧ Aside0 (w'.heap[gb284]? = some (.cells #[.int .i64 ((rd_T37 l0 x12_1).f0), .string ((rd_T37 l0 x12_1).f1), .string ((rd_T37 l0 x12_1).f2)] 37 (0, 0))) ∧ Aside0 (Below w.heap.size w w'))
            case atStart => exact ⟨((⟨#[]⟩ : ByteArray)), (0), (by first | rfl | (simp; done) | (simp [*]; done)), (by first | rfl | (simp; done) | (simp [*]; done)), H', ⟨Nat.le_refl _⟩, ⟨by (with_reducible repeat (first | refine blk_drewN ?_ _ | refine blk_drew ?_ | refine blk_alloc ?_ _)); refine blk_put (cs := #[.int .i64 ((rd_T37 l0 x12_1).f0), .string ((rd_T37 l0 x12_1).f1), .string (⟨#[]⟩ : ByteArray)]) ?_ 2 _ rfl; (with_reducible repeat (first | refine blk_drewN ?_ _ | refine blk_drew ?_ | refine blk_alloc ?_ _)); refine blk_put (cs := #[.int .i64 ((rd_T37 l0 x12_1).f0), .string (⟨#[]⟩ : ByteArray), .string (⟨#[]⟩ : ByteArray)]) ?_ 1 _ rfl; (with_reducible repeat (first | refine blk_drewN ?_ _ | refine blk_drew ?_ | refine blk_alloc ?_ _)); refine blk_put (cs := #[.int .i64 0, .string (⟨#[]⟩ : ByteArray), .string (⟨#[]⟩ : ByteArray)]) ?_ 0 _ rfl; (with_reducible repeat (first | refine blk_drewN ?_ _ | refine blk_drew ?_ | refine blk_alloc ?_ _)); exact BK284.out⟩, ⟨by repeat (first | (with_reducible first | exact HB.out | apply below_alloc | apply pw_below_drewN | apply below_drew1 | refine below_set ?_ GE284.out) | exact HB.out)⟩⟩
            case round =>
              clear H'
              try clear c1
              try clear p2
              try clear q2
              try clear hx2
              try clear c3
              try clear c3b0
              try clear c4
              try clear c4b0
              try clear c5
              try clear c5b0
              try clear hcz7_0
              try clear hcz7_1
              try clear hcz7_2
              try clear hfz7_0
              try clear hfz7_1
              try clear hfz7_2
              try clear hx283_0
              try clear hx283_1
              try clear hx283_2
              try clear p2
              try clear p283
              try clear q283
              obtain ⟨x7_2, x18_2, rfl, rfl, HA, HK2, BK284, HB⟩ := hrel
              cases gk with
              | zero => exact absurd HA.out (by simp [laws_fits.l1])
              | succ k2 =>
                have H := HA.out
                clear HA
                simp only [laws_fits.l1] at H
                by_cases c8 : x18_2 < (l1.length : Int)
                · rw [if_pos c8] at H
                  have c8b0 : decide (x18_2 < (l1.length : Int)) = true := decide_eq_true c8
                  clear c8
                  by_cases c9 : 0 ≤ x18_2
                  · rw [if_pos c9] at H
                    have c9b0 : decide (0 ≤ x18_2) = true := decide_eq_true c9
                    clear c9
                    by_cases c10 : x18_2 < (l1.length : Int)
                    · rw [if_pos c10] at H
                      have c10b0 : decide (x18_2 < (l1.length : Int)) = true := decide_eq_true c10
                      clear c10
                      by_cases c11 : ((rd_T48 l1 x18_2).f0).toList = ((rd_T37 l0 x12_1).f1).toList
                      · rw [if_pos c11] at H
                        have c11b0 : (((rd_T48 l1 x18_2).f0).toList == ((rd_T37 l0 x12_1).f1).toList) = true := beq_iff_eq.mpr c11
                        have c11b1 : (((rd_T48 l1 x18_2).f0).toList != ((rd_T37 l0 x12_1).f1).toList) = false := bne_eq_false_iff_eq.mpr c11
                        clear c11
                        have H' := Aside0.mk H
                        clear H
                        have p285 : 0 ≤ (x18_2 : Int) := of_decide_eq_true (by first | (with_reducible assumption) | assumption)
                        have q285 : x18_2 < (l1.length : Int) := of_decide_eq_true (by first | (with_reducible assumption) | assumption)
                        obtain ⟨ad285, e285, hx285_0, hx285_1⟩ := at_T48 HR1.out x18_2 p285 q285
                        cases e285
                        replace hx285_0 := (HB.out.cell (World.block_lt_of_cell? w _ hx285_0)).trans hx285_0
                        replace hx285_1 := (HB.out.cell (World.block_lt_of_cell? w _ hx285_1)).trans hx285_1
                        replace p285 := eq_true p285
                        replace q285 := eq_true q285
                        go_wp2_with (first | ((with_reducible refine gate_dst (N := 9) rfl ?_); refine box_event ?hg (N := 9) ?hd (cs := #[.string (⟨#[]⟩ : ByteArray), .string (⟨#[]⟩ : ByteArray)]) (t := 48) ?hr ?_; (case hd => rfl); (case hg => rfl); (case hr => first | (go_simp; done) | (go_simp; rfl)); intro gb286 hg w12 hbox hb; have n0_ := Aside0.mk (blk_below (g := gb284) (o := .cells #[.int .i64 ((rd_T37 l0 x12_1).f0), .string ((rd_T37 l0 x12_1).f1), .string ((rd_T37 l0 x12_1).f2)] 37 (0, 0)) (by (with_reducible repeat (first | refine blk_drewN ?_ _ | refine blk_drew ?_ | refine blk_alloc ?_ _)); exact BK284.out) hb); have n1_ := Aside0.mk (below_step (by repeat (first | (with_reducible first | exact HB.out | apply below_alloc | apply pw_below_drewN | apply below_drew1 | refine below_set ?_ GE284.out) | exact HB.out)) hb); have n2_ := Aside0.mk (hbox); have n3_ := Aside0.mk ((by rw [hg]; exact (below_size (by repeat (first | (with_reducible first | exact HB.out | apply below_alloc | apply pw_below_drewN | apply below_drew1 | refine below_set ?_ GE284.out) | exact HB.out))) : w.heap.size ≤ gb286)); have n4_ := Aside0.mk ((by rw [hg]; exact (below_size (by repeat (first | (with_reducible first | exact HB.out | apply below_alloc | apply pw_below_drewN | apply below_drew1 | refine below_set ?_ GE284.out) | exact HB.out))) : w.heap.size ≤ gb286)); have n5_ := Aside0.mk ((by rw [hg]; exact Nat.ne_of_lt (blk_lt (g := gb284) (o := .cells #[.int .i64 ((rd_T37 l0 x12_1).f0), .string ((rd_T37 l0 x12_1).f1), .string ((rd_T37 l0 x12_1).f2)] 37 (0, 0)) (by (with_reducible repeat (first | refine blk_drewN ?_ _ | refine blk_drew ?_ | refine blk_alloc ?_ _)); exact BK284.out)) : gb284 ≠ gb286)); have n6_ := Aside0.mk ((by rw [hg]; exact Nat.ne_of_gt (blk_lt (g := gb284) (o := .cells #[.int .i64 ((rd_T37 l0 x12_1).f0), .string ((rd_T37 l0 x12_1).f1), .string ((rd_T37 l0 x12_1).f2)] 37 (0, 0)) (by (with_reducible repeat (first | refine blk_drewN ?_ _ | refine blk_drew ?_ | refine blk_alloc ?_ _)); exact BK284.out)) : gb286 ≠ gb284)); clear BK284; clear HB; have BK284 := n0_; have HB := n1_; have BK286 := n2_; have GW286 := n3_; have GE286 := n4_; have NB284_286 := n5_; have NB286_284 := n6_; clear n0_ n1_ n2_ n3_ n4_ n5_ n6_; clear hb hbox hg; have hnb13 := NB286_284.out; have hnc13 := NB284_286.out; have hcz14_0 : w12.cell? ⟨gb286, 0, none⟩ = some (.string (⟨#[]⟩ : ByteArray)) := (blk_cell BK286.out 0).trans rfl; have hcz14_1 : w12.cell? ⟨gb286, 1, none⟩ = some (.string (⟨#[]⟩ : ByteArray)) := (blk_cell BK286.out 1).trans rfl; have hfz14_0 := blk_frozen BK286.out 0; have hfz14_1 := blk_frozen BK286.out 1; have hcz15_0 : w12.cell? ⟨gb284, 0, none⟩ = some (.int .i64 ((rd_T37 l0 x12_1).f0)) := (blk_cell BK284.out 0).trans rfl; have hcz15_1 : w12.cell? ⟨gb284, 1, none⟩ = some (.string ((rd_T37 l0 x12_1).f1)) := (blk_cell BK284.out 1).trans rfl; have hcz15_2 : w12.cell? ⟨gb284, 2, none⟩ = some (.string ((rd_T37 l0 x12_1).f2)) := (blk_cell BK284.out 2).trans rfl; have hfz15_0 := blk_frozen BK284.out 0; have hfz15_1 := blk_frozen BK284.out 1; have hfz15_2 := blk_frozen BK284.out 2))
                        go_roundg k2
                        case measure => have := HK1.out; have := HK2.out; omega
                        case rel => exact ⟨((rd_T48 l1 x18_2).f1), (wrap64 (x18_2 + 1)), (by first | rfl | (simp; done) | (simp [*]; done)), (by first | rfl | (simp; done) | (simp [*]; done)), H', ⟨by have := HK1.out; have := HK2.out; omega⟩, ⟨by (with_reducible repeat (first | refine blk_drewN ?_ _ | refine blk_drew ?_ | refine blk_alloc ?_ _)); refine blk_far ?_ NB284_286.out _; (with_reducible repeat (first | refine blk_drewN ?_ _ | refine blk_drew ?_ | refine blk_alloc ?_ _)); refine blk_far ?_ NB284_286.out _; (with_reducible repeat (first | refine blk_drewN ?_ _ | refine blk_drew ?_ | refine blk_alloc ?_ _)); exact BK284.out⟩, ⟨by repeat (first | (with_reducible first | exact HB.out | apply below_alloc | apply pw_below_drewN | apply below_drew1 | refine below_set ?_ GE284.out | refine below_set ?_ GE286.out) | exact HB.out)⟩⟩
                      · rw [if_neg c11] at H
                        have c11b0 : (((rd_T48 l1 x18_2).f0).toList == ((rd_T37 l0 x12_1).f1).toList) = false := beq_eq_false_iff_ne.mpr c11
                        have c11b1 : (((rd_T48 l1 x18_2).f0).toList != ((rd_T37 l0 x12_1).f1).toList) = true := bne_iff_ne.mpr c11
                        have H' := Aside0.mk H
                        clear H
                        have p285 : 0 ≤ (x18_2 : Int) := of_decide_eq_true (by first | (with_reducible assumption) | assumption)
                        have q285 : x18_2 < (l1.length : Int) := of_decide_eq_true (by first | (with_reducible assumption) | assumption)
                        obtain ⟨ad285, e285, hx285_0, hx285_1⟩ := at_T48 HR1.out x18_2 p285 q285
                        cases e285
                        replace hx285_0 := (HB.out.cell (World.block_lt_of_cell? w _ hx285_0)).trans hx285_0
                        replace hx285_1 := (HB.out.cell (World.block_lt_of_cell? w _ hx285_1)).trans hx285_1
                        replace p285 := eq_true p285
                        replace q285 := eq_true q285
                        go_wp2_with (first | ((with_reducible refine gate_dst (N := 9) rfl ?_); refine box_event ?hg (N := 9) ?hd (cs := #[.string (⟨#[]⟩ : ByteArray), .string (⟨#[]⟩ : ByteArray)]) (t := 48) ?hr ?_; (case hd => rfl); (case hg => rfl); (case hr => first | (go_simp; done) | (go_simp; rfl)); intro gb286 hg w16 hbox hb; have n0_ := Aside0.mk (blk_below (g := gb284) (o := .cells #[.int .i64 ((rd_T37 l0 x12_1).f0), .string ((rd_T37 l0 x12_1).f1), .string ((rd_T37 l0 x12_1).f2)] 37 (0, 0)) (by (with_reducible repeat (first | refine blk_drewN ?_ _ | refine blk_drew ?_ | refine blk_alloc ?_ _)); exact BK284.out) hb); have n1_ := Aside0.mk (below_step (by repeat (first | (with_reducible first | exact HB.out | apply below_alloc | apply pw_below_drewN | apply below_drew1 | refine below_set ?_ GE284.out) | exact HB.out)) hb); have n2_ := Aside0.mk (hbox); have n3_ := Aside0.mk ((by rw [hg]; exact (below_size (by repeat (first | (with_reducible first | exact HB.out | apply below_alloc | apply pw_below_drewN | apply below_drew1 | refine below_set ?_ GE284.out) | exact HB.out))) : w.heap.size ≤ gb286)); have n4_ := Aside0.mk ((by rw [hg]; exact (below_size (by repeat (first | (with_reducible first | exact HB.out | apply below_alloc | apply pw_below_drewN | apply below_drew1 | refine below_set ?_ GE284.out) | exact HB.out))) : w.heap.size ≤ gb286)); have n5_ := Aside0.mk ((by rw [hg]; exact Nat.ne_of_lt (blk_lt (g := gb284) (o := .cells #[.int .i64 ((rd_T37 l0 x12_1).f0), .string ((rd_T37 l0 x12_1).f1), .string ((rd_T37 l0 x12_1).f2)] 37 (0, 0)) (by (with_reducible repeat (first | refine blk_drewN ?_ _ | refine blk_drew ?_ | refine blk_alloc ?_ _)); exact BK284.out)) : gb284 ≠ gb286)); have n6_ := Aside0.mk ((by rw [hg]; exact Nat.ne_of_gt (blk_lt (g := gb284) (o := .cells #[.int .i64 ((rd_T37 l0 x12_1).f0), .string ((rd_T37 l0 x12_1).f1), .string ((rd_T37 l0 x12_1).f2)] 37 (0, 0)) (by (with_reducible repeat (first | refine blk_drewN ?_ _ | refine blk_drew ?_ | refine blk_alloc ?_ _)); exact BK284.out)) : gb286 ≠ gb284)); clear BK284; clear HB; have BK284 := n0_; have HB := n1_; have BK286 := n2_; have GW286 := n3_; have GE286 := n4_; have NB284_286 := n5_; have NB286_284 := n6_; clear n0_ n1_ n2_ n3_ n4_ n5_ n6_; clear hb hbox hg; have hnb17 := NB286_284.out; have hnc17 := NB284_286.out; have hcz18_0 : w16.cell? ⟨gb286, 0, none⟩ = some (.string (⟨#[]⟩ : ByteArray)) := (blk_cell BK286.out 0).trans rfl; have hcz18_1 : w16.cell? ⟨gb286, 1, none⟩ = some (.string (⟨#[]⟩ : ByteArray)) := (blk_cell BK286.out 1).trans rfl; have hfz18_0 := blk_frozen BK286.out 0; have hfz18_1 := blk_frozen BK286.out 1; have hcz19_0 : w16.cell? ⟨gb284, 0, none⟩ = some (.int .i64 ((rd_T37 l0 x12_1).f0)) := (blk_cell BK284.out 0).trans rfl; have hcz19_1 : w16.cell? ⟨gb284, 1, none⟩ = some (.string ((rd_T37 l0 x12_1).f1)) := (blk_cell BK284.out 1).trans rfl; have hcz19_2 : w16.cell? ⟨gb284, 2, none⟩ = some (.string ((rd_T37 l0 x12_1).f2)) := (blk_cell BK284.out 2).trans rfl; have hfz19_0 := blk_frozen BK284.out 0; have hfz19_1 := blk_frozen BK284.out 1; have hfz19_2 := blk_frozen BK284.out 2))
                        go_roundg k2
                        case measure => have := HK1.out; have := HK2.out; omega
                        case rel => exact ⟨(x7_2), (wrap64 (x18_2 + 1)), (by first | rfl | (simp; done) | (simp [*]; done)), (by first | rfl | (simp; done) | (simp [*]; done)), H', ⟨by have := HK1.out; have := HK2.out; omega⟩, ⟨by (with_reducible repeat (first | refine blk_drewN ?_ _ | refine blk_drew ?_ | refine blk_alloc ?_ _)); refine blk_far ?_ NB284_286.out _; (with_reducible repeat (first | refine blk_drewN ?_ _ | refine blk_drew ?_ | refine blk_alloc ?_ _)); refine blk_far ?_ NB284_286.out _; (with_reducible repeat (first | refine blk_drewN ?_ _ | refine blk_drew ?_ | refine blk_alloc ?_ _)); exact BK284.out⟩, ⟨by repeat (first | (with_reducible first | exact HB.out | apply below_alloc | apply pw_below_drewN | apply below_drew1 | refine below_set ?_ GE284.out | refine below_set ?_ GE286.out) | exact HB.out)⟩⟩
                    · rw [if_neg c10] at H
                      exact absurd H (by simp)
                  · rw [if_neg c9] at H
                    exact absurd H (by simp)
                · rw [if_neg c8] at H
                  have c8b0 : decide (x18_2 < (l1.length : Int)) = false := decide_eq_false c8
                  clear c8
                  by_cases c20 : ((x7_2.toList == ((rd_T37 l0 x12_1).f2).toList) != (((rd_T37 l0 x12_1).f0) == 0)) = true
                  · rw [if_pos c20] at H
                    have c20b0 : ((x7_2.toList == ((rd_T37 l0 x12_1).f2).toList) != (((rd_T37 l0 x12_1).f0) == 0)) = true := c20
                    (try (have c20b1 : decide ((x7_2.toList == ((rd_T37 l0 x12_1).f2).toList) = (((rd_T37 l0 x12_1).f0) == 0)) = false := by simpa using c20))
                    (try (have c20b2 : ((x7_2.toList == ((rd_T37 l0 x12_1).f2).toList) == (((rd_T37 l0 x12_1).f0) == 0)) = false := by simpa using c20))
                    (try (have c20b3 : ¬ ((x7_2.toList == ((rd_T37 l0 x12_1).f2).toList) = (((rd_T37 l0 x12_1).f0) == 0)) := by simpa using c20))
                    clear c20
                    obtain rfl := Option.some.inj H
                    have hcz21_0 : wr.cell? ⟨gb284, 0, none⟩ = some (.int .i64 ((rd_T37 l0 x12_1).f0)) := (blk_cell BK284.out 0).trans rfl
                    have hcz21_1 : wr.cell? ⟨gb284, 1, none⟩ = some (.string ((rd_T37 l0 x12_1).f1)) := (blk_cell BK284.out 1).trans rfl
                    have hcz21_2 : wr.cell? ⟨gb284, 2, none⟩ = some (.string ((rd_T37 l0 x12_1).f2)) := (blk_cell BK284.out 2).trans rfl
                    have hfz21_0 := blk_frozen BK284.out 0
                    have hfz21_1 := blk_frozen BK284.out 1
                    have hfz21_2 := blk_frozen BK284.out 2
                    go_wp2
                    go_ret
                    exact ⟨by first | rfl | (simp [errW_none, errW_some] <;> rfl) | (simp [*, errW_none, errW_some] <;> rfl), by repeat (first | (with_reducible first | exact HB.out | apply below_alloc | apply pw_below_drewN | apply below_drew1 | refine below_set ?_ GE284.out) | exact HB.out)⟩
                  · rw [if_neg c20] at H
                    have c20b0 : ((x7_2.toList == ((rd_T37 l0 x12_1).f2).toList) != (((rd_T37 l0 x12_1).f0) == 0)) = false := by simpa using c20
                    (try (have c20b1 : decide ((x7_2.toList == ((rd_T37 l0 x12_1).f2).toList) = (((rd_T37 l0 x12_1).f0) == 0)) = true := by simpa using c20))
                    (try (have c20b2 : ((x7_2.toList == ((rd_T37 l0 x12_1).f2).toList) == (((rd_T37 l0 x12_1).f0) == 0)) = true := by simpa using c20))
                    clear c20
                    have H' := Aside0.mk H
                    clear H
                    have hcz22_0 : wr.cell? ⟨gb284, 0, none⟩ = some (.int .i64 ((rd_T37 l0 x12_1).f0)) := (blk_cell BK284.out 0).trans rfl
                    have hcz22_1 : wr.cell? ⟨gb284, 1, none⟩ = some (.string ((rd_T37 l0 x12_1).f1)) := (blk_cell BK284.out 1).trans rfl
                    have hcz22_2 : wr.cell? ⟨gb284, 2, none⟩ = some (.string ((rd_T37 l0 x12_1).f2)) := (blk_cell BK284.out 2).trans rfl
                    have hfz22_0 := blk_frozen BK284.out 0
                    have hfz22_1 := blk_frozen BK284.out 1
                    have hfz22_2 := blk_frozen BK284.out 2
                    go_wp2
                    go_roundg k2
                    case measure => have := HK1.out; have := HK2.out; omega
                    case rel => exact ⟨(wrap64 (x12_1 + 1)), (by first | rfl | (simp; done) | (simp [*]; done)), H', ⟨by have := HK1.out; have := HK2.out; omega⟩, ⟨by repeat (first | (with_reducible first | exact HB.out | apply below_alloc | apply pw_below_drewN | apply below_drew1 | refine below_set ?_ GE284.out) | exact HB.out)⟩⟩
          · rw [if_neg c5] at H
            exact absurd H (by simp)
        · rw [if_neg c4] at H
          exact absurd H (by simp)
      · rw [if_neg c3] at H
        have c3b0 : decide (x12_1 < (l0.length : Int)) = false := decide_eq_false c3
        clear c3
        obtain rfl := Option.some.inj H
        go_wp2
        go_ret
        exact ⟨by first | rfl | (simp [errW_none, errW_some] <;> rfl) | (simp [*, errW_none, errW_some] <;> rfl), by repeat (first | (with_reducible first | exact HB.out | apply below_alloc | apply pw_below_drewN | apply below_drew1) | exact HB.out)⟩

end Go.Proofs.Ytbffhefeepmpcaa.Q
