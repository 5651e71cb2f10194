-- printed by this project's own program wip/tools/mkprint.py (the kit's print.py with hand-proved contracts put in)
import Derived.Test.YtenededepjfojaaDoorQx0
import Derived.Test.YtenededepjfojaaDoorQx2
namespace Go.Proofs.YtenededepjfojaaDoor.Q
open Go.RowKit Go.Proofs.YtenededepjfojaaDoorW.PrintWords Go.Proofs.YtenededepjfojaaDoorW.PrintLast Go.Proofs.YtenededepjfojaaDoorW.PrintMore
attribute [local go_sem] max2_int min2_int max_two min_two max_three min_three max_four min_four   -- for this text's walks alone
set_option linter.unusedVariables false
set_option linter.unusedSimpArgs false

/-! ### laws_simpleLabels: function 8 -/
mutual
def laws_simpleLabels.l0 : Nat → List (S26) → List (S26) → Int → Int → Option (Bool)
  | 0, _, _, _, _ => none
  | k + 1, x0, x9, x10, x11 => if x11 < x10 then (if 0 ≤ x11 then (if x11 < (x9.length : Int) then ((some (([(rd_T26 x9 x11).f0, (rd_T26 x9 x11).f1] : List ByteArray) : List ByteArray)).bind fun y113 => (laws_simpleLabels.l1 k x0 x9 x10 x11 y113 (y113.length : Int) 0 ((rd_T26 x9 x11).f0) ((rd_T26 x9 x11).f1))) else (none)) else (none)) else (some (decide ((x0.length : Int) ≤ 300)))
def laws_simpleLabels.l1 : Nat → List (S26) → List (S26) → Int → Int → List ByteArray → Int → Int → ByteArray → ByteArray → Option (Bool)
  | 0, _, _, _, _, _, _, _, _, _ => none
  | k + 1, x0, x9, x10, x11, x19, x20, x21, x113000, x113001 => if x21 < x20 then (if 0 ≤ x21 then (if x21 < (x19.length : Int) then (laws_simpleLabels.l2 k x0 (rdOf ByteArray.empty x19 x21) 0 x9 x10 x11 x19 x20 x21 x113000 x113001) else (none)) else (none)) else ((laws_legacy.f k x113000 false).bind fun t116 => (if t116 = true then (laws_simpleLabels.l0 k x0 x9 x10 (wrap64 (x11 + 1))) else (some false)))
def laws_simpleLabels.l2 : Nat → List (S26) → ByteArray → Int → List (S26) → Int → Int → List ByteArray → Int → Int → ByteArray → ByteArray → Option (Bool)
  | 0, _, _, _, _, _, _, _, _, _, _, _ => none
  | k + 1, x0, x6, x7, x9, x10, x11, x19, x20, x21, x113000, x113001 => if x7 < (x6.size : Int) then (if 0 ≤ x7 then (if (bt x6 x7) < 97 then (if (bt x6 x7) < 65 then (if (bt x6 x7) < 48 then (if (bt x6 x7) = 95 then (laws_simpleLabels.l2 k x0 x6 (wrap64 (x7 + 1)) x9 x10 x11 x19 x20 x21 x113000 x113001) else (if (bt x6 x7) = 32 then (laws_simpleLabels.l2 k x0 x6 (wrap64 (x7 + 1)) x9 x10 x11 x19 x20 x21 x113000 x113001) else (some false))) else (if (bt x6 x7) > 57 then (if (bt x6 x7) = 95 then (laws_simpleLabels.l2 k x0 x6 (wrap64 (x7 + 1)) x9 x10 x11 x19 x20 x21 x113000 x113001) else (if (bt x6 x7) = 32 then (laws_simpleLabels.l2 k x0 x6 (wrap64 (x7 + 1)) x9 x10 x11 x19 x20 x21 x113000 x113001) else (some false))) else (laws_simpleLabels.l2 k x0 x6 (wrap64 (x7 + 1)) x9 x10 x11 x19 x20 x21 x113000 x113001))) else (if (bt x6 x7) > 90 then (if (bt x6 x7) < 48 then (if (bt x6 x7) = 95 then (laws_simpleLabels.l2 k x0 x6 (wrap64 (x7 + 1)) x9 x10 x11 x19 x20 x21 x113000 x113001) else (if (bt x6 x7) = 32 then (laws_simpleLabels.l2 k x0 x6 (wrap64 (x7 + 1)) x9 x10 x11 x19 x20 x21 x113000 x113001) else (some false))) else (if (bt x6 x7) > 57 then (if (bt x6 x7) = 95 then (laws_simpleLabels.l2 k x0 x6 (wrap64 (x7 + 1)) x9 x10 x11 x19 x20 x21 x113000 x113001) else (if (bt x6 x7) = 32 then (laws_simpleLabels.l2 k x0 x6 (wrap64 (x7 + 1)) x9 x10 x11 x19 x20 x21 x113000 x113001) else (some false))) else (laws_simpleLabels.l2 k x0 x6 (wrap64 (x7 + 1)) x9 x10 x11 x19 x20 x21 x113000 x113001))) else (laws_simpleLabels.l2 k x0 x6 (wrap64 (x7 + 1)) x9 x10 x11 x19 x20 x21 x113000 x113001))) else (if (bt x6 x7) > 122 then (if (bt x6 x7) < 65 then (if (bt x6 x7) < 48 then (if (bt x6 x7) = 95 then (laws_simpleLabels.l2 k x0 x6 (wrap64 (x7 + 1)) x9 x10 x11 x19 x20 x21 x113000 x113001) else (if (bt x6 x7) = 32 then (laws_simpleLabels.l2 k x0 x6 (wrap64 (x7 + 1)) x9 x10 x11 x19 x20 x21 x113000 x113001) else (some false))) else (if (bt x6 x7) > 57 then (if (bt x6 x7) = 95 then (laws_simpleLabels.l2 k x0 x6 (wrap64 (x7 + 1)) x9 x10 x11 x19 x20 x21 x113000 x113001) else (if (bt x6 x7) = 32 then (laws_simpleLabels.l2 k x0 x6 (wrap64 (x7 + 1)) x9 x10 x11 x19 x20 x21 x113000 x113001) else (some false))) else (laws_simpleLabels.l2 k x0 x6 (wrap64 (x7 + 1)) x9 x10 x11 x19 x20 x21 x113000 x113001))) else (if (bt x6 x7) > 90 then (if (bt x6 x7) < 48 then (if (bt x6 x7) = 95 then (laws_simpleLabels.l2 k x0 x6 (wrap64 (x7 + 1)) x9 x10 x11 x19 x20 x21 x113000 x113001) else (if (bt x6 x7) = 32 then (laws_simpleLabels.l2 k x0 x6 (wrap64 (x7 + 1)) x9 x10 x11 x19 x20 x21 x113000 x113001) else (some false))) else (if (bt x6 x7) > 57 then (if (bt x6 x7) = 95 then (laws_simpleLabels.l2 k x0 x6 (wrap64 (x7 + 1)) x9 x10 x11 x19 x20 x21 x113000 x113001) else (if (bt x6 x7) = 32 then (laws_simpleLabels.l2 k x0 x6 (wrap64 (x7 + 1)) x9 x10 x11 x19 x20 x21 x113000 x113001) else (some false))) else (laws_simpleLabels.l2 k x0 x6 (wrap64 (x7 + 1)) x9 x10 x11 x19 x20 x21 x113000 x113001))) else (laws_simpleLabels.l2 k x0 x6 (wrap64 (x7 + 1)) x9 x10 x11 x19 x20 x21 x113000 x113001))) else (laws_simpleLabels.l2 k x0 x6 (wrap64 (x7 + 1)) x9 x10 x11 x19 x20 x21 x113000 x113001))) else (none)) else (laws_simpleLabels.l1 k x0 x9 x10 x11 x19 x20 (wrap64 (x21 + 1)) x113000 x113001)
end
def laws_simpleLabels.f (k : Nat) (l0 : List (S26)) : Option (Bool) := laws_simpleLabels.l0 k l0 l0 (l0.length : Int) 0
theorem laws_simpleLabels.mono_l : ∀ k, (∀ y0 y1 y2 y3, LeO (laws_simpleLabels.l0 k y0 y1 y2 y3) (laws_simpleLabels.l0 (k + 1) y0 y1 y2 y3)) ∧ (∀ y0 y1 y2 y3 y4 y5 y6 y7 y8, LeO (laws_simpleLabels.l1 k y0 y1 y2 y3 y4 y5 y6 y7 y8) (laws_simpleLabels.l1 (k + 1) y0 y1 y2 y3 y4 y5 y6 y7 y8)) ∧ (∀ y0 y1 y2 y3 y4 y5 y6 y7 y8 y9 y10, LeO (laws_simpleLabels.l2 k y0 y1 y2 y3 y4 y5 y6 y7 y8 y9 y10) (laws_simpleLabels.l2 (k + 1) y0 y1 y2 y3 y4 y5 y6 y7 y8 y9 y10))
  | 0 => ⟨fun _ _ _ _ r h => by simp [laws_simpleLabels.l0] at h, fun _ _ _ _ _ _ _ _ _ r h => by simp [laws_simpleLabels.l1] at h, fun _ _ _ _ _ _ _ _ _ _ _ r h => by simp [laws_simpleLabels.l2] at h⟩
  | k + 1 => by
    obtain ⟨ih0, ih1, ih2⟩ := laws_simpleLabels.mono_l k
    refine ⟨?_, ?_, ?_⟩
    · intro y0 y1 y2 y3
      unfold laws_simpleLabels.l0
      repeat' first
      | (with_reducible exact ih0 _ _ _ _)
      | (with_reducible exact ih1 _ _ _ _ _ _ _ _ _)
      | (with_reducible exact ih2 _ _ _ _ _ _ _ _ _ _ _)
      | (with_reducible exact laws_legacy.mono _ _ _)
      | (with_reducible exact LeO.refl _)
      | (with_reducible exact LeO.none _)
      | (with_reducible refine LeO.ite ?_ ?_)
      | (with_reducible refine LeO.bind ?_ (fun _ => ?_))
      | exact ih0 _ _ _ _
      | exact ih1 _ _ _ _ _ _ _ _ _
      | exact ih2 _ _ _ _ _ _ _ _ _ _ _
      | exact laws_legacy.mono _ _ _
      | exact LeO.none _
      | refine LeO.ite ?_ ?_
      | refine LeO.bind ?_ (fun _ => ?_)
    · intro y0 y1 y2 y3 y4 y5 y6 y7 y8
      unfold laws_simpleLabels.l1
      repeat' first
      | (with_reducible exact ih0 _ _ _ _)
      | (with_reducible exact ih1 _ _ _ _ _ _ _ _ _)
      | (with_reducible exact ih2 _ _ _ _ _ _ _ _ _ _ _)
      | (with_reducible exact laws_legacy.mono _ _ _)
      | (with_reducible exact LeO.refl _)
      | (with_reducible exact LeO.none _)
      | (with_reducible refine LeO.ite ?_ ?_)
      | (with_reducible refine LeO.bind ?_ (fun _ => ?_))
      | exact ih0 _ _ _ _
      | exact ih1 _ _ _ _ _ _ _ _ _
      | exact ih2 _ _ _ _ _ _ _ _ _ _ _
      | exact laws_legacy.mono _ _ _
      | exact LeO.none _
      | refine LeO.ite ?_ ?_
      | refine LeO.bind ?_ (fun _ => ?_)
    · intro y0 y1 y2 y3 y4 y5 y6 y7 y8 y9 y10
      unfold laws_simpleLabels.l2
      repeat' first
      | (with_reducible exact ih0 _ _ _ _)
      | (with_reducible exact ih1 _ _ _ _ _ _ _ _ _)
      | (with_reducible exact ih2 _ _ _ _ _ _ _ _ _ _ _)
      | (with_reducible exact laws_legacy.mono _ _ _)
      | (with_reducible exact LeO.refl _)
      | (with_reducible exact LeO.none _)
      | (with_reducible refine LeO.ite ?_ ?_)
      | (with_reducible refine LeO.bind ?_ (fun _ => ?_))
      | exact ih0 _ _ _ _
      | exact ih1 _ _ _ _ _ _ _ _ _
      | exact ih2 _ _ _ _ _ _ _ _ _ _ _
      | exact laws_legacy.mono _ _ _
      | exact LeO.none _
      | refine LeO.ite ?_ ?_
      | refine LeO.bind ?_ (fun _ => ?_)
theorem laws_simpleLabels.mono : ∀ a0 k, LeO (laws_simpleLabels.f k a0) (laws_simpleLabels.f (k + 1) a0) := by
  intro a0 k
  obtain ⟨ih0, ih1, ih2⟩ := laws_simpleLabels.mono_l k
  unfold laws_simpleLabels.f
  repeat' first
      | (with_reducible exact ih0 _ _ _ _)
      | (with_reducible exact ih1 _ _ _ _ _ _ _ _ _)
      | (with_reducible exact ih2 _ _ _ _ _ _ _ _ _ _ _)
      | (with_reducible exact laws_legacy.mono _ _ _)
      | (with_reducible exact LeO.refl _)
      | (with_reducible exact LeO.none _)
      | (with_reducible refine LeO.ite ?_ ?_)
      | (with_reducible refine LeO.bind ?_ (fun _ => ?_))
      | exact ih0 _ _ _ _
      | exact ih1 _ _ _ _ _ _ _ _ _
      | exact ih2 _ _ _ _ _ _ _ _ _ _ _
      | exact laws_legacy.mono _ _ _
      | exact LeO.none _
      | refine LeO.ite ?_ ?_
      | refine LeO.bind ?_ (fun _ => ?_)
set_option maxHeartbeats 8000000 in
set_option maxRecDepth 100000 in
theorem laws_simpleLabels.calls (k : Nat) (A0 : Option Addr) (c0 : Nat) (l0 : List (S26)) (r : Bool) (w : World) (hr0 : Kd.C k26 w A0 l0.length l0) (hc0 : l0.length ≤ c0) (h : laws_simpleLabels.f k l0 = some r) :
    Calls Tryd.prog 8 #[.slice A0 l0.length c0] w fun e w' => e = .returned (.bool r) ∧ Below w.heap.size w w' := by
  have hu26 := Tryd.underlying26
  have HR0 := Aside0.mk hr0
  have HC0 := Aside0.mk hc0
  clear hr0 hc0
  have HB := Aside0.mk (Below.refl w.heap.size w)
  have H : (laws_simpleLabels.l0 k l0 l0 (l0.length : Int) 0) = some r := h
  clear h
  have H' := Aside0.mk H
  clear H
  go_enter Tryd.func8, Tryd.ntmps8
  go_wp2
  go_loopg [11] k (fun kq v11 w' => ∃ (x11_1 : Int), v11 = .int .i64 x11_1 ∧ Aside0 (laws_simpleLabels.l0 kq l0 l0 (l0.length : Int) x11_1 = some r) ∧ Aside0 (kq ≤ k) ∧ Aside0 (Below w.heap.size w w'))
  case atStart => exact ⟨(0), (by first | rfl | (simp; done) | (simp [*]; done)), H', ⟨Nat.le_refl _⟩, ⟨by repeat (first | (with_reducible first | exact HB.out | apply below_alloc | apply pw_below_drewN | apply below_drew1) | exact HB.out)⟩⟩
  case round =>
    clear H'
    obtain ⟨x11_1, rfl, HA, HK1, HB⟩ := hrel
    cases gk with
    | zero => exact absurd HA.out (by simp [laws_simpleLabels.l0])
    | succ k1 =>
      have H := HA.out
      clear HA
      simp only [laws_simpleLabels.l0] at H
      by_cases c2 : x11_1 < (l0.length : Int)
      · rw [if_pos c2] at H
        have c2b0 : decide (x11_1 < (l0.length : Int)) = true := decide_eq_true c2
        clear c2
        by_cases c3 : 0 ≤ x11_1
        · rw [if_pos c3] at H
          have c3b0 : decide (0 ≤ x11_1) = true := decide_eq_true c3
          clear c3
          by_cases c4 : x11_1 < (l0.length : Int)
          · rw [if_pos c4] at H
            have c4b0 : decide (x11_1 < (l0.length : Int)) = true := decide_eq_true c4
            clear c4
            obtain ⟨y113, hy113⟩ : ∃ y_ : List ByteArray, y_ = (([(rd_T26 l0 x11_1).f0, (rd_T26 l0 x11_1).f1] : List ByteArray)) := ⟨_, rfl⟩
            replace H : (laws_simpleLabels.l1 k1 l0 l0 (l0.length : Int) x11_1 y113 (y113.length : Int) 0 ((rd_T26 l0 x11_1).f0) ((rd_T26 l0 x11_1).f1)) = some r := by first | (rw [hy113]; with_reducible exact H) | (have H2_ := (Option.bind_some _ _).symm.trans H; rw [hy113]; with_reducible exact H2_) | (have H2_ := (Option.bind_some _ _).symm.trans H; with_reducible exact H2_) | with_reducible exact H | (rw [hy113]; exact H) | exact H
            have Ny113 := Aside0.mk hy113
            clear hy113
            have H' := Aside0.mk H
            clear H
            have p111 : 0 ≤ (x11_1 : Int) := of_decide_eq_true (by first | (with_reducible assumption) | assumption)
            have q111 : x11_1 < (l0.length : Int) := of_decide_eq_true (by first | (with_reducible assumption) | assumption)
            obtain ⟨ad111, e111, hx111_0, hx111_1⟩ := at_T26 HR0.out x11_1 p111 q111
            cases e111
            replace hx111_0 := (HB.out.cell (World.block_lt_of_cell? w _ hx111_0)).trans hx111_0
            replace hx111_1 := (HB.out.cell (World.block_lt_of_cell? w _ hx111_1)).trans hx111_1
            replace p111 := eq_true p111
            replace q111 := eq_true q111
            go_wp2_with (first | ((with_reducible refine gate_dst (N := 4) rfl ?_); refine box_event ?hg (N := 4) ?hd (cs := #[.string (⟨#[]⟩ : ByteArray), .string (⟨#[]⟩ : ByteArray)]) (t := 26) ?hr ?_; (case hd => rfl); (case hg => rfl); (case hr => first | (go_simp; done) | (go_simp; rfl)); intro gb112 hg w5 hbox hb; have n0_ := Aside0.mk (below_step (by repeat (first | (with_reducible first | exact HB.out | apply below_alloc | apply pw_below_drewN | apply below_drew1) | exact HB.out)) hb); have n1_ := Aside0.mk (hbox); have n2_ := Aside0.mk ((by rw [hg]; exact (below_size (by repeat (first | (with_reducible first | exact HB.out | apply below_alloc | apply pw_below_drewN | apply below_drew1) | exact HB.out))) : w.heap.size ≤ gb112)); have n3_ := Aside0.mk ((by rw [hg]; exact (below_size (by repeat (first | (with_reducible first | exact HB.out | apply below_alloc | apply pw_below_drewN | apply below_drew1) | exact HB.out))) : w.heap.size ≤ gb112)); clear HB; have HB := n0_; have BK112 := n1_; have GW112 := n2_; have GE112 := n3_; clear n0_ n1_ n2_ n3_; clear hb hbox hg; have hcz6_0 : w5.cell? ⟨gb112, 0, none⟩ = some (.string (⟨#[]⟩ : ByteArray)) := (blk_cell BK112.out 0).trans rfl; have hcz6_1 : w5.cell? ⟨gb112, 1, none⟩ = some (.string (⟨#[]⟩ : ByteArray)) := (blk_cell BK112.out 1).trans rfl; have hfz6_0 := blk_frozen BK112.out 0; have hfz6_1 := blk_frozen BK112.out 1) | ((with_reducible refine gate_dst (N := 19) rfl ?_); refine Kd.R_lit Kd.string _ 9 ?hg (N := 19) ?hd (xs := ([(rd_T26 l0 x11_1).f0, (rd_T26 l0 x11_1).f1] : List ByteArray)) (inner := [.string ((rd_T26 l0 x11_1).f0), .string ((rd_T26 l0 x11_1).f1)]) (ok := fun _ => True) (okp := fun _ => True) ?hr ?hp (fun _ hk => hk) trivial (Below.refl _ _) (Nat.le_refl _) (by simp) ?_; (case hd => rfl); (case hg => rfl); (case hr => first | (go_simp; done) | (go_simp; rfl)); (case hp => exact (Reps.one (show Kd.M Kd.string _ _ _ ((rd_T26 l0 x11_1).f0) [.string ((rd_T26 l0 x11_1).f0)] from rfl) (Reps.one (show Kd.M Kd.string _ _ _ ((rd_T26 l0 x11_1).f1) [.string ((rd_T26 l0 x11_1).f1)] from rfl) (Reps.none _ _)))); intro v114 w7 ho8 hb hg_ hnew_; clear hg_ hnew_; (first | rw [← Ny113.out] at ho8 | (simp only [Int.reduceToNat] at ho8; rw [← Ny113.out] at ho8)); have n0_ := Aside0.mk (Kd.R_lower ho8 (below_size (by repeat (first | (with_reducible first | exact HB.out | apply below_alloc | apply pw_below_drewN | apply below_drew1 | refine below_set ?_ GE112.out) | exact HB.out)))); have n1_ := Aside0.mk (blk_below (g := gb112) (o := .cells #[.string ((rd_T26 l0 x11_1).f0), .string ((rd_T26 l0 x11_1).f1)] 26 (0, 0)) (by (with_reducible repeat (first | refine blk_drewN ?_ _ | refine blk_drew ?_ | refine blk_alloc ?_ _)); refine blk_put (cs := #[.string ((rd_T26 l0 x11_1).f0), .string (⟨#[]⟩ : ByteArray)]) ?_ 1 _ rfl; (with_reducible repeat (first | refine blk_drewN ?_ _ | refine blk_drew ?_ | refine blk_alloc ?_ _)); refine blk_put (cs := #[.string (⟨#[]⟩ : ByteArray), .string (⟨#[]⟩ : ByteArray)]) ?_ 0 _ rfl; (with_reducible repeat (first | refine blk_drewN ?_ _ | refine blk_drew ?_ | refine blk_alloc ?_ _)); exact BK112.out) hb); have n2_ := Aside0.mk (below_step (by repeat (first | (with_reducible first | exact HB.out | apply below_alloc | apply pw_below_drewN | apply below_drew1 | refine below_set ?_ GE112.out) | exact HB.out)) hb); clear BK112; clear HB; have HO115 := n0_; have BK112 := n1_; have HB := n2_; clear n0_ n1_ n2_; clear hb ho8; obtain ⟨Ao9, co9, eo9⟩ := Kd.R_slice HO115.out; subst eo9))
            go_loopg [21] k1 (fun kq v21 w' => ∃ (x21_2 : Int), v21 = .int .i64 x21_2 ∧ Aside0 (laws_simpleLabels.l1 kq l0 l0 (l0.length : Int) x11_1 y113 (y113.length : Int) x21_2 ((rd_T26 l0 x11_1).f0) ((rd_T26 l0 x11_1).f1) = some r) ∧ Aside0 (kq ≤ k1) ∧ Aside0 (Kd.R Kd.string 9 w' w.heap.size (fun _ => True) (.slice Ao9 y113.length co9) y113) ∧ Aside0 (w'.heap[gb112]? = some (.cells #[.string ((rd_T26 l0 x11_1).f0), .string ((rd_T26 l0 x11_1).f1)] 26 (0, 0))) ∧ Aside0 (Below w.heap.size w w'))
            case atStart => exact ⟨(0), (by first | rfl | (simp; done) | (simp [*]; done)), H', ⟨Nat.le_refl _⟩, ⟨by (with_reducible repeat (first | apply Kd.R_alloc | apply Kd.R_drewN | apply Kd.R_drew)); exact HO115.out⟩, ⟨by (with_reducible repeat (first | refine blk_drewN ?_ _ | refine blk_drew ?_ | refine blk_alloc ?_ _)); exact BK112.out⟩, ⟨by repeat (first | (with_reducible first | exact HB.out | apply below_alloc | apply pw_below_drewN | apply below_drew1 | refine below_set ?_ GE112.out) | exact HB.out)⟩⟩
            case round =>
              clear H'
              try clear p1
              try clear q1
              try clear hx1
              try clear c2
              try clear c2b0
              try clear p2
              try clear c3
              try clear c3b0
              try clear c4
              try clear c4b0
              try clear c8
              try clear hcz6_0
              try clear hcz6_1
              try clear hfz6_0
              try clear hfz6_1
              try clear hx111_0
              try clear hx111_1
              try clear p111
              try clear q111
              obtain ⟨x21_2, rfl, HA, HK2, HO_19, BK112, HB⟩ := hrel
              cases gk with
              | zero => exact absurd HA.out (by simp [laws_simpleLabels.l1])
              | succ k2 =>
                have H := HA.out
                clear HA
                simp only [laws_simpleLabels.l1] at H
                by_cases c10 : x21_2 < (y113.length : Int)
                · rw [if_pos c10] at H
                  have c10b0 : decide (x21_2 < (y113.length : Int)) = true := decide_eq_true c10
                  clear c10
                  by_cases c11 : 0 ≤ x21_2
                  · rw [if_pos c11] at H
                    have c11b0 : decide (0 ≤ x21_2) = true := decide_eq_true c11
                    clear c11
                    by_cases c12 : x21_2 < (y113.length : Int)
                    · rw [if_pos c12] at H
                      have c12b0 : decide (x21_2 < (y113.length : Int)) = true := decide_eq_true c12
                      clear c12
                      have H' := Aside0.mk H
                      clear H
                      have p117 : 0 ≤ (x21_2 : Int) := of_decide_eq_true (by first | (with_reducible assumption) | assumption)
                      have q117 : x21_2 < (y113.length : Int) := of_decide_eq_true (by first | (with_reducible assumption) | assumption)
                      obtain ⟨ad117, e117, hx117_0⟩ := Kd.at_string (Kd.R_reads' HO_19.out).2.2 x21_2 p117 q117
                      cases e117
                      replace p117 := eq_true p117
                      replace q117 := eq_true q117
                      go_wp2
                      go_loopg [7] k2 (fun kq v7 w' => ∃ (x7_3 : Int), v7 = .int .i64 x7_3 ∧ Aside0 (laws_simpleLabels.l2 kq l0 (rdOf ByteArray.empty y113 x21_2) x7_3 l0 (l0.length : Int) x11_1 y113 (y113.length : Int) x21_2 ((rd_T26 l0 x11_1).f0) ((rd_T26 l0 x11_1).f1) = some r) ∧ Aside0 (kq ≤ k2) ∧ Aside0 (Kd.R Kd.string 9 w' w.heap.size (fun _ => True) (.slice (some ad117) y113.length co9) y113) ∧ Aside0 (w'.heap[gb112]? = some (.cells #[.string ((rd_T26 l0 x11_1).f0), .string ((rd_T26 l0 x11_1).f1)] 26 (0, 0))) ∧ Aside0 (Below w.heap.size w w'))
                      case atStart => exact ⟨(0), (by first | rfl | (simp; done) | (simp [*]; done)), H', ⟨Nat.le_refl _⟩, ⟨by (with_reducible repeat (first | apply Kd.R_alloc | apply Kd.R_drewN | apply Kd.R_drew)); exact HO_19.out⟩, ⟨by (with_reducible repeat (first | refine blk_drewN ?_ _ | refine blk_drew ?_ | refine blk_alloc ?_ _)); exact BK112.out⟩, ⟨by repeat (first | (with_reducible first | exact HB.out | apply below_alloc | apply pw_below_drewN | apply below_drew1 | refine below_set ?_ GE112.out) | exact HB.out)⟩⟩
                      case round =>
                        clear H'
                        try clear c1
                        try clear p1
                        try clear q1
                        try clear hx1
                        try clear c2
                        try clear c2b0
                        try clear p2
                        try clear c3
                        try clear c3b0
                        try clear c4
                        try clear c4b0
                        try clear c8
                        try clear c10
                        try clear c10b0
                        try clear c11
                        try clear c11b0
                        try clear p11
                        try clear q11
                        try clear hx11
                        try clear c12
                        try clear c12b0
                        try clear hcz6_0
                        try clear hcz6_1
                        try clear hfz6_0
                        try clear hfz6_1
                        try clear hx111_0
                        try clear hx111_1
                        try clear hx117_0
                        try clear p1
                        try clear p111
                        try clear p117
                        try clear p2
                        try clear q1
                        try clear q111
                        try clear q117
                        obtain ⟨x7_3, rfl, HA, HK3, HO_19, BK112, HB⟩ := hrel
                        cases gk with
                        | zero => exact absurd HA.out (by simp [laws_simpleLabels.l2])
                        | succ k3 =>
                          have H := HA.out
                          clear HA
                          simp only [laws_simpleLabels.l2] at H
                          by_cases c13 : x7_3 < ((rdOf ByteArray.empty y113 x21_2).size : Int)
                          · rw [if_pos c13] at H
                            have c13b0 : decide (x7_3 < ((rdOf ByteArray.empty y113 x21_2).size : Int)) = true := decide_eq_true c13
                            clear c13
                            by_cases c14 : 0 ≤ x7_3
                            · rw [if_pos c14] at H
                              have c14b0 : decide (0 ≤ x7_3) = true := decide_eq_true c14
                              clear c14
                              by_cases c16 : (bt (rdOf ByteArray.empty y113 x21_2) x7_3) < 97
                              · rw [if_pos c16] at H
                                have c16b0 : decide ((bt (rdOf ByteArray.empty y113 x21_2) x7_3) < 97) = true := decide_eq_true c16
                                clear c16
                                by_cases c17 : (bt (rdOf ByteArray.empty y113 x21_2) x7_3) < 65
                                · rw [if_pos c17] at H
                                  have c17b0 : decide ((bt (rdOf ByteArray.empty y113 x21_2) x7_3) < 65) = true := decide_eq_true c17
                                  clear c17
                                  by_cases c18 : (bt (rdOf ByteArray.empty y113 x21_2) x7_3) < 48
                                  · rw [if_pos c18] at H
                                    have c18b0 : decide ((bt (rdOf ByteArray.empty y113 x21_2) x7_3) < 48) = true := decide_eq_true c18
                                    clear c18
                                    by_cases c19 : (bt (rdOf ByteArray.empty y113 x21_2) x7_3) = 95
                                    · rw [if_pos c19] at H
                                      have c19b0 : ((bt (rdOf ByteArray.empty y113 x21_2) x7_3) == 95) = true := beq_iff_eq.mpr c19
                                      have c19b1 : ((bt (rdOf ByteArray.empty y113 x21_2) x7_3) != 95) = false := bne_eq_false_iff_eq.mpr c19
                                      clear c19
                                      have H' := Aside0.mk H
                                      clear H
                                      have p15 : 0 ≤ (x7_3 : Int) := of_decide_eq_true (by first | (with_reducible assumption) | assumption)
                                      have q15 : x7_3 < ((rdOf ByteArray.empty y113 x21_2).size : Int) := of_decide_eq_true (by first | (with_reducible assumption) | assumption)
                                      have hx15 := bt_at (rdOf ByteArray.empty y113 x21_2) x7_3
                                      replace p15 := eq_true p15
                                      replace q15 := eq_true q15
                                      go_wp2
                                      go_roundg k3
                                      case measure => have := HK1.out; have := HK2.out; have := HK3.out; omega
                                      case rel => exact ⟨(wrap64 (x7_3 + 1)), (by first | rfl | (simp; done) | (simp [*]; done)), H', ⟨by have := HK1.out; have := HK2.out; have := HK3.out; omega⟩, ⟨by (with_reducible repeat (first | apply Kd.R_alloc | apply Kd.R_drewN | apply Kd.R_drew)); exact HO_19.out⟩, ⟨by (with_reducible repeat (first | refine blk_drewN ?_ _ | refine blk_drew ?_ | refine blk_alloc ?_ _)); exact BK112.out⟩, ⟨by repeat (first | (with_reducible first | exact HB.out | apply below_alloc | apply pw_below_drewN | apply below_drew1 | refine below_set ?_ GE112.out) | exact HB.out)⟩⟩
                                    · rw [if_neg c19] at H
                                      have c19b0 : ((bt (rdOf ByteArray.empty y113 x21_2) x7_3) == 95) = false := beq_eq_false_iff_ne.mpr c19
                                      have c19b1 : ((bt (rdOf ByteArray.empty y113 x21_2) x7_3) != 95) = true := bne_iff_ne.mpr c19
                                      by_cases c20 : (bt (rdOf ByteArray.empty y113 x21_2) x7_3) = 32
                                      · rw [if_pos c20] at H
                                        have c20b0 : ((bt (rdOf ByteArray.empty y113 x21_2) x7_3) == 32) = true := beq_iff_eq.mpr c20
                                        have c20b1 : ((bt (rdOf ByteArray.empty y113 x21_2) x7_3) != 32) = false := bne_eq_false_iff_eq.mpr c20
                                        clear c20
                                        have H' := Aside0.mk H
                                        clear H
                                        have p15 : 0 ≤ (x7_3 : Int) := of_decide_eq_true (by first | (with_reducible assumption) | assumption)
                                        have q15 : x7_3 < ((rdOf ByteArray.empty y113 x21_2).size : Int) := of_decide_eq_true (by first | (with_reducible assumption) | assumption)
                                        have hx15 := bt_at (rdOf ByteArray.empty y113 x21_2) x7_3
                                        replace p15 := eq_true p15
                                        replace q15 := eq_true q15
                                        go_wp2
                                        go_roundg k3
                                        case measure => have := HK1.out; have := HK2.out; have := HK3.out; omega
                                        case rel => exact ⟨(wrap64 (x7_3 + 1)), (by first | rfl | (simp; done) | (simp [*]; done)), H', ⟨by have := HK1.out; have := HK2.out; have := HK3.out; omega⟩, ⟨by (with_reducible repeat (first | apply Kd.R_alloc | apply Kd.R_drewN | apply Kd.R_drew)); exact HO_19.out⟩, ⟨by (with_reducible repeat (first | refine blk_drewN ?_ _ | refine blk_drew ?_ | refine blk_alloc ?_ _)); exact BK112.out⟩, ⟨by repeat (first | (with_reducible first | exact HB.out | apply below_alloc | apply pw_below_drewN | apply below_drew1 | refine below_set ?_ GE112.out) | exact HB.out)⟩⟩
                                      · rw [if_neg c20] at H
                                        have c20b0 : ((bt (rdOf ByteArray.empty y113 x21_2) x7_3) == 32) = false := beq_eq_false_iff_ne.mpr c20
                                        have c20b1 : ((bt (rdOf ByteArray.empty y113 x21_2) x7_3) != 32) = true := bne_iff_ne.mpr c20
                                        obtain rfl := Option.some.inj H
                                        have p15 : 0 ≤ (x7_3 : Int) := of_decide_eq_true (by first | (with_reducible assumption) | assumption)
                                        have q15 : x7_3 < ((rdOf ByteArray.empty y113 x21_2).size : Int) := of_decide_eq_true (by first | (with_reducible assumption) | assumption)
                                        have hx15 := bt_at (rdOf ByteArray.empty y113 x21_2) x7_3
                                        replace p15 := eq_true p15
                                        replace q15 := eq_true q15
                                        go_wp2
                                        go_ret
                                        exact ⟨by first | rfl | (simp [errW_none, errW_some] <;> rfl) | (simp [*, errW_none, errW_some] <;> rfl), by repeat (first | (with_reducible first | exact HB.out | apply below_alloc | apply pw_below_drewN | apply below_drew1 | refine below_set ?_ GE112.out) | exact HB.out)⟩
                                  · rw [if_neg c18] at H
                                    have c18b0 : decide ((bt (rdOf ByteArray.empty y113 x21_2) x7_3) < 48) = false := decide_eq_false c18
                                    clear c18
                                    by_cases c21 : (bt (rdOf ByteArray.empty y113 x21_2) x7_3) > 57
                                    · rw [if_pos c21] at H
                                      have c21b0 : decide (57 < (bt (rdOf ByteArray.empty y113 x21_2) x7_3)) = true := decide_eq_true c21
                                      clear c21
                                      by_cases c22 : (bt (rdOf ByteArray.empty y113 x21_2) x7_3) = 95
                                      · rw [if_pos c22] at H
                                        have c22b0 : ((bt (rdOf ByteArray.empty y113 x21_2) x7_3) == 95) = true := beq_iff_eq.mpr c22
                                        have c22b1 : ((bt (rdOf ByteArray.empty y113 x21_2) x7_3) != 95) = false := bne_eq_false_iff_eq.mpr c22
                                        clear c22
                                        have H' := Aside0.mk H
                                        clear H
                                        have p15 : 0 ≤ (x7_3 : Int) := of_decide_eq_true (by first | (with_reducible assumption) | assumption)
                                        have q15 : x7_3 < ((rdOf ByteArray.empty y113 x21_2).size : Int) := of_decide_eq_true (by first | (with_reducible assumption) | assumption)
                                        have hx15 := bt_at (rdOf ByteArray.empty y113 x21_2) x7_3
                                        replace p15 := eq_true p15
                                        replace q15 := eq_true q15
                                        go_wp2
                                        go_roundg k3
                                        case measure => have := HK1.out; have := HK2.out; have := HK3.out; omega
                                        case rel => exact ⟨(wrap64 (x7_3 + 1)), (by first | rfl | (simp; done) | (simp [*]; done)), H', ⟨by have := HK1.out; have := HK2.out; have := HK3.out; omega⟩, ⟨by (with_reducible repeat (first | apply Kd.R_alloc | apply Kd.R_drewN | apply Kd.R_drew)); exact HO_19.out⟩, ⟨by (with_reducible repeat (first | refine blk_drewN ?_ _ | refine blk_drew ?_ | refine blk_alloc ?_ _)); exact BK112.out⟩, ⟨by repeat (first | (with_reducible first | exact HB.out | apply below_alloc | apply pw_below_drewN | apply below_drew1 | refine below_set ?_ GE112.out) | exact HB.out)⟩⟩
                                      · rw [if_neg c22] at H
                                        have c22b0 : ((bt (rdOf ByteArray.empty y113 x21_2) x7_3) == 95) = false := beq_eq_false_iff_ne.mpr c22
                                        have c22b1 : ((bt (rdOf ByteArray.empty y113 x21_2) x7_3) != 95) = true := bne_iff_ne.mpr c22
                                        by_cases c23 : (bt (rdOf ByteArray.empty y113 x21_2) x7_3) = 32
                                        · rw [if_pos c23] at H
                                          have c23b0 : ((bt (rdOf ByteArray.empty y113 x21_2) x7_3) == 32) = true := beq_iff_eq.mpr c23
                                          have c23b1 : ((bt (rdOf ByteArray.empty y113 x21_2) x7_3) != 32) = false := bne_eq_false_iff_eq.mpr c23
                                          clear c23
                                          have H' := Aside0.mk H
                                          clear H
                                          have p15 : 0 ≤ (x7_3 : Int) := of_decide_eq_true (by first | (with_reducible assumption) | assumption)
                                          have q15 : x7_3 < ((rdOf ByteArray.empty y113 x21_2).size : Int) := of_decide_eq_true (by first | (with_reducible assumption) | assumption)
                                          have hx15 := bt_at (rdOf ByteArray.empty y113 x21_2) x7_3
                                          replace p15 := eq_true p15
                                          replace q15 := eq_true q15
                                          go_wp2
                                          go_roundg k3
                                          case measure => have := HK1.out; have := HK2.out; have := HK3.out; omega
                                          case rel => exact ⟨(wrap64 (x7_3 + 1)), (by first | rfl | (simp; done) | (simp [*]; done)), H', ⟨by have := HK1.out; have := HK2.out; have := HK3.out; omega⟩, ⟨by (with_reducible repeat (first | apply Kd.R_alloc | apply Kd.R_drewN | apply Kd.R_drew)); exact HO_19.out⟩, ⟨by (with_reducible repeat (first | refine blk_drewN ?_ _ | refine blk_drew ?_ | refine blk_alloc ?_ _)); exact BK112.out⟩, ⟨by repeat (first | (with_reducible first | exact HB.out | apply below_alloc | apply pw_below_drewN | apply below_drew1 | refine below_set ?_ GE112.out) | exact HB.out)⟩⟩
                                        · rw [if_neg c23] at H
                                          have c23b0 : ((bt (rdOf ByteArray.empty y113 x21_2) x7_3) == 32) = false := beq_eq_false_iff_ne.mpr c23
                                          have c23b1 : ((bt (rdOf ByteArray.empty y113 x21_2) x7_3) != 32) = true := bne_iff_ne.mpr c23
                                          obtain rfl := Option.some.inj H
                                          have p15 : 0 ≤ (x7_3 : Int) := of_decide_eq_true (by first | (with_reducible assumption) | assumption)
                                          have q15 : x7_3 < ((rdOf ByteArray.empty y113 x21_2).size : Int) := of_decide_eq_true (by first | (with_reducible assumption) | assumption)
                                          have hx15 := bt_at (rdOf ByteArray.empty y113 x21_2) x7_3
                                          replace p15 := eq_true p15
                                          replace q15 := eq_true q15
                                          go_wp2
                                          go_ret
                                          exact ⟨by first | rfl | (simp [errW_none, errW_some] <;> rfl) | (simp [*, errW_none, errW_some] <;> rfl), by repeat (first | (with_reducible first | exact HB.out | apply below_alloc | apply pw_below_drewN | apply below_drew1 | refine below_set ?_ GE112.out) | exact HB.out)⟩
                                    · rw [if_neg c21] at H
                                      have c21b0 : decide (57 < (bt (rdOf ByteArray.empty y113 x21_2) x7_3)) = false := decide_eq_false c21
                                      clear c21
                                      have H' := Aside0.mk H
                                      clear H
                                      have p15 : 0 ≤ (x7_3 : Int) := of_decide_eq_true (by first | (with_reducible assumption) | assumption)
                                      have q15 : x7_3 < ((rdOf ByteArray.empty y113 x21_2).size : Int) := of_decide_eq_true (by first | (with_reducible assumption) | assumption)
                                      have hx15 := bt_at (rdOf ByteArray.empty y113 x21_2) x7_3
                                      replace p15 := eq_true p15
                                      replace q15 := eq_true q15
                                      go_wp2
                                      go_roundg k3
                                      case measure => have := HK1.out; have := HK2.out; have := HK3.out; omega
                                      case rel => exact ⟨(wrap64 (x7_3 + 1)), (by first | rfl | (simp; done) | (simp [*]; done)), H', ⟨by have := HK1.out; have := HK2.out; have := HK3.out; omega⟩, ⟨by (with_reducible repeat (first | apply Kd.R_alloc | apply Kd.R_drewN | apply Kd.R_drew)); exact HO_19.out⟩, ⟨by (with_reducible repeat (first | refine blk_drewN ?_ _ | refine blk_drew ?_ | refine blk_alloc ?_ _)); exact BK112.out⟩, ⟨by repeat (first | (with_reducible first | exact HB.out | apply below_alloc | apply pw_below_drewN | apply below_drew1 | refine below_set ?_ GE112.out) | exact HB.out)⟩⟩
                                · rw [if_neg c17] at H
                                  have c17b0 : decide ((bt (rdOf ByteArray.empty y113 x21_2) x7_3) < 65) = false := decide_eq_false c17
                                  clear c17
                                  by_cases c24 : (bt (rdOf ByteArray.empty y113 x21_2) x7_3) > 90
                                  · rw [if_pos c24] at H
                                    have c24b0 : decide (90 < (bt (rdOf ByteArray.empty y113 x21_2) x7_3)) = true := decide_eq_true c24
                                    clear c24
                                    by_cases c25 : (bt (rdOf ByteArray.empty y113 x21_2) x7_3) < 48
                                    · rw [if_pos c25] at H
                                      have c25b0 : decide ((bt (rdOf ByteArray.empty y113 x21_2) x7_3) < 48) = true := decide_eq_true c25
                                      clear c25
                                      by_cases c26 : (bt (rdOf ByteArray.empty y113 x21_2) x7_3) = 95
                                      · rw [if_pos c26] at H
                                        have c26b0 : ((bt (rdOf ByteArray.empty y113 x21_2) x7_3) == 95) = true := beq_iff_eq.mpr c26
                                        have c26b1 : ((bt (rdOf ByteArray.empty y113 x21_2) x7_3) != 95) = false := bne_eq_false_iff_eq.mpr c26
                                        clear c26
                                        have H' := Aside0.mk H
                                        clear H
                                        have p15 : 0 ≤ (x7_3 : Int) := of_decide_eq_true (by first | (with_reducible assumption) | assumption)
                                        have q15 : x7_3 < ((rdOf ByteArray.empty y113 x21_2).size : Int) := of_decide_eq_true (by first | (with_reducible assumption) | assumption)
                                        have hx15 := bt_at (rdOf ByteArray.empty y113 x21_2) x7_3
                                        replace p15 := eq_true p15
                                        replace q15 := eq_true q15
                                        go_wp2
                                        go_roundg k3
                                        case measure => have := HK1.out; have := HK2.out; have := HK3.out; omega
                                        case rel => exact ⟨(wrap64 (x7_3 + 1)), (by first | rfl | (simp; done) | (simp [*]; done)), H', ⟨by have := HK1.out; have := HK2.out; have := HK3.out; omega⟩, ⟨by (with_reducible repeat (first | apply Kd.R_alloc | apply Kd.R_drewN | apply Kd.R_drew)); exact HO_19.out⟩, ⟨by (with_reducible repeat (first | refine blk_drewN ?_ _ | refine blk_drew ?_ | refine blk_alloc ?_ _)); exact BK112.out⟩, ⟨by repeat (first | (with_reducible first | exact HB.out | apply below_alloc | apply pw_below_drewN | apply below_drew1 | refine below_set ?_ GE112.out) | exact HB.out)⟩⟩
                                      · rw [if_neg c26] at H
                                        have c26b0 : ((bt (rdOf ByteArray.empty y113 x21_2) x7_3) == 95) = false := beq_eq_false_iff_ne.mpr c26
                                        have c26b1 : ((bt (rdOf ByteArray.empty y113 x21_2) x7_3) != 95) = true := bne_iff_ne.mpr c26
                                        by_cases c27 : (bt (rdOf ByteArray.empty y113 x21_2) x7_3) = 32
                                        · rw [if_pos c27] at H
                                          have c27b0 : ((bt (rdOf ByteArray.empty y113 x21_2) x7_3) == 32) = true := beq_iff_eq.mpr c27
                                          have c27b1 : ((bt (rdOf ByteArray.empty y113 x21_2) x7_3) != 32) = false := bne_eq_false_iff_eq.mpr c27
                                          clear c27
                                          have H' := Aside0.mk H
                                          clear H
                                          have p15 : 0 ≤ (x7_3 : Int) := of_decide_eq_true (by first | (with_reducible assumption) | assumption)
                                          have q15 : x7_3 < ((rdOf ByteArray.empty y113 x21_2).size : Int) := of_decide_eq_true (by first | (with_reducible assumption) | assumption)
                                          have hx15 := bt_at (rdOf ByteArray.empty y113 x21_2) x7_3
                                          replace p15 := eq_true p15
                                          replace q15 := eq_true q15
                                          go_wp2
                                          go_roundg k3
                                          case measure => have := HK1.out; have := HK2.out; have := HK3.out; omega
                                          case rel => exact ⟨(wrap64 (x7_3 + 1)), (by first | rfl | (simp; done) | (simp [*]; done)), H', ⟨by have := HK1.out; have := HK2.out; have := HK3.out; omega⟩, ⟨by (with_reducible repeat (first | apply Kd.R_alloc | apply Kd.R_drewN | apply Kd.R_drew)); exact HO_19.out⟩, ⟨by (with_reducible repeat (first | refine blk_drewN ?_ _ | refine blk_drew ?_ | refine blk_alloc ?_ _)); exact BK112.out⟩, ⟨by repeat (first | (with_reducible first | exact HB.out | apply below_alloc | apply pw_below_drewN | apply below_drew1 | refine below_set ?_ GE112.out) | exact HB.out)⟩⟩
                                        · rw [if_neg c27] at H
                                          have c27b0 : ((bt (rdOf ByteArray.empty y113 x21_2) x7_3) == 32) = false := beq_eq_false_iff_ne.mpr c27
                                          have c27b1 : ((bt (rdOf ByteArray.empty y113 x21_2) x7_3) != 32) = true := bne_iff_ne.mpr c27
                                          obtain rfl := Option.some.inj H
                                          have p15 : 0 ≤ (x7_3 : Int) := of_decide_eq_true (by first | (with_reducible assumption) | assumption)
                                          have q15 : x7_3 < ((rdOf ByteArray.empty y113 x21_2).size : Int) := of_decide_eq_true (by first | (with_reducible assumption) | assumption)
                                          have hx15 := bt_at (rdOf ByteArray.empty y113 x21_2) x7_3
                                          replace p15 := eq_true p15
                                          replace q15 := eq_true q15
                                          go_wp2
                                          go_ret
                                          exact ⟨by first | rfl | (simp [errW_none, errW_some] <;> rfl) | (simp [*, errW_none, errW_some] <;> rfl), by repeat (first | (with_reducible first | exact HB.out | apply below_alloc | apply pw_below_drewN | apply below_drew1 | refine below_set ?_ GE112.out) | exact HB.out)⟩
                                    · rw [if_neg c25] at H
                                      have c25b0 : decide ((bt (rdOf ByteArray.empty y113 x21_2) x7_3) < 48) = false := decide_eq_false c25
                                      clear c25
                                      by_cases c28 : (bt (rdOf ByteArray.empty y113 x21_2) x7_3) > 57
                                      · rw [if_pos c28] at H
                                        have c28b0 : decide (57 < (bt (rdOf ByteArray.empty y113 x21_2) x7_3)) = true := decide_eq_true c28
                                        clear c28
                                        by_cases c29 : (bt (rdOf ByteArray.empty y113 x21_2) x7_3) = 95
                                        · rw [if_pos c29] at H
                                          have c29b0 : ((bt (rdOf ByteArray.empty y113 x21_2) x7_3) == 95) = true := beq_iff_eq.mpr c29
                                          have c29b1 : ((bt (rdOf ByteArray.empty y113 x21_2) x7_3) != 95) = false := bne_eq_false_iff_eq.mpr c29
                                          clear c29
                                          have H' := Aside0.mk H
                                          clear H
                                          have p15 : 0 ≤ (x7_3 : Int) := of_decide_eq_true (by first | (with_reducible assumption) | assumption)
                                          have q15 : x7_3 < ((rdOf ByteArray.empty y113 x21_2).size : Int) := of_decide_eq_true (by first | (with_reducible assumption) | assumption)
                                          have hx15 := bt_at (rdOf ByteArray.empty y113 x21_2) x7_3
                                          replace p15 := eq_true p15
                                          replace q15 := eq_true q15
                                          go_wp2
                                          go_roundg k3
                                          case measure => have := HK1.out; have := HK2.out; have := HK3.out; omega
                                          case rel => exact ⟨(wrap64 (x7_3 + 1)), (by first | rfl | (simp; done) | (simp [*]; done)), H', ⟨by have := HK1.out; have := HK2.out; have := HK3.out; omega⟩, ⟨by (with_reducible repeat (first | apply Kd.R_alloc | apply Kd.R_drewN | apply Kd.R_drew)); exact HO_19.out⟩, ⟨by (with_reducible repeat (first | refine blk_drewN ?_ _ | refine blk_drew ?_ | refine blk_alloc ?_ _)); exact BK112.out⟩, ⟨by repeat (first | (with_reducible first | exact HB.out | apply below_alloc | apply pw_below_drewN | apply below_drew1 | refine below_set ?_ GE112.out) | exact HB.out)⟩⟩
                                        · rw [if_neg c29] at H
                                          have c29b0 : ((bt (rdOf ByteArray.empty y113 x21_2) x7_3) == 95) = false := beq_eq_false_iff_ne.mpr c29
                                          have c29b1 : ((bt (rdOf ByteArray.empty y113 x21_2) x7_3) != 95) = true := bne_iff_ne.mpr c29
                                          by_cases c30 : (bt (rdOf ByteArray.empty y113 x21_2) x7_3) = 32
                                          · rw [if_pos c30] at H
                                            have c30b0 : ((bt (rdOf ByteArray.empty y113 x21_2) x7_3) == 32) = true := beq_iff_eq.mpr c30
                                            have c30b1 : ((bt (rdOf ByteArray.empty y113 x21_2) x7_3) != 32) = false := bne_eq_false_iff_eq.mpr c30
                                            clear c30
                                            have H' := Aside0.mk H
                                            clear H
                                            have p15 : 0 ≤ (x7_3 : Int) := of_decide_eq_true (by first | (with_reducible assumption) | assumption)
                                            have q15 : x7_3 < ((rdOf ByteArray.empty y113 x21_2).size : Int) := of_decide_eq_true (by first | (with_reducible assumption) | assumption)
                                            have hx15 := bt_at (rdOf ByteArray.empty y113 x21_2) x7_3
                                            replace p15 := eq_true p15
                                            replace q15 := eq_true q15
                                            go_wp2
                                            go_roundg k3
                                            case measure => have := HK1.out; have := HK2.out; have := HK3.out; omega
                                            case rel => exact ⟨(wrap64 (x7_3 + 1)), (by first | rfl | (simp; done) | (simp [*]; done)), H', ⟨by have := HK1.out; have := HK2.out; have := HK3.out; omega⟩, ⟨by (with_reducible repeat (first | apply Kd.R_alloc | apply Kd.R_drewN | apply Kd.R_drew)); exact HO_19.out⟩, ⟨by (with_reducible repeat (first | refine blk_drewN ?_ _ | refine blk_drew ?_ | refine blk_alloc ?_ _)); exact BK112.out⟩, ⟨by repeat (first | (with_reducible first | exact HB.out | apply below_alloc | apply pw_below_drewN | apply below_drew1 | refine below_set ?_ GE112.out) | exact HB.out)⟩⟩
                                          · rw [if_neg c30] at H
                                            have c30b0 : ((bt (rdOf ByteArray.empty y113 x21_2) x7_3) == 32) = false := beq_eq_false_iff_ne.mpr c30
                                            have c30b1 : ((bt (rdOf ByteArray.empty y113 x21_2) x7_3) != 32) = true := bne_iff_ne.mpr c30
                                            obtain rfl := Option.some.inj H
                                            have p15 : 0 ≤ (x7_3 : Int) := of_decide_eq_true (by first | (with_reducible assumption) | assumption)
                                            have q15 : x7_3 < ((rdOf ByteArray.empty y113 x21_2).size : Int) := of_decide_eq_true (by first | (with_reducible assumption) | assumption)
                                            have hx15 := bt_at (rdOf ByteArray.empty y113 x21_2) x7_3
                                            replace p15 := eq_true p15
                                            replace q15 := eq_true q15
                                            go_wp2
                                            go_ret
                                            exact ⟨by first | rfl | (simp [errW_none, errW_some] <;> rfl) | (simp [*, errW_none, errW_some] <;> rfl), by repeat (first | (with_reducible first | exact HB.out | apply below_alloc | apply pw_below_drewN | apply below_drew1 | refine below_set ?_ GE112.out) | exact HB.out)⟩
                                      · rw [if_neg c28] at H
                                        have c28b0 : decide (57 < (bt (rdOf ByteArray.empty y113 x21_2) x7_3)) = false := decide_eq_false c28
                                        clear c28
                                        have H' := Aside0.mk H
                                        clear H
                                        have p15 : 0 ≤ (x7_3 : Int) := of_decide_eq_true (by first | (with_reducible assumption) | assumption)
                                        have q15 : x7_3 < ((rdOf ByteArray.empty y113 x21_2).size : Int) := of_decide_eq_true (by first | (with_reducible assumption) | assumption)
                                        have hx15 := bt_at (rdOf ByteArray.empty y113 x21_2) x7_3
                                        replace p15 := eq_true p15
                                        replace q15 := eq_true q15
                                        go_wp2
                                        go_roundg k3
                                        case measure => have := HK1.out; have := HK2.out; have := HK3.out; omega
                                        case rel => exact ⟨(wrap64 (x7_3 + 1)), (by first | rfl | (simp; done) | (simp [*]; done)), H', ⟨by have := HK1.out; have := HK2.out; have := HK3.out; omega⟩, ⟨by (with_reducible repeat (first | apply Kd.R_alloc | apply Kd.R_drewN | apply Kd.R_drew)); exact HO_19.out⟩, ⟨by (with_reducible repeat (first | refine blk_drewN ?_ _ | refine blk_drew ?_ | refine blk_alloc ?_ _)); exact BK112.out⟩, ⟨by repeat (first | (with_reducible first | exact HB.out | apply below_alloc | apply pw_below_drewN | apply below_drew1 | refine below_set ?_ GE112.out) | exact HB.out)⟩⟩
                                  · rw [if_neg c24] at H
                                    have c24b0 : decide (90 < (bt (rdOf ByteArray.empty y113 x21_2) x7_3)) = false := decide_eq_false c24
                                    clear c24
                                    have H' := Aside0.mk H
                                    clear H
                                    have p15 : 0 ≤ (x7_3 : Int) := of_decide_eq_true (by first | (with_reducible assumption) | assumption)
                                    have q15 : x7_3 < ((rdOf ByteArray.empty y113 x21_2).size : Int) := of_decide_eq_true (by first | (with_reducible assumption) | assumption)
                                    have hx15 := bt_at (rdOf ByteArray.empty y113 x21_2) x7_3
                                    replace p15 := eq_true p15
                                    replace q15 := eq_true q15
                                    go_wp2
                                    go_roundg k3
                                    case measure => have := HK1.out; have := HK2.out; have := HK3.out; omega
                                    case rel => exact ⟨(wrap64 (x7_3 + 1)), (by first | rfl | (simp; done) | (simp [*]; done)), H', ⟨by have := HK1.out; have := HK2.out; have := HK3.out; omega⟩, ⟨by (with_reducible repeat (first | apply Kd.R_alloc | apply Kd.R_drewN | apply Kd.R_drew)); exact HO_19.out⟩, ⟨by (with_reducible repeat (first | refine blk_drewN ?_ _ | refine blk_drew ?_ | refine blk_alloc ?_ _)); exact BK112.out⟩, ⟨by repeat (first | (with_reducible first | exact HB.out | apply below_alloc | apply pw_below_drewN | apply below_drew1 | refine below_set ?_ GE112.out) | exact HB.out)⟩⟩
                              · rw [if_neg c16] at H
                                have c16b0 : decide ((bt (rdOf ByteArray.empty y113 x21_2) x7_3) < 97) = false := decide_eq_false c16
                                clear c16
                                by_cases c31 : (bt (rdOf ByteArray.empty y113 x21_2) x7_3) > 122
                                · rw [if_pos c31] at H
                                  have c31b0 : decide (122 < (bt (rdOf ByteArray.empty y113 x21_2) x7_3)) = true := decide_eq_true c31
                                  clear c31
                                  by_cases c32 : (bt (rdOf ByteArray.empty y113 x21_2) x7_3) < 65
                                  · rw [if_pos c32] at H
                                    have c32b0 : decide ((bt (rdOf ByteArray.empty y113 x21_2) x7_3) < 65) = true := decide_eq_true c32
                                    clear c32
                                    by_cases c33 : (bt (rdOf ByteArray.empty y113 x21_2) x7_3) < 48
                                    · rw [if_pos c33] at H
                                      have c33b0 : decide ((bt (rdOf ByteArray.empty y113 x21_2) x7_3) < 48) = true := decide_eq_true c33
                                      clear c33
                                      by_cases c34 : (bt (rdOf ByteArray.empty y113 x21_2) x7_3) = 95
                                      · rw [if_pos c34] at H
                                        have c34b0 : ((bt (rdOf ByteArray.empty y113 x21_2) x7_3) == 95) = true := beq_iff_eq.mpr c34
                                        have c34b1 : ((bt (rdOf ByteArray.empty y113 x21_2) x7_3) != 95) = false := bne_eq_false_iff_eq.mpr c34
                                        clear c34
                                        have H' := Aside0.mk H
                                        clear H
                                        have p15 : 0 ≤ (x7_3 : Int) := of_decide_eq_true (by first | (with_reducible assumption) | assumption)
                                        have q15 : x7_3 < ((rdOf ByteArray.empty y113 x21_2).size : Int) := of_decide_eq_true (by first | (with_reducible assumption) | assumption)
                                        have hx15 := bt_at (rdOf ByteArray.empty y113 x21_2) x7_3
                                        replace p15 := eq_true p15
                                        replace q15 := eq_true q15
                                        go_wp2
                                        go_roundg k3
                                        case measure => have := HK1.out; have := HK2.out; have := HK3.out; omega
                                        case rel => exact ⟨(wrap64 (x7_3 + 1)), (by first | rfl | (simp; done) | (simp [*]; done)), H', ⟨by have := HK1.out; have := HK2.out; have := HK3.out; omega⟩, ⟨by (with_reducible repeat (first | apply Kd.R_alloc | apply Kd.R_drewN | apply Kd.R_drew)); exact HO_19.out⟩, ⟨by (with_reducible repeat (first | refine blk_drewN ?_ _ | refine blk_drew ?_ | refine blk_alloc ?_ _)); exact BK112.out⟩, ⟨by repeat (first | (with_reducible first | exact HB.out | apply below_alloc | apply pw_below_drewN | apply below_drew1 | refine below_set ?_ GE112.out) | exact HB.out)⟩⟩
                                      · rw [if_neg c34] at H
                                        have c34b0 : ((bt (rdOf ByteArray.empty y113 x21_2) x7_3) == 95) = false := beq_eq_false_iff_ne.mpr c34
                                        have c34b1 : ((bt (rdOf ByteArray.empty y113 x21_2) x7_3) != 95) = true := bne_iff_ne.mpr c34
                                        by_cases c35 : (bt (rdOf ByteArray.empty y113 x21_2) x7_3) = 32
                                        · rw [if_pos c35] at H
                                          have c35b0 : ((bt (rdOf ByteArray.empty y113 x21_2) x7_3) == 32) = true := beq_iff_eq.mpr c35
                                          have c35b1 : ((bt (rdOf ByteArray.empty y113 x21_2) x7_3) != 32) = false := bne_eq_false_iff_eq.mpr c35
                                          clear c35
                                          have H' := Aside0.mk H
                                          clear H
                                          have p15 : 0 ≤ (x7_3 : Int) := of_decide_eq_true (by first | (with_reducible assumption) | assumption)
                                          have q15 : x7_3 < ((rdOf ByteArray.empty y113 x21_2).size : Int) := of_decide_eq_true (by first | (with_reducible assumption) | assumption)
                                          have hx15 := bt_at (rdOf ByteArray.empty y113 x21_2) x7_3
                                          replace p15 := eq_true p15
                                          replace q15 := eq_true q15
                                          go_wp2
                                          go_roundg k3
                                          case measure => have := HK1.out; have := HK2.out; have := HK3.out; omega
                                          case rel => exact ⟨(wrap64 (x7_3 + 1)), (by first | rfl | (simp; done) | (simp [*]; done)), H', ⟨by have := HK1.out; have := HK2.out; have := HK3.out; omega⟩, ⟨by (with_reducible repeat (first | apply Kd.R_alloc | apply Kd.R_drewN | apply Kd.R_drew)); exact HO_19.out⟩, ⟨by (with_reducible repeat (first | refine blk_drewN ?_ _ | refine blk_drew ?_ | refine blk_alloc ?_ _)); exact BK112.out⟩, ⟨by repeat (first | (with_reducible first | exact HB.out | apply below_alloc | apply pw_below_drewN | apply below_drew1 | refine below_set ?_ GE112.out) | exact HB.out)⟩⟩
                                        · rw [if_neg c35] at H
                                          have c35b0 : ((bt (rdOf ByteArray.empty y113 x21_2) x7_3) == 32) = false := beq_eq_false_iff_ne.mpr c35
                                          have c35b1 : ((bt (rdOf ByteArray.empty y113 x21_2) x7_3) != 32) = true := bne_iff_ne.mpr c35
                                          obtain rfl := Option.some.inj H
                                          have p15 : 0 ≤ (x7_3 : Int) := of_decide_eq_true (by first | (with_reducible assumption) | assumption)
                                          have q15 : x7_3 < ((rdOf ByteArray.empty y113 x21_2).size : Int) := of_decide_eq_true (by first | (with_reducible assumption) | assumption)
                                          have hx15 := bt_at (rdOf ByteArray.empty y113 x21_2) x7_3
                                          replace p15 := eq_true p15
                                          replace q15 := eq_true q15
                                          go_wp2
                                          go_ret
                                          exact ⟨by first | rfl | (simp [errW_none, errW_some] <;> rfl) | (simp [*, errW_none, errW_some] <;> rfl), by repeat (first | (with_reducible first | exact HB.out | apply below_alloc | apply pw_below_drewN | apply below_drew1 | refine below_set ?_ GE112.out) | exact HB.out)⟩
                                    · rw [if_neg c33] at H
                                      have c33b0 : decide ((bt (rdOf ByteArray.empty y113 x21_2) x7_3) < 48) = false := decide_eq_false c33
                                      clear c33
                                      by_cases c36 : (bt (rdOf ByteArray.empty y113 x21_2) x7_3) > 57
                                      · rw [if_pos c36] at H
                                        have c36b0 : decide (57 < (bt (rdOf ByteArray.empty y113 x21_2) x7_3)) = true := decide_eq_true c36
                                        clear c36
                                        by_cases c37 : (bt (rdOf ByteArray.empty y113 x21_2) x7_3) = 95
                                        · rw [if_pos c37] at H
                                          have c37b0 : ((bt (rdOf ByteArray.empty y113 x21_2) x7_3) == 95) = true := beq_iff_eq.mpr c37
                                          have c37b1 : ((bt (rdOf ByteArray.empty y113 x21_2) x7_3) != 95) = false := bne_eq_false_iff_eq.mpr c37
                                          clear c37
                                          have H' := Aside0.mk H
                                          clear H
                                          have p15 : 0 ≤ (x7_3 : Int) := of_decide_eq_true (by first | (with_reducible assumption) | assumption)
                                          have q15 : x7_3 < ((rdOf ByteArray.empty y113 x21_2).size : Int) := of_decide_eq_true (by first | (with_reducible assumption) | assumption)
                                          have hx15 := bt_at (rdOf ByteArray.empty y113 x21_2) x7_3
                                          replace p15 := eq_true p15
                                          replace q15 := eq_true q15
                                          go_wp2
                                          go_roundg k3
                                          case measure => have := HK1.out; have := HK2.out; have := HK3.out; omega
                                          case rel => exact ⟨(wrap64 (x7_3 + 1)), (by first | rfl | (simp; done) | (simp [*]; done)), H', ⟨by have := HK1.out; have := HK2.out; have := HK3.out; omega⟩, ⟨by (with_reducible repeat (first | apply Kd.R_alloc | apply Kd.R_drewN | apply Kd.R_drew)); exact HO_19.out⟩, ⟨by (with_reducible repeat (first | refine blk_drewN ?_ _ | refine blk_drew ?_ | refine blk_alloc ?_ _)); exact BK112.out⟩, ⟨by repeat (first | (with_reducible first | exact HB.out | apply below_alloc | apply pw_below_drewN | apply below_drew1 | refine below_set ?_ GE112.out) | exact HB.out)⟩⟩
                                        · rw [if_neg c37] at H
                                          have c37b0 : ((bt (rdOf ByteArray.empty y113 x21_2) x7_3) == 95) = false := beq_eq_false_iff_ne.mpr c37
                                          have c37b1 : ((bt (rdOf ByteArray.empty y113 x21_2) x7_3) != 95) = true := bne_iff_ne.mpr c37
                                          by_cases c38 : (bt (rdOf ByteArray.empty y113 x21_2) x7_3) = 32
                                          · rw [if_pos c38] at H
                                            have c38b0 : ((bt (rdOf ByteArray.empty y113 x21_2) x7_3) == 32) = true := beq_iff_eq.mpr c38
                                            have c38b1 : ((bt (rdOf ByteArray.empty y113 x21_2) x7_3) != 32) = false := bne_eq_false_iff_eq.mpr c38
                                            clear c38
                                            have H' := Aside0.mk H
                                            clear H
                                            have p15 : 0 ≤ (x7_3 : Int) := of_decide_eq_true (by first | (with_reducible assumption) | assumption)
                                            have q15 : x7_3 < ((rdOf ByteArray.empty y113 x21_2).size : Int) := of_decide_eq_true (by first | (with_reducible assumption) | assumption)
                                            have hx15 := bt_at (rdOf ByteArray.empty y113 x21_2) x7_3
                                            replace p15 := eq_true p15
                                            replace q15 := eq_true q15
                                            go_wp2
                                            go_roundg k3
                                            case measure => have := HK1.out; have := HK2.out; have := HK3.out; omega
                                            case rel => exact ⟨(wrap64 (x7_3 + 1)), (by first | rfl | (simp; done) | (simp [*]; done)), H', ⟨by have := HK1.out; have := HK2.out; have := HK3.out; omega⟩, ⟨by (with_reducible repeat (first | apply Kd.R_alloc | apply Kd.R_drewN | apply Kd.R_drew)); exact HO_19.out⟩, ⟨by (with_reducible repeat (first | refine blk_drewN ?_ _ | refine blk_drew ?_ | refine blk_alloc ?_ _)); exact BK112.out⟩, ⟨by repeat (first | (with_reducible first | exact HB.out | apply below_alloc | apply pw_below_drewN | apply below_drew1 | refine below_set ?_ GE112.out) | exact HB.out)⟩⟩
                                          · rw [if_neg c38] at H
                                            have c38b0 : ((bt (rdOf ByteArray.empty y113 x21_2) x7_3) == 32) = false := beq_eq_false_iff_ne.mpr c38
                                            have c38b1 : ((bt (rdOf ByteArray.empty y113 x21_2) x7_3) != 32) = true := bne_iff_ne.mpr c38
                                            obtain rfl := Option.some.inj H
                                            have p15 : 0 ≤ (x7_3 : Int) := of_decide_eq_true (by first | (with_reducible assumption) | assumption)
                                            have q15 : x7_3 < ((rdOf ByteArray.empty y113 x21_2).size : Int) := of_decide_eq_true (by first | (with_reducible assumption) | assumption)
                                            have hx15 := bt_at (rdOf ByteArray.empty y113 x21_2) x7_3
                                            replace p15 := eq_true p15
                                            replace q15 := eq_true q15
                                            go_wp2
                                            go_ret
                                            exact ⟨by first | rfl | (simp [errW_none, errW_some] <;> rfl) | (simp [*, errW_none, errW_some] <;> rfl), by repeat (first | (with_reducible first | exact HB.out | apply below_alloc | apply pw_below_drewN | apply below_drew1 | refine below_set ?_ GE112.out) | exact HB.out)⟩
                                      · rw [if_neg c36] at H
                                        have c36b0 : decide (57 < (bt (rdOf ByteArray.empty y113 x21_2) x7_3)) = false := decide_eq_false c36
                                        clear c36
                                        have H' := Aside0.mk H
                                        clear H
                                        have p15 : 0 ≤ (x7_3 : Int) := of_decide_eq_true (by first | (with_reducible assumption) | assumption)
                                        have q15 : x7_3 < ((rdOf ByteArray.empty y113 x21_2).size : Int) := of_decide_eq_true (by first | (with_reducible assumption) | assumption)
                                        have hx15 := bt_at (rdOf ByteArray.empty y113 x21_2) x7_3
                                        replace p15 := eq_true p15
                                        replace q15 := eq_true q15
                                        go_wp2
                                        go_roundg k3
                                        case measure => have := HK1.out; have := HK2.out; have := HK3.out; omega
                                        case rel => exact ⟨(wrap64 (x7_3 + 1)), (by first | rfl | (simp; done) | (simp [*]; done)), H', ⟨by have := HK1.out; have := HK2.out; have := HK3.out; omega⟩, ⟨by (with_reducible repeat (first | apply Kd.R_alloc | apply Kd.R_drewN | apply Kd.R_drew)); exact HO_19.out⟩, ⟨by (with_reducible repeat (first | refine blk_drewN ?_ _ | refine blk_drew ?_ | refine blk_alloc ?_ _)); exact BK112.out⟩, ⟨by repeat (first | (with_reducible first | exact HB.out | apply below_alloc | apply pw_below_drewN | apply below_drew1 | refine below_set ?_ GE112.out) | exact HB.out)⟩⟩
                                  · rw [if_neg c32] at H
                                    have c32b0 : decide ((bt (rdOf ByteArray.empty y113 x21_2) x7_3) < 65) = false := decide_eq_false c32
                                    clear c32
                                    by_cases c39 : (bt (rdOf ByteArray.empty y113 x21_2) x7_3) > 90
                                    · rw [if_pos c39] at H
                                      have c39b0 : decide (90 < (bt (rdOf ByteArray.empty y113 x21_2) x7_3)) = true := decide_eq_true c39
                                      clear c39
                                      by_cases c40 : (bt (rdOf ByteArray.empty y113 x21_2) x7_3) < 48
                                      · rw [if_pos c40] at H
                                        have c40b0 : decide ((bt (rdOf ByteArray.empty y113 x21_2) x7_3) < 48) = true := decide_eq_true c40
                                        clear c40
                                        by_cases c41 : (bt (rdOf ByteArray.empty y113 x21_2) x7_3) = 95
                                        · rw [if_pos c41] at H
                                          have c41b0 : ((bt (rdOf ByteArray.empty y113 x21_2) x7_3) == 95) = true := beq_iff_eq.mpr c41
                                          have c41b1 : ((bt (rdOf ByteArray.empty y113 x21_2) x7_3) != 95) = false := bne_eq_false_iff_eq.mpr c41
                                          clear c41
                                          have H' := Aside0.mk H
                                          clear H
                                          have p15 : 0 ≤ (x7_3 : Int) := of_decide_eq_true (by first | (with_reducible assumption) | assumption)
                                          have q15 : x7_3 < ((rdOf ByteArray.empty y113 x21_2).size : Int) := of_decide_eq_true (by first | (with_reducible assumption) | assumption)
                                          have hx15 := bt_at (rdOf ByteArray.empty y113 x21_2) x7_3
                                          replace p15 := eq_true p15
                                          replace q15 := eq_true q15
                                          go_wp2
                                          go_roundg k3
                                          case measure => have := HK1.out; have := HK2.out; have := HK3.out; omega
                                          case rel => exact ⟨(wrap64 (x7_3 + 1)), (by first | rfl | (simp; done) | (simp [*]; done)), H', ⟨by have := HK1.out; have := HK2.out; have := HK3.out; omega⟩, ⟨by (with_reducible repeat (first | apply Kd.R_alloc | apply Kd.R_drewN | apply Kd.R_drew)); exact HO_19.out⟩, ⟨by (with_reducible repeat (first | refine blk_drewN ?_ _ | refine blk_drew ?_ | refine blk_alloc ?_ _)); exact BK112.out⟩, ⟨by repeat (first | (with_reducible first | exact HB.out | apply below_alloc | apply pw_below_drewN | apply below_drew1 | refine below_set ?_ GE112.out) | exact HB.out)⟩⟩
                                        · rw [if_neg c41] at H
                                          have c41b0 : ((bt (rdOf ByteArray.empty y113 x21_2) x7_3) == 95) = false := beq_eq_false_iff_ne.mpr c41
                                          have c41b1 : ((bt (rdOf ByteArray.empty y113 x21_2) x7_3) != 95) = true := bne_iff_ne.mpr c41
                                          by_cases c42 : (bt (rdOf ByteArray.empty y113 x21_2) x7_3) = 32
                                          · rw [if_pos c42] at H
                                            have c42b0 : ((bt (rdOf ByteArray.empty y113 x21_2) x7_3) == 32) = true := beq_iff_eq.mpr c42
                                            have c42b1 : ((bt (rdOf ByteArray.empty y113 x21_2) x7_3) != 32) = false := bne_eq_false_iff_eq.mpr c42
                                            clear c42
                                            have H' := Aside0.mk H
                                            clear H
                                            have p15 : 0 ≤ (x7_3 : Int) := of_decide_eq_true (by first | (with_reducible assumption) | assumption)
                                            have q15 : x7_3 < ((rdOf ByteArray.empty y113 x21_2).size : Int) := of_decide_eq_true (by first | (with_reducible assumption) | assumption)
                                            have hx15 := bt_at (rdOf ByteArray.empty y113 x21_2) x7_3
                                            replace p15 := eq_true p15
                                            replace q15 := eq_true q15
                                            go_wp2
                                            go_roundg k3
                                            case measure => have := HK1.out; have := HK2.out; have := HK3.out; omega
                                            case rel => exact ⟨(wrap64 (x7_3 + 1)), (by first | rfl | (simp; done) | (simp [*]; done)), H', ⟨by have := HK1.out; have := HK2.out; have := HK3.out; omega⟩, ⟨by (with_reducible repeat (first | apply Kd.R_alloc | apply Kd.R_drewN | apply Kd.R_drew)); exact HO_19.out⟩, ⟨by (with_reducible repeat (first | refine blk_drewN ?_ _ | refine blk_drew ?_ | refine blk_alloc ?_ _)); exact BK112.out⟩, ⟨by repeat (first | (with_reducible first | exact HB.out | apply below_alloc | apply pw_below_drewN | apply below_drew1 | refine below_set ?_ GE112.out) | exact HB.out)⟩⟩
                                          · rw [if_neg c42] at H
                                            have c42b0 : ((bt (rdOf ByteArray.empty y113 x21_2) x7_3) == 32) = false := beq_eq_false_iff_ne.mpr c42
                                            have c42b1 : ((bt (rdOf ByteArray.empty y113 x21_2) x7_3) != 32) = true := bne_iff_ne.mpr c42
                                            obtain rfl := Option.some.inj H
                                            have p15 : 0 ≤ (x7_3 : Int) := of_decide_eq_true (by first | (with_reducible assumption) | assumption)
                                            have q15 : x7_3 < ((rdOf ByteArray.empty y113 x21_2).size : Int) := of_decide_eq_true (by first | (with_reducible assumption) | assumption)
                                            have hx15 := bt_at (rdOf ByteArray.empty y113 x21_2) x7_3
                                            replace p15 := eq_true p15
                                            replace q15 := eq_true q15
                                            go_wp2
                                            go_ret
                                            exact ⟨by first | rfl | (simp [errW_none, errW_some] <;> rfl) | (simp [*, errW_none, errW_some] <;> rfl), by repeat (first | (with_reducible first | exact HB.out | apply below_alloc | apply pw_below_drewN | apply below_drew1 | refine below_set ?_ GE112.out) | exact HB.out)⟩
                                      · rw [if_neg c40] at H
                                        have c40b0 : decide ((bt (rdOf ByteArray.empty y113 x21_2) x7_3) < 48) = false := decide_eq_false c40
                                        clear c40
                                        by_cases c43 : (bt (rdOf ByteArray.empty y113 x21_2) x7_3) > 57
                                        · rw [if_pos c43] at H
                                          have c43b0 : decide (57 < (bt (rdOf ByteArray.empty y113 x21_2) x7_3)) = true := decide_eq_true c43
                                          clear c43
                                          by_cases c44 : (bt (rdOf ByteArray.empty y113 x21_2) x7_3) = 95
                                          · rw [if_pos c44] at H
                                            have c44b0 : ((bt (rdOf ByteArray.empty y113 x21_2) x7_3) == 95) = true := beq_iff_eq.mpr c44
                                            have c44b1 : ((bt (rdOf ByteArray.empty y113 x21_2) x7_3) != 95) = false := bne_eq_false_iff_eq.mpr c44
                                            clear c44
                                            have H' := Aside0.mk H
                                            clear H
                                            have p15 : 0 ≤ (x7_3 : Int) := of_decide_eq_true (by first | (with_reducible assumption) | assumption)
                                            have q15 : x7_3 < ((rdOf ByteArray.empty y113 x21_2).size : Int) := of_decide_eq_true (by first | (with_reducible assumption) | assumption)
                                            have hx15 := bt_at (rdOf ByteArray.empty y113 x21_2) x7_3
                                            replace p15 := eq_true p15
                                            replace q15 := eq_true q15
                                            go_wp2
                                            go_roundg k3
                                            case measure => have := HK1.out; have := HK2.out; have := HK3.out; omega
                                            case rel => exact ⟨(wrap64 (x7_3 + 1)), (by first | rfl | (simp; done) | (simp [*]; done)), H', ⟨by have := HK1.out; have := HK2.out; have := HK3.out; omega⟩, ⟨by (with_reducible repeat (first | apply Kd.R_alloc | apply Kd.R_drewN | apply Kd.R_drew)); exact HO_19.out⟩, ⟨by (with_reducible repeat (first | refine blk_drewN ?_ _ | refine blk_drew ?_ | refine blk_alloc ?_ _)); exact BK112.out⟩, ⟨by repeat (first | (with_reducible first | exact HB.out | apply below_alloc | apply pw_below_drewN | apply below_drew1 | refine below_set ?_ GE112.out) | exact HB.out)⟩⟩
                                          · rw [if_neg c44] at H
                                            have c44b0 : ((bt (rdOf ByteArray.empty y113 x21_2) x7_3) == 95) = false := beq_eq_false_iff_ne.mpr c44
                                            have c44b1 : ((bt (rdOf ByteArray.empty y113 x21_2) x7_3) != 95) = true := bne_iff_ne.mpr c44
                                            by_cases c45 : (bt (rdOf ByteArray.empty y113 x21_2) x7_3) = 32
                                            · rw [if_pos c45] at H
                                              have c45b0 : ((bt (rdOf ByteArray.empty y113 x21_2) x7_3) == 32) = true := beq_iff_eq.mpr c45
                                              have c45b1 : ((bt (rdOf ByteArray.empty y113 x21_2) x7_3) != 32) = false := bne_eq_false_iff_eq.mpr c45
                                              clear c45
                                              have H' := Aside0.mk H
                                              clear H
                                              have p15 : 0 ≤ (x7_3 : Int) := of_decide_eq_true (by first | (with_reducible assumption) | assumption)
                                              have q15 : x7_3 < ((rdOf ByteArray.empty y113 x21_2).size : Int) := of_decide_eq_true (by first | (with_reducible assumption) | assumption)
                                              have hx15 := bt_at (rdOf ByteArray.empty y113 x21_2) x7_3
                                              replace p15 := eq_true p15
                                              replace q15 := eq_true q15
                                              go_wp2
                                              go_roundg k3
                                              case measure => have := HK1.out; have := HK2.out; have := HK3.out; omega
                                              case rel => exact ⟨(wrap64 (x7_3 + 1)), (by first | rfl | (simp; done) | (simp [*]; done)), H', ⟨by have := HK1.out; have := HK2.out; have := HK3.out; omega⟩, ⟨by (with_reducible repeat (first | apply Kd.R_alloc | apply Kd.R_drewN | apply Kd.R_drew)); exact HO_19.out⟩, ⟨by (with_reducible repeat (first | refine blk_drewN ?_ _ | refine blk_drew ?_ | refine blk_alloc ?_ _)); exact BK112.out⟩, ⟨by repeat (first | (with_reducible first | exact HB.out | apply below_alloc | apply pw_below_drewN | apply below_drew1 | refine below_set ?_ GE112.out) | exact HB.out)⟩⟩
                                            · rw [if_neg c45] at H
                                              have c45b0 : ((bt (rdOf ByteArray.empty y113 x21_2) x7_3) == 32) = false := beq_eq_false_iff_ne.mpr c45
                                              have c45b1 : ((bt (rdOf ByteArray.empty y113 x21_2) x7_3) != 32) = true := bne_iff_ne.mpr c45
                                              obtain rfl := Option.some.inj H
                                              have p15 : 0 ≤ (x7_3 : Int) := of_decide_eq_true (by first | (with_reducible assumption) | assumption)
                                              have q15 : x7_3 < ((rdOf ByteArray.empty y113 x21_2).size : Int) := of_decide_eq_true (by first | (with_reducible assumption) | assumption)
                                              have hx15 := bt_at (rdOf ByteArray.empty y113 x21_2) x7_3
                                              replace p15 := eq_true p15
                                              replace q15 := eq_true q15
                                              go_wp2
                                              go_ret
                                              exact ⟨by first | rfl | (simp [errW_none, errW_some] <;> rfl) | (simp [*, errW_none, errW_some] <;> rfl), by repeat (first | (with_reducible first | exact HB.out | apply below_alloc | apply pw_below_drewN | apply below_drew1 | refine below_set ?_ GE112.out) | exact HB.out)⟩
                                        · rw [if_neg c43] at H
                                          have c43b0 : decide (57 < (bt (rdOf ByteArray.empty y113 x21_2) x7_3)) = false := decide_eq_false c43
                                          clear c43
                                          have H' := Aside0.mk H
                                          clear H
                                          have p15 : 0 ≤ (x7_3 : Int) := of_decide_eq_true (by first | (with_reducible assumption) | assumption)
                                          have q15 : x7_3 < ((rdOf ByteArray.empty y113 x21_2).size : Int) := of_decide_eq_true (by first | (with_reducible assumption) | assumption)
                                          have hx15 := bt_at (rdOf ByteArray.empty y113 x21_2) x7_3
                                          replace p15 := eq_true p15
                                          replace q15 := eq_true q15
                                          go_wp2
                                          go_roundg k3
                                          case measure => have := HK1.out; have := HK2.out; have := HK3.out; omega
                                          case rel => exact ⟨(wrap64 (x7_3 + 1)), (by first | rfl | (simp; done) | (simp [*]; done)), H', ⟨by have := HK1.out; have := HK2.out; have := HK3.out; omega⟩, ⟨by (with_reducible repeat (first | apply Kd.R_alloc | apply Kd.R_drewN | apply Kd.R_drew)); exact HO_19.out⟩, ⟨by (with_reducible repeat (first | refine blk_drewN ?_ _ | refine blk_drew ?_ | refine blk_alloc ?_ _)); exact BK112.out⟩, ⟨by repeat (first | (with_reducible first | exact HB.out | apply below_alloc | apply pw_below_drewN | apply below_drew1 | refine below_set ?_ GE112.out) | exact HB.out)⟩⟩
                                    · rw [if_neg c39] at H
                                      have c39b0 : decide (90 < (bt (rdOf ByteArray.empty y113 x21_2) x7_3)) = false := decide_eq_false c39
                                      clear c39
                                      have H' := Aside0.mk H
                                      clear H
                                      have p15 : 0 ≤ (x7_3 : Int) := of_decide_eq_true (by first | (with_reducible assumption) | assumption)
                                      have q15 : x7_3 < ((rdOf ByteArray.empty y113 x21_2).size : Int) := of_decide_eq_true (by first | (with_reducible assumption) | assumption)
                                      have hx15 := bt_at (rdOf ByteArray.empty y113 x21_2) x7_3
                                      replace p15 := eq_true p15
                                      replace q15 := eq_true q15
                                      go_wp2
                                      go_roundg k3
                                      case measure => have := HK1.out; have := HK2.out; have := HK3.out; omega
                                      case rel => exact ⟨(wrap64 (x7_3 + 1)), (by first | rfl | (simp; done) | (simp [*]; done)), H', ⟨by have := HK1.out; have := HK2.out; have := HK3.out; omega⟩, ⟨by (with_reducible repeat (first | apply Kd.R_alloc | apply Kd.R_drewN | apply Kd.R_drew)); exact HO_19.out⟩, ⟨by (with_reducible repeat (first | refine blk_drewN ?_ _ | refine blk_drew ?_ | refine blk_alloc ?_ _)); exact BK112.out⟩, ⟨by repeat (first | (with_reducible first | exact HB.out | apply below_alloc | apply pw_below_drewN | apply below_drew1 | refine below_set ?_ GE112.out) | exact HB.out)⟩⟩
                                · rw [if_neg c31] at H
                                  have c31b0 : decide (122 < (bt (rdOf ByteArray.empty y113 x21_2) x7_3)) = false := decide_eq_false c31
                                  clear c31
                                  have H' := Aside0.mk H
                                  clear H
                                  have p15 : 0 ≤ (x7_3 : Int) := of_decide_eq_true (by first | (with_reducible assumption) | assumption)
                                  have q15 : x7_3 < ((rdOf ByteArray.empty y113 x21_2).size : Int) := of_decide_eq_true (by first | (with_reducible assumption) | assumption)
                                  have hx15 := bt_at (rdOf ByteArray.empty y113 x21_2) x7_3
                                  replace p15 := eq_true p15
                                  replace q15 := eq_true q15
                                  go_wp2
                                  go_roundg k3
                                  case measure => have := HK1.out; have := HK2.out; have := HK3.out; omega
                                  case rel => exact ⟨(wrap64 (x7_3 + 1)), (by first | rfl | (simp; done) | (simp [*]; done)), H', ⟨by have := HK1.out; have := HK2.out; have := HK3.out; omega⟩, ⟨by (with_reducible repeat (first | apply Kd.R_alloc | apply Kd.R_drewN | apply Kd.R_drew)); exact HO_19.out⟩, ⟨by (with_reducible repeat (first | refine blk_drewN ?_ _ | refine blk_drew ?_ | refine blk_alloc ?_ _)); exact BK112.out⟩, ⟨by repeat (first | (with_reducible first | exact HB.out | apply below_alloc | apply pw_below_drewN | apply below_drew1 | refine below_set ?_ GE112.out) | exact HB.out)⟩⟩
                            · rw [if_neg c14] at H
                              exact absurd H (by simp)
                          · rw [if_neg c13] at H
                            have c13b0 : decide (x7_3 < ((rdOf ByteArray.empty y113 x21_2).size : Int)) = false := decide_eq_false c13
                            clear c13
                            have H' := Aside0.mk H
                            clear H
                            go_wp2
                            go_roundg k3
                            case measure => have := HK1.out; have := HK2.out; have := HK3.out; omega
                            case rel => exact ⟨(wrap64 (x21_2 + 1)), (by first | rfl | (simp; done) | (simp [*]; done)), H', ⟨by have := HK1.out; have := HK2.out; have := HK3.out; omega⟩, ⟨by (with_reducible repeat (first | apply Kd.R_alloc | apply Kd.R_drewN | apply Kd.R_drew)); exact HO_19.out⟩, ⟨by (with_reducible repeat (first | refine blk_drewN ?_ _ | refine blk_drew ?_ | refine blk_alloc ?_ _)); exact BK112.out⟩, ⟨by repeat (first | (with_reducible first | exact HB.out | apply below_alloc | apply pw_below_drewN | apply below_drew1 | refine below_set ?_ GE112.out) | exact HB.out)⟩⟩
                    · rw [if_neg c12] at H
                      exact absurd H (by simp)
                  · rw [if_neg c11] at H
                    exact absurd H (by simp)
                · rw [if_neg c10] at H
                  have c10b0 : decide (x21_2 < (y113.length : Int)) = false := decide_eq_false c10
                  clear c10
                  replace H := Option.bind_eq_some_iff.mp H
                  obtain ⟨t116, A460, H⟩ := H
                  replace H : (if t116 = true then (laws_simpleLabels.l0 k2 l0 l0 (l0.length : Int) (wrap64 (x11_1 + 1))) else (some false)) = some r := H
                  have A46 := Aside0.mk A460
                  clear A460
                  by_cases c47 : t116 = true
                  · subst c47
                    have H1 : (laws_simpleLabels.l0 k2 l0 l0 (l0.length : Int) (wrap64 (x11_1 + 1))) = some r := by rw [if_pos rfl] at H; exact H
                    clear H
                    have H := H1
                    clear H1
                    have H' := Aside0.mk H
                    clear H
                    have hcz48_0 : wr.cell? ⟨gb112, 0, none⟩ = some (.string ((rd_T26 l0 x11_1).f0)) := (blk_cell BK112.out 0).trans rfl
                    have hcz48_1 : wr.cell? ⟨gb112, 1, none⟩ = some (.string ((rd_T26 l0 x11_1).f1)) := (blk_cell BK112.out 1).trans rfl
                    have hfz48_0 := blk_frozen BK112.out 0
                    have hfz48_1 := blk_frozen BK112.out 1
                    go_wp2_with (first | ((with_reducible refine gate_callee (f := 11) rfl ?_); refine goesL_ (some 67) rfl rfl Tryd.func11 (by kernel_rfl) rfl #[.string ((rd_T26 l0 x11_1).f0), .bool false] rfl (by (try simp only [List.map_toArray, List.map_cons, List.map_nil]); first | done | rfl | (simp only [List.length_drop, List.length_take]; rfl)) ?_; (with_reducible refine (laws_legacy.calls k2 ((rd_T26 l0 x11_1).f0) false true _ A46.out).mono ?_); rintro e w' ⟨rfl, ⟨nd, rfl⟩⟩; refine ⟨_, rfl, ?_⟩))
                    go_roundg k2
                    case measure => have := HK1.out; have := HK2.out; omega
                    case rel => exact ⟨(wrap64 (x11_1 + 1)), (by first | rfl | (simp; done) | (simp [*]; done)), H', ⟨by have := HK1.out; have := HK2.out; omega⟩, ⟨by repeat (first | (with_reducible first | exact HB.out | apply below_alloc | apply pw_below_drewN | apply below_drew1 | refine below_set ?_ GE112.out) | exact HB.out)⟩⟩
                  · replace c47 := Bool.eq_false_iff.mpr c47
                    subst c47
                    have H1 : (some false) = some r := by rw [if_neg (show ¬ (false = true) by decide)] at H; exact H
                    clear H
                    have H := H1
                    clear H1
                    obtain rfl := Option.some.inj H
                    have hcz49_0 : wr.cell? ⟨gb112, 0, none⟩ = some (.string ((rd_T26 l0 x11_1).f0)) := (blk_cell BK112.out 0).trans rfl
                    have hcz49_1 : wr.cell? ⟨gb112, 1, none⟩ = some (.string ((rd_T26 l0 x11_1).f1)) := (blk_cell BK112.out 1).trans rfl
                    have hfz49_0 := blk_frozen BK112.out 0
                    have hfz49_1 := blk_frozen BK112.out 1
                    go_wp2_with (first | ((with_reducible refine gate_callee (f := 11) rfl ?_); refine goesL_ (some 67) rfl rfl Tryd.func11 (by kernel_rfl) rfl #[.string ((rd_T26 l0 x11_1).f0), .bool false] rfl (by (try simp only [List.map_toArray, List.map_cons, List.map_nil]); first | done | rfl | (simp only [List.length_drop, List.length_take]; rfl)) ?_; (with_reducible refine (laws_legacy.calls k2 ((rd_T26 l0 x11_1).f0) false false _ A46.out).mono ?_); rintro e w' ⟨rfl, ⟨nd, rfl⟩⟩; refine ⟨_, rfl, ?_⟩))
                    go_ret
                    exact ⟨by first | rfl | (simp [errW_none, errW_some] <;> rfl) | (simp [*, errW_none, errW_some] <;> rfl), by repeat (first | (with_reducible first | exact HB.out | apply below_alloc | apply pw_below_drewN | apply below_drew1 | refine below_set ?_ GE112.out) | exact HB.out)⟩
          · rw [if_neg c4] at H
            exact absurd H (by simp)
        · rw [if_neg c3] at H
          exact absurd H (by simp)
      · rw [if_neg c2] at H
        have c2b0 : decide (x11_1 < (l0.length : Int)) = false := decide_eq_false c2
        clear c2
        obtain rfl := Option.some.inj H
        go_wp2
        go_ret
        exact ⟨by first | rfl | (simp [errW_none, errW_some] <;> rfl) | (simp [*, errW_none, errW_some] <;> rfl), by repeat (first | (with_reducible first | exact HB.out | apply below_alloc | apply pw_below_drewN | apply below_drew1) | exact HB.out)⟩

end Go.Proofs.YtenededepjfojaaDoor.Q
