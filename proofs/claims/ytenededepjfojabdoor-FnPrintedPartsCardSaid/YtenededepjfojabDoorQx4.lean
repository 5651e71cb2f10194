-- printed by this project's own program wip/tools/mkprint.py (the kit's print.py with hand-proved contracts put in)
import Derived.Test.YtenededepjfojabDoorQx0
import Derived.Test.YtenededepjfojabDoorQx1
import Derived.Test.YtenededepjfojabDoorQx3
namespace Go.Proofs.YtenededepjfojabDoor.Q
open Go.RowKit Go.Proofs.YtenededepjfojabDoorW.PrintWords Go.Proofs.YtenededepjfojabDoorW.PrintLast Go.Proofs.YtenededepjfojabDoorW.PrintMore
attribute [local go_sem] max2_int min2_int max_two min_two max_three min_three max_four min_four   -- for this text's walks alone
set_option linter.unusedVariables false
set_option linter.unusedSimpArgs false

/-! ### laws_FnPrintedParts: function 3 -/
mutual
def laws_FnPrintedParts.l0 : Nat → List (S26) → List ByteArray → List (S26) → Int → Int → Option (Bool)
  | 0, _, _, _, _, _ => none
  | k + 1, x0, x3, x12, x13, x14 => if x14 < x13 then (if 0 ≤ x14 then (if x14 < (x12.length : Int) then (if ((rd_T26 x12 x14).f0) < 0 then (laws_FnPrintedParts.j1 k x0 x3 x12 x13 x14 true ((rd_T26 x12 x14).f0) ((rd_T26 x12 x14).f1) ((rd_T26 x12 x14).f2)) else (laws_FnPrintedParts.j1 k x0 x3 x12 x13 x14 (decide (((rd_T26 x12 x14).f0) > 1)) ((rd_T26 x12 x14).f0) ((rd_T26 x12 x14).f1) ((rd_T26 x12 x14).f2))) else (none)) else (none)) else ((impl_PrintMatchers.f k x0).bind fun t136 => ((laws_joined.f k x3 (⟨#[44]⟩ : ByteArray)).bind fun t137 => (if 1 + t137.size ≤ 9223372036854775807 then (if ((⟨#[123]⟩ : ByteArray) ++ t137).size + 1 ≤ 9223372036854775807 then (some (t136.toList == (((⟨#[123]⟩ : ByteArray) ++ t137) ++ (⟨#[125]⟩ : ByteArray)).toList)) else (none)) else (none))))
def laws_FnPrintedParts.j1 : Nat → List (S26) → List ByteArray → List (S26) → Int → Int → Bool → Int → ByteArray → ByteArray → Option (Bool)
  | 0, _, _, _, _, _, _, _, _, _ => none
  | k + 1, x0, x3, x12, x13, x14, x25, x140000, x140001, x140002 => if x25 = true then ((impl_PrintMatchers.f k ([] : List (S26))).bind fun t140 => (some (t140.toList == ([123, 125] : List UInt8)))) else ((impl_PrintMatcher.f k x140000 x140001 x140002).bind fun t141 => (if x3.length < 8796093022208 then (laws_FnPrintedParts.l0 k x0 (x3 ++ [t141]) x12 x13 (wrap64 (x14 + 1))) else (none)))
end
def laws_FnPrintedParts.f (k : Nat) (l0 : List (S26)) : Option (Bool) := (laws_zzFits3.f k l0).bind fun t135 => (if t135 = true then (if (l0.length : Int) > 1000 then (some true) else (laws_FnPrintedParts.l0 k l0 ([] : List ByteArray) l0 (l0.length : Int) 0)) else (some true))
theorem laws_FnPrintedParts.mono_l : ∀ k, (∀ y0 y1 y2 y3 y4, LeO (laws_FnPrintedParts.l0 k y0 y1 y2 y3 y4) (laws_FnPrintedParts.l0 (k + 1) y0 y1 y2 y3 y4)) ∧ (∀ y0 y1 y2 y3 y4 y5 y6 y7 y8, LeO (laws_FnPrintedParts.j1 k y0 y1 y2 y3 y4 y5 y6 y7 y8) (laws_FnPrintedParts.j1 (k + 1) y0 y1 y2 y3 y4 y5 y6 y7 y8))
  | 0 => ⟨fun _ _ _ _ _ r h => by simp [laws_FnPrintedParts.l0] at h, fun _ _ _ _ _ _ _ _ _ r h => by simp [laws_FnPrintedParts.j1] at h⟩
  | k + 1 => by
    obtain ⟨ih0, ih1⟩ := laws_FnPrintedParts.mono_l k
    refine ⟨?_, ?_⟩
    · intro y0 y1 y2 y3 y4
      unfold laws_FnPrintedParts.l0
      repeat' first
      | (with_reducible exact ih0 _ _ _ _ _)
      | (with_reducible exact ih1 _ _ _ _ _ _ _ _ _)
      | (with_reducible exact impl_PrintMatcher.mono _ _ _ _)
      | (with_reducible exact impl_PrintMatchers.mono _ _)
      | (with_reducible exact laws_joined.mono _ _ _)
      | (with_reducible exact laws_zzFits3.mono _ _)
      | (with_reducible exact LeO.refl _)
      | (with_reducible exact LeO.none _)
      | (with_reducible refine LeO.ite ?_ ?_)
      | (with_reducible refine LeO.bind ?_ (fun _ => ?_))
      | exact ih0 _ _ _ _ _
      | exact ih1 _ _ _ _ _ _ _ _ _
      | exact impl_PrintMatcher.mono _ _ _ _
      | exact impl_PrintMatchers.mono _ _
      | exact laws_joined.mono _ _ _
      | exact laws_zzFits3.mono _ _
      | exact LeO.none _
      | refine LeO.ite ?_ ?_
      | refine LeO.bind ?_ (fun _ => ?_)
    · intro y0 y1 y2 y3 y4 y5 y6 y7 y8
      unfold laws_FnPrintedParts.j1
      repeat' first
      | (with_reducible exact ih0 _ _ _ _ _)
      | (with_reducible exact ih1 _ _ _ _ _ _ _ _ _)
      | (with_reducible exact impl_PrintMatcher.mono _ _ _ _)
      | (with_reducible exact impl_PrintMatchers.mono _ _)
      | (with_reducible exact laws_joined.mono _ _ _)
      | (with_reducible exact laws_zzFits3.mono _ _)
      | (with_reducible exact LeO.refl _)
      | (with_reducible exact LeO.none _)
      | (with_reducible refine LeO.ite ?_ ?_)
      | (with_reducible refine LeO.bind ?_ (fun _ => ?_))
      | exact ih0 _ _ _ _ _
      | exact ih1 _ _ _ _ _ _ _ _ _
      | exact impl_PrintMatcher.mono _ _ _ _
      | exact impl_PrintMatchers.mono _ _
      | exact laws_joined.mono _ _ _
      | exact laws_zzFits3.mono _ _
      | exact LeO.none _
      | refine LeO.ite ?_ ?_
      | refine LeO.bind ?_ (fun _ => ?_)
theorem laws_FnPrintedParts.mono : ∀ a0 k, LeO (laws_FnPrintedParts.f k a0) (laws_FnPrintedParts.f (k + 1) a0) := by
  intro a0 k
  obtain ⟨ih0, ih1⟩ := laws_FnPrintedParts.mono_l k
  unfold laws_FnPrintedParts.f
  repeat' first
      | (with_reducible exact ih0 _ _ _ _ _)
      | (with_reducible exact ih1 _ _ _ _ _ _ _ _ _)
      | (with_reducible exact impl_PrintMatcher.mono _ _ _ _)
      | (with_reducible exact impl_PrintMatchers.mono _ _)
      | (with_reducible exact laws_joined.mono _ _ _)
      | (with_reducible exact laws_zzFits3.mono _ _)
      | (with_reducible exact LeO.refl _)
      | (with_reducible exact LeO.none _)
      | (with_reducible refine LeO.ite ?_ ?_)
      | (with_reducible refine LeO.bind ?_ (fun _ => ?_))
      | exact ih0 _ _ _ _ _
      | exact ih1 _ _ _ _ _ _ _ _ _
      | exact impl_PrintMatcher.mono _ _ _ _
      | exact impl_PrintMatchers.mono _ _
      | exact laws_joined.mono _ _ _
      | exact laws_zzFits3.mono _ _
      | exact LeO.none _
      | refine LeO.ite ?_ ?_
      | refine LeO.bind ?_ (fun _ => ?_)
set_option maxHeartbeats 8000000 in
set_option maxRecDepth 100000 in
theorem laws_FnPrintedParts.calls (k : Nat) (A0 : Option Addr) (c0 : Nat) (l0 : List (S26)) (r : Bool) (w : World) (hr0 : Kd.C k26 w A0 l0.length l0) (hc0 : l0.length ≤ c0) (hT_ : Go.Proofs.YtenededepjfojabDoor.Door.PT w) (h : laws_FnPrintedParts.f k l0 = some r) :
    Calls Tryd.prog 3 #[.slice A0 l0.length c0] w fun e w' => e = .returned (.bool r) ∧ Below w.heap.size w w' := by
  have HT_ := Aside0.mk hT_
  clear hT_
  have hu26 := Tryd.underlying26
  have HR0 := Aside0.mk hr0
  have HC0 := Aside0.mk hc0
  clear hr0 hc0
  have HB := Aside0.mk (Below.refl w.heap.size w)
  have H : ((laws_zzFits3.f k l0).bind fun t135 => (if t135 = true then (if (l0.length : Int) > 1000 then (some true) else (laws_FnPrintedParts.l0 k l0 ([] : List ByteArray) l0 (l0.length : Int) 0)) else (some true))) = some r := h
  clear h
  replace H := Option.bind_eq_some_iff.mp H
  obtain ⟨t135, A20, H⟩ := H
  replace H : (if t135 = true then (if (l0.length : Int) > 1000 then (some true) else (laws_FnPrintedParts.l0 k l0 ([] : List ByteArray) l0 (l0.length : Int) 0)) else (some true)) = some r := H
  have A2 := Aside0.mk A20
  clear A20
  by_cases c3 : t135 = true
  · subst c3
    have H1 : (if (l0.length : Int) > 1000 then (some true) else (laws_FnPrintedParts.l0 k l0 ([] : List ByteArray) l0 (l0.length : Int) 0)) = some r := by rw [if_pos rfl] at H; exact H
    clear H
    have H := H1
    clear H1
    by_cases c4 : (l0.length : Int) > 1000
    · rw [if_pos c4] at H
      have c4b0 : decide (1000 < (l0.length : Int)) = true := decide_eq_true c4
      have c4b1 : decide (1000 < l0.length) = true := decide_eq_true (by omega)
      clear c4
      obtain rfl := Option.some.inj H
      go_enter Tryd.func3, Tryd.ntmps3
      go_wp2_with (first | ((with_reducible refine gate_callee (f := 4) rfl ?_); refine goesL_ (some 7) rfl rfl Tryd.func4 (by kernel_rfl) rfl #[.slice A0 l0.length c0] rfl (by (try simp only [List.map_toArray, List.map_cons, List.map_nil]); first | done | rfl | (simp only [List.length_drop, List.length_take]; rfl)) ?_; (with_reducible refine (laws_zzFits3.calls k _ _ l0 true _ ?side1 ?side2 A2.out).mono ?_); (case side1 => repeat (first | exact HR0.out | (with_reducible refine Kd.C_alloc ?_ _) | (with_reducible refine Kd.C_drewN ?_ _) | (with_reducible refine Kd.C_drew ?_))); (case side2 => exact HC0.out); rintro e w5 ⟨rfl, hb⟩; refine ⟨_, rfl, ?_⟩; have n0_ := Aside0.mk (below_step (by repeat (first | (with_reducible first | exact HB.out | apply below_alloc | apply pw_below_drewN | apply below_drew1) | exact HB.out)) hb); clear HB; have HB := n0_; clear n0_; (try clear hb); (try clear hb2); (try clear hk); (try clear hi)))
      go_ret
      exact ⟨by first | rfl | (simp [errW_none, errW_some] <;> rfl) | (simp [*, errW_none, errW_some] <;> rfl), by repeat (first | (with_reducible first | exact HB.out | apply below_alloc | apply pw_below_drewN | apply below_drew1) | exact HB.out)⟩
    · rw [if_neg c4] at H
      have c4b0 : decide (1000 < (l0.length : Int)) = false := decide_eq_false c4
      have c4b1 : decide (1000 < l0.length) = false := decide_eq_false (by omega)
      clear c4
      have H' := Aside0.mk H
      clear H
      go_enter Tryd.func3, Tryd.ntmps3
      go_wp2_with (first | ((with_reducible refine gate_callee (f := 4) rfl ?_); refine goesL_ (some 7) rfl rfl Tryd.func4 (by kernel_rfl) rfl #[.slice A0 l0.length c0] rfl (by (try simp only [List.map_toArray, List.map_cons, List.map_nil]); first | done | rfl | (simp only [List.length_drop, List.length_take]; rfl)) ?_; (with_reducible refine (laws_zzFits3.calls k _ _ l0 true _ ?side1 ?side2 A2.out).mono ?_); (case side1 => repeat (first | exact HR0.out | (with_reducible refine Kd.C_alloc ?_ _) | (with_reducible refine Kd.C_drewN ?_ _) | (with_reducible refine Kd.C_drew ?_))); (case side2 => exact HC0.out); rintro e w6 ⟨rfl, hb⟩; refine ⟨_, rfl, ?_⟩; have n0_ := Aside0.mk (below_step (by repeat (first | (with_reducible first | exact HB.out | apply below_alloc | apply pw_below_drewN | apply below_drew1) | exact HB.out)) hb); clear HB; have HB := n0_; clear n0_; (try clear hb); (try clear hb2); (try clear hk); (try clear hi)))
      go_loopg [3, 14] k (fun kq v3 v14 w' => ∃ (x3_1 : List ByteArray) (x14_1 : Int), v14 = .int .i64 x14_1 ∧ Aside0 (laws_FnPrintedParts.l0 kq l0 x3_1 l0 (l0.length : Int) x14_1 = some r) ∧ Aside0 (kq ≤ k) ∧ Aside0 (Kd.R Kd.string 9 w' w.heap.size (fun _ => True) v3 x3_1) ∧ Aside0 (Below w.heap.size w w'))
      case atStart => exact ⟨(([] : List ByteArray)), (0), (by first | rfl | (simp; done) | (simp [*]; done)), H', ⟨Nat.le_refl _⟩, ⟨by first | exact Kd.R_nil _ _ _ _ _ | exact Kd.N_nil _ _ _ _ _ | exact Kd.V_nil _ _ _ _ _ | exact Kd.Q_nil _ _ _ _ _ | exact Kd.S_nil _ _ _ _ _⟩, ⟨by repeat (first | (with_reducible first | exact HB.out | apply below_alloc | apply pw_below_drewN | apply below_drew1) | exact HB.out)⟩⟩
      case round =>
        clear H'
        try clear p2
        try clear c3
        try clear c4
        try clear c4b0
        try clear c4b1
        obtain ⟨x3_1, x14_1, rfl, HA, HK1, HO_3, HB⟩ := hrel
        cases gk with
        | zero => exact absurd HA.out (by simp [laws_FnPrintedParts.l0])
        | succ k1 =>
          have H := HA.out
          clear HA
          simp only [laws_FnPrintedParts.l0] at H
          by_cases c7 : x14_1 < (l0.length : Int)
          · rw [if_pos c7] at H
            have c7b0 : decide (x14_1 < (l0.length : Int)) = true := decide_eq_true c7
            clear c7
            by_cases c8 : 0 ≤ x14_1
            · rw [if_pos c8] at H
              have c8b0 : decide (0 ≤ x14_1) = true := decide_eq_true c8
              clear c8
              by_cases c9 : x14_1 < (l0.length : Int)
              · rw [if_pos c9] at H
                have c9b0 : decide (x14_1 < (l0.length : Int)) = true := decide_eq_true c9
                clear c9
                have HC10 := Aside0.mk H
                clear H
                have p138 : 0 ≤ (x14_1 : Int) := of_decide_eq_true (by first | (with_reducible assumption) | assumption)
                have q138 : x14_1 < (l0.length : Int) := of_decide_eq_true (by first | (with_reducible assumption) | assumption)
                obtain ⟨ad138, e138, hx138_0, hx138_1, hx138_2⟩ := at_T26 HR0.out x14_1 p138 q138
                cases e138
                replace hx138_0 := (HB.out.cell (World.block_lt_of_cell? w _ hx138_0)).trans hx138_0
                replace hx138_1 := (HB.out.cell (World.block_lt_of_cell? w _ hx138_1)).trans hx138_1
                replace hx138_2 := (HB.out.cell (World.block_lt_of_cell? w _ hx138_2)).trans hx138_2
                replace p138 := eq_true p138
                replace q138 := eq_true q138
                go_upto_region 9 with (first | ((with_reducible refine gate_dst (N := 5) rfl ?_); refine box_event ?hg (N := 5) ?hd (cs := #[.int .i64 0, .string (⟨#[]⟩ : ByteArray), .string (⟨#[]⟩ : ByteArray)]) (t := 26) ?hr ?_; (case hd => rfl); (case hg => rfl); (case hr => first | (go_simp; done) | (go_simp; rfl)); intro gb139 hg w11 hbox hb; have n0_ := Aside0.mk (Kd.R_below (by (with_reducible repeat (first | apply Kd.R_alloc | apply Kd.R_drewN | apply Kd.R_drew)); exact HO_3.out) hb); have n1_ := Aside0.mk (below_step (by repeat (first | (with_reducible first | exact HB.out | apply below_alloc | apply pw_below_drewN | apply below_drew1) | exact HB.out)) hb); have n2_ := Aside0.mk (hbox); have n3_ := Aside0.mk ((by rw [hg]; exact (below_size (by repeat (first | (with_reducible first | exact HB.out | apply below_alloc | apply pw_below_drewN | apply below_drew1) | exact HB.out))) : w.heap.size ≤ gb139)); have n4_ := Aside0.mk ((by rw [hg]; exact (below_size (by repeat (first | (with_reducible first | exact HB.out | apply below_alloc | apply pw_below_drewN | apply below_drew1) | exact HB.out))) : w.heap.size ≤ gb139)); clear HO_3; clear HB; have HO_3 := n0_; have HB := n1_; have BK139 := n2_; have GW139 := n3_; have GE139 := n4_; clear n0_ n1_ n2_ n3_ n4_; clear hb hbox hg; have hcz12_0 : w11.cell? ⟨gb139, 0, none⟩ = some (.int .i64 0) := (blk_cell BK139.out 0).trans rfl; have hcz12_1 : w11.cell? ⟨gb139, 1, none⟩ = some (.string (⟨#[]⟩ : ByteArray)) := (blk_cell BK139.out 1).trans rfl; have hcz12_2 : w11.cell? ⟨gb139, 2, none⟩ = some (.string (⟨#[]⟩ : ByteArray)) := (blk_cell BK139.out 2).trans rfl; have hfz12_0 := blk_frozen BK139.out 0; have hfz12_1 := blk_frozen BK139.out 1; have hfz12_2 := blk_frozen BK139.out 2))
                (try simp only [Act.put, List.setIfInBounds_toArray, List.set_cons_zero, List.set_cons_succ])
                go_cut [25] (fun v25 wc => ∃ (kq : Nat) (x25_9 : Bool), v25 = .bool x25_9 ∧ Aside0 (laws_FnPrintedParts.j1 kq l0 x3_1 l0 (l0.length : Int) x14_1 x25_9 ((rd_T26 l0 x14_1).f0) ((rd_T26 l0 x14_1).f1) ((rd_T26 l0 x14_1).f2) = some r) ∧ Aside0 (kq ≤ k1) ∧ Aside0 (Kd.R Kd.string 9 wc w.heap.size (fun _ => True) u3 x3_1) ∧ Aside0 (wc.heap[gb139]? = some (.cells #[.int .i64 ((rd_T26 l0 x14_1).f0), .string ((rd_T26 l0 x14_1).f1), .string ((rd_T26 l0 x14_1).f2)] 26 (0, 0))) ∧ Aside0 (Below w.heap.size w wc))
                case first =>
                  have H := HC10.out
                  clear HC10
                  by_cases c13 : ((rd_T26 l0 x14_1).f0) < 0
                  · rw [if_pos c13] at H
                    have c13b0 : decide (((rd_T26 l0 x14_1).f0) < 0) = true := decide_eq_true c13
                    clear c13
                    (first | rw [c13b0] | (simp only [i64_w, i32_w]; rw [c13b0]) | skip)
                    have H' := Aside0.mk H
                    clear H
                    have hcz14_0 : w11.cell? ⟨gb139, 0, none⟩ = some (.int .i64 0) := (blk_cell BK139.out 0).trans rfl
                    have hcz14_1 : w11.cell? ⟨gb139, 1, none⟩ = some (.string (⟨#[]⟩ : ByteArray)) := (blk_cell BK139.out 1).trans rfl
                    have hcz14_2 : w11.cell? ⟨gb139, 2, none⟩ = some (.string (⟨#[]⟩ : ByteArray)) := (blk_cell BK139.out 2).trans rfl
                    have hfz14_0 := blk_frozen BK139.out 0
                    have hfz14_1 := blk_frozen BK139.out 1
                    have hfz14_2 := blk_frozen BK139.out 2
                    go_wp2
                    go_meet
                    case rel => exact ⟨_, (true), (by first | rfl | (simp; done) | (simp [*]; done)), H', ⟨by have := HK1.out; first | omega | exact Nat.le_refl _⟩, ⟨by (with_reducible repeat (first | apply Kd.R_alloc | apply Kd.R_drewN | apply Kd.R_drew)); exact Kd.R_mono (Kd.R_far (p := ⟨gb139, 2, none⟩) (Kd.R_far (p := ⟨gb139, 1, none⟩) (Kd.R_far (p := ⟨gb139, 0, none⟩) (Kd.R_types HO_3.out BK139.out (by decide)) (fun _ hk => hk.2) (.int .i64 ((rd_T26 l0 x14_1).f0))) (fun _ hk => hk.2) (.string ((rd_T26 l0 x14_1).f1))) (fun _ hk => hk.2) (.string ((rd_T26 l0 x14_1).f2))) (fun _ hk => trivial)⟩, ⟨by (with_reducible repeat (first | refine blk_drewN ?_ _ | refine blk_drew ?_ | refine blk_alloc ?_ _)); refine blk_put (cs := #[.int .i64 ((rd_T26 l0 x14_1).f0), .string ((rd_T26 l0 x14_1).f1), .string (⟨#[]⟩ : ByteArray)]) ?_ 2 _ rfl; (with_reducible repeat (first | refine blk_drewN ?_ _ | refine blk_drew ?_ | refine blk_alloc ?_ _)); refine blk_put (cs := #[.int .i64 ((rd_T26 l0 x14_1).f0), .string (⟨#[]⟩ : ByteArray), .string (⟨#[]⟩ : ByteArray)]) ?_ 1 _ rfl; (with_reducible repeat (first | refine blk_drewN ?_ _ | refine blk_drew ?_ | refine blk_alloc ?_ _)); refine blk_put (cs := #[.int .i64 0, .string (⟨#[]⟩ : ByteArray), .string (⟨#[]⟩ : ByteArray)]) ?_ 0 _ rfl; (with_reducible repeat (first | refine blk_drewN ?_ _ | refine blk_drew ?_ | refine blk_alloc ?_ _)); exact BK139.out⟩, ⟨by repeat (first | (with_reducible first | exact HB.out | apply below_alloc | apply pw_below_drewN | apply below_drew1 | refine below_set ?_ GE139.out) | exact HB.out)⟩⟩
                  · rw [if_neg c13] at H
                    have c13b0 : decide (((rd_T26 l0 x14_1).f0) < 0) = false := decide_eq_false c13
                    clear c13
                    (first | rw [c13b0] | (simp only [i64_w, i32_w]; rw [c13b0]) | skip)
                    have H' := Aside0.mk H
                    clear H
                    have hcz15_0 : w11.cell? ⟨gb139, 0, none⟩ = some (.int .i64 0) := (blk_cell BK139.out 0).trans rfl
                    have hcz15_1 : w11.cell? ⟨gb139, 1, none⟩ = some (.string (⟨#[]⟩ : ByteArray)) := (blk_cell BK139.out 1).trans rfl
                    have hcz15_2 : w11.cell? ⟨gb139, 2, none⟩ = some (.string (⟨#[]⟩ : ByteArray)) := (blk_cell BK139.out 2).trans rfl
                    have hfz15_0 := blk_frozen BK139.out 0
                    have hfz15_1 := blk_frozen BK139.out 1
                    have hfz15_2 := blk_frozen BK139.out 2
                    go_wp2
                    go_meet
                    case rel => exact ⟨_, (decide (((rd_T26 l0 x14_1).f0) > 1)), (by first | rfl | (simp; done) | (simp [*]; done)), H', ⟨by have := HK1.out; first | omega | exact Nat.le_refl _⟩, ⟨by (with_reducible repeat (first | apply Kd.R_alloc | apply Kd.R_drewN | apply Kd.R_drew)); exact Kd.R_mono (Kd.R_far (p := ⟨gb139, 2, none⟩) (Kd.R_far (p := ⟨gb139, 1, none⟩) (Kd.R_far (p := ⟨gb139, 0, none⟩) (Kd.R_types HO_3.out BK139.out (by decide)) (fun _ hk => hk.2) (.int .i64 ((rd_T26 l0 x14_1).f0))) (fun _ hk => hk.2) (.string ((rd_T26 l0 x14_1).f1))) (fun _ hk => hk.2) (.string ((rd_T26 l0 x14_1).f2))) (fun _ hk => trivial)⟩, ⟨by (with_reducible repeat (first | refine blk_drewN ?_ _ | refine blk_drew ?_ | refine blk_alloc ?_ _)); refine blk_put (cs := #[.int .i64 ((rd_T26 l0 x14_1).f0), .string ((rd_T26 l0 x14_1).f1), .string (⟨#[]⟩ : ByteArray)]) ?_ 2 _ rfl; (with_reducible repeat (first | refine blk_drewN ?_ _ | refine blk_drew ?_ | refine blk_alloc ?_ _)); refine blk_put (cs := #[.int .i64 ((rd_T26 l0 x14_1).f0), .string (⟨#[]⟩ : ByteArray), .string (⟨#[]⟩ : ByteArray)]) ?_ 1 _ rfl; (with_reducible repeat (first | refine blk_drewN ?_ _ | refine blk_drew ?_ | refine blk_alloc ?_ _)); refine blk_put (cs := #[.int .i64 0, .string (⟨#[]⟩ : ByteArray), .string (⟨#[]⟩ : ByteArray)]) ?_ 0 _ rfl; (with_reducible repeat (first | refine blk_drewN ?_ _ | refine blk_drew ?_ | refine blk_alloc ?_ _)); exact BK139.out⟩, ⟨by repeat (first | (with_reducible first | exact HB.out | apply below_alloc | apply pw_below_drewN | apply below_drew1 | refine below_set ?_ GE139.out) | exact HB.out)⟩⟩
                case rest =>
                  clear HC10
                  try clear c1
                  try clear p1
                  try clear q1
                  try clear hx1
                  try clear p2
                  try clear c3
                  try clear c4
                  try clear c4b0
                  try clear c4b1
                  try clear c7
                  try clear c7b0
                  try clear c8
                  try clear c8b0
                  try clear c9
                  try clear c9b0
                  try clear c13
                  try clear c13b0
                  try clear p13
                  try clear q13
                  try clear hx13
                  try clear hcz12_0
                  try clear hcz12_1
                  try clear hcz12_2
                  try clear hcz14_0
                  try clear hcz14_1
                  try clear hcz14_2
                  try clear hcz15_0
                  try clear hcz15_1
                  try clear hcz15_2
                  try clear hfz12_0
                  try clear hfz12_1
                  try clear hfz12_2
                  try clear hfz14_0
                  try clear hfz14_1
                  try clear hfz14_2
                  try clear hfz15_0
                  try clear hfz15_1
                  try clear hfz15_2
                  try clear hx138_0
                  try clear hx138_1
                  try clear hx138_2
                  try clear p138
                  try clear p2
                  try clear q138
                  obtain ⟨kq, x25_9, rfl, HA, HJ9, HO_3, BK139, HB⟩ := hcut
                  cases kq with
                  | zero => exact absurd HA.out (by simp [laws_FnPrintedParts.j1])
                  | succ kj9 =>
                    have H := HA.out
                    clear HA
                    simp only [laws_FnPrintedParts.j1] at H
                    by_cases c16 : x25_9 = true
                    · subst c16
                      have H1 : ((impl_PrintMatchers.f kj9 ([] : List (S26))).bind fun t140 => (some (t140.toList == ([123, 125] : List UInt8)))) = some r := by rw [if_pos rfl] at H; exact H
                      clear H
                      have H := H1
                      clear H1
                      replace H := Option.bind_eq_some_iff.mp H
                      obtain ⟨t140, A170, H⟩ := H
                      replace H : (some (t140.toList == ([123, 125] : List UInt8))) = some r := H
                      have A17 := Aside0.mk A170
                      clear A170
                      obtain rfl := Option.some.inj H
                      go_wp2_with (first | ((with_reducible refine gate_callee (f := 5) rfl ?_); refine goesL_ (some 26) rfl rfl Tryd.func5 (by kernel_rfl) rfl #[.slice none 0 0] rfl (by (try simp only [List.map_toArray, List.map_cons, List.map_nil]); first | done | rfl | (simp only [List.length_drop, List.length_take]; rfl)) ?_; (refine (impl_PrintMatchers.calls kj9 _ _ ([] : List (S26)) t140 _ ?side1 ?side2 ?side3 A17.out).mono ?_); (case side1 => exact Kd.C_nil _ _); (case side2 => exact Nat.le_refl _); (case side3 => exact Go.Proofs.YtenededepjfojabDoor.Door.PT.below HT_.out (by repeat (first | (with_reducible first | exact HB.out | apply below_alloc | apply pw_below_drewN | apply below_drew1 | refine below_set ?_ GE139.out) | exact HB.out))); rintro e w18 ⟨rfl, hb⟩; refine ⟨_, rfl, ?_⟩; have n0_ := Aside0.mk (Kd.R_below (by (with_reducible repeat (first | apply Kd.R_alloc | apply Kd.R_drewN | apply Kd.R_drew)); exact HO_3.out) hb); have n1_ := Aside0.mk (blk_below (g := gb139) (o := .cells #[.int .i64 ((rd_T26 l0 x14_1).f0), .string ((rd_T26 l0 x14_1).f1), .string ((rd_T26 l0 x14_1).f2)] 26 (0, 0)) (by (with_reducible repeat (first | refine blk_drewN ?_ _ | refine blk_drew ?_ | refine blk_alloc ?_ _)); exact BK139.out) hb); have n2_ := Aside0.mk (below_step (by repeat (first | (with_reducible first | exact HB.out | apply below_alloc | apply pw_below_drewN | apply below_drew1 | refine below_set ?_ GE139.out) | exact HB.out)) hb); clear HO_3; clear BK139; clear HB; have HO_3 := n0_; have BK139 := n1_; have HB := n2_; clear n0_ n1_ n2_; (try clear hb); (try clear hb2); (try clear hk); (try clear hi)))
                      go_ret
                      exact ⟨by first | rfl | (simp [errW_none, errW_some] <;> rfl) | (simp [*, errW_none, errW_some] <;> rfl), by repeat (first | (with_reducible first | exact HB.out | apply below_alloc | apply pw_below_drewN | apply below_drew1 | refine below_set ?_ GE139.out) | exact HB.out)⟩
                    · replace c16 := Bool.eq_false_iff.mpr c16
                      subst c16
                      have H1 : ((impl_PrintMatcher.f kj9 ((rd_T26 l0 x14_1).f0) ((rd_T26 l0 x14_1).f1) ((rd_T26 l0 x14_1).f2)).bind fun t141 => (if x3_1.length < 8796093022208 then (laws_FnPrintedParts.l0 kj9 l0 (x3_1 ++ [t141]) l0 (l0.length : Int) (wrap64 (x14_1 + 1))) else (none))) = some r := by rw [if_neg (show ¬ (false = true) by decide)] at H; exact H
                      clear H
                      have H := H1
                      clear H1
                      replace H := Option.bind_eq_some_iff.mp H
                      obtain ⟨t141, A190, H⟩ := H
                      replace H : (if x3_1.length < 8796093022208 then (laws_FnPrintedParts.l0 kj9 l0 (x3_1 ++ [t141]) l0 (l0.length : Int) (wrap64 (x14_1 + 1))) else (none)) = some r := H
                      have A19 := Aside0.mk A190
                      clear A190
                      by_cases c20 : x3_1.length < 8796093022208
                      · rw [if_pos c20] at H
                        have LMc20 := Aside0.mk c20
                        clear c20
                        obtain ⟨y142, hy142⟩ : ∃ y_ : List ByteArray, y_ = (x3_1 ++ [t141]) := ⟨_, rfl⟩
                        replace H : (laws_FnPrintedParts.l0 kj9 l0 y142 l0 (l0.length : Int) (wrap64 (x14_1 + 1))) = some r := by first | (rw [hy142]; with_reducible exact H) | (have H2_ := (Option.bind_some _ _).symm.trans H; rw [hy142]; with_reducible exact H2_) | (have H2_ := (Option.bind_some _ _).symm.trans H; with_reducible exact H2_) | with_reducible exact H | (rw [hy142]; exact H) | exact H
                        have Ny142 := Aside0.mk hy142
                        clear hy142
                        have H' := Aside0.mk H
                        clear H
                        have hcz21_0 : wc.cell? ⟨gb139, 0, none⟩ = some (.int .i64 ((rd_T26 l0 x14_1).f0)) := (blk_cell BK139.out 0).trans rfl
                        have hcz21_1 : wc.cell? ⟨gb139, 1, none⟩ = some (.string ((rd_T26 l0 x14_1).f1)) := (blk_cell BK139.out 1).trans rfl
                        have hcz21_2 : wc.cell? ⟨gb139, 2, none⟩ = some (.string ((rd_T26 l0 x14_1).f2)) := (blk_cell BK139.out 2).trans rfl
                        have hfz21_0 := blk_frozen BK139.out 0
                        have hfz21_1 := blk_frozen BK139.out 1
                        have hfz21_2 := blk_frozen BK139.out 2
                        go_wp2_with (first | ((with_reducible refine gate_callee (f := 6) rfl ?_); refine goesL_ (some 30) rfl rfl Tryd.func6 (by kernel_rfl) rfl #[.agg #[.int .i64 ((rd_T26 l0 x14_1).f0), .string ((rd_T26 l0 x14_1).f1), .string ((rd_T26 l0 x14_1).f2)]] rfl (by (try simp only [List.map_toArray, List.map_cons, List.map_nil]); first | done | rfl | (simp only [List.length_drop, List.length_take]; rfl)) ?_; (with_reducible refine (impl_PrintMatcher.calls kj9 ((rd_T26 l0 x14_1).f0) ((rd_T26 l0 x14_1).f1) ((rd_T26 l0 x14_1).f2) t141 _ ?side1 A19.out).mono ?_); (case side1 => exact Go.Proofs.YtenededepjfojabDoor.Door.PT.below HT_.out (by repeat (first | (with_reducible first | exact HB.out | apply below_alloc | apply pw_below_drewN | apply below_drew1 | refine below_set ?_ GE139.out) | exact HB.out))); rintro e w22 ⟨rfl, hb⟩; refine ⟨_, rfl, ?_⟩; have n0_ := Aside0.mk (Kd.R_below (by (with_reducible repeat (first | apply Kd.R_alloc | apply Kd.R_drewN | apply Kd.R_drew)); exact HO_3.out) hb); have n1_ := Aside0.mk (blk_below (g := gb139) (o := .cells #[.int .i64 ((rd_T26 l0 x14_1).f0), .string ((rd_T26 l0 x14_1).f1), .string ((rd_T26 l0 x14_1).f2)] 26 (0, 0)) (by (with_reducible repeat (first | refine blk_drewN ?_ _ | refine blk_drew ?_ | refine blk_alloc ?_ _)); exact BK139.out) hb); have n2_ := Aside0.mk (below_step (by repeat (first | (with_reducible first | exact HB.out | apply below_alloc | apply pw_below_drewN | apply below_drew1 | refine below_set ?_ GE139.out) | exact HB.out)) hb); clear HO_3; clear BK139; clear HB; have HO_3 := n0_; have BK139 := n1_; have HB := n2_; clear n0_ n1_ n2_; (try clear hb); (try clear hb2); (try clear hk); (try clear hi)) | ((with_reducible refine gate_builtin (b := .append) (xs := #[.tmp 28, .tmp 31]) rfl ?_); at_builtin; refine Kd.R_append Kd.string (w0 := w) w.heap.size rfl (.tmp 28) (.tmp 31) 24 9 (.string ⟨#[]⟩) 16 rfl Tryd.underlying24 info9 rfl (by decide) (by omega) u3 x3_1 t141 [.string t141] (fun _ => True) (fun _ => False) rfl rfl ?aP (fun _ hk => hk.elim) ?aF ?aO ?aB ?aS ?aL ?_; (case aP => exact rfl); (case aB => exact (by repeat (first | (with_reducible first | exact HB.out | apply below_alloc | apply pw_below_drewN | apply below_drew1 | refine below_set ?_ GE139.out) | exact HB.out))); (case aF => exact (fun _ _ => trivial)); (case aO => exact (by (with_reducible repeat (first | apply Kd.R_alloc | apply Kd.R_drewN | apply Kd.R_drew)); exact HO_3.out)); (case aS => exact (below_size (by repeat (first | (with_reducible first | exact HB.out | apply below_alloc | apply pw_below_drewN | apply below_drew1 | refine below_set ?_ GE139.out) | exact HB.out)))); (case aL => have := LMc20.out; first | omega | exact this | exact Nat.le_of_lt this); intro v143 w23 ho hb hg hat; rw [← Ny142.out] at ho; have n0_ := Aside0.mk (blk_grown (g := gb139) (o := .cells #[.int .i64 ((rd_T26 l0 x14_1).f0), .string ((rd_T26 l0 x14_1).f1), .string ((rd_T26 l0 x14_1).f2)] 26 (0, 0)) (by (with_reducible repeat (first | refine blk_drewN ?_ _ | refine blk_drew ?_ | refine blk_alloc ?_ _)); exact BK139.out) hg (Kd.R_ne HO_3.out BK139.out (by decide))); have n1_ := Aside0.mk (hb); have n2_ := Aside0.mk (ho); clear BK139; clear HB; clear HO_3; have BK139 := n0_; have HB := n1_; have HO144 := n2_; clear n0_ n1_ n2_; clear ho hb hg hat))
                        go_roundg kj9
                        case measure => have := HK1.out; have := HJ9.out; omega
                        case rel => exact ⟨(y142), (wrap64 (x14_1 + 1)), (by first | rfl | (simp; done) | (simp [*]; done)), H', ⟨by have := HK1.out; have := HJ9.out; omega⟩, ⟨by (with_reducible repeat (first | apply Kd.R_alloc | apply Kd.R_drewN | apply Kd.R_drew)); exact HO144.out⟩, ⟨by repeat (first | (with_reducible first | exact HB.out | apply below_alloc | apply pw_below_drewN | apply below_drew1 | refine below_set ?_ GE139.out) | exact HB.out)⟩⟩
                      · rw [if_neg c20] at H
                        exact absurd H (by simp)
              · rw [if_neg c9] at H
                exact absurd H (by simp)
            · rw [if_neg c8] at H
              exact absurd H (by simp)
          · rw [if_neg c7] at H
            have c7b0 : decide (x14_1 < (l0.length : Int)) = false := decide_eq_false c7
            clear c7
            replace H := Option.bind_eq_some_iff.mp H
            obtain ⟨t136, A240, H⟩ := H
            replace H : ((laws_joined.f k1 x3_1 (⟨#[44]⟩ : ByteArray)).bind fun t137 => (if 1 + t137.size ≤ 9223372036854775807 then (if ((⟨#[123]⟩ : ByteArray) ++ t137).size + 1 ≤ 9223372036854775807 then (some (t136.toList == (((⟨#[123]⟩ : ByteArray) ++ t137) ++ (⟨#[125]⟩ : ByteArray)).toList)) else (none)) else (none))) = some r := H
            have A24 := Aside0.mk A240
            clear A240
            replace H := Option.bind_eq_some_iff.mp H
            obtain ⟨t137, A250, H⟩ := H
            replace H : (if 1 + t137.size ≤ 9223372036854775807 then (if ((⟨#[123]⟩ : ByteArray) ++ t137).size + 1 ≤ 9223372036854775807 then (some (t136.toList == (((⟨#[123]⟩ : ByteArray) ++ t137) ++ (⟨#[125]⟩ : ByteArray)).toList)) else (none)) else (none)) = some r := H
            have A25 := Aside0.mk A250
            clear A250
            by_cases c26 : 1 + t137.size ≤ 9223372036854775807
            · rw [if_pos c26] at H
              have c26b0 := eq_true c26
              have c26b1 : decide (1 + t137.size ≤ 9223372036854775807) = true := decide_eq_true c26
              try have c26b2 : (9223372036854775807 < 1 + t137.size) = False := eq_false (Nat.not_lt.2 c26)
              by_cases c27 : ((⟨#[123]⟩ : ByteArray) ++ t137).size + 1 ≤ 9223372036854775807
              · rw [if_pos c27] at H
                have c27b0 := eq_true c27
                have c27b1 : decide (((⟨#[123]⟩ : ByteArray) ++ t137).size + 1 ≤ 9223372036854775807) = true := decide_eq_true c27
                try have c27b2 : (9223372036854775807 < ((⟨#[123]⟩ : ByteArray) ++ t137).size + 1) = False := eq_false (Nat.not_lt.2 c27)
                try have c27b3 := c27b2
                try simp only [ByteArray.size_append, show (⟨#[123]⟩ : ByteArray).size = 1 from rfl] at c27b3
                obtain rfl := Option.some.inj H
                go_wp2_with (first | ((with_reducible refine gate_callee (f := 5) rfl ?_); refine goesL_ (some 35) rfl rfl Tryd.func5 (by kernel_rfl) rfl #[.slice A0 l0.length c0] rfl (by (try simp only [List.map_toArray, List.map_cons, List.map_nil]); first | done | rfl | (simp only [List.length_drop, List.length_take]; rfl)) ?_; (with_reducible refine (impl_PrintMatchers.calls k1 _ _ l0 t136 _ ?side1 ?side2 ?side3 A24.out).mono ?_); (case side1 => repeat (first | exact (Kd.C_below HR0.out HB.out) | (with_reducible refine Kd.C_alloc ?_ _) | (with_reducible refine Kd.C_drewN ?_ _) | (with_reducible refine Kd.C_drew ?_))); (case side2 => exact HC0.out); (case side3 => exact Go.Proofs.YtenededepjfojabDoor.Door.PT.below HT_.out (by repeat (first | (with_reducible first | exact HB.out | apply below_alloc | apply pw_below_drewN | apply below_drew1) | exact HB.out))); rintro e w28 ⟨rfl, hb⟩; refine ⟨_, rfl, ?_⟩; have n0_ := Aside0.mk (Kd.R_below (by (with_reducible repeat (first | apply Kd.R_alloc | apply Kd.R_drewN | apply Kd.R_drew)); exact HO_3.out) hb); have n1_ := Aside0.mk (below_step (by repeat (first | (with_reducible first | exact HB.out | apply below_alloc | apply pw_below_drewN | apply below_drew1) | exact HB.out)) hb); clear HO_3; clear HB; have HO_3 := n0_; have HB := n1_; clear n0_ n1_; (try clear hb); (try clear hb2); (try clear hk); (try clear hi); obtain ⟨Ao29, co29, eo29⟩ := Kd.R_slice HO_3.out; subst eo29) | ((with_reducible refine gate_callee (f := 7) rfl ?_); refine goesL_ (some 37) rfl rfl Tryd.func7 (by kernel_rfl) rfl #[.slice Ao29 x3_1.length co29, .string (⟨#[44]⟩ : ByteArray)] rfl (by (try simp only [List.map_toArray, List.map_cons, List.map_nil]); first | done | rfl | (simp only [List.length_drop, List.length_take]; rfl)) ?_; (with_reducible refine (laws_joined.calls k1 _ _ x3_1 (⟨#[44]⟩ : ByteArray) t137 _ ?side1 ?side2 A25.out).mono ?_); (case side1 => repeat (first | exact (Kd.R_reads' HO_3.out).2.2 | (with_reducible refine Kd.C_alloc ?_ _) | (with_reducible refine Kd.C_drewN ?_ _) | (with_reducible refine Kd.C_drew ?_))); (case side2 => exact (Kd.R_reads' HO_3.out).2.1); rintro e w' ⟨rfl, ⟨nd, rfl⟩⟩; refine ⟨_, rfl, ?_⟩))
                go_ret
                exact ⟨by first | rfl | (simp [errW_none, errW_some] <;> rfl) | (simp [*, errW_none, errW_some] <;> rfl), by repeat (first | (with_reducible first | exact HB.out | apply below_alloc | apply pw_below_drewN | apply below_drew1) | exact HB.out)⟩
              · rw [if_neg c27] at H
                exact absurd H (by simp)
            · rw [if_neg c26] at H
              exact absurd H (by simp)
  · replace c3 := Bool.eq_false_iff.mpr c3
    subst c3
    have H1 : (some true) = some r := by rw [if_neg (show ¬ (false = true) by decide)] at H; exact H
    clear H
    have H := H1
    clear H1
    obtain rfl := Option.some.inj H
    go_enter Tryd.func3, Tryd.ntmps3
    go_wp2_with (first | ((with_reducible refine gate_callee (f := 4) rfl ?_); refine goesL_ (some 7) rfl rfl Tryd.func4 (by kernel_rfl) rfl #[.slice A0 l0.length c0] rfl (by (try simp only [List.map_toArray, List.map_cons, List.map_nil]); first | done | rfl | (simp only [List.length_drop, List.length_take]; rfl)) ?_; (with_reducible refine (laws_zzFits3.calls k _ _ l0 false _ ?side1 ?side2 A2.out).mono ?_); (case side1 => repeat (first | exact HR0.out | (with_reducible refine Kd.C_alloc ?_ _) | (with_reducible refine Kd.C_drewN ?_ _) | (with_reducible refine Kd.C_drew ?_))); (case side2 => exact HC0.out); rintro e w30 ⟨rfl, hb⟩; refine ⟨_, rfl, ?_⟩; have n0_ := Aside0.mk (below_step (by repeat (first | (with_reducible first | exact HB.out | apply below_alloc | apply pw_below_drewN | apply below_drew1) | exact HB.out)) hb); clear HB; have HB := n0_; clear n0_; (try clear hb); (try clear hb2); (try clear hk); (try clear hi)))
    go_ret
    exact ⟨by first | rfl | (simp [errW_none, errW_some] <;> rfl) | (simp [*, errW_none, errW_some] <;> rfl), by repeat (first | (with_reducible first | exact HB.out | apply below_alloc | apply pw_below_drewN | apply below_drew1) | exact HB.out)⟩

/-- THE ONE PURE STATEMENT of laws_FnPrintedParts: yours. -/
def laws_FnPrintedParts.Pure : Prop := ∀ (l0 : List (S26)), (l0.length ≤ maxLen ∧ ∀ y ∈ l0, okS26 y) → ∃ k, laws_FnPrintedParts.f k l0 = some true

end Go.Proofs.YtenededepjfojabDoor.Q
