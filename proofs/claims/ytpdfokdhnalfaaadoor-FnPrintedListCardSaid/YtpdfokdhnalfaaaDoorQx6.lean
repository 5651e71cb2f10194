-- printed by this project's own program wip/tools/mkprint.py (the kit's print.py with hand-proved contracts put in)
import Derived.Test.YtpdfokdhnalfaaaDoorQx0
import Derived.Test.YtpdfokdhnalfaaaDoorQx4
import Derived.Test.YtpdfokdhnalfaaaDoorQx5
namespace Go.Proofs.YtpdfokdhnalfaaaDoor.Q
open Go.RowKit Go.Proofs.YtpdfokdhnalfaaaDoorW.PrintWords Go.Proofs.YtpdfokdhnalfaaaDoorW.PrintLast Go.Proofs.YtpdfokdhnalfaaaDoorW.PrintMore
attribute [local go_sem] max2_int min2_int max_two min_two max_three min_three max_four min_four   -- for this text's walks alone
set_option linter.unusedVariables false
set_option linter.unusedSimpArgs false

/-! ### laws_FnPrintedList: function 4 -/
def laws_FnPrintedList.l0 : Nat → List (S23) → Int → List (S23) → Int → Int → Option (Bool)
  | 0, _, _, _, _, _ => none
  | k + 1, x0, x3, x16, x17, x18 => if x18 < x17 then (if 0 ≤ x18 then (if x18 < (x16.length : Int) then (if (((rd_T23 x16 x18).f1).size : Int) > (wrap64 (20000 - x3)) then (some true) else (if (((rd_T23 x16 x18).f2).size : Int) > (wrap64 ((wrap64 (20000 - x3)) - (((rd_T23 x16 x18).f1).size : Int))) then (some true) else (laws_FnPrintedList.l0 k x0 (wrap64 (x3 + (wrap64 ((((rd_T23 x16 x18).f1).size : Int) + (((rd_T23 x16 x18).f2).size : Int))))) x16 x17 (wrap64 (x18 + 1))))) else (none)) else (none)) else ((laws_matchers.f k x0).bind fun t182 => ((spec_PrintMatchers.f k t182).bind fun bt185 => (if bt185.2 = 1 then ((impl_PrintMatchers.f k x0).bind fun t187 => (some (t187.toList == bt185.1.toList))) else (some true))))
def laws_FnPrintedList.f (k : Nat) (l0 : List (S23)) : Option (Bool) := (laws_zzFits3.f k l0).bind fun t178 => (if t178 = true then ((impl_PrintMatchers.f k ([] : List (S23))).bind fun t179 => (if t179.toList = ([123, 125] : List UInt8) then (if (l0.length : Int) > 1000 then (some true) else (laws_FnPrintedList.l0 k l0 0 l0 (l0.length : Int) 0)) else (some false))) else (some true))
theorem laws_FnPrintedList.mono_l : ∀ k, (∀ y0 y1 y2 y3 y4, LeO (laws_FnPrintedList.l0 k y0 y1 y2 y3 y4) (laws_FnPrintedList.l0 (k + 1) y0 y1 y2 y3 y4))
  | 0 => fun _ _ _ _ _ r h => by simp [laws_FnPrintedList.l0] at h
  | k + 1 => by
    have ih0 := laws_FnPrintedList.mono_l k
    · intro y0 y1 y2 y3 y4
      unfold laws_FnPrintedList.l0
      repeat' first
      | (with_reducible exact ih0 _ _ _ _ _)
      | (with_reducible exact impl_PrintMatchers.mono _ _)
      | (with_reducible exact laws_matchers.mono _ _)
      | (with_reducible exact laws_zzFits3.mono _ _)
      | (with_reducible exact spec_PrintMatchers.mono _ _)
      | (with_reducible exact LeO.refl _)
      | (with_reducible exact LeO.none _)
      | (with_reducible refine LeO.ite ?_ ?_)
      | (with_reducible refine LeO.bind ?_ (fun _ => ?_))
      | exact ih0 _ _ _ _ _
      | exact impl_PrintMatchers.mono _ _
      | exact laws_matchers.mono _ _
      | exact laws_zzFits3.mono _ _
      | exact spec_PrintMatchers.mono _ _
      | exact LeO.none _
      | refine LeO.ite ?_ ?_
      | refine LeO.bind ?_ (fun _ => ?_)
theorem laws_FnPrintedList.mono : ∀ a0 k, LeO (laws_FnPrintedList.f k a0) (laws_FnPrintedList.f (k + 1) a0) := by
  intro a0 k
  have ih0 := laws_FnPrintedList.mono_l k
  unfold laws_FnPrintedList.f
  repeat' first
      | (with_reducible exact ih0 _ _ _ _ _)
      | (with_reducible exact impl_PrintMatchers.mono _ _)
      | (with_reducible exact laws_matchers.mono _ _)
      | (with_reducible exact laws_zzFits3.mono _ _)
      | (with_reducible exact spec_PrintMatchers.mono _ _)
      | (with_reducible exact LeO.refl _)
      | (with_reducible exact LeO.none _)
      | (with_reducible refine LeO.ite ?_ ?_)
      | (with_reducible refine LeO.bind ?_ (fun _ => ?_))
      | exact ih0 _ _ _ _ _
      | exact impl_PrintMatchers.mono _ _
      | exact laws_matchers.mono _ _
      | exact laws_zzFits3.mono _ _
      | exact spec_PrintMatchers.mono _ _
      | exact LeO.none _
      | refine LeO.ite ?_ ?_
      | refine LeO.bind ?_ (fun _ => ?_)
set_option maxHeartbeats 8000000 in
set_option maxRecDepth 100000 in
theorem laws_FnPrintedList.calls (k : Nat) (A0 : Option Addr) (c0 : Nat) (l0 : List (S23)) (r : Bool) (w : World) (hr0 : Kd.C k23 w A0 l0.length l0) (hc0 : l0.length ≤ c0) (hT_ : Go.Proofs.YtpdfokdhnalfaaaDoor.Door.PT w) (h : laws_FnPrintedList.f k l0 = some r) :
    Calls Tryd.prog 4 #[.slice A0 l0.length c0] w fun e w' => e = .returned (.bool r) ∧ Below w.heap.size w w' := by
  have HT_ := Aside0.mk hT_
  clear hT_
  have hu23 := Tryd.underlying23
  have HR0 := Aside0.mk hr0
  have HC0 := Aside0.mk hc0
  clear hr0 hc0
  have HB := Aside0.mk (Below.refl w.heap.size w)
  have H : ((laws_zzFits3.f k l0).bind fun t178 => (if t178 = true then ((impl_PrintMatchers.f k ([] : List (S23))).bind fun t179 => (if t179.toList = ([123, 125] : List UInt8) then (if (l0.length : Int) > 1000 then (some true) else (laws_FnPrintedList.l0 k l0 0 l0 (l0.length : Int) 0)) else (some false))) else (some true))) = some r := h
  clear h
  replace H := Option.bind_eq_some_iff.mp H
  obtain ⟨t178, A20, H⟩ := H
  replace H : (if t178 = true then ((impl_PrintMatchers.f k ([] : List (S23))).bind fun t179 => (if t179.toList = ([123, 125] : List UInt8) then (if (l0.length : Int) > 1000 then (some true) else (laws_FnPrintedList.l0 k l0 0 l0 (l0.length : Int) 0)) else (some false))) else (some true)) = some r := H
  have A2 := Aside0.mk A20
  clear A20
  by_cases c3 : t178 = true
  · subst c3
    have H1 : ((impl_PrintMatchers.f k ([] : List (S23))).bind fun t179 => (if t179.toList = ([123, 125] : List UInt8) then (if (l0.length : Int) > 1000 then (some true) else (laws_FnPrintedList.l0 k l0 0 l0 (l0.length : Int) 0)) else (some false))) = some r := by rw [if_pos rfl] at H; exact H
    clear H
    have H := H1
    clear H1
    replace H := Option.bind_eq_some_iff.mp H
    obtain ⟨t179, A40, H⟩ := H
    replace H : (if t179.toList = ([123, 125] : List UInt8) then (if (l0.length : Int) > 1000 then (some true) else (laws_FnPrintedList.l0 k l0 0 l0 (l0.length : Int) 0)) else (some false)) = some r := H
    have A4 := Aside0.mk A40
    clear A40
    by_cases c5 : t179.toList = ([123, 125] : List UInt8)
    · rw [if_pos c5] at H
      have c5b0 : (t179.toList == ([123, 125] : List UInt8)) = true := beq_iff_eq.mpr c5
      have c5b1 : (t179.toList != ([123, 125] : List UInt8)) = false := bne_eq_false_iff_eq.mpr c5
      clear c5
      by_cases c6 : (l0.length : Int) > 1000
      · rw [if_pos c6] at H
        have c6b0 : decide (1000 < (l0.length : Int)) = true := decide_eq_true c6
        have c6b1 : decide (1000 < l0.length) = true := decide_eq_true (by omega)
        clear c6
        obtain rfl := Option.some.inj H
        go_enter Tryd.func4, Tryd.ntmps4
        go_wp2_with (first | ((with_reducible refine gate_callee (f := 11) rfl ?_); refine goesL_ (some 9) rfl rfl Tryd.func11 (by kernel_rfl) rfl #[.slice A0 l0.length c0] rfl (by (try simp only [List.map_toArray, List.map_cons, List.map_nil]); first | done | rfl | (simp only [List.length_drop, List.length_take]; rfl)) ?_; (with_reducible refine (laws_zzFits3.calls k _ _ l0 true _ ?side1 ?side2 A2.out).mono ?_); (case side1 => repeat (first | exact HR0.out | (with_reducible refine Kd.C_alloc ?_ _) | (with_reducible refine Kd.C_drewN ?_ _) | (with_reducible refine Kd.C_drew ?_))); (case side2 => exact HC0.out); rintro e w7 ⟨rfl, hb⟩; refine ⟨_, rfl, ?_⟩; have n0_ := Aside0.mk (below_step (by repeat (first | (with_reducible first | exact HB.out | apply below_alloc | apply pw_below_drewN | apply below_drew1) | exact HB.out)) hb); clear HB; have HB := n0_; clear n0_; (try clear hb); (try clear hb2); (try clear hk); (try clear hi)) | ((with_reducible refine gate_callee (f := 12) rfl ?_); refine goesL_ (some 11) rfl rfl Tryd.func12 (by kernel_rfl) rfl #[.slice none 0 0] rfl (by (try simp only [List.map_toArray, List.map_cons, List.map_nil]); first | done | rfl | (simp only [List.length_drop, List.length_take]; rfl)) ?_; (refine (impl_PrintMatchers.calls k _ _ ([] : List (S23)) t179 _ ?side1 ?side2 ?side3 A4.out).mono ?_); (case side1 => exact Kd.C_nil _ _); (case side2 => exact Nat.le_refl _); (case side3 => exact Go.Proofs.YtpdfokdhnalfaaaDoor.Door.PT.below HT_.out (by repeat (first | (with_reducible first | exact HB.out | apply below_alloc | apply pw_below_drewN | apply below_drew1) | exact HB.out))); rintro e w8 ⟨rfl, hb⟩; refine ⟨_, rfl, ?_⟩; have n0_ := Aside0.mk (below_step (by repeat (first | (with_reducible first | exact HB.out | apply below_alloc | apply pw_below_drewN | apply below_drew1) | exact HB.out)) hb); clear HB; have HB := n0_; clear n0_; (try clear hb); (try clear hb2); (try clear hk); (try clear hi)))
        go_ret
        exact ⟨by first | rfl | (simp [errW_none, errW_some] <;> rfl) | (simp [*, errW_none, errW_some] <;> rfl), by repeat (first | (with_reducible first | exact HB.out | apply below_alloc | apply pw_below_drewN | apply below_drew1) | exact HB.out)⟩
      · rw [if_neg c6] at H
        have c6b0 : decide (1000 < (l0.length : Int)) = false := decide_eq_false c6
        have c6b1 : decide (1000 < l0.length) = false := decide_eq_false (by omega)
        clear c6
        have H' := Aside0.mk H
        clear H
        go_enter Tryd.func4, Tryd.ntmps4
        go_wp2_with (first | ((with_reducible refine gate_callee (f := 11) rfl ?_); refine goesL_ (some 9) rfl rfl Tryd.func11 (by kernel_rfl) rfl #[.slice A0 l0.length c0] rfl (by (try simp only [List.map_toArray, List.map_cons, List.map_nil]); first | done | rfl | (simp only [List.length_drop, List.length_take]; rfl)) ?_; (with_reducible refine (laws_zzFits3.calls k _ _ l0 true _ ?side1 ?side2 A2.out).mono ?_); (case side1 => repeat (first | exact HR0.out | (with_reducible refine Kd.C_alloc ?_ _) | (with_reducible refine Kd.C_drewN ?_ _) | (with_reducible refine Kd.C_drew ?_))); (case side2 => exact HC0.out); rintro e w9 ⟨rfl, hb⟩; refine ⟨_, rfl, ?_⟩; have n0_ := Aside0.mk (below_step (by repeat (first | (with_reducible first | exact HB.out | apply below_alloc | apply pw_below_drewN | apply below_drew1) | exact HB.out)) hb); clear HB; have HB := n0_; clear n0_; (try clear hb); (try clear hb2); (try clear hk); (try clear hi)) | ((with_reducible refine gate_callee (f := 12) rfl ?_); refine goesL_ (some 11) rfl rfl Tryd.func12 (by kernel_rfl) rfl #[.slice none 0 0] rfl (by (try simp only [List.map_toArray, List.map_cons, List.map_nil]); first | done | rfl | (simp only [List.length_drop, List.length_take]; rfl)) ?_; (refine (impl_PrintMatchers.calls k _ _ ([] : List (S23)) t179 _ ?side1 ?side2 ?side3 A4.out).mono ?_); (case side1 => exact Kd.C_nil _ _); (case side2 => exact Nat.le_refl _); (case side3 => exact Go.Proofs.YtpdfokdhnalfaaaDoor.Door.PT.below HT_.out (by repeat (first | (with_reducible first | exact HB.out | apply below_alloc | apply pw_below_drewN | apply below_drew1) | exact HB.out))); rintro e w10 ⟨rfl, hb⟩; refine ⟨_, rfl, ?_⟩; have n0_ := Aside0.mk (below_step (by repeat (first | (with_reducible first | exact HB.out | apply below_alloc | apply pw_below_drewN | apply below_drew1) | exact HB.out)) hb); clear HB; have HB := n0_; clear n0_; (try clear hb); (try clear hb2); (try clear hk); (try clear hi)))
        go_loopg [3, 18] k (fun kq v3 v18 w' => ∃ (x3_1 : Int) (x18_1 : Int), v3 = .int .i64 x3_1 ∧ v18 = .int .i64 x18_1 ∧ Aside0 (laws_FnPrintedList.l0 kq l0 x3_1 l0 (l0.length : Int) x18_1 = some r) ∧ Aside0 (kq ≤ k) ∧ Aside0 (Below w.heap.size w w'))
        case atStart => exact ⟨(0), (0), (by first | rfl | (simp; done) | (simp [*]; done)), (by first | rfl | (simp; done) | (simp [*]; done)), H', ⟨Nat.le_refl _⟩, ⟨by repeat (first | (with_reducible first | exact HB.out | apply below_alloc | apply pw_below_drewN | apply below_drew1) | exact HB.out)⟩⟩
        case round =>
          clear H'
          try clear c1
          try clear p2
          try clear c3
          try clear c4
          try clear c5
          try clear c5b0
          try clear c5b1
          try clear c6
          try clear c6b0
          try clear c6b1
          obtain ⟨x3_1, x18_1, rfl, rfl, HA, HK1, HB⟩ := hrel
          cases gk with
          | zero => exact absurd HA.out (by simp [laws_FnPrintedList.l0])
          | succ k1 =>
            have H := HA.out
            clear HA
            simp only [laws_FnPrintedList.l0] at H
            by_cases c11 : x18_1 < (l0.length : Int)
            · rw [if_pos c11] at H
              have c11b0 : decide (x18_1 < (l0.length : Int)) = true := decide_eq_true c11
              clear c11
              by_cases c12 : 0 ≤ x18_1
              · rw [if_pos c12] at H
                have c12b0 : decide (0 ≤ x18_1) = true := decide_eq_true c12
                clear c12
                by_cases c13 : x18_1 < (l0.length : Int)
                · rw [if_pos c13] at H
                  have c13b0 : decide (x18_1 < (l0.length : Int)) = true := decide_eq_true c13
                  clear c13
                  by_cases c14 : (((rd_T23 l0 x18_1).f1).size : Int) > (wrap64 (20000 - x3_1))
                  · rw [if_pos c14] at H
                    have c14b0 : decide ((wrap64 (20000 - x3_1)) < (((rd_T23 l0 x18_1).f1).size : Int)) = true := decide_eq_true c14
                    clear c14
                    obtain rfl := Option.some.inj H
                    have p180 : 0 ≤ (x18_1 : Int) := of_decide_eq_true (by first | (with_reducible assumption) | assumption)
                    have q180 : x18_1 < (l0.length : Int) := of_decide_eq_true (by first | (with_reducible assumption) | assumption)
                    obtain ⟨ad180, e180, hx180_0, hx180_1, hx180_2⟩ := at_T23 HR0.out x18_1 p180 q180
                    cases e180
                    replace hx180_0 := (HB.out.cell (World.block_lt_of_cell? w _ hx180_0)).trans hx180_0
                    replace hx180_1 := (HB.out.cell (World.block_lt_of_cell? w _ hx180_1)).trans hx180_1
                    replace hx180_2 := (HB.out.cell (World.block_lt_of_cell? w _ hx180_2)).trans hx180_2
                    replace p180 := eq_true p180
                    replace q180 := eq_true q180
                    go_wp2_with (first | ((with_reducible refine gate_dst (N := 5) rfl ?_); (try (refine gate_guard (by rfl) ?_; dsimp only)); refine box_event ?hg (N := 5) ?hd (cs := #[.int .i64 0, .string (⟨#[]⟩ : ByteArray), .string (⟨#[]⟩ : ByteArray)]) (t := 23) ?hr ?_; (case hd => rfl); (case hg => rfl); (case hr => first | (go_simp; done) | (go_simp; rfl)); intro gb181 hg w15 hbox hb; have n0_ := Aside0.mk (below_step (by repeat (first | (with_reducible first | exact HB.out | apply below_alloc | apply pw_below_drewN | apply below_drew1) | exact HB.out)) hb); have n1_ := Aside0.mk (hbox); have n2_ := Aside0.mk ((by rw [hg]; exact (below_size (by repeat (first | (with_reducible first | exact HB.out | apply below_alloc | apply pw_below_drewN | apply below_drew1) | exact HB.out))) : w.heap.size ≤ gb181)); have n3_ := Aside0.mk ((by rw [hg]; exact (below_size (by repeat (first | (with_reducible first | exact HB.out | apply below_alloc | apply pw_below_drewN | apply below_drew1) | exact HB.out))) : w.heap.size ≤ gb181)); clear HB; have HB := n0_; have BK181 := n1_; have GW181 := n2_; have GE181 := n3_; clear n0_ n1_ n2_ n3_; clear hb hbox hg; have hcz16_0 : w15.cell? ⟨gb181, 0, none⟩ = some (.int .i64 0) := (blk_cell BK181.out 0).trans rfl; have hcz16_1 : w15.cell? ⟨gb181, 1, none⟩ = some (.string (⟨#[]⟩ : ByteArray)) := (blk_cell BK181.out 1).trans rfl; have hcz16_2 : w15.cell? ⟨gb181, 2, none⟩ = some (.string (⟨#[]⟩ : ByteArray)) := (blk_cell BK181.out 2).trans rfl; have hfz16_0 := blk_frozen BK181.out 0; have hfz16_1 := blk_frozen BK181.out 1; have hfz16_2 := blk_frozen BK181.out 2))
                    go_ret
                    exact ⟨by first | rfl | (simp [errW_none, errW_some] <;> rfl) | (simp [*, errW_none, errW_some] <;> rfl), by repeat (first | (with_reducible first | exact HB.out | apply below_alloc | apply pw_below_drewN | apply below_drew1 | refine below_set ?_ GE181.out) | exact HB.out)⟩
                  · rw [if_neg c14] at H
                    have c14b0 : decide ((wrap64 (20000 - x3_1)) < (((rd_T23 l0 x18_1).f1).size : Int)) = false := decide_eq_false c14
                    clear c14
                    by_cases c17 : (((rd_T23 l0 x18_1).f2).size : Int) > (wrap64 ((wrap64 (20000 - x3_1)) - (((rd_T23 l0 x18_1).f1).size : Int)))
                    · rw [if_pos c17] at H
                      have c17b0 : decide ((wrap64 ((wrap64 (20000 - x3_1)) - (((rd_T23 l0 x18_1).f1).size : Int))) < (((rd_T23 l0 x18_1).f2).size : Int)) = true := decide_eq_true c17
                      clear c17
                      obtain rfl := Option.some.inj H
                      have p180 : 0 ≤ (x18_1 : Int) := of_decide_eq_true (by first | (with_reducible assumption) | assumption)
                      have q180 : x18_1 < (l0.length : Int) := of_decide_eq_true (by first | (with_reducible assumption) | assumption)
                      obtain ⟨ad180, e180, hx180_0, hx180_1, hx180_2⟩ := at_T23 HR0.out x18_1 p180 q180
                      cases e180
                      replace hx180_0 := (HB.out.cell (World.block_lt_of_cell? w _ hx180_0)).trans hx180_0
                      replace hx180_1 := (HB.out.cell (World.block_lt_of_cell? w _ hx180_1)).trans hx180_1
                      replace hx180_2 := (HB.out.cell (World.block_lt_of_cell? w _ hx180_2)).trans hx180_2
                      replace p180 := eq_true p180
                      replace q180 := eq_true q180
                      go_wp2_with (first | ((with_reducible refine gate_dst (N := 5) rfl ?_); (try (refine gate_guard (by rfl) ?_; dsimp only)); refine box_event ?hg (N := 5) ?hd (cs := #[.int .i64 0, .string (⟨#[]⟩ : ByteArray), .string (⟨#[]⟩ : ByteArray)]) (t := 23) ?hr ?_; (case hd => rfl); (case hg => rfl); (case hr => first | (go_simp; done) | (go_simp; rfl)); intro gb181 hg w18 hbox hb; have n0_ := Aside0.mk (below_step (by repeat (first | (with_reducible first | exact HB.out | apply below_alloc | apply pw_below_drewN | apply below_drew1) | exact HB.out)) hb); have n1_ := Aside0.mk (hbox); have n2_ := Aside0.mk ((by rw [hg]; exact (below_size (by repeat (first | (with_reducible first | exact HB.out | apply below_alloc | apply pw_below_drewN | apply below_drew1) | exact HB.out))) : w.heap.size ≤ gb181)); have n3_ := Aside0.mk ((by rw [hg]; exact (below_size (by repeat (first | (with_reducible first | exact HB.out | apply below_alloc | apply pw_below_drewN | apply below_drew1) | exact HB.out))) : w.heap.size ≤ gb181)); clear HB; have HB := n0_; have BK181 := n1_; have GW181 := n2_; have GE181 := n3_; clear n0_ n1_ n2_ n3_; clear hb hbox hg; have hcz19_0 : w18.cell? ⟨gb181, 0, none⟩ = some (.int .i64 0) := (blk_cell BK181.out 0).trans rfl; have hcz19_1 : w18.cell? ⟨gb181, 1, none⟩ = some (.string (⟨#[]⟩ : ByteArray)) := (blk_cell BK181.out 1).trans rfl; have hcz19_2 : w18.cell? ⟨gb181, 2, none⟩ = some (.string (⟨#[]⟩ : ByteArray)) := (blk_cell BK181.out 2).trans rfl; have hfz19_0 := blk_frozen BK181.out 0; have hfz19_1 := blk_frozen BK181.out 1; have hfz19_2 := blk_frozen BK181.out 2))
                      go_ret
                      exact ⟨by first | rfl | (simp [errW_none, errW_some] <;> rfl) | (simp [*, errW_none, errW_some] <;> rfl), by repeat (first | (with_reducible first | exact HB.out | apply below_alloc | apply pw_below_drewN | apply below_drew1 | refine below_set ?_ GE181.out) | exact HB.out)⟩
                    · rw [if_neg c17] at H
                      have c17b0 : decide ((wrap64 ((wrap64 (20000 - x3_1)) - (((rd_T23 l0 x18_1).f1).size : Int))) < (((rd_T23 l0 x18_1).f2).size : Int)) = false := decide_eq_false c17
                      clear c17
                      have H' := Aside0.mk H
                      clear H
                      have p180 : 0 ≤ (x18_1 : Int) := of_decide_eq_true (by first | (with_reducible assumption) | assumption)
                      have q180 : x18_1 < (l0.length : Int) := of_decide_eq_true (by first | (with_reducible assumption) | assumption)
                      obtain ⟨ad180, e180, hx180_0, hx180_1, hx180_2⟩ := at_T23 HR0.out x18_1 p180 q180
                      cases e180
                      replace hx180_0 := (HB.out.cell (World.block_lt_of_cell? w _ hx180_0)).trans hx180_0
                      replace hx180_1 := (HB.out.cell (World.block_lt_of_cell? w _ hx180_1)).trans hx180_1
                      replace hx180_2 := (HB.out.cell (World.block_lt_of_cell? w _ hx180_2)).trans hx180_2
                      replace p180 := eq_true p180
                      replace q180 := eq_true q180
                      go_wp2_with (first | ((with_reducible refine gate_dst (N := 5) rfl ?_); (try (refine gate_guard (by rfl) ?_; dsimp only)); refine box_event ?hg (N := 5) ?hd (cs := #[.int .i64 0, .string (⟨#[]⟩ : ByteArray), .string (⟨#[]⟩ : ByteArray)]) (t := 23) ?hr ?_; (case hd => rfl); (case hg => rfl); (case hr => first | (go_simp; done) | (go_simp; rfl)); intro gb181 hg w20 hbox hb; have n0_ := Aside0.mk (below_step (by repeat (first | (with_reducible first | exact HB.out | apply below_alloc | apply pw_below_drewN | apply below_drew1) | exact HB.out)) hb); have n1_ := Aside0.mk (hbox); have n2_ := Aside0.mk ((by rw [hg]; exact (below_size (by repeat (first | (with_reducible first | exact HB.out | apply below_alloc | apply pw_below_drewN | apply below_drew1) | exact HB.out))) : w.heap.size ≤ gb181)); have n3_ := Aside0.mk ((by rw [hg]; exact (below_size (by repeat (first | (with_reducible first | exact HB.out | apply below_alloc | apply pw_below_drewN | apply below_drew1) | exact HB.out))) : w.heap.size ≤ gb181)); clear HB; have HB := n0_; have BK181 := n1_; have GW181 := n2_; have GE181 := n3_; clear n0_ n1_ n2_ n3_; clear hb hbox hg; have hcz21_0 : w20.cell? ⟨gb181, 0, none⟩ = some (.int .i64 0) := (blk_cell BK181.out 0).trans rfl; have hcz21_1 : w20.cell? ⟨gb181, 1, none⟩ = some (.string (⟨#[]⟩ : ByteArray)) := (blk_cell BK181.out 1).trans rfl; have hcz21_2 : w20.cell? ⟨gb181, 2, none⟩ = some (.string (⟨#[]⟩ : ByteArray)) := (blk_cell BK181.out 2).trans rfl; have hfz21_0 := blk_frozen BK181.out 0; have hfz21_1 := blk_frozen BK181.out 1; have hfz21_2 := blk_frozen BK181.out 2))
                      go_roundg k1
                      case measure => have := HK1.out; omega
                      case rel => exact ⟨(wrap64 (x3_1 + (wrap64 ((((rd_T23 l0 x18_1).f1).size : Int) + (((rd_T23 l0 x18_1).f2).size : Int))))), (wrap64 (x18_1 + 1)), (by first | rfl | (simp; done) | (simp [*]; done)), (by first | rfl | (simp; done) | (simp [*]; done)), H', ⟨by have := HK1.out; omega⟩, ⟨by repeat (first | (with_reducible first | exact HB.out | apply below_alloc | apply pw_below_drewN | apply below_drew1 | refine below_set ?_ GE181.out) | exact HB.out)⟩⟩
                · rw [if_neg c13] at H
                  exact absurd H (by simp)
              · rw [if_neg c12] at H
                exact absurd H (by simp)
            · rw [if_neg c11] at H
              have c11b0 : decide (x18_1 < (l0.length : Int)) = false := decide_eq_false c11
              clear c11
              replace H := Option.bind_eq_some_iff.mp H
              obtain ⟨t182, A220, H⟩ := H
              replace H : ((spec_PrintMatchers.f k1 t182).bind fun bt185 => (if bt185.2 = 1 then ((impl_PrintMatchers.f k1 l0).bind fun t187 => (some (t187.toList == bt185.1.toList))) else (some true))) = some r := H
              have A22 := Aside0.mk A220
              clear A220
              replace H := Option.bind_eq_some_iff.mp H
              obtain ⟨⟨t185, t186⟩, A230, H⟩ := H
              replace H : (if t186 = 1 then ((impl_PrintMatchers.f k1 l0).bind fun t187 => (some (t187.toList == t185.toList))) else (some true)) = some r := H
              have A23 := Aside0.mk A230
              clear A230
              by_cases c24 : t186 = 1
              · rw [if_pos c24] at H
                have c24b0 : (t186 == 1) = true := beq_iff_eq.mpr c24
                have c24b1 : (t186 != 1) = false := bne_eq_false_iff_eq.mpr c24
                clear c24
                replace H := Option.bind_eq_some_iff.mp H
                obtain ⟨t187, A250, H⟩ := H
                replace H : (some (t187.toList == t185.toList)) = some r := H
                have A25 := Aside0.mk A250
                clear A250
                obtain rfl := Option.some.inj H
                go_wp2_with (first | ((with_reducible refine gate_callee (f := 14) rfl ?_); refine goesL_ (some 52) rfl rfl Tryd.func14 (by kernel_rfl) rfl #[.slice A0 l0.length c0] rfl (by (try simp only [List.map_toArray, List.map_cons, List.map_nil]); first | done | rfl | (simp only [List.length_drop, List.length_take]; rfl)) ?_; (with_reducible refine (laws_matchers.calls k1 _ _ l0 t182 _ ?side1 ?side2 A22.out).mono ?_); (case side1 => repeat (first | exact (Kd.C_below HR0.out HB.out) | (with_reducible refine Kd.C_alloc ?_ _) | (with_reducible refine Kd.C_drewN ?_ _) | (with_reducible refine Kd.C_drew ?_))); (case side2 => exact HC0.out); rintro e w26 ⟨v183, rfl, ho0, hb⟩; refine ⟨_, rfl, ?_⟩; have n0_ := Aside0.mk (Kd.R_lower ho0 (below_size (by repeat (first | (with_reducible first | exact HB.out | apply below_alloc | apply pw_below_drewN | apply below_drew1) | exact HB.out)))); have n1_ := Aside0.mk (below_step (by repeat (first | (with_reducible first | exact HB.out | apply below_alloc | apply pw_below_drewN | apply below_drew1) | exact HB.out)) hb); clear HB; have HO184 := n0_; have HB := n1_; clear n0_ n1_; (try clear hb); (try clear hb2); (try clear hk); (try clear hi); (try clear ho0); obtain ⟨Ao27, co27, eo27⟩ := Kd.R_slice HO184.out; subst eo27) | ((with_reducible refine gate_callee (f := 13) rfl ?_); refine goesL_ (some 53) rfl rfl Tryd.func13 (by kernel_rfl) rfl #[.slice Ao27 t182.length co27] rfl (by (try simp only [List.map_toArray, List.map_cons, List.map_nil]); first | done | rfl | (simp only [List.length_drop, List.length_take]; rfl)) ?_; (with_reducible refine (spec_PrintMatchers.calls k1 _ _ t182 t185 t186 _ ?side1 ?side2 A23.out).mono ?_); (case side1 => repeat (first | exact (Kd.R_reads' HO184.out).2.2 | (with_reducible refine Kd.C_alloc ?_ _) | (with_reducible refine Kd.C_drewN ?_ _) | (with_reducible refine Kd.C_drew ?_))); (case side2 => exact (Kd.R_reads' HO184.out).2.1); rintro e w28 ⟨rfl, hb⟩; refine ⟨_, rfl, ?_⟩; have n0_ := Aside0.mk (Kd.R_below (by (with_reducible repeat (first | apply Kd.R_alloc | apply Kd.R_drewN | apply Kd.R_drew)); exact HO184.out) hb); have n1_ := Aside0.mk (below_step (by repeat (first | (with_reducible first | exact HB.out | apply below_alloc | apply pw_below_drewN | apply below_drew1) | exact HB.out)) hb); clear HO184; clear HB; have HO184 := n0_; have HB := n1_; clear n0_ n1_; (try clear hb); (try clear hb2); (try clear hk); (try clear hi)) | (go_at_call 12; (with_reducible refine (impl_PrintMatchers.calls k1 _ _ l0 t187 _ ?side1 ?side2 ?side3 A25.out).mono ?_); (case side1 => repeat (first | exact (Kd.C_below HR0.out HB.out) | (with_reducible refine Kd.C_alloc ?_ _) | (with_reducible refine Kd.C_drewN ?_ _) | (with_reducible refine Kd.C_drew ?_))); (case side2 => exact HC0.out); (case side3 => exact Go.Proofs.YtpdfokdhnalfaaaDoor.Door.PT.below HT_.out (by repeat (first | (with_reducible first | exact HB.out | apply below_alloc | apply pw_below_drewN | apply below_drew1) | exact HB.out))); rintro e w29 ⟨rfl, hb⟩; have n0_ := Aside0.mk (Kd.R_below (by (with_reducible repeat (first | apply Kd.R_alloc | apply Kd.R_drewN | apply Kd.R_drew)); exact HO184.out) hb); have n1_ := Aside0.mk (below_step (by repeat (first | (with_reducible first | exact HB.out | apply below_alloc | apply pw_below_drewN | apply below_drew1) | exact HB.out)) hb); clear HO184; clear HB; have HO184 := n0_; have HB := n1_; clear n0_ n1_; (try clear hb); (try clear hb2); (try clear hk); (try clear hi)))
                go_ret
                exact ⟨by first | rfl | (simp [errW_none, errW_some] <;> rfl) | (simp [*, errW_none, errW_some] <;> rfl), by repeat (first | (with_reducible first | exact HB.out | apply below_alloc | apply pw_below_drewN | apply below_drew1) | exact HB.out)⟩
              · rw [if_neg c24] at H
                have c24b0 : (t186 == 1) = false := beq_eq_false_iff_ne.mpr c24
                have c24b1 : (t186 != 1) = true := bne_iff_ne.mpr c24
                obtain rfl := Option.some.inj H
                go_wp2_with (first | ((with_reducible refine gate_callee (f := 14) rfl ?_); refine goesL_ (some 52) rfl rfl Tryd.func14 (by kernel_rfl) rfl #[.slice A0 l0.length c0] rfl (by (try simp only [List.map_toArray, List.map_cons, List.map_nil]); first | done | rfl | (simp only [List.length_drop, List.length_take]; rfl)) ?_; (with_reducible refine (laws_matchers.calls k1 _ _ l0 t182 _ ?side1 ?side2 A22.out).mono ?_); (case side1 => repeat (first | exact (Kd.C_below HR0.out HB.out) | (with_reducible refine Kd.C_alloc ?_ _) | (with_reducible refine Kd.C_drewN ?_ _) | (with_reducible refine Kd.C_drew ?_))); (case side2 => exact HC0.out); rintro e w30 ⟨v183, rfl, ho0, hb⟩; refine ⟨_, rfl, ?_⟩; have n0_ := Aside0.mk (Kd.R_lower ho0 (below_size (by repeat (first | (with_reducible first | exact HB.out | apply below_alloc | apply pw_below_drewN | apply below_drew1) | exact HB.out)))); have n1_ := Aside0.mk (below_step (by repeat (first | (with_reducible first | exact HB.out | apply below_alloc | apply pw_below_drewN | apply below_drew1) | exact HB.out)) hb); clear HB; have HO184 := n0_; have HB := n1_; clear n0_ n1_; (try clear hb); (try clear hb2); (try clear hk); (try clear hi); (try clear ho0); obtain ⟨Ao31, co31, eo31⟩ := Kd.R_slice HO184.out; subst eo31) | ((with_reducible refine gate_callee (f := 13) rfl ?_); refine goesL_ (some 53) rfl rfl Tryd.func13 (by kernel_rfl) rfl #[.slice Ao31 t182.length co31] rfl (by (try simp only [List.map_toArray, List.map_cons, List.map_nil]); first | done | rfl | (simp only [List.length_drop, List.length_take]; rfl)) ?_; (with_reducible refine (spec_PrintMatchers.calls k1 _ _ t182 t185 t186 _ ?side1 ?side2 A23.out).mono ?_); (case side1 => repeat (first | exact (Kd.R_reads' HO184.out).2.2 | (with_reducible refine Kd.C_alloc ?_ _) | (with_reducible refine Kd.C_drewN ?_ _) | (with_reducible refine Kd.C_drew ?_))); (case side2 => exact (Kd.R_reads' HO184.out).2.1); rintro e w32 ⟨rfl, hb⟩; refine ⟨_, rfl, ?_⟩; have n0_ := Aside0.mk (Kd.R_below (by (with_reducible repeat (first | apply Kd.R_alloc | apply Kd.R_drewN | apply Kd.R_drew)); exact HO184.out) hb); have n1_ := Aside0.mk (below_step (by repeat (first | (with_reducible first | exact HB.out | apply below_alloc | apply pw_below_drewN | apply below_drew1) | exact HB.out)) hb); clear HO184; clear HB; have HO184 := n0_; have HB := n1_; clear n0_ n1_; (try clear hb); (try clear hb2); (try clear hk); (try clear hi)))
                go_ret
                exact ⟨by first | rfl | (simp [errW_none, errW_some] <;> rfl) | (simp [*, errW_none, errW_some] <;> rfl), by repeat (first | (with_reducible first | exact HB.out | apply below_alloc | apply pw_below_drewN | apply below_drew1) | exact HB.out)⟩
    · rw [if_neg c5] at H
      have c5b0 : (t179.toList == ([123, 125] : List UInt8)) = false := beq_eq_false_iff_ne.mpr c5
      have c5b1 : (t179.toList != ([123, 125] : List UInt8)) = true := bne_iff_ne.mpr c5
      obtain rfl := Option.some.inj H
      go_enter Tryd.func4, Tryd.ntmps4
      go_wp2_with (first | ((with_reducible refine gate_callee (f := 11) rfl ?_); refine goesL_ (some 9) rfl rfl Tryd.func11 (by kernel_rfl) rfl #[.slice A0 l0.length c0] rfl (by (try simp only [List.map_toArray, List.map_cons, List.map_nil]); first | done | rfl | (simp only [List.length_drop, List.length_take]; rfl)) ?_; (with_reducible refine (laws_zzFits3.calls k _ _ l0 true _ ?side1 ?side2 A2.out).mono ?_); (case side1 => repeat (first | exact HR0.out | (with_reducible refine Kd.C_alloc ?_ _) | (with_reducible refine Kd.C_drewN ?_ _) | (with_reducible refine Kd.C_drew ?_))); (case side2 => exact HC0.out); rintro e w33 ⟨rfl, hb⟩; refine ⟨_, rfl, ?_⟩; have n0_ := Aside0.mk (below_step (by repeat (first | (with_reducible first | exact HB.out | apply below_alloc | apply pw_below_drewN | apply below_drew1) | exact HB.out)) hb); clear HB; have HB := n0_; clear n0_; (try clear hb); (try clear hb2); (try clear hk); (try clear hi)) | ((with_reducible refine gate_callee (f := 12) rfl ?_); refine goesL_ (some 11) rfl rfl Tryd.func12 (by kernel_rfl) rfl #[.slice none 0 0] rfl (by (try simp only [List.map_toArray, List.map_cons, List.map_nil]); first | done | rfl | (simp only [List.length_drop, List.length_take]; rfl)) ?_; (refine (impl_PrintMatchers.calls k _ _ ([] : List (S23)) t179 _ ?side1 ?side2 ?side3 A4.out).mono ?_); (case side1 => exact Kd.C_nil _ _); (case side2 => exact Nat.le_refl _); (case side3 => exact Go.Proofs.YtpdfokdhnalfaaaDoor.Door.PT.below HT_.out (by repeat (first | (with_reducible first | exact HB.out | apply below_alloc | apply pw_below_drewN | apply below_drew1) | exact HB.out))); rintro e w34 ⟨rfl, hb⟩; refine ⟨_, rfl, ?_⟩; have n0_ := Aside0.mk (below_step (by repeat (first | (with_reducible first | exact HB.out | apply below_alloc | apply pw_below_drewN | apply below_drew1) | exact HB.out)) hb); clear HB; have HB := n0_; clear n0_; (try clear hb); (try clear hb2); (try clear hk); (try clear hi)))
      go_ret
      exact ⟨by first | rfl | (simp [errW_none, errW_some] <;> rfl) | (simp [*, errW_none, errW_some] <;> rfl), by repeat (first | (with_reducible first | exact HB.out | apply below_alloc | apply pw_below_drewN | apply below_drew1) | exact HB.out)⟩
  · replace c3 := Bool.eq_false_iff.mpr c3
    subst c3
    have H1 : (some true) = some r := by rw [if_neg (show ¬ (false = true) by decide)] at H; exact H
    clear H
    have H := H1
    clear H1
    obtain rfl := Option.some.inj H
    go_enter Tryd.func4, Tryd.ntmps4
    go_wp2_with (first | ((with_reducible refine gate_callee (f := 11) rfl ?_); refine goesL_ (some 9) rfl rfl Tryd.func11 (by kernel_rfl) rfl #[.slice A0 l0.length c0] rfl (by (try simp only [List.map_toArray, List.map_cons, List.map_nil]); first | done | rfl | (simp only [List.length_drop, List.length_take]; rfl)) ?_; (with_reducible refine (laws_zzFits3.calls k _ _ l0 false _ ?side1 ?side2 A2.out).mono ?_); (case side1 => repeat (first | exact HR0.out | (with_reducible refine Kd.C_alloc ?_ _) | (with_reducible refine Kd.C_drewN ?_ _) | (with_reducible refine Kd.C_drew ?_))); (case side2 => exact HC0.out); rintro e w35 ⟨rfl, hb⟩; refine ⟨_, rfl, ?_⟩; have n0_ := Aside0.mk (below_step (by repeat (first | (with_reducible first | exact HB.out | apply below_alloc | apply pw_below_drewN | apply below_drew1) | exact HB.out)) hb); clear HB; have HB := n0_; clear n0_; (try clear hb); (try clear hb2); (try clear hk); (try clear hi)))
    go_ret
    exact ⟨by first | rfl | (simp [errW_none, errW_some] <;> rfl) | (simp [*, errW_none, errW_some] <;> rfl), by repeat (first | (with_reducible first | exact HB.out | apply below_alloc | apply pw_below_drewN | apply below_drew1) | exact HB.out)⟩

/-- THE ONE PURE STATEMENT of laws_FnPrintedList: yours. -/
def laws_FnPrintedList.Pure : Prop := ∀ (l0 : List (S23)), (l0.length ≤ maxLen ∧ ∀ y ∈ l0, okS23 y) → ∃ k, laws_FnPrintedList.f k l0 = some true

end Go.Proofs.YtpdfokdhnalfaaaDoor.Q
