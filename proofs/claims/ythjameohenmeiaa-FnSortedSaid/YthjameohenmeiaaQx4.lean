-- printed by this project's own program wip/tools/mkprint.py (the kit's print.py with hand-proved contracts put in)
import Derived.Test.YthjameohenmeiaaQx0
import Derived.Test.YthjameohenmeiaaQx1
namespace Go.Proofs.Ythjameohenmeiaa.Q
open Go.RowKit Go.Proofs.YthjameohenmeiaaW.PrintWords Go.Proofs.YthjameohenmeiaaW.PrintLast Go.Proofs.YthjameohenmeiaaW.PrintMore
attribute [local go_sem] max2_int min2_int max_two min_two max_three min_three max_four min_four   -- for this text's walks alone
set_option linter.unusedVariables false
set_option linter.unusedSimpArgs false

attribute [local go_sem high] eqA32
/-! ### laws_values: function 26 -/
def laws_values.l0 : Nat → List (S32) → List (S32) → Int → Int → Option (Bool)
  | 0, _, _, _, _ => none
  | k + 1, x0, x5, x6, x7 => if x7 < x6 then (if 0 ≤ x7 then (if x7 < (x5.length : Int) then (if ((rd_T32 x5 x7).f0) = 0 then (laws_values.l0 k x0 x5 x6 (wrap64 (x7 + 1))) else (if ((rd_T32 x5 x7).f0) = 1 then (laws_values.l0 k x0 x5 x6 (wrap64 (x7 + 1))) else (some false))) else (none)) else (none)) else (some (decide ((x0.length : Int) ≤ 10000)))
def laws_values.f (k : Nat) (l0 : List (S32)) : Option (Bool) := laws_values.l0 k l0 l0 (l0.length : Int) 0
theorem laws_values.mono_l : ∀ k, (∀ y0 y1 y2 y3, LeO (laws_values.l0 k y0 y1 y2 y3) (laws_values.l0 (k + 1) y0 y1 y2 y3))
  | 0 => fun _ _ _ _ r h => by simp [laws_values.l0] at h
  | k + 1 => by
    have ih0 := laws_values.mono_l k
    · intro y0 y1 y2 y3
      unfold laws_values.l0
      repeat' first
      | (with_reducible exact ih0 _ _ _ _)
      | (with_reducible exact LeO.refl _)
      | (with_reducible exact LeO.none _)
      | (with_reducible refine LeO.ite ?_ ?_)
      | (with_reducible refine LeO.bind ?_ (fun _ => ?_))
      | exact ih0 _ _ _ _
      | exact LeO.none _
      | refine LeO.ite ?_ ?_
      | refine LeO.bind ?_ (fun _ => ?_)
theorem laws_values.mono : ∀ a0 k, LeO (laws_values.f k a0) (laws_values.f (k + 1) a0) := by
  intro a0 k
  have ih0 := laws_values.mono_l k
  unfold laws_values.f
  repeat' first
      | (with_reducible exact ih0 _ _ _ _)
      | (with_reducible exact LeO.refl _)
      | (with_reducible exact LeO.none _)
      | (with_reducible refine LeO.ite ?_ ?_)
      | (with_reducible refine LeO.bind ?_ (fun _ => ?_))
      | exact ih0 _ _ _ _
      | exact LeO.none _
      | refine LeO.ite ?_ ?_
      | refine LeO.bind ?_ (fun _ => ?_)
set_option maxHeartbeats 8000000 in
set_option maxRecDepth 100000 in
theorem laws_values.calls (k : Nat) (A0 : Option Addr) (c0 : Nat) (l0 : List (S32)) (r : Bool) (w : World) (hr0 : Kd.C k32 w A0 l0.length l0) (hc0 : l0.length ≤ c0) (h : laws_values.f k l0 = some r) :
    Calls Try.prog 26 #[.slice A0 l0.length c0] w fun e w' => e = .returned (.bool r) ∧ Below w.heap.size w w' := by
  have hu32 := Try.underlying32
  have HR0 := Aside0.mk hr0
  have HC0 := Aside0.mk hc0
  clear hr0 hc0
  have HB := Aside0.mk (Below.refl w.heap.size w)
  have H : (laws_values.l0 k l0 l0 (l0.length : Int) 0) = some r := h
  clear h
  have H' := Aside0.mk H
  clear H
  go_enter Try.func26, Try.ntmps26
  go_wp2
  go_loopg [7] k (fun kq v7 w' => ∃ (x7_1 : Int), v7 = .int .i64 x7_1 ∧ Aside0 (laws_values.l0 kq l0 l0 (l0.length : Int) x7_1 = some r) ∧ Aside0 (kq ≤ k) ∧ Aside0 (Below w.heap.size w w'))
  case atStart => exact ⟨(0), (by first | rfl | (simp; done) | (simp [*]; done)), H', ⟨Nat.le_refl _⟩, ⟨by repeat (first | (with_reducible first | exact HB.out | apply below_alloc | apply pw_below_drewN | apply below_drew1) | exact HB.out)⟩⟩
  case round =>
    clear H'
    obtain ⟨x7_1, rfl, HA, HK1, HB⟩ := hrel
    cases gk with
    | zero => exact absurd HA.out (by simp [laws_values.l0])
    | succ k1 =>
      have H := HA.out
      clear HA
      simp only [laws_values.l0] at H
      by_cases c2 : x7_1 < (l0.length : Int)
      · rw [if_pos c2] at H
        have c2b0 : decide (x7_1 < (l0.length : Int)) = true := decide_eq_true c2
        clear c2
        by_cases c3 : 0 ≤ x7_1
        · rw [if_pos c3] at H
          have c3b0 : decide (0 ≤ x7_1) = true := decide_eq_true c3
          clear c3
          by_cases c4 : x7_1 < (l0.length : Int)
          · rw [if_pos c4] at H
            have c4b0 : decide (x7_1 < (l0.length : Int)) = true := decide_eq_true c4
            clear c4
            by_cases c5 : ((rd_T32 l0 x7_1).f0) = 0
            · rw [if_pos c5] at H
              have c5b0 : (((rd_T32 l0 x7_1).f0) == 0) = true := beq_iff_eq.mpr c5
              have c5b1 : (((rd_T32 l0 x7_1).f0) != 0) = false := bne_eq_false_iff_eq.mpr c5
              clear c5
              have H' := Aside0.mk H
              clear H
              have p105 : 0 ≤ (x7_1 : Int) := of_decide_eq_true (by first | (with_reducible assumption) | assumption)
              have q105 : x7_1 < (l0.length : Int) := of_decide_eq_true (by first | (with_reducible assumption) | assumption)
              obtain ⟨ad105, e105, hx105_0, hx105_1, hx105_2⟩ := at_T32 HR0.out x7_1 p105 q105
              cases e105
              replace hx105_0 := (HB.out.cell (World.block_lt_of_cell? w _ hx105_0)).trans hx105_0
              replace hx105_1 := (HB.out.cell (World.block_lt_of_cell? w _ hx105_1)).trans hx105_1
              replace hx105_2 := (HB.out.cell (World.block_lt_of_cell? w _ hx105_2)).trans hx105_2
              replace p105 := eq_true p105
              replace q105 := eq_true q105
              go_wp2_with (first | ((with_reducible refine gate_dst (N := 4) rfl ?_); refine box_event ?hg (N := 4) ?hd (cs := #[.int .i64 0, .string (⟨#[]⟩ : ByteArray), .string (⟨#[]⟩ : ByteArray)]) (t := 32) ?hr ?_; (case hd => rfl); (case hg => rfl); (case hr => first | (go_simp; done) | (go_simp; rfl)); intro gb106 hg w6 hbox hb; have n0_ := Aside0.mk (below_step (by repeat (first | (with_reducible first | exact HB.out | apply below_alloc | apply pw_below_drewN | apply below_drew1) | exact HB.out)) hb); have n1_ := Aside0.mk (hbox); have n2_ := Aside0.mk ((by rw [hg]; exact (below_size (by repeat (first | (with_reducible first | exact HB.out | apply below_alloc | apply pw_below_drewN | apply below_drew1) | exact HB.out))) : w.heap.size ≤ gb106)); have n3_ := Aside0.mk ((by rw [hg]; exact (below_size (by repeat (first | (with_reducible first | exact HB.out | apply below_alloc | apply pw_below_drewN | apply below_drew1) | exact HB.out))) : w.heap.size ≤ gb106)); clear HB; have HB := n0_; have BK106 := n1_; have GW106 := n2_; have GE106 := n3_; clear n0_ n1_ n2_ n3_; clear hb hbox hg; have hcz7_0 : w6.cell? ⟨gb106, 0, none⟩ = some (.int .i64 0) := (blk_cell BK106.out 0).trans rfl; have hcz7_1 : w6.cell? ⟨gb106, 1, none⟩ = some (.string (⟨#[]⟩ : ByteArray)) := (blk_cell BK106.out 1).trans rfl; have hcz7_2 : w6.cell? ⟨gb106, 2, none⟩ = some (.string (⟨#[]⟩ : ByteArray)) := (blk_cell BK106.out 2).trans rfl; have hfz7_0 := blk_frozen BK106.out 0; have hfz7_1 := blk_frozen BK106.out 1; have hfz7_2 := blk_frozen BK106.out 2))
              go_roundg k1
              case measure => have := HK1.out; omega
              case rel => exact ⟨(wrap64 (x7_1 + 1)), (by first | rfl | (simp; done) | (simp [*]; done)), H', ⟨by have := HK1.out; omega⟩, ⟨by repeat (first | (with_reducible first | exact HB.out | apply below_alloc | apply pw_below_drewN | apply below_drew1 | refine below_set ?_ GE106.out) | exact HB.out)⟩⟩
            · rw [if_neg c5] at H
              have c5b0 : (((rd_T32 l0 x7_1).f0) == 0) = false := beq_eq_false_iff_ne.mpr c5
              have c5b1 : (((rd_T32 l0 x7_1).f0) != 0) = true := bne_iff_ne.mpr c5
              by_cases c8 : ((rd_T32 l0 x7_1).f0) = 1
              · rw [if_pos c8] at H
                have c8b0 : (((rd_T32 l0 x7_1).f0) == 1) = true := beq_iff_eq.mpr c8
                have c8b1 : (((rd_T32 l0 x7_1).f0) != 1) = false := bne_eq_false_iff_eq.mpr c8
                clear c8
                have H' := Aside0.mk H
                clear H
                have p105 : 0 ≤ (x7_1 : Int) := of_decide_eq_true (by first | (with_reducible assumption) | assumption)
                have q105 : x7_1 < (l0.length : Int) := of_decide_eq_true (by first | (with_reducible assumption) | assumption)
                obtain ⟨ad105, e105, hx105_0, hx105_1, hx105_2⟩ := at_T32 HR0.out x7_1 p105 q105
                cases e105
                replace hx105_0 := (HB.out.cell (World.block_lt_of_cell? w _ hx105_0)).trans hx105_0
                replace hx105_1 := (HB.out.cell (World.block_lt_of_cell? w _ hx105_1)).trans hx105_1
                replace hx105_2 := (HB.out.cell (World.block_lt_of_cell? w _ hx105_2)).trans hx105_2
                replace p105 := eq_true p105
                replace q105 := eq_true q105
                go_wp2_with (first | ((with_reducible refine gate_dst (N := 4) rfl ?_); refine box_event ?hg (N := 4) ?hd (cs := #[.int .i64 0, .string (⟨#[]⟩ : ByteArray), .string (⟨#[]⟩ : ByteArray)]) (t := 32) ?hr ?_; (case hd => rfl); (case hg => rfl); (case hr => first | (go_simp; done) | (go_simp; rfl)); intro gb106 hg w9 hbox hb; have n0_ := Aside0.mk (below_step (by repeat (first | (with_reducible first | exact HB.out | apply below_alloc | apply pw_below_drewN | apply below_drew1) | exact HB.out)) hb); have n1_ := Aside0.mk (hbox); have n2_ := Aside0.mk ((by rw [hg]; exact (below_size (by repeat (first | (with_reducible first | exact HB.out | apply below_alloc | apply pw_below_drewN | apply below_drew1) | exact HB.out))) : w.heap.size ≤ gb106)); have n3_ := Aside0.mk ((by rw [hg]; exact (below_size (by repeat (first | (with_reducible first | exact HB.out | apply below_alloc | apply pw_below_drewN | apply below_drew1) | exact HB.out))) : w.heap.size ≤ gb106)); clear HB; have HB := n0_; have BK106 := n1_; have GW106 := n2_; have GE106 := n3_; clear n0_ n1_ n2_ n3_; clear hb hbox hg; have hcz10_0 : w9.cell? ⟨gb106, 0, none⟩ = some (.int .i64 0) := (blk_cell BK106.out 0).trans rfl; have hcz10_1 : w9.cell? ⟨gb106, 1, none⟩ = some (.string (⟨#[]⟩ : ByteArray)) := (blk_cell BK106.out 1).trans rfl; have hcz10_2 : w9.cell? ⟨gb106, 2, none⟩ = some (.string (⟨#[]⟩ : ByteArray)) := (blk_cell BK106.out 2).trans rfl; have hfz10_0 := blk_frozen BK106.out 0; have hfz10_1 := blk_frozen BK106.out 1; have hfz10_2 := blk_frozen BK106.out 2))
                go_roundg k1
                case measure => have := HK1.out; omega
                case rel => exact ⟨(wrap64 (x7_1 + 1)), (by first | rfl | (simp; done) | (simp [*]; done)), H', ⟨by have := HK1.out; omega⟩, ⟨by repeat (first | (with_reducible first | exact HB.out | apply below_alloc | apply pw_below_drewN | apply below_drew1 | refine below_set ?_ GE106.out) | exact HB.out)⟩⟩
              · rw [if_neg c8] at H
                have c8b0 : (((rd_T32 l0 x7_1).f0) == 1) = false := beq_eq_false_iff_ne.mpr c8
                have c8b1 : (((rd_T32 l0 x7_1).f0) != 1) = true := bne_iff_ne.mpr c8
                obtain rfl := Option.some.inj H
                have p105 : 0 ≤ (x7_1 : Int) := of_decide_eq_true (by first | (with_reducible assumption) | assumption)
                have q105 : x7_1 < (l0.length : Int) := of_decide_eq_true (by first | (with_reducible assumption) | assumption)
                obtain ⟨ad105, e105, hx105_0, hx105_1, hx105_2⟩ := at_T32 HR0.out x7_1 p105 q105
                cases e105
                replace hx105_0 := (HB.out.cell (World.block_lt_of_cell? w _ hx105_0)).trans hx105_0
                replace hx105_1 := (HB.out.cell (World.block_lt_of_cell? w _ hx105_1)).trans hx105_1
                replace hx105_2 := (HB.out.cell (World.block_lt_of_cell? w _ hx105_2)).trans hx105_2
                replace p105 := eq_true p105
                replace q105 := eq_true q105
                go_wp2_with (first | ((with_reducible refine gate_dst (N := 4) rfl ?_); refine box_event ?hg (N := 4) ?hd (cs := #[.int .i64 0, .string (⟨#[]⟩ : ByteArray), .string (⟨#[]⟩ : ByteArray)]) (t := 32) ?hr ?_; (case hd => rfl); (case hg => rfl); (case hr => first | (go_simp; done) | (go_simp; rfl)); intro gb106 hg w11 hbox hb; have n0_ := Aside0.mk (below_step (by repeat (first | (with_reducible first | exact HB.out | apply below_alloc | apply pw_below_drewN | apply below_drew1) | exact HB.out)) hb); have n1_ := Aside0.mk (hbox); have n2_ := Aside0.mk ((by rw [hg]; exact (below_size (by repeat (first | (with_reducible first | exact HB.out | apply below_alloc | apply pw_below_drewN | apply below_drew1) | exact HB.out))) : w.heap.size ≤ gb106)); have n3_ := Aside0.mk ((by rw [hg]; exact (below_size (by repeat (first | (with_reducible first | exact HB.out | apply below_alloc | apply pw_below_drewN | apply below_drew1) | exact HB.out))) : w.heap.size ≤ gb106)); clear HB; have HB := n0_; have BK106 := n1_; have GW106 := n2_; have GE106 := n3_; clear n0_ n1_ n2_ n3_; clear hb hbox hg; have hcz12_0 : w11.cell? ⟨gb106, 0, none⟩ = some (.int .i64 0) := (blk_cell BK106.out 0).trans rfl; have hcz12_1 : w11.cell? ⟨gb106, 1, none⟩ = some (.string (⟨#[]⟩ : ByteArray)) := (blk_cell BK106.out 1).trans rfl; have hcz12_2 : w11.cell? ⟨gb106, 2, none⟩ = some (.string (⟨#[]⟩ : ByteArray)) := (blk_cell BK106.out 2).trans rfl; have hfz12_0 := blk_frozen BK106.out 0; have hfz12_1 := blk_frozen BK106.out 1; have hfz12_2 := blk_frozen BK106.out 2))
                go_ret
                exact ⟨by first | rfl | (simp [errW_none, errW_some] <;> rfl) | (simp [*, errW_none, errW_some] <;> rfl), by repeat (first | (with_reducible first | exact HB.out | apply below_alloc | apply pw_below_drewN | apply below_drew1 | refine below_set ?_ GE106.out) | exact HB.out)⟩
          · rw [if_neg c4] at H
            exact absurd H (by simp)
        · rw [if_neg c3] at H
          exact absurd H (by simp)
      · rw [if_neg c2] at H
        have c2b0 : decide (x7_1 < (l0.length : Int)) = false := decide_eq_false c2
        clear c2
        obtain rfl := Option.some.inj H
        go_wp2
        go_ret
        exact ⟨by first | rfl | (simp [errW_none, errW_some] <;> rfl) | (simp [*, errW_none, errW_some] <;> rfl), by repeat (first | (with_reducible first | exact HB.out | apply below_alloc | apply pw_below_drewN | apply below_drew1) | exact HB.out)⟩

/-! ### laws_typed: function 12 -/
def laws_typed.f (k : Nat) (l0 : List (S32)) : Option (Bool) := (laws_values.f k l0).bind fun t107 => (if t107 = true then (some (decide ((l0.length : Int) ≤ 2000))) else (some false))
theorem laws_typed.mono : ∀ a0 k, LeO (laws_typed.f k a0) (laws_typed.f (k + 1) a0) := by
  intro a0 k
  unfold laws_typed.f
  repeat' first
      | (with_reducible exact laws_values.mono _ _)
      | (with_reducible exact LeO.refl _)
      | (with_reducible exact LeO.none _)
      | (with_reducible refine LeO.ite ?_ ?_)
      | (with_reducible refine LeO.bind ?_ (fun _ => ?_))
      | exact laws_values.mono _ _
      | exact LeO.none _
      | refine LeO.ite ?_ ?_
      | refine LeO.bind ?_ (fun _ => ?_)
set_option maxHeartbeats 8000000 in
set_option maxRecDepth 100000 in
theorem laws_typed.calls (k : Nat) (A0 : Option Addr) (c0 : Nat) (l0 : List (S32)) (r : Bool) (w : World) (hr0 : Kd.C k32 w A0 l0.length l0) (hc0 : l0.length ≤ c0) (h : laws_typed.f k l0 = some r) :
    Calls Try.prog 12 #[.slice A0 l0.length c0] w fun e w' => e = .returned (.bool r) ∧ Below w.heap.size w w' := by
  have HR0 := Aside0.mk hr0
  have HC0 := Aside0.mk hc0
  clear hr0 hc0
  have HB := Aside0.mk (Below.refl w.heap.size w)
  have H : ((laws_values.f k l0).bind fun t107 => (if t107 = true then (some (decide ((l0.length : Int) ≤ 2000))) else (some false))) = some r := h
  clear h
  replace H := Option.bind_eq_some_iff.mp H
  obtain ⟨t107, A20, H⟩ := H
  replace H : (if t107 = true then (some (decide ((l0.length : Int) ≤ 2000))) else (some false)) = some r := H
  have A2 := Aside0.mk A20
  clear A20
  by_cases c3 : t107 = true
  · subst c3
    have H1 : (some (decide ((l0.length : Int) ≤ 2000))) = some r := by rw [if_pos rfl] at H; exact H
    clear H
    have H := H1
    clear H1
    obtain rfl := Option.some.inj H
    go_enter Try.func12, Try.ntmps12
    go_wp2_with (first | ((with_reducible refine gate_callee (f := 26) rfl ?_); refine goesL_ (some 4) rfl rfl Try.func26 (by kernel_rfl) rfl #[.slice A0 l0.length c0] rfl (by (try simp only [List.map_toArray, List.map_cons, List.map_nil]); first | done | rfl | (simp only [List.length_drop, List.length_take]; rfl)) ?_; (with_reducible refine (laws_values.calls k _ _ l0 true _ ?side1 ?side2 A2.out).mono ?_); (case side1 => repeat (first | exact HR0.out | (with_reducible refine Kd.C_alloc ?_ _) | (with_reducible refine Kd.C_drewN ?_ _) | (with_reducible refine Kd.C_drew ?_))); (case side2 => exact HC0.out); rintro e w4 ⟨rfl, hb⟩; refine ⟨_, rfl, ?_⟩; have n0_ := Aside0.mk (below_step (by repeat (first | (with_reducible first | exact HB.out | apply below_alloc | apply pw_below_drewN | apply below_drew1) | exact HB.out)) hb); clear HB; have HB := n0_; clear n0_; (try clear hb); (try clear hb2); (try clear hk); (try clear hi)))
    go_ret
    exact ⟨by first | rfl | (simp [errW_none, errW_some] <;> rfl) | (simp [*, errW_none, errW_some] <;> rfl), by repeat (first | (with_reducible first | exact HB.out | apply below_alloc | apply pw_below_drewN | apply below_drew1) | exact HB.out)⟩
  · replace c3 := Bool.eq_false_iff.mpr c3
    subst c3
    have H1 : (some false) = some r := by rw [if_neg (show ¬ (false = true) by decide)] at H; exact H
    clear H
    have H := H1
    clear H1
    obtain rfl := Option.some.inj H
    go_enter Try.func12, Try.ntmps12
    go_wp2_with (first | ((with_reducible refine gate_callee (f := 26) rfl ?_); refine goesL_ (some 4) rfl rfl Try.func26 (by kernel_rfl) rfl #[.slice A0 l0.length c0] rfl (by (try simp only [List.map_toArray, List.map_cons, List.map_nil]); first | done | rfl | (simp only [List.length_drop, List.length_take]; rfl)) ?_; (with_reducible refine (laws_values.calls k _ _ l0 false _ ?side1 ?side2 A2.out).mono ?_); (case side1 => repeat (first | exact HR0.out | (with_reducible refine Kd.C_alloc ?_ _) | (with_reducible refine Kd.C_drewN ?_ _) | (with_reducible refine Kd.C_drew ?_))); (case side2 => exact HC0.out); rintro e w5 ⟨rfl, hb⟩; refine ⟨_, rfl, ?_⟩; have n0_ := Aside0.mk (below_step (by repeat (first | (with_reducible first | exact HB.out | apply below_alloc | apply pw_below_drewN | apply below_drew1) | exact HB.out)) hb); clear HB; have HB := n0_; clear n0_; (try clear hb); (try clear hb2); (try clear hk); (try clear hi)))
    go_ret
    exact ⟨by first | rfl | (simp [errW_none, errW_some] <;> rfl) | (simp [*, errW_none, errW_some] <;> rfl), by repeat (first | (with_reducible first | exact HB.out | apply below_alloc | apply pw_below_drewN | apply below_drew1) | exact HB.out)⟩

/-! ### laws_before: function 13 -/
def laws_before.f (a0_0 : Int) (a0_1 : ByteArray) (a0_2 : ByteArray) (a1_0 : Int) (a1_1 : ByteArray) (a1_2 : ByteArray) : Option (Bool) := if a0_1.toList = a1_1.toList then (if a0_2.toList = a1_2.toList then (some (decide (a0_0 < a1_0))) else (some (Op.bytesLess a0_2.toList a1_2.toList))) else (some (Op.bytesLess a0_1.toList a1_1.toList))
set_option maxHeartbeats 8000000 in
set_option maxRecDepth 100000 in
theorem laws_before.calls (a0_0 : Int) (a0_1 : ByteArray) (a0_2 : ByteArray) (a1_0 : Int) (a1_1 : ByteArray) (a1_2 : ByteArray) (r : Bool) (w : World) (h : laws_before.f a0_0 a0_1 a0_2 a1_0 a1_1 a1_2 = some r) :
    Calls Try.prog 13 #[.agg #[.int .i64 a0_0, .string a0_1, .string a0_2], .agg #[.int .i64 a1_0, .string a1_1, .string a1_2]] w fun e w' => e = .returned (.bool r) ∧ Below w.heap.size w w' := by
  have hu32 := Try.underlying32
  have HB := Aside0.mk (Below.refl w.heap.size w)
  have H : (if a0_1.toList = a1_1.toList then (if a0_2.toList = a1_2.toList then (some (decide (a0_0 < a1_0))) else (some (Op.bytesLess a0_2.toList a1_2.toList))) else (some (Op.bytesLess a0_1.toList a1_1.toList))) = some r := h
  clear h
  by_cases c3 : a0_1.toList = a1_1.toList
  · rw [if_pos c3] at H
    have c3b0 : (a0_1.toList == a1_1.toList) = true := beq_iff_eq.mpr c3
    have c3b1 : (a0_1.toList != a1_1.toList) = false := bne_eq_false_iff_eq.mpr c3
    clear c3
    by_cases c4 : a0_2.toList = a1_2.toList
    · rw [if_pos c4] at H
      have c4b0 : (a0_2.toList == a1_2.toList) = true := beq_iff_eq.mpr c4
      have c4b1 : (a0_2.toList != a1_2.toList) = false := bne_eq_false_iff_eq.mpr c4
      clear c4
      obtain rfl := Option.some.inj H
      go_enter Try.func13, Try.ntmps13
      go_wp2_with (first | ((with_reducible refine gate_dst (N := 2) rfl ?_); refine box_event ?hg (N := 2) ?hd (cs := #[.int .i64 a0_0, .string a0_1, .string a0_2]) (t := 32) ?hr ?_; (case hd => rfl); (case hg => rfl); (case hr => first | (go_simp; done) | (go_simp; rfl)); intro gb108 hg w5 hbox hb; have n0_ := Aside0.mk (below_step (by repeat (first | (with_reducible first | exact HB.out | apply below_alloc | apply pw_below_drewN | apply below_drew1) | exact HB.out)) hb); have n1_ := Aside0.mk (hbox); have n2_ := Aside0.mk ((by rw [hg]; exact (below_size (by repeat (first | (with_reducible first | exact HB.out | apply below_alloc | apply pw_below_drewN | apply below_drew1) | exact HB.out))) : w.heap.size ≤ gb108)); have n3_ := Aside0.mk ((by rw [hg]; exact (below_size (by repeat (first | (with_reducible first | exact HB.out | apply below_alloc | apply pw_below_drewN | apply below_drew1) | exact HB.out))) : w.heap.size ≤ gb108)); clear HB; have HB := n0_; have BK108 := n1_; have GW108 := n2_; have GE108 := n3_; clear n0_ n1_ n2_ n3_; clear hb hbox hg) | ((with_reducible refine gate_dst (N := 3) rfl ?_); refine box_event ?hg (N := 3) ?hd (cs := #[.int .i64 a1_0, .string a1_1, .string a1_2]) (t := 32) ?hr ?_; (case hd => rfl); (case hg => rfl); (case hr => first | (go_simp; done) | (go_simp; rfl)); intro gb109 hg w6 hbox hb; have n0_ := Aside0.mk (blk_below (g := gb108) (o := .cells #[.int .i64 a0_0, .string a0_1, .string a0_2] 32 (0, 0)) (by (with_reducible repeat (first | refine blk_drewN ?_ _ | refine blk_drew ?_ | refine blk_alloc ?_ _)); exact BK108.out) hb); have n1_ := Aside0.mk (below_step (by repeat (first | (with_reducible first | exact HB.out | apply below_alloc | apply pw_below_drewN | apply below_drew1 | refine below_set ?_ GE108.out) | exact HB.out)) hb); have n2_ := Aside0.mk (hbox); have n3_ := Aside0.mk ((by rw [hg]; exact (below_size (by repeat (first | (with_reducible first | exact HB.out | apply below_alloc | apply pw_below_drewN | apply below_drew1 | refine below_set ?_ GE108.out) | exact HB.out))) : w.heap.size ≤ gb109)); have n4_ := Aside0.mk ((by rw [hg]; exact (below_size (by repeat (first | (with_reducible first | exact HB.out | apply below_alloc | apply pw_below_drewN | apply below_drew1 | refine below_set ?_ GE108.out) | exact HB.out))) : w.heap.size ≤ gb109)); have n5_ := Aside0.mk ((by rw [hg]; exact Nat.ne_of_lt (blk_lt (g := gb108) (o := .cells #[.int .i64 a0_0, .string a0_1, .string a0_2] 32 (0, 0)) (by (with_reducible repeat (first | refine blk_drewN ?_ _ | refine blk_drew ?_ | refine blk_alloc ?_ _)); exact BK108.out)) : gb108 ≠ gb109)); have n6_ := Aside0.mk ((by rw [hg]; exact Nat.ne_of_gt (blk_lt (g := gb108) (o := .cells #[.int .i64 a0_0, .string a0_1, .string a0_2] 32 (0, 0)) (by (with_reducible repeat (first | refine blk_drewN ?_ _ | refine blk_drew ?_ | refine blk_alloc ?_ _)); exact BK108.out)) : gb109 ≠ gb108)); clear BK108; clear HB; have BK108 := n0_; have HB := n1_; have BK109 := n2_; have GW109 := n3_; have GE109 := n4_; have NB108_109 := n5_; have NB109_108 := n6_; clear n0_ n1_ n2_ n3_ n4_ n5_ n6_; clear hb hbox hg; have hnb7 := NB108_109.out; have hnc7 := NB109_108.out; have hcz8_0 : w6.cell? ⟨gb108, 0, none⟩ = some (.int .i64 a0_0) := (blk_cell BK108.out 0).trans rfl; have hcz8_1 : w6.cell? ⟨gb108, 1, none⟩ = some (.string a0_1) := (blk_cell BK108.out 1).trans rfl; have hcz8_2 : w6.cell? ⟨gb108, 2, none⟩ = some (.string a0_2) := (blk_cell BK108.out 2).trans rfl; have hfz8_0 := blk_frozen BK108.out 0; have hfz8_1 := blk_frozen BK108.out 1; have hfz8_2 := blk_frozen BK108.out 2; have hcz9_0 : w6.cell? ⟨gb109, 0, none⟩ = some (.int .i64 a1_0) := (blk_cell BK109.out 0).trans rfl; have hcz9_1 : w6.cell? ⟨gb109, 1, none⟩ = some (.string a1_1) := (blk_cell BK109.out 1).trans rfl; have hcz9_2 : w6.cell? ⟨gb109, 2, none⟩ = some (.string a1_2) := (blk_cell BK109.out 2).trans rfl; have hfz9_0 := blk_frozen BK109.out 0; have hfz9_1 := blk_frozen BK109.out 1; have hfz9_2 := blk_frozen BK109.out 2))
      go_ret
      exact ⟨by first | rfl | (simp [errW_none, errW_some] <;> rfl) | (simp [*, errW_none, errW_some] <;> rfl), by repeat (first | (with_reducible first | exact HB.out | apply below_alloc | apply pw_below_drewN | apply below_drew1 | refine below_set ?_ GE108.out | refine below_set ?_ GE109.out) | exact HB.out)⟩
    · rw [if_neg c4] at H
      have c4b0 : (a0_2.toList == a1_2.toList) = false := beq_eq_false_iff_ne.mpr c4
      have c4b1 : (a0_2.toList != a1_2.toList) = true := bne_iff_ne.mpr c4
      obtain rfl := Option.some.inj H
      go_enter Try.func13, Try.ntmps13
      go_wp2_with (first | ((with_reducible refine gate_dst (N := 2) rfl ?_); refine box_event ?hg (N := 2) ?hd (cs := #[.int .i64 a0_0, .string a0_1, .string a0_2]) (t := 32) ?hr ?_; (case hd => rfl); (case hg => rfl); (case hr => first | (go_simp; done) | (go_simp; rfl)); intro gb108 hg w10 hbox hb; have n0_ := Aside0.mk (below_step (by repeat (first | (with_reducible first | exact HB.out | apply below_alloc | apply pw_below_drewN | apply below_drew1) | exact HB.out)) hb); have n1_ := Aside0.mk (hbox); have n2_ := Aside0.mk ((by rw [hg]; exact (below_size (by repeat (first | (with_reducible first | exact HB.out | apply below_alloc | apply pw_below_drewN | apply below_drew1) | exact HB.out))) : w.heap.size ≤ gb108)); have n3_ := Aside0.mk ((by rw [hg]; exact (below_size (by repeat (first | (with_reducible first | exact HB.out | apply below_alloc | apply pw_below_drewN | apply below_drew1) | exact HB.out))) : w.heap.size ≤ gb108)); clear HB; have HB := n0_; have BK108 := n1_; have GW108 := n2_; have GE108 := n3_; clear n0_ n1_ n2_ n3_; clear hb hbox hg) | ((with_reducible refine gate_dst (N := 3) rfl ?_); refine box_event ?hg (N := 3) ?hd (cs := #[.int .i64 a1_0, .string a1_1, .string a1_2]) (t := 32) ?hr ?_; (case hd => rfl); (case hg => rfl); (case hr => first | (go_simp; done) | (go_simp; rfl)); intro gb109 hg w11 hbox hb; have n0_ := Aside0.mk (blk_below (g := gb108) (o := .cells #[.int .i64 a0_0, .string a0_1, .string a0_2] 32 (0, 0)) (by (with_reducible repeat (first | refine blk_drewN ?_ _ | refine blk_drew ?_ | refine blk_alloc ?_ _)); exact BK108.out) hb); have n1_ := Aside0.mk (below_step (by repeat (first | (with_reducible first | exact HB.out | apply below_alloc | apply pw_below_drewN | apply below_drew1 | refine below_set ?_ GE108.out) | exact HB.out)) hb); have n2_ := Aside0.mk (hbox); have n3_ := Aside0.mk ((by rw [hg]; exact (below_size (by repeat (first | (with_reducible first | exact HB.out | apply below_alloc | apply pw_below_drewN | apply below_drew1 | refine below_set ?_ GE108.out) | exact HB.out))) : w.heap.size ≤ gb109)); have n4_ := Aside0.mk ((by rw [hg]; exact (below_size (by repeat (first | (with_reducible first | exact HB.out | apply below_alloc | apply pw_below_drewN | apply below_drew1 | refine below_set ?_ GE108.out) | exact HB.out))) : w.heap.size ≤ gb109)); have n5_ := Aside0.mk ((by rw [hg]; exact Nat.ne_of_lt (blk_lt (g := gb108) (o := .cells #[.int .i64 a0_0, .string a0_1, .string a0_2] 32 (0, 0)) (by (with_reducible repeat (first | refine blk_drewN ?_ _ | refine blk_drew ?_ | refine blk_alloc ?_ _)); exact BK108.out)) : gb108 ≠ gb109)); have n6_ := Aside0.mk ((by rw [hg]; exact Nat.ne_of_gt (blk_lt (g := gb108) (o := .cells #[.int .i64 a0_0, .string a0_1, .string a0_2] 32 (0, 0)) (by (with_reducible repeat (first | refine blk_drewN ?_ _ | refine blk_drew ?_ | refine blk_alloc ?_ _)); exact BK108.out)) : gb109 ≠ gb108)); clear BK108; clear HB; have BK108 := n0_; have HB := n1_; have BK109 := n2_; have GW109 := n3_; have GE109 := n4_; have NB108_109 := n5_; have NB109_108 := n6_; clear n0_ n1_ n2_ n3_ n4_ n5_ n6_; clear hb hbox hg; have hnb12 := NB108_109.out; have hnc12 := NB109_108.out; have hcz13_0 : w11.cell? ⟨gb108, 0, none⟩ = some (.int .i64 a0_0) := (blk_cell BK108.out 0).trans rfl; have hcz13_1 : w11.cell? ⟨gb108, 1, none⟩ = some (.string a0_1) := (blk_cell BK108.out 1).trans rfl; have hcz13_2 : w11.cell? ⟨gb108, 2, none⟩ = some (.string a0_2) := (blk_cell BK108.out 2).trans rfl; have hfz13_0 := blk_frozen BK108.out 0; have hfz13_1 := blk_frozen BK108.out 1; have hfz13_2 := blk_frozen BK108.out 2; have hcz14_0 : w11.cell? ⟨gb109, 0, none⟩ = some (.int .i64 a1_0) := (blk_cell BK109.out 0).trans rfl; have hcz14_1 : w11.cell? ⟨gb109, 1, none⟩ = some (.string a1_1) := (blk_cell BK109.out 1).trans rfl; have hcz14_2 : w11.cell? ⟨gb109, 2, none⟩ = some (.string a1_2) := (blk_cell BK109.out 2).trans rfl; have hfz14_0 := blk_frozen BK109.out 0; have hfz14_1 := blk_frozen BK109.out 1; have hfz14_2 := blk_frozen BK109.out 2))
      go_ret
      exact ⟨by first | rfl | (simp [errW_none, errW_some] <;> rfl) | (simp [*, errW_none, errW_some] <;> rfl), by repeat (first | (with_reducible first | exact HB.out | apply below_alloc | apply pw_below_drewN | apply below_drew1 | refine below_set ?_ GE108.out | refine below_set ?_ GE109.out) | exact HB.out)⟩
  · rw [if_neg c3] at H
    have c3b0 : (a0_1.toList == a1_1.toList) = false := beq_eq_false_iff_ne.mpr c3
    have c3b1 : (a0_1.toList != a1_1.toList) = true := bne_iff_ne.mpr c3
    obtain rfl := Option.some.inj H
    go_enter Try.func13, Try.ntmps13
    go_wp2_with (first | ((with_reducible refine gate_dst (N := 2) rfl ?_); refine box_event ?hg (N := 2) ?hd (cs := #[.int .i64 a0_0, .string a0_1, .string a0_2]) (t := 32) ?hr ?_; (case hd => rfl); (case hg => rfl); (case hr => first | (go_simp; done) | (go_simp; rfl)); intro gb108 hg w15 hbox hb; have n0_ := Aside0.mk (below_step (by repeat (first | (with_reducible first | exact HB.out | apply below_alloc | apply pw_below_drewN | apply below_drew1) | exact HB.out)) hb); have n1_ := Aside0.mk (hbox); have n2_ := Aside0.mk ((by rw [hg]; exact (below_size (by repeat (first | (with_reducible first | exact HB.out | apply below_alloc | apply pw_below_drewN | apply below_drew1) | exact HB.out))) : w.heap.size ≤ gb108)); have n3_ := Aside0.mk ((by rw [hg]; exact (below_size (by repeat (first | (with_reducible first | exact HB.out | apply below_alloc | apply pw_below_drewN | apply below_drew1) | exact HB.out))) : w.heap.size ≤ gb108)); clear HB; have HB := n0_; have BK108 := n1_; have GW108 := n2_; have GE108 := n3_; clear n0_ n1_ n2_ n3_; clear hb hbox hg) | ((with_reducible refine gate_dst (N := 3) rfl ?_); refine box_event ?hg (N := 3) ?hd (cs := #[.int .i64 a1_0, .string a1_1, .string a1_2]) (t := 32) ?hr ?_; (case hd => rfl); (case hg => rfl); (case hr => first | (go_simp; done) | (go_simp; rfl)); intro gb109 hg w16 hbox hb; have n0_ := Aside0.mk (blk_below (g := gb108) (o := .cells #[.int .i64 a0_0, .string a0_1, .string a0_2] 32 (0, 0)) (by (with_reducible repeat (first | refine blk_drewN ?_ _ | refine blk_drew ?_ | refine blk_alloc ?_ _)); exact BK108.out) hb); have n1_ := Aside0.mk (below_step (by repeat (first | (with_reducible first | exact HB.out | apply below_alloc | apply pw_below_drewN | apply below_drew1 | refine below_set ?_ GE108.out) | exact HB.out)) hb); have n2_ := Aside0.mk (hbox); have n3_ := Aside0.mk ((by rw [hg]; exact (below_size (by repeat (first | (with_reducible first | exact HB.out | apply below_alloc | apply pw_below_drewN | apply below_drew1 | refine below_set ?_ GE108.out) | exact HB.out))) : w.heap.size ≤ gb109)); have n4_ := Aside0.mk ((by rw [hg]; exact (below_size (by repeat (first | (with_reducible first | exact HB.out | apply below_alloc | apply pw_below_drewN | apply below_drew1 | refine below_set ?_ GE108.out) | exact HB.out))) : w.heap.size ≤ gb109)); have n5_ := Aside0.mk ((by rw [hg]; exact Nat.ne_of_lt (blk_lt (g := gb108) (o := .cells #[.int .i64 a0_0, .string a0_1, .string a0_2] 32 (0, 0)) (by (with_reducible repeat (first | refine blk_drewN ?_ _ | refine blk_drew ?_ | refine blk_alloc ?_ _)); exact BK108.out)) : gb108 ≠ gb109)); have n6_ := Aside0.mk ((by rw [hg]; exact Nat.ne_of_gt (blk_lt (g := gb108) (o := .cells #[.int .i64 a0_0, .string a0_1, .string a0_2] 32 (0, 0)) (by (with_reducible repeat (first | refine blk_drewN ?_ _ | refine blk_drew ?_ | refine blk_alloc ?_ _)); exact BK108.out)) : gb109 ≠ gb108)); clear BK108; clear HB; have BK108 := n0_; have HB := n1_; have BK109 := n2_; have GW109 := n3_; have GE109 := n4_; have NB108_109 := n5_; have NB109_108 := n6_; clear n0_ n1_ n2_ n3_ n4_ n5_ n6_; clear hb hbox hg; have hnb17 := NB108_109.out; have hnc17 := NB109_108.out; have hcz18_0 : w16.cell? ⟨gb108, 0, none⟩ = some (.int .i64 a0_0) := (blk_cell BK108.out 0).trans rfl; have hcz18_1 : w16.cell? ⟨gb108, 1, none⟩ = some (.string a0_1) := (blk_cell BK108.out 1).trans rfl; have hcz18_2 : w16.cell? ⟨gb108, 2, none⟩ = some (.string a0_2) := (blk_cell BK108.out 2).trans rfl; have hfz18_0 := blk_frozen BK108.out 0; have hfz18_1 := blk_frozen BK108.out 1; have hfz18_2 := blk_frozen BK108.out 2; have hcz19_0 : w16.cell? ⟨gb109, 0, none⟩ = some (.int .i64 a1_0) := (blk_cell BK109.out 0).trans rfl; have hcz19_1 : w16.cell? ⟨gb109, 1, none⟩ = some (.string a1_1) := (blk_cell BK109.out 1).trans rfl; have hcz19_2 : w16.cell? ⟨gb109, 2, none⟩ = some (.string a1_2) := (blk_cell BK109.out 2).trans rfl; have hfz19_0 := blk_frozen BK109.out 0; have hfz19_1 := blk_frozen BK109.out 1; have hfz19_2 := blk_frozen BK109.out 2))
    go_ret
    exact ⟨by first | rfl | (simp [errW_none, errW_some] <;> rfl) | (simp [*, errW_none, errW_some] <;> rfl), by repeat (first | (with_reducible first | exact HB.out | apply below_alloc | apply pw_below_drewN | apply below_drew1 | refine below_set ?_ GE108.out | refine below_set ?_ GE109.out) | exact HB.out)⟩

/-! ### laws_count: function 14 -/
def laws_count.l0 : Nat → Int → List (S32) → Int → Int → Int → ByteArray → ByteArray → Option (Int)
  | 0, _, _, _, _, _, _, _ => none
  | k + 1, x5, x8, x9, x10, x111000, x111001, x111002 => if x10 < x9 then (if 0 ≤ x10 then (if x10 < (x8.length : Int) then (if (((rd_T32 x8 x10).f0) == x111000 && ((((rd_T32 x8 x10).f1).toList) == x111001.toList && ((((rd_T32 x8 x10).f2).toList) == x111002.toList))) = true then (laws_count.l0 k (wrap64 (x5 + 1)) x8 x9 (wrap64 (x10 + 1)) x111000 x111001 x111002) else (laws_count.l0 k x5 x8 x9 (wrap64 (x10 + 1)) x111000 x111001 x111002)) else (none)) else (none)) else (some x5)
def laws_count.f (k : Nat) (l0 : List (S32)) (a1_0 : Int) (a1_1 : ByteArray) (a1_2 : ByteArray) : Option (Int) := laws_count.l0 k 0 l0 (l0.length : Int) 0 a1_0 a1_1 a1_2
theorem laws_count.mono_l : ∀ k, (∀ y0 y1 y2 y3 y4 y5 y6, LeO (laws_count.l0 k y0 y1 y2 y3 y4 y5 y6) (laws_count.l0 (k + 1) y0 y1 y2 y3 y4 y5 y6))
  | 0 => fun _ _ _ _ _ _ _ r h => by simp [laws_count.l0] at h
  | k + 1 => by
    have ih0 := laws_count.mono_l k
    · intro y0 y1 y2 y3 y4 y5 y6
      unfold laws_count.l0
      repeat' first
      | (with_reducible exact ih0 _ _ _ _ _ _ _)
      | (with_reducible exact LeO.refl _)
      | (with_reducible exact LeO.none _)
      | (with_reducible refine LeO.ite ?_ ?_)
      | (with_reducible refine LeO.bind ?_ (fun _ => ?_))
      | exact ih0 _ _ _ _ _ _ _
      | exact LeO.none _
      | refine LeO.ite ?_ ?_
      | refine LeO.bind ?_ (fun _ => ?_)
theorem laws_count.mono : ∀ a0 a1 a2 a3 k, LeO (laws_count.f k a0 a1 a2 a3) (laws_count.f (k + 1) a0 a1 a2 a3) := by
  intro a0 a1 a2 a3 k
  have ih0 := laws_count.mono_l k
  unfold laws_count.f
  repeat' first
      | (with_reducible exact ih0 _ _ _ _ _ _ _)
      | (with_reducible exact LeO.refl _)
      | (with_reducible exact LeO.none _)
      | (with_reducible refine LeO.ite ?_ ?_)
      | (with_reducible refine LeO.bind ?_ (fun _ => ?_))
      | exact ih0 _ _ _ _ _ _ _
      | exact LeO.none _
      | refine LeO.ite ?_ ?_
      | refine LeO.bind ?_ (fun _ => ?_)
set_option maxHeartbeats 8000000 in
set_option maxRecDepth 100000 in
theorem laws_count.calls (k : Nat) (A0 : Option Addr) (c0 : Nat) (l0 : List (S32)) (a1_0 : Int) (a1_1 : ByteArray) (a1_2 : ByteArray) (r : Int) (w : World) (hr0 : Kd.C k32 w A0 l0.length l0) (hc0 : l0.length ≤ c0) (h : laws_count.f k l0 a1_0 a1_1 a1_2 = some r) :
    Calls Try.prog 14 #[.slice A0 l0.length c0, .agg #[.int .i64 a1_0, .string a1_1, .string a1_2]] w fun e w' => e = .returned (.int .i64 r) ∧ Below w.heap.size w w' := by
  have hu32 := Try.underlying32
  have HR0 := Aside0.mk hr0
  have HC0 := Aside0.mk hc0
  clear hr0 hc0
  have HB := Aside0.mk (Below.refl w.heap.size w)
  have H : (laws_count.l0 k 0 l0 (l0.length : Int) 0 a1_0 a1_1 a1_2) = some r := h
  clear h
  have H' := Aside0.mk H
  clear H
  go_enter Try.func14, Try.ntmps14
  go_wp2_with (first | ((with_reducible refine gate_dst (N := 3) rfl ?_); refine box_event ?hg (N := 3) ?hd (cs := #[.int .i64 a1_0, .string a1_1, .string a1_2]) (t := 32) ?hr ?_; (case hd => rfl); (case hg => rfl); (case hr => first | (go_simp; done) | (go_simp; rfl)); intro gb110 hg w3 hbox hb; have n0_ := Aside0.mk (below_step (by repeat (first | (with_reducible first | exact HB.out | apply below_alloc | apply pw_below_drewN | apply below_drew1) | exact HB.out)) hb); have n1_ := Aside0.mk (hbox); have n2_ := Aside0.mk ((by rw [hg]; exact (below_size (by repeat (first | (with_reducible first | exact HB.out | apply below_alloc | apply pw_below_drewN | apply below_drew1) | exact HB.out))) : w.heap.size ≤ gb110)); have n3_ := Aside0.mk ((by rw [hg]; exact (below_size (by repeat (first | (with_reducible first | exact HB.out | apply below_alloc | apply pw_below_drewN | apply below_drew1) | exact HB.out))) : w.heap.size ≤ gb110)); clear HB; have HB := n0_; have BK110 := n1_; have GW110 := n2_; have GE110 := n3_; clear n0_ n1_ n2_ n3_; clear hb hbox hg))
  go_loopg [5, 10] k (fun kq v5 v10 w' => ∃ (x5_1 : Int) (x10_1 : Int), v5 = .int .i64 x5_1 ∧ v10 = .int .i64 x10_1 ∧ Aside0 (laws_count.l0 kq x5_1 l0 (l0.length : Int) x10_1 a1_0 a1_1 a1_2 = some r) ∧ Aside0 (kq ≤ k) ∧ Aside0 (w'.heap[gb110]? = some (.cells #[.int .i64 a1_0, .string a1_1, .string a1_2] 32 (0, 0))) ∧ Aside0 (Below w.heap.size w w'))
  case atStart => exact ⟨(0), (0), (by first | rfl | (simp; done) | (simp [*]; done)), (by first | rfl | (simp; done) | (simp [*]; done)), H', ⟨Nat.le_refl _⟩, ⟨by (with_reducible repeat (first | refine blk_drewN ?_ _ | refine blk_drew ?_ | refine blk_alloc ?_ _)); exact BK110.out⟩, ⟨by repeat (first | (with_reducible first | exact HB.out | apply below_alloc | apply pw_below_drewN | apply below_drew1 | refine below_set ?_ GE110.out) | exact HB.out)⟩⟩
  case round =>
    clear H'
    try clear c1
    try clear p2
    obtain ⟨x5_1, x10_1, rfl, rfl, HA, HK1, BK110, HB⟩ := hrel
    cases gk with
    | zero => exact absurd HA.out (by simp [laws_count.l0])
    | succ k1 =>
      have H := HA.out
      clear HA
      simp only [laws_count.l0] at H
      by_cases c4 : x10_1 < (l0.length : Int)
      · rw [if_pos c4] at H
        have c4b0 : decide (x10_1 < (l0.length : Int)) = true := decide_eq_true c4
        clear c4
        by_cases c5 : 0 ≤ x10_1
        · rw [if_pos c5] at H
          have c5b0 : decide (0 ≤ x10_1) = true := decide_eq_true c5
          clear c5
          by_cases c6 : x10_1 < (l0.length : Int)
          · rw [if_pos c6] at H
            have c6b0 : decide (x10_1 < (l0.length : Int)) = true := decide_eq_true c6
            clear c6
            by_cases c7 : (((rd_T32 l0 x10_1).f0) == a1_0 && ((((rd_T32 l0 x10_1).f1).toList) == a1_1.toList && ((((rd_T32 l0 x10_1).f2).toList) == a1_2.toList))) = true
            · rw [if_pos c7] at H
              have c7b0 : (((rd_T32 l0 x10_1).f0) == a1_0 && ((((rd_T32 l0 x10_1).f1).toList) == a1_1.toList && ((((rd_T32 l0 x10_1).f2).toList) == a1_2.toList))) = true := c7
              (try (have c7b1 : decide (((rd_T32 l0 x10_1).f0) = a1_0 && ((((rd_T32 l0 x10_1).f1).toList) == a1_1.toList && ((((rd_T32 l0 x10_1).f2).toList) == a1_2.toList))) = true := by simpa using c7))
              (try (have c7b2 : (((rd_T32 l0 x10_1).f0) == a1_0 && ((((rd_T32 l0 x10_1).f1).toList) == a1_1.toList && ((((rd_T32 l0 x10_1).f2).toList) == a1_2.toList))) = true := by simpa using c7))
              clear c7
              have H' := Aside0.mk H
              clear H
              have p111 : 0 ≤ (x10_1 : Int) := of_decide_eq_true (by first | (with_reducible assumption) | assumption)
              have q111 : x10_1 < (l0.length : Int) := of_decide_eq_true (by first | (with_reducible assumption) | assumption)
              obtain ⟨ad111, e111, hx111_0, hx111_1, hx111_2⟩ := at_T32 HR0.out x10_1 p111 q111
              cases e111
              replace hx111_0 := (HB.out.cell (World.block_lt_of_cell? w _ hx111_0)).trans hx111_0
              replace hx111_1 := (HB.out.cell (World.block_lt_of_cell? w _ hx111_1)).trans hx111_1
              replace hx111_2 := (HB.out.cell (World.block_lt_of_cell? w _ hx111_2)).trans hx111_2
              replace p111 := eq_true p111
              replace q111 := eq_true q111
              go_wp2_with (first | ((with_reducible refine gate_dst (N := 7) rfl ?_); refine box_event ?hg (N := 7) ?hd (cs := #[.int .i64 0, .string (⟨#[]⟩ : ByteArray), .string (⟨#[]⟩ : ByteArray)]) (t := 32) ?hr ?_; (case hd => rfl); (case hg => rfl); (case hr => first | (go_simp; done) | (go_simp; rfl)); intro gb112 hg w8 hbox hb; have n0_ := Aside0.mk (blk_below (g := gb110) (o := .cells #[.int .i64 a1_0, .string a1_1, .string a1_2] 32 (0, 0)) (by (with_reducible repeat (first | refine blk_drewN ?_ _ | refine blk_drew ?_ | refine blk_alloc ?_ _)); exact BK110.out) hb); have n1_ := Aside0.mk (below_step (by repeat (first | (with_reducible first | exact HB.out | apply below_alloc | apply pw_below_drewN | apply below_drew1 | refine below_set ?_ GE110.out) | exact HB.out)) hb); have n2_ := Aside0.mk (hbox); have n3_ := Aside0.mk ((by rw [hg]; exact (below_size (by repeat (first | (with_reducible first | exact HB.out | apply below_alloc | apply pw_below_drewN | apply below_drew1 | refine below_set ?_ GE110.out) | exact HB.out))) : w.heap.size ≤ gb112)); have n4_ := Aside0.mk ((by rw [hg]; exact (below_size (by repeat (first | (with_reducible first | exact HB.out | apply below_alloc | apply pw_below_drewN | apply below_drew1 | refine below_set ?_ GE110.out) | exact HB.out))) : w.heap.size ≤ gb112)); have n5_ := Aside0.mk ((by rw [hg]; exact Nat.ne_of_lt (blk_lt (g := gb110) (o := .cells #[.int .i64 a1_0, .string a1_1, .string a1_2] 32 (0, 0)) (by (with_reducible repeat (first | refine blk_drewN ?_ _ | refine blk_drew ?_ | refine blk_alloc ?_ _)); exact BK110.out)) : gb110 ≠ gb112)); have n6_ := Aside0.mk ((by rw [hg]; exact Nat.ne_of_gt (blk_lt (g := gb110) (o := .cells #[.int .i64 a1_0, .string a1_1, .string a1_2] 32 (0, 0)) (by (with_reducible repeat (first | refine blk_drewN ?_ _ | refine blk_drew ?_ | refine blk_alloc ?_ _)); exact BK110.out)) : gb112 ≠ gb110)); clear BK110; clear HB; have BK110 := n0_; have HB := n1_; have BK112 := n2_; have GW112 := n3_; have GE112 := n4_; have NB110_112 := n5_; have NB112_110 := n6_; clear n0_ n1_ n2_ n3_ n4_ n5_ n6_; clear hb hbox hg; have hnb9 := NB112_110.out; have hnc9 := NB110_112.out; have hcz10_0 : w8.cell? ⟨gb112, 0, none⟩ = some (.int .i64 0) := (blk_cell BK112.out 0).trans rfl; have hcz10_1 : w8.cell? ⟨gb112, 1, none⟩ = some (.string (⟨#[]⟩ : ByteArray)) := (blk_cell BK112.out 1).trans rfl; have hcz10_2 : w8.cell? ⟨gb112, 2, none⟩ = some (.string (⟨#[]⟩ : ByteArray)) := (blk_cell BK112.out 2).trans rfl; have hfz10_0 := blk_frozen BK112.out 0; have hfz10_1 := blk_frozen BK112.out 1; have hfz10_2 := blk_frozen BK112.out 2; have hcz11_0 : w8.cell? ⟨gb110, 0, none⟩ = some (.int .i64 a1_0) := (blk_cell BK110.out 0).trans rfl; have hcz11_1 : w8.cell? ⟨gb110, 1, none⟩ = some (.string a1_1) := (blk_cell BK110.out 1).trans rfl; have hcz11_2 : w8.cell? ⟨gb110, 2, none⟩ = some (.string a1_2) := (blk_cell BK110.out 2).trans rfl; have hfz11_0 := blk_frozen BK110.out 0; have hfz11_1 := blk_frozen BK110.out 1; have hfz11_2 := blk_frozen BK110.out 2))
              go_roundg k1
              case measure => have := HK1.out; omega
              case rel => exact ⟨(wrap64 (x5_1 + 1)), (wrap64 (x10_1 + 1)), (by first | rfl | (simp; done) | (simp [*]; done)), (by first | rfl | (simp; done) | (simp [*]; done)), H', ⟨by have := HK1.out; omega⟩, ⟨by (with_reducible repeat (first | refine blk_drewN ?_ _ | refine blk_drew ?_ | refine blk_alloc ?_ _)); refine blk_far ?_ NB110_112.out _; (with_reducible repeat (first | refine blk_drewN ?_ _ | refine blk_drew ?_ | refine blk_alloc ?_ _)); refine blk_far ?_ NB110_112.out _; (with_reducible repeat (first | refine blk_drewN ?_ _ | refine blk_drew ?_ | refine blk_alloc ?_ _)); refine blk_far ?_ NB110_112.out _; (with_reducible repeat (first | refine blk_drewN ?_ _ | refine blk_drew ?_ | refine blk_alloc ?_ _)); exact BK110.out⟩, ⟨by repeat (first | (with_reducible first | exact HB.out | apply below_alloc | apply pw_below_drewN | apply below_drew1 | refine below_set ?_ GE110.out | refine below_set ?_ GE112.out) | exact HB.out)⟩⟩
            · rw [if_neg c7] at H
              have c7b0 : (((rd_T32 l0 x10_1).f0) == a1_0 && ((((rd_T32 l0 x10_1).f1).toList) == a1_1.toList && ((((rd_T32 l0 x10_1).f2).toList) == a1_2.toList))) = false := by simpa using c7
              (try (have c7b1 : decide (((rd_T32 l0 x10_1).f0) = a1_0 && ((((rd_T32 l0 x10_1).f1).toList) == a1_1.toList && ((((rd_T32 l0 x10_1).f2).toList) == a1_2.toList))) = false := by simpa using c7))
              (try (have c7b2 : (((rd_T32 l0 x10_1).f0) == a1_0 && ((((rd_T32 l0 x10_1).f1).toList) == a1_1.toList && ((((rd_T32 l0 x10_1).f2).toList) == a1_2.toList))) = false := by simpa using c7))
              (try (have c7b3 : ¬ (((rd_T32 l0 x10_1).f0) = a1_0 && ((((rd_T32 l0 x10_1).f1).toList) == a1_1.toList && ((((rd_T32 l0 x10_1).f2).toList) == a1_2.toList))) := by simpa using c7))
              clear c7
              have H' := Aside0.mk H
              clear H
              have p111 : 0 ≤ (x10_1 : Int) := of_decide_eq_true (by first | (with_reducible assumption) | assumption)
              have q111 : x10_1 < (l0.length : Int) := of_decide_eq_true (by first | (with_reducible assumption) | assumption)
              obtain ⟨ad111, e111, hx111_0, hx111_1, hx111_2⟩ := at_T32 HR0.out x10_1 p111 q111
              cases e111
              replace hx111_0 := (HB.out.cell (World.block_lt_of_cell? w _ hx111_0)).trans hx111_0
              replace hx111_1 := (HB.out.cell (World.block_lt_of_cell? w _ hx111_1)).trans hx111_1
              replace hx111_2 := (HB.out.cell (World.block_lt_of_cell? w _ hx111_2)).trans hx111_2
              replace p111 := eq_true p111
              replace q111 := eq_true q111
              go_wp2_with (first | ((with_reducible refine gate_dst (N := 7) rfl ?_); refine box_event ?hg (N := 7) ?hd (cs := #[.int .i64 0, .string (⟨#[]⟩ : ByteArray), .string (⟨#[]⟩ : ByteArray)]) (t := 32) ?hr ?_; (case hd => rfl); (case hg => rfl); (case hr => first | (go_simp; done) | (go_simp; rfl)); intro gb112 hg w12 hbox hb; have n0_ := Aside0.mk (blk_below (g := gb110) (o := .cells #[.int .i64 a1_0, .string a1_1, .string a1_2] 32 (0, 0)) (by (with_reducible repeat (first | refine blk_drewN ?_ _ | refine blk_drew ?_ | refine blk_alloc ?_ _)); exact BK110.out) hb); have n1_ := Aside0.mk (below_step (by repeat (first | (with_reducible first | exact HB.out | apply below_alloc | apply pw_below_drewN | apply below_drew1 | refine below_set ?_ GE110.out) | exact HB.out)) hb); have n2_ := Aside0.mk (hbox); have n3_ := Aside0.mk ((by rw [hg]; exact (below_size (by repeat (first | (with_reducible first | exact HB.out | apply below_alloc | apply pw_below_drewN | apply below_drew1 | refine below_set ?_ GE110.out) | exact HB.out))) : w.heap.size ≤ gb112)); have n4_ := Aside0.mk ((by rw [hg]; exact (below_size (by repeat (first | (with_reducible first | exact HB.out | apply below_alloc | apply pw_below_drewN | apply below_drew1 | refine below_set ?_ GE110.out) | exact HB.out))) : w.heap.size ≤ gb112)); have n5_ := Aside0.mk ((by rw [hg]; exact Nat.ne_of_lt (blk_lt (g := gb110) (o := .cells #[.int .i64 a1_0, .string a1_1, .string a1_2] 32 (0, 0)) (by (with_reducible repeat (first | refine blk_drewN ?_ _ | refine blk_drew ?_ | refine blk_alloc ?_ _)); exact BK110.out)) : gb110 ≠ gb112)); have n6_ := Aside0.mk ((by rw [hg]; exact Nat.ne_of_gt (blk_lt (g := gb110) (o := .cells #[.int .i64 a1_0, .string a1_1, .string a1_2] 32 (0, 0)) (by (with_reducible repeat (first | refine blk_drewN ?_ _ | refine blk_drew ?_ | refine blk_alloc ?_ _)); exact BK110.out)) : gb112 ≠ gb110)); clear BK110; clear HB; have BK110 := n0_; have HB := n1_; have BK112 := n2_; have GW112 := n3_; have GE112 := n4_; have NB110_112 := n5_; have NB112_110 := n6_; clear n0_ n1_ n2_ n3_ n4_ n5_ n6_; clear hb hbox hg; have hnb13 := NB112_110.out; have hnc13 := NB110_112.out; have hcz14_0 : w12.cell? ⟨gb112, 0, none⟩ = some (.int .i64 0) := (blk_cell BK112.out 0).trans rfl; have hcz14_1 : w12.cell? ⟨gb112, 1, none⟩ = some (.string (⟨#[]⟩ : ByteArray)) := (blk_cell BK112.out 1).trans rfl; have hcz14_2 : w12.cell? ⟨gb112, 2, none⟩ = some (.string (⟨#[]⟩ : ByteArray)) := (blk_cell BK112.out 2).trans rfl; have hfz14_0 := blk_frozen BK112.out 0; have hfz14_1 := blk_frozen BK112.out 1; have hfz14_2 := blk_frozen BK112.out 2; have hcz15_0 : w12.cell? ⟨gb110, 0, none⟩ = some (.int .i64 a1_0) := (blk_cell BK110.out 0).trans rfl; have hcz15_1 : w12.cell? ⟨gb110, 1, none⟩ = some (.string a1_1) := (blk_cell BK110.out 1).trans rfl; have hcz15_2 : w12.cell? ⟨gb110, 2, none⟩ = some (.string a1_2) := (blk_cell BK110.out 2).trans rfl; have hfz15_0 := blk_frozen BK110.out 0; have hfz15_1 := blk_frozen BK110.out 1; have hfz15_2 := blk_frozen BK110.out 2))
              go_roundg k1
              case measure => have := HK1.out; omega
              case rel => exact ⟨(x5_1), (wrap64 (x10_1 + 1)), (by first | rfl | (simp; done) | (simp [*]; done)), (by first | rfl | (simp; done) | (simp [*]; done)), H', ⟨by have := HK1.out; omega⟩, ⟨by (with_reducible repeat (first | refine blk_drewN ?_ _ | refine blk_drew ?_ | refine blk_alloc ?_ _)); refine blk_far ?_ NB110_112.out _; (with_reducible repeat (first | refine blk_drewN ?_ _ | refine blk_drew ?_ | refine blk_alloc ?_ _)); refine blk_far ?_ NB110_112.out _; (with_reducible repeat (first | refine blk_drewN ?_ _ | refine blk_drew ?_ | refine blk_alloc ?_ _)); refine blk_far ?_ NB110_112.out _; (with_reducible repeat (first | refine blk_drewN ?_ _ | refine blk_drew ?_ | refine blk_alloc ?_ _)); exact BK110.out⟩, ⟨by repeat (first | (with_reducible first | exact HB.out | apply below_alloc | apply pw_below_drewN | apply below_drew1 | refine below_set ?_ GE110.out | refine below_set ?_ GE112.out) | exact HB.out)⟩⟩
          · rw [if_neg c6] at H
            exact absurd H (by simp)
        · rw [if_neg c5] at H
          exact absurd H (by simp)
      · rw [if_neg c4] at H
        have c4b0 : decide (x10_1 < (l0.length : Int)) = false := decide_eq_false c4
        clear c4
        obtain rfl := Option.some.inj H
        go_wp2
        go_ret
        exact ⟨by first | rfl | (simp [errW_none, errW_some] <;> rfl) | (simp [*, errW_none, errW_some] <;> rfl), by repeat (first | (with_reducible first | exact HB.out | apply below_alloc | apply pw_below_drewN | apply below_drew1 | refine below_set ?_ GE110.out) | exact HB.out)⟩

/-! ### laws_eqRead: function 15 -/
-- a contract that was proved by hand
theorem eqSM (d : Nat) (w : World) (x0 y0 : Int) (x1 y1 x2 y2 : ByteArray) :
    (Op.equalIn (d + 2) 50 (.agg #[.int .i64 x0, .string x1, .string x2]) (.agg #[.int .i64 y0, .string y1, .string y2])).run Try.prog w = .ok (x0 == y0 && (x1.toList == y1.toList && (x2.toList == y2.toList))) w := by
  refine eqA_of Try.underlying50 (by kernel_rfl) ?_
  refine eqf_cons (by rfl) (by go_simp; rfl) (by go_simp; rfl) (by go_simp) ?_
  refine eqf_cons (by rfl) (by go_simp; rfl) (by go_simp; rfl) (by go_simp) ?_
  exact eqf_last (by rfl) (by go_simp; rfl) (by go_simp; rfl) (by go_simp)
attribute [local go_sem high] eqSM
def neR (p : S32) (s : S50) : Bool := !(p.f0 == s.f0 && (p.f1.toList == s.f1.toList && (p.f2.toList == s.f2.toList)))
def eqR : List S32 → List S50 → Bool
  | p :: r, s :: t => if neR p s = true then false else eqR r t
  | [], [] => true
  | _, _ => false
def laws_eqRead.f (l0 : List S32) (l1 : List S50) : Option Bool := if l0.length ≤ maxLen then some (eqR l0 l1) else none
theorem eqR_len : ∀ {l0 : List S32} {l1 : List S50}, l0.length ≠ l1.length → eqR l0 l1 = false
  | [], [], h => absurd rfl h
  | [], _ :: _, _ => rfl
  | _ :: _, [], _ => rfl
  | p :: r, s :: t, h => by
    unfold eqR
    split
    · rfl
    · exact eqR_len (fun e => h (by rw [List.length_cons, List.length_cons, e]))
set_option maxHeartbeats 1600000 in
set_option maxRecDepth 100000 in
theorem laws_eqRead.calls (A0 : Option Addr) (c0 : Nat) (l0 : List S32) (A1 : Option Addr) (c1 : Nat) (l1 : List S50) (r : Bool) (w : World) (hr0 : Kd.C k32 w A0 l0.length l0) (hc0 : l0.length ≤ c0) (hr1 : Kd.C k50 w A1 l1.length l1) (hc1 : l1.length ≤ c1) (h : laws_eqRead.f l0 l1 = some r) :
    Calls Try.prog 15 #[.slice A0 l0.length c0, .slice A1 l1.length c1] w fun e w' => e = .returned (.bool r) ∧ Drawn0 w w' := by
  unfold laws_eqRead.f at h
  split at h
  · rename_i hl
    have HQ := Aside0.mk (Option.some.inj h)
    have R0 := Aside0.mk hr0
    have R1 := Aside0.mk hr1
    unfold maxLen at hl
    clear h hr0 hr1 hc0 hc1
    by_cases hlen : l0.length = l1.length
    · have c1 : ((l0.length : Int) == (l1.length : Int)) = true := by simp [hlen]
      have c2 : ((l0.length : Int) != (l1.length : Int)) = false := by simp [hlen]
      go_enter Try.func15, Try.ntmps15
      go_wp2
      go_loopw [13] (fun v13 wr => ∃ j : Nat, j ≤ l0.length ∧ v13 = .int .i64 j ∧ Aside0 (eqR (l0.drop j) (l1.drop j) = r) ∧ Aside0 (Drawn0 w wr)) (fun v13 _ => l0.length - (intOf v13).toNat)
      case atStart => exact ⟨0, Nat.zero_le _, rfl, HQ, ⟨Drawn0.refl _⟩⟩
      case round =>
        clear HQ
        obtain ⟨j, hj, rfl, HQ, HD⟩ := hrel
        by_cases hlt : j < l0.length
        · obtain ⟨ad, e0, hx0, hx1, hx2⟩ := at_T32 (Kd.C_below R0.out HD.out.below) (j : Int) (by omega) (by omega)
          obtain ⟨ad', e1, hy0, hy1, hy2⟩ := at_T50 (Kd.C_below R1.out HD.out.below) (j : Int) (by omega) (by omega)
          cases e0
          cases e1
          simp only [Int.toNat_natCast] at hx0 hx1 hx2 hy0 hy1 hy2
          have hlt1 : j < l1.length := by omega
          have g0 : rd_T32 l0 (j : Int) = l0[j] := by simp [rd_T32, hlt]
          have g1 : rd_T50 l1 (j : Int) = l1[j] := by simp [rd_T50, hlt1]
          rw [g0] at hx0 hx1 hx2
          rw [g1] at hy0 hy1 hy2
          have hq := HQ.out
          rw [List.drop_eq_getElem_cons hlt, List.drop_eq_getElem_cons hlt1] at hq
          unfold eqR neR at hq
          clear g0 g1 HQ
          generalize l0[j] = p at *
          generalize l1[j] = s at *
          obtain ⟨x, y, z⟩ := p
          obtain ⟨x', y', z'⟩ := s
          simp only at hx0 hx1 hx2 hy0 hy1 hy2 hq
          have HD2 := Aside0.mk HD.out
          obtain ⟨q, hq2⟩ : ∃ q, (x == x' && (y.toList == y'.toList && (z.toList == z'.toList))) = q := ⟨_, rfl⟩
          rw [hq2] at hq
          have HQ2 := Aside0.mk hq
          clear hq
          go_wp2
          go_quiet (fail)
          cases q with
          | false =>
            obtain rfl : false = r := HQ2.out
            go_wp2
            go_ret
            exact ⟨rfl, by repeat (first | exact HD2.out | apply Drawn0.step)⟩
          | true =>
            have hq3 := HQ2.out
            simp only [Bool.not_true, Bool.false_eq_true, if_false] at hq3
            have HQ3 := Aside0.mk hq3
            clear hq3
            go_wp2
            go_roundw
            case rel => exact ⟨j + 1, by omega, by go_num, HQ3, ⟨by repeat (first | exact HD2.out | apply Drawn0.step)⟩⟩
            case measure => simp [intOf]; omega
        · have hj2 : j = l0.length := by omega
          subst hj2
          have hq := HQ.out
          rw [List.drop_of_length_le (Nat.le_refl _), List.drop_of_length_le (by omega)] at hq
          obtain rfl : true = r := hq
          go_wp2
          go_ret
          exact ⟨rfl, HD.out⟩
    · have c1 : ((l0.length : Int) == (l1.length : Int)) = false := beq_eq_false_iff_ne.2 (fun e => hlen (by omega))
      have c2 : ((l0.length : Int) != (l1.length : Int)) = true := bne_iff_ne.2 (fun e => hlen (by omega))
      obtain rfl : false = r := by rw [← HQ.out, eqR_len hlen]
      go_enter Try.func15, Try.ntmps15
      go_wp2
      go_ret
      exact ⟨rfl, Drawn0.refl _⟩
  · cases h


/-! ### spec_sign: function 34 -/
def spec_sign.f (a0 : Bool) : Option (Int) := if a0 = true then (some (-1)) else (some 1)
set_option maxHeartbeats 8000000 in
set_option maxRecDepth 100000 in
theorem spec_sign.calls (a0 : Bool) (r : Int) (w : World) (h : spec_sign.f a0 = some r) :
    Calls Try.prog 34 #[.bool a0] w fun e w' => e = .returned (.int .i64 r) ∧ Drawn0 w w' := by
  have H : (if a0 = true then (some (-1)) else (some 1)) = some r := h
  clear h
  by_cases c2 : a0 = true
  · subst c2
    have H1 : (some (-1)) = some r := by rw [if_pos rfl] at H; exact H
    clear H
    have H := H1
    clear H1
    obtain rfl := Option.some.inj H
    go_enter Try.func34, Try.ntmps34
    go_wp2
    go_ret
    exact ⟨by first | rfl | (simp; done) | (simp [*]; done), by repeat (first | exact Drawn0.refl _ | apply Drawn0.step)⟩
  · replace c2 := Bool.eq_false_iff.mpr c2
    subst c2
    have H1 : (some 1) = some r := by rw [if_neg (show ¬ (false = true) by decide)] at H; exact H
    clear H
    have H := H1
    clear H1
    obtain rfl := Option.some.inj H
    go_enter Try.func34, Try.ntmps34
    go_wp2
    go_ret
    exact ⟨by first | rfl | (simp; done) | (simp [*]; done), by repeat (first | exact Drawn0.refl _ | apply Drawn0.step)⟩

/-! ### spec_Order: function 27 -/
def spec_Order.f (a0_0 : Int) (a0_1 : ByteArray) (a0_2 : ByteArray) (a1_0 : Int) (a1_1 : ByteArray) (a1_2 : ByteArray) : Option (Int) := if a0_1.toList = a1_1.toList then (if a0_2.toList = a1_2.toList then (if a0_0 = a1_0 then (some 0) else ((spec_sign.f (decide (a0_0 < a1_0))).bind fun t115 => (some t115))) else ((spec_sign.f (Op.bytesLess a0_2.toList a1_2.toList)).bind fun t116 => (some t116))) else ((spec_sign.f (Op.bytesLess a0_1.toList a1_1.toList)).bind fun t117 => (some t117))
set_option maxHeartbeats 8000000 in
set_option maxRecDepth 100000 in
theorem spec_Order.calls (a0_0 : Int) (a0_1 : ByteArray) (a0_2 : ByteArray) (a1_0 : Int) (a1_1 : ByteArray) (a1_2 : ByteArray) (r : Int) (w : World) (h : spec_Order.f a0_0 a0_1 a0_2 a1_0 a1_1 a1_2 = some r) :
    Calls Try.prog 27 #[.agg #[.int .i64 a0_0, .string a0_1, .string a0_2], .agg #[.int .i64 a1_0, .string a1_1, .string a1_2]] w fun e w' => e = .returned (.int .i64 r) ∧ Below w.heap.size w w' := by
  have hu50 := Try.underlying50
  have HB := Aside0.mk (Below.refl w.heap.size w)
  have H : (if a0_1.toList = a1_1.toList then (if a0_2.toList = a1_2.toList then (if a0_0 = a1_0 then (some 0) else ((spec_sign.f (decide (a0_0 < a1_0))).bind fun t115 => (some t115))) else ((spec_sign.f (Op.bytesLess a0_2.toList a1_2.toList)).bind fun t116 => (some t116))) else ((spec_sign.f (Op.bytesLess a0_1.toList a1_1.toList)).bind fun t117 => (some t117))) = some r := h
  clear h
  by_cases c3 : a0_1.toList = a1_1.toList
  · rw [if_pos c3] at H
    have c3b0 : (a0_1.toList == a1_1.toList) = true := beq_iff_eq.mpr c3
    have c3b1 : (a0_1.toList != a1_1.toList) = false := bne_eq_false_iff_eq.mpr c3
    clear c3
    by_cases c4 : a0_2.toList = a1_2.toList
    · rw [if_pos c4] at H
      have c4b0 : (a0_2.toList == a1_2.toList) = true := beq_iff_eq.mpr c4
      have c4b1 : (a0_2.toList != a1_2.toList) = false := bne_eq_false_iff_eq.mpr c4
      clear c4
      by_cases c5 : a0_0 = a1_0
      · rw [if_pos c5] at H
        have c5b0 : (a0_0 == a1_0) = true := beq_iff_eq.mpr c5
        have c5b1 : (a0_0 != a1_0) = false := bne_eq_false_iff_eq.mpr c5
        clear c5
        obtain rfl := Option.some.inj H
        go_enter Try.func27, Try.ntmps27
        go_wp2_with (first | ((with_reducible refine gate_dst (N := 2) rfl ?_); refine box_event ?hg (N := 2) ?hd (cs := #[.int .i64 a0_0, .string a0_1, .string a0_2]) (t := 50) ?hr ?_; (case hd => rfl); (case hg => rfl); (case hr => first | (go_simp; done) | (go_simp; rfl)); intro gb113 hg w6 hbox hb; have n0_ := Aside0.mk (below_step (by repeat (first | (with_reducible first | exact HB.out | apply below_alloc | apply pw_below_drewN | apply below_drew1) | exact HB.out)) hb); have n1_ := Aside0.mk (hbox); have n2_ := Aside0.mk ((by rw [hg]; exact (below_size (by repeat (first | (with_reducible first | exact HB.out | apply below_alloc | apply pw_below_drewN | apply below_drew1) | exact HB.out))) : w.heap.size ≤ gb113)); have n3_ := Aside0.mk ((by rw [hg]; exact (below_size (by repeat (first | (with_reducible first | exact HB.out | apply below_alloc | apply pw_below_drewN | apply below_drew1) | exact HB.out))) : w.heap.size ≤ gb113)); clear HB; have HB := n0_; have BK113 := n1_; have GW113 := n2_; have GE113 := n3_; clear n0_ n1_ n2_ n3_; clear hb hbox hg) | ((with_reducible refine gate_dst (N := 3) rfl ?_); refine box_event ?hg (N := 3) ?hd (cs := #[.int .i64 a1_0, .string a1_1, .string a1_2]) (t := 50) ?hr ?_; (case hd => rfl); (case hg => rfl); (case hr => first | (go_simp; done) | (go_simp; rfl)); intro gb114 hg w7 hbox hb; have n0_ := Aside0.mk (blk_below (g := gb113) (o := .cells #[.int .i64 a0_0, .string a0_1, .string a0_2] 50 (0, 0)) (by (with_reducible repeat (first | refine blk_drewN ?_ _ | refine blk_drew ?_ | refine blk_alloc ?_ _)); exact BK113.out) hb); have n1_ := Aside0.mk (below_step (by repeat (first | (with_reducible first | exact HB.out | apply below_alloc | apply pw_below_drewN | apply below_drew1 | refine below_set ?_ GE113.out) | exact HB.out)) hb); have n2_ := Aside0.mk (hbox); have n3_ := Aside0.mk ((by rw [hg]; exact (below_size (by repeat (first | (with_reducible first | exact HB.out | apply below_alloc | apply pw_below_drewN | apply below_drew1 | refine below_set ?_ GE113.out) | exact HB.out))) : w.heap.size ≤ gb114)); have n4_ := Aside0.mk ((by rw [hg]; exact (below_size (by repeat (first | (with_reducible first | exact HB.out | apply below_alloc | apply pw_below_drewN | apply below_drew1 | refine below_set ?_ GE113.out) | exact HB.out))) : w.heap.size ≤ gb114)); have n5_ := Aside0.mk ((by rw [hg]; exact Nat.ne_of_lt (blk_lt (g := gb113) (o := .cells #[.int .i64 a0_0, .string a0_1, .string a0_2] 50 (0, 0)) (by (with_reducible repeat (first | refine blk_drewN ?_ _ | refine blk_drew ?_ | refine blk_alloc ?_ _)); exact BK113.out)) : gb113 ≠ gb114)); have n6_ := Aside0.mk ((by rw [hg]; exact Nat.ne_of_gt (blk_lt (g := gb113) (o := .cells #[.int .i64 a0_0, .string a0_1, .string a0_2] 50 (0, 0)) (by (with_reducible repeat (first | refine blk_drewN ?_ _ | refine blk_drew ?_ | refine blk_alloc ?_ _)); exact BK113.out)) : gb114 ≠ gb113)); clear BK113; clear HB; have BK113 := n0_; have HB := n1_; have BK114 := n2_; have GW114 := n3_; have GE114 := n4_; have NB113_114 := n5_; have NB114_113 := n6_; clear n0_ n1_ n2_ n3_ n4_ n5_ n6_; clear hb hbox hg; have hnb8 := NB113_114.out; have hnc8 := NB114_113.out; have hcz9_0 : w7.cell? ⟨gb113, 0, none⟩ = some (.int .i64 a0_0) := (blk_cell BK113.out 0).trans rfl; have hcz9_1 : w7.cell? ⟨gb113, 1, none⟩ = some (.string a0_1) := (blk_cell BK113.out 1).trans rfl; have hcz9_2 : w7.cell? ⟨gb113, 2, none⟩ = some (.string a0_2) := (blk_cell BK113.out 2).trans rfl; have hfz9_0 := blk_frozen BK113.out 0; have hfz9_1 := blk_frozen BK113.out 1; have hfz9_2 := blk_frozen BK113.out 2; have hcz10_0 : w7.cell? ⟨gb114, 0, none⟩ = some (.int .i64 a1_0) := (blk_cell BK114.out 0).trans rfl; have hcz10_1 : w7.cell? ⟨gb114, 1, none⟩ = some (.string a1_1) := (blk_cell BK114.out 1).trans rfl; have hcz10_2 : w7.cell? ⟨gb114, 2, none⟩ = some (.string a1_2) := (blk_cell BK114.out 2).trans rfl; have hfz10_0 := blk_frozen BK114.out 0; have hfz10_1 := blk_frozen BK114.out 1; have hfz10_2 := blk_frozen BK114.out 2))
        go_ret
        exact ⟨by first | rfl | (simp [errW_none, errW_some] <;> rfl) | (simp [*, errW_none, errW_some] <;> rfl), by repeat (first | (with_reducible first | exact HB.out | apply below_alloc | apply pw_below_drewN | apply below_drew1 | refine below_set ?_ GE113.out | refine below_set ?_ GE114.out) | exact HB.out)⟩
      · rw [if_neg c5] at H
        have c5b0 : (a0_0 == a1_0) = false := beq_eq_false_iff_ne.mpr c5
        have c5b1 : (a0_0 != a1_0) = true := bne_iff_ne.mpr c5
        replace H := Option.bind_eq_some_iff.mp H
        obtain ⟨t115, A110, H⟩ := H
        replace H : (some t115) = some r := H
        have A11 := Aside0.mk A110
        clear A110
        obtain rfl := Option.some.inj H
        go_enter Try.func27, Try.ntmps27
        go_wp2_with (first | ((with_reducible refine gate_dst (N := 2) rfl ?_); refine box_event ?hg (N := 2) ?hd (cs := #[.int .i64 a0_0, .string a0_1, .string a0_2]) (t := 50) ?hr ?_; (case hd => rfl); (case hg => rfl); (case hr => first | (go_simp; done) | (go_simp; rfl)); intro gb113 hg w12 hbox hb; have n0_ := Aside0.mk (below_step (by repeat (first | (with_reducible first | exact HB.out | apply below_alloc | apply pw_below_drewN | apply below_drew1) | exact HB.out)) hb); have n1_ := Aside0.mk (hbox); have n2_ := Aside0.mk ((by rw [hg]; exact (below_size (by repeat (first | (with_reducible first | exact HB.out | apply below_alloc | apply pw_below_drewN | apply below_drew1) | exact HB.out))) : w.heap.size ≤ gb113)); have n3_ := Aside0.mk ((by rw [hg]; exact (below_size (by repeat (first | (with_reducible first | exact HB.out | apply below_alloc | apply pw_below_drewN | apply below_drew1) | exact HB.out))) : w.heap.size ≤ gb113)); clear HB; have HB := n0_; have BK113 := n1_; have GW113 := n2_; have GE113 := n3_; clear n0_ n1_ n2_ n3_; clear hb hbox hg) | ((with_reducible refine gate_dst (N := 3) rfl ?_); refine box_event ?hg (N := 3) ?hd (cs := #[.int .i64 a1_0, .string a1_1, .string a1_2]) (t := 50) ?hr ?_; (case hd => rfl); (case hg => rfl); (case hr => first | (go_simp; done) | (go_simp; rfl)); intro gb114 hg w13 hbox hb; have n0_ := Aside0.mk (blk_below (g := gb113) (o := .cells #[.int .i64 a0_0, .string a0_1, .string a0_2] 50 (0, 0)) (by (with_reducible repeat (first | refine blk_drewN ?_ _ | refine blk_drew ?_ | refine blk_alloc ?_ _)); exact BK113.out) hb); have n1_ := Aside0.mk (below_step (by repeat (first | (with_reducible first | exact HB.out | apply below_alloc | apply pw_below_drewN | apply below_drew1 | refine below_set ?_ GE113.out) | exact HB.out)) hb); have n2_ := Aside0.mk (hbox); have n3_ := Aside0.mk ((by rw [hg]; exact (below_size (by repeat (first | (with_reducible first | exact HB.out | apply below_alloc | apply pw_below_drewN | apply below_drew1 | refine below_set ?_ GE113.out) | exact HB.out))) : w.heap.size ≤ gb114)); have n4_ := Aside0.mk ((by rw [hg]; exact (below_size (by repeat (first | (with_reducible first | exact HB.out | apply below_alloc | apply pw_below_drewN | apply below_drew1 | refine below_set ?_ GE113.out) | exact HB.out))) : w.heap.size ≤ gb114)); have n5_ := Aside0.mk ((by rw [hg]; exact Nat.ne_of_lt (blk_lt (g := gb113) (o := .cells #[.int .i64 a0_0, .string a0_1, .string a0_2] 50 (0, 0)) (by (with_reducible repeat (first | refine blk_drewN ?_ _ | refine blk_drew ?_ | refine blk_alloc ?_ _)); exact BK113.out)) : gb113 ≠ gb114)); have n6_ := Aside0.mk ((by rw [hg]; exact Nat.ne_of_gt (blk_lt (g := gb113) (o := .cells #[.int .i64 a0_0, .string a0_1, .string a0_2] 50 (0, 0)) (by (with_reducible repeat (first | refine blk_drewN ?_ _ | refine blk_drew ?_ | refine blk_alloc ?_ _)); exact BK113.out)) : gb114 ≠ gb113)); clear BK113; clear HB; have BK113 := n0_; have HB := n1_; have BK114 := n2_; have GW114 := n3_; have GE114 := n4_; have NB113_114 := n5_; have NB114_113 := n6_; clear n0_ n1_ n2_ n3_ n4_ n5_ n6_; clear hb hbox hg; have hnb14 := NB113_114.out; have hnc14 := NB114_113.out; have hcz15_0 : w13.cell? ⟨gb113, 0, none⟩ = some (.int .i64 a0_0) := (blk_cell BK113.out 0).trans rfl; have hcz15_1 : w13.cell? ⟨gb113, 1, none⟩ = some (.string a0_1) := (blk_cell BK113.out 1).trans rfl; have hcz15_2 : w13.cell? ⟨gb113, 2, none⟩ = some (.string a0_2) := (blk_cell BK113.out 2).trans rfl; have hfz15_0 := blk_frozen BK113.out 0; have hfz15_1 := blk_frozen BK113.out 1; have hfz15_2 := blk_frozen BK113.out 2; have hcz16_0 : w13.cell? ⟨gb114, 0, none⟩ = some (.int .i64 a1_0) := (blk_cell BK114.out 0).trans rfl; have hcz16_1 : w13.cell? ⟨gb114, 1, none⟩ = some (.string a1_1) := (blk_cell BK114.out 1).trans rfl; have hcz16_2 : w13.cell? ⟨gb114, 2, none⟩ = some (.string a1_2) := (blk_cell BK114.out 2).trans rfl; have hfz16_0 := blk_frozen BK114.out 0; have hfz16_1 := blk_frozen BK114.out 1; have hfz16_2 := blk_frozen BK114.out 2) | ((with_reducible refine gate_callee (f := 34) rfl ?_); refine goesL_ (some 40) rfl rfl Try.func34 (by kernel_rfl) rfl #[.bool (decide (a0_0 < a1_0))] rfl (by (try simp only [List.map_toArray, List.map_cons, List.map_nil]); first | done | rfl | (simp only [List.length_drop, List.length_take]; rfl)) ?_; (with_reducible refine (spec_sign.calls (decide (a0_0 < a1_0)) t115 _ A11.out).mono ?_); rintro e w' ⟨rfl, ⟨nd, rfl⟩⟩; refine ⟨_, rfl, ?_⟩))
        go_ret
        exact ⟨by first | rfl | (simp [errW_none, errW_some] <;> rfl) | (simp [*, errW_none, errW_some] <;> rfl), by repeat (first | (with_reducible first | exact HB.out | apply below_alloc | apply pw_below_drewN | apply below_drew1 | refine below_set ?_ GE113.out | refine below_set ?_ GE114.out) | exact HB.out)⟩
    · rw [if_neg c4] at H
      have c4b0 : (a0_2.toList == a1_2.toList) = false := beq_eq_false_iff_ne.mpr c4
      have c4b1 : (a0_2.toList != a1_2.toList) = true := bne_iff_ne.mpr c4
      replace H := Option.bind_eq_some_iff.mp H
      obtain ⟨t116, A170, H⟩ := H
      replace H : (some t116) = some r := H
      have A17 := Aside0.mk A170
      clear A170
      obtain rfl := Option.some.inj H
      go_enter Try.func27, Try.ntmps27
      go_wp2_with (first | ((with_reducible refine gate_dst (N := 2) rfl ?_); refine box_event ?hg (N := 2) ?hd (cs := #[.int .i64 a0_0, .string a0_1, .string a0_2]) (t := 50) ?hr ?_; (case hd => rfl); (case hg => rfl); (case hr => first | (go_simp; done) | (go_simp; rfl)); intro gb113 hg w18 hbox hb; have n0_ := Aside0.mk (below_step (by repeat (first | (with_reducible first | exact HB.out | apply below_alloc | apply pw_below_drewN | apply below_drew1) | exact HB.out)) hb); have n1_ := Aside0.mk (hbox); have n2_ := Aside0.mk ((by rw [hg]; exact (below_size (by repeat (first | (with_reducible first | exact HB.out | apply below_alloc | apply pw_below_drewN | apply below_drew1) | exact HB.out))) : w.heap.size ≤ gb113)); have n3_ := Aside0.mk ((by rw [hg]; exact (below_size (by repeat (first | (with_reducible first | exact HB.out | apply below_alloc | apply pw_below_drewN | apply below_drew1) | exact HB.out))) : w.heap.size ≤ gb113)); clear HB; have HB := n0_; have BK113 := n1_; have GW113 := n2_; have GE113 := n3_; clear n0_ n1_ n2_ n3_; clear hb hbox hg) | ((with_reducible refine gate_dst (N := 3) rfl ?_); refine box_event ?hg (N := 3) ?hd (cs := #[.int .i64 a1_0, .string a1_1, .string a1_2]) (t := 50) ?hr ?_; (case hd => rfl); (case hg => rfl); (case hr => first | (go_simp; done) | (go_simp; rfl)); intro gb114 hg w19 hbox hb; have n0_ := Aside0.mk (blk_below (g := gb113) (o := .cells #[.int .i64 a0_0, .string a0_1, .string a0_2] 50 (0, 0)) (by (with_reducible repeat (first | refine blk_drewN ?_ _ | refine blk_drew ?_ | refine blk_alloc ?_ _)); exact BK113.out) hb); have n1_ := Aside0.mk (below_step (by repeat (first | (with_reducible first | exact HB.out | apply below_alloc | apply pw_below_drewN | apply below_drew1 | refine below_set ?_ GE113.out) | exact HB.out)) hb); have n2_ := Aside0.mk (hbox); have n3_ := Aside0.mk ((by rw [hg]; exact (below_size (by repeat (first | (with_reducible first | exact HB.out | apply below_alloc | apply pw_below_drewN | apply below_drew1 | refine below_set ?_ GE113.out) | exact HB.out))) : w.heap.size ≤ gb114)); have n4_ := Aside0.mk ((by rw [hg]; exact (below_size (by repeat (first | (with_reducible first | exact HB.out | apply below_alloc | apply pw_below_drewN | apply below_drew1 | refine below_set ?_ GE113.out) | exact HB.out))) : w.heap.size ≤ gb114)); have n5_ := Aside0.mk ((by rw [hg]; exact Nat.ne_of_lt (blk_lt (g := gb113) (o := .cells #[.int .i64 a0_0, .string a0_1, .string a0_2] 50 (0, 0)) (by (with_reducible repeat (first | refine blk_drewN ?_ _ | refine blk_drew ?_ | refine blk_alloc ?_ _)); exact BK113.out)) : gb113 ≠ gb114)); have n6_ := Aside0.mk ((by rw [hg]; exact Nat.ne_of_gt (blk_lt (g := gb113) (o := .cells #[.int .i64 a0_0, .string a0_1, .string a0_2] 50 (0, 0)) (by (with_reducible repeat (first | refine blk_drewN ?_ _ | refine blk_drew ?_ | refine blk_alloc ?_ _)); exact BK113.out)) : gb114 ≠ gb113)); clear BK113; clear HB; have BK113 := n0_; have HB := n1_; have BK114 := n2_; have GW114 := n3_; have GE114 := n4_; have NB113_114 := n5_; have NB114_113 := n6_; clear n0_ n1_ n2_ n3_ n4_ n5_ n6_; clear hb hbox hg; have hnb20 := NB113_114.out; have hnc20 := NB114_113.out; have hcz21_0 : w19.cell? ⟨gb113, 0, none⟩ = some (.int .i64 a0_0) := (blk_cell BK113.out 0).trans rfl; have hcz21_1 : w19.cell? ⟨gb113, 1, none⟩ = some (.string a0_1) := (blk_cell BK113.out 1).trans rfl; have hcz21_2 : w19.cell? ⟨gb113, 2, none⟩ = some (.string a0_2) := (blk_cell BK113.out 2).trans rfl; have hfz21_0 := blk_frozen BK113.out 0; have hfz21_1 := blk_frozen BK113.out 1; have hfz21_2 := blk_frozen BK113.out 2; have hcz22_0 : w19.cell? ⟨gb114, 0, none⟩ = some (.int .i64 a1_0) := (blk_cell BK114.out 0).trans rfl; have hcz22_1 : w19.cell? ⟨gb114, 1, none⟩ = some (.string a1_1) := (blk_cell BK114.out 1).trans rfl; have hcz22_2 : w19.cell? ⟨gb114, 2, none⟩ = some (.string a1_2) := (blk_cell BK114.out 2).trans rfl; have hfz22_0 := blk_frozen BK114.out 0; have hfz22_1 := blk_frozen BK114.out 1; have hfz22_2 := blk_frozen BK114.out 2) | ((with_reducible refine gate_callee (f := 34) rfl ?_); refine goesL_ (some 28) rfl rfl Try.func34 (by kernel_rfl) rfl #[.bool (Op.bytesLess a0_2.toList a1_2.toList)] rfl (by (try simp only [List.map_toArray, List.map_cons, List.map_nil]); first | done | rfl | (simp only [List.length_drop, List.length_take]; rfl)) ?_; (with_reducible refine (spec_sign.calls (Op.bytesLess a0_2.toList a1_2.toList) t116 _ A17.out).mono ?_); rintro e w' ⟨rfl, ⟨nd, rfl⟩⟩; refine ⟨_, rfl, ?_⟩))
      go_ret
      exact ⟨by first | rfl | (simp [errW_none, errW_some] <;> rfl) | (simp [*, errW_none, errW_some] <;> rfl), by repeat (first | (with_reducible first | exact HB.out | apply below_alloc | apply pw_below_drewN | apply below_drew1 | refine below_set ?_ GE113.out | refine below_set ?_ GE114.out) | exact HB.out)⟩
  · rw [if_neg c3] at H
    have c3b0 : (a0_1.toList == a1_1.toList) = false := beq_eq_false_iff_ne.mpr c3
    have c3b1 : (a0_1.toList != a1_1.toList) = true := bne_iff_ne.mpr c3
    replace H := Option.bind_eq_some_iff.mp H
    obtain ⟨t117, A230, H⟩ := H
    replace H : (some t117) = some r := H
    have A23 := Aside0.mk A230
    clear A230
    obtain rfl := Option.some.inj H
    go_enter Try.func27, Try.ntmps27
    go_wp2_with (first | ((with_reducible refine gate_dst (N := 2) rfl ?_); refine box_event ?hg (N := 2) ?hd (cs := #[.int .i64 a0_0, .string a0_1, .string a0_2]) (t := 50) ?hr ?_; (case hd => rfl); (case hg => rfl); (case hr => first | (go_simp; done) | (go_simp; rfl)); intro gb113 hg w24 hbox hb; have n0_ := Aside0.mk (below_step (by repeat (first | (with_reducible first | exact HB.out | apply below_alloc | apply pw_below_drewN | apply below_drew1) | exact HB.out)) hb); have n1_ := Aside0.mk (hbox); have n2_ := Aside0.mk ((by rw [hg]; exact (below_size (by repeat (first | (with_reducible first | exact HB.out | apply below_alloc | apply pw_below_drewN | apply below_drew1) | exact HB.out))) : w.heap.size ≤ gb113)); have n3_ := Aside0.mk ((by rw [hg]; exact (below_size (by repeat (first | (with_reducible first | exact HB.out | apply below_alloc | apply pw_below_drewN | apply below_drew1) | exact HB.out))) : w.heap.size ≤ gb113)); clear HB; have HB := n0_; have BK113 := n1_; have GW113 := n2_; have GE113 := n3_; clear n0_ n1_ n2_ n3_; clear hb hbox hg) | ((with_reducible refine gate_dst (N := 3) rfl ?_); refine box_event ?hg (N := 3) ?hd (cs := #[.int .i64 a1_0, .string a1_1, .string a1_2]) (t := 50) ?hr ?_; (case hd => rfl); (case hg => rfl); (case hr => first | (go_simp; done) | (go_simp; rfl)); intro gb114 hg w25 hbox hb; have n0_ := Aside0.mk (blk_below (g := gb113) (o := .cells #[.int .i64 a0_0, .string a0_1, .string a0_2] 50 (0, 0)) (by (with_reducible repeat (first | refine blk_drewN ?_ _ | refine blk_drew ?_ | refine blk_alloc ?_ _)); exact BK113.out) hb); have n1_ := Aside0.mk (below_step (by repeat (first | (with_reducible first | exact HB.out | apply below_alloc | apply pw_below_drewN | apply below_drew1 | refine below_set ?_ GE113.out) | exact HB.out)) hb); have n2_ := Aside0.mk (hbox); have n3_ := Aside0.mk ((by rw [hg]; exact (below_size (by repeat (first | (with_reducible first | exact HB.out | apply below_alloc | apply pw_below_drewN | apply below_drew1 | refine below_set ?_ GE113.out) | exact HB.out))) : w.heap.size ≤ gb114)); have n4_ := Aside0.mk ((by rw [hg]; exact (below_size (by repeat (first | (with_reducible first | exact HB.out | apply below_alloc | apply pw_below_drewN | apply below_drew1 | refine below_set ?_ GE113.out) | exact HB.out))) : w.heap.size ≤ gb114)); have n5_ := Aside0.mk ((by rw [hg]; exact Nat.ne_of_lt (blk_lt (g := gb113) (o := .cells #[.int .i64 a0_0, .string a0_1, .string a0_2] 50 (0, 0)) (by (with_reducible repeat (first | refine blk_drewN ?_ _ | refine blk_drew ?_ | refine blk_alloc ?_ _)); exact BK113.out)) : gb113 ≠ gb114)); have n6_ := Aside0.mk ((by rw [hg]; exact Nat.ne_of_gt (blk_lt (g := gb113) (o := .cells #[.int .i64 a0_0, .string a0_1, .string a0_2] 50 (0, 0)) (by (with_reducible repeat (first | refine blk_drewN ?_ _ | refine blk_drew ?_ | refine blk_alloc ?_ _)); exact BK113.out)) : gb114 ≠ gb113)); clear BK113; clear HB; have BK113 := n0_; have HB := n1_; have BK114 := n2_; have GW114 := n3_; have GE114 := n4_; have NB113_114 := n5_; have NB114_113 := n6_; clear n0_ n1_ n2_ n3_ n4_ n5_ n6_; clear hb hbox hg; have hnb26 := NB113_114.out; have hnc26 := NB114_113.out; have hcz27_0 : w25.cell? ⟨gb113, 0, none⟩ = some (.int .i64 a0_0) := (blk_cell BK113.out 0).trans rfl; have hcz27_1 : w25.cell? ⟨gb113, 1, none⟩ = some (.string a0_1) := (blk_cell BK113.out 1).trans rfl; have hcz27_2 : w25.cell? ⟨gb113, 2, none⟩ = some (.string a0_2) := (blk_cell BK113.out 2).trans rfl; have hfz27_0 := blk_frozen BK113.out 0; have hfz27_1 := blk_frozen BK113.out 1; have hfz27_2 := blk_frozen BK113.out 2; have hcz28_0 : w25.cell? ⟨gb114, 0, none⟩ = some (.int .i64 a1_0) := (blk_cell BK114.out 0).trans rfl; have hcz28_1 : w25.cell? ⟨gb114, 1, none⟩ = some (.string a1_1) := (blk_cell BK114.out 1).trans rfl; have hcz28_2 : w25.cell? ⟨gb114, 2, none⟩ = some (.string a1_2) := (blk_cell BK114.out 2).trans rfl; have hfz28_0 := blk_frozen BK114.out 0; have hfz28_1 := blk_frozen BK114.out 1; have hfz28_2 := blk_frozen BK114.out 2) | ((with_reducible refine gate_callee (f := 34) rfl ?_); refine goesL_ (some 16) rfl rfl Try.func34 (by kernel_rfl) rfl #[.bool (Op.bytesLess a0_1.toList a1_1.toList)] rfl (by (try simp only [List.map_toArray, List.map_cons, List.map_nil]); first | done | rfl | (simp only [List.length_drop, List.length_take]; rfl)) ?_; (with_reducible refine (spec_sign.calls (Op.bytesLess a0_1.toList a1_1.toList) t117 _ A23.out).mono ?_); rintro e w' ⟨rfl, ⟨nd, rfl⟩⟩; refine ⟨_, rfl, ?_⟩))
    go_ret
    exact ⟨by first | rfl | (simp [errW_none, errW_some] <;> rfl) | (simp [*, errW_none, errW_some] <;> rfl), by repeat (first | (with_reducible first | exact HB.out | apply below_alloc | apply pw_below_drewN | apply below_drew1 | refine below_set ?_ GE113.out | refine below_set ?_ GE114.out) | exact HB.out)⟩

end Go.Proofs.Ythjameohenmeiaa.Q
