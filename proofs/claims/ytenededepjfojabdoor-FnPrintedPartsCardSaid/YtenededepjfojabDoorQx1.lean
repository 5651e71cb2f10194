-- printed by this project's own program wip/tools/mkprint.py (the kit's print.py with hand-proved contracts put in)
import Derived.Test.YtenededepjfojabDoorQx0
namespace Go.Proofs.YtenededepjfojabDoor.Q
open Go.RowKit Go.Proofs.YtenededepjfojabDoorW.PrintWords Go.Proofs.YtenededepjfojabDoorW.PrintLast Go.Proofs.YtenededepjfojabDoorW.PrintMore
attribute [local go_sem] max2_int min2_int max_two min_two max_three min_three max_four min_four   -- for this text's walks alone
set_option linter.unusedVariables false
set_option linter.unusedSimpArgs false

/-! ### laws_zzFits4: function 8 -/
def laws_zzFits4.f (a0_0 : Int) (a0_1 : ByteArray) (a0_2 : ByteArray) : Option (Bool) := if (a0_1.size : Int) > 2147483647 then (some false) else (if (a0_2.size : Int) > 2147483647 then (some false) else (some true))
set_option maxHeartbeats 8000000 in
set_option maxRecDepth 100000 in
theorem laws_zzFits4.calls (a0_0 : Int) (a0_1 : ByteArray) (a0_2 : ByteArray) (r : Bool) (w : World) (h : laws_zzFits4.f a0_0 a0_1 a0_2 = some r) :
    Calls Tryd.prog 8 #[.agg #[.int .i64 a0_0, .string a0_1, .string a0_2]] w fun e w' => e = .returned (.bool r) ∧ Below w.heap.size w w' := by
  have hu26 := Tryd.underlying26
  have HB := Aside0.mk (Below.refl w.heap.size w)
  have H : (if (a0_1.size : Int) > 2147483647 then (some false) else (if (a0_2.size : Int) > 2147483647 then (some false) else (some true))) = some r := h
  clear h
  by_cases c2 : (a0_1.size : Int) > 2147483647
  · rw [if_pos c2] at H
    have c2b0 : decide (2147483647 < (a0_1.size : Int)) = true := decide_eq_true c2
    have c2b1 : decide (2147483647 < a0_1.size) = true := decide_eq_true (by omega)
    clear c2
    obtain rfl := Option.some.inj H
    go_enter Tryd.func8, Tryd.ntmps8
    go_wp2_with (first | ((with_reducible refine gate_dst (N := 1) rfl ?_); refine box_event ?hg (N := 1) ?hd (cs := #[.int .i64 a0_0, .string a0_1, .string a0_2]) (t := 26) ?hr ?_; (case hd => rfl); (case hg => rfl); (case hr => first | (go_simp; done) | (go_simp; rfl)); intro gb101 hg w3 hbox hb; have n0_ := Aside0.mk (below_step (by repeat (first | (with_reducible first | exact HB.out | apply below_alloc | apply pw_below_drewN | apply below_drew1) | exact HB.out)) hb); have n1_ := Aside0.mk (hbox); have n2_ := Aside0.mk ((by rw [hg]; exact (below_size (by repeat (first | (with_reducible first | exact HB.out | apply below_alloc | apply pw_below_drewN | apply below_drew1) | exact HB.out))) : w.heap.size ≤ gb101)); have n3_ := Aside0.mk ((by rw [hg]; exact (below_size (by repeat (first | (with_reducible first | exact HB.out | apply below_alloc | apply pw_below_drewN | apply below_drew1) | exact HB.out))) : w.heap.size ≤ gb101)); clear HB; have HB := n0_; have BK101 := n1_; have GW101 := n2_; have GE101 := n3_; clear n0_ n1_ n2_ n3_; clear hb hbox hg; have hcz4_0 : w3.cell? ⟨gb101, 0, none⟩ = some (.int .i64 a0_0) := (blk_cell BK101.out 0).trans rfl; have hcz4_1 : w3.cell? ⟨gb101, 1, none⟩ = some (.string a0_1) := (blk_cell BK101.out 1).trans rfl; have hcz4_2 : w3.cell? ⟨gb101, 2, none⟩ = some (.string a0_2) := (blk_cell BK101.out 2).trans rfl; have hfz4_0 := blk_frozen BK101.out 0; have hfz4_1 := blk_frozen BK101.out 1; have hfz4_2 := blk_frozen BK101.out 2))
    go_ret
    exact ⟨by first | rfl | (simp [errW_none, errW_some] <;> rfl) | (simp [*, errW_none, errW_some] <;> rfl), by repeat (first | (with_reducible first | exact HB.out | apply below_alloc | apply pw_below_drewN | apply below_drew1 | refine below_set ?_ GE101.out) | exact HB.out)⟩
  · rw [if_neg c2] at H
    have c2b0 : decide (2147483647 < (a0_1.size : Int)) = false := decide_eq_false c2
    have c2b1 : decide (2147483647 < a0_1.size) = false := decide_eq_false (by omega)
    clear c2
    by_cases c5 : (a0_2.size : Int) > 2147483647
    · rw [if_pos c5] at H
      have c5b0 : decide (2147483647 < (a0_2.size : Int)) = true := decide_eq_true c5
      have c5b1 : decide (2147483647 < a0_2.size) = true := decide_eq_true (by omega)
      clear c5
      obtain rfl := Option.some.inj H
      go_enter Tryd.func8, Tryd.ntmps8
      go_wp2_with (first | ((with_reducible refine gate_dst (N := 1) rfl ?_); refine box_event ?hg (N := 1) ?hd (cs := #[.int .i64 a0_0, .string a0_1, .string a0_2]) (t := 26) ?hr ?_; (case hd => rfl); (case hg => rfl); (case hr => first | (go_simp; done) | (go_simp; rfl)); intro gb101 hg w6 hbox hb; have n0_ := Aside0.mk (below_step (by repeat (first | (with_reducible first | exact HB.out | apply below_alloc | apply pw_below_drewN | apply below_drew1) | exact HB.out)) hb); have n1_ := Aside0.mk (hbox); have n2_ := Aside0.mk ((by rw [hg]; exact (below_size (by repeat (first | (with_reducible first | exact HB.out | apply below_alloc | apply pw_below_drewN | apply below_drew1) | exact HB.out))) : w.heap.size ≤ gb101)); have n3_ := Aside0.mk ((by rw [hg]; exact (below_size (by repeat (first | (with_reducible first | exact HB.out | apply below_alloc | apply pw_below_drewN | apply below_drew1) | exact HB.out))) : w.heap.size ≤ gb101)); clear HB; have HB := n0_; have BK101 := n1_; have GW101 := n2_; have GE101 := n3_; clear n0_ n1_ n2_ n3_; clear hb hbox hg; have hcz7_0 : w6.cell? ⟨gb101, 0, none⟩ = some (.int .i64 a0_0) := (blk_cell BK101.out 0).trans rfl; have hcz7_1 : w6.cell? ⟨gb101, 1, none⟩ = some (.string a0_1) := (blk_cell BK101.out 1).trans rfl; have hcz7_2 : w6.cell? ⟨gb101, 2, none⟩ = some (.string a0_2) := (blk_cell BK101.out 2).trans rfl; have hfz7_0 := blk_frozen BK101.out 0; have hfz7_1 := blk_frozen BK101.out 1; have hfz7_2 := blk_frozen BK101.out 2))
      go_ret
      exact ⟨by first | rfl | (simp [errW_none, errW_some] <;> rfl) | (simp [*, errW_none, errW_some] <;> rfl), by repeat (first | (with_reducible first | exact HB.out | apply below_alloc | apply pw_below_drewN | apply below_drew1 | refine below_set ?_ GE101.out) | exact HB.out)⟩
    · rw [if_neg c5] at H
      have c5b0 : decide (2147483647 < (a0_2.size : Int)) = false := decide_eq_false c5
      have c5b1 : decide (2147483647 < a0_2.size) = false := decide_eq_false (by omega)
      clear c5
      obtain rfl := Option.some.inj H
      go_enter Tryd.func8, Tryd.ntmps8
      go_wp2_with (first | ((with_reducible refine gate_dst (N := 1) rfl ?_); refine box_event ?hg (N := 1) ?hd (cs := #[.int .i64 a0_0, .string a0_1, .string a0_2]) (t := 26) ?hr ?_; (case hd => rfl); (case hg => rfl); (case hr => first | (go_simp; done) | (go_simp; rfl)); intro gb101 hg w8 hbox hb; have n0_ := Aside0.mk (below_step (by repeat (first | (with_reducible first | exact HB.out | apply below_alloc | apply pw_below_drewN | apply below_drew1) | exact HB.out)) hb); have n1_ := Aside0.mk (hbox); have n2_ := Aside0.mk ((by rw [hg]; exact (below_size (by repeat (first | (with_reducible first | exact HB.out | apply below_alloc | apply pw_below_drewN | apply below_drew1) | exact HB.out))) : w.heap.size ≤ gb101)); have n3_ := Aside0.mk ((by rw [hg]; exact (below_size (by repeat (first | (with_reducible first | exact HB.out | apply below_alloc | apply pw_below_drewN | apply below_drew1) | exact HB.out))) : w.heap.size ≤ gb101)); clear HB; have HB := n0_; have BK101 := n1_; have GW101 := n2_; have GE101 := n3_; clear n0_ n1_ n2_ n3_; clear hb hbox hg; have hcz9_0 : w8.cell? ⟨gb101, 0, none⟩ = some (.int .i64 a0_0) := (blk_cell BK101.out 0).trans rfl; have hcz9_1 : w8.cell? ⟨gb101, 1, none⟩ = some (.string a0_1) := (blk_cell BK101.out 1).trans rfl; have hcz9_2 : w8.cell? ⟨gb101, 2, none⟩ = some (.string a0_2) := (blk_cell BK101.out 2).trans rfl; have hfz9_0 := blk_frozen BK101.out 0; have hfz9_1 := blk_frozen BK101.out 1; have hfz9_2 := blk_frozen BK101.out 2))
      go_ret
      exact ⟨by first | rfl | (simp [errW_none, errW_some] <;> rfl) | (simp [*, errW_none, errW_some] <;> rfl), by repeat (first | (with_reducible first | exact HB.out | apply below_alloc | apply pw_below_drewN | apply below_drew1 | refine below_set ?_ GE101.out) | exact HB.out)⟩

/-! ### laws_zzFits3: function 4 -/
def laws_zzFits3.l0 : Nat → List (S26) → Int → Int → Option (Bool)
  | 0, _, _, _ => none
  | k + 1, x8, x9, x10 => if x10 < x9 then (if 0 ≤ x10 then (if x10 < (x8.length : Int) then ((laws_zzFits4.f ((rd_T26 x8 x10).f0) ((rd_T26 x8 x10).f1) ((rd_T26 x8 x10).f2)).bind fun t104 => (if t104 = true then (laws_zzFits3.l0 k x8 x9 (wrap64 (x10 + 1))) else (some false))) else (none)) else (none)) else (some true)
def laws_zzFits3.f (k : Nat) (l0 : List (S26)) : Option (Bool) := if (l0.length : Int) > 2147483647 then (some false) else (laws_zzFits3.l0 k l0 (l0.length : Int) 0)
theorem laws_zzFits3.mono_l : ∀ k, (∀ y0 y1 y2, LeO (laws_zzFits3.l0 k y0 y1 y2) (laws_zzFits3.l0 (k + 1) y0 y1 y2))
  | 0 => fun _ _ _ r h => by simp [laws_zzFits3.l0] at h
  | k + 1 => by
    have ih0 := laws_zzFits3.mono_l k
    · intro y0 y1 y2
      unfold laws_zzFits3.l0
      repeat' first
      | (with_reducible exact ih0 _ _ _)
      | (with_reducible exact LeO.refl _)
      | (with_reducible exact LeO.none _)
      | (with_reducible refine LeO.ite ?_ ?_)
      | (with_reducible refine LeO.bind ?_ (fun _ => ?_))
      | exact ih0 _ _ _
      | exact LeO.none _
      | refine LeO.ite ?_ ?_
      | refine LeO.bind ?_ (fun _ => ?_)
theorem laws_zzFits3.mono : ∀ a0 k, LeO (laws_zzFits3.f k a0) (laws_zzFits3.f (k + 1) a0) := by
  intro a0 k
  have ih0 := laws_zzFits3.mono_l k
  unfold laws_zzFits3.f
  repeat' first
      | (with_reducible exact ih0 _ _ _)
      | (with_reducible exact LeO.refl _)
      | (with_reducible exact LeO.none _)
      | (with_reducible refine LeO.ite ?_ ?_)
      | (with_reducible refine LeO.bind ?_ (fun _ => ?_))
      | exact ih0 _ _ _
      | exact LeO.none _
      | refine LeO.ite ?_ ?_
      | refine LeO.bind ?_ (fun _ => ?_)
set_option maxHeartbeats 8000000 in
set_option maxRecDepth 100000 in
theorem laws_zzFits3.calls (k : Nat) (A0 : Option Addr) (c0 : Nat) (l0 : List (S26)) (r : Bool) (w : World) (hr0 : Kd.C k26 w A0 l0.length l0) (hc0 : l0.length ≤ c0) (h : laws_zzFits3.f k l0 = some r) :
    Calls Tryd.prog 4 #[.slice A0 l0.length c0] w fun e w' => e = .returned (.bool r) ∧ Below w.heap.size w w' := by
  have hu26 := Tryd.underlying26
  have HR0 := Aside0.mk hr0
  have HC0 := Aside0.mk hc0
  clear hr0 hc0
  have HB := Aside0.mk (Below.refl w.heap.size w)
  have H : (if (l0.length : Int) > 2147483647 then (some false) else (laws_zzFits3.l0 k l0 (l0.length : Int) 0)) = some r := h
  clear h
  by_cases c2 : (l0.length : Int) > 2147483647
  · rw [if_pos c2] at H
    have c2b0 : decide (2147483647 < (l0.length : Int)) = true := decide_eq_true c2
    have c2b1 : decide (2147483647 < l0.length) = true := decide_eq_true (by omega)
    clear c2
    obtain rfl := Option.some.inj H
    go_enter Tryd.func4, Tryd.ntmps4
    go_wp2
    go_ret
    exact ⟨by first | rfl | (simp [errW_none, errW_some] <;> rfl) | (simp [*, errW_none, errW_some] <;> rfl), by repeat (first | (with_reducible first | exact HB.out | apply below_alloc | apply pw_below_drewN | apply below_drew1) | exact HB.out)⟩
  · rw [if_neg c2] at H
    have c2b0 : decide (2147483647 < (l0.length : Int)) = false := decide_eq_false c2
    have c2b1 : decide (2147483647 < l0.length) = false := decide_eq_false (by omega)
    clear c2
    have H' := Aside0.mk H
    clear H
    go_enter Tryd.func4, Tryd.ntmps4
    go_wp2
    go_loopg [10] k (fun kq v10 w' => ∃ (x10_1 : Int), v10 = .int .i64 x10_1 ∧ Aside0 (laws_zzFits3.l0 kq l0 (l0.length : Int) x10_1 = some r) ∧ Aside0 (kq ≤ k) ∧ Aside0 (Below w.heap.size w w'))
    case atStart => exact ⟨(0), (by first | rfl | (simp; done) | (simp [*]; done)), H', ⟨Nat.le_refl _⟩, ⟨by repeat (first | (with_reducible first | exact HB.out | apply below_alloc | apply pw_below_drewN | apply below_drew1) | exact HB.out)⟩⟩
    case round =>
      clear H'
      try clear c2
      try clear c2b0
      try clear c2b1
      try clear p2
      obtain ⟨x10_1, rfl, HA, HK1, HB⟩ := hrel
      cases gk with
      | zero => exact absurd HA.out (by simp [laws_zzFits3.l0])
      | succ k1 =>
        have H := HA.out
        clear HA
        simp only [laws_zzFits3.l0] at H
        by_cases c3 : x10_1 < (l0.length : Int)
        · rw [if_pos c3] at H
          have c3b0 : decide (x10_1 < (l0.length : Int)) = true := decide_eq_true c3
          clear c3
          by_cases c4 : 0 ≤ x10_1
          · rw [if_pos c4] at H
            have c4b0 : decide (0 ≤ x10_1) = true := decide_eq_true c4
            clear c4
            by_cases c5 : x10_1 < (l0.length : Int)
            · rw [if_pos c5] at H
              have c5b0 : decide (x10_1 < (l0.length : Int)) = true := decide_eq_true c5
              clear c5
              replace H := Option.bind_eq_some_iff.mp H
              obtain ⟨t104, A60, H⟩ := H
              replace H : (if t104 = true then (laws_zzFits3.l0 k1 l0 (l0.length : Int) (wrap64 (x10_1 + 1))) else (some false)) = some r := H
              have A6 := Aside0.mk A60
              clear A60
              by_cases c7 : t104 = true
              · subst c7
                have H1 : (laws_zzFits3.l0 k1 l0 (l0.length : Int) (wrap64 (x10_1 + 1))) = some r := by rw [if_pos rfl] at H; exact H
                clear H
                have H := H1
                clear H1
                have H' := Aside0.mk H
                clear H
                have p102 : 0 ≤ (x10_1 : Int) := of_decide_eq_true (by first | (with_reducible assumption) | assumption)
                have q102 : x10_1 < (l0.length : Int) := of_decide_eq_true (by first | (with_reducible assumption) | assumption)
                obtain ⟨ad102, e102, hx102_0, hx102_1, hx102_2⟩ := at_T26 HR0.out x10_1 p102 q102
                cases e102
                replace hx102_0 := (HB.out.cell (World.block_lt_of_cell? w _ hx102_0)).trans hx102_0
                replace hx102_1 := (HB.out.cell (World.block_lt_of_cell? w _ hx102_1)).trans hx102_1
                replace hx102_2 := (HB.out.cell (World.block_lt_of_cell? w _ hx102_2)).trans hx102_2
                replace p102 := eq_true p102
                replace q102 := eq_true q102
                go_wp2_with (first | ((with_reducible refine gate_dst (N := 4) rfl ?_); refine box_event ?hg (N := 4) ?hd (cs := #[.int .i64 0, .string (⟨#[]⟩ : ByteArray), .string (⟨#[]⟩ : ByteArray)]) (t := 26) ?hr ?_; (case hd => rfl); (case hg => rfl); (case hr => first | (go_simp; done) | (go_simp; rfl)); intro gb103 hg w8 hbox hb; have n0_ := Aside0.mk (below_step (by repeat (first | (with_reducible first | exact HB.out | apply below_alloc | apply pw_below_drewN | apply below_drew1) | exact HB.out)) hb); have n1_ := Aside0.mk (hbox); have n2_ := Aside0.mk ((by rw [hg]; exact (below_size (by repeat (first | (with_reducible first | exact HB.out | apply below_alloc | apply pw_below_drewN | apply below_drew1) | exact HB.out))) : w.heap.size ≤ gb103)); have n3_ := Aside0.mk ((by rw [hg]; exact (below_size (by repeat (first | (with_reducible first | exact HB.out | apply below_alloc | apply pw_below_drewN | apply below_drew1) | exact HB.out))) : w.heap.size ≤ gb103)); clear HB; have HB := n0_; have BK103 := n1_; have GW103 := n2_; have GE103 := n3_; clear n0_ n1_ n2_ n3_; clear hb hbox hg; have hcz9_0 : w8.cell? ⟨gb103, 0, none⟩ = some (.int .i64 0) := (blk_cell BK103.out 0).trans rfl; have hcz9_1 : w8.cell? ⟨gb103, 1, none⟩ = some (.string (⟨#[]⟩ : ByteArray)) := (blk_cell BK103.out 1).trans rfl; have hcz9_2 : w8.cell? ⟨gb103, 2, none⟩ = some (.string (⟨#[]⟩ : ByteArray)) := (blk_cell BK103.out 2).trans rfl; have hfz9_0 := blk_frozen BK103.out 0; have hfz9_1 := blk_frozen BK103.out 1; have hfz9_2 := blk_frozen BK103.out 2) | ((with_reducible refine gate_callee (f := 8) rfl ?_); refine goesL_ (some 15) rfl rfl Tryd.func8 (by kernel_rfl) rfl #[.agg #[.int .i64 ((rd_T26 l0 x10_1).f0), .string ((rd_T26 l0 x10_1).f1), .string ((rd_T26 l0 x10_1).f2)]] rfl (by (try simp only [List.map_toArray, List.map_cons, List.map_nil]); first | done | rfl | (simp only [List.length_drop, List.length_take]; rfl)) ?_; (with_reducible refine (laws_zzFits4.calls ((rd_T26 l0 x10_1).f0) ((rd_T26 l0 x10_1).f1) ((rd_T26 l0 x10_1).f2) true _ A6.out).mono ?_); rintro e w10 ⟨rfl, hb⟩; refine ⟨_, rfl, ?_⟩; have n0_ := Aside0.mk (blk_below (g := gb103) (o := .cells #[.int .i64 ((rd_T26 l0 x10_1).f0), .string ((rd_T26 l0 x10_1).f1), .string ((rd_T26 l0 x10_1).f2)] 26 (0, 0)) (by (with_reducible repeat (first | refine blk_drewN ?_ _ | refine blk_drew ?_ | refine blk_alloc ?_ _)); refine blk_put (cs := #[.int .i64 ((rd_T26 l0 x10_1).f0), .string ((rd_T26 l0 x10_1).f1), .string (⟨#[]⟩ : ByteArray)]) ?_ 2 _ rfl; (with_reducible repeat (first | refine blk_drewN ?_ _ | refine blk_drew ?_ | refine blk_alloc ?_ _)); refine blk_put (cs := #[.int .i64 ((rd_T26 l0 x10_1).f0), .string (⟨#[]⟩ : ByteArray), .string (⟨#[]⟩ : ByteArray)]) ?_ 1 _ rfl; (with_reducible repeat (first | refine blk_drewN ?_ _ | refine blk_drew ?_ | refine blk_alloc ?_ _)); refine blk_put (cs := #[.int .i64 0, .string (⟨#[]⟩ : ByteArray), .string (⟨#[]⟩ : ByteArray)]) ?_ 0 _ rfl; (with_reducible repeat (first | refine blk_drewN ?_ _ | refine blk_drew ?_ | refine blk_alloc ?_ _)); exact BK103.out) hb); have n1_ := Aside0.mk (below_step (by repeat (first | (with_reducible first | exact HB.out | apply below_alloc | apply pw_below_drewN | apply below_drew1 | refine below_set ?_ GE103.out) | exact HB.out)) hb); clear BK103; clear HB; have BK103 := n0_; have HB := n1_; clear n0_ n1_; (try clear hb); (try clear hb2); (try clear hk); (try clear hi)))
                go_roundg k1
                case measure => have := HK1.out; omega
                case rel => exact ⟨(wrap64 (x10_1 + 1)), (by first | rfl | (simp; done) | (simp [*]; done)), H', ⟨by have := HK1.out; omega⟩, ⟨by repeat (first | (with_reducible first | exact HB.out | apply below_alloc | apply pw_below_drewN | apply below_drew1 | refine below_set ?_ GE103.out) | exact HB.out)⟩⟩
              · replace c7 := Bool.eq_false_iff.mpr c7
                subst c7
                have H1 : (some false) = some r := by rw [if_neg (show ¬ (false = true) by decide)] at H; exact H
                clear H
                have H := H1
                clear H1
                obtain rfl := Option.some.inj H
                have p102 : 0 ≤ (x10_1 : Int) := of_decide_eq_true (by first | (with_reducible assumption) | assumption)
                have q102 : x10_1 < (l0.length : Int) := of_decide_eq_true (by first | (with_reducible assumption) | assumption)
                obtain ⟨ad102, e102, hx102_0, hx102_1, hx102_2⟩ := at_T26 HR0.out x10_1 p102 q102
                cases e102
                replace hx102_0 := (HB.out.cell (World.block_lt_of_cell? w _ hx102_0)).trans hx102_0
                replace hx102_1 := (HB.out.cell (World.block_lt_of_cell? w _ hx102_1)).trans hx102_1
                replace hx102_2 := (HB.out.cell (World.block_lt_of_cell? w _ hx102_2)).trans hx102_2
                replace p102 := eq_true p102
                replace q102 := eq_true q102
                go_wp2_with (first | ((with_reducible refine gate_dst (N := 4) rfl ?_); refine box_event ?hg (N := 4) ?hd (cs := #[.int .i64 0, .string (⟨#[]⟩ : ByteArray), .string (⟨#[]⟩ : ByteArray)]) (t := 26) ?hr ?_; (case hd => rfl); (case hg => rfl); (case hr => first | (go_simp; done) | (go_simp; rfl)); intro gb103 hg w11 hbox hb; have n0_ := Aside0.mk (below_step (by repeat (first | (with_reducible first | exact HB.out | apply below_alloc | apply pw_below_drewN | apply below_drew1) | exact HB.out)) hb); have n1_ := Aside0.mk (hbox); have n2_ := Aside0.mk ((by rw [hg]; exact (below_size (by repeat (first | (with_reducible first | exact HB.out | apply below_alloc | apply pw_below_drewN | apply below_drew1) | exact HB.out))) : w.heap.size ≤ gb103)); have n3_ := Aside0.mk ((by rw [hg]; exact (below_size (by repeat (first | (with_reducible first | exact HB.out | apply below_alloc | apply pw_below_drewN | apply below_drew1) | exact HB.out))) : w.heap.size ≤ gb103)); clear HB; have HB := n0_; have BK103 := n1_; have GW103 := n2_; have GE103 := n3_; clear n0_ n1_ n2_ n3_; clear hb hbox hg; have hcz12_0 : w11.cell? ⟨gb103, 0, none⟩ = some (.int .i64 0) := (blk_cell BK103.out 0).trans rfl; have hcz12_1 : w11.cell? ⟨gb103, 1, none⟩ = some (.string (⟨#[]⟩ : ByteArray)) := (blk_cell BK103.out 1).trans rfl; have hcz12_2 : w11.cell? ⟨gb103, 2, none⟩ = some (.string (⟨#[]⟩ : ByteArray)) := (blk_cell BK103.out 2).trans rfl; have hfz12_0 := blk_frozen BK103.out 0; have hfz12_1 := blk_frozen BK103.out 1; have hfz12_2 := blk_frozen BK103.out 2) | ((with_reducible refine gate_callee (f := 8) rfl ?_); refine goesL_ (some 15) rfl rfl Tryd.func8 (by kernel_rfl) rfl #[.agg #[.int .i64 ((rd_T26 l0 x10_1).f0), .string ((rd_T26 l0 x10_1).f1), .string ((rd_T26 l0 x10_1).f2)]] rfl (by (try simp only [List.map_toArray, List.map_cons, List.map_nil]); first | done | rfl | (simp only [List.length_drop, List.length_take]; rfl)) ?_; (with_reducible refine (laws_zzFits4.calls ((rd_T26 l0 x10_1).f0) ((rd_T26 l0 x10_1).f1) ((rd_T26 l0 x10_1).f2) false _ A6.out).mono ?_); rintro e w13 ⟨rfl, hb⟩; refine ⟨_, rfl, ?_⟩; have n0_ := Aside0.mk (blk_below (g := gb103) (o := .cells #[.int .i64 ((rd_T26 l0 x10_1).f0), .string ((rd_T26 l0 x10_1).f1), .string ((rd_T26 l0 x10_1).f2)] 26 (0, 0)) (by (with_reducible repeat (first | refine blk_drewN ?_ _ | refine blk_drew ?_ | refine blk_alloc ?_ _)); refine blk_put (cs := #[.int .i64 ((rd_T26 l0 x10_1).f0), .string ((rd_T26 l0 x10_1).f1), .string (⟨#[]⟩ : ByteArray)]) ?_ 2 _ rfl; (with_reducible repeat (first | refine blk_drewN ?_ _ | refine blk_drew ?_ | refine blk_alloc ?_ _)); refine blk_put (cs := #[.int .i64 ((rd_T26 l0 x10_1).f0), .string (⟨#[]⟩ : ByteArray), .string (⟨#[]⟩ : ByteArray)]) ?_ 1 _ rfl; (with_reducible repeat (first | refine blk_drewN ?_ _ | refine blk_drew ?_ | refine blk_alloc ?_ _)); refine blk_put (cs := #[.int .i64 0, .string (⟨#[]⟩ : ByteArray), .string (⟨#[]⟩ : ByteArray)]) ?_ 0 _ rfl; (with_reducible repeat (first | refine blk_drewN ?_ _ | refine blk_drew ?_ | refine blk_alloc ?_ _)); exact BK103.out) hb); have n1_ := Aside0.mk (below_step (by repeat (first | (with_reducible first | exact HB.out | apply below_alloc | apply pw_below_drewN | apply below_drew1 | refine below_set ?_ GE103.out) | exact HB.out)) hb); clear BK103; clear HB; have BK103 := n0_; have HB := n1_; clear n0_ n1_; (try clear hb); (try clear hb2); (try clear hk); (try clear hi)))
                go_ret
                exact ⟨by first | rfl | (simp [errW_none, errW_some] <;> rfl) | (simp [*, errW_none, errW_some] <;> rfl), by repeat (first | (with_reducible first | exact HB.out | apply below_alloc | apply pw_below_drewN | apply below_drew1 | refine below_set ?_ GE103.out) | exact HB.out)⟩
            · rw [if_neg c5] at H
              exact absurd H (by simp)
          · rw [if_neg c4] at H
            exact absurd H (by simp)
        · rw [if_neg c3] at H
          have c3b0 : decide (x10_1 < (l0.length : Int)) = false := decide_eq_false c3
          clear c3
          obtain rfl := Option.some.inj H
          go_wp2
          go_ret
          exact ⟨by first | rfl | (simp [errW_none, errW_some] <;> rfl) | (simp [*, errW_none, errW_some] <;> rfl), by repeat (first | (with_reducible first | exact HB.out | apply below_alloc | apply pw_below_drewN | apply below_drew1) | exact HB.out)⟩

-- NOT PRINTED: function 16 (labels_NewMatcher)

/-! ### impl_inner: function 11 -/
-- contracts that were proved by hand
def kMat : Kd S52 := Box.box 52 k52
def toMat (x : S26) : S52 := ⟨x.f0, x.f1, x.f2⟩
theorem kMat_new {w : World} {base g : Nat} {x : S52} (hb : base ≤ g) (h : w.heap[g]? = some (.cells #[.int .i64 x.f0, .string x.f1, .string x.f2] 52 (0, 0))) (ok : Nat → Prop) (ho : ok g) :
    kMat.M w base ok x [.pointer (some ⟨g, 0, none⟩)] :=
  ⟨g, _, rfl, ho, hb, h, k52_mkM w base ok x⟩
theorem kMat_open {w : World} {x : S52} {cs : List Value} (h : kMat.K w x cs) : ∃ g, cs = [.pointer (some ⟨g, 0, none⟩)] ∧ w.heap[g]? = some (.cells #[.int .i64 x.f0, .string x.f1, .string x.f2] 52 (0, 0)) := by
  obtain ⟨g, cs', e, hg, hk⟩ := h
  have e' := k52_open hk
  refine ⟨g, e, ?_⟩
  rw [hg]
  congr 2
  exact Array.toList_inj.1 e'
set_option maxHeartbeats 800000 in
theorem impl_inner.calls (a0 : Int) (a1 a2 : ByteArray) (w : World) :
    Calls Tryd.prog 11 #[.agg #[.int .i64 a0, .string a1, .string a2]] w fun e w' => ∃ g, e = .returned (.pointer (some ⟨g, 0, none⟩)) ∧ w.heap.size ≤ g ∧ w'.heap[g]? = some (.cells #[.int .i64 a0, .string a1, .string a2] 52 (0, 0)) ∧ Below w.heap.size w w' := by
  go_enter Tryd.func11, Tryd.ntmps11
  go_wp2
  go_ret
  exact ⟨_, rfl, by omega, Box.new_at (by simp) _, below_alloc (below_alloc (Below.refl _ _) _) _⟩


/-! ### impl_inners: function 9 -/
-- contracts that were proved by hand
theorem infoPM : (Tryd.prog.info? 35).map (fun i => (i.zero, i.size, i.bytes)) = some (some (.pointer none), 1, 8) := by kernel_rfl
set_option maxHeartbeats 1600000 in
set_option maxRecDepth 100000 in
theorem impl_inners.calls (A0 : Option Addr) (c0 : Nat) (l0 : List S26) (w : World) (hr0 : Kd.C k26 w A0 l0.length l0) (hc0 : l0.length ≤ c0) (hl : l0.length ≤ 17592186044416) :
    Calls Tryd.prog 9 #[.slice A0 l0.length c0] w fun e w' => ∃ v, e = .returned v ∧ kMat.R 35 w' w.heap.size (fun _ => True) v (l0.map toMat) ∧ Below w.heap.size w w' := by
  have HR0 := Aside0.mk hr0
  have HC0 := Aside0.mk hc0
  clear hr0 hc0
  go_enter Tryd.func9, Tryd.ntmps9
  go_wp2
  go_loopw [3, 8] (fun v3 v8 wr => ∃ j : Nat, j ≤ l0.length ∧ v8 = .int .i64 j ∧ Aside0 (kMat.R 35 wr w.heap.size (fun _ => True) v3 ((l0.take j).map toMat)) ∧ Aside0 (Below w.heap.size w wr)) (fun _ v8 _ => l0.length - (intOf v8).toNat)
  case atStart => exact ⟨0, Nat.zero_le _, rfl, ⟨Kd.R_nil _ _ _ _ _⟩, ⟨Below.refl _ _⟩⟩
  case round =>
    obtain ⟨j, hj, rfl, HO, HB⟩ := hrel
    by_cases hlt : j < l0.length
    · obtain ⟨ad, e0, hx0, hx1, hx2⟩ := at_T26 HR0.out (j : Int) (by omega) (by omega)
      cases e0
      replace hx0 := (HB.out.cell (World.block_lt_of_cell? w _ hx0)).trans hx0
      replace hx1 := (HB.out.cell (World.block_lt_of_cell? w _ hx1)).trans hx1
      replace hx2 := (HB.out.cell (World.block_lt_of_cell? w _ hx2)).trans hx2
      simp only [Int.toNat_natCast] at hx0 hx1 hx2
      go_wp2_with fail
      refine (impl_inner.calls _ _ _ _).mono ?_
      rintro e w1 ⟨g, rfl, hg, hbox, hb1⟩
      have HO1 := Aside0.mk (Kd.R_below (Kd.R_alloc HO.out _) hb1)
      have HB1 := Aside0.mk (below_step (below_alloc HB.out _) hb1)
      have HS := Aside0.mk (show w.heap.size ≤ wr.heap.size from below_size HB.out)
      have HL := Aside0.mk (show ∀ k, u3.ownBlock = some k → k < wr.heap.size from fun k hk => by obtain ⟨_, inner, ho, _⟩ := HO.out; exact own_lt ho k hk)
      have HG := Aside0.mk (show wr.heap.size ≤ g by simp at hg; omega)
      have HX := Aside0.mk hbox
      have HT := Aside0.mk (show (l0.take (j + 1)).map toMat = (l0.take j).map toMat ++ [toMat (rd_T26 l0 (j : Int))] by rw [Box.take_more l0 z26 j hlt, List.map_append]; rfl)
      clear HO HB hb1 hbox hg hx0 hx1 hx2
      go_wp2_with ((with_reducible refine gate_builtin (b := .append) (xs := #[.tmp 12, .tmp 15]) rfl ?_); at_builtin; refine Kd.R_append kMat (w0 := w) w.heap.size rfl (.tmp 12) (.tmp 15) 32 35 (.pointer none) 8 rfl Tryd.underlying32 infoPM rfl (by decide) (by omega) u3 ((l0.take j).map toMat) (toMat (rd_T26 l0 (j : Int))) [.pointer (some ⟨g, 0, none⟩)] (fun _ => True) (fun k => k = g) rfl (by first | (go_simp; done) | (go_simp; rfl)) ?aP ?aK ?aF ?aO ?aB ?aS ?aL ?_; (case aP => exact kMat_new (Nat.le_trans HS.out HG.out) HX.out _ rfl); (case aK => (rintro k rfl; exact ⟨trivial, fun e => by have := HL.out _ e.symm; have := HG.out; omega⟩)); (case aF => exact fun _ _ => trivial); (case aO => exact HO1.out); (case aB => exact HB1.out); (case aS => exact below_size HB1.out); (case aL => rw [List.length_map, List.length_take]; omega); intro v2 w2 hO2 hB2 hg2 hat2; rw [← HT.out] at hO2; have HO2 := Aside0.mk hO2; have HB2 := Aside0.mk hB2; clear hO2 hB2 hg2 hat2 HO1 HB1 HX HT)
      go_roundw
      case rel => exact ⟨j + 1, by omega, by go_num, HO2, HB2⟩
      case measure => simp [intOf]; omega
    · have hj2 : j = l0.length := by omega
      subst hj2
      go_wp2
      go_ret
      have h := HO.out
      rw [List.take_of_length_le (Nat.le_refl _)] at h
      exact ⟨_, rfl, h, HB.out⟩


-- NOT PRINTED: function 31 (strings_indexFunc)

-- NOT PRINTED: function 24 (strings_IndexFunc)

-- NOT PRINTED: function 17 (strings_ContainsFunc)

-- NOT PRINTED: function 36 (unicode_is16)

-- NOT PRINTED: function 37 (unicode_is32)

-- NOT PRINTED: function 32 (unicode_isExcludingLatin)

-- NOT PRINTED: function 25 (unicode_IsSpace)

/-! ### labels_zzIndexRune: function 33 -/
def labels_zzIndexRune.j0 : Nat → Bool → Option (Int)
  | 0, _ => none
  | k + 1, x24 => if x24 = true then (some (-1)) else (none)
def labels_zzIndexRune.f (k : Nat) (a0 : ByteArray) (a1 : Int) : Option (Int) := if a1 = 65533 then (labels_zzIndexRune.j0 k false) else (if a1 < 0 then (labels_zzIndexRune.j0 k true) else (if a1 > 1114111 then (labels_zzIndexRune.j0 k true) else (if 55296 ≤ a1 then (labels_zzIndexRune.j0 k (decide (a1 ≤ 57343))) else (labels_zzIndexRune.j0 k false))))
theorem labels_zzIndexRune.mono_l : ∀ k, (∀ y0, LeO (labels_zzIndexRune.j0 k y0) (labels_zzIndexRune.j0 (k + 1) y0))
  | 0 => fun _ r h => by simp [labels_zzIndexRune.j0] at h
  | k + 1 => by
    have ih0 := labels_zzIndexRune.mono_l k
    · intro y0
      unfold labels_zzIndexRune.j0
      repeat' first
      | (with_reducible exact ih0 _)
      | (with_reducible exact LeO.refl _)
      | (with_reducible exact LeO.none _)
      | (with_reducible refine LeO.ite ?_ ?_)
      | (with_reducible refine LeO.bind ?_ (fun _ => ?_))
      | exact ih0 _
      | exact LeO.none _
      | refine LeO.ite ?_ ?_
      | refine LeO.bind ?_ (fun _ => ?_)
theorem labels_zzIndexRune.mono : ∀ a0 a1 k, LeO (labels_zzIndexRune.f k a0 a1) (labels_zzIndexRune.f (k + 1) a0 a1) := by
  intro a0 a1 k
  have ih0 := labels_zzIndexRune.mono_l k
  unfold labels_zzIndexRune.f
  repeat' first
      | (with_reducible exact ih0 _)
      | (with_reducible exact LeO.refl _)
      | (with_reducible exact LeO.none _)
      | (with_reducible refine LeO.ite ?_ ?_)
      | (with_reducible refine LeO.bind ?_ (fun _ => ?_))
      | exact ih0 _
      | exact LeO.none _
      | refine LeO.ite ?_ ?_
      | refine LeO.bind ?_ (fun _ => ?_)
set_option maxHeartbeats 8000000 in
set_option maxRecDepth 100000 in
theorem labels_zzIndexRune.calls (k : Nat) (a0 : ByteArray) (a1 : Int) (r : Int) (w : World) (h : labels_zzIndexRune.f k a0 a1 = some r) :
    Calls Tryd.prog 33 #[.string a0, .int .i32 a1] w fun e w' => e = .returned (.int .i64 r) ∧ Drawn0 w w' := by
  have H : (if a1 = 65533 then (labels_zzIndexRune.j0 k false) else (if a1 < 0 then (labels_zzIndexRune.j0 k true) else (if a1 > 1114111 then (labels_zzIndexRune.j0 k true) else (if 55296 ≤ a1 then (labels_zzIndexRune.j0 k (decide (a1 ≤ 57343))) else (labels_zzIndexRune.j0 k false))))) = some r := h
  clear h
  have HC3 := Aside0.mk H
  clear H
  go_enter Tryd.func33, Tryd.ntmps33
  go_upto_region 1 with (fail)
  go_cut [24] (fun v24 wc => ∃ (kq : Nat) (x24_2 : Bool), v24 = .bool x24_2 ∧ Aside0 (labels_zzIndexRune.j0 kq x24_2 = some r) ∧ Aside0 (kq ≤ k) ∧ Drawn0 w wc)
  case first =>
    have H := HC3.out
    clear HC3
    by_cases c4 : a1 = 65533
    · rw [if_pos c4] at H
      have c4b0 : (a1 == 65533) = true := beq_iff_eq.mpr c4
      have c4b1 : (a1 != 65533) = false := bne_eq_false_iff_eq.mpr c4
      clear c4
      (first | rw [c4b0] | (simp only [i64_w, i32_w]; rw [c4b0]) | skip)
      have H' := Aside0.mk H
      clear H
      go_wp2
      go_meet
      case rel => exact ⟨_, (false), (by first | rfl | (simp; done) | (simp [*]; done)), H', ⟨by first | omega | exact Nat.le_refl _⟩, by repeat (first | exact Drawn0.refl _ | apply Drawn0.step)⟩
    · rw [if_neg c4] at H
      have c4b0 : (a1 == 65533) = false := beq_eq_false_iff_ne.mpr c4
      have c4b1 : (a1 != 65533) = true := bne_iff_ne.mpr c4
      (first | rw [c4b0] | (simp only [i64_w, i32_w]; rw [c4b0]) | skip)
      by_cases c5 : a1 < 0
      · rw [if_pos c5] at H
        have c5b0 : decide (a1 < 0) = true := decide_eq_true c5
        clear c5
        have H' := Aside0.mk H
        clear H
        go_wp2
        go_meet
        case rel => exact ⟨_, (true), (by first | rfl | (simp; done) | (simp [*]; done)), H', ⟨by first | omega | exact Nat.le_refl _⟩, by repeat (first | exact Drawn0.refl _ | apply Drawn0.step)⟩
      · rw [if_neg c5] at H
        have c5b0 : decide (a1 < 0) = false := decide_eq_false c5
        clear c5
        by_cases c6 : a1 > 1114111
        · rw [if_pos c6] at H
          have c6b0 : decide (1114111 < a1) = true := decide_eq_true c6
          clear c6
          have H' := Aside0.mk H
          clear H
          go_wp2
          go_meet
          case rel => exact ⟨_, (true), (by first | rfl | (simp; done) | (simp [*]; done)), H', ⟨by first | omega | exact Nat.le_refl _⟩, by repeat (first | exact Drawn0.refl _ | apply Drawn0.step)⟩
        · rw [if_neg c6] at H
          have c6b0 : decide (1114111 < a1) = false := decide_eq_false c6
          clear c6
          by_cases c7 : 55296 ≤ a1
          · rw [if_pos c7] at H
            have c7b0 : decide (55296 ≤ a1) = true := decide_eq_true c7
            clear c7
            have H' := Aside0.mk H
            clear H
            go_wp2
            go_meet
            case rel => exact ⟨_, (decide (a1 ≤ 57343)), (by first | rfl | (simp; done) | (simp [*]; done)), H', ⟨by first | omega | exact Nat.le_refl _⟩, by repeat (first | exact Drawn0.refl _ | apply Drawn0.step)⟩
          · rw [if_neg c7] at H
            have c7b0 : decide (55296 ≤ a1) = false := decide_eq_false c7
            clear c7
            have H' := Aside0.mk H
            clear H
            go_wp2
            go_meet
            case rel => exact ⟨_, (false), (by first | rfl | (simp; done) | (simp [*]; done)), H', ⟨by first | omega | exact Nat.le_refl _⟩, by repeat (first | exact Drawn0.refl _ | apply Drawn0.step)⟩
  case rest =>
    clear HC3
    try clear p2
    try clear c3
    try clear c4
    try clear c4b0
    try clear c4b1
    try clear c5
    try clear c5b0
    try clear c6
    try clear c6b0
    try clear c7
    try clear c7b0
    obtain ⟨kq, x24_2, rfl, HA, HJ2, ⟨mc2, rfl⟩⟩ := hcut
    cases kq with
    | zero => exact absurd HA.out (by simp [labels_zzIndexRune.j0])
    | succ kj2 =>
      have H := HA.out
      clear HA
      simp only [labels_zzIndexRune.j0] at H
      by_cases c8 : x24_2 = true
      · subst c8
        have H1 : (some (-1)) = some r := by rw [if_pos rfl] at H; exact H
        clear H
        have H := H1
        clear H1
        obtain rfl := Option.some.inj H
        go_wp2
        go_ret
        exact ⟨by first | rfl | (simp; done) | (simp [*]; done), by repeat (first | exact Drawn0.refl _ | apply Drawn0.step)⟩
      · replace c8 := Bool.eq_false_iff.mpr c8
        subst c8
        have H1 : (none) = some r := by rw [if_neg (show ¬ (false = true) by decide)] at H; exact H
        clear H
        have H := H1
        clear H1
        exact absurd H (by simp)

/-! ### labels_zzContainsRune: function 26 -/
def labels_zzContainsRune.f (k : Nat) (a0 : ByteArray) (a1 : Int) : Option (Bool) := (labels_zzIndexRune.f k a0 a1).bind fun t108 => (some (decide (t108 ≥ 0)))
theorem labels_zzContainsRune.mono : ∀ a0 a1 k, LeO (labels_zzContainsRune.f k a0 a1) (labels_zzContainsRune.f (k + 1) a0 a1) := by
  intro a0 a1 k
  unfold labels_zzContainsRune.f
  repeat' first
      | (with_reducible exact labels_zzIndexRune.mono _ _ _)
      | (with_reducible exact LeO.refl _)
      | (with_reducible exact LeO.none _)
      | (with_reducible refine LeO.ite ?_ ?_)
      | (with_reducible refine LeO.bind ?_ (fun _ => ?_))
      | exact labels_zzIndexRune.mono _ _ _
      | exact LeO.none _
      | refine LeO.ite ?_ ?_
      | refine LeO.bind ?_ (fun _ => ?_)
set_option maxHeartbeats 8000000 in
set_option maxRecDepth 100000 in
theorem labels_zzContainsRune.calls (k : Nat) (a0 : ByteArray) (a1 : Int) (r : Bool) (w : World) (h : labels_zzContainsRune.f k a0 a1 = some r) :
    Calls Tryd.prog 26 #[.string a0, .int .i32 a1] w fun e w' => e = .returned (.bool r) ∧ Drawn0 w w' := by
  have H : ((labels_zzIndexRune.f k a0 a1).bind fun t108 => (some (decide (t108 ≥ 0)))) = some r := h
  clear h
  replace H := Option.bind_eq_some_iff.mp H
  obtain ⟨t108, A30, H⟩ := H
  replace H : (some (decide (t108 ≥ 0))) = some r := H
  have A3 := Aside0.mk A30
  clear A30
  obtain rfl := Option.some.inj H
  go_enter Tryd.func26, Tryd.ntmps26
  go_wp2_with (first | ((with_reducible refine gate_callee (f := 33) rfl ?_); refine goesL_ (some 7) rfl rfl Tryd.func33 (by kernel_rfl) rfl #[.string a0, .int .i32 a1] rfl (by (try simp only [List.map_toArray, List.map_cons, List.map_nil]); first | done | rfl | (simp only [List.length_drop, List.length_take]; rfl)) ?_; (with_reducible refine (labels_zzIndexRune.calls k a0 a1 t108 _ A3.out).mono ?_); rintro e w' ⟨rfl, ⟨nd, rfl⟩⟩; refine ⟨_, rfl, ?_⟩))
  go_ret
  exact ⟨by first | rfl | (simp; done) | (simp [*]; done), by repeat (first | exact Drawn0.refl _ | apply Drawn0.step)⟩

-- NOT PRINTED: function 18 (labels_isReserved)

-- NOT PRINTED: function 40 (utf8_decodeRuneInStringSlow)

-- NOT PRINTED: function 38 (utf8_DecodeRuneInString)

/-! ### strconv_bsearch_uint16_uint16: function 45 -/
def strconv_bsearch_uint16_uint16.l0 : Nat → List Int → Int → Int → Int → Int → Option (Int × Bool)
  | 0, _, _, _, _, _ => none
  | k + 1, x0, x1, x6, x7, x8 => if x7 < x8 then (if 0 ≤ (wrap64 (x7 + ((wrap64 (x8 - x7)) / 2))) then (if (wrap64 (x7 + ((wrap64 (x8 - x7)) / 2))) < (x0.length : Int) then (if (rd x0 (wrap64 (x7 + ((wrap64 (x8 - x7)) / 2)))) < x1 then (strconv_bsearch_uint16_uint16.l0 k x0 x1 x6 (wrap64 ((wrap64 (x7 + ((wrap64 (x8 - x7)) / 2))) + 1)) x8) else (strconv_bsearch_uint16_uint16.l0 k x0 x1 x6 x7 (wrap64 (x7 + ((wrap64 (x8 - x7)) / 2))))) else (none)) else (none)) else (if x7 < x6 then (if 0 ≤ x7 then (if x7 < (x0.length : Int) then (some (x7, ((rd x0 x7) == x1))) else (none)) else (none)) else (some (x7, false)))
def strconv_bsearch_uint16_uint16.f (k : Nat) (l0 : List Int) (a1 : Int) : Option (Int × Bool) := strconv_bsearch_uint16_uint16.l0 k l0 a1 (l0.length : Int) 0 (l0.length : Int)
theorem strconv_bsearch_uint16_uint16.mono_l : ∀ k, (∀ y0 y1 y2 y3 y4, LeO (strconv_bsearch_uint16_uint16.l0 k y0 y1 y2 y3 y4) (strconv_bsearch_uint16_uint16.l0 (k + 1) y0 y1 y2 y3 y4))
  | 0 => fun _ _ _ _ _ r h => by simp [strconv_bsearch_uint16_uint16.l0] at h
  | k + 1 => by
    have ih0 := strconv_bsearch_uint16_uint16.mono_l k
    · intro y0 y1 y2 y3 y4
      unfold strconv_bsearch_uint16_uint16.l0
      repeat' first
      | (with_reducible exact ih0 _ _ _ _ _)
      | (with_reducible exact LeO.refl _)
      | (with_reducible exact LeO.none _)
      | (with_reducible refine LeO.ite ?_ ?_)
      | (with_reducible refine LeO.bind ?_ (fun _ => ?_))
      | exact ih0 _ _ _ _ _
      | exact LeO.none _
      | refine LeO.ite ?_ ?_
      | refine LeO.bind ?_ (fun _ => ?_)
theorem strconv_bsearch_uint16_uint16.mono : ∀ a0 a1 k, LeO (strconv_bsearch_uint16_uint16.f k a0 a1) (strconv_bsearch_uint16_uint16.f (k + 1) a0 a1) := by
  intro a0 a1 k
  have ih0 := strconv_bsearch_uint16_uint16.mono_l k
  unfold strconv_bsearch_uint16_uint16.f
  repeat' first
      | (with_reducible exact ih0 _ _ _ _ _)
      | (with_reducible exact LeO.refl _)
      | (with_reducible exact LeO.none _)
      | (with_reducible refine LeO.ite ?_ ?_)
      | (with_reducible refine LeO.bind ?_ (fun _ => ?_))
      | exact ih0 _ _ _ _ _
      | exact LeO.none _
      | refine LeO.ite ?_ ?_
      | refine LeO.bind ?_ (fun _ => ?_)
set_option maxHeartbeats 8000000 in
set_option maxRecDepth 100000 in
theorem strconv_bsearch_uint16_uint16.calls (k : Nat) (A0 : Option Addr) (c0 : Nat) (l0 : List Int) (a1 : Int) (r1 : Int) (r2 : Bool) (w : World) (hr0 : Kd.C (Kd.int .u16) w A0 l0.length l0) (hc0 : l0.length ≤ c0) (h : strconv_bsearch_uint16_uint16.f k l0 a1 = some (r1, r2)) :
    Calls Tryd.prog 45 #[.slice A0 l0.length c0, .int .u16 a1] w fun e w' => e = .returned (.tuple #[.int .i64 r1, .bool r2]) ∧ Drawn0 w w' := by
  have HR0 := Aside0.mk hr0
  have HC0 := Aside0.mk hc0
  clear hr0 hc0
  have H : (strconv_bsearch_uint16_uint16.l0 k l0 a1 (l0.length : Int) 0 (l0.length : Int)) = some (r1, r2) := h
  clear h
  have H' := Aside0.mk H
  clear H
  go_enter Tryd.func45, Tryd.ntmps45
  go_wp2
  repeat (go_quiet (fail); try go_wp2)
  go_loopg [7, 8] k (fun kq v7 v8 w' => ∃ (x7_1 : Int) (x8_1 : Int), v7 = .int .i64 x7_1 ∧ v8 = .int .i64 x8_1 ∧ Aside0 (strconv_bsearch_uint16_uint16.l0 kq l0 a1 (l0.length : Int) x7_1 x8_1 = some (r1, r2)) ∧ Aside0 (kq ≤ k) ∧ Drawn0 w w')
  case atStart => exact ⟨(0), ((l0.length : Int)), (by first | rfl | (simp; done) | (simp [*]; done)), (by first | rfl | (simp; done) | (simp [*]; done)), H', ⟨Nat.le_refl _⟩, by repeat (first | exact Drawn0.refl _ | apply Drawn0.step)⟩
  case round =>
    clear H'
    try clear p2
    obtain ⟨x7_1, x8_1, rfl, rfl, HA, HK1, ⟨m1, rfl⟩⟩ := hrel
    cases gk with
    | zero => exact absurd HA.out (by simp [strconv_bsearch_uint16_uint16.l0])
    | succ k1 =>
      have H := HA.out
      clear HA
      simp only [strconv_bsearch_uint16_uint16.l0] at H
      by_cases c3 : x7_1 < x8_1
      · rw [if_pos c3] at H
        have c3b0 : decide (x7_1 < x8_1) = true := decide_eq_true c3
        clear c3
        obtain ⟨ji4, hji4⟩ : ∃ j_ : Int, (wrap64 (x7_1 + ((wrap64 (x8_1 - x7_1)) / 2))) = j_ := ⟨_, rfl⟩
        replace H : (if 0 ≤ (ji4) then (if (ji4) < (l0.length : Int) then (if (rd l0 (ji4)) < a1 then (strconv_bsearch_uint16_uint16.l0 k1 l0 a1 (l0.length : Int) (wrap64 ((ji4) + 1)) x8_1) else (strconv_bsearch_uint16_uint16.l0 k1 l0 a1 (l0.length : Int) x7_1 ji4)) else (none)) else (none)) = some (r1, r2) := by first | (rw [hji4] at H; exact H) | (simp only [hji4] at H ⊢; exact H)
        have hji4w : (IntKind.i64.wrap (x7_1 + ((wrap64 (x8_1 - x7_1)) / 2))) = ji4 := (i64_w _).trans hji4
        by_cases c5 : 0 ≤ (ji4)
        · rw [if_pos c5] at H
          have c5b0 : decide (0 ≤ (ji4)) = true := decide_eq_true c5
          clear c5
          by_cases c6 : (ji4) < (l0.length : Int)
          · rw [if_pos c6] at H
            have c6b0 : decide ((ji4) < (l0.length : Int)) = true := decide_eq_true c6
            clear c6
            by_cases c7 : (rd l0 (ji4)) < a1
            · rw [if_pos c7] at H
              have c7b0 : decide ((rd l0 (ji4)) < a1) = true := decide_eq_true c7
              clear c7
              have H' := Aside0.mk H
              clear H
              have p109 : 0 ≤ ((ji4) : Int) := of_decide_eq_true (by first | (with_reducible assumption) | assumption)
              have q109 : (ji4) < (l0.length : Int) := of_decide_eq_true (by first | (with_reducible assumption) | assumption)
              obtain ⟨ad109, e109, hx109_0⟩ := Kd.at_int HR0.out (ji4) p109 q109
              cases e109
              replace p109 := eq_true p109
              replace q109 := eq_true q109
              go_wp2
              repeat (go_quiet (fail); try go_wp2)
              go_roundg k1
              case measure => have := HK1.out; omega
              case rel => exact ⟨(wrap64 ((ji4) + 1)), (x8_1), (by first | rfl | (simp; done) | (simp only [← hji4] <;> (first | rfl | simp)) | (simp [*]; done)), (by first | rfl | (simp; done) | (simp [*]; done)), H', ⟨by have := HK1.out; omega⟩, by repeat (first | exact Drawn0.refl _ | apply Drawn0.step)⟩
            · rw [if_neg c7] at H
              have c7b0 : decide ((rd l0 (ji4)) < a1) = false := decide_eq_false c7
              clear c7
              have H' := Aside0.mk H
              clear H
              have p109 : 0 ≤ ((ji4) : Int) := of_decide_eq_true (by first | (with_reducible assumption) | assumption)
              have q109 : (ji4) < (l0.length : Int) := of_decide_eq_true (by first | (with_reducible assumption) | assumption)
              obtain ⟨ad109, e109, hx109_0⟩ := Kd.at_int HR0.out (ji4) p109 q109
              cases e109
              replace p109 := eq_true p109
              replace q109 := eq_true q109
              go_wp2
              repeat (go_quiet (fail); try go_wp2)
              go_roundg k1
              case measure => have := HK1.out; omega
              case rel => exact ⟨(x7_1), (ji4), (by first | rfl | (simp; done) | (simp [*]; done)), (by first | rfl | (simp; done) | (simp only [← hji4] <;> (first | rfl | simp)) | (simp [*]; done)), H', ⟨by have := HK1.out; omega⟩, by repeat (first | exact Drawn0.refl _ | apply Drawn0.step)⟩
          · rw [if_neg c6] at H
            exact absurd H (by simp)
        · rw [if_neg c5] at H
          exact absurd H (by simp)
      · rw [if_neg c3] at H
        have c3b0 : decide (x7_1 < x8_1) = false := decide_eq_false c3
        clear c3
        by_cases c8 : x7_1 < (l0.length : Int)
        · rw [if_pos c8] at H
          have c8b0 : decide (x7_1 < (l0.length : Int)) = true := decide_eq_true c8
          clear c8
          by_cases c9 : 0 ≤ x7_1
          · rw [if_pos c9] at H
            have c9b0 : decide (0 ≤ x7_1) = true := decide_eq_true c9
            clear c9
            by_cases c10 : x7_1 < (l0.length : Int)
            · rw [if_pos c10] at H
              have c10b0 : decide (x7_1 < (l0.length : Int)) = true := decide_eq_true c10
              clear c10
              simp only [Option.some.injEq, Prod.mk.injEq] at H
              obtain ⟨rfl, rfl⟩ := H
              have p110 : 0 ≤ (x7_1 : Int) := of_decide_eq_true (by first | (with_reducible assumption) | assumption)
              have q110 : x7_1 < (l0.length : Int) := of_decide_eq_true (by first | (with_reducible assumption) | assumption)
              obtain ⟨ad110, e110, hx110_0⟩ := Kd.at_int HR0.out x7_1 p110 q110
              cases e110
              replace p110 := eq_true p110
              replace q110 := eq_true q110
              go_wp2
              repeat (go_quiet (fail); try go_wp2)
              go_ret2
              exact ⟨by first | rfl | (simp; done) | (simp [*]; done), by repeat (first | exact Drawn0.refl _ | apply Drawn0.step)⟩
            · rw [if_neg c10] at H
              exact absurd H (by simp)
          · rw [if_neg c9] at H
            exact absurd H (by simp)
        · rw [if_neg c8] at H
          have c8b0 : decide (x7_1 < (l0.length : Int)) = false := decide_eq_false c8
          clear c8
          simp only [Option.some.injEq, Prod.mk.injEq] at H
          obtain ⟨rfl, rfl⟩ := H
          go_wp2
          repeat (go_quiet (fail); try go_wp2)
          go_ret2
          exact ⟨by first | rfl | (simp; done) | (simp [*]; done), by repeat (first | exact Drawn0.refl _ | apply Drawn0.step)⟩

end Go.Proofs.YtenededepjfojabDoor.Q
