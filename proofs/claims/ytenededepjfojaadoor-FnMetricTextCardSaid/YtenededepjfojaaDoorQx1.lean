-- printed by this project's own program wip/tools/mkprint.py (the kit's print.py with hand-proved contracts put in)
import Derived.Test.YtenededepjfojaaDoorQx0
namespace Go.Proofs.YtenededepjfojaaDoor.Q
open Go.RowKit Go.Proofs.YtenededepjfojaaDoorW.PrintWords Go.Proofs.YtenededepjfojaaDoorW.PrintLast Go.Proofs.YtenededepjfojaaDoorW.PrintMore
attribute [local go_sem] max2_int min2_int max_two min_two max_three min_three max_four min_four   -- for this text's walks alone
set_option linter.unusedVariables false
set_option linter.unusedSimpArgs false

/-! ### laws_zzFits2: function 16 -/
def laws_zzFits2.f (a0_0 : ByteArray) (a0_1 : ByteArray) : Option (Bool) := if (a0_0.size : Int) > 2147483647 then (some false) else (if (a0_1.size : Int) > 2147483647 then (some false) else (some true))
set_option maxHeartbeats 8000000 in
set_option maxRecDepth 100000 in
theorem laws_zzFits2.calls (a0_0 : ByteArray) (a0_1 : ByteArray) (r : Bool) (w : World) (h : laws_zzFits2.f a0_0 a0_1 = some r) :
    Calls Tryd.prog 16 #[.agg #[.string a0_0, .string a0_1]] w fun e w' => e = .returned (.bool r) ∧ Below w.heap.size w w' := by
  have hu26 := Tryd.underlying26
  have HB := Aside0.mk (Below.refl w.heap.size w)
  have H : (if (a0_0.size : Int) > 2147483647 then (some false) else (if (a0_1.size : Int) > 2147483647 then (some false) else (some true))) = some r := h
  clear h
  by_cases c2 : (a0_0.size : Int) > 2147483647
  · rw [if_pos c2] at H
    have c2b0 : decide (2147483647 < (a0_0.size : Int)) = true := decide_eq_true c2
    have c2b1 : decide (2147483647 < a0_0.size) = true := decide_eq_true (by omega)
    clear c2
    obtain rfl := Option.some.inj H
    go_enter Tryd.func16, Tryd.ntmps16
    go_wp2_with (first | ((with_reducible refine gate_dst (N := 1) rfl ?_); refine box_event ?hg (N := 1) ?hd (cs := #[.string a0_0, .string a0_1]) (t := 26) ?hr ?_; (case hd => rfl); (case hg => rfl); (case hr => first | (go_simp; done) | (go_simp; rfl)); intro gb101 hg w3 hbox hb; have n0_ := Aside0.mk (below_step (by repeat (first | (with_reducible first | exact HB.out | apply below_alloc | apply pw_below_drewN | apply below_drew1) | exact HB.out)) hb); have n1_ := Aside0.mk (hbox); have n2_ := Aside0.mk ((by rw [hg]; exact (below_size (by repeat (first | (with_reducible first | exact HB.out | apply below_alloc | apply pw_below_drewN | apply below_drew1) | exact HB.out))) : w.heap.size ≤ gb101)); have n3_ := Aside0.mk ((by rw [hg]; exact (below_size (by repeat (first | (with_reducible first | exact HB.out | apply below_alloc | apply pw_below_drewN | apply below_drew1) | exact HB.out))) : w.heap.size ≤ gb101)); clear HB; have HB := n0_; have BK101 := n1_; have GW101 := n2_; have GE101 := n3_; clear n0_ n1_ n2_ n3_; clear hb hbox hg; have hcz4_0 : w3.cell? ⟨gb101, 0, none⟩ = some (.string a0_0) := (blk_cell BK101.out 0).trans rfl; have hcz4_1 : w3.cell? ⟨gb101, 1, none⟩ = some (.string a0_1) := (blk_cell BK101.out 1).trans rfl; have hfz4_0 := blk_frozen BK101.out 0; have hfz4_1 := blk_frozen BK101.out 1))
    go_ret
    exact ⟨by first | rfl | (simp [errW_none, errW_some] <;> rfl) | (simp [*, errW_none, errW_some] <;> rfl), by repeat (first | (with_reducible first | exact HB.out | apply below_alloc | apply pw_below_drewN | apply below_drew1 | refine below_set ?_ GE101.out) | exact HB.out)⟩
  · rw [if_neg c2] at H
    have c2b0 : decide (2147483647 < (a0_0.size : Int)) = false := decide_eq_false c2
    have c2b1 : decide (2147483647 < a0_0.size) = false := decide_eq_false (by omega)
    clear c2
    by_cases c5 : (a0_1.size : Int) > 2147483647
    · rw [if_pos c5] at H
      have c5b0 : decide (2147483647 < (a0_1.size : Int)) = true := decide_eq_true c5
      have c5b1 : decide (2147483647 < a0_1.size) = true := decide_eq_true (by omega)
      clear c5
      obtain rfl := Option.some.inj H
      go_enter Tryd.func16, Tryd.ntmps16
      go_wp2_with (first | ((with_reducible refine gate_dst (N := 1) rfl ?_); refine box_event ?hg (N := 1) ?hd (cs := #[.string a0_0, .string a0_1]) (t := 26) ?hr ?_; (case hd => rfl); (case hg => rfl); (case hr => first | (go_simp; done) | (go_simp; rfl)); intro gb101 hg w6 hbox hb; have n0_ := Aside0.mk (below_step (by repeat (first | (with_reducible first | exact HB.out | apply below_alloc | apply pw_below_drewN | apply below_drew1) | exact HB.out)) hb); have n1_ := Aside0.mk (hbox); have n2_ := Aside0.mk ((by rw [hg]; exact (below_size (by repeat (first | (with_reducible first | exact HB.out | apply below_alloc | apply pw_below_drewN | apply below_drew1) | exact HB.out))) : w.heap.size ≤ gb101)); have n3_ := Aside0.mk ((by rw [hg]; exact (below_size (by repeat (first | (with_reducible first | exact HB.out | apply below_alloc | apply pw_below_drewN | apply below_drew1) | exact HB.out))) : w.heap.size ≤ gb101)); clear HB; have HB := n0_; have BK101 := n1_; have GW101 := n2_; have GE101 := n3_; clear n0_ n1_ n2_ n3_; clear hb hbox hg; have hcz7_0 : w6.cell? ⟨gb101, 0, none⟩ = some (.string a0_0) := (blk_cell BK101.out 0).trans rfl; have hcz7_1 : w6.cell? ⟨gb101, 1, none⟩ = some (.string a0_1) := (blk_cell BK101.out 1).trans rfl; have hfz7_0 := blk_frozen BK101.out 0; have hfz7_1 := blk_frozen BK101.out 1))
      go_ret
      exact ⟨by first | rfl | (simp [errW_none, errW_some] <;> rfl) | (simp [*, errW_none, errW_some] <;> rfl), by repeat (first | (with_reducible first | exact HB.out | apply below_alloc | apply pw_below_drewN | apply below_drew1 | refine below_set ?_ GE101.out) | exact HB.out)⟩
    · rw [if_neg c5] at H
      have c5b0 : decide (2147483647 < (a0_1.size : Int)) = false := decide_eq_false c5
      have c5b1 : decide (2147483647 < a0_1.size) = false := decide_eq_false (by omega)
      clear c5
      obtain rfl := Option.some.inj H
      go_enter Tryd.func16, Tryd.ntmps16
      go_wp2_with (first | ((with_reducible refine gate_dst (N := 1) rfl ?_); refine box_event ?hg (N := 1) ?hd (cs := #[.string a0_0, .string a0_1]) (t := 26) ?hr ?_; (case hd => rfl); (case hg => rfl); (case hr => first | (go_simp; done) | (go_simp; rfl)); intro gb101 hg w8 hbox hb; have n0_ := Aside0.mk (below_step (by repeat (first | (with_reducible first | exact HB.out | apply below_alloc | apply pw_below_drewN | apply below_drew1) | exact HB.out)) hb); have n1_ := Aside0.mk (hbox); have n2_ := Aside0.mk ((by rw [hg]; exact (below_size (by repeat (first | (with_reducible first | exact HB.out | apply below_alloc | apply pw_below_drewN | apply below_drew1) | exact HB.out))) : w.heap.size ≤ gb101)); have n3_ := Aside0.mk ((by rw [hg]; exact (below_size (by repeat (first | (with_reducible first | exact HB.out | apply below_alloc | apply pw_below_drewN | apply below_drew1) | exact HB.out))) : w.heap.size ≤ gb101)); clear HB; have HB := n0_; have BK101 := n1_; have GW101 := n2_; have GE101 := n3_; clear n0_ n1_ n2_ n3_; clear hb hbox hg; have hcz9_0 : w8.cell? ⟨gb101, 0, none⟩ = some (.string a0_0) := (blk_cell BK101.out 0).trans rfl; have hcz9_1 : w8.cell? ⟨gb101, 1, none⟩ = some (.string a0_1) := (blk_cell BK101.out 1).trans rfl; have hfz9_0 := blk_frozen BK101.out 0; have hfz9_1 := blk_frozen BK101.out 1))
      go_ret
      exact ⟨by first | rfl | (simp [errW_none, errW_some] <;> rfl) | (simp [*, errW_none, errW_some] <;> rfl), by repeat (first | (with_reducible first | exact HB.out | apply below_alloc | apply pw_below_drewN | apply below_drew1 | refine below_set ?_ GE101.out) | exact HB.out)⟩

/-! ### laws_zzFits1: function 6 -/
def laws_zzFits1.l0 : Nat → List (S26) → Int → Int → Option (Bool)
  | 0, _, _, _ => none
  | k + 1, x8, x9, x10 => if x10 < x9 then (if 0 ≤ x10 then (if x10 < (x8.length : Int) then ((laws_zzFits2.f ((rd_T26 x8 x10).f0) ((rd_T26 x8 x10).f1)).bind fun t104 => (if t104 = true then (laws_zzFits1.l0 k x8 x9 (wrap64 (x10 + 1))) else (some false))) else (none)) else (none)) else (some true)
def laws_zzFits1.f (k : Nat) (l0 : List (S26)) : Option (Bool) := if (l0.length : Int) > 2147483647 then (some false) else (laws_zzFits1.l0 k l0 (l0.length : Int) 0)
theorem laws_zzFits1.mono_l : ∀ k, (∀ y0 y1 y2, LeO (laws_zzFits1.l0 k y0 y1 y2) (laws_zzFits1.l0 (k + 1) y0 y1 y2))
  | 0 => fun _ _ _ r h => by simp [laws_zzFits1.l0] at h
  | k + 1 => by
    have ih0 := laws_zzFits1.mono_l k
    · intro y0 y1 y2
      unfold laws_zzFits1.l0
      repeat' first
      | (with_reducible exact ih0 _ _ _)
      | (with_reducible exact LeO.refl _)
      | (with_reducible exact LeO.none _)
      | (with_reducible refine LeO.ite ?_ ?_)
      | (with_reducible refine LeO.bind ?_ (fun _ => ?_))
      | exact ih0 _ _ _
      | exact LeO.none _
      | refine LeO.ite ?_ ?_
      | refine LeO.bind ?_ (fun _ => ?_)
theorem laws_zzFits1.mono : ∀ a0 k, LeO (laws_zzFits1.f k a0) (laws_zzFits1.f (k + 1) a0) := by
  intro a0 k
  have ih0 := laws_zzFits1.mono_l k
  unfold laws_zzFits1.f
  repeat' first
      | (with_reducible exact ih0 _ _ _)
      | (with_reducible exact LeO.refl _)
      | (with_reducible exact LeO.none _)
      | (with_reducible refine LeO.ite ?_ ?_)
      | (with_reducible refine LeO.bind ?_ (fun _ => ?_))
      | exact ih0 _ _ _
      | exact LeO.none _
      | refine LeO.ite ?_ ?_
      | refine LeO.bind ?_ (fun _ => ?_)
set_option maxHeartbeats 8000000 in
set_option maxRecDepth 100000 in
theorem laws_zzFits1.calls (k : Nat) (A0 : Option Addr) (c0 : Nat) (l0 : List (S26)) (r : Bool) (w : World) (hr0 : Kd.C k26 w A0 l0.length l0) (hc0 : l0.length ≤ c0) (h : laws_zzFits1.f k l0 = some r) :
    Calls Tryd.prog 6 #[.slice A0 l0.length c0] w fun e w' => e = .returned (.bool r) ∧ Below w.heap.size w w' := by
  have hu26 := Tryd.underlying26
  have HR0 := Aside0.mk hr0
  have HC0 := Aside0.mk hc0
  clear hr0 hc0
  have HB := Aside0.mk (Below.refl w.heap.size w)
  have H : (if (l0.length : Int) > 2147483647 then (some false) else (laws_zzFits1.l0 k l0 (l0.length : Int) 0)) = some r := h
  clear h
  by_cases c2 : (l0.length : Int) > 2147483647
  · rw [if_pos c2] at H
    have c2b0 : decide (2147483647 < (l0.length : Int)) = true := decide_eq_true c2
    have c2b1 : decide (2147483647 < l0.length) = true := decide_eq_true (by omega)
    clear c2
    obtain rfl := Option.some.inj H
    go_enter Tryd.func6, Tryd.ntmps6
    go_wp2
    go_ret
    exact ⟨by first | rfl | (simp [errW_none, errW_some] <;> rfl) | (simp [*, errW_none, errW_some] <;> rfl), by repeat (first | (with_reducible first | exact HB.out | apply below_alloc | apply pw_below_drewN | apply below_drew1) | exact HB.out)⟩
  · rw [if_neg c2] at H
    have c2b0 : decide (2147483647 < (l0.length : Int)) = false := decide_eq_false c2
    have c2b1 : decide (2147483647 < l0.length) = false := decide_eq_false (by omega)
    clear c2
    have H' := Aside0.mk H
    clear H
    go_enter Tryd.func6, Tryd.ntmps6
    go_wp2
    go_loopg [10] k (fun kq v10 w' => ∃ (x10_1 : Int), v10 = .int .i64 x10_1 ∧ Aside0 (laws_zzFits1.l0 kq l0 (l0.length : Int) x10_1 = some r) ∧ Aside0 (kq ≤ k) ∧ Aside0 (Below w.heap.size w w'))
    case atStart => exact ⟨(0), (by first | rfl | (simp; done) | (simp [*]; done)), H', ⟨Nat.le_refl _⟩, ⟨by repeat (first | (with_reducible first | exact HB.out | apply below_alloc | apply pw_below_drewN | apply below_drew1) | exact HB.out)⟩⟩
    case round =>
      clear H'
      try clear c2
      try clear c2b0
      try clear c2b1
      try clear p2
      obtain ⟨x10_1, rfl, HA, HK1, HB⟩ := hrel
      cases gk with
      | zero => exact absurd HA.out (by simp [laws_zzFits1.l0])
      | succ k1 =>
        have H := HA.out
        clear HA
        simp only [laws_zzFits1.l0] at H
        by_cases c3 : x10_1 < (l0.length : Int)
        · rw [if_pos c3] at H
          have c3b0 : decide (x10_1 < (l0.length : Int)) = true := decide_eq_true c3
          clear c3
          by_cases c4 : 0 ≤ x10_1
          · rw [if_pos c4] at H
            have c4b0 : decide (0 ≤ x10_1) = true := decide_eq_true c4
            clear c4
            by_cases c5 : x10_1 < (l0.length : Int)
            · rw [if_pos c5] at H
              have c5b0 : decide (x10_1 < (l0.length : Int)) = true := decide_eq_true c5
              clear c5
              replace H := Option.bind_eq_some_iff.mp H
              obtain ⟨t104, A60, H⟩ := H
              replace H : (if t104 = true then (laws_zzFits1.l0 k1 l0 (l0.length : Int) (wrap64 (x10_1 + 1))) else (some false)) = some r := H
              have A6 := Aside0.mk A60
              clear A60
              by_cases c7 : t104 = true
              · subst c7
                have H1 : (laws_zzFits1.l0 k1 l0 (l0.length : Int) (wrap64 (x10_1 + 1))) = some r := by rw [if_pos rfl] at H; exact H
                clear H
                have H := H1
                clear H1
                have H' := Aside0.mk H
                clear H
                have p102 : 0 ≤ (x10_1 : Int) := of_decide_eq_true (by first | (with_reducible assumption) | assumption)
                have q102 : x10_1 < (l0.length : Int) := of_decide_eq_true (by first | (with_reducible assumption) | assumption)
                obtain ⟨ad102, e102, hx102_0, hx102_1⟩ := at_T26 HR0.out x10_1 p102 q102
                cases e102
                replace hx102_0 := (HB.out.cell (World.block_lt_of_cell? w _ hx102_0)).trans hx102_0
                replace hx102_1 := (HB.out.cell (World.block_lt_of_cell? w _ hx102_1)).trans hx102_1
                replace p102 := eq_true p102
                replace q102 := eq_true q102
                go_wp2_with (first | ((with_reducible refine gate_dst (N := 4) rfl ?_); refine box_event ?hg (N := 4) ?hd (cs := #[.string (⟨#[]⟩ : ByteArray), .string (⟨#[]⟩ : ByteArray)]) (t := 26) ?hr ?_; (case hd => rfl); (case hg => rfl); (case hr => first | (go_simp; done) | (go_simp; rfl)); intro gb103 hg w8 hbox hb; have n0_ := Aside0.mk (below_step (by repeat (first | (with_reducible first | exact HB.out | apply below_alloc | apply pw_below_drewN | apply below_drew1) | exact HB.out)) hb); have n1_ := Aside0.mk (hbox); have n2_ := Aside0.mk ((by rw [hg]; exact (below_size (by repeat (first | (with_reducible first | exact HB.out | apply below_alloc | apply pw_below_drewN | apply below_drew1) | exact HB.out))) : w.heap.size ≤ gb103)); have n3_ := Aside0.mk ((by rw [hg]; exact (below_size (by repeat (first | (with_reducible first | exact HB.out | apply below_alloc | apply pw_below_drewN | apply below_drew1) | exact HB.out))) : w.heap.size ≤ gb103)); clear HB; have HB := n0_; have BK103 := n1_; have GW103 := n2_; have GE103 := n3_; clear n0_ n1_ n2_ n3_; clear hb hbox hg; have hcz9_0 : w8.cell? ⟨gb103, 0, none⟩ = some (.string (⟨#[]⟩ : ByteArray)) := (blk_cell BK103.out 0).trans rfl; have hcz9_1 : w8.cell? ⟨gb103, 1, none⟩ = some (.string (⟨#[]⟩ : ByteArray)) := (blk_cell BK103.out 1).trans rfl; have hfz9_0 := blk_frozen BK103.out 0; have hfz9_1 := blk_frozen BK103.out 1) | ((with_reducible refine gate_callee (f := 16) rfl ?_); refine goesL_ (some 15) rfl rfl Tryd.func16 (by kernel_rfl) rfl #[.agg #[.string ((rd_T26 l0 x10_1).f0), .string ((rd_T26 l0 x10_1).f1)]] rfl (by (try simp only [List.map_toArray, List.map_cons, List.map_nil]); first | done | rfl | (simp only [List.length_drop, List.length_take]; rfl)) ?_; (with_reducible refine (laws_zzFits2.calls ((rd_T26 l0 x10_1).f0) ((rd_T26 l0 x10_1).f1) true _ A6.out).mono ?_); rintro e w10 ⟨rfl, hb⟩; refine ⟨_, rfl, ?_⟩; have n0_ := Aside0.mk (blk_below (g := gb103) (o := .cells #[.string ((rd_T26 l0 x10_1).f0), .string ((rd_T26 l0 x10_1).f1)] 26 (0, 0)) (by (with_reducible repeat (first | refine blk_drewN ?_ _ | refine blk_drew ?_ | refine blk_alloc ?_ _)); refine blk_put (cs := #[.string ((rd_T26 l0 x10_1).f0), .string (⟨#[]⟩ : ByteArray)]) ?_ 1 _ rfl; (with_reducible repeat (first | refine blk_drewN ?_ _ | refine blk_drew ?_ | refine blk_alloc ?_ _)); refine blk_put (cs := #[.string (⟨#[]⟩ : ByteArray), .string (⟨#[]⟩ : ByteArray)]) ?_ 0 _ rfl; (with_reducible repeat (first | refine blk_drewN ?_ _ | refine blk_drew ?_ | refine blk_alloc ?_ _)); exact BK103.out) hb); have n1_ := Aside0.mk (below_step (by repeat (first | (with_reducible first | exact HB.out | apply below_alloc | apply pw_below_drewN | apply below_drew1 | refine below_set ?_ GE103.out) | exact HB.out)) hb); clear BK103; clear HB; have BK103 := n0_; have HB := n1_; clear n0_ n1_; (try clear hb); (try clear hb2); (try clear hk); (try clear hi)))
                go_roundg k1
                case measure => have := HK1.out; omega
                case rel => exact ⟨(wrap64 (x10_1 + 1)), (by first | rfl | (simp; done) | (simp [*]; done)), H', ⟨by have := HK1.out; omega⟩, ⟨by repeat (first | (with_reducible first | exact HB.out | apply below_alloc | apply pw_below_drewN | apply below_drew1 | refine below_set ?_ GE103.out) | exact HB.out)⟩⟩
              · replace c7 := Bool.eq_false_iff.mpr c7
                subst c7
                have H1 : (some false) = some r := by rw [if_neg (show ¬ (false = true) by decide)] at H; exact H
                clear H
                have H := H1
                clear H1
                obtain rfl := Option.some.inj H
                have p102 : 0 ≤ (x10_1 : Int) := of_decide_eq_true (by first | (with_reducible assumption) | assumption)
                have q102 : x10_1 < (l0.length : Int) := of_decide_eq_true (by first | (with_reducible assumption) | assumption)
                obtain ⟨ad102, e102, hx102_0, hx102_1⟩ := at_T26 HR0.out x10_1 p102 q102
                cases e102
                replace hx102_0 := (HB.out.cell (World.block_lt_of_cell? w _ hx102_0)).trans hx102_0
                replace hx102_1 := (HB.out.cell (World.block_lt_of_cell? w _ hx102_1)).trans hx102_1
                replace p102 := eq_true p102
                replace q102 := eq_true q102
                go_wp2_with (first | ((with_reducible refine gate_dst (N := 4) rfl ?_); refine box_event ?hg (N := 4) ?hd (cs := #[.string (⟨#[]⟩ : ByteArray), .string (⟨#[]⟩ : ByteArray)]) (t := 26) ?hr ?_; (case hd => rfl); (case hg => rfl); (case hr => first | (go_simp; done) | (go_simp; rfl)); intro gb103 hg w11 hbox hb; have n0_ := Aside0.mk (below_step (by repeat (first | (with_reducible first | exact HB.out | apply below_alloc | apply pw_below_drewN | apply below_drew1) | exact HB.out)) hb); have n1_ := Aside0.mk (hbox); have n2_ := Aside0.mk ((by rw [hg]; exact (below_size (by repeat (first | (with_reducible first | exact HB.out | apply below_alloc | apply pw_below_drewN | apply below_drew1) | exact HB.out))) : w.heap.size ≤ gb103)); have n3_ := Aside0.mk ((by rw [hg]; exact (below_size (by repeat (first | (with_reducible first | exact HB.out | apply below_alloc | apply pw_below_drewN | apply below_drew1) | exact HB.out))) : w.heap.size ≤ gb103)); clear HB; have HB := n0_; have BK103 := n1_; have GW103 := n2_; have GE103 := n3_; clear n0_ n1_ n2_ n3_; clear hb hbox hg; have hcz12_0 : w11.cell? ⟨gb103, 0, none⟩ = some (.string (⟨#[]⟩ : ByteArray)) := (blk_cell BK103.out 0).trans rfl; have hcz12_1 : w11.cell? ⟨gb103, 1, none⟩ = some (.string (⟨#[]⟩ : ByteArray)) := (blk_cell BK103.out 1).trans rfl; have hfz12_0 := blk_frozen BK103.out 0; have hfz12_1 := blk_frozen BK103.out 1) | ((with_reducible refine gate_callee (f := 16) rfl ?_); refine goesL_ (some 15) rfl rfl Tryd.func16 (by kernel_rfl) rfl #[.agg #[.string ((rd_T26 l0 x10_1).f0), .string ((rd_T26 l0 x10_1).f1)]] rfl (by (try simp only [List.map_toArray, List.map_cons, List.map_nil]); first | done | rfl | (simp only [List.length_drop, List.length_take]; rfl)) ?_; (with_reducible refine (laws_zzFits2.calls ((rd_T26 l0 x10_1).f0) ((rd_T26 l0 x10_1).f1) false _ A6.out).mono ?_); rintro e w13 ⟨rfl, hb⟩; refine ⟨_, rfl, ?_⟩; have n0_ := Aside0.mk (blk_below (g := gb103) (o := .cells #[.string ((rd_T26 l0 x10_1).f0), .string ((rd_T26 l0 x10_1).f1)] 26 (0, 0)) (by (with_reducible repeat (first | refine blk_drewN ?_ _ | refine blk_drew ?_ | refine blk_alloc ?_ _)); refine blk_put (cs := #[.string ((rd_T26 l0 x10_1).f0), .string (⟨#[]⟩ : ByteArray)]) ?_ 1 _ rfl; (with_reducible repeat (first | refine blk_drewN ?_ _ | refine blk_drew ?_ | refine blk_alloc ?_ _)); refine blk_put (cs := #[.string (⟨#[]⟩ : ByteArray), .string (⟨#[]⟩ : ByteArray)]) ?_ 0 _ rfl; (with_reducible repeat (first | refine blk_drewN ?_ _ | refine blk_drew ?_ | refine blk_alloc ?_ _)); exact BK103.out) hb); have n1_ := Aside0.mk (below_step (by repeat (first | (with_reducible first | exact HB.out | apply below_alloc | apply pw_below_drewN | apply below_drew1 | refine below_set ?_ GE103.out) | exact HB.out)) hb); clear BK103; clear HB; have BK103 := n0_; have HB := n1_; clear n0_ n1_; (try clear hb); (try clear hb2); (try clear hk); (try clear hi)))
                go_ret
                exact ⟨by first | rfl | (simp [errW_none, errW_some] <;> rfl) | (simp [*, errW_none, errW_some] <;> rfl), by repeat (first | (with_reducible first | exact HB.out | apply below_alloc | apply pw_below_drewN | apply below_drew1 | refine below_set ?_ GE103.out) | exact HB.out)⟩
            · rw [if_neg c5] at H
              exact absurd H (by simp)
          · rw [if_neg c4] at H
            exact absurd H (by simp)
        · rw [if_neg c3] at H
          have c3b0 : decide (x10_1 < (l0.length : Int)) = false := decide_eq_false c3
          clear c3
          obtain rfl := Option.some.inj H
          go_wp2
          go_ret
          exact ⟨by first | rfl | (simp [errW_none, errW_some] <;> rfl) | (simp [*, errW_none, errW_some] <;> rfl), by repeat (first | (with_reducible first | exact HB.out | apply below_alloc | apply pw_below_drewN | apply below_drew1) | exact HB.out)⟩

/-! ### impl_labelSet: function 23 -/
-- contracts that were proved by hand
def setL (l : List S26) : MapsS.SM := l.foldl (fun m p => MapsS.ins p.f0 p.f1 m) []
theorem setL_snoc (l : List S26) (p : S26) : setL (l ++ [p]) = MapsS.ins p.f0 p.f1 (setL l) := by simp [setL, List.foldl_append]
def small2 (p : S26) : Bool := decide (p.f0.size ≤ maxLen) && decide (p.f1.size ≤ maxLen)
def lessMax (l : List S26) : Bool := decide (l.length < maxLen) && l.all small2
def less9 (l : List S26) : Bool := decide (l.length ≤ 1000000000) && l.all small2
theorem setL_le (l : List S26) : (setL l).length ≤ l.length := by
  have h : ∀ (r : List S26) (m : MapsS.SM), (r.foldl (fun m p => MapsS.ins p.f0 p.f1 m) m).length ≤ m.length + r.length := by
    intro r
    induction r with
    | nil => intro m; exact Nat.le_refl _
    | cons x r ih =>
      intro m
      have h1 := ih (MapsS.ins x.f0 x.f1 m)
      have h2 := MapsS.len_ins x.f0 x.f1 m
      rw [List.foldl_cons, List.length_cons]
      omega
  have := h l []
  simpa [setL] using this
set_option maxHeartbeats 1600000 in
set_option maxRecDepth 100000 in
theorem impl_labelSet.calls (A0 : Option Addr) (c0 : Nat) (l0 : List S26) (w : World) (hr0 : Kd.C k26 w A0 l0.length l0) (hc0 : l0.length ≤ c0) (hl : l0.length < maxLen) (hs : l0.all small2 = true) :
    Calls Tryd.prog 23 #[.slice A0 l0.length c0] w fun e w' => ∃ b, e = .returned (.map (some b)) ∧ w.heap.size ≤ b ∧ LSet w' b l0.length (setL l0) ∧ Below w.heap.size w w' := by
  have HR0 := Aside0.mk hr0
  have HC0 := Aside0.mk hc0
  have HS := Aside0.mk hs
  clear hr0 hc0 hs
  unfold maxLen at hl
  have hmm := @run_makeMap Tryd.prog
  go_enter Tryd.func23, Tryd.ntmps23
  go_wp2
  have H0 : LSet (w.alloc (.map #[] 0)) w.heap.size 0 (setL (l0.take 0)) := MapsS.IsSM.made w Tryd.prog _ _
  have HM0 := Aside0.mk H0
  clear H0
  go_loopw [9] (fun v9 wr => ∃ j : Nat, j ≤ l0.length ∧ v9 = .int .i64 j ∧ Aside0 (LSet wr w.heap.size j (setL (l0.take j))) ∧ Aside0 (Below w.heap.size w wr)) (fun v9 _ => l0.length - (intOf v9).toNat)
  case atStart => exact ⟨0, Nat.zero_le _, rfl, HM0, ⟨below_alloc (Below.refl _ _) _⟩⟩
  case round =>
    clear HM0
    obtain ⟨j, hj, rfl, HM, HB⟩ := hrel
    by_cases hlt : j < l0.length
    · obtain ⟨ad, e0, hx0, hx1⟩ := at_T26 HR0.out (j : Int) (by omega) (by omega)
      cases e0
      replace hx0 := (HB.out.cell (World.block_lt_of_cell? w _ hx0)).trans hx0
      replace hx1 := (HB.out.cell (World.block_lt_of_cell? w _ hx1)).trans hx1
      simp only [Int.toNat_natCast] at hx0 hx1
      have hsm := List.all_eq_true.1 HS.out (rd_T26 l0 (j : Int)) (by show l0.getD j z26 ∈ l0; rw [List.getD_eq_getElem?_getD, List.getElem?_eq_getElem hlt]; exact List.getElem_mem hlt)
      simp only [small2, Bool.and_eq_true, decide_eq_true_eq] at hsm
      have HK := Aside0.mk hsm.1
      have HV := Aside0.mk hsm.2
      have HT := Aside0.mk (show setL (l0.take (j + 1)) = MapsS.ins (rd_T26 l0 (j : Int)).f0 (rd_T26 l0 (j : Int)).f1 (setL (l0.take j)) by rw [Box.take_more l0 z26 j hlt, setL_snoc]; rfl)
      clear hsm
      go_wp2_with (at_mapUpdate; refine MapsS.wpList_store_sm (t := 44) (k := 48) (e := 46) rfl _ _ _ rfl Tryd.underlying44 Tryd.underlying48 Tryd.underlying46 rfl (HM.out.alloc _) (by unfold maxLen; omega) rfl rfl HK.out HV.out ?_; intro w2 hM2 hg2; rw [← HT.out] at hM2; have HM2 := Aside0.mk hM2; have HB2 := Aside0.mk (pw_below_grown (below_alloc HB.out _) _ (by have := below_size HB.out; simp; omega) hg2 (fun k hk => by injection hk with hk; omega)); clear hM2 hg2 HM HB HT)
      go_roundw
      case rel => exact ⟨j + 1, by omega, by go_num, HM2, HB2⟩
      case measure => simp [intOf]; omega
    · have hj2 : j = l0.length := by omega
      subst hj2
      go_wp2
      go_ret
      have h := HM.out
      rw [List.take_of_length_le (Nat.le_refl _)] at h
      exact ⟨_, rfl, Nat.le_refl _, h, HB.out⟩


/-! ### impl_metric: function 17 -/
-- contracts that were proved by hand
theorem impl_metric.calls (A0 : Option Addr) (c0 : Nat) (l0 : List S26) (w : World) (m : MapsS.SM)
    (h : Calls Tryd.prog 23 #[.slice A0 l0.length c0] w fun e w' => ∃ b, e = .returned (.map (some b)) ∧ w.heap.size ≤ b ∧ LSet w' b l0.length m ∧ Below w.heap.size w w') :
    Calls Tryd.prog 17 #[.slice A0 l0.length c0] w fun e w' => ∃ b, e = .returned (.map (some b)) ∧ w.heap.size ≤ b ∧ LSet w' b l0.length m ∧ Below w.heap.size w w' := by
  have C0 := Aside0.mk h
  clear h
  go_enter Tryd.func17, Tryd.ntmps17
  go_wp2_with fail
  refine C0.out.mono ?_
  rintro e w1 ⟨b, rfl, hb, hM, hB⟩
  have HM := Aside0.mk hM
  have HB := Aside0.mk hB
  have HX := Aside0.mk hb
  clear hM hB hb
  go_wp2
  go_ret
  exact ⟨b, rfl, HX.out, HM.out, HB.out⟩


-- NOT PRINTED: function 72 (utf8_decodeRuneInStringSlow)

-- NOT PRINTED: function 61 (utf8_DecodeRuneInString)

/-! ### strconv_bsearch_uint16_uint16: function 78 -/
-- contracts that were proved by hand


/-! ### strconv_bsearch_uint32_uint32: function 79 -/
-- contracts that were proved by hand


-- NOT PRINTED: function 73 (strconv_IsPrint)

-- NOT PRINTED: function 74 (strconv_isInGraphicList)

/-! ### utf8_appendRuneNonASCII: function 80 -/
-- contracts that were proved by hand
-- nothing told here: the shelf's contract of the Builder stands in its place


/-! ### utf8_AppendRune: function 75 -/
-- contracts that were proved by hand
-- nothing told here: the shelf's contract of the Builder stands in its place


/-! ### utf8_ValidRune: function 76 -/
-- contracts that were proved by hand


-- NOT PRINTED: function 62 (strconv_appendEscapedRune)

-- NOT PRINTED: function 44 (strconv_appendQuotedWith)

-- NOT PRINTED: function 36 (strconv_quoteWith)

-- NOT PRINTED: function 25 (strconv_Quote)

/-! ### cmp_isNaN_string: function 70 -/
-- contracts that were proved by hand
-- nothing told here: the shelf's contract of sort.Strings stands in its place


/-! ### cmp_Less_string: function 53 -/
-- contracts that were proved by hand
-- nothing told here: the shelf's contract of sort.Strings stands in its place


/-! ### slices_insertionSortOrdered_string: function 47 -/
-- contracts that were proved by hand
-- nothing told here: the shelf's contract of sort.Strings stands in its place


/-! ### slices_siftDownOrdered_string: function 65 -/
-- contracts that were proved by hand
-- nothing told here: the shelf's contract of sort.Strings stands in its place


/-! ### slices_heapSortOrdered_string: function 48 -/
-- contracts that were proved by hand
-- nothing told here: the shelf's contract of sort.Strings stands in its place


/-! ### bits_Len32: function 56 -/
-- contracts that were proved by hand
-- nothing told here: the shelf's contract of sort.Strings stands in its place


/-! ### bits_Len64: function 57 -/
-- contracts that were proved by hand
-- nothing told here: the shelf's contract of sort.Strings stands in its place


/-! ### bits_Len: function 41 -/
-- contracts that were proved by hand
-- nothing told here: the shelf's contract of sort.Strings stands in its place


/-! ### slices_nextPowerOfTwo: function 66 -/
-- contracts that were proved by hand
-- nothing told here: the shelf's contract of sort.Strings stands in its place


/-! ### slices_xorshift_Next: function 67 -/
-- contracts that were proved by hand
-- nothing told here: the shelf's contract of sort.Strings stands in its place


/-! ### slices_breakPatternsOrdered_string: function 49 -/
-- contracts that were proved by hand
-- nothing told here: the shelf's contract of sort.Strings stands in its place


/-! ### slices_order2Ordered_string: function 77 -/
-- contracts that were proved by hand
-- nothing told here: the shelf's contract of sort.Strings stands in its place


/-! ### slices_medianOrdered_string: function 69 -/
-- contracts that were proved by hand
-- nothing told here: the shelf's contract of sort.Strings stands in its place


/-! ### slices_medianAdjacentOrdered_string: function 68 -/
-- contracts that were proved by hand
-- nothing told here: the shelf's contract of sort.Strings stands in its place


/-! ### slices_choosePivotOrdered_string: function 50 -/
-- contracts that were proved by hand
-- nothing told here: the shelf's contract of sort.Strings stands in its place


/-! ### slices_reverseRangeOrdered_string: function 51 -/
-- contracts that were proved by hand
-- nothing told here: the shelf's contract of sort.Strings stands in its place


/-! ### slices_partialInsertionSortOrdered_string: function 52 -/
-- contracts that were proved by hand
-- nothing told here: the shelf's contract of sort.Strings stands in its place


/-! ### slices_partitionEqualOrdered_string: function 54 -/
-- contracts that were proved by hand
-- nothing told here: the shelf's contract of sort.Strings stands in its place


/-! ### slices_partitionOrdered_string: function 55 -/
-- contracts that were proved by hand
-- nothing told here: the shelf's contract of sort.Strings stands in its place


/-! ### slices_pdqsortOrdered_string: function 40 -/
-- contracts that were proved by hand
-- nothing told here: the shelf's contract of sort.Strings stands in its place


/-! ### slices_Sort_string_string: function 28 -/
-- contracts that were proved by hand
-- nothing told here: the shelf's contract of sort.Strings stands in its place


/-! ### sort_Strings: function 26 -/
-- contracts that were proved by hand
/-- A row of texts of the call's own, sorted in its place. -/
theorem sort_Strings.own (v : Value) (xs : List ByteArray) (w : World) (base : Nat) (h : Kd.R Kd.string 9 w base (fun _ => True) v xs) (hl : xs.length < 4611686018427387904) :
    Calls Tryd.prog 26 #[v] w fun e w' => e = .returned (.tuple #[]) ∧ Kd.R Kd.string 9 w' base (fun _ => True) v (sortB xs) ∧ w.grownBy w' v.ownBlock := by
  have ho := Kd.own_of_R h
  rcases ho.2 with ⟨rfl, hn⟩ | ⟨g, cap, cur, rfl, hbase, hb, h1, h2, h3, h4⟩
  · obtain rfl : xs = [] := List.length_eq_zero_iff.1 hn
    refine (Tryd.sort_Strings_none none 0 w).mono ?_
    rintro e w1 ⟨rfl, rfl⟩
    have e : sortB [] = [] := by simp [sortB]
    rw [e]
    exact ⟨rfl, h, ⟨rfl, rfl, rfl, Nat.le_refl _, fun _ _ _ => rfl⟩⟩
  · have hl2 : (xs.map (·.data.toList)).length = xs.length := List.length_map ..
    have h4' : cur.toList.take (xs.map (·.data.toList)).length = (xs.map (·.data.toList)).map encStr := by rw [hl2, enc_map]; simpa using h4
    have hH := holds_of_block hb h4'
    have C := Tryd.sort_Strings g 0 cap (xs.map (·.data.toList)) w hH (Array.getElem?_eq_some_iff.1 hb).1 (by rw [hl2]; exact hl)
    rw [hl2] at C
    refine C.mono ?_
    rintro e w1 ⟨rfl, n, os, rfl⟩
    rw [← sortB_map]
    have hl3 : ((sortB xs).map (·.data.toList)).length = (xs.map (·.data.toList)).length := by rw [List.length_map, List.length_map, (sortB_perm xs).length_eq]
    have hown := ownsRow_sorted (n := n) (os := os) hl3 hbase hb (by rw [hl2]; exact h1) h2 h3
    rw [enc_map, hl2] at hown
    refine ⟨rfl, Kd.R_of_own (by rw [(sortB_perm xs).length_eq]; exact hown) (fun _ _ => trivial), ?_⟩
    exact grownBy_sorted _


-- NOT PRINTED: function 63 (abi_NoEscape)

-- NOT PRINTED: function 45 (strings_Builder_copyCheck)

-- NOT PRINTED: function 64 (bytealg_MakeNoZero)

-- NOT PRINTED: function 46 (strings_Builder_grow)

-- NOT PRINTED: function 37 (strings_Builder_Grow)

-- NOT PRINTED: function 38 (strings_Builder_WriteString)

-- NOT PRINTED: function 39 (strings_Builder_String)

/-! ### strings_Join: function 27 -/
-- a contract that was proved by hand
theorem add_plain2 (b o n : Nat) : (⟨b, o, none⟩ : Addr).add n = ⟨b, o + n, none⟩ := by unfold Addr.add; split <;> simp_all
def joined (l : List ByteArray) (sep : ByteArray) : ByteArray := ⟨(Go.Lib.join (l.map (·.data.toList)) sep.data.toList).toArray⟩
def strings_Join.f (l0 : List ByteArray) (a1 : ByteArray) : Option ByteArray := if l0.length ≤ 140737488355328 ∧ (Go.Lib.join (l0.map (·.data.toList)) a1.data.toList).length ≤ 140737488355328 then some (joined l0 a1) else none
theorem plain_addr {w : World} {ad : Addr} {v : Value} (h : w.cell? ad = some v) : ad = ⟨ad.block, ad.off, none⟩ := by
  obtain ⟨b, o, s⟩ := ad
  cases s with
  | none => rfl
  | some k =>
    unfold World.cell? at h
    split at h <;> simp at h
set_option maxHeartbeats 1600000 in
set_option maxRecDepth 100000 in
theorem strings_Join.calls (A0 : Option Addr) (c0 : Nat) (l0 : List ByteArray) (a1 : ByteArray) (r : ByteArray) (w : World) (hr0 : Kd.C Kd.string w A0 l0.length l0) (hc0 : l0.length ≤ c0) (h : strings_Join.f l0 a1 = some r) :
    Calls Tryd.prog 27 #[.slice A0 l0.length c0, .string a1] w fun e w' => e = .returned (.string r) ∧ Below w.heap.size w w' := by
  unfold strings_Join.f at h
  split at h
  · rename_i hl
    obtain ⟨h1, h2⟩ := hl
    obtain rfl := Option.some.inj h
    clear h
    by_cases h0 : l0.length = 0
    · obtain rfl : l0 = [] := List.length_eq_zero_iff.1 h0
      refine (Tryd.strings_Join_none A0 c0 a1 w).mono ?_
      rintro e w1 ⟨rfl, rfl⟩
      exact ⟨rfl, Below.refl _ _⟩
    · obtain ⟨ad, e0, hx⟩ := Kd.at_string hr0 0 (by omega) (by omega)
      cases e0
      have hp := plain_addr (by simpa [Addr.add] using hx)
      obtain ⟨b, o, s⟩ := ad
      obtain rfl : s = none := by injection hp
      have hcells : ∀ (j : Nat) x, l0[j]? = some x → w.cell? ⟨b, o + j, none⟩ = some (.string x) := by
        intro j x hj
        have hlt : j < l0.length := (List.getElem?_eq_some_iff.1 hj).1
        obtain ⟨ad', e1, hy⟩ := Kd.at_string hr0 (j : Int) (by omega) (by omega)
        cases e1
        have hz : rdOf ByteArray.empty l0 (j : Int) = x := by simp [rdOf, List.getD_eq_getElem?_getD, hj]
        rw [hz, Int.toNat_natCast, add_plain2] at hy
        exact hy
      have hb := World.block_lt_of_cell? w _ (hcells 0 _ (List.getElem?_eq_getElem (by omega)))
      exact Tryd.strings_Join b o c0 l0 a1 w hcells hb h1 hc0 h2
  · cases h


/-! ### model_Metric_String: function 18 -/
-- contracts that were proved by hand
def nameB : ByteArray := ⟨#[95, 95, 110, 97, 109, 101, 95, 95]⟩
theorem nameB_toList : nameB.toList = [95, 95, 110, 97, 109, 101, 95, 95] := by rw [Lib.toList_data]; rfl
def isNm (p : ByteArray × ByteArray) : Bool := decide (p.1 = nameB)
/-- What is written of a label. -/
def labT (p : ByteArray × ByteArray) : ByteArray := p.1 ++ ⟨#[61]⟩ ++ Door.quoteB p.2
def mrest (m : MapsS.SM) : List ByteArray := (m.filter fun p => !isNm p).map labT
def mjoin (m : MapsS.SM) : ByteArray := joined (sortB (mrest m)) ⟨#[44, 32]⟩
def metricB (m : MapsS.SM) : ByteArray :=
  if (mrest m).length = 0 then (match MapsS.look nameB m with | some v => v | none => ⟨#[123, 125]⟩)
  else (MapsS.look nameB m).getD ⟨#[]⟩ ++ ⟨#[123]⟩ ++ mjoin m ++ ⟨#[125]⟩
theorem not_nm {m : MapsS.SM} (h : ∀ p ∈ m, nameB ≠ p.1) : (m.filter fun p => !isNm p) = m := List.filter_eq_self.2 fun p hp => by simp [isNm, (h p hp).symm]
theorem look_none {k : ByteArray} : ∀ {m : MapsS.SM}, MapsS.look k m = none → ∀ p ∈ m, k ≠ p.1
  | [], _, p, hp => by cases hp
  | q :: r, h, p, hp => by
    rw [MapsS.look_cons] at h
    by_cases e : k = q.1
    · rw [if_pos e] at h; cases h
    · rw [if_neg e] at h
      rcases List.mem_cons.1 hp with rfl | hp
      · exact e
      · exact look_none h p hp
theorem rest_len {m : MapsS.SM} (h : MapsS.Rises m) : (mrest m).length + (if (MapsS.look nameB m).isSome then 1 else 0) = m.length := by
  unfold mrest
  rw [List.length_map]
  induction m with
  | nil => rfl
  | cons p r ih =>
    obtain ⟨h1, h2⟩ := List.pairwise_cons.1 h
    rw [MapsS.look_cons]
    by_cases e : nameB = p.1
    · have hn : ∀ q ∈ r, nameB ≠ q.1 := fun q hq => by rw [e]; exact MapsS.less_ne (h1 q hq)
      rw [if_pos e, List.filter_cons, if_neg (by simp [isNm, e.symm]), not_nm hn]
      simp
    · rw [if_neg e, List.filter_cons, if_pos (by simp [isNm, Ne.symm e]), List.length_cons, List.length_cons]
      have := ih h2
      omega
theorem sortB_congr2 {a b : List ByteArray} (h : a.Perm b) : sortB a = sortB b := by
  refine List.Perm.eq_of_pairwise (le := fun x y => decide (x.data.toList ≤ y.data.toList) = true) (fun a b _ _ h1 h2 => MapsS.ba_ext (List.le_antisymm (of_decide_eq_true h1) (of_decide_eq_true h2))) ?_ ?_ ((sortB_perm a).trans (h.trans (sortB_perm b).symm))
  all_goals exact List.pairwise_mergeSort (le := fun x y : ByteArray => decide (x.data.toList ≤ y.data.toList)) (fun a b c h1 h2 => decide_eq_true (List.le_trans (of_decide_eq_true h1) (of_decide_eq_true h2))) (fun a b => by rcases List.le_total a.data.toList b.data.toList with h | h <;> simp [h]) _
theorem infoMS : (Tryd.prog.info? 9).map (fun i => (i.zero, i.size, i.bytes)) = some (some (.string ⟨#[]⟩), 1, 16) := by kernel_rfl
theorem R_startM {w : World} {base e : Nat} {v : Value} {P : Nat → Prop} (h : w.ownsRow base e 1 v 0 []) (hp : ∀ k, v.ownBlock = some k → P k) : Kd.R Kd.string e w base P v [] := ⟨hp, [], h, by simp [Reps]⟩
-- the walks

open Go.Lib Go.Proofs.YtenededepjfojaaDoor.Door in
set_option maxHeartbeats 6400000 in
set_option maxRecDepth 100000 in
theorem metric_yes (b n : Nat) (m : MapsS.SM) (w : World) (v : ByteArray) (h : LSet w b n m) (hk : MapsS.look nameB m = some v) (hl : m.length ≤ 1000) (hs : ∀ p ∈ m, p.1.size ≤ 2147483647 ∧ p.2.size ≤ 2147483647) (hT : PQ w) (hj : (mjoin m).size ≤ 140737488355300) :
    Calls Tryd.prog 18 #[.map (some b)] w fun e w' => e = .returned (.string (metricB m)) ∧ Below w.heap.size w w' := by
  obtain ⟨N, hN⟩ : ∃ N, m.length = N + 1 := ⟨m.length - 1, by have := rest_len h.2.1; rw [hk] at this; simp at this; omega⟩
  have hr := rest_len h.2.1
  have hmb : metricB m = if (mrest m).length = 0 then v else v ++ ⟨#[123]⟩ ++ mjoin m ++ ⟨#[125]⟩ := by unfold metricB; rw [hk]; rfl
  have hvs : v.size ≤ 2147483647 := (hs _ ((MapsS.look_mem h.2.1).1 hk)).2
  rw [hk] at hr
  have hNr : (mrest m).length = N := by simp at hr; omega
  clear hr
  rw [hNr] at hmb
  rw [hmb]
  clear hmb
  have e1 := fun ty => h.len_run (t := 38) Tryd.underlying38 ty
  rw [hN] at e1
  have e2 : (Instr.lookup 38 (.map (some b)) (.string ⟨#[95, 95, 110, 97, 109, 101, 95, 95]⟩) true).run Tryd.prog w = .ok (.tuple #[.string v, .bool true]) w := by
    have := h.look_ok_run (t := 38) Tryd.underlying38 Tryd.underlying48 Tryd.underlying46 (by rfl) (key := nameB) (by decide)
    rw [hk] at this
    exact this
  have H := Aside0.mk h
  have HL := Aside0.mk h.lt
  have HSZ := Aside0.mk hs
  have HT := Aside0.mk hT
  have HNR := Aside0.mk hNr
  have HN := Aside0.mk hN
  have HJ := Aside0.mk hj
  have hn1 : N ≤ 1000 := by omega
  clear h hs hT hNr hN hj hk hl
  obtain ⟨i0, hi, hz0, hz1, hz2⟩ := info_parts infoMS
  have HB2 := Aside0.mk (show i0.bytes * N ≤ 281474976710656 by rw [hz2]; omega)
  have HI := Aside0.mk hi
  have HZ0 := Aside0.mk hz0
  have HZ1 := Aside0.mk hz1
  have HM := Aside0.mk (show N ≤ maxLen by unfold maxLen; omega)
  clear hi hz0 hz1 hz2
  obtain ⟨R, hR⟩ : ∃ R, (if N = 0 then v else v ++ ⟨#[123]⟩ ++ mjoin m ++ ⟨#[125]⟩) = R := ⟨_, rfl⟩
  rw [hR]
  have HRES := Aside0.mk hR
  clear hR
  skip
  · go_enter Tryd.func18, Tryd.ntmps18
    go_wp2_with (first
      | (at_make; refine wpList_make_own _ rfl _ _ 27 rfl w.heap.size 9 i0 (.string ⟨#[]⟩) 1 Tryd.underlying27 HI.out HZ0.out HZ1.out _ _ _ N rfl rfl (by first | rfl | omega) HB2.out HM.out (Nat.le_refl _) ?_; intro w1 hown hg; have HO1 := Aside0.mk (R_startM (P := fun k => k < w1.heap.size) hown (fun k hk => (hown.lt k hk).2)); have HB1 := Aside0.mk (pw_below_grown (Below.refl w.heap.size w) none (Nat.le_refl _) hg (by simp)); clear hown hg)
      | (at_range; refine MapsS.wpList_range_sm (t := 38) rfl _ rfl Tryd.underlying38 Tryd.underlying48 rfl (H.out.below HB1.out) ?_; intro w2 r hr hR hg hsz; have HR := Aside0.mk hR; have HG := Aside0.mk (show w.heap.size ≤ r by rw [hr]; exact below_size HB1.out); have HO2 := Aside0.mk (Kd.R_mono (Kd.R_grown HO1.out hg (fun k hk e => by cases e)) (fun k hk => show k ≠ r by omega)); have HBW := Aside0.mk (pw_below_grown HB1.out none (below_size HB1.out) hg (by simp)); have HZ := Aside0.mk (show r < w2.heap.size by omega); clear hr hR hg hsz HO1))
    go_frame
    clear e1 e2
    go_loopw [6, 25] (fun v6 _ wr => ∃ seen : MapsS.SM, Aside0 (Kd.R Kd.string 9 wr w.heap.size (fun k => k ≠ r) v6 (mrest seen)) ∧ Aside0 (MapsS.RSM Tryd.prog 48 46 wr b r n m seen) ∧ Aside0 (Below w.heap.size w wr) ∧ Aside0 (r < wr.heap.size)) (fun _ _ wr => wr.rangeLeft b r)
    case atStart => exact ⟨[], HO2, HR, HBW, HZ⟩
    case round =>
      clear HR HBW HZ HO2
      obtain ⟨seen, HO, HR, HB, HZ⟩ := hrel
      go_wp2_with (at_next; refine MapsS.wpList_next_sm rfl _ rfl Tryd.underlying48 Tryd.underlying46 rfl HR.out ?_ ?_)
      · intro hp
        have hpm : (mrest seen).Perm (mrest m) := (hp.filter _).map _
        have HP := Aside0.mk hpm
        clear hp hpm HR
        have hres := HRES.out
        by_cases hz : N = 0
        · rw [if_pos hz] at hres
          subst hres
          have hz1 : ((N : Int) == 0) = true := by simpa using hz
          have hz2 : (N : Int) = 0 := by omega
          have HBD := Aside0.mk HB.out
          clear HO HP HZ HB
          go_wp2
          go_ret
          exact ⟨rfl, HBD.out⟩
        · rw [if_neg hz] at hres
          have hz1 : ((N : Int) == 0) = false := by simpa using (show ¬ (N : Int) = 0 by omega)
          have hz2 : ¬ (N : Int) = 0 := by omega
          have hlen : (mrest seen).length < 4611686018427387904 := by rw [HP.out.length_eq, HNR.out]; omega
          have HS := Aside0.mk (sort_Strings.own u6 (mrest seen) wr w.heap.size (Kd.R_mono HO.out (fun _ _ => trivial)) hlen)
          have HE := Aside0.mk (sortB_congr2 HP.out)
          have HK := Aside0.mk (show ∀ k, u6.ownBlock = some k → w.heap.size ≤ k from fun k hk => by obtain ⟨_, inner, ho, _⟩ := HO.out; exact own_base ho k hk)
          have HRS := Aside0.mk hres
          clear hres hlen HP HO hz
          go_wp2_with fail
          refine HS.out.mono ?_
          rintro e w4 ⟨rfl, hO4, hg4⟩
          rw [HE.out] at hO4
          have HB4 := Aside0.mk (pw_below_grown HB.out u6.ownBlock (below_size HB.out) hg4 HK.out)
          obtain ⟨A, c4, rfl, hlc, hC⟩ := Kd.R_reads hO4
          have hsl : (sortB (mrest m)).length ≤ 140737488355328 := by rw [(sortB_perm _).length_eq, HNR.out]; omega
          have hjf : strings_Join.f (sortB (mrest m)) ⟨#[44, 32]⟩ = some (mjoin m) := by
            unfold strings_Join.f
            rw [if_pos ⟨hsl, by have h1 := HJ.out; have h2 : (mjoin m).size = (Go.Lib.join ((sortB (mrest m)).map (·.data.toList)) (⟨#[44, 32]⟩ : ByteArray).data.toList).length := rfl; omega⟩]
            rfl
          have HJC := Aside0.mk (strings_Join.calls A c4 (sortB (mrest m)) ⟨#[44, 32]⟩ (mjoin m) w4 hC hlc hjf)
          have hjs := HJ.out
          have hrs := HRS.out
          clear hO4 hg4 hC hsl hjf HS HE HK HZ HB HRS HJ
          generalize mjoin m = J at *
          have z1 : (⟨#[123]⟩ : ByteArray).size = 1 := rfl
          have z2 : (⟨#[125]⟩ : ByteArray).size = 1 := rfl
          have z3 : (⟨#[]⟩ : ByteArray).size = 0 := rfl
          have hcat1 : ∀ W, (Op.stringOp .add v ⟨#[123]⟩).run Tryd.prog W = .ok (.string (v ++ ⟨#[123]⟩)) W := fun W => run_string_add_sum W _ _ (by omega)
          have hcat2 : ∀ W, (Op.stringOp .add (v ++ ⟨#[123]⟩) J).run Tryd.prog W = .ok (.string (v ++ ⟨#[123]⟩ ++ J)) W := fun W => run_string_add_sum W _ _ (by rw [ByteArray.size_append]; omega)
          have hcat3 : ∀ W, (Op.stringOp .add (v ++ ⟨#[123]⟩ ++ J) ⟨#[125]⟩).run Tryd.prog W = .ok (.string R) W := fun W => by rw [← hrs]; exact run_string_add_sum W _ _ (by rw [ByteArray.size_append, ByteArray.size_append]; omega)
          clear hrs z1 z2 z3 hjs
          go_wp2_with fail
          refine HJC.out.mono ?_
          rintro e w5 ⟨rfl, hb5⟩
          have HB5 := Aside0.mk (below_step HB4.out hb5)
          clear hb5
          go_wp2
          go_ret
          exact ⟨rfl, HB5.out⟩
      · intro x c w3 hmem hnot hR hlt hg hsz hen
        have HO3 := Aside0.mk (Kd.R_grown HO.out hg (fun k hk e => hk (by injection e with e)))
        have HB3 := Aside0.mk (pw_below_grown HB.out (some r) (below_size HB.out) hg (fun k hk => by injection hk with hk; have := HG.out; omega))
        have HR3 := Aside0.mk hR
        have HZ3 := Aside0.mk (show r < w3.heap.size by rw [hsz]; exact HZ.out)
        have HT3 := Aside0.mk hlt
        have hsx : x.size ≤ 2147483647 ∧ c.size ≤ 2147483647 := HSZ.out _ hmem
        have HK := Aside0.mk (show ∀ k, u6.ownBlock = some k → w.heap.size ≤ k ∧ k ≠ r from fun k hk => by
          obtain ⟨h0, inner, ho, _⟩ := HO.out
          exact ⟨own_base ho k hk, h0 k hk⟩)
        have HL3 := Aside0.mk (show (mrest seen).length ≤ m.length by
          obtain ⟨_, _, _, _, hsub, hnd, _⟩ := hR
          have h1 := sub_len hnd hsub
          rw [List.length_append, List.length_singleton] at h1
          have h2 : (mrest seen).length ≤ seen.length := by unfold mrest; rw [List.length_map]; exact List.length_filter_le _ _
          omega)
        clear hmem hnot hR hlt hg hsz HO HR HB HZ
        by_cases hx : x = nameB
        · have hc1 : (x.toList == [95, 95, 110, 97, 109, 101, 95, 95]) = true := by rw [hx, nameB_toList]; exact beq_self_eq_true _
          have hc2 : (x.toList != [95, 95, 110, 97, 109, 101, 95, 95]) = false := by unfold bne; rw [hc1]; rfl
          have HS := Aside0.mk (show mrest (seen ++ [(x, c)]) = mrest seen by unfold mrest; rw [List.filter_append, List.filter_cons, if_neg (by simp [isNm, hx])]; simp)
          clear hx hsx
          go_wp2
          go_roundw
          case rel => exact ⟨seen ++ [(x, c)], ⟨by rw [HS.out]; exact HO3.out⟩, HR3, HB3, HZ3⟩
          case measure => exact HT3.out
        · have hc1 : (x.toList == [95, 95, 110, 97, 109, 101, 95, 95]) = false := beq_eq_false_iff_ne.2 (fun e => hx (MapsS.ba_ext' (by rw [nameB_toList]; exact e)))
          have hc2 : (x.toList != [95, 95, 110, 97, 109, 101, 95, 95]) = true := by unfold bne; rw [hc1]; rfl
          have hq := quoteB_size c
          have HS := Aside0.mk (show mrest (seen ++ [(x, c)]) = mrest seen ++ [x ++ ⟨#[61]⟩ ++ quoteB c] by unfold mrest; rw [List.filter_append, List.map_append, List.filter_cons, if_pos (by simp [isNm, hx])]; rfl)
          have HQ := Aside0.mk (quote_calls c w3 hsx.2 (PQ.below HT.out HB3.out))
          generalize quoteB c = Q at *
          have hcat1 : ∀ W, (Op.stringOp .add x ⟨#[61]⟩).run Tryd.prog W = .ok (.string (x ++ ⟨#[61]⟩)) W := fun W => run_string_add_sum W _ _ (by have z : (⟨#[61]⟩ : ByteArray).size = 1 := rfl; omega)
          have hcat2 : ∀ W, (Op.stringOp .add (x ++ ⟨#[61]⟩) Q).run Tryd.prog W = .ok (.string (x ++ ⟨#[61]⟩ ++ Q)) W := fun W => run_string_add_sum W _ _ (by have z : (⟨#[61]⟩ : ByteArray).size = 1 := rfl; rw [ByteArray.size_append]; omega)
          clear hx hsx hq
          go_wp2_with fail
          refine HQ.out.mono ?_
          rintro e w4 ⟨rfl, hb4⟩
          have hg4 := grown_of_below hb4 none
          have HO4 := Aside0.mk (Kd.R_below HO3.out hb4)
          have HB4 := Aside0.mk (below_step HB3.out hb4)
          have HR4 := Aside0.mk (HR3.out.below hb4)
          have HZ4 := Aside0.mk (Nat.lt_of_lt_of_le HZ3.out hg4.size)
          have HT4 := Aside0.mk (show w4.rangeLeft b r < wr.rangeLeft b r by rw [rangeLeft_kept hg4 (by have := HL.out; have := below_size HB3.out; omega) HZ3.out (by simp) (by simp)]; exact HT3.out)
          clear hb4 hg4 HO3 HB3 HR3 HZ3 HT3 HQ
          generalize x ++ ⟨#[61]⟩ ++ Q = X at *
          go_wp2_with ((with_reducible refine gate_builtin (b := .append) (xs := #[.tmp 32, .tmp 38]) rfl ?_); at_builtin; refine Kd.R_append Kd.string (w0 := w) w.heap.size rfl (.tmp 32) (.tmp 38) 27 9 (.string ⟨#[]⟩) 16 rfl Tryd.underlying27 infoMS rfl (by decide) (by omega) u6 (mrest seen) X [.string X] (fun k => k ≠ r) (fun _ => False) rfl (by first | (go_simp; done) | (go_simp; rfl)) rfl (fun _ hk => hk.elim) (fun k hk => by have := HZ4.out; omega) HO4.out HB4.out (below_size HB4.out) (by have := HL3.out; have := HN.out; omega) ?_; intro v2 w5 hO5 hB5 hg5 hat5; rw [← HS.out] at hO5; have HO5 := Aside0.mk hO5; have HB5 := Aside0.mk hB5; have HR5 := Aside0.mk (HR4.out.kept hg5 (fun e => by have := (HK.out _ e.symm).1; have := HL.out; omega) (fun e => (HK.out _ e.symm).2 rfl)); have HZ5 := Aside0.mk (Nat.lt_of_lt_of_le HZ4.out hg5.size); have HT5 := Aside0.mk (show w5.rangeLeft b r < wr.rangeLeft b r by rw [rangeLeft_kept hg5 (by have := HL.out; have := below_size HB4.out; omega) (by exact HZ4.out) (fun e => by have := (HK.out _ e.symm).1; have := HL.out; omega) (fun e => (HK.out _ e.symm).2 rfl)]; exact HT4.out); clear hO5 hB5 hg5 hat5 HO4 HB4 HR4 HZ4 HT4)
          go_roundw
          case rel => exact ⟨seen ++ [(x, c)], HO5, HR5, HB5, HZ5⟩
          case measure => exact HT5.out

open Go.Lib Go.Proofs.YtenededepjfojaaDoor.Door in
set_option maxHeartbeats 6400000 in
set_option maxRecDepth 100000 in
theorem metric_no (b n : Nat) (m : MapsS.SM) (w : World) (h : LSet w b n m) (hk : MapsS.look nameB m = none) (hl : m.length ≤ 1000) (hs : ∀ p ∈ m, p.1.size ≤ 2147483647 ∧ p.2.size ≤ 2147483647) (hT : PQ w) (hj : (mjoin m).size ≤ 140737488355300) :
    Calls Tryd.prog 18 #[.map (some b)] w fun e w' => e = .returned (.string (metricB m)) ∧ Below w.heap.size w w' := by
  obtain ⟨N, hN⟩ : ∃ N, m.length = N := ⟨m.length, rfl⟩
  have hr := rest_len h.2.1
  have hmb : metricB m = if (mrest m).length = 0 then ⟨#[123, 125]⟩ else (⟨#[]⟩ : ByteArray) ++ ⟨#[123]⟩ ++ mjoin m ++ ⟨#[125]⟩ := by unfold metricB; rw [hk]; rfl
  skip
  rw [hk] at hr
  have hNr : (mrest m).length = N := by simp at hr; omega
  clear hr
  rw [hNr] at hmb
  rw [hmb]
  clear hmb
  have e1 := fun ty => h.len_run (t := 38) Tryd.underlying38 ty
  rw [hN] at e1
  have e2 : (Instr.lookup 38 (.map (some b)) (.string ⟨#[95, 95, 110, 97, 109, 101, 95, 95]⟩) true).run Tryd.prog w = .ok (.tuple #[.string (⟨#[]⟩ : ByteArray), .bool false]) w := by
    have := h.look_ok_run (t := 38) Tryd.underlying38 Tryd.underlying48 Tryd.underlying46 (by rfl) (key := nameB) (by decide)
    rw [hk] at this
    exact this
  have H := Aside0.mk h
  have HL := Aside0.mk h.lt
  have HSZ := Aside0.mk hs
  have HT := Aside0.mk hT
  have HNR := Aside0.mk hNr
  have HN := Aside0.mk hN
  have HJ := Aside0.mk hj
  have hn1 : N ≤ 1000 := by omega
  clear h hs hT hNr hN hj hk hl
  obtain ⟨i0, hi, hz0, hz1, hz2⟩ := info_parts infoMS
  have HB2 := Aside0.mk (show i0.bytes * N ≤ 281474976710656 by rw [hz2]; omega)
  have HI := Aside0.mk hi
  have HZ0 := Aside0.mk hz0
  have HZ1 := Aside0.mk hz1
  have HM := Aside0.mk (show N ≤ maxLen by unfold maxLen; omega)
  clear hi hz0 hz1 hz2
  obtain ⟨R, hR⟩ : ∃ R, (if N = 0 then (⟨#[123, 125]⟩ : ByteArray) else (⟨#[]⟩ : ByteArray) ++ ⟨#[123]⟩ ++ mjoin m ++ ⟨#[125]⟩) = R := ⟨_, rfl⟩
  rw [hR]
  have HRES := Aside0.mk hR
  clear hR
  skip
  · go_enter Tryd.func18, Tryd.ntmps18
    go_wp2_with (first
      | (at_make; refine wpList_make_own _ rfl _ _ 27 rfl w.heap.size 9 i0 (.string ⟨#[]⟩) 1 Tryd.underlying27 HI.out HZ0.out HZ1.out _ _ _ N rfl rfl (by first | rfl | omega) HB2.out HM.out (Nat.le_refl _) ?_; intro w1 hown hg; have HO1 := Aside0.mk (R_startM (P := fun k => k < w1.heap.size) hown (fun k hk => (hown.lt k hk).2)); have HB1 := Aside0.mk (pw_below_grown (Below.refl w.heap.size w) none (Nat.le_refl _) hg (by simp)); clear hown hg)
      | (at_range; refine MapsS.wpList_range_sm (t := 38) rfl _ rfl Tryd.underlying38 Tryd.underlying48 rfl (H.out.below HB1.out) ?_; intro w2 r hr hR hg hsz; have HR := Aside0.mk hR; have HG := Aside0.mk (show w.heap.size ≤ r by rw [hr]; exact below_size HB1.out); have HO2 := Aside0.mk (Kd.R_mono (Kd.R_grown HO1.out hg (fun k hk e => by cases e)) (fun k hk => show k ≠ r by omega)); have HBW := Aside0.mk (pw_below_grown HB1.out none (below_size HB1.out) hg (by simp)); have HZ := Aside0.mk (show r < w2.heap.size by omega); clear hr hR hg hsz HO1))
    go_frame
    clear e1 e2
    go_loopw [6, 25] (fun v6 _ wr => ∃ seen : MapsS.SM, Aside0 (Kd.R Kd.string 9 wr w.heap.size (fun k => k ≠ r) v6 (mrest seen)) ∧ Aside0 (MapsS.RSM Tryd.prog 48 46 wr b r n m seen) ∧ Aside0 (Below w.heap.size w wr) ∧ Aside0 (r < wr.heap.size)) (fun _ _ wr => wr.rangeLeft b r)
    case atStart => exact ⟨[], HO2, HR, HBW, HZ⟩
    case round =>
      clear HR HBW HZ HO2
      obtain ⟨seen, HO, HR, HB, HZ⟩ := hrel
      go_wp2_with (at_next; refine MapsS.wpList_next_sm rfl _ rfl Tryd.underlying48 Tryd.underlying46 rfl HR.out ?_ ?_)
      · intro hp
        have hpm : (mrest seen).Perm (mrest m) := (hp.filter _).map _
        have HP := Aside0.mk hpm
        clear hp hpm HR
        have hres := HRES.out
        by_cases hz : N = 0
        · rw [if_pos hz] at hres
          subst hres
          have hz1 : ((N : Int) == 0) = true := by simpa using hz
          have hz2 : (N : Int) = 0 := by omega
          have HBD := Aside0.mk HB.out
          clear HO HP HZ HB
          go_wp2
          go_ret
          exact ⟨rfl, HBD.out⟩
        · rw [if_neg hz] at hres
          have hz1 : ((N : Int) == 0) = false := by simpa using (show ¬ (N : Int) = 0 by omega)
          have hz2 : ¬ (N : Int) = 0 := by omega
          have hlen : (mrest seen).length < 4611686018427387904 := by rw [HP.out.length_eq, HNR.out]; omega
          have HS := Aside0.mk (sort_Strings.own u6 (mrest seen) wr w.heap.size (Kd.R_mono HO.out (fun _ _ => trivial)) hlen)
          have HE := Aside0.mk (sortB_congr2 HP.out)
          have HK := Aside0.mk (show ∀ k, u6.ownBlock = some k → w.heap.size ≤ k from fun k hk => by obtain ⟨_, inner, ho, _⟩ := HO.out; exact own_base ho k hk)
          have HRS := Aside0.mk hres
          clear hres hlen HP HO hz
          go_wp2_with fail
          refine HS.out.mono ?_
          rintro e w4 ⟨rfl, hO4, hg4⟩
          rw [HE.out] at hO4
          have HB4 := Aside0.mk (pw_below_grown HB.out u6.ownBlock (below_size HB.out) hg4 HK.out)
          obtain ⟨A, c4, rfl, hlc, hC⟩ := Kd.R_reads hO4
          have hsl : (sortB (mrest m)).length ≤ 140737488355328 := by rw [(sortB_perm _).length_eq, HNR.out]; omega
          have hjf : strings_Join.f (sortB (mrest m)) ⟨#[44, 32]⟩ = some (mjoin m) := by
            unfold strings_Join.f
            rw [if_pos ⟨hsl, by have h1 := HJ.out; have h2 : (mjoin m).size = (Go.Lib.join ((sortB (mrest m)).map (·.data.toList)) (⟨#[44, 32]⟩ : ByteArray).data.toList).length := rfl; omega⟩]
            rfl
          have HJC := Aside0.mk (strings_Join.calls A c4 (sortB (mrest m)) ⟨#[44, 32]⟩ (mjoin m) w4 hC hlc hjf)
          have hjs := HJ.out
          have hrs := HRS.out
          clear hO4 hg4 hC hsl hjf HS HE HK HZ HB HRS HJ
          generalize mjoin m = J at *
          have z1 : (⟨#[123]⟩ : ByteArray).size = 1 := rfl
          have z2 : (⟨#[125]⟩ : ByteArray).size = 1 := rfl
          have z3 : (⟨#[]⟩ : ByteArray).size = 0 := rfl
          have hcat1 : ∀ W, (Op.stringOp .add (⟨#[]⟩ : ByteArray) ⟨#[123]⟩).run Tryd.prog W = .ok (.string ((⟨#[]⟩ : ByteArray) ++ ⟨#[123]⟩)) W := fun W => run_string_add_sum W _ _ (by omega)
          have hcat2 : ∀ W, (Op.stringOp .add ((⟨#[]⟩ : ByteArray) ++ ⟨#[123]⟩) J).run Tryd.prog W = .ok (.string ((⟨#[]⟩ : ByteArray) ++ ⟨#[123]⟩ ++ J)) W := fun W => run_string_add_sum W _ _ (by rw [ByteArray.size_append]; omega)
          have hcat3 : ∀ W, (Op.stringOp .add ((⟨#[]⟩ : ByteArray) ++ ⟨#[123]⟩ ++ J) ⟨#[125]⟩).run Tryd.prog W = .ok (.string R) W := fun W => by rw [← hrs]; exact run_string_add_sum W _ _ (by rw [ByteArray.size_append, ByteArray.size_append]; omega)
          clear hrs z1 z2 z3 hjs
          go_wp2_with fail
          refine HJC.out.mono ?_
          rintro e w5 ⟨rfl, hb5⟩
          have HB5 := Aside0.mk (below_step HB4.out hb5)
          clear hb5
          go_wp2
          go_ret
          exact ⟨rfl, HB5.out⟩
      · intro x c w3 hmem hnot hR hlt hg hsz hen
        have HO3 := Aside0.mk (Kd.R_grown HO.out hg (fun k hk e => hk (by injection e with e)))
        have HB3 := Aside0.mk (pw_below_grown HB.out (some r) (below_size HB.out) hg (fun k hk => by injection hk with hk; have := HG.out; omega))
        have HR3 := Aside0.mk hR
        have HZ3 := Aside0.mk (show r < w3.heap.size by rw [hsz]; exact HZ.out)
        have HT3 := Aside0.mk hlt
        have hsx : x.size ≤ 2147483647 ∧ c.size ≤ 2147483647 := HSZ.out _ hmem
        have HK := Aside0.mk (show ∀ k, u6.ownBlock = some k → w.heap.size ≤ k ∧ k ≠ r from fun k hk => by
          obtain ⟨h0, inner, ho, _⟩ := HO.out
          exact ⟨own_base ho k hk, h0 k hk⟩)
        have HL3 := Aside0.mk (show (mrest seen).length ≤ m.length by
          obtain ⟨_, _, _, _, hsub, hnd, _⟩ := hR
          have h1 := sub_len hnd hsub
          rw [List.length_append, List.length_singleton] at h1
          have h2 : (mrest seen).length ≤ seen.length := by unfold mrest; rw [List.length_map]; exact List.length_filter_le _ _
          omega)
        clear hmem hnot hR hlt hg hsz HO HR HB HZ
        by_cases hx : x = nameB
        · have hc1 : (x.toList == [95, 95, 110, 97, 109, 101, 95, 95]) = true := by rw [hx, nameB_toList]; exact beq_self_eq_true _
          have hc2 : (x.toList != [95, 95, 110, 97, 109, 101, 95, 95]) = false := by unfold bne; rw [hc1]; rfl
          have HS := Aside0.mk (show mrest (seen ++ [(x, c)]) = mrest seen by unfold mrest; rw [List.filter_append, List.filter_cons, if_neg (by simp [isNm, hx])]; simp)
          clear hx hsx
          go_wp2
          go_roundw
          case rel => exact ⟨seen ++ [(x, c)], ⟨by rw [HS.out]; exact HO3.out⟩, HR3, HB3, HZ3⟩
          case measure => exact HT3.out
        · have hc1 : (x.toList == [95, 95, 110, 97, 109, 101, 95, 95]) = false := beq_eq_false_iff_ne.2 (fun e => hx (MapsS.ba_ext' (by rw [nameB_toList]; exact e)))
          have hc2 : (x.toList != [95, 95, 110, 97, 109, 101, 95, 95]) = true := by unfold bne; rw [hc1]; rfl
          have hq := quoteB_size c
          have HS := Aside0.mk (show mrest (seen ++ [(x, c)]) = mrest seen ++ [x ++ ⟨#[61]⟩ ++ quoteB c] by unfold mrest; rw [List.filter_append, List.map_append, List.filter_cons, if_pos (by simp [isNm, hx])]; rfl)
          have HQ := Aside0.mk (quote_calls c w3 hsx.2 (PQ.below HT.out HB3.out))
          generalize quoteB c = Q at *
          have hcat1 : ∀ W, (Op.stringOp .add x ⟨#[61]⟩).run Tryd.prog W = .ok (.string (x ++ ⟨#[61]⟩)) W := fun W => run_string_add_sum W _ _ (by have z : (⟨#[61]⟩ : ByteArray).size = 1 := rfl; omega)
          have hcat2 : ∀ W, (Op.stringOp .add (x ++ ⟨#[61]⟩) Q).run Tryd.prog W = .ok (.string (x ++ ⟨#[61]⟩ ++ Q)) W := fun W => run_string_add_sum W _ _ (by have z : (⟨#[61]⟩ : ByteArray).size = 1 := rfl; rw [ByteArray.size_append]; omega)
          clear hx hsx hq
          go_wp2_with fail
          refine HQ.out.mono ?_
          rintro e w4 ⟨rfl, hb4⟩
          have hg4 := grown_of_below hb4 none
          have HO4 := Aside0.mk (Kd.R_below HO3.out hb4)
          have HB4 := Aside0.mk (below_step HB3.out hb4)
          have HR4 := Aside0.mk (HR3.out.below hb4)
          have HZ4 := Aside0.mk (Nat.lt_of_lt_of_le HZ3.out hg4.size)
          have HT4 := Aside0.mk (show w4.rangeLeft b r < wr.rangeLeft b r by rw [rangeLeft_kept hg4 (by have := HL.out; have := below_size HB3.out; omega) HZ3.out (by simp) (by simp)]; exact HT3.out)
          clear hb4 hg4 HO3 HB3 HR3 HZ3 HT3 HQ
          generalize x ++ ⟨#[61]⟩ ++ Q = X at *
          go_wp2_with ((with_reducible refine gate_builtin (b := .append) (xs := #[.tmp 32, .tmp 38]) rfl ?_); at_builtin; refine Kd.R_append Kd.string (w0 := w) w.heap.size rfl (.tmp 32) (.tmp 38) 27 9 (.string ⟨#[]⟩) 16 rfl Tryd.underlying27 infoMS rfl (by decide) (by omega) u6 (mrest seen) X [.string X] (fun k => k ≠ r) (fun _ => False) rfl (by first | (go_simp; done) | (go_simp; rfl)) rfl (fun _ hk => hk.elim) (fun k hk => by have := HZ4.out; omega) HO4.out HB4.out (below_size HB4.out) (by have := HL3.out; have := HN.out; omega) ?_; intro v2 w5 hO5 hB5 hg5 hat5; rw [← HS.out] at hO5; have HO5 := Aside0.mk hO5; have HB5 := Aside0.mk hB5; have HR5 := Aside0.mk (HR4.out.kept hg5 (fun e => by have := (HK.out _ e.symm).1; have := HL.out; omega) (fun e => (HK.out _ e.symm).2 rfl)); have HZ5 := Aside0.mk (Nat.lt_of_lt_of_le HZ4.out hg5.size); have HT5 := Aside0.mk (show w5.rangeLeft b r < wr.rangeLeft b r by rw [rangeLeft_kept hg5 (by have := HL.out; have := below_size HB4.out; omega) (by exact HZ4.out) (fun e => by have := (HK.out _ e.symm).1; have := HL.out; omega) (fun e => (HK.out _ e.symm).2 rfl)]; exact HT4.out); clear hO5 hB5 hg5 hat5 HO4 HB4 HR4 HZ4 HT4)
          go_roundw
          case rel => exact ⟨seen ++ [(x, c)], HO5, HR5, HB5, HZ5⟩
          case measure => exact HT5.out
theorem metric_string (b n : Nat) (m : MapsS.SM) (w : World) (h : LSet w b n m) (hl : m.length ≤ 1000) (hs : ∀ p ∈ m, p.1.size ≤ 2147483647 ∧ p.2.size ≤ 2147483647) (hT : Door.PQ w) (hj : (mjoin m).size ≤ 140737488355300) :
    Calls Tryd.prog 18 #[.map (some b)] w fun e w' => e = .returned (.string (metricB m)) ∧ Below w.heap.size w w' := by
  cases hk : MapsS.look nameB m with
  | none => exact metric_no b n m w h hk hl hs hT hj
  | some v => exact metric_yes b n m w v h hk hl hs hT hj


/-! ### impl_MetricText: function 7 -/
-- a contract that was proved by hand
def small31 (p : S26) : Bool := decide (p.f0.size ≤ 2147483647) && decide (p.f1.size ≤ 2147483647)
def impl_MetricText.f (l0 : List S26) : Option ByteArray := if l0.length ≤ 1000 ∧ l0.all small31 = true ∧ (mjoin (setL l0)).size ≤ 140737488355300 then some (metricB (setL l0)) else none
theorem mem_setL {q : ByteArray × ByteArray} (l : List S26) (h : q ∈ setL l) : ∃ p ∈ l, q = (p.f0, p.f1) := by
  have key : ∀ (r : List S26) (m : MapsS.SM), q ∈ r.foldl (fun m p => MapsS.ins p.f0 p.f1 m) m → q ∈ m ∨ ∃ p ∈ r, q = (p.f0, p.f1) := by
    intro r
    induction r with
    | nil => intro m h; exact .inl h
    | cons x r ih =>
      intro m h
      rw [List.foldl_cons] at h
      rcases ih _ h with h | ⟨p, hp, e⟩
      · rcases MapsS.mem_ins h with h | h
        · exact .inr ⟨x, List.mem_cons_self, h⟩
        · exact .inl h
      · exact .inr ⟨p, List.mem_cons_of_mem _ hp, e⟩
  rcases key l [] h with h | h
  · cases h
  · exact h
theorem small31_two {l : List S26} (h : l.all small31 = true) : l.all small2 = true := List.all_eq_true.2 fun p hp => by
  have := List.all_eq_true.1 h p hp
  simp only [small31, small2, Bool.and_eq_true, decide_eq_true_eq] at this ⊢
  unfold maxLen
  omega
open Go.Lib Go.Proofs.YtenededepjfojaaDoor.Door in
set_option maxHeartbeats 1600000 in
theorem impl_MetricText.calls (A0 : Option Addr) (c0 : Nat) (l0 : List S26) (r : ByteArray) (w : World) (hr0 : Kd.C k26 w A0 l0.length l0) (hc0 : l0.length ≤ c0) (hT_ : PQ w) (h : impl_MetricText.f l0 = some r) :
    Calls Tryd.prog 7 #[.slice A0 l0.length c0] w fun e w' => e = .returned (.string r) ∧ Below w.heap.size w w' := by
  unfold impl_MetricText.f at h
  by_cases hc : l0.length ≤ 1000 ∧ l0.all small31 = true ∧ (mjoin (setL l0)).size ≤ 140737488355300
  · rw [if_pos hc] at h
    obtain rfl := Option.some.inj h
    clear h
    obtain ⟨h1, h2, h3⟩ := hc
    have C0 := Aside0.mk (impl_labelSet.calls A0 c0 l0 w hr0 hc0 (by unfold maxLen; omega) (small31_two h2))
    have HS := Aside0.mk (show ∀ p ∈ setL l0, p.1.size ≤ 2147483647 ∧ p.2.size ≤ 2147483647 from fun p hp => by
      obtain ⟨q, hq, rfl⟩ := mem_setL l0 hp
      have := List.all_eq_true.1 h2 q hq
      simpa only [small31, Bool.and_eq_true, decide_eq_true_eq] using this)
    have HL := Aside0.mk (Nat.le_trans (setL_le l0) h1)
    have HT := Aside0.mk hT_
    have HJ := Aside0.mk h3
    clear hr0 hc0 h1 h2 h3 hT_
    generalize setL l0 = m at *
    go_enter Tryd.func7, Tryd.ntmps7
    go_wp2_with fail
    refine (impl_metric.calls A0 c0 l0 w m C0.out).mono ?_
    rintro e w1 ⟨b, rfl, hb, hM, hB⟩
    have HM := Aside0.mk hM
    have HB := Aside0.mk hB
    clear hM hB hb
    go_wp2_with fail
    refine (metric_string b _ m w1 HM.out HL.out HS.out (PQ.below HT.out HB.out) HJ.out).mono ?_
    rintro e w2 ⟨rfl, hb⟩
    have HB2 := Aside0.mk (below_step HB.out hb)
    clear hb
    go_wp2
    go_ret
    exact ⟨rfl, HB2.out⟩
  · rw [if_neg hc] at h
    cases h


end Go.Proofs.YtenededepjfojaaDoor.Q
