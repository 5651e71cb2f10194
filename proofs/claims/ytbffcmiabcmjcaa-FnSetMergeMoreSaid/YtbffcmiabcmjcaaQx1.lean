-- printed by this project's own program wip/tools/mkprint.py (the kit's print.py with hand-proved contracts put in)
import Derived.Test.YtbffcmiabcmjcaaQx0
namespace Go.Proofs.Ytbffcmiabcmjcaa.Q
open Go.RowKit Go.Proofs.YtbffcmiabcmjcaaW.PrintWords Go.Proofs.YtbffcmiabcmjcaaW.PrintLast Go.Proofs.YtbffcmiabcmjcaaW.PrintMore
attribute [local go_sem] max2_int min2_int max_two min_two max_three min_three max_four min_four   -- for this text's walks alone
set_option linter.unusedVariables false
set_option linter.unusedSimpArgs false

/-! ### laws_zzFits2: function 34 -/
def laws_zzFits2.f (a0_0 : ByteArray) (a0_1 : ByteArray) : Option (Bool) := if (a0_0.size : Int) > 2147483647 then (some false) else (if (a0_1.size : Int) > 2147483647 then (some false) else (some true))
set_option maxHeartbeats 8000000 in
set_option maxRecDepth 100000 in
theorem laws_zzFits2.calls (a0_0 : ByteArray) (a0_1 : ByteArray) (r : Bool) (w : World) (h : laws_zzFits2.f a0_0 a0_1 = some r) :
    Calls Try.prog 34 #[.agg #[.string a0_0, .string a0_1]] w fun e w' => e = .returned (.bool r) ∧ Below w.heap.size w w' := by
  have hu26 := Try.underlying26
  have HB := Aside0.mk (Below.refl w.heap.size w)
  have H : (if (a0_0.size : Int) > 2147483647 then (some false) else (if (a0_1.size : Int) > 2147483647 then (some false) else (some true))) = some r := h
  clear h
  by_cases c2 : (a0_0.size : Int) > 2147483647
  · rw [if_pos c2] at H
    have c2b0 : decide (2147483647 < (a0_0.size : Int)) = true := decide_eq_true c2
    have c2b1 : decide (2147483647 < a0_0.size) = true := decide_eq_true (by omega)
    clear c2
    obtain rfl := Option.some.inj H
    go_enter Try.func34, Try.ntmps34
    go_wp2_with (first | ((with_reducible refine gate_dst (N := 1) rfl ?_); refine box_event ?hg (N := 1) ?hd (cs := #[.string a0_0, .string a0_1]) (t := 26) ?hr ?_; (case hd => rfl); (case hg => rfl); (case hr => first | (go_simp; done) | (go_simp; rfl)); intro gb101 hg w3 hbox hb; have n0_ := Aside0.mk (below_step (by repeat (first | (with_reducible first | exact HB.out | apply below_alloc | apply pw_below_drewN | apply below_drew1) | exact HB.out)) hb); have n1_ := Aside0.mk (hbox); have n2_ := Aside0.mk ((by rw [hg]; exact (below_size (by repeat (first | (with_reducible first | exact HB.out | apply below_alloc | apply pw_below_drewN | apply below_drew1) | exact HB.out))) : w.heap.size ≤ gb101)); have n3_ := Aside0.mk ((by rw [hg]; exact (below_size (by repeat (first | (with_reducible first | exact HB.out | apply below_alloc | apply pw_below_drewN | apply below_drew1) | exact HB.out))) : w.heap.size ≤ gb101)); clear HB; have HB := n0_; have BK101 := n1_; have GW101 := n2_; have GE101 := n3_; clear n0_ n1_ n2_ n3_; clear hb hbox hg; have hcz4_0 : w3.cell? ⟨gb101, 0, none⟩ = some (.string a0_0) := (blk_cell BK101.out 0).trans rfl; have hcz4_1 : w3.cell? ⟨gb101, 1, none⟩ = some (.string a0_1) := (blk_cell BK101.out 1).trans rfl; have hfz4_0 := blk_frozen BK101.out 0; have hfz4_1 := blk_frozen BK101.out 1))
    go_ret
    exact ⟨by first | rfl | (simp [errW_none, errW_some] <;> rfl) | (simp [*, errW_none, errW_some] <;> rfl), by repeat (first | (with_reducible first | exact HB.out | apply below_alloc | apply pw_below_drewN | apply below_drew1 | refine below_set ?_ GE101.out) | exact HB.out)⟩
  · rw [if_neg c2] at H
    have c2b0 : decide (2147483647 < (a0_0.size : Int)) = false := decide_eq_false c2
    have c2b1 : decide (2147483647 < a0_0.size) = false := decide_eq_false (by omega)
    clear c2
    by_cases c5 : (a0_1.size : Int) > 2147483647
    · rw [if_pos c5] at H
      have c5b0 : decide (2147483647 < (a0_1.size : Int)) = true := decide_eq_true c5
      have c5b1 : decide (2147483647 < a0_1.size) = true := decide_eq_true (by omega)
      clear c5
      obtain rfl := Option.some.inj H
      go_enter Try.func34, Try.ntmps34
      go_wp2_with (first | ((with_reducible refine gate_dst (N := 1) rfl ?_); refine box_event ?hg (N := 1) ?hd (cs := #[.string a0_0, .string a0_1]) (t := 26) ?hr ?_; (case hd => rfl); (case hg => rfl); (case hr => first | (go_simp; done) | (go_simp; rfl)); intro gb101 hg w6 hbox hb; have n0_ := Aside0.mk (below_step (by repeat (first | (with_reducible first | exact HB.out | apply below_alloc | apply pw_below_drewN | apply below_drew1) | exact HB.out)) hb); have n1_ := Aside0.mk (hbox); have n2_ := Aside0.mk ((by rw [hg]; exact (below_size (by repeat (first | (with_reducible first | exact HB.out | apply below_alloc | apply pw_below_drewN | apply below_drew1) | exact HB.out))) : w.heap.size ≤ gb101)); have n3_ := Aside0.mk ((by rw [hg]; exact (below_size (by repeat (first | (with_reducible first | exact HB.out | apply below_alloc | apply pw_below_drewN | apply below_drew1) | exact HB.out))) : w.heap.size ≤ gb101)); clear HB; have HB := n0_; have BK101 := n1_; have GW101 := n2_; have GE101 := n3_; clear n0_ n1_ n2_ n3_; clear hb hbox hg; have hcz7_0 : w6.cell? ⟨gb101, 0, none⟩ = some (.string a0_0) := (blk_cell BK101.out 0).trans rfl; have hcz7_1 : w6.cell? ⟨gb101, 1, none⟩ = some (.string a0_1) := (blk_cell BK101.out 1).trans rfl; have hfz7_0 := blk_frozen BK101.out 0; have hfz7_1 := blk_frozen BK101.out 1))
      go_ret
      exact ⟨by first | rfl | (simp [errW_none, errW_some] <;> rfl) | (simp [*, errW_none, errW_some] <;> rfl), by repeat (first | (with_reducible first | exact HB.out | apply below_alloc | apply pw_below_drewN | apply below_drew1 | refine below_set ?_ GE101.out) | exact HB.out)⟩
    · rw [if_neg c5] at H
      have c5b0 : decide (2147483647 < (a0_1.size : Int)) = false := decide_eq_false c5
      have c5b1 : decide (2147483647 < a0_1.size) = false := decide_eq_false (by omega)
      clear c5
      obtain rfl := Option.some.inj H
      go_enter Try.func34, Try.ntmps34
      go_wp2_with (first | ((with_reducible refine gate_dst (N := 1) rfl ?_); refine box_event ?hg (N := 1) ?hd (cs := #[.string a0_0, .string a0_1]) (t := 26) ?hr ?_; (case hd => rfl); (case hg => rfl); (case hr => first | (go_simp; done) | (go_simp; rfl)); intro gb101 hg w8 hbox hb; have n0_ := Aside0.mk (below_step (by repeat (first | (with_reducible first | exact HB.out | apply below_alloc | apply pw_below_drewN | apply below_drew1) | exact HB.out)) hb); have n1_ := Aside0.mk (hbox); have n2_ := Aside0.mk ((by rw [hg]; exact (below_size (by repeat (first | (with_reducible first | exact HB.out | apply below_alloc | apply pw_below_drewN | apply below_drew1) | exact HB.out))) : w.heap.size ≤ gb101)); have n3_ := Aside0.mk ((by rw [hg]; exact (below_size (by repeat (first | (with_reducible first | exact HB.out | apply below_alloc | apply pw_below_drewN | apply below_drew1) | exact HB.out))) : w.heap.size ≤ gb101)); clear HB; have HB := n0_; have BK101 := n1_; have GW101 := n2_; have GE101 := n3_; clear n0_ n1_ n2_ n3_; clear hb hbox hg; have hcz9_0 : w8.cell? ⟨gb101, 0, none⟩ = some (.string a0_0) := (blk_cell BK101.out 0).trans rfl; have hcz9_1 : w8.cell? ⟨gb101, 1, none⟩ = some (.string a0_1) := (blk_cell BK101.out 1).trans rfl; have hfz9_0 := blk_frozen BK101.out 0; have hfz9_1 := blk_frozen BK101.out 1))
      go_ret
      exact ⟨by first | rfl | (simp [errW_none, errW_some] <;> rfl) | (simp [*, errW_none, errW_some] <;> rfl), by repeat (first | (with_reducible first | exact HB.out | apply below_alloc | apply pw_below_drewN | apply below_drew1 | refine below_set ?_ GE101.out) | exact HB.out)⟩

/-! ### laws_zzFits1: function 11 -/
def laws_zzFits1.l0 : Nat → List (S26) → Int → Int → Option (Bool)
  | 0, _, _, _ => none
  | k + 1, x8, x9, x10 => if x10 < x9 then (if 0 ≤ x10 then (if x10 < (x8.length : Int) then ((laws_zzFits2.f ((rd_T26 x8 x10).f0) ((rd_T26 x8 x10).f1)).bind fun t104 => (if t104 = true then (laws_zzFits1.l0 k x8 x9 (wrap64 (x10 + 1))) else (some false))) else (none)) else (none)) else (some true)
def laws_zzFits1.f (k : Nat) (l0 : List (S26)) : Option (Bool) := if (l0.length : Int) > 2147483647 then (some false) else (laws_zzFits1.l0 k l0 (l0.length : Int) 0)
theorem laws_zzFits1.mono_l : ∀ k, (∀ y0 y1 y2, LeO (laws_zzFits1.l0 k y0 y1 y2) (laws_zzFits1.l0 (k + 1) y0 y1 y2))
  | 0 => fun _ _ _ r h => by simp [laws_zzFits1.l0] at h
  | k + 1 => by
    have ih0 := laws_zzFits1.mono_l k
    · intro y0 y1 y2
      unfold laws_zzFits1.l0
      repeat' first
      | (with_reducible exact ih0 _ _ _)
      | (with_reducible exact LeO.refl _)
      | (with_reducible exact LeO.none _)
      | (with_reducible refine LeO.ite ?_ ?_)
      | (with_reducible refine LeO.bind ?_ (fun _ => ?_))
      | exact ih0 _ _ _
      | exact LeO.none _
      | refine LeO.ite ?_ ?_
      | refine LeO.bind ?_ (fun _ => ?_)
theorem laws_zzFits1.mono : ∀ a0 k, LeO (laws_zzFits1.f k a0) (laws_zzFits1.f (k + 1) a0) := by
  intro a0 k
  have ih0 := laws_zzFits1.mono_l k
  unfold laws_zzFits1.f
  repeat' first
      | (with_reducible exact ih0 _ _ _)
      | (with_reducible exact LeO.refl _)
      | (with_reducible exact LeO.none _)
      | (with_reducible refine LeO.ite ?_ ?_)
      | (with_reducible refine LeO.bind ?_ (fun _ => ?_))
      | exact ih0 _ _ _
      | exact LeO.none _
      | refine LeO.ite ?_ ?_
      | refine LeO.bind ?_ (fun _ => ?_)
set_option maxHeartbeats 8000000 in
set_option maxRecDepth 100000 in
theorem laws_zzFits1.calls (k : Nat) (A0 : Option Addr) (c0 : Nat) (l0 : List (S26)) (r : Bool) (w : World) (hr0 : Kd.C k26 w A0 l0.length l0) (hc0 : l0.length ≤ c0) (h : laws_zzFits1.f k l0 = some r) :
    Calls Try.prog 11 #[.slice A0 l0.length c0] w fun e w' => e = .returned (.bool r) ∧ Below w.heap.size w w' := by
  have hu26 := Try.underlying26
  have HR0 := Aside0.mk hr0
  have HC0 := Aside0.mk hc0
  clear hr0 hc0
  have HB := Aside0.mk (Below.refl w.heap.size w)
  have H : (if (l0.length : Int) > 2147483647 then (some false) else (laws_zzFits1.l0 k l0 (l0.length : Int) 0)) = some r := h
  clear h
  by_cases c2 : (l0.length : Int) > 2147483647
  · rw [if_pos c2] at H
    have c2b0 : decide (2147483647 < (l0.length : Int)) = true := decide_eq_true c2
    have c2b1 : decide (2147483647 < l0.length) = true := decide_eq_true (by omega)
    clear c2
    obtain rfl := Option.some.inj H
    go_enter Try.func11, Try.ntmps11
    go_wp2
    go_ret
    exact ⟨by first | rfl | (simp [errW_none, errW_some] <;> rfl) | (simp [*, errW_none, errW_some] <;> rfl), by repeat (first | (with_reducible first | exact HB.out | apply below_alloc | apply pw_below_drewN | apply below_drew1) | exact HB.out)⟩
  · rw [if_neg c2] at H
    have c2b0 : decide (2147483647 < (l0.length : Int)) = false := decide_eq_false c2
    have c2b1 : decide (2147483647 < l0.length) = false := decide_eq_false (by omega)
    clear c2
    have H' := Aside0.mk H
    clear H
    go_enter Try.func11, Try.ntmps11
    go_wp2
    go_loopg [10] k (fun kq v10 w' => ∃ (x10_1 : Int), v10 = .int .i64 x10_1 ∧ Aside0 (laws_zzFits1.l0 kq l0 (l0.length : Int) x10_1 = some r) ∧ Aside0 (kq ≤ k) ∧ Aside0 (Below w.heap.size w w'))
    case atStart => exact ⟨(0), (by first | rfl | (simp; done) | (simp [*]; done)), H', ⟨Nat.le_refl _⟩, ⟨by repeat (first | (with_reducible first | exact HB.out | apply below_alloc | apply pw_below_drewN | apply below_drew1) | exact HB.out)⟩⟩
    case round =>
      clear H'
      try clear c1
      try clear c2
      try clear c2b0
      try clear c2b1
      try clear p2
      obtain ⟨x10_1, rfl, HA, HK1, HB⟩ := hrel
      cases gk with
      | zero => exact absurd HA.out (by simp [laws_zzFits1.l0])
      | succ k1 =>
        have H := HA.out
        clear HA
        simp only [laws_zzFits1.l0] at H
        by_cases c3 : x10_1 < (l0.length : Int)
        · rw [if_pos c3] at H
          have c3b0 : decide (x10_1 < (l0.length : Int)) = true := decide_eq_true c3
          clear c3
          by_cases c4 : 0 ≤ x10_1
          · rw [if_pos c4] at H
            have c4b0 : decide (0 ≤ x10_1) = true := decide_eq_true c4
            clear c4
            by_cases c5 : x10_1 < (l0.length : Int)
            · rw [if_pos c5] at H
              have c5b0 : decide (x10_1 < (l0.length : Int)) = true := decide_eq_true c5
              clear c5
              replace H := Option.bind_eq_some_iff.mp H
              obtain ⟨t104, A60, H⟩ := H
              replace H : (if t104 = true then (laws_zzFits1.l0 k1 l0 (l0.length : Int) (wrap64 (x10_1 + 1))) else (some false)) = some r := H
              have A6 := Aside0.mk A60
              clear A60
              by_cases c7 : t104 = true
              · subst c7
                have H1 : (laws_zzFits1.l0 k1 l0 (l0.length : Int) (wrap64 (x10_1 + 1))) = some r := by rw [if_pos rfl] at H; exact H
                clear H
                have H := H1
                clear H1
                have H' := Aside0.mk H
                clear H
                have p102 : 0 ≤ (x10_1 : Int) := of_decide_eq_true (by first | (with_reducible assumption) | assumption)
                have q102 : x10_1 < (l0.length : Int) := of_decide_eq_true (by first | (with_reducible assumption) | assumption)
                obtain ⟨ad102, e102, hx102_0, hx102_1⟩ := at_T26 HR0.out x10_1 p102 q102
                cases e102
                replace hx102_0 := (HB.out.cell (World.block_lt_of_cell? w _ hx102_0)).trans hx102_0
                replace hx102_1 := (HB.out.cell (World.block_lt_of_cell? w _ hx102_1)).trans hx102_1
                replace p102 := eq_true p102
                replace q102 := eq_true q102
                go_wp2_with (first | ((with_reducible refine gate_dst (N := 4) rfl ?_); refine box_event ?hg (N := 4) ?hd (cs := #[.string (⟨#[]⟩ : ByteArray), .string (⟨#[]⟩ : ByteArray)]) (t := 26) ?hr ?_; (case hd => rfl); (case hg => rfl); (case hr => first | (go_simp; done) | (go_simp; rfl)); intro gb103 hg w8 hbox hb; have n0_ := Aside0.mk (below_step (by repeat (first | (with_reducible first | exact HB.out | apply below_alloc | apply pw_below_drewN | apply below_drew1) | exact HB.out)) hb); have n1_ := Aside0.mk (hbox); have n2_ := Aside0.mk ((by rw [hg]; exact (below_size (by repeat (first | (with_reducible first | exact HB.out | apply below_alloc | apply pw_below_drewN | apply below_drew1) | exact HB.out))) : w.heap.size ≤ gb103)); have n3_ := Aside0.mk ((by rw [hg]; exact (below_size (by repeat (first | (with_reducible first | exact HB.out | apply below_alloc | apply pw_below_drewN | apply below_drew1) | exact HB.out))) : w.heap.size ≤ gb103)); clear HB; have HB := n0_; have BK103 := n1_; have GW103 := n2_; have GE103 := n3_; clear n0_ n1_ n2_ n3_; clear hb hbox hg; have hcz9_0 : w8.cell? ⟨gb103, 0, none⟩ = some (.string (⟨#[]⟩ : ByteArray)) := (blk_cell BK103.out 0).trans rfl; have hcz9_1 : w8.cell? ⟨gb103, 1, none⟩ = some (.string (⟨#[]⟩ : ByteArray)) := (blk_cell BK103.out 1).trans rfl; have hfz9_0 := blk_frozen BK103.out 0; have hfz9_1 := blk_frozen BK103.out 1) | ((with_reducible refine gate_callee (f := 34) rfl ?_); refine goesL_ (some 15) rfl rfl Try.func34 (by kernel_rfl) rfl #[.agg #[.string ((rd_T26 l0 x10_1).f0), .string ((rd_T26 l0 x10_1).f1)]] rfl (by (try simp only [List.map_toArray, List.map_cons, List.map_nil]); first | done | rfl | (simp only [List.length_drop, List.length_take]; rfl)) ?_; (with_reducible refine (laws_zzFits2.calls ((rd_T26 l0 x10_1).f0) ((rd_T26 l0 x10_1).f1) true _ A6.out).mono ?_); rintro e w10 ⟨rfl, hb⟩; refine ⟨_, rfl, ?_⟩; have n0_ := Aside0.mk (blk_below (g := gb103) (o := .cells #[.string ((rd_T26 l0 x10_1).f0), .string ((rd_T26 l0 x10_1).f1)] 26 (0, 0)) (by (with_reducible repeat (first | refine blk_drewN ?_ _ | refine blk_drew ?_ | refine blk_alloc ?_ _)); refine blk_put (cs := #[.string ((rd_T26 l0 x10_1).f0), .string (⟨#[]⟩ : ByteArray)]) ?_ 1 _ rfl; (with_reducible repeat (first | refine blk_drewN ?_ _ | refine blk_drew ?_ | refine blk_alloc ?_ _)); refine blk_put (cs := #[.string (⟨#[]⟩ : ByteArray), .string (⟨#[]⟩ : ByteArray)]) ?_ 0 _ rfl; (with_reducible repeat (first | refine blk_drewN ?_ _ | refine blk_drew ?_ | refine blk_alloc ?_ _)); exact BK103.out) hb); have n1_ := Aside0.mk (below_step (by repeat (first | (with_reducible first | exact HB.out | apply below_alloc | apply pw_below_drewN | apply below_drew1 | refine below_set ?_ GE103.out) | exact HB.out)) hb); clear BK103; clear HB; have BK103 := n0_; have HB := n1_; clear n0_ n1_; (try clear hb); (try clear hb2); (try clear hk); (try clear hi)))
                go_roundg k1
                case measure => have := HK1.out; omega
                case rel => exact ⟨(wrap64 (x10_1 + 1)), (by first | rfl | (simp; done) | (simp [*]; done)), H', ⟨by have := HK1.out; omega⟩, ⟨by repeat (first | (with_reducible first | exact HB.out | apply below_alloc | apply pw_below_drewN | apply below_drew1 | refine below_set ?_ GE103.out) | exact HB.out)⟩⟩
              · replace c7 := Bool.eq_false_iff.mpr c7
                subst c7
                have H1 : (some false) = some r := by rw [if_neg (show ¬ (false = true) by decide)] at H; exact H
                clear H
                have H := H1
                clear H1
                obtain rfl := Option.some.inj H
                have p102 : 0 ≤ (x10_1 : Int) := of_decide_eq_true (by first | (with_reducible assumption) | assumption)
                have q102 : x10_1 < (l0.length : Int) := of_decide_eq_true (by first | (with_reducible assumption) | assumption)
                obtain ⟨ad102, e102, hx102_0, hx102_1⟩ := at_T26 HR0.out x10_1 p102 q102
                cases e102
                replace hx102_0 := (HB.out.cell (World.block_lt_of_cell? w _ hx102_0)).trans hx102_0
                replace hx102_1 := (HB.out.cell (World.block_lt_of_cell? w _ hx102_1)).trans hx102_1
                replace p102 := eq_true p102
                replace q102 := eq_true q102
                go_wp2_with (first | ((with_reducible refine gate_dst (N := 4) rfl ?_); refine box_event ?hg (N := 4) ?hd (cs := #[.string (⟨#[]⟩ : ByteArray), .string (⟨#[]⟩ : ByteArray)]) (t := 26) ?hr ?_; (case hd => rfl); (case hg => rfl); (case hr => first | (go_simp; done) | (go_simp; rfl)); intro gb103 hg w11 hbox hb; have n0_ := Aside0.mk (below_step (by repeat (first | (with_reducible first | exact HB.out | apply below_alloc | apply pw_below_drewN | apply below_drew1) | exact HB.out)) hb); have n1_ := Aside0.mk (hbox); have n2_ := Aside0.mk ((by rw [hg]; exact (below_size (by repeat (first | (with_reducible first | exact HB.out | apply below_alloc | apply pw_below_drewN | apply below_drew1) | exact HB.out))) : w.heap.size ≤ gb103)); have n3_ := Aside0.mk ((by rw [hg]; exact (below_size (by repeat (first | (with_reducible first | exact HB.out | apply below_alloc | apply pw_below_drewN | apply below_drew1) | exact HB.out))) : w.heap.size ≤ gb103)); clear HB; have HB := n0_; have BK103 := n1_; have GW103 := n2_; have GE103 := n3_; clear n0_ n1_ n2_ n3_; clear hb hbox hg; have hcz12_0 : w11.cell? ⟨gb103, 0, none⟩ = some (.string (⟨#[]⟩ : ByteArray)) := (blk_cell BK103.out 0).trans rfl; have hcz12_1 : w11.cell? ⟨gb103, 1, none⟩ = some (.string (⟨#[]⟩ : ByteArray)) := (blk_cell BK103.out 1).trans rfl; have hfz12_0 := blk_frozen BK103.out 0; have hfz12_1 := blk_frozen BK103.out 1) | ((with_reducible refine gate_callee (f := 34) rfl ?_); refine goesL_ (some 15) rfl rfl Try.func34 (by kernel_rfl) rfl #[.agg #[.string ((rd_T26 l0 x10_1).f0), .string ((rd_T26 l0 x10_1).f1)]] rfl (by (try simp only [List.map_toArray, List.map_cons, List.map_nil]); first | done | rfl | (simp only [List.length_drop, List.length_take]; rfl)) ?_; (with_reducible refine (laws_zzFits2.calls ((rd_T26 l0 x10_1).f0) ((rd_T26 l0 x10_1).f1) false _ A6.out).mono ?_); rintro e w13 ⟨rfl, hb⟩; refine ⟨_, rfl, ?_⟩; have n0_ := Aside0.mk (blk_below (g := gb103) (o := .cells #[.string ((rd_T26 l0 x10_1).f0), .string ((rd_T26 l0 x10_1).f1)] 26 (0, 0)) (by (with_reducible repeat (first | refine blk_drewN ?_ _ | refine blk_drew ?_ | refine blk_alloc ?_ _)); refine blk_put (cs := #[.string ((rd_T26 l0 x10_1).f0), .string (⟨#[]⟩ : ByteArray)]) ?_ 1 _ rfl; (with_reducible repeat (first | refine blk_drewN ?_ _ | refine blk_drew ?_ | refine blk_alloc ?_ _)); refine blk_put (cs := #[.string (⟨#[]⟩ : ByteArray), .string (⟨#[]⟩ : ByteArray)]) ?_ 0 _ rfl; (with_reducible repeat (first | refine blk_drewN ?_ _ | refine blk_drew ?_ | refine blk_alloc ?_ _)); exact BK103.out) hb); have n1_ := Aside0.mk (below_step (by repeat (first | (with_reducible first | exact HB.out | apply below_alloc | apply pw_below_drewN | apply below_drew1 | refine below_set ?_ GE103.out) | exact HB.out)) hb); clear BK103; clear HB; have BK103 := n0_; have HB := n1_; clear n0_ n1_; (try clear hb); (try clear hb2); (try clear hk); (try clear hi)))
                go_ret
                exact ⟨by first | rfl | (simp [errW_none, errW_some] <;> rfl) | (simp [*, errW_none, errW_some] <;> rfl), by repeat (first | (with_reducible first | exact HB.out | apply below_alloc | apply pw_below_drewN | apply below_drew1 | refine below_set ?_ GE103.out) | exact HB.out)⟩
            · rw [if_neg c5] at H
              exact absurd H (by simp)
          · rw [if_neg c4] at H
            exact absurd H (by simp)
        · rw [if_neg c3] at H
          have c3b0 : decide (x10_1 < (l0.length : Int)) = false := decide_eq_false c3
          clear c3
          obtain rfl := Option.some.inj H
          go_wp2
          go_ret
          exact ⟨by first | rfl | (simp [errW_none, errW_some] <;> rfl) | (simp [*, errW_none, errW_some] <;> rfl), by repeat (first | (with_reducible first | exact HB.out | apply below_alloc | apply pw_below_drewN | apply below_drew1) | exact HB.out)⟩

/-! ### laws_much: function 13 -/
def laws_much.f (l0 : List (S26)) : Option (Bool) := some (decide ((l0.length : Int) > 300))
set_option maxHeartbeats 8000000 in
set_option maxRecDepth 100000 in
theorem laws_much.calls (A0 : Option Addr) (c0 : Nat) (l0 : List (S26)) (r : Bool) (w : World) (hr0 : Kd.C k26 w A0 l0.length l0) (hc0 : l0.length ≤ c0) (h : laws_much.f l0 = some r) :
    Calls Try.prog 13 #[.slice A0 l0.length c0] w fun e w' => e = .returned (.bool r) ∧ Drawn0 w w' := by
  have HR0 := Aside0.mk hr0
  have HC0 := Aside0.mk hc0
  clear hr0 hc0
  have H : (some (decide ((l0.length : Int) > 300))) = some r := h
  clear h
  obtain rfl := Option.some.inj H
  go_enter Try.func13, Try.ntmps13
  go_wp2
  go_ret
  exact ⟨by first | rfl | (simp; done) | (simp [*]; done), by repeat (first | exact Drawn0.refl _ | apply Drawn0.step)⟩

/-! ### bits_Len32: function 66 -/
-- contracts that were proved by hand
-- nothing told here: the shelf's contract of sort.Strings stands in its place


/-! ### bits_Len64: function 67 -/
-- contracts that were proved by hand
-- nothing told here: the shelf's contract of sort.Strings stands in its place


/-! ### bits_Len: function 62 -/
-- contracts that were proved by hand
-- nothing told here: the shelf's contract of sort.Strings stands in its place


/-! ### cmp_isNaN_string: function 97 -/
-- contracts that were proved by hand
-- nothing told here: the shelf's contract of sort.Strings stands in its place


/-! ### cmp_Less_string: function 88 -/
-- contracts that were proved by hand
-- nothing told here: the shelf's contract of sort.Strings stands in its place


/-! ### slices_insertionSortOrdered_string: function 82 -/
-- contracts that were proved by hand
-- nothing told here: the shelf's contract of sort.Strings stands in its place


/-! ### slices_siftDownOrdered_string: function 92 -/
-- contracts that were proved by hand
-- nothing told here: the shelf's contract of sort.Strings stands in its place


/-! ### slices_heapSortOrdered_string: function 83 -/
-- contracts that were proved by hand
-- nothing told here: the shelf's contract of sort.Strings stands in its place


/-! ### slices_nextPowerOfTwo: function 93 -/
-- contracts that were proved by hand
-- nothing told here: the shelf's contract of sort.Strings stands in its place


/-! ### slices_xorshift_Next: function 94 -/
-- contracts that were proved by hand
-- nothing told here: the shelf's contract of sort.Strings stands in its place


/-! ### slices_breakPatternsOrdered_string: function 84 -/
-- contracts that were proved by hand
-- nothing told here: the shelf's contract of sort.Strings stands in its place


/-! ### slices_order2Ordered_string: function 98 -/
-- contracts that were proved by hand
-- nothing told here: the shelf's contract of sort.Strings stands in its place


/-! ### slices_medianOrdered_string: function 96 -/
-- contracts that were proved by hand
-- nothing told here: the shelf's contract of sort.Strings stands in its place


/-! ### slices_medianAdjacentOrdered_string: function 95 -/
-- contracts that were proved by hand
-- nothing told here: the shelf's contract of sort.Strings stands in its place


/-! ### slices_choosePivotOrdered_string: function 85 -/
-- contracts that were proved by hand
-- nothing told here: the shelf's contract of sort.Strings stands in its place


/-! ### slices_reverseRangeOrdered_string: function 86 -/
-- contracts that were proved by hand
-- nothing told here: the shelf's contract of sort.Strings stands in its place


/-! ### slices_partialInsertionSortOrdered_string: function 87 -/
-- contracts that were proved by hand
-- nothing told here: the shelf's contract of sort.Strings stands in its place


/-! ### slices_partitionEqualOrdered_string: function 89 -/
-- contracts that were proved by hand
-- nothing told here: the shelf's contract of sort.Strings stands in its place


/-! ### slices_partitionOrdered_string: function 90 -/
-- contracts that were proved by hand
-- nothing told here: the shelf's contract of sort.Strings stands in its place


/-! ### slices_pdqsortOrdered_string: function 76 -/
-- contracts that were proved by hand
-- nothing told here: the shelf's contract of sort.Strings stands in its place


/-! ### slices_Sort_string_string: function 64 -/
-- contracts that were proved by hand
-- nothing told here: the shelf's contract of sort.Strings stands in its place


/-! ### sort_Strings: function 57 -/
-- contracts that were proved by hand
/-- A row of texts of the call's own, sorted in its place. -/
theorem sort_Strings.own (v : Value) (xs : List ByteArray) (w : World) (base : Nat) (h : Kd.R Kd.string 9 w base (fun _ => True) v xs) (hl : xs.length < 4611686018427387904) :
    Calls Try.prog 57 #[v] w fun e w' => e = .returned (.tuple #[]) ∧ Kd.R Kd.string 9 w' base (fun _ => True) v (sortB xs) ∧ w.grownBy w' v.ownBlock := by
  have ho := Kd.own_of_R h
  rcases ho.2 with ⟨rfl, hn⟩ | ⟨g, cap, cur, rfl, hbase, hb, h1, h2, h3, h4⟩
  · obtain rfl : xs = [] := List.length_eq_zero_iff.1 hn
    refine (Try.sort_Strings_none none 0 w).mono ?_
    rintro e w1 ⟨rfl, rfl⟩
    have e : sortB [] = [] := by simp [sortB]
    rw [e]
    exact ⟨rfl, h, ⟨rfl, rfl, rfl, Nat.le_refl _, fun _ _ _ => rfl⟩⟩
  · have hl2 : (xs.map (·.data.toList)).length = xs.length := List.length_map ..
    have h4' : cur.toList.take (xs.map (·.data.toList)).length = (xs.map (·.data.toList)).map encStr := by rw [hl2, enc_map]; simpa using h4
    have hH := holds_of_block hb h4'
    have C := Try.sort_Strings g 0 cap (xs.map (·.data.toList)) w hH (Array.getElem?_eq_some_iff.1 hb).1 (by rw [hl2]; exact hl)
    rw [hl2] at C
    refine C.mono ?_
    rintro e w1 ⟨rfl, n, os, rfl⟩
    rw [← sortB_map]
    have hl3 : ((sortB xs).map (·.data.toList)).length = (xs.map (·.data.toList)).length := by rw [List.length_map, List.length_map, (sortB_perm xs).length_eq]
    have hown := ownsRow_sorted (n := n) (os := os) hl3 hbase hb (by rw [hl2]; exact h1) h2 h3
    rw [enc_map, hl2] at hown
    refine ⟨rfl, Kd.R_of_own (by rw [(sortB_perm xs).length_eq]; exact hown) (fun _ _ => trivial), ?_⟩
    exact grownBy_sorted _


/-! ### impl_sortedSet: function 35 -/
-- contracts that were proved by hand
def lenV : Value → Nat
  | .slice _ n _ => n
  | _ => 0
theorem bl_total (a b : List UInt8) : (decide (a ≤ b) || decide (b ≤ a)) = true := by
  rcases List.le_total a b with h | h <;> simp [h]
theorem rises_names {m : MapsS.SM} (h : MapsS.Rises m) : (m.map (·.1)).Pairwise fun x y => decide (x.data.toList ≤ y.data.toList) = true := by
  rw [List.pairwise_map]
  refine List.Pairwise.imp (fun {p q} hpq => ?_) h
  rw [Pure.less_eq] at hpq
  have := of_decide_eq_true hpq
  rw [Lib.toList_data, Lib.toList_data] at this
  exact decide_eq_true (List.le_of_lt this)
theorem sort_names {m : MapsS.SM} (h : MapsS.Rises m) {l : List ByteArray} (hp : l.Perm (m.map (·.1))) : sortB l = m.map (·.1) := by
  refine List.Perm.eq_of_pairwise (le := fun x y => decide (x.data.toList ≤ y.data.toList) = true) (fun a b _ _ h1 h2 => MapsS.ba_ext (List.le_antisymm (of_decide_eq_true h1) (of_decide_eq_true h2))) ?_ (rises_names h) ((sortB_perm l).trans hp)
  exact List.pairwise_mergeSort (le := fun x y : ByteArray => decide (x.data.toList ≤ y.data.toList)) (fun a b c h1 h2 => decide_eq_true (List.le_trans (of_decide_eq_true h1) (of_decide_eq_true h2))) (fun a b => bl_total _ _) l
def toPI (p : ByteArray × ByteArray) : S26 := ⟨p.1, p.2⟩
theorem infoStr : (Try.prog.info? 9).map (fun i => (i.zero, i.size, i.bytes)) = some (some (.string ⟨#[]⟩), 1, 16) := by kernel_rfl
theorem infoPI : (Try.prog.info? 26).map (fun i => (i.zero, i.size, i.bytes)) = some (some (.agg #[(.string ⟨#[]⟩), (.string ⟨#[]⟩)]), 2, 32) := by kernel_rfl
set_option maxHeartbeats 6400000 in
set_option maxRecDepth 100000 in
theorem impl_sortedSet.calls (b n : Nat) (m : MapsS.SM) (w : World) (h : LSet w b n m) (hl : m.length ≤ 1000000000) :
    Calls Try.prog 35 #[.map (some b)] w fun e w' => ∃ v, e = .returned v ∧ Kd.R k26 26 w' w.heap.size (fun _ => True) v (m.map toPI) ∧ Below w.heap.size w w' := by
  have H := Aside0.mk h
  have HL := Aside0.mk h.lt
  clear h
  go_enter Try.func35, Try.ntmps35
  go_wp2_with (at_range; refine MapsS.wpList_range_sm (t := 56) rfl _ rfl Try.underlying56 Try.underlying79 rfl H.out ?_; intro w2 r hr hR hg hsz; have HR := Aside0.mk hR; have HG := Aside0.mk (show r = w.heap.size from hr); have HB := Aside0.mk (pw_below_grown (Below.refl w.heap.size w) none (Nat.le_refl _) hg (by simp)); have HZ := Aside0.mk (show w.heap.size < w2.heap.size by omega); clear hr hR hg hsz)
  go_frame
  go_loopw [3, 10] (fun v3 _ wr => ∃ seen : MapsS.SM, Aside0 (Kd.R Kd.string 9 wr w.heap.size (fun k => k ≠ w.heap.size) v3 (seen.map (·.1))) ∧ Aside0 (MapsS.RSM Try.prog 79 91 wr b r n m seen) ∧ Aside0 (Below w.heap.size w wr) ∧ Aside0 (w.heap.size < wr.heap.size)) (fun v3 _ _ => m.length - lenV v3)
  case atStart => exact ⟨[], ⟨Kd.R_nil _ _ _ _ _⟩, HR, HB, HZ⟩
  case round =>
    clear HR HB HZ
    obtain ⟨seen, HO, HR, HB, HZ⟩ := hrel
    go_wp2_with (at_next; refine MapsS.wpList_next_sm rfl _ rfl Try.underlying79 Try.underlying91 rfl HR.out ?_ ?_)
    · intro hp
      have hlen : (seen.map (·.1)).length < 4611686018427387904 := by rw [List.length_map, hp.length_eq]; omega
      have HS := Aside0.mk (sort_Strings.own u3 (seen.map (·.1)) wr w.heap.size (Kd.R_mono HO.out (fun _ _ => trivial)) hlen)
      have HN := Aside0.mk (sort_names H.out.2.1 (hp.map (·.1)))
      have HK := Aside0.mk (show ∀ k, u3.ownBlock = some k → w.heap.size ≤ k from fun k hk => by obtain ⟨_, inner, ho, _⟩ := HO.out; exact own_base ho k hk)
      clear hp hlen HO HR
      go_wp2_with fail
      refine HS.out.mono ?_
      rintro e w4 ⟨rfl, hO4, hg4⟩
      rw [HN.out] at hO4
      have HB4 := Aside0.mk (pw_below_grown HB.out u3.ownBlock (below_size HB.out) hg4 HK.out)
      obtain ⟨A, c4, rfl, hlc, hC⟩ := Kd.R_reads hO4
      rw [List.length_map] at hlc hC
      have HC := Aside0.mk hC
      have HM := Aside0.mk (H.out.below HB4.out)
      clear hO4 hg4 hC HS HN HK HB HZ
      go_wp2
      go_loopw [5, 22] (fun v5 v22 wr => ∃ j : Nat, j ≤ m.length ∧ v22 = .int .i64 j ∧ Aside0 (Kd.R k26 26 wr w4.heap.size (fun _ => True) v5 ((m.take j).map toPI)) ∧ Aside0 (Below w4.heap.size w4 wr)) (fun _ v22 _ => m.length - (intOf v22).toNat)
      case atStart => exact ⟨0, Nat.zero_le _, rfl, ⟨Kd.R_nil _ _ _ _ _⟩, ⟨Below.refl _ _⟩⟩
      case round =>
        obtain ⟨j, hj, rfl, HO, HB5⟩ := hrel
        by_cases hlt : j < m.length
        · obtain ⟨ad, e0, hx⟩ := Kd.at_string (Kd.C_below HC.out HB5.out) (j : Int) (by omega) (by omega)
          cases e0
          have er : rdOf ByteArray.empty (m.map (·.1)) (j : Int) = m[j].1 := by simp [rdOf, hlt]
          simp only [Int.toNat_natCast] at hx
          rw [er] at hx
          have hm : (m[j].1, m[j].2) ∈ m := List.getElem_mem hlt
          have hk := (MapsS.look_mem H.out.2.1).2 hm
          have h2 : (Instr.lookup 56 (.map (some b)) (.string m[j].1) false).run Try.prog wr = .ok (.string m[j].2) wr := by
            have := (HM.out.below HB5.out).look_run Try.underlying56 Try.underlying79 Try.underlying91 (by rfl) (H.out.2.2 _ hm).1
            rw [hk] at this
            exact this
          have HT := Aside0.mk (show (m.take (j + 1)).map toPI = (m.take j).map toPI ++ [(⟨m[j].1, m[j].2⟩ : S26)] by rw [List.take_succ_eq_append_getElem hlt, List.map_append]; rfl)
          have HS := Aside0.mk (below_size HB5.out)
          clear er hm hk
          generalize m[j].1 = x at *
          generalize m[j].2 = c at *
          go_wp2_with ((with_reducible refine gate_builtin (b := .append) (xs := #[.tmp 26, .tmp 32]) rfl ?_); at_builtin; refine Kd.R_append k26 (w0 := w4) w4.heap.size rfl (.tmp 26) (.tmp 32) 22 26 (.agg #[(.string ⟨#[]⟩), (.string ⟨#[]⟩)]) 32 rfl Try.underlying22 infoPI rfl (by decide) (by omega) u5 ((m.take j).map toPI) (⟨x, c⟩ : S26) [.string x, .string c] (fun _ => True) (fun _ => False) rfl (by first | (go_simp; done) | (go_simp; rfl)) (k26_mkM _ _ _ (⟨x, c⟩ : S26)) (fun _ hk => hk.elim) (fun _ _ => trivial) HO.out HB5.out HS.out (by rw [List.length_map, List.length_take]; omega) ?_; intro v2 w6 hO2 hB2 hg2 hat2; rw [← HT.out] at hO2; have HO2 := Aside0.mk hO2; have HB2 := Aside0.mk hB2; clear hO2 hB2 hg2 hat2 HO HB5 HT HS h2 hx)
          go_roundw
          case rel => exact ⟨j + 1, by omega, by go_num, HO2, HB2⟩
          case measure => simp [intOf]; omega
        · have hj2 : j = m.length := by omega
          subst hj2
          have hO := HO.out
          rw [List.take_of_length_le (Nat.le_refl _)] at hO
          have HO2 := Aside0.mk hO
          clear hO HO
          go_wp2
          go_ret
          exact ⟨_, rfl, Kd.R_lower HO2.out (below_size HB4.out), below_step HB4.out HB5.out⟩
    · intro x c w3 hmem hnot hR hlt hg hsz hen
      have HO3 := Aside0.mk (Kd.R_grown HO.out hg (fun k hk e => hk (by injection e with e; rw [e]; exact HG.out)))
      have HB3 := Aside0.mk (pw_below_grown HB.out (some r) (below_size HB.out) hg (fun k hk => by injection hk with hk; have := HG.out; omega))
      have HR3 := Aside0.mk hR
      have HZ3 := Aside0.mk (show w.heap.size < w3.heap.size by rw [hsz]; exact HZ.out)
      have HT := Aside0.mk (show (seen ++ [(x, c)]).map (·.1) = seen.map (·.1) ++ [x] by simp)
      have HL3 := Aside0.mk (show seen.length < m.length by
        obtain ⟨_, _, _, _, hsub, hnd, _⟩ := hR
        have := sub_len hnd hsub
        rw [List.length_append, List.length_singleton] at this
        omega)
      have HK := Aside0.mk (show ∀ k, u3.ownBlock = some k → w.heap.size < k from fun k hk => by
        obtain ⟨h0, inner, ho, _⟩ := HO.out
        have := own_base ho k hk
        have := h0 k hk
        omega)
      have HU := Aside0.mk (show lenV u3 = seen.length by obtain ⟨A, c', e⟩ := Kd.R_slice HO.out; rw [e, List.length_map]; rfl)
      clear hmem hnot hR hlt hg hsz HO HR HB HZ
      go_wp2_with ((with_reducible refine gate_builtin (b := .append) (xs := #[.tmp 14, .tmp 16]) rfl ?_); at_builtin; refine Kd.R_append Kd.string (w0 := w) w.heap.size rfl (.tmp 14) (.tmp 16) 33 9 (.string ⟨#[]⟩) 16 rfl Try.underlying33 infoStr rfl (by decide) (by omega) u3 (seen.map (·.1)) x [.string x] (fun k => k ≠ w.heap.size) (fun _ => False) rfl (by first | (go_simp; done) | (go_simp; rfl)) rfl (fun _ hk => hk.elim) (fun k hk => by have := HZ3.out; omega) HO3.out HB3.out (below_size HB3.out) (by rw [List.length_map]; have := HL3.out; omega) ?_; intro v2 w2 hO2 hB2 hg2 hat2; rw [← HT.out] at hO2; have HO2 := Aside0.mk hO2; have HB2 := Aside0.mk hB2; have HR2 := Aside0.mk (HR3.out.kept hg2 (fun e => by have := HK.out _ e.symm; have := HL.out; omega) (fun e => by have := HK.out _ e.symm; have := HG.out; omega)); have HZ2 := Aside0.mk (Nat.lt_of_lt_of_le HZ3.out hg2.size); have HU2 := Aside0.mk (show lenV v2 = seen.length + 1 by obtain ⟨A, c', e⟩ := Kd.R_slice hO2; rw [e, List.length_map, List.length_append]; rfl); clear hO2 hB2 hg2 hat2 HO3 HB3 HR3 HT HZ3)
      go_roundw
      case rel => exact ⟨_, HO2, HR2, HB2, HZ2⟩
      case measure => have := HU.out; have := HU2.out; have := HL3.out; omega


/-! ### impl_labelSet: function 36 -/
-- contracts that were proved by hand
def setL (l : List S26) : MapsS.SM := l.foldl (fun m p => MapsS.ins p.f0 p.f1 m) []
theorem setL_snoc (l : List S26) (p : S26) : setL (l ++ [p]) = MapsS.ins p.f0 p.f1 (setL l) := by simp [setL, List.foldl_append]
def small2 (p : S26) : Bool := decide (p.f0.size ≤ maxLen) && decide (p.f1.size ≤ maxLen)
def lessMax (l : List S26) : Bool := decide (l.length < maxLen) && l.all small2
def less9 (l : List S26) : Bool := decide (l.length ≤ 1000000000) && l.all small2
theorem setL_le (l : List S26) : (setL l).length ≤ l.length := by
  have h : ∀ (r : List S26) (m : MapsS.SM), (r.foldl (fun m p => MapsS.ins p.f0 p.f1 m) m).length ≤ m.length + r.length := by
    intro r
    induction r with
    | nil => intro m; exact Nat.le_refl _
    | cons x r ih =>
      intro m
      have h1 := ih (MapsS.ins x.f0 x.f1 m)
      have h2 := MapsS.len_ins x.f0 x.f1 m
      rw [List.foldl_cons, List.length_cons]
      omega
  have := h l []
  simpa [setL] using this
set_option maxHeartbeats 1600000 in
set_option maxRecDepth 100000 in
theorem impl_labelSet.calls (A0 : Option Addr) (c0 : Nat) (l0 : List S26) (w : World) (hr0 : Kd.C k26 w A0 l0.length l0) (hc0 : l0.length ≤ c0) (hl : l0.length < maxLen) (hs : l0.all small2 = true) :
    Calls Try.prog 36 #[.slice A0 l0.length c0] w fun e w' => ∃ b, e = .returned (.map (some b)) ∧ w.heap.size ≤ b ∧ LSet w' b l0.length (setL l0) ∧ Below w.heap.size w w' := by
  have HR0 := Aside0.mk hr0
  have HC0 := Aside0.mk hc0
  have HS := Aside0.mk hs
  clear hr0 hc0 hs
  unfold maxLen at hl
  have hmm := @run_makeMap Try.prog
  go_enter Try.func36, Try.ntmps36
  go_wp2
  have H0 : LSet (w.alloc (.map #[] 0)) w.heap.size 0 (setL (l0.take 0)) := MapsS.IsSM.made w Try.prog _ _
  have HM0 := Aside0.mk H0
  clear H0
  go_loopw [9] (fun v9 wr => ∃ j : Nat, j ≤ l0.length ∧ v9 = .int .i64 j ∧ Aside0 (LSet wr w.heap.size j (setL (l0.take j))) ∧ Aside0 (Below w.heap.size w wr)) (fun v9 _ => l0.length - (intOf v9).toNat)
  case atStart => exact ⟨0, Nat.zero_le _, rfl, HM0, ⟨below_alloc (Below.refl _ _) _⟩⟩
  case round =>
    clear HM0
    obtain ⟨j, hj, rfl, HM, HB⟩ := hrel
    by_cases hlt : j < l0.length
    · obtain ⟨ad, e0, hx0, hx1⟩ := at_T26 HR0.out (j : Int) (by omega) (by omega)
      cases e0
      replace hx0 := (HB.out.cell (World.block_lt_of_cell? w _ hx0)).trans hx0
      replace hx1 := (HB.out.cell (World.block_lt_of_cell? w _ hx1)).trans hx1
      simp only [Int.toNat_natCast] at hx0 hx1
      have hsm := List.all_eq_true.1 HS.out (rd_T26 l0 (j : Int)) (by show l0.getD j z26 ∈ l0; rw [List.getD_eq_getElem?_getD, List.getElem?_eq_getElem hlt]; exact List.getElem_mem hlt)
      simp only [small2, Bool.and_eq_true, decide_eq_true_eq] at hsm
      have HK := Aside0.mk hsm.1
      have HV := Aside0.mk hsm.2
      have HT := Aside0.mk (show setL (l0.take (j + 1)) = MapsS.ins (rd_T26 l0 (j : Int)).f0 (rd_T26 l0 (j : Int)).f1 (setL (l0.take j)) by rw [Box.take_more l0 z26 j hlt, setL_snoc]; rfl)
      clear hsm
      go_wp2_with (at_mapUpdate; refine MapsS.wpList_store_sm (t := 56) (k := 79) (e := 91) rfl _ _ _ rfl Try.underlying56 Try.underlying79 Try.underlying91 rfl (HM.out.alloc _) (by unfold maxLen; omega) rfl rfl HK.out HV.out ?_; intro w2 hM2 hg2; rw [← HT.out] at hM2; have HM2 := Aside0.mk hM2; have HB2 := Aside0.mk (pw_below_grown (below_alloc HB.out _) _ (by have := below_size HB.out; simp; omega) hg2 (fun k hk => by injection hk with hk; omega)); clear hM2 hg2 HM HB HT)
      go_roundw
      case rel => exact ⟨j + 1, by omega, by go_num, HM2, HB2⟩
      case measure => simp [intOf]; omega
    · have hj2 : j = l0.length := by omega
      subst hj2
      go_wp2
      go_ret
      have h := HM.out
      rw [List.take_of_length_le (Nat.le_refl _)] at h
      exact ⟨_, rfl, Nat.le_refl _, h, HB.out⟩


/-! ### model_LabelSet_Merge: function 42 -/
-- contracts that were proved by hand
theorem lastV_perm {m : MapsS.SM} (hm : MapsS.Rises m) {r : MapsS.SM} (hp : r.Perm m) (k : ByteArray) : MapsS.lastV k r = MapsS.look k m := by
  cases h : MapsS.lastV k r with
  | some v => exact ((MapsS.look_mem hm).2 (hp.mem_iff.1 (lastV_mem h))).symm
  | none =>
    cases g : MapsS.look k m with
    | none => rfl
    | some v => exact absurd rfl (MapsS.lastV_none.1 h _ (hp.mem_iff.2 ((MapsS.look_mem hm).1 g)))
theorem fill_perm_on {m m0 : MapsS.SM} (hm : MapsS.Rises m) (h0 : MapsS.Rises m0) {r : MapsS.SM} (hp : r.Perm m) : MapsS.fill r m0 = MapsS.fill m m0 := by
  refine MapsS.sm_ext (MapsS.rises_fill r h0) (MapsS.rises_fill m h0) fun k => ?_
  rw [MapsS.look_fill, MapsS.look_fill, lastV_perm hm hp, lastV_perm hm (List.Perm.refl m)]
theorem fill_snoc_on (l m0 : MapsS.SM) (x c : ByteArray) : MapsS.fill (l ++ [(x, c)]) m0 = MapsS.ins x c (MapsS.fill l m0) := by simp [MapsS.fill, List.foldl_append]
set_option maxHeartbeats 6400000 in
set_option maxRecDepth 100000 in
theorem model_LabelSet_Merge.calls (b n : Nat) (m : MapsS.SM) (b2 n2 : Nat) (m2 : MapsS.SM) (w : World) (h : LSet w b n m) (h' : LSet w b2 n2 m2) (hl : m.length ≤ 1000000000) (hl2 : m2.length ≤ 1000000000) :
    Calls Try.prog 42 #[.map (some b), .map (some b2)] w fun e w' => ∃ b', e = .returned (.map (some b')) ∧ w.heap.size ≤ b' ∧ LSet w' b' (m.length + m2.length) (MapsS.fill m2 m) ∧ Below w.heap.size w w' := by
  have e1 := fun ty => h.len_run Try.underlying56 ty
  have H := Aside0.mk h
  have HL := Aside0.mk h.lt
  have H' := Aside0.mk h'
  have HL' := Aside0.mk h'.lt
  have hmm := run_makeMap_hint
  clear h h'
  have H0 : LSet (w.alloc (.map #[] 0)) w.heap.size 0 (MapsS.fill [] []) := MapsS.IsSM.made w Try.prog _ _
  have HM0 := Aside0.mk H0
  clear H0
  go_enter Try.func42, Try.ntmps42
  go_wp2_with (at_range; refine MapsS.wpList_range_sm (t := 56) rfl _ rfl Try.underlying56 Try.underlying79 rfl (H.out.alloc _) ?_; intro w2 r hr hR hg hsz; have HR := Aside0.mk hR; have HG := Aside0.mk (show r = w.heap.size + 1 by rw [hr]; simp); have HB := Aside0.mk (pw_below_grown (below_alloc (Below.refl w.heap.size w) _) none (by simp) hg (by simp)); have HM := Aside0.mk (HM0.out.kept hg (by simp)); have HZ := Aside0.mk (show w.heap.size + 1 < w2.heap.size by rw [hsz]; simp); clear hr hR hg hsz HM0)
  go_frame
  clear e1
  go_loopw [15] (fun _ wr => ∃ seen : MapsS.SM, Aside0 (LSet wr w.heap.size seen.length (MapsS.fill seen [])) ∧ Aside0 (MapsS.RSM Try.prog 79 91 wr b r n m seen) ∧ Aside0 (Below w.heap.size w wr) ∧ Aside0 (w.heap.size + 1 < wr.heap.size)) (fun _ wr => wr.rangeLeft b r)
  case atStart => exact ⟨[], HM, HR, HB, HZ⟩
  case round =>
    clear HM HR HB HZ
    obtain ⟨seen, HM, HR, HB, HZ⟩ := hrel
    go_wp2_with (at_next; refine MapsS.wpList_next_sm rfl _ rfl Try.underlying79 Try.underlying91 rfl HR.out ?_ ?_)
    · intro hp
      have hM := HM.out
      rw [fill_perm H.out.2.1 hp, hp.length_eq] at hM
      have HM2 := Aside0.mk hM
      clear hM hp HM HR
      have HZ1 := Aside0.mk (show w.heap.size < wr.heap.size by have := HZ.out; omega)
      have HS1 := Aside0.mk (H'.out.below HB.out)
      clear HZ
      go_wp2_with (at_range; refine MapsS.wpList_range_sm (t := 56) rfl _ rfl Try.underlying56 Try.underlying79 rfl HS1.out ?_; intro w5 r5 hr hR hg hsz; have HR5 := Aside0.mk hR; have HG5 := Aside0.mk (show w.heap.size < r5 by rw [hr]; exact HZ1.out); have HB5 := Aside0.mk (pw_below_grown HB.out none (below_size HB.out) hg (by simp)); have HM5 := Aside0.mk (show LSet w5 w.heap.size (m.length + ([] : MapsS.SM).length) (MapsS.fill [] m) from HM2.out.kept hg (by simp)); have HZ5 := Aside0.mk (show r5 < w5.heap.size by rw [hsz, hr]; omega); clear hr hR hg hsz HM2 HB HS1 HZ1)
      go_frame
      go_loopw [25] (fun _ wr => ∃ seen : MapsS.SM, Aside0 (LSet wr w.heap.size (m.length + seen.length) (MapsS.fill seen m)) ∧ Aside0 (MapsS.RSM Try.prog 79 91 wr b2 r5 n2 m2 seen) ∧ Aside0 (Below w.heap.size w wr) ∧ Aside0 (r5 < wr.heap.size)) (fun _ wr => wr.rangeLeft b2 r5)
      case atStart => exact ⟨[], HM5, HR5, HB5, HZ5⟩
      case round =>
        clear HM5 HR5 HB5 HZ5
        obtain ⟨seen, HM, HR, HB, HZ⟩ := hrel
        go_wp2_with (at_next; refine MapsS.wpList_next_sm rfl _ rfl Try.underlying79 Try.underlying91 rfl HR.out ?_ ?_)
        · intro hp
          have hM := HM.out
          rw [fill_perm_on H'.out.2.1 H.out.2.1 hp, hp.length_eq] at hM
          have HM2 := Aside0.mk hM
          clear hM hp HM HR
          go_wp2
          go_ret
          exact ⟨_, rfl, Nat.le_refl _, HM2.out, HB.out⟩
        · intro x c w3 hmem hnot hR hlt hg hsz hen
          have HK := Aside0.mk (H'.out.2.2 _ hmem)
          have HR3 := Aside0.mk hR
          have HT := Aside0.mk hlt
          have HM3 := Aside0.mk (HM.out.kept hg (fun e => by injection e with e; have := HG5.out; omega))
          have HB3 := Aside0.mk (pw_below_grown HB.out (some r5) (below_size HB.out) hg (fun k hk => by injection hk with hk; have := HG5.out; omega))
          have HZ3 := Aside0.mk (show r5 < w3.heap.size by rw [hsz]; exact HZ.out)
          have HL3 := Aside0.mk (show m.length + seen.length < maxLen by
            obtain ⟨_, _, _, _, hsub, hnd, _⟩ := hR
            have := sub_len hnd hsub
            rw [List.length_append, List.length_singleton] at this
            unfold maxLen
            omega)
          have HF := Aside0.mk (fill_snoc_on seen m x c)
          clear hmem hnot hR hlt hg hsz HM HR HB HZ
          go_wp2_with (at_mapUpdate; refine MapsS.wpList_store_sm (t := 56) (k := 79) (e := 91) rfl _ _ _ rfl Try.underlying56 Try.underlying79 Try.underlying91 rfl HM3.out HL3.out rfl rfl HK.out.1 HK.out.2 ?_; intro w4 hM4 hg4; rw [← HF.out] at hM4; have HM4 := Aside0.mk hM4; have HB4 := Aside0.mk (pw_below_grown HB3.out (some w.heap.size) (below_size HB3.out) hg4 (fun k hk => by injection hk with hk; omega)); have HR4 := Aside0.mk (HR3.out.kept hg4 (fun e => by injection e with e; have := HL'.out; omega) (fun e => by injection e with e; have := HG5.out; omega)); have HZ4 := Aside0.mk (Nat.lt_of_lt_of_le HZ3.out hg4.size); have HT4 := Aside0.mk (show w4.rangeLeft b2 r5 < wr.rangeLeft b2 r5 by rw [rangeLeft_kept hg4 (by have := HL'.out; have := HZ3.out; have := HG5.out; omega) (by exact HZ3.out) (fun e => by injection e with e; have := HL'.out; omega) (fun e => by injection e with e; have := HG5.out; omega)]; exact HT.out); clear hM4 hg4 HM3 HB3 HR3 HZ3 HT)
          go_roundw
          case rel => first | exact ⟨seen ++ [(x, c)], (by rw [List.length_append, ← Nat.add_assoc]; exact HM4), HR4, HB4, HZ4⟩ | exact ⟨seen ++ [(x, c)], (by rw [List.length_append, ← Nat.add_assoc]; exact HM4), HR4⟩
          case measure => exact HT4.out
    · intro x c w3 hmem hnot hR hlt hg hsz hen
      have HK := Aside0.mk (H.out.2.2 _ hmem)
      have HR3 := Aside0.mk hR
      have HT := Aside0.mk hlt
      have HM3 := Aside0.mk (HM.out.kept hg (fun e => by injection e with e; have := HG.out; omega))
      have HB3 := Aside0.mk (pw_below_grown HB.out (some r) (below_size HB.out) hg (fun k hk => by injection hk with hk; have := HG.out; omega))
      have HZ3 := Aside0.mk (show w.heap.size + 1 < w3.heap.size by rw [hsz]; exact HZ.out)
      have HL3 := Aside0.mk (show seen.length < maxLen by
        obtain ⟨_, _, _, _, hsub, hnd, _⟩ := hR
        have := sub_len hnd hsub
        rw [List.length_append, List.length_singleton] at this
        unfold maxLen
        omega)
      have HF := Aside0.mk (fill_snoc seen x c)
      clear hmem hnot hR hlt hg hsz HM HR HB HZ
      go_wp2_with (at_mapUpdate; refine MapsS.wpList_store_sm (t := 56) (k := 79) (e := 91) rfl _ _ _ rfl Try.underlying56 Try.underlying79 Try.underlying91 rfl HM3.out HL3.out rfl rfl HK.out.1 HK.out.2 ?_; intro w4 hM4 hg4; rw [← HF.out] at hM4; have HM4 := Aside0.mk hM4; have HB4 := Aside0.mk (pw_below_grown HB3.out (some w.heap.size) (below_size HB3.out) hg4 (fun k hk => by injection hk with hk; omega)); have HR4 := Aside0.mk (HR3.out.kept hg4 (fun e => by injection e with e; have := HL.out; omega) (fun e => by injection e with e; have := HG.out; omega)); have HZ4 := Aside0.mk (Nat.lt_of_lt_of_le HZ3.out hg4.size); have HT4 := Aside0.mk (show w4.rangeLeft b r < wr.rangeLeft b r by rw [rangeLeft_kept hg4 (by have := HL.out; have := HZ3.out; omega) (by have := HG.out; have := HZ3.out; omega) (fun e => by injection e with e; have := HL.out; omega) (fun e => by injection e with e; have := HG.out; omega)]; exact HT.out); clear hM4 hg4 HM3 HB3 HR3 HZ3 HT)
      go_roundw
      case rel => first | exact ⟨seen ++ [(x, c)], (by rw [List.length_append]; exact HM4), HR4, HB4, HZ4⟩ | exact ⟨seen ++ [(x, c)], (by rw [List.length_append]; exact HM4), HR4⟩
      case measure => exact HT4.out


/-! ### impl_SetMerge: function 22 -/
-- a contract that was proved by hand
def impl_SetMerge.f (l0 l1 : List S26) : Option (List S26) := if (l0.length ≤ 400000000 ∧ l1.length ≤ 400000000) ∧ less9 l0 = true ∧ less9 l1 = true then some ((MapsS.fill (setL l1) (setL l0)).map toPI) else none
theorem fill_le : ∀ (r m : MapsS.SM), (MapsS.fill r m).length ≤ m.length + r.length
  | [], _ => Nat.le_refl _
  | x :: r, m => by
    have h1 := fill_le r (MapsS.ins x.1 x.2 m)
    have h2 := MapsS.len_ins x.1 x.2 m
    rw [MapsS.fill_cons, List.length_cons]
    omega
set_option maxHeartbeats 1600000 in
set_option maxRecDepth 100000 in
theorem impl_SetMerge.calls (A0 : Option Addr) (c0 : Nat) (l0 : List S26) (A1 : Option Addr) (c1 : Nat) (l1 : List S26) (r : List S26) (w : World) (hr0 : Kd.C k26 w A0 l0.length l0) (hc0 : l0.length ≤ c0) (hr1 : Kd.C k26 w A1 l1.length l1) (hc1 : l1.length ≤ c1) (h : impl_SetMerge.f l0 l1 = some r) :
    Calls Try.prog 22 #[.slice A0 l0.length c0, .slice A1 l1.length c1] w fun e w' => ∃ v0_ : Value, e = .returned (v0_) ∧ Kd.R k26 26 w' w.heap.size (fun _ => True) v0_ r ∧ Below w.heap.size w w' := by
  unfold impl_SetMerge.f at h
  split at h
  · rename_i hl
    simp only [less9, Bool.and_eq_true, decide_eq_true_eq] at hl
    obtain ⟨⟨n1, n2⟩, ⟨_, h2⟩, _, h4⟩ := hl
    have hq := Option.some.inj h
    have hs := setL_le l0
    have hs' := setL_le l1
    have C0 := Aside0.mk (impl_labelSet.calls A0 c0 l0 w hr0 hc0 (by unfold maxLen; omega) h2)
    have C1 := Aside0.mk (fun w1 (h : Below w.heap.size w w1) => impl_labelSet.calls A1 c1 l1 w1 (Kd.C_below hr1 h) hc1 (by unfold maxLen; omega) h4)
    generalize setL l0 = m at *
    generalize setL l1 = m' at *
    have HQ := Aside0.mk hq
    have HL := Aside0.mk (show m.length ≤ 1000000000 by omega)
    have HL' := Aside0.mk (show m'.length ≤ 1000000000 by omega)
    have HF := Aside0.mk (show (MapsS.fill m' m).length ≤ 1000000000 by have := fill_le m' m; omega)
    clear h hq hs hs' n1 n2 h2 h4 hr0 hc0 hr1 hc1
    go_enter Try.func22, Try.ntmps22
    go_wp2_with fail
    refine C0.out.mono ?_
    rintro e w1 ⟨b, rfl, hb, hM, hB⟩
    have HM := Aside0.mk hM
    have HB := Aside0.mk hB
    clear hM hB hb
    go_wp2_with fail
    refine (C1.out w1 HB.out).mono ?_
    rintro e w2 ⟨b', rfl, hb', hM', hB'⟩
    have HM1 := Aside0.mk (HM.out.below hB')
    have HM' := Aside0.mk hM'
    have HB2 := Aside0.mk (below_step HB.out hB')
    clear hM' hB' hb' HM HB
    go_wp2_with fail
    refine (model_LabelSet_Merge.calls b _ m b' _ m' w2 HM1.out HM'.out HL.out HL'.out).mono ?_
    rintro e w3 ⟨b3, rfl, hb3, hM3, hB3⟩
    have HM3 := Aside0.mk hM3
    have HB3 := Aside0.mk (below_step HB2.out hB3)
    clear hM3 hB3 hb3 HM1 HM' HB2
    go_wp2_with fail
    refine (impl_sortedSet.calls b3 _ _ w3 HM3.out HF.out).mono ?_
    rintro e w4 ⟨v, rfl, hO, hB4⟩
    rw [HQ.out] at hO
    have HO := Aside0.mk (Kd.R_lower hO (below_size HB3.out))
    have HB4 := Aside0.mk (below_step HB3.out hB4)
    clear hB4 hO HB3 HM3
    go_wp2
    go_ret
    exact ⟨_, rfl, HO.out, HB4.out⟩
  · cases h


end Go.Proofs.Ytbffcmiabcmjcaa.Q
