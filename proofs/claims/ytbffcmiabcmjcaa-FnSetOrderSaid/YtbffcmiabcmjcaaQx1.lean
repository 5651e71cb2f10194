-- printed by this project's own program wip/tools/mkprint.py (the kit's print.py with hand-proved contracts put in)
import Derived.Test.YtbffcmiabcmjcaaQx0
namespace Go.Proofs.Ytbffcmiabcmjcaa.Q
open Go.RowKit Go.Proofs.YtbffcmiabcmjcaaW.PrintWords Go.Proofs.YtbffcmiabcmjcaaW.PrintLast Go.Proofs.YtbffcmiabcmjcaaW.PrintMore
attribute [local go_sem] max2_int min2_int max_two min_two max_three min_three max_four min_four   -- for this text's walks alone
set_option linter.unusedVariables false
set_option linter.unusedSimpArgs false

/-! ### laws_zzFits2: function 34 -/
def laws_zzFits2.f (a0_0 : ByteArray) (a0_1 : ByteArray) : Option (Bool) := if (a0_0.size : Int) > 2147483647 then (some false) else (if (a0_1.size : Int) > 2147483647 then (some false) else (some true))
set_option maxHeartbeats 8000000 in
set_option maxRecDepth 100000 in
theorem laws_zzFits2.calls (a0_0 : ByteArray) (a0_1 : ByteArray) (r : Bool) (w : World) (h : laws_zzFits2.f a0_0 a0_1 = some r) :
    Calls Try.prog 34 #[.agg #[.string a0_0, .string a0_1]] w fun e w' => e = .returned (.bool r) ∧ Below w.heap.size w w' := by
  have hu26 := Try.underlying26
  have HB := Aside0.mk (Below.refl w.heap.size w)
  have H : (if (a0_0.size : Int) > 2147483647 then (some false) else (if (a0_1.size : Int) > 2147483647 then (some false) else (some true))) = some r := h
  clear h
  by_cases c2 : (a0_0.size : Int) > 2147483647
  · rw [if_pos c2] at H
    have c2b0 : decide (2147483647 < (a0_0.size : Int)) = true := decide_eq_true c2
    have c2b1 : decide (2147483647 < a0_0.size) = true := decide_eq_true (by omega)
    clear c2
    obtain rfl := Option.some.inj H
    go_enter Try.func34, Try.ntmps34
    go_wp2_with (first | ((with_reducible refine gate_dst (N := 1) rfl ?_); refine box_event ?hg (N := 1) ?hd (cs := #[.string a0_0, .string a0_1]) (t := 26) ?hr ?_; (case hd => rfl); (case hg => rfl); (case hr => first | (go_simp; done) | (go_simp; rfl)); intro gb101 hg w3 hbox hb; have n0_ := Aside0.mk (below_step (by repeat (first | (with_reducible first | exact HB.out | apply below_alloc | apply pw_below_drewN | apply below_drew1) | exact HB.out)) hb); have n1_ := Aside0.mk (hbox); have n2_ := Aside0.mk ((by rw [hg]; exact (below_size (by repeat (first | (with_reducible first | exact HB.out | apply below_alloc | apply pw_below_drewN | apply below_drew1) | exact HB.out))) : w.heap.size ≤ gb101)); have n3_ := Aside0.mk ((by rw [hg]; exact (below_size (by repeat (first | (with_reducible first | exact HB.out | apply below_alloc | apply pw_below_drewN | apply below_drew1) | exact HB.out))) : w.heap.size ≤ gb101)); clear HB; have HB := n0_; have BK101 := n1_; have GW101 := n2_; have GE101 := n3_; clear n0_ n1_ n2_ n3_; clear hb hbox hg; have hcz4_0 : w3.cell? ⟨gb101, 0, none⟩ = some (.string a0_0) := (blk_cell BK101.out 0).trans rfl; have hcz4_1 : w3.cell? ⟨gb101, 1, none⟩ = some (.string a0_1) := (blk_cell BK101.out 1).trans rfl; have hfz4_0 := blk_frozen BK101.out 0; have hfz4_1 := blk_frozen BK101.out 1))
    go_ret
    exact ⟨by first | rfl | (simp [errW_none, errW_some] <;> rfl) | (simp [*, errW_none, errW_some] <;> rfl), by repeat (first | (with_reducible first | exact HB.out | apply below_alloc | apply pw_below_drewN | apply below_drew1 | refine below_set ?_ GE101.out) | exact HB.out)⟩
  · rw [if_neg c2] at H
    have c2b0 : decide (2147483647 < (a0_0.size : Int)) = false := decide_eq_false c2
    have c2b1 : decide (2147483647 < a0_0.size) = false := decide_eq_false (by omega)
    clear c2
    by_cases c5 : (a0_1.size : Int) > 2147483647
    · rw [if_pos c5] at H
      have c5b0 : decide (2147483647 < (a0_1.size : Int)) = true := decide_eq_true c5
      have c5b1 : decide (2147483647 < a0_1.size) = true := decide_eq_true (by omega)
      clear c5
      obtain rfl := Option.some.inj H
      go_enter Try.func34, Try.ntmps34
      go_wp2_with (first | ((with_reducible refine gate_dst (N := 1) rfl ?_); refine box_event ?hg (N := 1) ?hd (cs := #[.string a0_0, .string a0_1]) (t := 26) ?hr ?_; (case hd => rfl); (case hg => rfl); (case hr => first | (go_simp; done) | (go_simp; rfl)); intro gb101 hg w6 hbox hb; have n0_ := Aside0.mk (below_step (by repeat (first | (with_reducible first | exact HB.out | apply below_alloc | apply pw_below_drewN | apply below_drew1) | exact HB.out)) hb); have n1_ := Aside0.mk (hbox); have n2_ := Aside0.mk ((by rw [hg]; exact (below_size (by repeat (first | (with_reducible first | exact HB.out | apply below_alloc | apply pw_below_drewN | apply below_drew1) | exact HB.out))) : w.heap.size ≤ gb101)); have n3_ := Aside0.mk ((by rw [hg]; exact (below_size (by repeat (first | (with_reducible first | exact HB.out | apply below_alloc | apply pw_below_drewN | apply below_drew1) | exact HB.out))) : w.heap.size ≤ gb101)); clear HB; have HB := n0_; have BK101 := n1_; have GW101 := n2_; have GE101 := n3_; clear n0_ n1_ n2_ n3_; clear hb hbox hg; have hcz7_0 : w6.cell? ⟨gb101, 0, none⟩ = some (.string a0_0) := (blk_cell BK101.out 0).trans rfl; have hcz7_1 : w6.cell? ⟨gb101, 1, none⟩ = some (.string a0_1) := (blk_cell BK101.out 1).trans rfl; have hfz7_0 := blk_frozen BK101.out 0; have hfz7_1 := blk_frozen BK101.out 1))
      go_ret
      exact ⟨by first | rfl | (simp [errW_none, errW_some] <;> rfl) | (simp [*, errW_none, errW_some] <;> rfl), by repeat (first | (with_reducible first | exact HB.out | apply below_alloc | apply pw_below_drewN | apply below_drew1 | refine below_set ?_ GE101.out) | exact HB.out)⟩
    · rw [if_neg c5] at H
      have c5b0 : decide (2147483647 < (a0_1.size : Int)) = false := decide_eq_false c5
      have c5b1 : decide (2147483647 < a0_1.size) = false := decide_eq_false (by omega)
      clear c5
      obtain rfl := Option.some.inj H
      go_enter Try.func34, Try.ntmps34
      go_wp2_with (first | ((with_reducible refine gate_dst (N := 1) rfl ?_); refine box_event ?hg (N := 1) ?hd (cs := #[.string a0_0, .string a0_1]) (t := 26) ?hr ?_; (case hd => rfl); (case hg => rfl); (case hr => first | (go_simp; done) | (go_simp; rfl)); intro gb101 hg w8 hbox hb; have n0_ := Aside0.mk (below_step (by repeat (first | (with_reducible first | exact HB.out | apply below_alloc | apply pw_below_drewN | apply below_drew1) | exact HB.out)) hb); have n1_ := Aside0.mk (hbox); have n2_ := Aside0.mk ((by rw [hg]; exact (below_size (by repeat (first | (with_reducible first | exact HB.out | apply below_alloc | apply pw_below_drewN | apply below_drew1) | exact HB.out))) : w.heap.size ≤ gb101)); have n3_ := Aside0.mk ((by rw [hg]; exact (below_size (by repeat (first | (with_reducible first | exact HB.out | apply below_alloc | apply pw_below_drewN | apply below_drew1) | exact HB.out))) : w.heap.size ≤ gb101)); clear HB; have HB := n0_; have BK101 := n1_; have GW101 := n2_; have GE101 := n3_; clear n0_ n1_ n2_ n3_; clear hb hbox hg; have hcz9_0 : w8.cell? ⟨gb101, 0, none⟩ = some (.string a0_0) := (blk_cell BK101.out 0).trans rfl; have hcz9_1 : w8.cell? ⟨gb101, 1, none⟩ = some (.string a0_1) := (blk_cell BK101.out 1).trans rfl; have hfz9_0 := blk_frozen BK101.out 0; have hfz9_1 := blk_frozen BK101.out 1))
      go_ret
      exact ⟨by first | rfl | (simp [errW_none, errW_some] <;> rfl) | (simp [*, errW_none, errW_some] <;> rfl), by repeat (first | (with_reducible first | exact HB.out | apply below_alloc | apply pw_below_drewN | apply below_drew1 | refine below_set ?_ GE101.out) | exact HB.out)⟩

/-! ### laws_zzFits1: function 11 -/
def laws_zzFits1.l0 : Nat → List (S26) → Int → Int → Option (Bool)
  | 0, _, _, _ => none
  | k + 1, x8, x9, x10 => if x10 < x9 then (if 0 ≤ x10 then (if x10 < (x8.length : Int) then ((laws_zzFits2.f ((rd_T26 x8 x10).f0) ((rd_T26 x8 x10).f1)).bind fun t104 => (if t104 = true then (laws_zzFits1.l0 k x8 x9 (wrap64 (x10 + 1))) else (some false))) else (none)) else (none)) else (some true)
def laws_zzFits1.f (k : Nat) (l0 : List (S26)) : Option (Bool) := if (l0.length : Int) > 2147483647 then (some false) else (laws_zzFits1.l0 k l0 (l0.length : Int) 0)
theorem laws_zzFits1.mono_l : ∀ k, (∀ y0 y1 y2, LeO (laws_zzFits1.l0 k y0 y1 y2) (laws_zzFits1.l0 (k + 1) y0 y1 y2))
  | 0 => fun _ _ _ r h => by simp [laws_zzFits1.l0] at h
  | k + 1 => by
    have ih0 := laws_zzFits1.mono_l k
    · intro y0 y1 y2
      unfold laws_zzFits1.l0
      repeat' first
      | (with_reducible exact ih0 _ _ _)
      | (with_reducible exact LeO.refl _)
      | (with_reducible exact LeO.none _)
      | (with_reducible refine LeO.ite ?_ ?_)
      | (with_reducible refine LeO.bind ?_ (fun _ => ?_))
      | exact ih0 _ _ _
      | exact LeO.none _
      | refine LeO.ite ?_ ?_
      | refine LeO.bind ?_ (fun _ => ?_)
theorem laws_zzFits1.mono : ∀ a0 k, LeO (laws_zzFits1.f k a0) (laws_zzFits1.f (k + 1) a0) := by
  intro a0 k
  have ih0 := laws_zzFits1.mono_l k
  unfold laws_zzFits1.f
  repeat' first
      | (with_reducible exact ih0 _ _ _)
      | (with_reducible exact LeO.refl _)
      | (with_reducible exact LeO.none _)
      | (with_reducible refine LeO.ite ?_ ?_)
      | (with_reducible refine LeO.bind ?_ (fun _ => ?_))
      | exact ih0 _ _ _
      | exact LeO.none _
      | refine LeO.ite ?_ ?_
      | refine LeO.bind ?_ (fun _ => ?_)
set_option maxHeartbeats 8000000 in
set_option maxRecDepth 100000 in
theorem laws_zzFits1.calls (k : Nat) (A0 : Option Addr) (c0 : Nat) (l0 : List (S26)) (r : Bool) (w : World) (hr0 : Kd.C k26 w A0 l0.length l0) (hc0 : l0.length ≤ c0) (h : laws_zzFits1.f k l0 = some r) :
    Calls Try.prog 11 #[.slice A0 l0.length c0] w fun e w' => e = .returned (.bool r) ∧ Below w.heap.size w w' := by
  have hu26 := Try.underlying26
  have HR0 := Aside0.mk hr0
  have HC0 := Aside0.mk hc0
  clear hr0 hc0
  have HB := Aside0.mk (Below.refl w.heap.size w)
  have H : (if (l0.length : Int) > 2147483647 then (some false) else (laws_zzFits1.l0 k l0 (l0.length : Int) 0)) = some r := h
  clear h
  by_cases c2 : (l0.length : Int) > 2147483647
  · rw [if_pos c2] at H
    have c2b0 : decide (2147483647 < (l0.length : Int)) = true := decide_eq_true c2
    have c2b1 : decide (2147483647 < l0.length) = true := decide_eq_true (by omega)
    clear c2
    obtain rfl := Option.some.inj H
    go_enter Try.func11, Try.ntmps11
    go_wp2
    go_ret
    exact ⟨by first | rfl | (simp [errW_none, errW_some] <;> rfl) | (simp [*, errW_none, errW_some] <;> rfl), by repeat (first | (with_reducible first | exact HB.out | apply below_alloc | apply pw_below_drewN | apply below_drew1) | exact HB.out)⟩
  · rw [if_neg c2] at H
    have c2b0 : decide (2147483647 < (l0.length : Int)) = false := decide_eq_false c2
    have c2b1 : decide (2147483647 < l0.length) = false := decide_eq_false (by omega)
    clear c2
    have H' := Aside0.mk H
    clear H
    go_enter Try.func11, Try.ntmps11
    go_wp2
    go_loopg [10] k (fun kq v10 w' => ∃ (x10_1 : Int), v10 = .int .i64 x10_1 ∧ Aside0 (laws_zzFits1.l0 kq l0 (l0.length : Int) x10_1 = some r) ∧ Aside0 (kq ≤ k) ∧ Aside0 (Below w.heap.size w w'))
    case atStart => exact ⟨(0), (by first | rfl | (simp; done) | (simp [*]; done)), H', ⟨Nat.le_refl _⟩, ⟨by repeat (first | (with_reducible first | exact HB.out | apply below_alloc | apply pw_below_drewN | apply below_drew1) | exact HB.out)⟩⟩
    case round =>
      clear H'
      try clear c1
      try clear c2
      try clear c2b0
      try clear c2b1
      try clear p2
      obtain ⟨x10_1, rfl, HA, HK1, HB⟩ := hrel
      cases gk with
      | zero => exact absurd HA.out (by simp [laws_zzFits1.l0])
      | succ k1 =>
        have H := HA.out
        clear HA
        simp only [laws_zzFits1.l0] at H
        by_cases c3 : x10_1 < (l0.length : Int)
        · rw [if_pos c3] at H
          have c3b0 : decide (x10_1 < (l0.length : Int)) = true := decide_eq_true c3
          clear c3
          by_cases c4 : 0 ≤ x10_1
          · rw [if_pos c4] at H
            have c4b0 : decide (0 ≤ x10_1) = true := decide_eq_true c4
            clear c4
            by_cases c5 : x10_1 < (l0.length : Int)
            · rw [if_pos c5] at H
              have c5b0 : decide (x10_1 < (l0.length : Int)) = true := decide_eq_true c5
              clear c5
              replace H := Option.bind_eq_some_iff.mp H
              obtain ⟨t104, A60, H⟩ := H
              replace H : (if t104 = true then (laws_zzFits1.l0 k1 l0 (l0.length : Int) (wrap64 (x10_1 + 1))) else (some false)) = some r := H
              have A6 := Aside0.mk A60
              clear A60
              by_cases c7 : t104 = true
              · subst c7
                have H1 : (laws_zzFits1.l0 k1 l0 (l0.length : Int) (wrap64 (x10_1 + 1))) = some r := by rw [if_pos rfl] at H; exact H
                clear H
                have H := H1
                clear H1
                have H' := Aside0.mk H
                clear H
                have p102 : 0 ≤ (x10_1 : Int) := of_decide_eq_true (by first | (with_reducible assumption) | assumption)
                have q102 : x10_1 < (l0.length : Int) := of_decide_eq_true (by first | (with_reducible assumption) | assumption)
                obtain ⟨ad102, e102, hx102_0, hx102_1⟩ := at_T26 HR0.out x10_1 p102 q102
                cases e102
                replace hx102_0 := (HB.out.cell (World.block_lt_of_cell? w _ hx102_0)).trans hx102_0
                replace hx102_1 := (HB.out.cell (World.block_lt_of_cell? w _ hx102_1)).trans hx102_1
                replace p102 := eq_true p102
                replace q102 := eq_true q102
                go_wp2_with (first | ((with_reducible refine gate_dst (N := 4) rfl ?_); refine box_event ?hg (N := 4) ?hd (cs := #[.string (⟨#[]⟩ : ByteArray), .string (⟨#[]⟩ : ByteArray)]) (t := 26) ?hr ?_; (case hd => rfl); (case hg => rfl); (case hr => first | (go_simp; done) | (go_simp; rfl)); intro gb103 hg w8 hbox hb; have n0_ := Aside0.mk (below_step (by repeat (first | (with_reducible first | exact HB.out | apply below_alloc | apply pw_below_drewN | apply below_drew1) | exact HB.out)) hb); have n1_ := Aside0.mk (hbox); have n2_ := Aside0.mk ((by rw [hg]; exact (below_size (by repeat (first | (with_reducible first | exact HB.out | apply below_alloc | apply pw_below_drewN | apply below_drew1) | exact HB.out))) : w.heap.size ≤ gb103)); have n3_ := Aside0.mk ((by rw [hg]; exact (below_size (by repeat (first | (with_reducible first | exact HB.out | apply below_alloc | apply pw_below_drewN | apply below_drew1) | exact HB.out))) : w.heap.size ≤ gb103)); clear HB; have HB := n0_; have BK103 := n1_; have GW103 := n2_; have GE103 := n3_; clear n0_ n1_ n2_ n3_; clear hb hbox hg; have hcz9_0 : w8.cell? ⟨gb103, 0, none⟩ = some (.string (⟨#[]⟩ : ByteArray)) := (blk_cell BK103.out 0).trans rfl; have hcz9_1 : w8.cell? ⟨gb103, 1, none⟩ = some (.string (⟨#[]⟩ : ByteArray)) := (blk_cell BK103.out 1).trans rfl; have hfz9_0 := blk_frozen BK103.out 0; have hfz9_1 := blk_frozen BK103.out 1) | ((with_reducible refine gate_callee (f := 34) rfl ?_); refine goesL_ (some 15) rfl rfl Try.func34 (by kernel_rfl) rfl #[.agg #[.string ((rd_T26 l0 x10_1).f0), .string ((rd_T26 l0 x10_1).f1)]] rfl (by (try simp only [List.map_toArray, List.map_cons, List.map_nil]); first | done | rfl | (simp only [List.length_drop, List.length_take]; rfl)) ?_; (with_reducible refine (laws_zzFits2.calls ((rd_T26 l0 x10_1).f0) ((rd_T26 l0 x10_1).f1) true _ A6.out).mono ?_); rintro e w10 ⟨rfl, hb⟩; refine ⟨_, rfl, ?_⟩; have n0_ := Aside0.mk (blk_below (g := gb103) (o := .cells #[.string ((rd_T26 l0 x10_1).f0), .string ((rd_T26 l0 x10_1).f1)] 26 (0, 0)) (by (with_reducible repeat (first | refine blk_drewN ?_ _ | refine blk_drew ?_ | refine blk_alloc ?_ _)); refine blk_put (cs := #[.string ((rd_T26 l0 x10_1).f0), .string (⟨#[]⟩ : ByteArray)]) ?_ 1 _ rfl; (with_reducible repeat (first | refine blk_drewN ?_ _ | refine blk_drew ?_ | refine blk_alloc ?_ _)); refine blk_put (cs := #[.string (⟨#[]⟩ : ByteArray), .string (⟨#[]⟩ : ByteArray)]) ?_ 0 _ rfl; (with_reducible repeat (first | refine blk_drewN ?_ _ | refine blk_drew ?_ | refine blk_alloc ?_ _)); exact BK103.out) hb); have n1_ := Aside0.mk (below_step (by repeat (first | (with_reducible first | exact HB.out | apply below_alloc | apply pw_below_drewN | apply below_drew1 | refine below_set ?_ GE103.out) | exact HB.out)) hb); clear BK103; clear HB; have BK103 := n0_; have HB := n1_; clear n0_ n1_; (try clear hb); (try clear hb2); (try clear hk); (try clear hi)))
                go_roundg k1
                case measure => have := HK1.out; omega
                case rel => exact ⟨(wrap64 (x10_1 + 1)), (by first | rfl | (simp; done) | (simp [*]; done)), H', ⟨by have := HK1.out; omega⟩, ⟨by repeat (first | (with_reducible first | exact HB.out | apply below_alloc | apply pw_below_drewN | apply below_drew1 | refine below_set ?_ GE103.out) | exact HB.out)⟩⟩
              · replace c7 := Bool.eq_false_iff.mpr c7
                subst c7
                have H1 : (some false) = some r := by rw [if_neg (show ¬ (false = true) by decide)] at H; exact H
                clear H
                have H := H1
                clear H1
                obtain rfl := Option.some.inj H
                have p102 : 0 ≤ (x10_1 : Int) := of_decide_eq_true (by first | (with_reducible assumption) | assumption)
                have q102 : x10_1 < (l0.length : Int) := of_decide_eq_true (by first | (with_reducible assumption) | assumption)
                obtain ⟨ad102, e102, hx102_0, hx102_1⟩ := at_T26 HR0.out x10_1 p102 q102
                cases e102
                replace hx102_0 := (HB.out.cell (World.block_lt_of_cell? w _ hx102_0)).trans hx102_0
                replace hx102_1 := (HB.out.cell (World.block_lt_of_cell? w _ hx102_1)).trans hx102_1
                replace p102 := eq_true p102
                replace q102 := eq_true q102
                go_wp2_with (first | ((with_reducible refine gate_dst (N := 4) rfl ?_); refine box_event ?hg (N := 4) ?hd (cs := #[.string (⟨#[]⟩ : ByteArray), .string (⟨#[]⟩ : ByteArray)]) (t := 26) ?hr ?_; (case hd => rfl); (case hg => rfl); (case hr => first | (go_simp; done) | (go_simp; rfl)); intro gb103 hg w11 hbox hb; have n0_ := Aside0.mk (below_step (by repeat (first | (with_reducible first | exact HB.out | apply below_alloc | apply pw_below_drewN | apply below_drew1) | exact HB.out)) hb); have n1_ := Aside0.mk (hbox); have n2_ := Aside0.mk ((by rw [hg]; exact (below_size (by repeat (first | (with_reducible first | exact HB.out | apply below_alloc | apply pw_below_drewN | apply below_drew1) | exact HB.out))) : w.heap.size ≤ gb103)); have n3_ := Aside0.mk ((by rw [hg]; exact (below_size (by repeat (first | (with_reducible first | exact HB.out | apply below_alloc | apply pw_below_drewN | apply below_drew1) | exact HB.out))) : w.heap.size ≤ gb103)); clear HB; have HB := n0_; have BK103 := n1_; have GW103 := n2_; have GE103 := n3_; clear n0_ n1_ n2_ n3_; clear hb hbox hg; have hcz12_0 : w11.cell? ⟨gb103, 0, none⟩ = some (.string (⟨#[]⟩ : ByteArray)) := (blk_cell BK103.out 0).trans rfl; have hcz12_1 : w11.cell? ⟨gb103, 1, none⟩ = some (.string (⟨#[]⟩ : ByteArray)) := (blk_cell BK103.out 1).trans rfl; have hfz12_0 := blk_frozen BK103.out 0; have hfz12_1 := blk_frozen BK103.out 1) | ((with_reducible refine gate_callee (f := 34) rfl ?_); refine goesL_ (some 15) rfl rfl Try.func34 (by kernel_rfl) rfl #[.agg #[.string ((rd_T26 l0 x10_1).f0), .string ((rd_T26 l0 x10_1).f1)]] rfl (by (try simp only [List.map_toArray, List.map_cons, List.map_nil]); first | done | rfl | (simp only [List.length_drop, List.length_take]; rfl)) ?_; (with_reducible refine (laws_zzFits2.calls ((rd_T26 l0 x10_1).f0) ((rd_T26 l0 x10_1).f1) false _ A6.out).mono ?_); rintro e w13 ⟨rfl, hb⟩; refine ⟨_, rfl, ?_⟩; have n0_ := Aside0.mk (blk_below (g := gb103) (o := .cells #[.string ((rd_T26 l0 x10_1).f0), .string ((rd_T26 l0 x10_1).f1)] 26 (0, 0)) (by (with_reducible repeat (first | refine blk_drewN ?_ _ | refine blk_drew ?_ | refine blk_alloc ?_ _)); refine blk_put (cs := #[.string ((rd_T26 l0 x10_1).f0), .string (⟨#[]⟩ : ByteArray)]) ?_ 1 _ rfl; (with_reducible repeat (first | refine blk_drewN ?_ _ | refine blk_drew ?_ | refine blk_alloc ?_ _)); refine blk_put (cs := #[.string (⟨#[]⟩ : ByteArray), .string (⟨#[]⟩ : ByteArray)]) ?_ 0 _ rfl; (with_reducible repeat (first | refine blk_drewN ?_ _ | refine blk_drew ?_ | refine blk_alloc ?_ _)); exact BK103.out) hb); have n1_ := Aside0.mk (below_step (by repeat (first | (with_reducible first | exact HB.out | apply below_alloc | apply pw_below_drewN | apply below_drew1 | refine below_set ?_ GE103.out) | exact HB.out)) hb); clear BK103; clear HB; have BK103 := n0_; have HB := n1_; clear n0_ n1_; (try clear hb); (try clear hb2); (try clear hk); (try clear hi)))
                go_ret
                exact ⟨by first | rfl | (simp [errW_none, errW_some] <;> rfl) | (simp [*, errW_none, errW_some] <;> rfl), by repeat (first | (with_reducible first | exact HB.out | apply below_alloc | apply pw_below_drewN | apply below_drew1 | refine below_set ?_ GE103.out) | exact HB.out)⟩
            · rw [if_neg c5] at H
              exact absurd H (by simp)
          · rw [if_neg c4] at H
            exact absurd H (by simp)
        · rw [if_neg c3] at H
          have c3b0 : decide (x10_1 < (l0.length : Int)) = false := decide_eq_false c3
          clear c3
          obtain rfl := Option.some.inj H
          go_wp2
          go_ret
          exact ⟨by first | rfl | (simp [errW_none, errW_some] <;> rfl) | (simp [*, errW_none, errW_some] <;> rfl), by repeat (first | (with_reducible first | exact HB.out | apply below_alloc | apply pw_below_drewN | apply below_drew1) | exact HB.out)⟩

/-! ### laws_much: function 13 -/
def laws_much.f (l0 : List (S26)) : Option (Bool) := some (decide ((l0.length : Int) > 300))
set_option maxHeartbeats 8000000 in
set_option maxRecDepth 100000 in
theorem laws_much.calls (A0 : Option Addr) (c0 : Nat) (l0 : List (S26)) (r : Bool) (w : World) (hr0 : Kd.C k26 w A0 l0.length l0) (hc0 : l0.length ≤ c0) (h : laws_much.f l0 = some r) :
    Calls Try.prog 13 #[.slice A0 l0.length c0] w fun e w' => e = .returned (.bool r) ∧ Drawn0 w w' := by
  have HR0 := Aside0.mk hr0
  have HC0 := Aside0.mk hc0
  clear hr0 hc0
  have H : (some (decide ((l0.length : Int) > 300))) = some r := h
  clear h
  obtain rfl := Option.some.inj H
  go_enter Try.func13, Try.ntmps13
  go_wp2
  go_ret
  exact ⟨by first | rfl | (simp; done) | (simp [*]; done), by repeat (first | exact Drawn0.refl _ | apply Drawn0.step)⟩

/-! ### impl_labelSet: function 36 -/
-- contracts that were proved by hand
def setL (l : List S26) : MapsS.SM := l.foldl (fun m p => MapsS.ins p.f0 p.f1 m) []
theorem setL_snoc (l : List S26) (p : S26) : setL (l ++ [p]) = MapsS.ins p.f0 p.f1 (setL l) := by simp [setL, List.foldl_append]
def small2 (p : S26) : Bool := decide (p.f0.size ≤ maxLen) && decide (p.f1.size ≤ maxLen)
def lessMax (l : List S26) : Bool := decide (l.length < maxLen) && l.all small2
def less9 (l : List S26) : Bool := decide (l.length ≤ 1000000000) && l.all small2
theorem setL_le (l : List S26) : (setL l).length ≤ l.length := by
  have h : ∀ (r : List S26) (m : MapsS.SM), (r.foldl (fun m p => MapsS.ins p.f0 p.f1 m) m).length ≤ m.length + r.length := by
    intro r
    induction r with
    | nil => intro m; exact Nat.le_refl _
    | cons x r ih =>
      intro m
      have h1 := ih (MapsS.ins x.f0 x.f1 m)
      have h2 := MapsS.len_ins x.f0 x.f1 m
      rw [List.foldl_cons, List.length_cons]
      omega
  have := h l []
  simpa [setL] using this
set_option maxHeartbeats 1600000 in
set_option maxRecDepth 100000 in
theorem impl_labelSet.calls (A0 : Option Addr) (c0 : Nat) (l0 : List S26) (w : World) (hr0 : Kd.C k26 w A0 l0.length l0) (hc0 : l0.length ≤ c0) (hl : l0.length < maxLen) (hs : l0.all small2 = true) :
    Calls Try.prog 36 #[.slice A0 l0.length c0] w fun e w' => ∃ b, e = .returned (.map (some b)) ∧ w.heap.size ≤ b ∧ LSet w' b l0.length (setL l0) ∧ Below w.heap.size w w' := by
  have HR0 := Aside0.mk hr0
  have HC0 := Aside0.mk hc0
  have HS := Aside0.mk hs
  clear hr0 hc0 hs
  unfold maxLen at hl
  have hmm := @run_makeMap Try.prog
  go_enter Try.func36, Try.ntmps36
  go_wp2
  have H0 : LSet (w.alloc (.map #[] 0)) w.heap.size 0 (setL (l0.take 0)) := MapsS.IsSM.made w Try.prog _ _
  have HM0 := Aside0.mk H0
  clear H0
  go_loopw [9] (fun v9 wr => ∃ j : Nat, j ≤ l0.length ∧ v9 = .int .i64 j ∧ Aside0 (LSet wr w.heap.size j (setL (l0.take j))) ∧ Aside0 (Below w.heap.size w wr)) (fun v9 _ => l0.length - (intOf v9).toNat)
  case atStart => exact ⟨0, Nat.zero_le _, rfl, HM0, ⟨below_alloc (Below.refl _ _) _⟩⟩
  case round =>
    clear HM0
    obtain ⟨j, hj, rfl, HM, HB⟩ := hrel
    by_cases hlt : j < l0.length
    · obtain ⟨ad, e0, hx0, hx1⟩ := at_T26 HR0.out (j : Int) (by omega) (by omega)
      cases e0
      replace hx0 := (HB.out.cell (World.block_lt_of_cell? w _ hx0)).trans hx0
      replace hx1 := (HB.out.cell (World.block_lt_of_cell? w _ hx1)).trans hx1
      simp only [Int.toNat_natCast] at hx0 hx1
      have hsm := List.all_eq_true.1 HS.out (rd_T26 l0 (j : Int)) (by show l0.getD j z26 ∈ l0; rw [List.getD_eq_getElem?_getD, List.getElem?_eq_getElem hlt]; exact List.getElem_mem hlt)
      simp only [small2, Bool.and_eq_true, decide_eq_true_eq] at hsm
      have HK := Aside0.mk hsm.1
      have HV := Aside0.mk hsm.2
      have HT := Aside0.mk (show setL (l0.take (j + 1)) = MapsS.ins (rd_T26 l0 (j : Int)).f0 (rd_T26 l0 (j : Int)).f1 (setL (l0.take j)) by rw [Box.take_more l0 z26 j hlt, setL_snoc]; rfl)
      clear hsm
      go_wp2_with (at_mapUpdate; refine MapsS.wpList_store_sm (t := 56) (k := 79) (e := 91) rfl _ _ _ rfl Try.underlying56 Try.underlying79 Try.underlying91 rfl (HM.out.alloc _) (by unfold maxLen; omega) rfl rfl HK.out HV.out ?_; intro w2 hM2 hg2; rw [← HT.out] at hM2; have HM2 := Aside0.mk hM2; have HB2 := Aside0.mk (pw_below_grown (below_alloc HB.out _) _ (by have := below_size HB.out; simp; omega) hg2 (fun k hk => by injection hk with hk; omega)); clear hM2 hg2 HM HB HT)
      go_roundw
      case rel => exact ⟨j + 1, by omega, by go_num, HM2, HB2⟩
      case measure => simp [intOf]; omega
    · have hj2 : j = l0.length := by omega
      subst hj2
      go_wp2
      go_ret
      have h := HM.out
      rw [List.take_of_length_le (Nat.le_refl _)] at h
      exact ⟨_, rfl, Nat.le_refl _, h, HB.out⟩


/-! ### model_LabelSet_Equal: function 43 -/
-- contracts that were proved by hand
set_option maxHeartbeats 1600000 in
set_option maxRecDepth 100000 in
theorem model_LabelSet_Equal.calls (b1 n1 b2 n2 : Nat) (m1 m2 : MapsS.SM) (w : World) (h1 : LSet w b1 n1 m1) (h2 : LSet w b2 n2 m2) :
    Calls Try.prog 43 #[.map (some b1), .map (some b2)] w fun e w' => e = .returned (.bool (decide (m1 = m2))) ∧ Below w.heap.size w w' := by
  have e1 := fun ty => h1.len_run Try.underlying56 ty
  have e2 := fun ty => h2.len_run Try.underlying56 ty
  have HL1 := Aside0.mk h1.lt
  have HL2 := Aside0.mk h2.lt
  have H1 := Aside0.mk h1
  have H2 := Aside0.mk h2
  clear h1 h2
  by_cases hlen : m1.length = m2.length
  · have c1 : ((m1.length : Int) != (m2.length : Int)) = false := by simp [hlen]
    have HN := Aside0.mk hlen
    clear hlen
    obtain ⟨q, hq⟩ : ∃ q, decide (m1 = m2) = q := ⟨_, rfl⟩
    rw [hq]
    have HQ := Aside0.mk hq
    clear hq
    go_enter Try.func43, Try.ntmps43
    go_wp2_with (at_range; refine MapsS.wpList_range_sm (t := 56) rfl _ rfl Try.underlying56 Try.underlying79 rfl H1.out ?_; intro w2 r hr hR hg hsz; have HR := Aside0.mk hR; have HG := Aside0.mk (show r = w.heap.size from hr); have HB := Aside0.mk (pw_below_grown (Below.refl w.heap.size w) none (Nat.le_refl _) hg (by simp)); clear hr hR hg hsz)
    go_frame
    clear e1 e2 c1
    go_loopw [16] (fun v16 wr => ∃ seen, Aside0 (MapsS.RSM Try.prog 79 91 wr b1 r n1 m1 seen) ∧ Aside0 (Below w.heap.size w wr) ∧ Aside0 (∀ p ∈ seen, MapsS.look p.1 m2 = some p.2)) (fun _ wr => wr.rangeLeft b1 r)
    case atStart => exact ⟨[], HR, HB, ⟨fun p hp => by simp at hp⟩⟩
    case round =>
      clear HR HB
      obtain ⟨seen, HR, HB, HS⟩ := hrel
      go_wp2_with (at_next; refine MapsS.wpList_next_sm rfl _ rfl Try.underlying79 Try.underlying91 rfl HR.out ?_ ?_)
      · intro hp
        have hf : q = true := by
          rw [← HQ.out]
          exact decide_eq_true (MapsS.sm_eq H1.out.2.1 H2.out.2.1 HN.out (fun p hp1 => HS.out p (hp.mem_iff.2 hp1)))
        clear hp
        subst hf
        go_wp2
        go_ret
        exact ⟨rfl, HB.out⟩
      · intro x c w3 hmem hnot hR hlt hg hsz hen
        have HM := Aside0.mk hmem
        have HR3 := Aside0.mk hR
        have HB3 := Aside0.mk (pw_below_grown HB.out _ (below_size HB.out) hg (fun k hk => by injection hk with hk; have := HG.out; omega))
        have HT := Aside0.mk hlt
        have h2 := (H2.out.below HB3.out).look_ok_run Try.underlying56 Try.underlying79 Try.underlying91 (by rfl) (H1.out.2.2 _ hmem).1
        clear hmem hnot hR hg hsz hlt
        cases hk : MapsS.look x m2 with
        | none =>
          have hf : q = false := by
            rw [← HQ.out]
            refine decide_eq_false (fun e => ?_)
            have := (MapsS.look_mem H1.out.2.1).2 HM.out
            rw [e, hk] at this
            cases this
          subst hf
          rw [hk] at h2
          clear hk
          go_wp2
          go_ret
          exact ⟨rfl, HB3.out⟩
        | some v =>
          rw [hk] at h2
          cases hv : (v.toList == c.toList) with
          | true =>
            have e0 : v = c := MapsS.ba_ext' (beq_iff_eq.1 hv)
            have HS3 := Aside0.mk (show ∀ p ∈ seen ++ [(x, c)], MapsS.look p.1 m2 = some p.2 from fun p hp => by
              rcases List.mem_append.1 hp with hp | hp
              · exact HS.out p hp
              · rw [List.mem_singleton.1 hp, hk, e0])
            clear hk e0
            go_wp2
            go_roundw
            case rel => exact ⟨_, HR3, HB3, HS3⟩
            case measure => exact HT.out
          | false =>
            have hf : q = false := by
              rw [← HQ.out]
              refine decide_eq_false (fun e => ?_)
              have h3 := (MapsS.look_mem H1.out.2.1).2 HM.out
              rw [e, hk] at h3
              rw [Option.some.inj h3] at hv
              simp at hv
            subst hf
            clear hk
            go_wp2
            go_ret
            exact ⟨rfl, HB3.out⟩
  · have c1 : ((m1.length : Int) != (m2.length : Int)) = true := by simp; omega
    have hf : decide (m1 = m2) = false := decide_eq_false (fun e => hlen (by rw [e]))
    rw [hf]
    clear hf hlen
    go_enter Try.func43, Try.ntmps43
    go_wp2
    go_ret
    exact ⟨rfl, Below.refl _ _⟩


/-! ### impl_SetEqual: function 23 -/
-- a contract that was proved by hand
def impl_SetEqual.f (l0 l1 : List S26) : Option Bool := if lessMax l0 = true ∧ lessMax l1 = true then some (decide (setL l0 = setL l1)) else none
set_option maxHeartbeats 1600000 in
set_option maxRecDepth 100000 in
theorem impl_SetEqual.calls (A0 : Option Addr) (c0 : Nat) (l0 : List S26) (A1 : Option Addr) (c1 : Nat) (l1 : List S26) (r : Bool) (w : World) (hr0 : Kd.C k26 w A0 l0.length l0) (hc0 : l0.length ≤ c0) (hr1 : Kd.C k26 w A1 l1.length l1) (hc1 : l1.length ≤ c1) (h : impl_SetEqual.f l0 l1 = some r) :
    Calls Try.prog 23 #[.slice A0 l0.length c0, .slice A1 l1.length c1] w fun e w' => e = .returned (.bool r) ∧ Below w.heap.size w w' := by
  unfold impl_SetEqual.f at h
  split at h
  · rename_i hl
    simp only [lessMax, Bool.and_eq_true, decide_eq_true_eq] at hl
    obtain ⟨⟨h1, h2⟩, h3, h4⟩ := hl
    have hq := Option.some.inj h
    clear h
    have HQ := Aside0.mk hq
    clear hq
    have C0 := Aside0.mk (impl_labelSet.calls A0 c0 l0 w hr0 hc0 h1 h2)
    have R1 := Aside0.mk hr1
    have X1 := Aside0.mk hc1
    have X2 := Aside0.mk h3
    have X3 := Aside0.mk h4
    clear hr0 hc0 h1 h2 hr1 hc1 h3 h4
    go_enter Try.func23, Try.ntmps23
    go_wp2_with fail
    refine C0.out.mono ?_
    rintro e w1 ⟨b, rfl, hb, hM, hB⟩
    have HM := Aside0.mk hM
    have HB := Aside0.mk hB
    clear hM hB hb
    go_wp2_with fail
    refine (impl_labelSet.calls A1 c1 l1 w1 (Kd.C_below R1.out HB.out) X1.out X2.out X3.out).mono ?_
    rintro e w2 ⟨b', rfl, hb', hM', hB'⟩
    have HM2 := Aside0.mk (HM.out.below hB')
    have HM' := Aside0.mk hM'
    have HB2 := Aside0.mk (below_step HB.out hB')
    clear hM' hB' hb' HM HB
    go_wp2_with fail
    have HE := model_LabelSet_Equal.calls b _ b' _ _ _ w2 HM2.out HM'.out
    rw [HQ.out] at HE
    refine HE.mono ?_
    clear HE
    rintro e w3 ⟨rfl, hB3⟩
    have HB3 := Aside0.mk (below_step HB2.out hB3)
    clear hB3
    go_wp2
    go_ret
    exact ⟨rfl, HB3.out⟩
  · cases h


/-! ### bits_Len32: function 66 -/
-- contracts that were proved by hand
-- nothing told here: the shelf's contract of sort.Strings stands in its place


/-! ### bits_Len64: function 67 -/
-- contracts that were proved by hand
-- nothing told here: the shelf's contract of sort.Strings stands in its place


/-! ### bits_Len: function 62 -/
-- contracts that were proved by hand
-- nothing told here: the shelf's contract of sort.Strings stands in its place


/-! ### sort_insertionSort: function 68 -/
-- contracts that were proved by hand
-- nothing told here: the shelf's contract of sort.Sort stands in its place


/-! ### sort_siftDown: function 77 -/
-- contracts that were proved by hand
-- nothing told here: the shelf's contract of sort.Sort stands in its place


/-! ### sort_heapSort: function 69 -/
-- contracts that were proved by hand
-- nothing told here: the shelf's contract of sort.Sort stands in its place


/-! ### sort_nextPowerOfTwo: function 78 -/
-- contracts that were proved by hand
-- nothing told here: the shelf's contract of sort.Sort stands in its place


/-! ### sort_xorshift_Next: function 79 -/
-- contracts that were proved by hand
-- nothing told here: the shelf's contract of sort.Sort stands in its place


/-! ### sort_breakPatterns: function 70 -/
-- contracts that were proved by hand
-- nothing told here: the shelf's contract of sort.Sort stands in its place


/-! ### sort_order2: function 91 -/
-- contracts that were proved by hand
-- nothing told here: the shelf's contract of sort.Sort stands in its place


/-! ### sort_median: function 81 -/
-- contracts that were proved by hand
-- nothing told here: the shelf's contract of sort.Sort stands in its place


/-! ### sort_medianAdjacent: function 80 -/
-- contracts that were proved by hand
-- nothing told here: the shelf's contract of sort.Sort stands in its place


/-! ### sort_choosePivot: function 71 -/
-- contracts that were proved by hand
-- nothing told here: the shelf's contract of sort.Sort stands in its place


/-! ### sort_reverseRange: function 72 -/
-- contracts that were proved by hand
-- nothing told here: the shelf's contract of sort.Sort stands in its place


/-! ### sort_partialInsertionSort: function 73 -/
-- contracts that were proved by hand
-- nothing told here: the shelf's contract of sort.Sort stands in its place


/-! ### sort_partitionEqual: function 74 -/
-- contracts that were proved by hand
-- nothing told here: the shelf's contract of sort.Sort stands in its place


/-! ### sort_partition: function 75 -/
-- contracts that were proved by hand
-- nothing told here: the shelf's contract of sort.Sort stands in its place


/-! ### sort_pdqsort: function 63 -/
-- contracts that were proved by hand
-- nothing told here: the shelf's contract of sort.Sort stands in its place


/-! ### sort_Sort: function 54 -/
-- contracts that were proved by hand
section names
open Go.Sort
theorem LNames.len_reached (p : Option Addr) (n c : Nat) : Reaches Try.prog 96 (.slice p n c) "Len" 124 := ⟨fun _ => by kernel_rfl, enters_of Try.func124 (by kernel_rfl) rfl⟩
theorem LNames.less_reached (p : Option Addr) (n c : Nat) : Reaches Try.prog 96 (.slice p n c) "Less" 125 := ⟨fun _ => by kernel_rfl, enters_of Try.func125 (by kernel_rfl) rfl⟩
theorem LNames.swap_reached (p : Option Addr) (n c : Nat) : Reaches Try.prog 96 (.slice p n c) "Swap" 127 := ⟨fun _ => by kernel_rfl, enters_of Try.func127 (by kernel_rfl) rfl⟩
theorem LNames.Len (p : Option Addr) (n c : Nat) (W : World) : LenM Try.prog 124 (.slice p n c) n W := by
  unfold LenM
  go_enter Try.func124, Try.ntmps124
  go_wp2
  go_ret
  exact ⟨rfl, 0, rfl⟩
set_option maxHeartbeats 2000000 in
theorem LNames.Less (blk off c size : Nat) (W : World) (G : Nat → List UInt8) (hc : ∀ t, t < size → W.cell? ⟨blk, off + t, none⟩ = some (encStr (G t))) (i j : Nat) (hi : i < size) (hj : j < size) (_hsz : size < 4611686018427387904) :
    Calls Try.prog 125 #[.slice (some ⟨blk, off, none⟩) size c, .int .i64 i, .int .i64 j] W fun e w' => e = .returned (.bool (ltStr (G i) (G j))) ∧ ∃ q, w' = W.drewN q := by
  have ci := hc i hi
  have cj := hc j hj
  go_enter Try.func125, Try.ntmps125
  go_wp2
  go_quiet (fail)
  go_wp2
  go_ret
  exact ⟨by simp [ltStr, Pure.less_eq], nq, rfl⟩
set_option maxHeartbeats 2000000 in
theorem LNames.Swap (blk off c size : Nat) (W : World) (x y : List UInt8) (i j : Nat) (hi : i < size) (hj : j < size) (_hsz : size < 4611686018427387904)
    (ci : W.cell? ⟨blk, off + i, none⟩ = some (encStr x)) (cj : W.cell? ⟨blk, off + j, none⟩ = some (encStr y)) (fi : W.frozen? ⟨blk, off + i, none⟩ = false) (fj : W.frozen? ⟨blk, off + j, none⟩ = false) :
    Calls Try.prog 127 #[.slice (some ⟨blk, off, none⟩) size c, .int .i64 i, .int .i64 j] W fun e w' => e = .returned (.tuple #[]) ∧ ∃ q, w' = ((W.setCell ⟨blk, off + i, none⟩ (encStr y)).setCell ⟨blk, off + j, none⟩ (encStr x)).drewN q := by
  obtain ⟨v', hy'⟩ := cell?_setCell_some (w := W) (p := ⟨blk, off + i, none⟩) (x := encStr y) (q := ⟨blk, off + j, none⟩) cj
  go_enter Try.func127, Try.ntmps127
  go_wp2
  go_region
  all_goals (try go_wp2)
  all_goals go_end0
  all_goals exact ⟨rfl, 1, rfl⟩
theorem LNames.LessM (blk off c : Nat) (d : Array (List UInt8)) (w : World) (hH : Holds encStr w blk off d) (hblk : blk < w.heap.size) (hsz : d.size < 4611686018427387904) :
    LessM Try.prog 125 (.slice (some ⟨blk, off, none⟩) d.size c) encStr ltStr blk off d.size w := fun m os dk hs i j hi hj =>
  LNames.Less blk off c d.size _ (fun t => dk[t]!) (fun t ht => ((holds_sortWorld encStr w blk off m d dk os hblk hH hs) t (by omega)).1) i j hi hj hsz
theorem LNames.SwapM (blk off c size : Nat) (hsz : size < 4611686018427387904) : SwapM Try.prog 127 (.slice (some ⟨blk, off, none⟩) size c) encStr blk off size := fun W dk hH hs i j hi hj =>
  LNames.Swap blk off c size W dk[i]! dk[j]! i j hi hj hsz (hH i (by omega)).1 (hH j (by omega)).1 (hH i (by omega)).2 (hH j (by omega)).2
theorem merge_ltStr (ss : List (List UInt8)) : ss.mergeSort (fun x y => !ltStr y x) = ss.mergeSort fun x y => decide (x ≤ y) := by
  congr 1
  funext x y
  show (!decide (y < x)) = decide (x ≤ y)
  by_cases h : x ≤ y
  · have h' : ¬ y < x := List.not_lt.2 h
    simp [h, h']
  · have h' : y < x := List.not_le.1 h
    simp [h, h']
set_option maxRecDepth 100000 in
/-- Names of the call's own, sorted in their place. -/
theorem sort_Sort.names (v : Value) (xs : List ByteArray) (w : World) (base : Nat) (h : Kd.R Kd.string 79 w base (fun _ => True) v xs) (hl : xs.length < 4611686018427387904) :
    Calls Try.prog 54 #[.iface 96 v] w fun e w' => e = .returned (.tuple #[]) ∧ Kd.R Kd.string 79 w' base (fun _ => True) v (sortB xs) ∧ w.grownBy w' v.ownBlock := by
  have ho := Kd.own_of_R h
  have small : ∀ p c, v = .slice p xs.length c → xs.length ≤ 1 → Calls Try.prog 54 #[.iface 96 v] w fun e w' => e = .returned (.tuple #[]) ∧ Kd.R Kd.string 79 w' base (fun _ => True) v (sortB xs) ∧ w.grownBy w' v.ownBlock := by
    rintro p c rfl hn
    refine (Try.sort_Sort_tiny (α := Nat) 96 _ _ (LNames.len_reached p xs.length c) xs.length hn w (LNames.Len _ _ _ _)).mono ?_
    rintro e w1 ⟨rfl, q, rfl⟩
    have e : sortB xs = xs := by
      match xs, hn with
      | [], _ => simp [sortB]
      | [x], _ => simp [sortB]
      | _ :: _ :: _, h => simp at h
    have hg : ∀ row, w.grownBy (w.drewN q) row := fun row => ⟨rfl, rfl, rfl, Nat.le_refl _, fun _ _ _ => rfl⟩
    rw [e]
    exact ⟨rfl, Kd.R_mono (Kd.R_grown (row := none) (Kd.R_mono h (fun _ _ => trivial)) (hg none) (fun _ _ => by simp)) (fun _ _ => trivial), hg _⟩
  rcases ho.2 with ⟨rfl, hn⟩ | ⟨g, cap, cur, rfl, hbase, hb, h1, h2, h3, h4⟩
  · obtain rfl : xs = [] := List.length_eq_zero_iff.1 hn
    exact small none 0 rfl (Nat.zero_le _)
  · by_cases hn : xs.length ≤ 1
    · exact small _ _ rfl hn
    have hl2 : (xs.map (·.data.toList)).length = xs.length := List.length_map ..
    have h4' : cur.toList.take (xs.map (·.data.toList)).length = (xs.map (·.data.toList)).map encStr := by rw [hl2, enc_map]; simpa using h4
    have hH := holds_of_block hb h4'
    have hsz : (xs.map (·.data.toList)).toArray.size = xs.length := by simp
    have hblk := (Array.getElem?_eq_some_iff.1 hb).1
    obtain ⟨d, hd0⟩ : ∃ d, (xs.map (·.data.toList)).toArray = d := ⟨_, rfl⟩
    rw [hd0] at hH hsz
    have rN := LNames.len_reached (some ⟨g, 0, none⟩) d.size cap
    have rL := LNames.less_reached (some ⟨g, 0, none⟩) d.size cap
    have rS := LNames.swap_reached (some ⟨g, 0, none⟩) d.size cap
    have hz : d.size < 4611686018427387904 := by rw [hsz]; exact hl
    have lL := LNames.LessM g 0 cap d w hH hblk hz
    have lS := LNames.SwapM g 0 cap d.size hz
    have lN := LNames.Len (some ⟨g, 0, none⟩) d.size cap w
    have C := Try.sort_Sort_sorted 96 (.slice (some ⟨g, 0, none⟩) d.size cap) 124 125 127 rN rL rS encStr ltStr swo_ltStr g 0 d (by rw [hsz]; omega) hz w lN lL lS hH hblk
    rw [hsz] at C
    refine C.mono ?_
    rintro e w1 ⟨rfl, d', n, os, hP, hS, rfl⟩
    rw [← hsz] at hP hS
    subst hd0
    have hd := sorted_unique_holds swo_ltStr (fun x y h1 h2 => by simp only [ltStr, decide_eq_false_iff_not, List.not_lt] at h1 h2; exact List.le_antisymm h2 h1) _ d' hP hS
    rw [merge_ltStr, List.toList_toArray, ← sortB_map] at hd
    have hd' : d' = ((sortB xs).map (·.data.toList)).toArray := by rw [← hd]
    rw [hd']
    have hl3 : ((sortB xs).map (·.data.toList)).length = (xs.map (·.data.toList)).length := by rw [List.length_map, List.length_map, (sortB_perm xs).length_eq]
    have hown := ownsRow_sorted (n := n) (os := os) hl3 hbase hb (by rw [hl2]; exact h1) h2 h3
    rw [enc_map, hl2] at hown
    refine ⟨rfl, Kd.R_of_own (by rw [(sortB_perm xs).length_eq]; exact hown) (fun _ _ => trivial), ?_⟩
    exact grownBy_sorted _
end names


end Go.Proofs.Ytbffcmiabcmjcaa.Q
