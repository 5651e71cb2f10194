-- printed by this project's own program wip/tools/mkprint.py (the kit's print.py with hand-proved contracts put in)
import Derived.Test.YtcneoonhdfblaaaQx0
namespace Go.Proofs.Ytcneoonhdfblaaa.Q
open Go.RowKit Go.Proofs.YtcneoonhdfblaaaW.PrintWords Go.Proofs.YtcneoonhdfblaaaW.PrintLast Go.Proofs.YtcneoonhdfblaaaW.PrintMore
attribute [local go_sem] max2_int min2_int max_two min_two max_three min_three max_four min_four   -- for this text's walks alone
set_option linter.unusedVariables false
set_option linter.unusedSimpArgs false

/-! ### laws_zzFits2: function 23 -/
def laws_zzFits2.f (a0_0 : ByteArray) (a0_1 : ByteArray) : Option (Bool) := if (a0_0.size : Int) > 2147483647 then (some false) else (if (a0_1.size : Int) > 2147483647 then (some false) else (some true))
set_option maxHeartbeats 8000000 in
set_option maxRecDepth 100000 in
theorem laws_zzFits2.calls (a0_0 : ByteArray) (a0_1 : ByteArray) (r : Bool) (w : World) (h : laws_zzFits2.f a0_0 a0_1 = some r) :
    Calls Try.prog 23 #[.agg #[.string a0_0, .string a0_1]] w fun e w' => e = .returned (.bool r) ∧ Below w.heap.size w w' := by
  have hu32 := Try.underlying32
  have HB := Aside0.mk (Below.refl w.heap.size w)
  have H : (if (a0_0.size : Int) > 2147483647 then (some false) else (if (a0_1.size : Int) > 2147483647 then (some false) else (some true))) = some r := h
  clear h
  by_cases c2 : (a0_0.size : Int) > 2147483647
  · rw [if_pos c2] at H
    have c2b0 : decide (2147483647 < (a0_0.size : Int)) = true := decide_eq_true c2
    have c2b1 : decide (2147483647 < a0_0.size) = true := decide_eq_true (by omega)
    clear c2
    obtain rfl := Option.some.inj H
    go_enter Try.func23, Try.ntmps23
    go_wp2_with (first | ((with_reducible refine gate_dst (N := 1) rfl ?_); refine box_event ?hg (N := 1) ?hd (cs := #[.string a0_0, .string a0_1]) (t := 32) ?hr ?_; (case hd => rfl); (case hg => rfl); (case hr => first | (go_simp; done) | (go_simp; rfl)); intro gb101 hg w3 hbox hb; have n0_ := Aside0.mk (below_step (by repeat (first | (with_reducible first | exact HB.out | apply below_alloc | apply pw_below_drewN | apply below_drew1) | exact HB.out)) hb); have n1_ := Aside0.mk (hbox); have n2_ := Aside0.mk ((by rw [hg]; exact (below_size (by repeat (first | (with_reducible first | exact HB.out | apply below_alloc | apply pw_below_drewN | apply below_drew1) | exact HB.out))) : w.heap.size ≤ gb101)); have n3_ := Aside0.mk ((by rw [hg]; exact (below_size (by repeat (first | (with_reducible first | exact HB.out | apply below_alloc | apply pw_below_drewN | apply below_drew1) | exact HB.out))) : w.heap.size ≤ gb101)); clear HB; have HB := n0_; have BK101 := n1_; have GW101 := n2_; have GE101 := n3_; clear n0_ n1_ n2_ n3_; clear hb hbox hg; have hcz4_0 : w3.cell? ⟨gb101, 0, none⟩ = some (.string a0_0) := (blk_cell BK101.out 0).trans rfl; have hcz4_1 : w3.cell? ⟨gb101, 1, none⟩ = some (.string a0_1) := (blk_cell BK101.out 1).trans rfl; have hfz4_0 := blk_frozen BK101.out 0; have hfz4_1 := blk_frozen BK101.out 1))
    go_ret
    exact ⟨by first | rfl | (simp [errW_none, errW_some] <;> rfl) | (simp [*, errW_none, errW_some] <;> rfl), by repeat (first | (with_reducible first | exact HB.out | apply below_alloc | apply pw_below_drewN | apply below_drew1 | refine below_set ?_ GE101.out) | exact HB.out)⟩
  · rw [if_neg c2] at H
    have c2b0 : decide (2147483647 < (a0_0.size : Int)) = false := decide_eq_false c2
    have c2b1 : decide (2147483647 < a0_0.size) = false := decide_eq_false (by omega)
    clear c2
    by_cases c5 : (a0_1.size : Int) > 2147483647
    · rw [if_pos c5] at H
      have c5b0 : decide (2147483647 < (a0_1.size : Int)) = true := decide_eq_true c5
      have c5b1 : decide (2147483647 < a0_1.size) = true := decide_eq_true (by omega)
      clear c5
      obtain rfl := Option.some.inj H
      go_enter Try.func23, Try.ntmps23
      go_wp2_with (first | ((with_reducible refine gate_dst (N := 1) rfl ?_); refine box_event ?hg (N := 1) ?hd (cs := #[.string a0_0, .string a0_1]) (t := 32) ?hr ?_; (case hd => rfl); (case hg => rfl); (case hr => first | (go_simp; done) | (go_simp; rfl)); intro gb101 hg w6 hbox hb; have n0_ := Aside0.mk (below_step (by repeat (first | (with_reducible first | exact HB.out | apply below_alloc | apply pw_below_drewN | apply below_drew1) | exact HB.out)) hb); have n1_ := Aside0.mk (hbox); have n2_ := Aside0.mk ((by rw [hg]; exact (below_size (by repeat (first | (with_reducible first | exact HB.out | apply below_alloc | apply pw_below_drewN | apply below_drew1) | exact HB.out))) : w.heap.size ≤ gb101)); have n3_ := Aside0.mk ((by rw [hg]; exact (below_size (by repeat (first | (with_reducible first | exact HB.out | apply below_alloc | apply pw_below_drewN | apply below_drew1) | exact HB.out))) : w.heap.size ≤ gb101)); clear HB; have HB := n0_; have BK101 := n1_; have GW101 := n2_; have GE101 := n3_; clear n0_ n1_ n2_ n3_; clear hb hbox hg; have hcz7_0 : w6.cell? ⟨gb101, 0, none⟩ = some (.string a0_0) := (blk_cell BK101.out 0).trans rfl; have hcz7_1 : w6.cell? ⟨gb101, 1, none⟩ = some (.string a0_1) := (blk_cell BK101.out 1).trans rfl; have hfz7_0 := blk_frozen BK101.out 0; have hfz7_1 := blk_frozen BK101.out 1))
      go_ret
      exact ⟨by first | rfl | (simp [errW_none, errW_some] <;> rfl) | (simp [*, errW_none, errW_some] <;> rfl), by repeat (first | (with_reducible first | exact HB.out | apply below_alloc | apply pw_below_drewN | apply below_drew1 | refine below_set ?_ GE101.out) | exact HB.out)⟩
    · rw [if_neg c5] at H
      have c5b0 : decide (2147483647 < (a0_1.size : Int)) = false := decide_eq_false c5
      have c5b1 : decide (2147483647 < a0_1.size) = false := decide_eq_false (by omega)
      clear c5
      obtain rfl := Option.some.inj H
      go_enter Try.func23, Try.ntmps23
      go_wp2_with (first | ((with_reducible refine gate_dst (N := 1) rfl ?_); refine box_event ?hg (N := 1) ?hd (cs := #[.string a0_0, .string a0_1]) (t := 32) ?hr ?_; (case hd => rfl); (case hg => rfl); (case hr => first | (go_simp; done) | (go_simp; rfl)); intro gb101 hg w8 hbox hb; have n0_ := Aside0.mk (below_step (by repeat (first | (with_reducible first | exact HB.out | apply below_alloc | apply pw_below_drewN | apply below_drew1) | exact HB.out)) hb); have n1_ := Aside0.mk (hbox); have n2_ := Aside0.mk ((by rw [hg]; exact (below_size (by repeat (first | (with_reducible first | exact HB.out | apply below_alloc | apply pw_below_drewN | apply below_drew1) | exact HB.out))) : w.heap.size ≤ gb101)); have n3_ := Aside0.mk ((by rw [hg]; exact (below_size (by repeat (first | (with_reducible first | exact HB.out | apply below_alloc | apply pw_below_drewN | apply below_drew1) | exact HB.out))) : w.heap.size ≤ gb101)); clear HB; have HB := n0_; have BK101 := n1_; have GW101 := n2_; have GE101 := n3_; clear n0_ n1_ n2_ n3_; clear hb hbox hg; have hcz9_0 : w8.cell? ⟨gb101, 0, none⟩ = some (.string a0_0) := (blk_cell BK101.out 0).trans rfl; have hcz9_1 : w8.cell? ⟨gb101, 1, none⟩ = some (.string a0_1) := (blk_cell BK101.out 1).trans rfl; have hfz9_0 := blk_frozen BK101.out 0; have hfz9_1 := blk_frozen BK101.out 1))
      go_ret
      exact ⟨by first | rfl | (simp [errW_none, errW_some] <;> rfl) | (simp [*, errW_none, errW_some] <;> rfl), by repeat (first | (with_reducible first | exact HB.out | apply below_alloc | apply pw_below_drewN | apply below_drew1 | refine below_set ?_ GE101.out) | exact HB.out)⟩

/-! ### laws_zzFits1: function 10 -/
def laws_zzFits1.l0 : Nat → List (S32) → Int → Int → Option (Bool)
  | 0, _, _, _ => none
  | k + 1, x8, x9, x10 => if x10 < x9 then (if 0 ≤ x10 then (if x10 < (x8.length : Int) then ((laws_zzFits2.f ((rd_T32 x8 x10).f0) ((rd_T32 x8 x10).f1)).bind fun t104 => (if t104 = true then (laws_zzFits1.l0 k x8 x9 (wrap64 (x10 + 1))) else (some false))) else (none)) else (none)) else (some true)
def laws_zzFits1.f (k : Nat) (l0 : List (S32)) : Option (Bool) := if (l0.length : Int) > 2147483647 then (some false) else (laws_zzFits1.l0 k l0 (l0.length : Int) 0)
theorem laws_zzFits1.mono_l : ∀ k, (∀ y0 y1 y2, LeO (laws_zzFits1.l0 k y0 y1 y2) (laws_zzFits1.l0 (k + 1) y0 y1 y2))
  | 0 => fun _ _ _ r h => by simp [laws_zzFits1.l0] at h
  | k + 1 => by
    have ih0 := laws_zzFits1.mono_l k
    · intro y0 y1 y2
      unfold laws_zzFits1.l0
      repeat' first
      | (with_reducible exact ih0 _ _ _)
      | (with_reducible exact LeO.refl _)
      | (with_reducible exact LeO.none _)
      | (with_reducible refine LeO.ite ?_ ?_)
      | (with_reducible refine LeO.bind ?_ (fun _ => ?_))
      | exact ih0 _ _ _
      | exact LeO.none _
      | refine LeO.ite ?_ ?_
      | refine LeO.bind ?_ (fun _ => ?_)
theorem laws_zzFits1.mono : ∀ a0 k, LeO (laws_zzFits1.f k a0) (laws_zzFits1.f (k + 1) a0) := by
  intro a0 k
  have ih0 := laws_zzFits1.mono_l k
  unfold laws_zzFits1.f
  repeat' first
      | (with_reducible exact ih0 _ _ _)
      | (with_reducible exact LeO.refl _)
      | (with_reducible exact LeO.none _)
      | (with_reducible refine LeO.ite ?_ ?_)
      | (with_reducible refine LeO.bind ?_ (fun _ => ?_))
      | exact ih0 _ _ _
      | exact LeO.none _
      | refine LeO.ite ?_ ?_
      | refine LeO.bind ?_ (fun _ => ?_)
set_option maxHeartbeats 8000000 in
set_option maxRecDepth 100000 in
theorem laws_zzFits1.calls (k : Nat) (A0 : Option Addr) (c0 : Nat) (l0 : List (S32)) (r : Bool) (w : World) (hr0 : Kd.C k32 w A0 l0.length l0) (hc0 : l0.length ≤ c0) (h : laws_zzFits1.f k l0 = some r) :
    Calls Try.prog 10 #[.slice A0 l0.length c0] w fun e w' => e = .returned (.bool r) ∧ Below w.heap.size w w' := by
  have hu32 := Try.underlying32
  have HR0 := Aside0.mk hr0
  have HC0 := Aside0.mk hc0
  clear hr0 hc0
  have HB := Aside0.mk (Below.refl w.heap.size w)
  have H : (if (l0.length : Int) > 2147483647 then (some false) else (laws_zzFits1.l0 k l0 (l0.length : Int) 0)) = some r := h
  clear h
  by_cases c2 : (l0.length : Int) > 2147483647
  · rw [if_pos c2] at H
    have c2b0 : decide (2147483647 < (l0.length : Int)) = true := decide_eq_true c2
    have c2b1 : decide (2147483647 < l0.length) = true := decide_eq_true (by omega)
    clear c2
    obtain rfl := Option.some.inj H
    go_enter Try.func10, Try.ntmps10
    go_wp2
    go_ret
    exact ⟨by first | rfl | (simp [errW_none, errW_some] <;> rfl) | (simp [*, errW_none, errW_some] <;> rfl), by repeat (first | (with_reducible first | exact HB.out | apply below_alloc | apply pw_below_drewN | apply below_drew1) | exact HB.out)⟩
  · rw [if_neg c2] at H
    have c2b0 : decide (2147483647 < (l0.length : Int)) = false := decide_eq_false c2
    have c2b1 : decide (2147483647 < l0.length) = false := decide_eq_false (by omega)
    clear c2
    have H' := Aside0.mk H
    clear H
    go_enter Try.func10, Try.ntmps10
    go_wp2
    go_loopg [10] k (fun kq v10 w' => ∃ (x10_1 : Int), v10 = .int .i64 x10_1 ∧ Aside0 (laws_zzFits1.l0 kq l0 (l0.length : Int) x10_1 = some r) ∧ Aside0 (kq ≤ k) ∧ Aside0 (Below w.heap.size w w'))
    case atStart => exact ⟨(0), (by first | rfl | (simp; done) | (simp [*]; done)), H', ⟨Nat.le_refl _⟩, ⟨by repeat (first | (with_reducible first | exact HB.out | apply below_alloc | apply pw_below_drewN | apply below_drew1) | exact HB.out)⟩⟩
    case round =>
      clear H'
      try clear c1
      try clear c2
      try clear c2b0
      try clear c2b1
      try clear p2
      obtain ⟨x10_1, rfl, HA, HK1, HB⟩ := hrel
      cases gk with
      | zero => exact absurd HA.out (by simp [laws_zzFits1.l0])
      | succ k1 =>
        have H := HA.out
        clear HA
        simp only [laws_zzFits1.l0] at H
        by_cases c3 : x10_1 < (l0.length : Int)
        · rw [if_pos c3] at H
          have c3b0 : decide (x10_1 < (l0.length : Int)) = true := decide_eq_true c3
          clear c3
          by_cases c4 : 0 ≤ x10_1
          · rw [if_pos c4] at H
            have c4b0 : decide (0 ≤ x10_1) = true := decide_eq_true c4
            clear c4
            by_cases c5 : x10_1 < (l0.length : Int)
            · rw [if_pos c5] at H
              have c5b0 : decide (x10_1 < (l0.length : Int)) = true := decide_eq_true c5
              clear c5
              replace H := Option.bind_eq_some_iff.mp H
              obtain ⟨t104, A60, H⟩ := H
              replace H : (if t104 = true then (laws_zzFits1.l0 k1 l0 (l0.length : Int) (wrap64 (x10_1 + 1))) else (some false)) = some r := H
              have A6 := Aside0.mk A60
              clear A60
              by_cases c7 : t104 = true
              · subst c7
                have H1 : (laws_zzFits1.l0 k1 l0 (l0.length : Int) (wrap64 (x10_1 + 1))) = some r := by rw [if_pos rfl] at H; exact H
                clear H
                have H := H1
                clear H1
                have H' := Aside0.mk H
                clear H
                have p102 : 0 ≤ (x10_1 : Int) := of_decide_eq_true (by first | (with_reducible assumption) | assumption)
                have q102 : x10_1 < (l0.length : Int) := of_decide_eq_true (by first | (with_reducible assumption) | assumption)
                obtain ⟨ad102, e102, hx102_0, hx102_1⟩ := at_T32 HR0.out x10_1 p102 q102
                cases e102
                replace hx102_0 := (HB.out.cell (World.block_lt_of_cell? w _ hx102_0)).trans hx102_0
                replace hx102_1 := (HB.out.cell (World.block_lt_of_cell? w _ hx102_1)).trans hx102_1
                replace p102 := eq_true p102
                replace q102 := eq_true q102
                go_wp2_with (first | ((with_reducible refine gate_dst (N := 4) rfl ?_); refine box_event ?hg (N := 4) ?hd (cs := #[.string (⟨#[]⟩ : ByteArray), .string (⟨#[]⟩ : ByteArray)]) (t := 32) ?hr ?_; (case hd => rfl); (case hg => rfl); (case hr => first | (go_simp; done) | (go_simp; rfl)); intro gb103 hg w8 hbox hb; have n0_ := Aside0.mk (below_step (by repeat (first | (with_reducible first | exact HB.out | apply below_alloc | apply pw_below_drewN | apply below_drew1) | exact HB.out)) hb); have n1_ := Aside0.mk (hbox); have n2_ := Aside0.mk ((by rw [hg]; exact (below_size (by repeat (first | (with_reducible first | exact HB.out | apply below_alloc | apply pw_below_drewN | apply below_drew1) | exact HB.out))) : w.heap.size ≤ gb103)); have n3_ := Aside0.mk ((by rw [hg]; exact (below_size (by repeat (first | (with_reducible first | exact HB.out | apply below_alloc | apply pw_below_drewN | apply below_drew1) | exact HB.out))) : w.heap.size ≤ gb103)); clear HB; have HB := n0_; have BK103 := n1_; have GW103 := n2_; have GE103 := n3_; clear n0_ n1_ n2_ n3_; clear hb hbox hg; have hcz9_0 : w8.cell? ⟨gb103, 0, none⟩ = some (.string (⟨#[]⟩ : ByteArray)) := (blk_cell BK103.out 0).trans rfl; have hcz9_1 : w8.cell? ⟨gb103, 1, none⟩ = some (.string (⟨#[]⟩ : ByteArray)) := (blk_cell BK103.out 1).trans rfl; have hfz9_0 := blk_frozen BK103.out 0; have hfz9_1 := blk_frozen BK103.out 1) | ((with_reducible refine gate_callee (f := 23) rfl ?_); refine goesL_ (some 15) rfl rfl Try.func23 (by kernel_rfl) rfl #[.agg #[.string ((rd_T32 l0 x10_1).f0), .string ((rd_T32 l0 x10_1).f1)]] rfl (by (try simp only [List.map_toArray, List.map_cons, List.map_nil]); first | done | rfl | (simp only [List.length_drop, List.length_take]; rfl)) ?_; (with_reducible refine (laws_zzFits2.calls ((rd_T32 l0 x10_1).f0) ((rd_T32 l0 x10_1).f1) true _ A6.out).mono ?_); rintro e w10 ⟨rfl, hb⟩; refine ⟨_, rfl, ?_⟩; have n0_ := Aside0.mk (blk_below (g := gb103) (o := .cells #[.string ((rd_T32 l0 x10_1).f0), .string ((rd_T32 l0 x10_1).f1)] 32 (0, 0)) (by (with_reducible repeat (first | refine blk_drewN ?_ _ | refine blk_drew ?_ | refine blk_alloc ?_ _)); refine blk_put (cs := #[.string ((rd_T32 l0 x10_1).f0), .string (⟨#[]⟩ : ByteArray)]) ?_ 1 _ rfl; (with_reducible repeat (first | refine blk_drewN ?_ _ | refine blk_drew ?_ | refine blk_alloc ?_ _)); refine blk_put (cs := #[.string (⟨#[]⟩ : ByteArray), .string (⟨#[]⟩ : ByteArray)]) ?_ 0 _ rfl; (with_reducible repeat (first | refine blk_drewN ?_ _ | refine blk_drew ?_ | refine blk_alloc ?_ _)); exact BK103.out) hb); have n1_ := Aside0.mk (below_step (by repeat (first | (with_reducible first | exact HB.out | apply below_alloc | apply pw_below_drewN | apply below_drew1 | refine below_set ?_ GE103.out) | exact HB.out)) hb); clear BK103; clear HB; have BK103 := n0_; have HB := n1_; clear n0_ n1_; (try clear hb); (try clear hb2); (try clear hk); (try clear hi)))
                go_roundg k1
                case measure => have := HK1.out; omega
                case rel => exact ⟨(wrap64 (x10_1 + 1)), (by first | rfl | (simp; done) | (simp [*]; done)), H', ⟨by have := HK1.out; omega⟩, ⟨by repeat (first | (with_reducible first | exact HB.out | apply below_alloc | apply pw_below_drewN | apply below_drew1 | refine below_set ?_ GE103.out) | exact HB.out)⟩⟩
              · replace c7 := Bool.eq_false_iff.mpr c7
                subst c7
                have H1 : (some false) = some r := by rw [if_neg (show ¬ (false = true) by decide)] at H; exact H
                clear H
                have H := H1
                clear H1
                obtain rfl := Option.some.inj H
                have p102 : 0 ≤ (x10_1 : Int) := of_decide_eq_true (by first | (with_reducible assumption) | assumption)
                have q102 : x10_1 < (l0.length : Int) := of_decide_eq_true (by first | (with_reducible assumption) | assumption)
                obtain ⟨ad102, e102, hx102_0, hx102_1⟩ := at_T32 HR0.out x10_1 p102 q102
                cases e102
                replace hx102_0 := (HB.out.cell (World.block_lt_of_cell? w _ hx102_0)).trans hx102_0
                replace hx102_1 := (HB.out.cell (World.block_lt_of_cell? w _ hx102_1)).trans hx102_1
                replace p102 := eq_true p102
                replace q102 := eq_true q102
                go_wp2_with (first | ((with_reducible refine gate_dst (N := 4) rfl ?_); refine box_event ?hg (N := 4) ?hd (cs := #[.string (⟨#[]⟩ : ByteArray), .string (⟨#[]⟩ : ByteArray)]) (t := 32) ?hr ?_; (case hd => rfl); (case hg => rfl); (case hr => first | (go_simp; done) | (go_simp; rfl)); intro gb103 hg w11 hbox hb; have n0_ := Aside0.mk (below_step (by repeat (first | (with_reducible first | exact HB.out | apply below_alloc | apply pw_below_drewN | apply below_drew1) | exact HB.out)) hb); have n1_ := Aside0.mk (hbox); have n2_ := Aside0.mk ((by rw [hg]; exact (below_size (by repeat (first | (with_reducible first | exact HB.out | apply below_alloc | apply pw_below_drewN | apply below_drew1) | exact HB.out))) : w.heap.size ≤ gb103)); have n3_ := Aside0.mk ((by rw [hg]; exact (below_size (by repeat (first | (with_reducible first | exact HB.out | apply below_alloc | apply pw_below_drewN | apply below_drew1) | exact HB.out))) : w.heap.size ≤ gb103)); clear HB; have HB := n0_; have BK103 := n1_; have GW103 := n2_; have GE103 := n3_; clear n0_ n1_ n2_ n3_; clear hb hbox hg; have hcz12_0 : w11.cell? ⟨gb103, 0, none⟩ = some (.string (⟨#[]⟩ : ByteArray)) := (blk_cell BK103.out 0).trans rfl; have hcz12_1 : w11.cell? ⟨gb103, 1, none⟩ = some (.string (⟨#[]⟩ : ByteArray)) := (blk_cell BK103.out 1).trans rfl; have hfz12_0 := blk_frozen BK103.out 0; have hfz12_1 := blk_frozen BK103.out 1) | ((with_reducible refine gate_callee (f := 23) rfl ?_); refine goesL_ (some 15) rfl rfl Try.func23 (by kernel_rfl) rfl #[.agg #[.string ((rd_T32 l0 x10_1).f0), .string ((rd_T32 l0 x10_1).f1)]] rfl (by (try simp only [List.map_toArray, List.map_cons, List.map_nil]); first | done | rfl | (simp only [List.length_drop, List.length_take]; rfl)) ?_; (with_reducible refine (laws_zzFits2.calls ((rd_T32 l0 x10_1).f0) ((rd_T32 l0 x10_1).f1) false _ A6.out).mono ?_); rintro e w13 ⟨rfl, hb⟩; refine ⟨_, rfl, ?_⟩; have n0_ := Aside0.mk (blk_below (g := gb103) (o := .cells #[.string ((rd_T32 l0 x10_1).f0), .string ((rd_T32 l0 x10_1).f1)] 32 (0, 0)) (by (with_reducible repeat (first | refine blk_drewN ?_ _ | refine blk_drew ?_ | refine blk_alloc ?_ _)); refine blk_put (cs := #[.string ((rd_T32 l0 x10_1).f0), .string (⟨#[]⟩ : ByteArray)]) ?_ 1 _ rfl; (with_reducible repeat (first | refine blk_drewN ?_ _ | refine blk_drew ?_ | refine blk_alloc ?_ _)); refine blk_put (cs := #[.string (⟨#[]⟩ : ByteArray), .string (⟨#[]⟩ : ByteArray)]) ?_ 0 _ rfl; (with_reducible repeat (first | refine blk_drewN ?_ _ | refine blk_drew ?_ | refine blk_alloc ?_ _)); exact BK103.out) hb); have n1_ := Aside0.mk (below_step (by repeat (first | (with_reducible first | exact HB.out | apply below_alloc | apply pw_below_drewN | apply below_drew1 | refine below_set ?_ GE103.out) | exact HB.out)) hb); clear BK103; clear HB; have BK103 := n0_; have HB := n1_; clear n0_ n1_; (try clear hb); (try clear hb2); (try clear hk); (try clear hi)))
                go_ret
                exact ⟨by first | rfl | (simp [errW_none, errW_some] <;> rfl) | (simp [*, errW_none, errW_some] <;> rfl), by repeat (first | (with_reducible first | exact HB.out | apply below_alloc | apply pw_below_drewN | apply below_drew1 | refine below_set ?_ GE103.out) | exact HB.out)⟩
            · rw [if_neg c5] at H
              exact absurd H (by simp)
          · rw [if_neg c4] at H
            exact absurd H (by simp)
        · rw [if_neg c3] at H
          have c3b0 : decide (x10_1 < (l0.length : Int)) = false := decide_eq_false c3
          clear c3
          obtain rfl := Option.some.inj H
          go_wp2
          go_ret
          exact ⟨by first | rfl | (simp [errW_none, errW_some] <;> rfl) | (simp [*, errW_none, errW_some] <;> rfl), by repeat (first | (with_reducible first | exact HB.out | apply below_alloc | apply pw_below_drewN | apply below_drew1) | exact HB.out)⟩

/-! ### bits_Len32: function 40 -/
-- contracts that were proved by hand
-- nothing told here: the shelf's contract of sort.Strings stands in its place


/-! ### bits_Len64: function 41 -/
-- contracts that were proved by hand
-- nothing told here: the shelf's contract of sort.Strings stands in its place


/-! ### bits_Len: function 32 -/
-- contracts that were proved by hand
-- nothing told here: the shelf's contract of sort.Strings stands in its place


/-! ### cmp_isNaN_string: function 73 -/
-- contracts that were proved by hand
-- nothing told here: the shelf's contract of sort.Strings stands in its place


/-! ### cmp_Less_string: function 65 -/
-- contracts that were proved by hand
-- nothing told here: the shelf's contract of sort.Strings stands in its place


/-! ### slices_insertionSortOrdered_string: function 59 -/
-- contracts that were proved by hand
-- nothing told here: the shelf's contract of sort.Strings stands in its place


/-! ### slices_siftDownOrdered_string: function 68 -/
-- contracts that were proved by hand
-- nothing told here: the shelf's contract of sort.Strings stands in its place


/-! ### slices_heapSortOrdered_string: function 60 -/
-- contracts that were proved by hand
-- nothing told here: the shelf's contract of sort.Strings stands in its place


/-! ### slices_nextPowerOfTwo: function 69 -/
-- contracts that were proved by hand
-- nothing told here: the shelf's contract of sort.Strings stands in its place


/-! ### slices_xorshift_Next: function 70 -/
-- contracts that were proved by hand
-- nothing told here: the shelf's contract of sort.Strings stands in its place


/-! ### slices_breakPatternsOrdered_string: function 61 -/
-- contracts that were proved by hand
-- nothing told here: the shelf's contract of sort.Strings stands in its place


/-! ### slices_order2Ordered_string: function 74 -/
-- contracts that were proved by hand
-- nothing told here: the shelf's contract of sort.Strings stands in its place


/-! ### slices_medianOrdered_string: function 72 -/
-- contracts that were proved by hand
-- nothing told here: the shelf's contract of sort.Strings stands in its place


/-! ### slices_medianAdjacentOrdered_string: function 71 -/
-- contracts that were proved by hand
-- nothing told here: the shelf's contract of sort.Strings stands in its place


/-! ### slices_choosePivotOrdered_string: function 62 -/
-- contracts that were proved by hand
-- nothing told here: the shelf's contract of sort.Strings stands in its place


/-! ### slices_reverseRangeOrdered_string: function 63 -/
-- contracts that were proved by hand
-- nothing told here: the shelf's contract of sort.Strings stands in its place


/-! ### slices_partialInsertionSortOrdered_string: function 64 -/
-- contracts that were proved by hand
-- nothing told here: the shelf's contract of sort.Strings stands in its place


/-! ### slices_partitionEqualOrdered_string: function 66 -/
-- contracts that were proved by hand
-- nothing told here: the shelf's contract of sort.Strings stands in its place


/-! ### slices_partitionOrdered_string: function 67 -/
-- contracts that were proved by hand
-- nothing told here: the shelf's contract of sort.Strings stands in its place


/-! ### slices_pdqsortOrdered_string: function 57 -/
-- contracts that were proved by hand
-- nothing told here: the shelf's contract of sort.Strings stands in its place


/-! ### slices_Sort_string_string: function 50 -/
-- contracts that were proved by hand
-- nothing told here: the shelf's contract of sort.Strings stands in its place


/-! ### sort_Strings: function 34 -/
-- contracts that were proved by hand
/-- A row of texts of the call's own, sorted in its place. -/
theorem sort_Strings.own (v : Value) (xs : List ByteArray) (w : World) (base : Nat) (h : Kd.R Kd.string 9 w base (fun _ => True) v xs) (hl : xs.length < 4611686018427387904) :
    Calls Try.prog 34 #[v] w fun e w' => e = .returned (.tuple #[]) ∧ Kd.R Kd.string 9 w' base (fun _ => True) v (sortB xs) ∧ w.grownBy w' v.ownBlock := by
  have ho := Kd.own_of_R h
  rcases ho.2 with ⟨rfl, hn⟩ | ⟨g, cap, cur, rfl, hbase, hb, h1, h2, h3, h4⟩
  · obtain rfl : xs = [] := List.length_eq_zero_iff.1 hn
    refine (Try.sort_Strings_none none 0 w).mono ?_
    rintro e w1 ⟨rfl, rfl⟩
    have e : sortB [] = [] := by simp [sortB]
    rw [e]
    exact ⟨rfl, h, ⟨rfl, rfl, rfl, Nat.le_refl _, fun _ _ _ => rfl⟩⟩
  · have hl2 : (xs.map (·.data.toList)).length = xs.length := List.length_map ..
    have h4' : cur.toList.take (xs.map (·.data.toList)).length = (xs.map (·.data.toList)).map encStr := by rw [hl2, enc_map]; simpa using h4
    have hH := holds_of_block hb h4'
    have C := Try.sort_Strings g 0 cap (xs.map (·.data.toList)) w hH (Array.getElem?_eq_some_iff.1 hb).1 (by rw [hl2]; exact hl)
    rw [hl2] at C
    refine C.mono ?_
    rintro e w1 ⟨rfl, n, os, rfl⟩
    rw [← sortB_map]
    have hl3 : ((sortB xs).map (·.data.toList)).length = (xs.map (·.data.toList)).length := by rw [List.length_map, List.length_map, (sortB_perm xs).length_eq]
    have hown := ownsRow_sorted (n := n) (os := os) hl3 hbase hb (by rw [hl2]; exact h1) h2 h3
    rw [enc_map, hl2] at hown
    refine ⟨rfl, Kd.R_of_own (by rw [(sortB_perm xs).length_eq]; exact hown) (fun _ _ => trivial), ?_⟩
    exact grownBy_sorted _


/-! ### model_hashNew: function 35 -/
def model_hashNew.f  : Option (Int) := some 14695981039346656037
set_option maxHeartbeats 8000000 in
set_option maxRecDepth 100000 in
theorem model_hashNew.calls  (r : Int) (w : World) (h : model_hashNew.f  = some r) :
    Calls Try.prog 35 #[] w fun e w' => e = .returned (.int .u64 r) ∧ Drawn0 w w' := by
  have H : (some 14695981039346656037) = some r := h
  clear h
  obtain rfl := Option.some.inj H
  go_enter Try.func35, Try.ntmps35
  go_wp2
  go_ret
  exact ⟨by first | rfl | (simp; done) | (simp [*]; done), by repeat (first | exact Drawn0.refl _ | apply Drawn0.step)⟩

/-! ### model_hashAdd: function 36 -/
def model_hashAdd.l0 : Nat → Int → ByteArray → Int → Option (Int)
  | 0, _, _, _ => none
  | k + 1, x0, x1, x5 => if x5 < (x1.size : Int) then (if 0 ≤ x5 then (model_hashAdd.l0 k (IntKind.u64.wrap ((Go.bits .xor .u64 x0 (IntKind.u64.wrap (bt x1 x5))) * 1099511628211)) x1 (wrap64 (x5 + 1))) else (none)) else (some x0)
def model_hashAdd.f (k : Nat) (a0 : Int) (a1 : ByteArray) : Option (Int) := model_hashAdd.l0 k a0 a1 0
theorem model_hashAdd.mono_l : ∀ k, (∀ y0 y1 y2, LeO (model_hashAdd.l0 k y0 y1 y2) (model_hashAdd.l0 (k + 1) y0 y1 y2))
  | 0 => fun _ _ _ r h => by simp [model_hashAdd.l0] at h
  | k + 1 => by
    have ih0 := model_hashAdd.mono_l k
    · intro y0 y1 y2
      unfold model_hashAdd.l0
      repeat' first
      | (with_reducible exact ih0 _ _ _)
      | (with_reducible exact LeO.refl _)
      | (with_reducible exact LeO.none _)
      | (with_reducible refine LeO.ite ?_ ?_)
      | (with_reducible refine LeO.bind ?_ (fun _ => ?_))
      | exact ih0 _ _ _
      | exact LeO.none _
      | refine LeO.ite ?_ ?_
      | refine LeO.bind ?_ (fun _ => ?_)
theorem model_hashAdd.mono : ∀ a0 a1 k, LeO (model_hashAdd.f k a0 a1) (model_hashAdd.f (k + 1) a0 a1) := by
  intro a0 a1 k
  have ih0 := model_hashAdd.mono_l k
  unfold model_hashAdd.f
  repeat' first
      | (with_reducible exact ih0 _ _ _)
      | (with_reducible exact LeO.refl _)
      | (with_reducible exact LeO.none _)
      | (with_reducible refine LeO.ite ?_ ?_)
      | (with_reducible refine LeO.bind ?_ (fun _ => ?_))
      | exact ih0 _ _ _
      | exact LeO.none _
      | refine LeO.ite ?_ ?_
      | refine LeO.bind ?_ (fun _ => ?_)
set_option maxHeartbeats 8000000 in
set_option maxRecDepth 100000 in
theorem model_hashAdd.calls (k : Nat) (a0 : Int) (a1 : ByteArray) (r : Int) (w : World) (h : model_hashAdd.f k a0 a1 = some r) :
    Calls Try.prog 36 #[.int .u64 a0, .string a1] w fun e w' => e = .returned (.int .u64 r) ∧ Drawn0 w w' := by
  have H : (model_hashAdd.l0 k a0 a1 0) = some r := h
  clear h
  have H' := Aside0.mk H
  clear H
  go_enter Try.func36, Try.ntmps36
  go_wp2
  go_loopg [0, 5] k (fun kq v0 v5 w' => ∃ (x0_1 : Int) (x5_1 : Int), v0 = .int .u64 x0_1 ∧ v5 = .int .i64 x5_1 ∧ Aside0 (model_hashAdd.l0 kq x0_1 a1 x5_1 = some r) ∧ Aside0 (kq ≤ k) ∧ Drawn0 w w')
  case atStart => exact ⟨(a0), (0), (by first | rfl | (simp; done) | (simp [*]; done)), (by first | rfl | (simp; done) | (simp [*]; done)), H', ⟨Nat.le_refl _⟩, by repeat (first | exact Drawn0.refl _ | apply Drawn0.step)⟩
  case round =>
    clear H'
    try clear p2
    obtain ⟨x0_1, x5_1, rfl, rfl, HA, HK1, ⟨m1, rfl⟩⟩ := hrel
    cases gk with
    | zero => exact absurd HA.out (by simp [model_hashAdd.l0])
    | succ k1 =>
      have H := HA.out
      clear HA
      simp only [model_hashAdd.l0] at H
      by_cases c3 : x5_1 < (a1.size : Int)
      · rw [if_pos c3] at H
        have c3b0 : decide (x5_1 < (a1.size : Int)) = true := decide_eq_true c3
        clear c3
        by_cases c4 : 0 ≤ x5_1
        · rw [if_pos c4] at H
          have c4b0 : decide (0 ≤ x5_1) = true := decide_eq_true c4
          clear c4
          have H' := Aside0.mk H
          clear H
          have p5 : 0 ≤ (x5_1 : Int) := of_decide_eq_true (by first | (with_reducible assumption) | assumption)
          have q5 : x5_1 < (a1.size : Int) := of_decide_eq_true (by first | (with_reducible assumption) | assumption)
          have hx5 := bt_at a1 x5_1
          replace p5 := eq_true p5
          replace q5 := eq_true q5
          go_wp2
          go_roundg k1
          case measure => have := HK1.out; omega
          case rel => exact ⟨(IntKind.u64.wrap ((Go.bits .xor .u64 x0_1 (IntKind.u64.wrap (bt a1 x5_1))) * 1099511628211)), (wrap64 (x5_1 + 1)), (by first | rfl | (simp; done) | (simp [*]; done)), (by first | rfl | (simp; done) | (simp [*]; done)), H', ⟨by have := HK1.out; omega⟩, by repeat (first | exact Drawn0.refl _ | apply Drawn0.step)⟩
        · rw [if_neg c4] at H
          exact absurd H (by simp)
      · rw [if_neg c3] at H
        have c3b0 : decide (x5_1 < (a1.size : Int)) = false := decide_eq_false c3
        clear c3
        obtain rfl := Option.some.inj H
        go_wp2
        go_ret
        exact ⟨by first | rfl | (simp; done) | (simp [*]; done), by repeat (first | exact Drawn0.refl _ | apply Drawn0.step)⟩

/-! ### model_hashAddByte: function 37 -/
def model_hashAddByte.f (a0 : Int) (a1 : Int) : Option (Int) := some (IntKind.u64.wrap ((Go.bits .xor .u64 a0 (IntKind.u64.wrap (a1))) * 1099511628211))
set_option maxHeartbeats 8000000 in
set_option maxRecDepth 100000 in
theorem model_hashAddByte.calls (a0 : Int) (a1 : Int) (r : Int) (w : World) (h : model_hashAddByte.f a0 a1 = some r) :
    Calls Try.prog 37 #[.int .u64 a0, .int .u8 a1] w fun e w' => e = .returned (.int .u64 r) ∧ Drawn0 w w' := by
  have H : (some (IntKind.u64.wrap ((Go.bits .xor .u64 a0 (IntKind.u64.wrap (a1))) * 1099511628211))) = some r := h
  clear h
  obtain rfl := Option.some.inj H
  go_enter Try.func37, Try.ntmps37
  go_wp2
  go_ret
  exact ⟨by first | rfl | (simp; done) | (simp [*]; done), by repeat (first | exact Drawn0.refl _ | apply Drawn0.step)⟩

/-! ### model_LabelsToSignature: function 24 -/
-- contracts that were proved by hand
def hStep (a : Int) (c : UInt8) : Int := IntKind.u64.wrap ((Go.bits .xor .u64 a (IntKind.u64.wrap (c.toNat : Int))) * 1099511628211)
def hStr (h : Int) (s : ByteArray) : Int := s.data.toList.foldl hStep h
def hByte (a b : Int) : Int := IntKind.u64.wrap ((Go.bits .xor .u64 a (IntKind.u64.wrap b)) * 1099511628211)
theorem hashAdd_ev (h : Int) (s : ByteArray) (hs : s.size ≤ maxLen) : Ev (fun k => model_hashAdd.f k h s) (hStr h s) := by
  have g := Pure.ev_up (L := fun k i => model_hashAdd.l0 k ((s.data.toList.take i).foldl hStep h) s (i : Int)) (fun _ => hStr h s) s.size (Pure.ev_succ (fun k => by
      simp only [model_hashAdd.l0]
      rw [if_neg (by omega), List.take_of_length_le (by simp)]
      rfl)) (fun i hi g => by
    refine Ev.step (fun k => ?_) g
    show model_hashAdd.l0 (k + 1) _ s (i : Int) = _
    simp only [model_hashAdd.l0]
    rw [if_pos (by omega), if_pos (by omega), Pure.wrap_next hi hs]
    have hl : i < s.data.toList.length := by simpa using hi
    have eb : bt s (i : Int) = ((s.data.toList[i]'hl).toNat : Int) := by
      unfold bt
      rw [dif_pos (by simpa using hi)]
      rfl
    rw [eb, List.take_succ_eq_append_getElem hl, List.foldl_append]
    simp only [List.foldl_cons, List.foldl_nil, hStep]) s.size 0 (by omega)
  exact g
theorem hash_new (w : World) : Calls Try.prog 35 #[] w fun e w' => e = .returned (.int .u64 14695981039346656037) ∧ Drawn0 w w' := model_hashNew.calls _ w rfl
theorem hash_add (h : Int) (s : ByteArray) (w : World) (hs : s.size ≤ maxLen) : Calls Try.prog 36 #[.int .u64 h, .string s] w fun e w' => e = .returned (.int .u64 (hStr h s)) ∧ Drawn0 w w' := by
  obtain ⟨k, hk⟩ := (hashAdd_ev h s hs).rounds
  exact model_hashAdd.calls k h s _ w hk
theorem hash_byte (h : Int) (w : World) : Calls Try.prog 37 #[.int .u64 h, .int .u8 255] w fun e w' => e = .returned (.int .u64 (hByte h 255)) ∧ Drawn0 w w' := model_hashAddByte.calls h 255 _ w rfl
def valOf (m : MapsS.SM) (k : ByteArray) : ByteArray := (MapsS.look k m).getD ⟨#[]⟩
/-- One label goes into the sum. -/
def sigStep (m : MapsS.SM) (s : Int) (k : ByteArray) : Int := hByte (hStr (hByte (hStr s k) 255) (valOf m k)) 255
def sigN (m : MapsS.SM) (ks : List ByteArray) : Int := ks.foldl (sigStep m) 14695981039346656037
theorem val_size {P : Program} {k e : Nat} {w : World} {b n : Nat} {m : MapsS.SM} (h : MapsS.IsSM P k e w b n m) (x : ByteArray) : (valOf m x).size ≤ maxLen := by
  unfold valOf
  cases hk : MapsS.look x m with
  | none => exact Nat.zero_le _
  | some v => exact (h.2.2 _ ((MapsS.look_mem h.2.1).1 hk)).2
theorem R_startS {w : World} {base e : Nat} {v : Value} {P : Nat → Prop} (h : w.ownsRow base e 1 v 0 []) (hp : ∀ k, v.ownBlock = some k → P k) : Kd.R Kd.string e w base P v [] := ⟨hp, [], h, by simp [Reps]⟩
theorem infoSt : (Try.prog.info? 9).map (fun i => (i.zero, i.size, i.bytes)) = some (some (.string ⟨#[]⟩), 1, 16) := by kernel_rfl
theorem names_sorted {m : MapsS.SM} (h : MapsS.Rises m) {l : List ByteArray} (hp : l.Perm (m.map (·.1))) : sortB l = m.map (·.1) := by
  have hr : (m.map (·.1)).Pairwise fun x y => decide (x.data.toList ≤ y.data.toList) = true := by
    rw [List.pairwise_map]
    refine List.Pairwise.imp (fun {p q} hpq => ?_) h
    rw [Pure.less_eq] at hpq
    have := of_decide_eq_true hpq
    rw [Lib.toList_data, Lib.toList_data] at this
    exact decide_eq_true (List.le_of_lt this)
  refine List.Perm.eq_of_pairwise (le := fun x y => decide (x.data.toList ≤ y.data.toList) = true) (fun a b _ _ h1 h2 => MapsS.ba_ext (List.le_antisymm (of_decide_eq_true h1) (of_decide_eq_true h2))) ?_ hr ((sortB_perm l).trans hp)
  exact List.pairwise_mergeSort (le := fun x y : ByteArray => decide (x.data.toList ≤ y.data.toList)) (fun a b c h1 h2 => decide_eq_true (List.le_trans (of_decide_eq_true h1) (of_decide_eq_true h2))) (fun a b => by rcases List.le_total a.data.toList b.data.toList with h | h <;> simp [h]) l
set_option maxHeartbeats 6400000 in
set_option maxRecDepth 100000 in
theorem model_LabelsToSignature.calls (b n : Nat) (m : MapsS.SM) (w : World) (h : MapsS.IsSM Try.prog 9 9 w b n m) (hl : m.length ≤ 1000000000) :
    Calls Try.prog 24 #[.map (some b)] w fun e w' => e = .returned (.int .u64 (sigN m (m.map (·.1)))) ∧ Below w.heap.size w w' := by
  have e1 := fun ty => h.len_run (t := 52) Try.underlying52 ty
  have H := Aside0.mk h
  have HL := Aside0.mk h.lt
  clear h
  by_cases hm : m.length = 0
  · obtain rfl : m = [] := List.length_eq_zero_iff.1 hm
    clear hm
    show Calls _ _ _ _ fun e w' => e = .returned (.int .u64 14695981039346656037) ∧ _
    go_enter Try.func24, Try.ntmps24
    go_wp2
    go_ret
    exact ⟨rfl, Below.refl _ _⟩
  have c1 : ((m.length : Int) == 0) = false := by simp [hm]
  have c2 : ¬ (m.length : Int) = 0 := by omega
  clear hm
  obtain ⟨R, hR⟩ : ∃ R, sigN m (m.map (·.1)) = R := ⟨_, rfl⟩
  rw [hR]
  have HR0 := Aside0.mk hR
  clear hR
  obtain ⟨i0, hi, hz0, hz1, hz2⟩ := info_parts infoSt
  have HB2 := Aside0.mk (show i0.bytes * m.length ≤ 281474976710656 by rw [hz2]; omega)
  have HI := Aside0.mk hi
  have HZ0 := Aside0.mk hz0
  have HZ1 := Aside0.mk hz1
  have HMx := Aside0.mk (show m.length ≤ maxLen by unfold maxLen; omega)
  clear hi hz0 hz1 hz2
  go_enter Try.func24, Try.ntmps24
  go_wp2_with (first
    | (at_make; refine wpList_make_own _ rfl _ _ 33 rfl w.heap.size 9 i0 (.string ⟨#[]⟩) 1 Try.underlying33 HI.out HZ0.out HZ1.out _ _ _ m.length rfl rfl (by first | rfl | omega) HB2.out HMx.out (Nat.le_refl _) ?_; intro w1 hown hg; have HO1 := Aside0.mk (R_startS (P := fun k => k < w1.heap.size) hown (fun k hk => (hown.lt k hk).2)); have HB1 := Aside0.mk (pw_below_grown (Below.refl w.heap.size w) none (Nat.le_refl _) hg (by simp)); clear hown hg)
    | (at_range; refine MapsS.wpList_range_sm (t := 52) rfl _ rfl Try.underlying52 Try.underlying9 rfl (H.out.below HB1.out) ?_; intro w2 r hr hR hg hsz; have HR := Aside0.mk hR; have HG := Aside0.mk (show w.heap.size ≤ r by rw [hr]; exact below_size HB1.out); have HO2 := Aside0.mk (Kd.R_mono (Kd.R_grown HO1.out hg (fun k hk e => by cases e)) (fun k hk => show k ≠ r by omega)); have HBW := Aside0.mk (pw_below_grown HB1.out none (below_size HB1.out) hg (by simp)); have HZ := Aside0.mk (show r < w2.heap.size by omega); clear hr hR hg hsz HO1))
  go_frame
  clear e1 c1 c2
  go_loopw [3, 16] (fun v3 _ wr => ∃ seen : MapsS.SM, Aside0 (Kd.R Kd.string 9 wr w.heap.size (fun k => k ≠ r) v3 (seen.map (·.1))) ∧ Aside0 (MapsS.RSM Try.prog 9 9 wr b r n m seen) ∧ Aside0 (Below w.heap.size w wr) ∧ Aside0 (r < wr.heap.size)) (fun _ _ wr => wr.rangeLeft b r)
  case atStart => exact ⟨[], HO2, HR, HBW, HZ⟩
  case round =>
    clear HR HBW HZ HO2
    obtain ⟨seen, HO, HR, HB, HZ⟩ := hrel
    go_wp2_with (at_next; refine MapsS.wpList_next_sm rfl _ rfl Try.underlying9 Try.underlying9 rfl HR.out ?_ ?_)
    · intro hp
      have hlen : (seen.map (·.1)).length < 4611686018427387904 := by rw [List.length_map, hp.length_eq]; omega
      have HSO := Aside0.mk (sort_Strings.own u3 (seen.map (·.1)) wr w.heap.size (Kd.R_mono HO.out (fun _ _ => trivial)) hlen)
      have HE := Aside0.mk (names_sorted H.out.2.1 (hp.map (·.1)))
      have HK := Aside0.mk (show ∀ k, u3.ownBlock = some k → w.heap.size ≤ k from fun k hk => by obtain ⟨_, inner, ho, _⟩ := HO.out; exact own_base ho k hk)
      clear hp hlen HR HZ HO
      go_wp2_with fail
      refine HSO.out.mono ?_
      rintro e w4 ⟨rfl, hO4, hg4⟩
      rw [HE.out] at hO4
      have HB4 := Aside0.mk (pw_below_grown HB.out u3.ownBlock (below_size HB.out) hg4 HK.out)
      obtain ⟨A, c4, rfl, hlc, hC⟩ := Kd.R_reads hO4
      have HM := Aside0.mk (H.out.below HB4.out)
      have HS := Aside0.mk (show ∀ x ∈ m.map (·.1), x.size ≤ maxLen from fun x hx => by obtain ⟨p, hp, rfl⟩ := List.mem_map.1 hx; exact (H.out.2.2 p hp).1)
      have hLl : (m.map (·.1)).length ≤ 1000000000 := by rw [List.length_map]; exact hl
      generalize m.map (·.1) = L at *
      have HR := Aside0.mk HR0.out
      have HC := Aside0.mk hC
      clear hO4 hg4 hC HE HK HB HSO hlc
      go_wp2_with fail
      refine (hash_new _).mono ?_
      rintro e w5 ⟨rfl, hD⟩
      have HBh := Aside0.mk hD.below
      clear hD
      go_wp2
      go_loopw [5, 29] (fun v5 v29 wr => ∃ j : Nat, j ≤ L.length ∧ v29 = .int .i64 j ∧ v5 = .int .u64 (sigN m (L.take j)) ∧ Aside0 (Below w4.heap.size w4 wr)) (fun _ v29 _ => L.length - (intOf v29).toNat)
      case atStart => exact ⟨0, Nat.zero_le _, rfl, rfl, HBh⟩
      case round =>
        clear HBh
        obtain ⟨j, hj, rfl, rfl, HB5⟩ := hrel
        by_cases hlt : j < L.length
        · obtain ⟨ad, e0, hx⟩ := Kd.at_string (Kd.C_below HC.out HB5.out) (j : Int) (by omega) (by omega)
          cases e0
          have er : rdOf ByteArray.empty L (j : Int) = L[j] := by simp [rdOf, hlt]
          simp only [Int.toNat_natCast] at hx
          rw [er] at hx
          have HXS := Aside0.mk (HS.out _ (List.getElem_mem hlt))
          have HVS := Aside0.mk (val_size HM.out L[j])
          have HT := Aside0.mk (show sigN m (L.take (j + 1)) = sigStep m (sigN m (L.take j)) L[j] by rw [List.take_succ_eq_append_getElem hlt]; unfold sigN; rw [List.foldl_append]; rfl)
          unfold sigStep at HT
          clear er
          generalize L[j] = x at *
          generalize sigN m (L.take j) = s at *
          have A1 := Aside0.mk (fun W => hash_add s x W HXS.out)
          have A2 := Aside0.mk (fun W => hash_byte (hStr s x) W)
          have A3 := Aside0.mk (fun W => hash_add (hByte (hStr s x) 255) (valOf m x) W HVS.out)
          have A4 := Aside0.mk (fun W => hash_byte (hStr (hByte (hStr s x) 255) (valOf m x)) W)
          have LK := Aside0.mk (fun W (hW : Below w4.heap.size w4 W) => (HM.out.below hW).look_run (t := 52) Try.underlying52 Try.underlying9 Try.underlying9 (by rfl) HXS.out)
          change Aside0 (∀ W hW, (Instr.lookup 52 (.map (some b)) (.string x) false).run Try.prog W = .ok (.string (valOf m x)) W) at LK
          generalize valOf m x = v at *
          generalize hByte (hStr (hByte (hStr s x) 255) v) 255 = s4 at *
          generalize hStr (hByte (hStr s x) 255) v = s3 at *
          generalize hByte (hStr s x) 255 = s2 at *
          generalize hStr s x = s1 at *
          go_wp2_with fail
          refine (A1.out _).mono ?_
          rintro e w6 ⟨rfl, hD⟩
          have HB6 := Aside0.mk (below_step HB5.out hD.below)
          clear hD hx
          go_wp2_with fail
          refine (A2.out _).mono ?_
          rintro e w7 ⟨rfl, hD⟩
          have HB7 := Aside0.mk (below_step HB6.out hD.below)
          have h2 := LK.out w7 HB7.out
          clear hD
          go_wp2_with fail
          refine (A3.out _).mono ?_
          rintro e w8 ⟨rfl, hD⟩
          have HB8 := Aside0.mk (below_step HB7.out hD.below)
          clear hD h2
          go_wp2_with fail
          refine (A4.out _).mono ?_
          rintro e w9 ⟨rfl, hD⟩
          have HB9 := Aside0.mk (below_step HB8.out hD.below)
          clear hD
          go_wp2
          go_roundw
          case rel => exact ⟨j + 1, by omega, by go_num, by rw [HT.out], HB9⟩
          case measure => simp [intOf]; omega
        · have hj2 : j = L.length := by omega
          subst hj2
          have hR := HR.out
          rw [List.take_of_length_le (Nat.le_refl _)]
          rw [hR]
          clear hR
          go_wp2
          go_ret
          exact ⟨rfl, below_step HB4.out HB5.out⟩
    · intro x c w3 hmem hnot hR hlt hg hsz hen
      have HO3 := Aside0.mk (Kd.R_grown HO.out hg (fun k hk e => hk (by injection e with e)))
      have HB3 := Aside0.mk (pw_below_grown HB.out (some r) (below_size HB.out) hg (fun k hk => by injection hk with hk; have := HG.out; omega))
      have HR3 := Aside0.mk hR
      have HZ3 := Aside0.mk (show r < w3.heap.size by rw [hsz]; exact HZ.out)
      have HT3 := Aside0.mk hlt
      have HT := Aside0.mk (show (seen ++ [(x, c)]).map (·.1) = seen.map (·.1) ++ [x] by simp)
      have HK := Aside0.mk (show ∀ k, u3.ownBlock = some k → w.heap.size ≤ k ∧ k ≠ r from fun k hk => by
        obtain ⟨h0, inner, ho, _⟩ := HO.out
        exact ⟨own_base ho k hk, h0 k hk⟩)
      have HL3 := Aside0.mk (show seen.length < m.length by
        obtain ⟨_, _, _, _, hsub, hnd, _⟩ := hR
        have := sub_len hnd hsub
        rw [List.length_append, List.length_singleton] at this
        omega)
      clear hmem hnot hR hlt hg hsz HO HR HB HZ
      go_wp2_with ((with_reducible refine gate_builtin (b := .append) (xs := #[.tmp 20, .tmp 22]) rfl ?_); at_builtin; refine Kd.R_append Kd.string (w0 := w) w.heap.size rfl (.tmp 20) (.tmp 22) 33 9 (.string ⟨#[]⟩) 16 rfl Try.underlying33 infoSt rfl (by decide) (by omega) u3 (seen.map (·.1)) x [.string x] (fun k => k ≠ r) (fun _ => False) rfl (by first | (go_simp; done) | (go_simp; rfl)) rfl (fun _ hk => hk.elim) (fun k hk => by have := HZ3.out; omega) HO3.out HB3.out (below_size HB3.out) (by rw [List.length_map]; have := HL3.out; omega) ?_; intro v2 w5 hO5 hB5 hg5 hat5; rw [← HT.out] at hO5; have HO5 := Aside0.mk hO5; have HB5 := Aside0.mk hB5; have HR5 := Aside0.mk (HR3.out.kept hg5 (fun e => by have := (HK.out _ e.symm).1; have := HL.out; omega) (fun e => (HK.out _ e.symm).2 rfl)); have HZ5 := Aside0.mk (Nat.lt_of_lt_of_le HZ3.out hg5.size); have HT5 := Aside0.mk (show w5.rangeLeft b r < wr.rangeLeft b r by rw [rangeLeft_kept hg5 (by have := HL.out; have := below_size HB3.out; omega) (by exact HZ3.out) (fun e => by have := (HK.out _ e.symm).1; have := HL.out; omega) (fun e => (HK.out _ e.symm).2 rfl)]; exact HT3.out); clear hO5 hB5 hg5 hat5 HO3 HB3 HR3 HZ3 HT3)
      go_roundw
      case rel => exact ⟨seen ++ [(x, c)], HO5, HR5, HB5, HZ5⟩
      case measure => exact HT5.out


/-! ### impl_Signature: function 11 -/
-- a contract that was proved by hand
def setM (l : List S32) : MapsS.SM := l.foldl (fun m p => MapsS.ins p.f0 p.f1 m) []
theorem setM_snoc (l : List S32) (p : S32) : setM (l ++ [p]) = MapsS.ins p.f0 p.f1 (setM l) := by simp [setM, List.foldl_append]
def small2M (p : S32) : Bool := decide (p.f0.size ≤ maxLen) && decide (p.f1.size ≤ maxLen)
theorem setM_le (l : List S32) : (setM l).length ≤ l.length := by
  have h : ∀ (r : List S32) (m : MapsS.SM), (r.foldl (fun m p => MapsS.ins p.f0 p.f1 m) m).length ≤ m.length + r.length := by
    intro r
    induction r with
    | nil => intro m; exact Nat.le_refl _
    | cons x r ih =>
      intro m
      have h1 := ih (MapsS.ins x.f0 x.f1 m)
      have h2 := MapsS.len_ins x.f0 x.f1 m
      rw [List.foldl_cons, List.length_cons]
      omega
  have := h l []
  simpa [setM] using this
/-- The signature of pairs. -/
def sigM (m : MapsS.SM) : Int := sigN m (m.map (·.1))
def impl_Signature.f (l0 : List S32) : Option Int := if l0.length ≤ 1000000000 ∧ l0.all small2M = true then some (sigM (setM l0)) else none
set_option maxHeartbeats 3200000 in
set_option maxRecDepth 100000 in
theorem impl_Signature.calls (A0 : Option Addr) (c0 : Nat) (l0 : List S32) (r : Int) (w : World) (hr0 : Kd.C k32 w A0 l0.length l0) (hc0 : l0.length ≤ c0) (h : impl_Signature.f l0 = some r) :
    Calls Try.prog 11 #[.slice A0 l0.length c0] w fun e w' => e = .returned (.int .u64 r) ∧ Below w.heap.size w w' := by
  unfold impl_Signature.f at h
  by_cases hc : l0.length ≤ 1000000000 ∧ l0.all small2M = true
  · rw [if_pos hc] at h
    obtain rfl := Option.some.inj h
    clear h
    obtain ⟨hl, hs⟩ := hc
    have HR0 := Aside0.mk hr0
    have HC0 := Aside0.mk hc0
    have HS := Aside0.mk hs
    have HQ := Aside0.mk (show sigN (setM l0) ((setM l0).map (·.1)) = sigM (setM l0) from rfl)
    generalize sigM (setM l0) = R at *
    clear hr0 hc0 hs
    have hmm := @run_makeMap Try.prog
    go_enter Try.func11, Try.ntmps11
    go_wp2
    have H0 : MapsS.IsSM Try.prog 9 9 (w.alloc (.map #[] 0)) w.heap.size 0 (setM (l0.take 0)) := MapsS.IsSM.made w Try.prog _ _
    have HM0 := Aside0.mk H0
    clear H0
    go_loopw [9] (fun v9 wr => ∃ j : Nat, j ≤ l0.length ∧ v9 = .int .i64 j ∧ Aside0 (MapsS.IsSM Try.prog 9 9 wr w.heap.size j (setM (l0.take j))) ∧ Aside0 (Below w.heap.size w wr)) (fun v9 _ => l0.length - (intOf v9).toNat)
    case atStart => exact ⟨0, Nat.zero_le _, rfl, HM0, ⟨below_alloc (Below.refl _ _) _⟩⟩
    case round =>
      clear HM0
      obtain ⟨j, hj, rfl, HM, HB⟩ := hrel
      by_cases hlt : j < l0.length
      · obtain ⟨ad, e0, hx0, hx1⟩ := at_T32 HR0.out (j : Int) (by omega) (by omega)
        cases e0
        replace hx0 := (HB.out.cell (World.block_lt_of_cell? w _ hx0)).trans hx0
        replace hx1 := (HB.out.cell (World.block_lt_of_cell? w _ hx1)).trans hx1
        simp only [Int.toNat_natCast] at hx0 hx1
        have hsm := List.all_eq_true.1 HS.out (rd_T32 l0 (j : Int)) (by show l0.getD j z32 ∈ l0; rw [List.getD_eq_getElem?_getD, List.getElem?_eq_getElem hlt]; exact List.getElem_mem hlt)
        simp only [small2M, Bool.and_eq_true, decide_eq_true_eq] at hsm
        have HK := Aside0.mk hsm.1
        have HV := Aside0.mk hsm.2
        have HT := Aside0.mk (show setM (l0.take (j + 1)) = MapsS.ins (rd_T32 l0 (j : Int)).f0 (rd_T32 l0 (j : Int)).f1 (setM (l0.take j)) by rw [Box.take_more l0 z32 j hlt, setM_snoc]; rfl)
        clear hsm
        go_wp2_with (at_mapUpdate; refine MapsS.wpList_store_sm (t := 52) (k := 9) (e := 9) rfl _ _ _ rfl Try.underlying52 Try.underlying9 Try.underlying9 rfl (HM.out.alloc _) (by unfold maxLen; omega) rfl rfl HK.out HV.out ?_; intro w2 hM2 hg2; rw [← HT.out] at hM2; have HM2 := Aside0.mk hM2; have HB2 := Aside0.mk (pw_below_grown (below_alloc HB.out _) _ (by have := below_size HB.out; simp; omega) hg2 (fun k hk => by injection hk with hk; omega)); clear hM2 hg2 HM HB HT)
        go_roundw
        case rel => exact ⟨j + 1, by omega, by go_num, HM2, HB2⟩
        case measure => simp [intOf]; omega
      · have hj2 : j = l0.length := by omega
        subst hj2
        have hM := HM.out
        rw [List.take_of_length_le (Nat.le_refl _)] at hM
        have hle := setM_le l0
        have C1 := Aside0.mk (model_LabelsToSignature.calls w.heap.size _ _ wr hM (by omega))
        rw [HQ.out] at C1
        clear hM HM hle
        go_wp2_with fail
        refine C1.out.mono ?_
        rintro e w2 ⟨rfl, hb⟩
        have HB2 := Aside0.mk (below_step HB.out hb)
        clear hb
        go_wp2
        go_ret
        exact ⟨rfl, HB2.out⟩
  · rw [if_neg hc] at h
    cases h


end Go.Proofs.Ytcneoonhdfblaaa.Q
