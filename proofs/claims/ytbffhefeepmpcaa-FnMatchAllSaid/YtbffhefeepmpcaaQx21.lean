-- printed by this project's own program wip/tools/mkprint.py (the kit's print.py with hand-proved contracts put in)
import Derived.Test.YtbffhefeepmpcaaQx0
namespace Go.Proofs.Ytbffhefeepmpcaa.Q
open Go.RowKit Go.Proofs.YtbffhefeepmpcaaW.PrintWords Go.Proofs.YtbffhefeepmpcaaW.PrintLast Go.Proofs.YtbffhefeepmpcaaW.PrintMore
attribute [local go_sem] max2_int min2_int max_two min_two max_three min_three max_four min_four   -- for this text's walks alone
set_option linter.unusedVariables false
set_option linter.unusedSimpArgs false

/-! ### spec_MatchValue: function 59 -/
def spec_MatchValue.j0 : Nat → ByteArray → Bool → Int → ByteArray → ByteArray → Option (Int)
  | 0, _, _, _, _, _ => none
  | k + 1, x1, x12, x288000, x288001, x288002 => if x12 = true then (some 2) else (if ((x288002.toList == x1.toList) == (x288000 == 0)) = true then (some 1) else (some 0))
def spec_MatchValue.f (k : Nat) (a0_0 : Int) (a0_1 : ByteArray) (a0_2 : ByteArray) (a1 : ByteArray) : Option (Int) := if a0_0 = 0 then (spec_MatchValue.j0 k a1 false a0_0 a0_1 a0_2) else (spec_MatchValue.j0 k a1 (a0_0 != 1) a0_0 a0_1 a0_2)
theorem spec_MatchValue.mono_l : ∀ k, (∀ y0 y1 y2 y3 y4, LeO (spec_MatchValue.j0 k y0 y1 y2 y3 y4) (spec_MatchValue.j0 (k + 1) y0 y1 y2 y3 y4))
  | 0 => fun _ _ _ _ _ r h => by simp [spec_MatchValue.j0] at h
  | k + 1 => by
    have ih0 := spec_MatchValue.mono_l k
    · intro y0 y1 y2 y3 y4
      unfold spec_MatchValue.j0
      repeat' first
      | (with_reducible exact ih0 _ _ _ _ _)
      | (with_reducible exact LeO.refl _)
      | (with_reducible exact LeO.none _)
      | (with_reducible refine LeO.ite ?_ ?_)
      | (with_reducible refine LeO.bind ?_ (fun _ => ?_))
      | exact ih0 _ _ _ _ _
      | exact LeO.none _
      | refine LeO.ite ?_ ?_
      | refine LeO.bind ?_ (fun _ => ?_)
theorem spec_MatchValue.mono : ∀ a0 a1 a2 a3 k, LeO (spec_MatchValue.f k a0 a1 a2 a3) (spec_MatchValue.f (k + 1) a0 a1 a2 a3) := by
  intro a0 a1 a2 a3 k
  have ih0 := spec_MatchValue.mono_l k
  unfold spec_MatchValue.f
  repeat' first
      | (with_reducible exact ih0 _ _ _ _ _)
      | (with_reducible exact LeO.refl _)
      | (with_reducible exact LeO.none _)
      | (with_reducible refine LeO.ite ?_ ?_)
      | (with_reducible refine LeO.bind ?_ (fun _ => ?_))
      | exact ih0 _ _ _ _ _
      | exact LeO.none _
      | refine LeO.ite ?_ ?_
      | refine LeO.bind ?_ (fun _ => ?_)
set_option maxHeartbeats 8000000 in
set_option maxRecDepth 100000 in
theorem spec_MatchValue.calls (k : Nat) (a0_0 : Int) (a0_1 : ByteArray) (a0_2 : ByteArray) (a1 : ByteArray) (r : Int) (w : World) (h : spec_MatchValue.f k a0_0 a0_1 a0_2 a1 = some r) :
    Calls Try.prog 59 #[.agg #[.int .i64 a0_0, .string a0_1, .string a0_2], .string a1] w fun e w' => e = .returned (.int .i64 r) ∧ Below w.heap.size w w' := by
  have hu40 := Try.underlying40
  have HB := Aside0.mk (Below.refl w.heap.size w)
  have H : (if a0_0 = 0 then (spec_MatchValue.j0 k a1 false a0_0 a0_1 a0_2) else (spec_MatchValue.j0 k a1 (a0_0 != 1) a0_0 a0_1 a0_2)) = some r := h
  clear h
  have HC3 := Aside0.mk H
  clear H
  go_enter Try.func59, Try.ntmps59
  go_upto_region 1 with (first | ((with_reducible refine gate_dst (N := 2) rfl ?_); refine box_event ?hg (N := 2) ?hd (cs := #[.int .i64 a0_0, .string a0_1, .string a0_2]) (t := 40) ?hr ?_; (case hd => rfl); (case hg => rfl); (case hr => first | (go_simp; done) | (go_simp; rfl)); intro gb287 hg w4 hbox hb; have n0_ := Aside0.mk (below_step (by repeat (first | (with_reducible first | exact HB.out | apply below_alloc | apply pw_below_drewN | apply below_drew1) | exact HB.out)) hb); have n1_ := Aside0.mk (hbox); have n2_ := Aside0.mk ((by rw [hg]; exact (below_size (by repeat (first | (with_reducible first | exact HB.out | apply below_alloc | apply pw_below_drewN | apply below_drew1) | exact HB.out))) : w.heap.size ≤ gb287)); have n3_ := Aside0.mk ((by rw [hg]; exact (below_size (by repeat (first | (with_reducible first | exact HB.out | apply below_alloc | apply pw_below_drewN | apply below_drew1) | exact HB.out))) : w.heap.size ≤ gb287)); clear HB; have HB := n0_; have BK287 := n1_; have GW287 := n2_; have GE287 := n3_; clear n0_ n1_ n2_ n3_; clear hb hbox hg))
  (try simp only [Act.put, List.setIfInBounds_toArray, List.set_cons_zero, List.set_cons_succ])
  go_cut [12] (fun v12 wc => ∃ (kq : Nat) (x12_2 : Bool), v12 = .bool x12_2 ∧ Aside0 (spec_MatchValue.j0 kq a1 x12_2 a0_0 a0_1 a0_2 = some r) ∧ Aside0 (kq ≤ k) ∧ Aside0 (wc.heap[gb287]? = some (.cells #[.int .i64 a0_0, .string a0_1, .string a0_2] 40 (0, 0))) ∧ Aside0 (Below w.heap.size w wc))
  case first =>
    have H := HC3.out
    clear HC3
    by_cases c5 : a0_0 = 0
    · rw [if_pos c5] at H
      have c5b0 : (a0_0 == 0) = true := beq_iff_eq.mpr c5
      have c5b1 : (a0_0 != 0) = false := bne_eq_false_iff_eq.mpr c5
      clear c5
      (first | rw [c5b0] | (simp only [i64_w, i32_w]; rw [c5b0]) | skip)
      have H' := Aside0.mk H
      clear H
      have hcz6_0 : w4.cell? ⟨gb287, 0, none⟩ = some (.int .i64 a0_0) := (blk_cell BK287.out 0).trans rfl
      have hcz6_1 : w4.cell? ⟨gb287, 1, none⟩ = some (.string a0_1) := (blk_cell BK287.out 1).trans rfl
      have hcz6_2 : w4.cell? ⟨gb287, 2, none⟩ = some (.string a0_2) := (blk_cell BK287.out 2).trans rfl
      have hfz6_0 := blk_frozen BK287.out 0
      have hfz6_1 := blk_frozen BK287.out 1
      have hfz6_2 := blk_frozen BK287.out 2
      go_wp2
      go_meet
      case rel => exact ⟨_, (false), (by first | rfl | (simp; done) | (simp [*]; done)), H', ⟨by first | omega | exact Nat.le_refl _⟩, ⟨by (with_reducible repeat (first | refine blk_drewN ?_ _ | refine blk_drew ?_ | refine blk_alloc ?_ _)); exact BK287.out⟩, ⟨by repeat (first | (with_reducible first | exact HB.out | apply below_alloc | apply pw_below_drewN | apply below_drew1 | refine below_set ?_ GE287.out) | exact HB.out)⟩⟩
    · rw [if_neg c5] at H
      have c5b0 : (a0_0 == 0) = false := beq_eq_false_iff_ne.mpr c5
      have c5b1 : (a0_0 != 0) = true := bne_iff_ne.mpr c5
      (first | rw [c5b0] | (simp only [i64_w, i32_w]; rw [c5b0]) | skip)
      have H' := Aside0.mk H
      clear H
      have hcz7_0 : w4.cell? ⟨gb287, 0, none⟩ = some (.int .i64 a0_0) := (blk_cell BK287.out 0).trans rfl
      have hcz7_1 : w4.cell? ⟨gb287, 1, none⟩ = some (.string a0_1) := (blk_cell BK287.out 1).trans rfl
      have hcz7_2 : w4.cell? ⟨gb287, 2, none⟩ = some (.string a0_2) := (blk_cell BK287.out 2).trans rfl
      have hfz7_0 := blk_frozen BK287.out 0
      have hfz7_1 := blk_frozen BK287.out 1
      have hfz7_2 := blk_frozen BK287.out 2
      go_wp2
      go_meet
      case rel => exact ⟨_, ((a0_0 != 1)), (by first | rfl | (simp; done) | (simp [*]; done)), H', ⟨by first | omega | exact Nat.le_refl _⟩, ⟨by (with_reducible repeat (first | refine blk_drewN ?_ _ | refine blk_drew ?_ | refine blk_alloc ?_ _)); exact BK287.out⟩, ⟨by repeat (first | (with_reducible first | exact HB.out | apply below_alloc | apply pw_below_drewN | apply below_drew1 | refine below_set ?_ GE287.out) | exact HB.out)⟩⟩
  case rest =>
    clear HC3
    try clear p2
    try clear c5
    try clear c5b0
    try clear c5b1
    try clear hcz6_0
    try clear hcz6_1
    try clear hcz6_2
    try clear hcz7_0
    try clear hcz7_1
    try clear hcz7_2
    try clear hfz6_0
    try clear hfz6_1
    try clear hfz6_2
    try clear hfz7_0
    try clear hfz7_1
    try clear hfz7_2
    obtain ⟨kq, x12_2, rfl, HA, HJ2, BK287, HB⟩ := hcut
    cases kq with
    | zero => exact absurd HA.out (by simp [spec_MatchValue.j0])
    | succ kj2 =>
      have H := HA.out
      clear HA
      simp only [spec_MatchValue.j0] at H
      by_cases c8 : x12_2 = true
      · subst c8
        have H1 : (some 2) = some r := by rw [if_pos rfl] at H; exact H
        clear H
        have H := H1
        clear H1
        obtain rfl := Option.some.inj H
        go_wp2
        go_ret
        exact ⟨by first | rfl | (simp [errW_none, errW_some] <;> rfl) | (simp [*, errW_none, errW_some] <;> rfl), by repeat (first | (with_reducible first | exact HB.out | apply below_alloc | apply pw_below_drewN | apply below_drew1 | refine below_set ?_ GE287.out) | exact HB.out)⟩
      · replace c8 := Bool.eq_false_iff.mpr c8
        subst c8
        have H1 : (if ((a0_2.toList == a1.toList) == (a0_0 == 0)) = true then (some 1) else (some 0)) = some r := by rw [if_neg (show ¬ (false = true) by decide)] at H; exact H
        clear H
        have H := H1
        clear H1
        by_cases c9 : ((a0_2.toList == a1.toList) == (a0_0 == 0)) = true
        · rw [if_pos c9] at H
          have c9b0 : ((a0_2.toList == a1.toList) == (a0_0 == 0)) = true := c9
          (try (have c9b1 : decide ((a0_2.toList == a1.toList) = (a0_0 == 0)) = true := by simpa using c9))
          (try (have c9b2 : ((a0_2.toList == a1.toList) == (a0_0 == 0)) = true := by simpa using c9))
          clear c9
          obtain rfl := Option.some.inj H
          have hcz10_0 : wc.cell? ⟨gb287, 0, none⟩ = some (.int .i64 a0_0) := (blk_cell BK287.out 0).trans rfl
          have hcz10_1 : wc.cell? ⟨gb287, 1, none⟩ = some (.string a0_1) := (blk_cell BK287.out 1).trans rfl
          have hcz10_2 : wc.cell? ⟨gb287, 2, none⟩ = some (.string a0_2) := (blk_cell BK287.out 2).trans rfl
          have hfz10_0 := blk_frozen BK287.out 0
          have hfz10_1 := blk_frozen BK287.out 1
          have hfz10_2 := blk_frozen BK287.out 2
          go_wp2
          go_ret
          exact ⟨by first | rfl | (simp [errW_none, errW_some] <;> rfl) | (simp [*, errW_none, errW_some] <;> rfl), by repeat (first | (with_reducible first | exact HB.out | apply below_alloc | apply pw_below_drewN | apply below_drew1 | refine below_set ?_ GE287.out) | exact HB.out)⟩
        · rw [if_neg c9] at H
          have c9b0 : ((a0_2.toList == a1.toList) == (a0_0 == 0)) = false := by simpa using c9
          (try (have c9b1 : decide ((a0_2.toList == a1.toList) = (a0_0 == 0)) = false := by simpa using c9))
          (try (have c9b2 : ((a0_2.toList == a1.toList) == (a0_0 == 0)) = false := by simpa using c9))
          (try (have c9b3 : ¬ ((a0_2.toList == a1.toList) = (a0_0 == 0)) := by simpa using c9))
          clear c9
          obtain rfl := Option.some.inj H
          have hcz11_0 : wc.cell? ⟨gb287, 0, none⟩ = some (.int .i64 a0_0) := (blk_cell BK287.out 0).trans rfl
          have hcz11_1 : wc.cell? ⟨gb287, 1, none⟩ = some (.string a0_1) := (blk_cell BK287.out 1).trans rfl
          have hcz11_2 : wc.cell? ⟨gb287, 2, none⟩ = some (.string a0_2) := (blk_cell BK287.out 2).trans rfl
          have hfz11_0 := blk_frozen BK287.out 0
          have hfz11_1 := blk_frozen BK287.out 1
          have hfz11_2 := blk_frozen BK287.out 2
          go_wp2
          go_ret
          exact ⟨by first | rfl | (simp [errW_none, errW_some] <;> rfl) | (simp [*, errW_none, errW_some] <;> rfl), by repeat (first | (with_reducible first | exact HB.out | apply below_alloc | apply pw_below_drewN | apply below_drew1 | refine below_set ?_ GE287.out) | exact HB.out)⟩

/-! ### spec_Value: function 60 -/
def spec_Value.l0 : Nat → List (S50) → ByteArray → ByteArray → Int → Int → Option (ByteArray)
  | 0, _, _, _, _, _ => none
  | k + 1, x0, x1, x5, x8, x9 => if x9 < x8 then (if 0 ≤ x9 then (if x9 < (x0.length : Int) then (if ((rd_T50 x0 x9).f0).toList = x1.toList then (spec_Value.l0 k x0 x1 ((rd_T50 x0 x9).f1) x8 (wrap64 (x9 + 1))) else (spec_Value.l0 k x0 x1 x5 x8 (wrap64 (x9 + 1)))) else (none)) else (none)) else (some x5)
def spec_Value.f (k : Nat) (l0 : List (S50)) (a1 : ByteArray) : Option (ByteArray) := spec_Value.l0 k l0 a1 (⟨#[]⟩ : ByteArray) (l0.length : Int) 0
theorem spec_Value.mono_l : ∀ k, (∀ y0 y1 y2 y3 y4, LeO (spec_Value.l0 k y0 y1 y2 y3 y4) (spec_Value.l0 (k + 1) y0 y1 y2 y3 y4))
  | 0 => fun _ _ _ _ _ r h => by simp [spec_Value.l0] at h
  | k + 1 => by
    have ih0 := spec_Value.mono_l k
    · intro y0 y1 y2 y3 y4
      unfold spec_Value.l0
      repeat' first
      | (with_reducible exact ih0 _ _ _ _ _)
      | (with_reducible exact LeO.refl _)
      | (with_reducible exact LeO.none _)
      | (with_reducible refine LeO.ite ?_ ?_)
      | (with_reducible refine LeO.bind ?_ (fun _ => ?_))
      | exact ih0 _ _ _ _ _
      | exact LeO.none _
      | refine LeO.ite ?_ ?_
      | refine LeO.bind ?_ (fun _ => ?_)
theorem spec_Value.mono : ∀ a0 a1 k, LeO (spec_Value.f k a0 a1) (spec_Value.f (k + 1) a0 a1) := by
  intro a0 a1 k
  have ih0 := spec_Value.mono_l k
  unfold spec_Value.f
  repeat' first
      | (with_reducible exact ih0 _ _ _ _ _)
      | (with_reducible exact LeO.refl _)
      | (with_reducible exact LeO.none _)
      | (with_reducible refine LeO.ite ?_ ?_)
      | (with_reducible refine LeO.bind ?_ (fun _ => ?_))
      | exact ih0 _ _ _ _ _
      | exact LeO.none _
      | refine LeO.ite ?_ ?_
      | refine LeO.bind ?_ (fun _ => ?_)
set_option maxHeartbeats 8000000 in
set_option maxRecDepth 100000 in
theorem spec_Value.calls (k : Nat) (A0 : Option Addr) (c0 : Nat) (l0 : List (S50)) (a1 : ByteArray) (r : ByteArray) (w : World) (hr0 : Kd.C k50 w A0 l0.length l0) (hc0 : l0.length ≤ c0) (h : spec_Value.f k l0 a1 = some r) :
    Calls Try.prog 60 #[.slice A0 l0.length c0, .string a1] w fun e w' => e = .returned (.string r) ∧ Drawn0 w w' := by
  have HR0 := Aside0.mk hr0
  have HC0 := Aside0.mk hc0
  clear hr0 hc0
  have H : (spec_Value.l0 k l0 a1 (⟨#[]⟩ : ByteArray) (l0.length : Int) 0) = some r := h
  clear h
  have H' := Aside0.mk H
  clear H
  go_enter Try.func60, Try.ntmps60
  go_wp2
  go_loopg [5, 9] k (fun kq v5 v9 w' => ∃ (x5_1 : ByteArray) (x9_1 : Int), v5 = .string x5_1 ∧ v9 = .int .i64 x9_1 ∧ Aside0 (spec_Value.l0 kq l0 a1 x5_1 (l0.length : Int) x9_1 = some r) ∧ Aside0 (kq ≤ k) ∧ Drawn0 w w')
  case atStart => exact ⟨((⟨#[]⟩ : ByteArray)), (0), (by first | rfl | (simp; done) | (simp [*]; done)), (by first | rfl | (simp; done) | (simp [*]; done)), H', ⟨Nat.le_refl _⟩, by repeat (first | exact Drawn0.refl _ | apply Drawn0.step)⟩
  case round =>
    clear H'
    try clear p2
    obtain ⟨x5_1, x9_1, rfl, rfl, HA, HK1, ⟨m1, rfl⟩⟩ := hrel
    cases gk with
    | zero => exact absurd HA.out (by simp [spec_Value.l0])
    | succ k1 =>
      have H := HA.out
      clear HA
      simp only [spec_Value.l0] at H
      by_cases c3 : x9_1 < (l0.length : Int)
      · rw [if_pos c3] at H
        have c3b0 : decide (x9_1 < (l0.length : Int)) = true := decide_eq_true c3
        clear c3
        by_cases c4 : 0 ≤ x9_1
        · rw [if_pos c4] at H
          have c4b0 : decide (0 ≤ x9_1) = true := decide_eq_true c4
          clear c4
          by_cases c5 : x9_1 < (l0.length : Int)
          · rw [if_pos c5] at H
            have c5b0 : decide (x9_1 < (l0.length : Int)) = true := decide_eq_true c5
            clear c5
            by_cases c6 : ((rd_T50 l0 x9_1).f0).toList = a1.toList
            · rw [if_pos c6] at H
              have c6b0 : (((rd_T50 l0 x9_1).f0).toList == a1.toList) = true := beq_iff_eq.mpr c6
              have c6b1 : (((rd_T50 l0 x9_1).f0).toList != a1.toList) = false := bne_eq_false_iff_eq.mpr c6
              clear c6
              have H' := Aside0.mk H
              clear H
              have p288 : 0 ≤ (x9_1 : Int) := of_decide_eq_true (by first | (with_reducible assumption) | assumption)
              have q288 : x9_1 < (l0.length : Int) := of_decide_eq_true (by first | (with_reducible assumption) | assumption)
              obtain ⟨ad288, e288, hx288_0, hx288_1⟩ := at_T50 HR0.out x9_1 p288 q288
              cases e288
              replace p288 := eq_true p288
              replace q288 := eq_true q288
              have p289 : 0 ≤ (x9_1 : Int) := of_decide_eq_true (by first | (with_reducible assumption) | assumption)
              have q289 : x9_1 < (l0.length : Int) := of_decide_eq_true (by first | (with_reducible assumption) | assumption)
              obtain ⟨ad289, e289, hx289_0, hx289_1⟩ := at_T50 HR0.out x9_1 p289 q289
              obtain rfl : ad288 = ad289 := (by injection e289)
              replace p289 := eq_true p289
              replace q289 := eq_true q289
              go_wp2
              go_roundg k1
              case measure => have := HK1.out; omega
              case rel => exact ⟨((rd_T50 l0 x9_1).f1), (wrap64 (x9_1 + 1)), (by first | rfl | (simp; done) | (simp [*]; done)), (by first | rfl | (simp; done) | (simp [*]; done)), H', ⟨by have := HK1.out; omega⟩, by repeat (first | exact Drawn0.refl _ | apply Drawn0.step)⟩
            · rw [if_neg c6] at H
              have c6b0 : (((rd_T50 l0 x9_1).f0).toList == a1.toList) = false := beq_eq_false_iff_ne.mpr c6
              have c6b1 : (((rd_T50 l0 x9_1).f0).toList != a1.toList) = true := bne_iff_ne.mpr c6
              have H' := Aside0.mk H
              clear H
              have p288 : 0 ≤ (x9_1 : Int) := of_decide_eq_true (by first | (with_reducible assumption) | assumption)
              have q288 : x9_1 < (l0.length : Int) := of_decide_eq_true (by first | (with_reducible assumption) | assumption)
              obtain ⟨ad288, e288, hx288_0, hx288_1⟩ := at_T50 HR0.out x9_1 p288 q288
              cases e288
              replace p288 := eq_true p288
              replace q288 := eq_true q288
              go_wp2
              go_roundg k1
              case measure => have := HK1.out; omega
              case rel => exact ⟨(x5_1), (wrap64 (x9_1 + 1)), (by first | rfl | (simp; done) | (simp [*]; done)), (by first | rfl | (simp; done) | (simp [*]; done)), H', ⟨by have := HK1.out; omega⟩, by repeat (first | exact Drawn0.refl _ | apply Drawn0.step)⟩
          · rw [if_neg c5] at H
            exact absurd H (by simp)
        · rw [if_neg c4] at H
          exact absurd H (by simp)
      · rw [if_neg c3] at H
        have c3b0 : decide (x9_1 < (l0.length : Int)) = false := decide_eq_false c3
        clear c3
        obtain rfl := Option.some.inj H
        go_wp2
        go_ret
        exact ⟨by first | rfl | (simp; done) | (simp [*]; done), by repeat (first | exact Drawn0.refl _ | apply Drawn0.step)⟩

end Go.Proofs.Ytbffhefeepmpcaa.Q
