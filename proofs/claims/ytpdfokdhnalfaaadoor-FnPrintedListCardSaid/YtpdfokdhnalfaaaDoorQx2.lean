-- printed by this project's own program wip/tools/mkprint.py (the kit's print.py with hand-proved contracts put in)
import Derived.Test.YtpdfokdhnalfaaaDoorQx0
import Derived.Test.YtpdfokdhnalfaaaDoorQx1
namespace Go.Proofs.YtpdfokdhnalfaaaDoor.Q
open Go.RowKit Go.Proofs.YtpdfokdhnalfaaaDoorW.PrintWords Go.Proofs.YtpdfokdhnalfaaaDoorW.PrintLast Go.Proofs.YtpdfokdhnalfaaaDoorW.PrintMore
attribute [local go_sem] max2_int min2_int max_two min_two max_three min_three max_four min_four   -- for this text's walks alone
set_option linter.unusedVariables false
set_option linter.unusedSimpArgs false

/-! ### labels_openMetricsEscape: function 45 -/
def labels_openMetricsEscape.l0 : Nat → ByteArray → List Int → Int → Option (ByteArray)
  | 0, _, _, _ => none
  | k + 1, x0, x3, x4 => if x4 < (x0.size : Int) then (if 0 ≤ x4 then (if (bt x0 x4) = 92 then (if x3.length + 2 < 140737488355328 then (labels_openMetricsEscape.l0 k x0 (x3 ++ bytesOf (⟨#[92, 92]⟩ : ByteArray)) (wrap64 (x4 + 1))) else (none)) else (if (bt x0 x4) = 10 then (if x3.length + 2 < 140737488355328 then (labels_openMetricsEscape.l0 k x0 (x3 ++ bytesOf (⟨#[92, 110]⟩ : ByteArray)) (wrap64 (x4 + 1))) else (none)) else (if (bt x0 x4) = 34 then (if x3.length + 2 < 140737488355328 then (labels_openMetricsEscape.l0 k x0 (x3 ++ bytesOf (⟨#[92, 34]⟩ : ByteArray)) (wrap64 (x4 + 1))) else (none)) else (if x3.length < 140737488355328 then (labels_openMetricsEscape.l0 k x0 (x3 ++ [bt x0 x4]) (wrap64 (x4 + 1))) else (none))))) else (none)) else (some (strOfNums x3))
def labels_openMetricsEscape.f (k : Nat) (a0 : ByteArray) : Option (ByteArray) := labels_openMetricsEscape.l0 k a0 ([] : List Int) 0
theorem labels_openMetricsEscape.mono_l : ∀ k, (∀ y0 y1 y2, LeO (labels_openMetricsEscape.l0 k y0 y1 y2) (labels_openMetricsEscape.l0 (k + 1) y0 y1 y2))
  | 0 => fun _ _ _ r h => by simp [labels_openMetricsEscape.l0] at h
  | k + 1 => by
    have ih0 := labels_openMetricsEscape.mono_l k
    · intro y0 y1 y2
      unfold labels_openMetricsEscape.l0
      repeat' first
      | (with_reducible exact ih0 _ _ _)
      | (with_reducible exact LeO.refl _)
      | (with_reducible exact LeO.none _)
      | (with_reducible refine LeO.ite ?_ ?_)
      | (with_reducible refine LeO.bind ?_ (fun _ => ?_))
      | exact ih0 _ _ _
      | exact LeO.none _
      | refine LeO.ite ?_ ?_
      | refine LeO.bind ?_ (fun _ => ?_)
theorem labels_openMetricsEscape.mono : ∀ a0 k, LeO (labels_openMetricsEscape.f k a0) (labels_openMetricsEscape.f (k + 1) a0) := by
  intro a0 k
  have ih0 := labels_openMetricsEscape.mono_l k
  unfold labels_openMetricsEscape.f
  repeat' first
      | (with_reducible exact ih0 _ _ _)
      | (with_reducible exact LeO.refl _)
      | (with_reducible exact LeO.none _)
      | (with_reducible refine LeO.ite ?_ ?_)
      | (with_reducible refine LeO.bind ?_ (fun _ => ?_))
      | exact ih0 _ _ _
      | exact LeO.none _
      | refine LeO.ite ?_ ?_
      | refine LeO.bind ?_ (fun _ => ?_)
set_option maxHeartbeats 8000000 in
set_option maxRecDepth 100000 in
theorem labels_openMetricsEscape.calls (k : Nat) (a0 : ByteArray) (r : ByteArray) (w : World) (h : labels_openMetricsEscape.f k a0 = some r) :
    Calls Tryd.prog 45 #[.string a0] w fun e w' => e = .returned (.string r) ∧ Below w.heap.size w w' := by
  have HB := Aside0.mk (Below.refl w.heap.size w)
  have H : (labels_openMetricsEscape.l0 k a0 ([] : List Int) 0) = some r := h
  clear h
  have H' := Aside0.mk H
  clear H
  go_enter Tryd.func45, Tryd.ntmps45
  go_wp2
  go_loopg [3, 4] k (fun kq v3 v4 w' => ∃ (x3_1 : List Int) (x4_1 : Int), v4 = .int .i64 x4_1 ∧ Aside0 (labels_openMetricsEscape.l0 kq a0 x3_1 x4_1 = some r) ∧ Aside0 (kq ≤ k) ∧ Aside0 (Kd.R (Kd.int .u8) 5 w' w.heap.size (fun _ => True) v3 x3_1) ∧ Aside0 (Below w.heap.size w w'))
  case atStart => exact ⟨(([] : List Int)), (0), (by first | rfl | (simp; done) | (simp [*]; done)), H', ⟨Nat.le_refl _⟩, ⟨by first | exact Kd.R_nil _ _ _ _ _ | exact Kd.N_nil _ _ _ _ _ | exact Kd.V_nil _ _ _ _ _ | exact Kd.Q_nil _ _ _ _ _ | exact Kd.S_nil _ _ _ _ _⟩, ⟨by repeat (first | (with_reducible first | exact HB.out | apply below_alloc | apply pw_below_drewN | apply below_drew1) | exact HB.out)⟩⟩
  case round =>
    clear H'
    obtain ⟨x3_1, x4_1, rfl, HA, HK1, HO_3, HB⟩ := hrel
    cases gk with
    | zero => exact absurd HA.out (by simp [labels_openMetricsEscape.l0])
    | succ k1 =>
      have H := HA.out
      clear HA
      simp only [labels_openMetricsEscape.l0] at H
      by_cases c2 : x4_1 < (a0.size : Int)
      · rw [if_pos c2] at H
        have c2b0 : decide (x4_1 < (a0.size : Int)) = true := decide_eq_true c2
        clear c2
        by_cases c3 : 0 ≤ x4_1
        · rw [if_pos c3] at H
          have c3b0 : decide (0 ≤ x4_1) = true := decide_eq_true c3
          clear c3
          by_cases c5 : (bt a0 x4_1) = 92
          · rw [if_pos c5] at H
            have c5b0 : ((bt a0 x4_1) == 92) = true := beq_iff_eq.mpr c5
            have c5b1 : ((bt a0 x4_1) != 92) = false := bne_eq_false_iff_eq.mpr c5
            clear c5
            by_cases c6 : x3_1.length + 2 < 140737488355328
            · rw [if_pos c6] at H
              have LMc6 := Aside0.mk c6
              clear c6
              obtain ⟨y116, hy116⟩ : ∃ y_ : List Int, y_ = (x3_1 ++ bytesOf (⟨#[92, 92]⟩ : ByteArray)) := ⟨_, rfl⟩
              replace H : (labels_openMetricsEscape.l0 k1 a0 y116 (wrap64 (x4_1 + 1))) = some r := by first | (rw [hy116]; with_reducible exact H) | (have H2_ := (Option.bind_some _ _).symm.trans H; rw [hy116]; with_reducible exact H2_) | (have H2_ := (Option.bind_some _ _).symm.trans H; with_reducible exact H2_) | with_reducible exact H | (rw [hy116]; exact H) | exact H
              have Ny116 := Aside0.mk hy116
              clear hy116
              have H' := Aside0.mk H
              clear H
              have p4 : 0 ≤ (x4_1 : Int) := of_decide_eq_true (by first | (with_reducible assumption) | assumption)
              have q4 : x4_1 < (a0.size : Int) := of_decide_eq_true (by first | (with_reducible assumption) | assumption)
              have hx4 := bt_at a0 x4_1
              replace p4 := eq_true p4
              replace q4 := eq_true q4
              go_wp2_with (first | (at_builtin; refine print_append_str (w0 := w) w.heap.size rfl (.tmp 22) _ 75 9 5 rfl Tryd.underlying75 Tryd.underlying9 info5 u3 x3_1 (⟨#[92, 92]⟩ : ByteArray) rfl rfl ?aO ?aB ?aS ?aL ?_; (case aB => exact (by repeat (first | (with_reducible first | exact HB.out | apply below_alloc | apply pw_below_drewN | apply below_drew1) | exact HB.out))); (case aO => exact (Kd.own_of_R (by (with_reducible repeat (first | apply Kd.R_alloc | apply Kd.R_drewN | apply Kd.R_drew)); exact HO_3.out))); (case aS => exact (below_size (by repeat (first | (with_reducible first | exact HB.out | apply below_alloc | apply pw_below_drewN | apply below_drew1) | exact HB.out)))); (case aL => have := LMc6.out; first | omega | exact this | exact Nat.le_of_lt this); intro v117 w7 ho0 hb hg; have ho := Kd.R_of_own (h1 := fun _ => rfl) (ok := fun _ => True) ho0 (fun _ _ => trivial); clear ho0; have hat := True.intro; rw [← Ny116.out] at ho; change Kd.R (Kd.int .u8) 5 w7 w.heap.size (fun _ => True) v117 y116 at ho; have n0_ := Aside0.mk (hb); have n1_ := Aside0.mk (ho); clear HB; clear HO_3; have HB := n0_; have HO118 := n1_; clear n0_ n1_; clear ho hb hg hat))
              go_roundg k1
              case measure => have := HK1.out; omega
              case rel => exact ⟨(y116), (wrap64 (x4_1 + 1)), (by first | rfl | (simp; done) | (simp [*]; done)), H', ⟨by have := HK1.out; omega⟩, ⟨by (with_reducible repeat (first | apply Kd.R_alloc | apply Kd.R_drewN | apply Kd.R_drew)); exact HO118.out⟩, ⟨by repeat (first | (with_reducible first | exact HB.out | apply below_alloc | apply pw_below_drewN | apply below_drew1) | exact HB.out)⟩⟩
            · rw [if_neg c6] at H
              exact absurd H (by simp)
          · rw [if_neg c5] at H
            have c5b0 : ((bt a0 x4_1) == 92) = false := beq_eq_false_iff_ne.mpr c5
            have c5b1 : ((bt a0 x4_1) != 92) = true := bne_iff_ne.mpr c5
            by_cases c8 : (bt a0 x4_1) = 10
            · rw [if_pos c8] at H
              have c8b0 : ((bt a0 x4_1) == 10) = true := beq_iff_eq.mpr c8
              have c8b1 : ((bt a0 x4_1) != 10) = false := bne_eq_false_iff_eq.mpr c8
              clear c8
              by_cases c9 : x3_1.length + 2 < 140737488355328
              · rw [if_pos c9] at H
                have LMc9 := Aside0.mk c9
                clear c9
                obtain ⟨y119, hy119⟩ : ∃ y_ : List Int, y_ = (x3_1 ++ bytesOf (⟨#[92, 110]⟩ : ByteArray)) := ⟨_, rfl⟩
                replace H : (labels_openMetricsEscape.l0 k1 a0 y119 (wrap64 (x4_1 + 1))) = some r := by first | (rw [hy119]; with_reducible exact H) | (have H2_ := (Option.bind_some _ _).symm.trans H; rw [hy119]; with_reducible exact H2_) | (have H2_ := (Option.bind_some _ _).symm.trans H; with_reducible exact H2_) | with_reducible exact H | (rw [hy119]; exact H) | exact H
                have Ny119 := Aside0.mk hy119
                clear hy119
                have H' := Aside0.mk H
                clear H
                have p4 : 0 ≤ (x4_1 : Int) := of_decide_eq_true (by first | (with_reducible assumption) | assumption)
                have q4 : x4_1 < (a0.size : Int) := of_decide_eq_true (by first | (with_reducible assumption) | assumption)
                have hx4 := bt_at a0 x4_1
                replace p4 := eq_true p4
                replace q4 := eq_true q4
                go_wp2_with (first | (at_builtin; refine print_append_str (w0 := w) w.heap.size rfl (.tmp 26) _ 75 9 5 rfl Tryd.underlying75 Tryd.underlying9 info5 u3 x3_1 (⟨#[92, 110]⟩ : ByteArray) rfl rfl ?aO ?aB ?aS ?aL ?_; (case aB => exact (by repeat (first | (with_reducible first | exact HB.out | apply below_alloc | apply pw_below_drewN | apply below_drew1) | exact HB.out))); (case aO => exact (Kd.own_of_R (by (with_reducible repeat (first | apply Kd.R_alloc | apply Kd.R_drewN | apply Kd.R_drew)); exact HO_3.out))); (case aS => exact (below_size (by repeat (first | (with_reducible first | exact HB.out | apply below_alloc | apply pw_below_drewN | apply below_drew1) | exact HB.out)))); (case aL => have := LMc9.out; first | omega | exact this | exact Nat.le_of_lt this); intro v120 w10 ho0 hb hg; have ho := Kd.R_of_own (h1 := fun _ => rfl) (ok := fun _ => True) ho0 (fun _ _ => trivial); clear ho0; have hat := True.intro; rw [← Ny119.out] at ho; change Kd.R (Kd.int .u8) 5 w10 w.heap.size (fun _ => True) v120 y119 at ho; have n0_ := Aside0.mk (hb); have n1_ := Aside0.mk (ho); clear HB; clear HO_3; have HB := n0_; have HO121 := n1_; clear n0_ n1_; clear ho hb hg hat))
                go_roundg k1
                case measure => have := HK1.out; omega
                case rel => exact ⟨(y119), (wrap64 (x4_1 + 1)), (by first | rfl | (simp; done) | (simp [*]; done)), H', ⟨by have := HK1.out; omega⟩, ⟨by (with_reducible repeat (first | apply Kd.R_alloc | apply Kd.R_drewN | apply Kd.R_drew)); exact HO121.out⟩, ⟨by repeat (first | (with_reducible first | exact HB.out | apply below_alloc | apply pw_below_drewN | apply below_drew1) | exact HB.out)⟩⟩
              · rw [if_neg c9] at H
                exact absurd H (by simp)
            · rw [if_neg c8] at H
              have c8b0 : ((bt a0 x4_1) == 10) = false := beq_eq_false_iff_ne.mpr c8
              have c8b1 : ((bt a0 x4_1) != 10) = true := bne_iff_ne.mpr c8
              by_cases c11 : (bt a0 x4_1) = 34
              · rw [if_pos c11] at H
                have c11b0 : ((bt a0 x4_1) == 34) = true := beq_iff_eq.mpr c11
                have c11b1 : ((bt a0 x4_1) != 34) = false := bne_eq_false_iff_eq.mpr c11
                clear c11
                by_cases c12 : x3_1.length + 2 < 140737488355328
                · rw [if_pos c12] at H
                  have LMc12 := Aside0.mk c12
                  clear c12
                  obtain ⟨y122, hy122⟩ : ∃ y_ : List Int, y_ = (x3_1 ++ bytesOf (⟨#[92, 34]⟩ : ByteArray)) := ⟨_, rfl⟩
                  replace H : (labels_openMetricsEscape.l0 k1 a0 y122 (wrap64 (x4_1 + 1))) = some r := by first | (rw [hy122]; with_reducible exact H) | (have H2_ := (Option.bind_some _ _).symm.trans H; rw [hy122]; with_reducible exact H2_) | (have H2_ := (Option.bind_some _ _).symm.trans H; with_reducible exact H2_) | with_reducible exact H | (rw [hy122]; exact H) | exact H
                  have Ny122 := Aside0.mk hy122
                  clear hy122
                  have H' := Aside0.mk H
                  clear H
                  have p4 : 0 ≤ (x4_1 : Int) := of_decide_eq_true (by first | (with_reducible assumption) | assumption)
                  have q4 : x4_1 < (a0.size : Int) := of_decide_eq_true (by first | (with_reducible assumption) | assumption)
                  have hx4 := bt_at a0 x4_1
                  replace p4 := eq_true p4
                  replace q4 := eq_true q4
                  go_wp2_with (first | (at_builtin; refine print_append_str (w0 := w) w.heap.size rfl (.tmp 30) _ 75 9 5 rfl Tryd.underlying75 Tryd.underlying9 info5 u3 x3_1 (⟨#[92, 34]⟩ : ByteArray) rfl rfl ?aO ?aB ?aS ?aL ?_; (case aB => exact (by repeat (first | (with_reducible first | exact HB.out | apply below_alloc | apply pw_below_drewN | apply below_drew1) | exact HB.out))); (case aO => exact (Kd.own_of_R (by (with_reducible repeat (first | apply Kd.R_alloc | apply Kd.R_drewN | apply Kd.R_drew)); exact HO_3.out))); (case aS => exact (below_size (by repeat (first | (with_reducible first | exact HB.out | apply below_alloc | apply pw_below_drewN | apply below_drew1) | exact HB.out)))); (case aL => have := LMc12.out; first | omega | exact this | exact Nat.le_of_lt this); intro v123 w13 ho0 hb hg; have ho := Kd.R_of_own (h1 := fun _ => rfl) (ok := fun _ => True) ho0 (fun _ _ => trivial); clear ho0; have hat := True.intro; rw [← Ny122.out] at ho; change Kd.R (Kd.int .u8) 5 w13 w.heap.size (fun _ => True) v123 y122 at ho; have n0_ := Aside0.mk (hb); have n1_ := Aside0.mk (ho); clear HB; clear HO_3; have HB := n0_; have HO124 := n1_; clear n0_ n1_; clear ho hb hg hat))
                  go_roundg k1
                  case measure => have := HK1.out; omega
                  case rel => exact ⟨(y122), (wrap64 (x4_1 + 1)), (by first | rfl | (simp; done) | (simp [*]; done)), H', ⟨by have := HK1.out; omega⟩, ⟨by (with_reducible repeat (first | apply Kd.R_alloc | apply Kd.R_drewN | apply Kd.R_drew)); exact HO124.out⟩, ⟨by repeat (first | (with_reducible first | exact HB.out | apply below_alloc | apply pw_below_drewN | apply below_drew1) | exact HB.out)⟩⟩
                · rw [if_neg c12] at H
                  exact absurd H (by simp)
              · rw [if_neg c11] at H
                have c11b0 : ((bt a0 x4_1) == 34) = false := beq_eq_false_iff_ne.mpr c11
                have c11b1 : ((bt a0 x4_1) != 34) = true := bne_iff_ne.mpr c11
                by_cases c15 : x3_1.length < 140737488355328
                · rw [if_pos c15] at H
                  have LMc15 := Aside0.mk c15
                  clear c15
                  obtain ⟨y125, hy125⟩ : ∃ y_ : List Int, y_ = (x3_1 ++ [bt a0 x4_1]) := ⟨_, rfl⟩
                  replace H : (labels_openMetricsEscape.l0 k1 a0 y125 (wrap64 (x4_1 + 1))) = some r := by first | (rw [hy125]; with_reducible exact H) | (have H2_ := (Option.bind_some _ _).symm.trans H; rw [hy125]; with_reducible exact H2_) | (have H2_ := (Option.bind_some _ _).symm.trans H; with_reducible exact H2_) | with_reducible exact H | (rw [hy125]; exact H) | exact H
                  have Ny125 := Aside0.mk hy125
                  clear hy125
                  have H' := Aside0.mk H
                  clear H
                  have p4 : 0 ≤ (x4_1 : Int) := of_decide_eq_true (by first | (with_reducible assumption) | assumption)
                  have q4 : x4_1 < (a0.size : Int) := of_decide_eq_true (by first | (with_reducible assumption) | assumption)
                  have hx4 := bt_at a0 x4_1
                  replace p4 := eq_true p4
                  replace q4 := eq_true q4
                  have p14 : 0 ≤ (x4_1 : Int) := of_decide_eq_true (by first | (with_reducible assumption) | assumption)
                  have q14 : x4_1 < (a0.size : Int) := of_decide_eq_true (by first | (with_reducible assumption) | assumption)
                  have hx14 := bt_at a0 x4_1
                  replace p14 := eq_true p14
                  replace q14 := eq_true q14
                  go_wp2_with (first | ((with_reducible refine gate_builtin (b := .append) (xs := #[.tmp 14, .tmp 18]) rfl ?_); at_builtin; refine Kd.R_append (Kd.int .u8) (w0 := w) w.heap.size rfl (.tmp 14) (.tmp 18) 75 5 (.int .u8 0) 1 rfl Tryd.underlying75 info5 rfl (by decide) (by omega) u3 x3_1 (bt a0 x4_1) [.int .u8 (bt a0 x4_1)] (fun _ => True) (fun _ => False) rfl rfl ?aP (fun _ hk => hk.elim) ?aF ?aO ?aB ?aS ?aL ?_; (case aP => exact rfl); (case aB => exact (by repeat (first | (with_reducible first | exact HB.out | apply below_alloc | apply pw_below_drewN | apply below_drew1) | exact HB.out))); (case aF => exact (fun _ _ => trivial)); (case aO => exact (by (with_reducible repeat (first | apply Kd.R_alloc | apply Kd.R_drewN | apply Kd.R_drew)); exact HO_3.out)); (case aS => exact (below_size (by repeat (first | (with_reducible first | exact HB.out | apply below_alloc | apply pw_below_drewN | apply below_drew1) | exact HB.out)))); (case aL => have := LMc15.out; first | omega | exact this | exact Nat.le_of_lt this); intro v126 w16 ho hb hg hat; rw [← Ny125.out] at ho; have n0_ := Aside0.mk (hb); have n1_ := Aside0.mk (ho); clear HB; clear HO_3; have HB := n0_; have HO127 := n1_; clear n0_ n1_; clear ho hb hg hat))
                  go_roundg k1
                  case measure => have := HK1.out; omega
                  case rel => exact ⟨(y125), (wrap64 (x4_1 + 1)), (by first | rfl | (simp; done) | (simp [*]; done)), H', ⟨by have := HK1.out; omega⟩, ⟨by (with_reducible repeat (first | apply Kd.R_alloc | apply Kd.R_drewN | apply Kd.R_drew)); exact HO127.out⟩, ⟨by repeat (first | (with_reducible first | exact HB.out | apply below_alloc | apply pw_below_drewN | apply below_drew1) | exact HB.out)⟩⟩
                · rw [if_neg c15] at H
                  exact absurd H (by simp)
        · rw [if_neg c3] at H
          exact absurd H (by simp)
      · rw [if_neg c2] at H
        have c2b0 : decide (x4_1 < (a0.size : Int)) = false := decide_eq_false c2
        clear c2
        obtain rfl := Option.some.inj H
        have hcv17 := own_string (P := Tryd.prog) Tryd.underlying75 Tryd.underlying5 Tryd.underlying9 (Kd.own_of_R HO_3.out)
        go_wp2
        go_ret
        exact ⟨by first | rfl | (simp [errW_none, errW_some] <;> rfl) | (simp [*, errW_none, errW_some] <;> rfl), by repeat (first | (with_reducible first | exact HB.out | apply below_alloc | apply pw_below_drewN | apply below_drew1) | exact HB.out)⟩

/-! ### labels_Matcher_String: function 26 -/
-- contracts that were proved by hand
open Go.Lib Go.Proofs.YtpdfokdhnalfaaaDoor.Door in
set_option maxHeartbeats 8000000 in
set_option maxRecDepth 100000 in
theorem matcher_quoted (t : Nat) (ht : t < 4) (n v : ByteArray) (B : Nat) (w : World) (hn : n.size ≤ 2147483647) (hv : v.size ≤ 2147483647) (hT : PT w)
    (hm : w.heap[B]? = some (.cells #[.int .i64 (t : Int), .string n, .string v] 72 (0, 0))) (hc : conB n = true)
    (hq1 : (quoteB n).size ≤ 30000000000) (hq2 : (quoteB v).size ≤ 30000000000) :
    Calls Tryd.prog 26 #[.pointer (some ⟨B, 0, none⟩)] w fun e w' => e = .returned (.string (quoteB n ++ opText t ++ quoteB v)) ∧ Below w.heap.size w w' := by
  have HC := Aside0.mk (contains_res n w hT)
  rw [show decide (0 ≤ Lib.idxFunc (fun r => resR (r : Int)) true n) = true from hc] at HC
  have HT := Aside0.mk hT
  have hB := (Array.getElem?_eq_some_iff.1 hm).1
  have HM := Aside0.mk hm
  have cs : ∀ W, Below w.heap.size w W → W.cell? ⟨B, 0, none⟩ = some (.int .i64 (t : Int)) ∧ W.cell? ⟨B, 1, none⟩ = some (.string n) ∧ W.cell? ⟨B, 2, none⟩ = some (.string v) := by
    intro W hb
    have h := (hb.block B hB).trans HM.out
    unfold World.cell?
    rw [h]
    exact ⟨rfl, rfl, rfl⟩
  obtain ⟨c0, c1, c2⟩ := cs w (Below.refl _ _)
  have CS := Aside0.mk cs
  have QN := Aside0.mk (fun W hP => (Tryd.strconv_Quote Lib.goPrintTabs n W (by omega) (PT.below (w := w) HT.out hP).1 (PT.below (w := w) HT.out hP).2.1))
  have QV := Aside0.mk (fun W hP => (Tryd.strconv_Quote Lib.goPrintTabs v W (by omega) (PT.below (w := w) HT.out hP).1 (PT.below (w := w) HT.out hP).2.1))
  have TY := Aside0.mk (fun W => type_text t ht W)
  obtain ⟨N, hN⟩ : ∃ N, quoteB n = N := ⟨_, rfl⟩
  obtain ⟨V, hV⟩ : ∃ V, quoteB v = V := ⟨_, rfl⟩
  obtain ⟨T, hTT⟩ : ∃ T, opText t = T := ⟨_, rfl⟩
  have hTs : T.size ≤ 2 := by rw [← hTT]; unfold opText; split <;> decide
  change Aside0 (∀ W hP, Calls _ _ _ W fun e w' => e = .returned (.string (quoteB n)) ∧ _) at QN
  change Aside0 (∀ W hP, Calls _ _ _ W fun e w' => e = .returned (.string (quoteB v)) ∧ _) at QV
  rw [hN] at QN hq1 ⊢
  rw [hV] at QV hq2 ⊢
  rw [hTT] at TY ⊢
  clear hN hV hTT hm hc cs hT
  have hcat1 : ∀ W, (Op.stringOp .add N T).run Tryd.prog W = .ok (.string (N ++ T)) W := fun W => run_string_add_sum W _ _ (by omega)
  have hcat2 : ∀ W, (Op.stringOp .add (N ++ T) V).run Tryd.prog W = .ok (.string (N ++ T ++ V)) W := fun W => run_string_add_sum W _ _ (by rw [ByteArray.size_append]; omega)
  go_enter Tryd.func26, Tryd.ntmps26
  go_wp2_with fail
  refine HC.out.mono ?_
  rintro e w1 ⟨rfl, hb⟩
  have HB1 := Aside0.mk hb
  obtain ⟨d0, d1, d2⟩ := CS.out w1 hb
  clear hb c0 c1 c2
  go_wp2
  go_region_held3 (fun w' => w'.cell? ⟨B, 0, none⟩ = some (.int .i64 (t : Int)) ∧ w'.cell? ⟨B, 1, none⟩ = some (.string n) ∧ w'.cell? ⟨B, 2, none⟩ = some (.string v)) (go_keep) (first
    | (go_at_call 43; (first | (refine (QN.out _ (by repeat (first | exact HB1.out | apply below_drew1))).mono ?_) | (refine (QV.out _ (by repeat (first | exact HB1.out | apply below_drew1))).mono ?_)); rintro e w2 ⟨rfl, hb⟩; have HB1 := Aside0.mk (below_step (by repeat (first | exact HB1.out | apply below_drew1)) hb); obtain ⟨d0, d1, d2⟩ := CS.out w2 HB1.out; clear hb)
    | (go_at_call 44; refine (TY.out _).mono ?_; rintro e w2 ⟨rfl, hb⟩; have HB1 := Aside0.mk (below_step (by repeat (first | exact HB1.out | apply below_drew1)) hb); obtain ⟨d0, d1, d2⟩ := CS.out w2 HB1.out; clear hb))
  all_goals
    go_wp2
    go_ret
    exact ⟨rfl, by repeat (first | exact HB1.out | apply below_drew1)⟩
open Go.Lib Go.Proofs.YtpdfokdhnalfaaaDoor.Door in
set_option maxHeartbeats 8000000 in
set_option maxRecDepth 100000 in
theorem matcher_plain (t : Nat) (ht : t < 4) (n v : ByteArray) (B : Nat) (w : World) (hn : n.size ≤ 2147483647) (hv : v.size ≤ 2147483647) (hT : PT w)
    (hm : w.heap[B]? = some (.cells #[.int .i64 (t : Int), .string n, .string v] 72 (0, 0))) (hc : conB n = false)
    (k : Nat) (V : ByteArray) (hesc : labels_openMetricsEscape.f k v = some V) (hq2 : V.size ≤ 30000000000) :
    Calls Tryd.prog 26 #[.pointer (some ⟨B, 0, none⟩)] w fun e w' => e = .returned (.string (n ++ opText t ++ ⟨#[34]⟩ ++ V ++ ⟨#[34]⟩)) ∧ Below w.heap.size w w' := by
  have HC := Aside0.mk (contains_res n w hT)
  rw [show decide (0 ≤ Lib.idxFunc (fun r => resR (r : Int)) true n) = false from hc] at HC
  have HT := Aside0.mk hT
  have hB := (Array.getElem?_eq_some_iff.1 hm).1
  have HM := Aside0.mk hm
  have cs : ∀ W, Below w.heap.size w W → W.cell? ⟨B, 0, none⟩ = some (.int .i64 (t : Int)) ∧ W.cell? ⟨B, 1, none⟩ = some (.string n) ∧ W.cell? ⟨B, 2, none⟩ = some (.string v) := by
    intro W hb
    have h := (hb.block B hB).trans HM.out
    unfold World.cell?
    rw [h]
    exact ⟨rfl, rfl, rfl⟩
  obtain ⟨c0, c1, c2⟩ := cs w (Below.refl _ _)
  have CS := Aside0.mk cs
  have QV := Aside0.mk (fun W => labels_openMetricsEscape.calls k v V W hesc)
  have TY := Aside0.mk (fun W => type_text t ht W)
  obtain ⟨T, hTT⟩ : ∃ T, opText t = T := ⟨_, rfl⟩
  have hTs : T.size ≤ 2 := by rw [← hTT]; unfold opText; split <;> decide
  rw [hTT] at TY ⊢
  clear hTT hm hc cs hT hesc
  have h34 : (⟨#[34]⟩ : ByteArray).size = 1 := rfl
  have hcat1 : ∀ W, (Op.stringOp .add n T).run Tryd.prog W = .ok (.string (n ++ T)) W := fun W => run_string_add_sum W _ _ (by omega)
  have hcat2 : ∀ W, (Op.stringOp .add (n ++ T) ⟨#[34]⟩).run Tryd.prog W = .ok (.string (n ++ T ++ ⟨#[34]⟩)) W := fun W => run_string_add_sum W _ _ (by rw [ByteArray.size_append]; omega)
  have hcat3 : ∀ W, (Op.stringOp .add (n ++ T ++ ⟨#[34]⟩) V).run Tryd.prog W = .ok (.string (n ++ T ++ ⟨#[34]⟩ ++ V)) W := fun W => run_string_add_sum W _ _ (by rw [ByteArray.size_append, ByteArray.size_append]; omega)
  have hcat4 : ∀ W, (Op.stringOp .add (n ++ T ++ ⟨#[34]⟩ ++ V) ⟨#[34]⟩).run Tryd.prog W = .ok (.string (n ++ T ++ ⟨#[34]⟩ ++ V ++ ⟨#[34]⟩)) W := fun W => run_string_add_sum W _ _ (by rw [ByteArray.size_append, ByteArray.size_append, ByteArray.size_append]; omega)
  go_enter Tryd.func26, Tryd.ntmps26
  go_wp2_with fail
  refine HC.out.mono ?_
  rintro e w1 ⟨rfl, hb⟩
  have HB1 := Aside0.mk hb
  obtain ⟨d0, d1, d2⟩ := CS.out w1 hb
  clear hb c0 c1 c2
  go_wp2
  go_region_held3 (fun w' => w'.cell? ⟨B, 0, none⟩ = some (.int .i64 (t : Int)) ∧ w'.cell? ⟨B, 1, none⟩ = some (.string n) ∧ w'.cell? ⟨B, 2, none⟩ = some (.string v)) (go_keep) (first
    | (go_at_call 45; refine (QV.out _).mono ?_; rintro e w2 ⟨rfl, hb⟩; have HB1 := Aside0.mk (below_step (by repeat (first | exact HB1.out | apply below_drew1)) hb); obtain ⟨d0, d1, d2⟩ := CS.out w2 HB1.out; clear hb)
    | (go_at_call 44; refine (TY.out _).mono ?_; rintro e w2 ⟨rfl, hb⟩; have HB1 := Aside0.mk (below_step (by repeat (first | exact HB1.out | apply below_drew1)) hb); obtain ⟨d0, d1, d2⟩ := CS.out w2 HB1.out; clear hb))
  all_goals
    go_wp2
    go_ret
    exact ⟨rfl, by repeat (first | exact HB1.out | apply below_drew1)⟩
/-- What a matcher is written as; none: beyond the sizes that are looked at. -/
def mtext (k : Nat) (a0_0 : Int) (a0_1 a0_2 : ByteArray) : Option ByteArray :=
  if 0 ≤ a0_0 ∧ a0_0 < 4 ∧ a0_1.size ≤ 2147483647 ∧ a0_2.size ≤ 2147483647 ∧ (Door.quoteB a0_1).size ≤ 30000000000 ∧ (Door.quoteB a0_2).size ≤ 30000000000 then
    (if Door.conB a0_1 = true then some (Door.quoteB a0_1 ++ Door.opText a0_0.toNat ++ Door.quoteB a0_2)
    else (labels_openMetricsEscape.f k a0_2).bind fun V => if V.size ≤ 30000000000 then some (a0_1 ++ Door.opText a0_0.toNat ++ ⟨#[34]⟩ ++ V ++ ⟨#[34]⟩) else none)
  else none
theorem mtext_mono : ∀ a0_0 a0_1 a0_2 k, LeO (mtext k a0_0 a0_1 a0_2) (mtext (k + 1) a0_0 a0_1 a0_2) := by
  intro a b c k r h
  unfold mtext at h ⊢
  by_cases hc : 0 ≤ a ∧ a < 4 ∧ b.size ≤ 2147483647 ∧ c.size ≤ 2147483647 ∧ (Door.quoteB b).size ≤ 30000000000 ∧ (Door.quoteB c).size ≤ 30000000000
  · rw [if_pos hc] at h ⊢
    by_cases hd : Door.conB b = true
    · rw [if_pos hd] at h ⊢
      exact h
    · rw [if_neg hd] at h ⊢
      cases he : labels_openMetricsEscape.f k c with
      | none => rw [he] at h; cases h
      | some V =>
        rw [he] at h
        rw [labels_openMetricsEscape.mono c k V he]
        exact h
  · rw [if_neg hc] at h
    cases h
open Go.Lib Go.Proofs.YtpdfokdhnalfaaaDoor.Door in
theorem matcher_string (k : Nat) (a0_0 : Int) (a0_1 a0_2 : ByteArray) (r : ByteArray) (B : Nat) (w : World) (hT_ : PT w)
    (hB : w.heap[B]? = some (.cells #[.int .i64 a0_0, .string a0_1, .string a0_2] 72 (0, 0))) (h : mtext k a0_0 a0_1 a0_2 = some r) :
    Calls Tryd.prog 26 #[.pointer (some ⟨B, 0, none⟩)] w fun e w' => e = .returned (.string r) ∧ Below w.heap.size w w' := by
  unfold mtext at h
  by_cases hc : 0 ≤ a0_0 ∧ a0_0 < 4 ∧ a0_1.size ≤ 2147483647 ∧ a0_2.size ≤ 2147483647 ∧ (quoteB a0_1).size ≤ 30000000000 ∧ (quoteB a0_2).size ≤ 30000000000
  · rw [if_pos hc] at h
    obtain ⟨h0, h1, h2, h3, h4, h5⟩ := hc
    obtain ⟨t, rfl⟩ : ∃ t : Nat, a0_0 = (t : Int) := ⟨a0_0.toNat, by omega⟩
    rw [Int.toNat_natCast] at h
    by_cases hd : conB a0_1 = true
    · rw [if_pos hd] at h
      injection h with h
      rw [← h]
      exact matcher_quoted t (by omega) a0_1 a0_2 B w h2 h3 hT_ hB hd h4 h5
    · rw [if_neg hd] at h
      obtain ⟨V, hV, h⟩ := Option.bind_eq_some_iff.1 h
      by_cases hs : V.size ≤ 30000000000
      · rw [if_pos hs] at h
        injection h with h
        rw [← h]
        exact matcher_plain t (by omega) a0_1 a0_2 B w h2 h3 hT_ hB (by simpa using hd) k V hV hs
      · rw [if_neg hs] at h
        cases h
  · rw [if_neg hc] at h
    cases h


/-! ### impl_PrintMatcher: function 9 -/
-- a contract that was proved by hand
def impl_PrintMatcher.f (k : Nat) (a0_0 : Int) (a0_1 a0_2 : ByteArray) : Option ByteArray := mtext k a0_0 a0_1 a0_2
theorem impl_PrintMatcher.mono : ∀ a0_0 a0_1 a0_2 k, LeO (impl_PrintMatcher.f k a0_0 a0_1 a0_2) (impl_PrintMatcher.f (k + 1) a0_0 a0_1 a0_2) := mtext_mono
open Go.Lib Go.Proofs.YtpdfokdhnalfaaaDoor.Door in
theorem impl_PrintMatcher.calls (k : Nat) (a0_0 : Int) (a0_1 a0_2 : ByteArray) (r : ByteArray) (w : World) (hT_ : PT w) (h : impl_PrintMatcher.f k a0_0 a0_1 a0_2 = some r) :
    Calls Tryd.prog 9 #[.agg #[.int .i64 a0_0, .string a0_1, .string a0_2]] w fun e w' => e = .returned (.string r) ∧ Below w.heap.size w w' := by
  have HM := Aside0.mk (fun B W (hP : PT W) hB => matcher_string k a0_0 a0_1 a0_2 r B W hP hB h)
  have HT := Aside0.mk hT_
  clear h hT_
  go_enter Tryd.func9, Tryd.ntmps9
  go_wp2_with fail
  refine (impl_inner.calls a0_0 a0_1 a0_2 _).mono ?_
  rintro e w1 ⟨g, rfl, _, hg, hb⟩
  have HB := Aside0.mk (below_step ((Below.refl w.heap.size w).alloc (Nat.le_refl _) _) hb)
  have HG := Aside0.mk hg
  clear hb hg
  go_wp2_with fail
  refine (HM.out g w1 (PT.below HT.out HB.out) HG.out).mono ?_
  rintro e w2 ⟨rfl, hb⟩
  have HB2 := Aside0.mk (below_step HB.out hb)
  clear hb
  go_wp2
  go_ret
  exact ⟨rfl, HB2.out⟩


/-! ### spec_Quoted: function 27 -/
mutual
def spec_Quoted.l0 : Nat → ByteArray → List Int → Int → Int → Option (ByteArray × Int)
  | 0, _, _, _, _ => none
  | k + 1, x0, x4, x9, x10 => if x10 < x9 then (if 0 ≤ x10 then (if x10 < (x0.size : Int) then (if (bt x0 x10) = 34 then (spec_Quoted.j1 k x0 x4 (bt x0 x10) x9 x10 true) else (spec_Quoted.j1 k x0 x4 (bt x0 x10) x9 x10 ((bt x0 x10) == 92))) else (none)) else (none)) else (if x4.length < 140737488355328 then (some (strOfNums (x4 ++ [34]), 1)) else (none))
def spec_Quoted.j1 : Nat → ByteArray → List Int → Int → Int → Int → Bool → Option (ByteArray × Int)
  | 0, _, _, _, _, _, _ => none
  | k + 1, x0, x4, x6, x9, x10, x20 => if x20 = true then ((some (([92, x6] : List Int) : List Int)).bind fun y134 => (if x4.length + y134.length < 140737488355328 then (spec_Quoted.l0 k x0 (x4 ++ y134) x9 (wrap64 (x10 + 1))) else (none))) else (if x6 = 10 then ((some (([92, 110] : List Int) : List Int)).bind fun y140 => (if x4.length + y140.length < 140737488355328 then (spec_Quoted.l0 k x0 (x4 ++ y140) x9 (wrap64 (x10 + 1))) else (none))) else (if x6 < 32 then (some ((⟨#[]⟩ : ByteArray), 2)) else (if x6 > 126 then (some ((⟨#[]⟩ : ByteArray), 2)) else (if x4.length < 140737488355328 then (spec_Quoted.l0 k x0 (x4 ++ [x6]) x9 (wrap64 (x10 + 1))) else (none)))))
end
def spec_Quoted.f (k : Nat) (a0 : ByteArray) : Option (ByteArray × Int) := spec_Quoted.l0 k a0 (([34] : List Int)) (a0.size : Int) 0
theorem spec_Quoted.mono_l : ∀ k, (∀ y0 y1 y2 y3, LeO (spec_Quoted.l0 k y0 y1 y2 y3) (spec_Quoted.l0 (k + 1) y0 y1 y2 y3)) ∧ (∀ y0 y1 y2 y3 y4 y5, LeO (spec_Quoted.j1 k y0 y1 y2 y3 y4 y5) (spec_Quoted.j1 (k + 1) y0 y1 y2 y3 y4 y5))
  | 0 => ⟨fun _ _ _ _ r h => by simp [spec_Quoted.l0] at h, fun _ _ _ _ _ _ r h => by simp [spec_Quoted.j1] at h⟩
  | k + 1 => by
    obtain ⟨ih0, ih1⟩ := spec_Quoted.mono_l k
    refine ⟨?_, ?_⟩
    · intro y0 y1 y2 y3
      unfold spec_Quoted.l0
      repeat' first
      | (with_reducible exact ih0 _ _ _ _)
      | (with_reducible exact ih1 _ _ _ _ _ _)
      | (with_reducible exact LeO.refl _)
      | (with_reducible exact LeO.none _)
      | (with_reducible refine LeO.ite ?_ ?_)
      | (with_reducible refine LeO.bind ?_ (fun _ => ?_))
      | exact ih0 _ _ _ _
      | exact ih1 _ _ _ _ _ _
      | exact LeO.none _
      | refine LeO.ite ?_ ?_
      | refine LeO.bind ?_ (fun _ => ?_)
    · intro y0 y1 y2 y3 y4 y5
      unfold spec_Quoted.j1
      repeat' first
      | (with_reducible exact ih0 _ _ _ _)
      | (with_reducible exact ih1 _ _ _ _ _ _)
      | (with_reducible exact LeO.refl _)
      | (with_reducible exact LeO.none _)
      | (with_reducible refine LeO.ite ?_ ?_)
      | (with_reducible refine LeO.bind ?_ (fun _ => ?_))
      | exact ih0 _ _ _ _
      | exact ih1 _ _ _ _ _ _
      | exact LeO.none _
      | refine LeO.ite ?_ ?_
      | refine LeO.bind ?_ (fun _ => ?_)
theorem spec_Quoted.mono : ∀ a0 k, LeO (spec_Quoted.f k a0) (spec_Quoted.f (k + 1) a0) := by
  intro a0 k
  obtain ⟨ih0, ih1⟩ := spec_Quoted.mono_l k
  unfold spec_Quoted.f
  repeat' first
      | (with_reducible exact ih0 _ _ _ _)
      | (with_reducible exact ih1 _ _ _ _ _ _)
      | (with_reducible exact LeO.refl _)
      | (with_reducible exact LeO.none _)
      | (with_reducible refine LeO.ite ?_ ?_)
      | (with_reducible refine LeO.bind ?_ (fun _ => ?_))
      | exact ih0 _ _ _ _
      | exact ih1 _ _ _ _ _ _
      | exact LeO.none _
      | refine LeO.ite ?_ ?_
      | refine LeO.bind ?_ (fun _ => ?_)
set_option maxHeartbeats 8000000 in
set_option maxRecDepth 100000 in
theorem spec_Quoted.calls (k : Nat) (a0 : ByteArray) (r1 : ByteArray) (r2 : Int) (w : World) (h : spec_Quoted.f k a0 = some (r1, r2)) :
    Calls Tryd.prog 27 #[.string a0] w fun e w' => e = .returned (.tuple #[.string r1, .int .i64 r2]) ∧ Below w.heap.size w w' := by
  have HB := Aside0.mk (Below.refl w.heap.size w)
  have H : (spec_Quoted.l0 k a0 (([34] : List Int)) (a0.size : Int) 0) = some (r1, r2) := h
  clear h
  obtain ⟨y128, hy128⟩ : ∃ y_ : List Int, y_ = (([34] : List Int)) := ⟨_, rfl⟩
  replace H : (spec_Quoted.l0 k a0 y128 (a0.size : Int) 0) = some (r1, r2) := by first | (rw [hy128]; with_reducible exact H) | (have H2_ := (Option.bind_some _ _).symm.trans H; rw [hy128]; with_reducible exact H2_) | (have H2_ := (Option.bind_some _ _).symm.trans H; with_reducible exact H2_) | with_reducible exact H | (rw [hy128]; exact H) | exact H
  have Ny128 := Aside0.mk hy128
  clear hy128
  have H' := Aside0.mk H
  clear H
  go_enter Tryd.func27, Tryd.ntmps27
  go_wp2_with (first | ((with_reducible refine gate_dst (N := 7) rfl ?_); refine Kd.R_lit (Kd.int .u8) _ 5 ?hg (N := 7) ?hd (xs := ([34] : List Int)) (inner := [.int .u8 34]) (ok := fun _ => True) (okp := fun _ => True) ?hr ?hp (fun _ hk => hk) trivial (Below.refl _ _) (Nat.le_refl _) (by simp) ?_; (case hd => rfl); (case hg => rfl); (case hr => first | (go_simp; done) | (go_simp; rfl)); (case hp => exact (Reps.one (show Kd.M (Kd.int .u8) _ _ _ 34 [.int .u8 34] from rfl) (Reps.none _ _))); intro v129 w2 ho3 hb hg_ hnew_; clear hg_ hnew_; (first | rw [← Ny128.out] at ho3 | (simp only [Int.reduceToNat] at ho3; rw [← Ny128.out] at ho3)); have n0_ := Aside0.mk (Kd.R_lower ho3 (below_size (by repeat (first | (with_reducible first | exact HB.out | apply below_alloc | apply pw_below_drewN | apply below_drew1) | exact HB.out)))); have n1_ := Aside0.mk (below_step (by repeat (first | (with_reducible first | exact HB.out | apply below_alloc | apply pw_below_drewN | apply below_drew1) | exact HB.out)) hb); clear HB; have HO130 := n0_; have HB := n1_; clear n0_ n1_; clear hb ho3))
  go_loopg [4, 10] k (fun kq v4 v10 w' => ∃ (x4_1 : List Int) (x10_1 : Int), v10 = .int .i64 x10_1 ∧ Aside0 (spec_Quoted.l0 kq a0 x4_1 (a0.size : Int) x10_1 = some (r1, r2)) ∧ Aside0 (kq ≤ k) ∧ Aside0 (Kd.R (Kd.int .u8) 5 w' w.heap.size (fun _ => True) v4 x4_1) ∧ Aside0 (Below w.heap.size w w'))
  case atStart => exact ⟨(y128), (0), (by first | rfl | (simp; done) | (simp [*]; done)), H', ⟨Nat.le_refl _⟩, ⟨by (with_reducible repeat (first | apply Kd.R_alloc | apply Kd.R_drewN | apply Kd.R_drew)); exact HO130.out⟩, ⟨by repeat (first | (with_reducible first | exact HB.out | apply below_alloc | apply pw_below_drewN | apply below_drew1) | exact HB.out)⟩⟩
  case round =>
    clear H'
    try clear c2
    try clear p2
    obtain ⟨x4_1, x10_1, rfl, HA, HK1, HO_4, HB⟩ := hrel
    cases gk with
    | zero => exact absurd HA.out (by simp [spec_Quoted.l0])
    | succ k1 =>
      have H := HA.out
      clear HA
      simp only [spec_Quoted.l0] at H
      by_cases c4 : x10_1 < (a0.size : Int)
      · rw [if_pos c4] at H
        have c4b0 : decide (x10_1 < (a0.size : Int)) = true := decide_eq_true c4
        clear c4
        by_cases c5 : 0 ≤ x10_1
        · rw [if_pos c5] at H
          have c5b0 : decide (0 ≤ x10_1) = true := decide_eq_true c5
          clear c5
          by_cases c6 : x10_1 < (a0.size : Int)
          · rw [if_pos c6] at H
            have c6b0 : decide (x10_1 < (a0.size : Int)) = true := decide_eq_true c6
            clear c6
            have HC8 := Aside0.mk H
            clear H
            have p7 : 0 ≤ (x10_1 : Int) := of_decide_eq_true (by first | (with_reducible assumption) | assumption)
            have q7 : x10_1 < (a0.size : Int) := of_decide_eq_true (by first | (with_reducible assumption) | assumption)
            have hx7 := bt_at a0 x10_1
            replace p7 := eq_true p7
            replace q7 := eq_true q7
            go_upto_region 7 with (fail)
            go_cut [20] (fun v20 wc => ∃ (kq : Nat) (x20_7 : Bool), v20 = .bool x20_7 ∧ Aside0 (spec_Quoted.j1 kq a0 x4_1 (bt a0 x10_1) (a0.size : Int) x10_1 x20_7 = some (r1, r2)) ∧ Aside0 (kq ≤ k1) ∧ Aside0 (Kd.R (Kd.int .u8) 5 wc w.heap.size (fun _ => True) u4 x4_1) ∧ Aside0 (Below w.heap.size w wc))
            case first =>
              have H := HC8.out
              clear HC8
              by_cases c9 : (bt a0 x10_1) = 34
              · rw [if_pos c9] at H
                have c9b0 : ((bt a0 x10_1) == 34) = true := beq_iff_eq.mpr c9
                have c9b1 : ((bt a0 x10_1) != 34) = false := bne_eq_false_iff_eq.mpr c9
                clear c9
                (first | rw [c9b0] | (simp only [i64_w, i32_w]; rw [c9b0]) | skip)
                have H' := Aside0.mk H
                clear H
                go_wp2
                go_meet
                case rel => exact ⟨_, (true), (by first | rfl | (simp; done) | (simp [*]; done)), H', ⟨by have := HK1.out; first | omega | exact Nat.le_refl _⟩, ⟨by (with_reducible repeat (first | apply Kd.R_alloc | apply Kd.R_drewN | apply Kd.R_drew)); exact HO_4.out⟩, ⟨by repeat (first | (with_reducible first | exact HB.out | apply below_alloc | apply pw_below_drewN | apply below_drew1) | exact HB.out)⟩⟩
              · rw [if_neg c9] at H
                have c9b0 : ((bt a0 x10_1) == 34) = false := beq_eq_false_iff_ne.mpr c9
                have c9b1 : ((bt a0 x10_1) != 34) = true := bne_iff_ne.mpr c9
                (first | rw [c9b0] | (simp only [i64_w, i32_w]; rw [c9b0]) | skip)
                have H' := Aside0.mk H
                clear H
                go_wp2
                go_meet
                case rel => exact ⟨_, (((bt a0 x10_1) == 92)), (by first | rfl | (simp; done) | (simp [*]; done)), H', ⟨by have := HK1.out; first | omega | exact Nat.le_refl _⟩, ⟨by (with_reducible repeat (first | apply Kd.R_alloc | apply Kd.R_drewN | apply Kd.R_drew)); exact HO_4.out⟩, ⟨by repeat (first | (with_reducible first | exact HB.out | apply below_alloc | apply pw_below_drewN | apply below_drew1) | exact HB.out)⟩⟩
            case rest =>
              clear HC8
              try clear c2
              try clear p2
              try clear c4
              try clear c4b0
              try clear c5
              try clear c5b0
              try clear c6
              try clear c6b0
              try clear p7
              try clear q7
              try clear hx7
              try clear c9
              try clear c9b0
              try clear c9b1
              try clear p2
              try clear p7
              try clear q7
              obtain ⟨kq, x20_7, rfl, HA, HJ7, HO_4, HB⟩ := hcut
              cases kq with
              | zero => exact absurd HA.out (by simp [spec_Quoted.j1])
              | succ kj7 =>
                have H := HA.out
                clear HA
                simp only [spec_Quoted.j1] at H
                by_cases c10 : x20_7 = true
                · subst c10
                  have H1 : ((some (([92, (bt a0 x10_1)] : List Int) : List Int)).bind fun y134 => (if x4_1.length + y134.length < 140737488355328 then (spec_Quoted.l0 kj7 a0 (x4_1 ++ y134) (a0.size : Int) (wrap64 (x10_1 + 1))) else (none))) = some (r1, r2) := by rw [if_pos rfl] at H; exact H
                  clear H
                  have H := H1
                  clear H1
                  obtain ⟨y134, hy134⟩ : ∃ y_ : List Int, y_ = (([92, (bt a0 x10_1)] : List Int)) := ⟨_, rfl⟩
                  replace H : (if x4_1.length + y134.length < 140737488355328 then (spec_Quoted.l0 kj7 a0 (x4_1 ++ y134) (a0.size : Int) (wrap64 (x10_1 + 1))) else (none)) = some (r1, r2) := by first | (rw [hy134]; with_reducible exact H) | (have H2_ := (Option.bind_some _ _).symm.trans H; rw [hy134]; with_reducible exact H2_) | (have H2_ := (Option.bind_some _ _).symm.trans H; with_reducible exact H2_) | with_reducible exact H | (rw [hy134]; exact H) | exact H
                  have Ny134 := Aside0.mk hy134
                  clear hy134
                  by_cases c11 : x4_1.length + y134.length < 140737488355328
                  · rw [if_pos c11] at H
                    have LMc11 := Aside0.mk c11
                    clear c11
                    obtain ⟨y137, hy137⟩ : ∃ y_ : List Int, y_ = (x4_1 ++ y134) := ⟨_, rfl⟩
                    replace H : (spec_Quoted.l0 kj7 a0 y137 (a0.size : Int) (wrap64 (x10_1 + 1))) = some (r1, r2) := by first | (rw [hy137]; with_reducible exact H) | (have H2_ := (Option.bind_some _ _).symm.trans H; rw [hy137]; with_reducible exact H2_) | (have H2_ := (Option.bind_some _ _).symm.trans H; with_reducible exact H2_) | with_reducible exact H | (rw [hy137]; exact H) | exact H
                    have Ny137 := Aside0.mk hy137
                    clear hy137
                    have H' := Aside0.mk H
                    clear H
                    go_wp2_with (first | ((with_reducible refine gate_dst (N := 29) rfl ?_); refine Kd.R_lit (Kd.int .u8) _ 5 ?hg (N := 29) ?hd (xs := ([92, (bt a0 x10_1)] : List Int)) (inner := [.int .u8 92, .int .u8 (bt a0 x10_1)]) (ok := fun _ => True) (okp := fun _ => True) ?hr ?hp (fun _ hk => hk) trivial (Below.refl _ _) (Nat.le_refl _) (by simp) ?_; (case hd => rfl); (case hg => rfl); (case hr => first | (go_simp; done) | (go_simp; rfl)); (case hp => exact (Reps.one (show Kd.M (Kd.int .u8) _ _ _ 92 [.int .u8 92] from rfl) (Reps.one (show Kd.M (Kd.int .u8) _ _ _ (bt a0 x10_1) [.int .u8 (bt a0 x10_1)] from rfl) (Reps.none _ _)))); intro v135 w12 ho13 hb hg_ hnew_; clear hg_ hnew_; (first | rw [← Ny134.out] at ho13 | (simp only [Int.reduceToNat] at ho13; rw [← Ny134.out] at ho13)); have n0_ := Aside0.mk (Kd.R_elder' (by (with_reducible repeat (first | apply Kd.R_alloc | apply Kd.R_drewN | apply Kd.R_drew)); exact HO_4.out) (Kd.R_base ho13) hb); have n1_ := Aside0.mk (Kd.R_lower (Kd.R_new' ho13 (Kd.R_lt (by (with_reducible repeat (first | apply Kd.R_alloc | apply Kd.R_drewN | apply Kd.R_drew)); exact HO_4.out))) (below_size (by repeat (first | (with_reducible first | exact HB.out | apply below_alloc | apply pw_below_drewN | apply below_drew1) | exact HB.out)))); have n2_ := Aside0.mk (below_step (by repeat (first | (with_reducible first | exact HB.out | apply below_alloc | apply pw_below_drewN | apply below_drew1) | exact HB.out)) hb); clear HO_4; clear HB; have HO_4 := n0_; have HO136 := n1_; have HB := n2_; clear n0_ n1_ n2_; clear hb ho13; obtain ⟨Ao15, co15, eo15⟩ := Kd.R_slice HO136.out; subst eo15) | ((with_reducible refine gate_builtin (b := .append) (xs := #[.tmp 27, .tmp 29]) rfl ?_); at_builtin; refine Kd.R_append_rows (Kd.int .u8) (w0 := w) w.heap.size rfl (.tmp 27) (.tmp 29) 75 5 (.int .u8 0) 1 rfl Tryd.underlying75 info5 rfl (by decide) (by omega) u4 x4_1 y134 _ _ _ (fun k_ => some k_ ≠ (.slice Ao15 y134.length co15 : Value).ownBlock) (fun _ => False) rfl rfl ?aO ?aR (fun _ _ h => h) (fun _ h => h.elim) ?aF ?aB ?aS ?aL ?_; (case aR => repeat (first | exact (Kd.R_reads' HO136.out).2.2 | (with_reducible refine Kd.C_alloc ?_ _) | (with_reducible refine Kd.C_drewN ?_ _) | (with_reducible refine Kd.C_drew ?_))); (case aB => exact (by repeat (first | (with_reducible first | exact HB.out | apply below_alloc | apply pw_below_drewN | apply below_drew1) | exact HB.out))); (case aF => exact (fun k_ hk => Kd.fresh' (Kd.R_lt (by (with_reducible repeat (first | apply Kd.R_alloc | apply Kd.R_drewN | apply Kd.R_drew)); exact HO136.out)) k_ hk)); (case aO => exact (by (with_reducible repeat (first | apply Kd.R_alloc | apply Kd.R_drewN | apply Kd.R_drew)); exact Kd.R_mono HO_4.out (fun _ hk => hk.2))); (case aS => exact (below_size (by repeat (first | (with_reducible first | exact HB.out | apply below_alloc | apply pw_below_drewN | apply below_drew1) | exact HB.out)))); (case aL => have := LMc11.out; first | omega | exact this | exact Nat.le_of_lt this); intro v138 w14 ho hb hg hat; rw [← Ny137.out] at ho; have n0_ := Aside0.mk (Kd.R_after (ok := (fun _ => True)) (by (with_reducible repeat (first | apply Kd.R_alloc | apply Kd.R_drewN | apply Kd.R_drew)); exact HO136.out) hg hat); have n1_ := Aside0.mk (hb); have n2_ := Aside0.mk (ho); clear HO136; clear HB; clear HO_4; have HO136 := n0_; have HB := n1_; have HO139 := n2_; clear n0_ n1_ n2_; clear ho hb hg hat))
                    go_roundg kj7
                    case measure => have := HK1.out; have := HJ7.out; omega
                    case rel => exact ⟨(y137), (wrap64 (x10_1 + 1)), (by first | rfl | (simp; done) | (simp [*]; done)), H', ⟨by have := HK1.out; have := HJ7.out; omega⟩, ⟨by (with_reducible repeat (first | apply Kd.R_alloc | apply Kd.R_drewN | apply Kd.R_drew)); exact Kd.R_mono HO139.out (fun _ hk => trivial)⟩, ⟨by repeat (first | (with_reducible first | exact HB.out | apply below_alloc | apply pw_below_drewN | apply below_drew1) | exact HB.out)⟩⟩
                  · rw [if_neg c11] at H
                    exact absurd H (by simp)
                · replace c10 := Bool.eq_false_iff.mpr c10
                  subst c10
                  have H1 : (if (bt a0 x10_1) = 10 then ((some (([92, 110] : List Int) : List Int)).bind fun y140 => (if x4_1.length + y140.length < 140737488355328 then (spec_Quoted.l0 kj7 a0 (x4_1 ++ y140) (a0.size : Int) (wrap64 (x10_1 + 1))) else (none))) else (if (bt a0 x10_1) < 32 then (some ((⟨#[]⟩ : ByteArray), 2)) else (if (bt a0 x10_1) > 126 then (some ((⟨#[]⟩ : ByteArray), 2)) else (if x4_1.length < 140737488355328 then (spec_Quoted.l0 kj7 a0 (x4_1 ++ [(bt a0 x10_1)]) (a0.size : Int) (wrap64 (x10_1 + 1))) else (none))))) = some (r1, r2) := by rw [if_neg (show ¬ (false = true) by decide)] at H; exact H
                  clear H
                  have H := H1
                  clear H1
                  by_cases c16 : (bt a0 x10_1) = 10
                  · rw [if_pos c16] at H
                    have c16b0 : ((bt a0 x10_1) == 10) = true := beq_iff_eq.mpr c16
                    have c16b1 : ((bt a0 x10_1) != 10) = false := bne_eq_false_iff_eq.mpr c16
                    clear c16
                    obtain ⟨y140, hy140⟩ : ∃ y_ : List Int, y_ = (([92, 110] : List Int)) := ⟨_, rfl⟩
                    replace H : (if x4_1.length + y140.length < 140737488355328 then (spec_Quoted.l0 kj7 a0 (x4_1 ++ y140) (a0.size : Int) (wrap64 (x10_1 + 1))) else (none)) = some (r1, r2) := by first | (rw [hy140]; with_reducible exact H) | (have H2_ := (Option.bind_some _ _).symm.trans H; rw [hy140]; with_reducible exact H2_) | (have H2_ := (Option.bind_some _ _).symm.trans H; with_reducible exact H2_) | with_reducible exact H | (rw [hy140]; exact H) | exact H
                    have Ny140 := Aside0.mk hy140
                    clear hy140
                    by_cases c17 : x4_1.length + y140.length < 140737488355328
                    · rw [if_pos c17] at H
                      have LMc17 := Aside0.mk c17
                      clear c17
                      obtain ⟨y143, hy143⟩ : ∃ y_ : List Int, y_ = (x4_1 ++ y140) := ⟨_, rfl⟩
                      replace H : (spec_Quoted.l0 kj7 a0 y143 (a0.size : Int) (wrap64 (x10_1 + 1))) = some (r1, r2) := by first | (rw [hy143]; with_reducible exact H) | (have H2_ := (Option.bind_some _ _).symm.trans H; rw [hy143]; with_reducible exact H2_) | (have H2_ := (Option.bind_some _ _).symm.trans H; with_reducible exact H2_) | with_reducible exact H | (rw [hy143]; exact H) | exact H
                      have Ny143 := Aside0.mk hy143
                      clear hy143
                      have H' := Aside0.mk H
                      clear H
                      go_wp2_with (first | ((with_reducible refine gate_dst (N := 35) rfl ?_); refine Kd.R_lit (Kd.int .u8) _ 5 ?hg (N := 35) ?hd (xs := ([92, 110] : List Int)) (inner := [.int .u8 92, .int .u8 110]) (ok := fun _ => True) (okp := fun _ => True) ?hr ?hp (fun _ hk => hk) trivial (Below.refl _ _) (Nat.le_refl _) (by simp) ?_; (case hd => rfl); (case hg => rfl); (case hr => first | (go_simp; done) | (go_simp; rfl)); (case hp => exact (Reps.one (show Kd.M (Kd.int .u8) _ _ _ 92 [.int .u8 92] from rfl) (Reps.one (show Kd.M (Kd.int .u8) _ _ _ 110 [.int .u8 110] from rfl) (Reps.none _ _)))); intro v141 w18 ho19 hb hg_ hnew_; clear hg_ hnew_; (first | rw [← Ny140.out] at ho19 | (simp only [Int.reduceToNat] at ho19; rw [← Ny140.out] at ho19)); have n0_ := Aside0.mk (Kd.R_elder' (by (with_reducible repeat (first | apply Kd.R_alloc | apply Kd.R_drewN | apply Kd.R_drew)); exact HO_4.out) (Kd.R_base ho19) hb); have n1_ := Aside0.mk (Kd.R_lower (Kd.R_new' ho19 (Kd.R_lt (by (with_reducible repeat (first | apply Kd.R_alloc | apply Kd.R_drewN | apply Kd.R_drew)); exact HO_4.out))) (below_size (by repeat (first | (with_reducible first | exact HB.out | apply below_alloc | apply pw_below_drewN | apply below_drew1) | exact HB.out)))); have n2_ := Aside0.mk (below_step (by repeat (first | (with_reducible first | exact HB.out | apply below_alloc | apply pw_below_drewN | apply below_drew1) | exact HB.out)) hb); clear HO_4; clear HB; have HO_4 := n0_; have HO142 := n1_; have HB := n2_; clear n0_ n1_ n2_; clear hb ho19; obtain ⟨Ao21, co21, eo21⟩ := Kd.R_slice HO142.out; subst eo21) | ((with_reducible refine gate_builtin (b := .append) (xs := #[.tmp 34, .tmp 35]) rfl ?_); at_builtin; refine Kd.R_append_rows (Kd.int .u8) (w0 := w) w.heap.size rfl (.tmp 34) (.tmp 35) 75 5 (.int .u8 0) 1 rfl Tryd.underlying75 info5 rfl (by decide) (by omega) u4 x4_1 y140 _ _ _ (fun k_ => some k_ ≠ (.slice Ao21 y140.length co21 : Value).ownBlock) (fun _ => False) rfl rfl ?aO ?aR (fun _ _ h => h) (fun _ h => h.elim) ?aF ?aB ?aS ?aL ?_; (case aR => repeat (first | exact (Kd.R_reads' HO142.out).2.2 | (with_reducible refine Kd.C_alloc ?_ _) | (with_reducible refine Kd.C_drewN ?_ _) | (with_reducible refine Kd.C_drew ?_))); (case aB => exact (by repeat (first | (with_reducible first | exact HB.out | apply below_alloc | apply pw_below_drewN | apply below_drew1) | exact HB.out))); (case aF => exact (fun k_ hk => Kd.fresh' (Kd.R_lt (by (with_reducible repeat (first | apply Kd.R_alloc | apply Kd.R_drewN | apply Kd.R_drew)); exact HO142.out)) k_ hk)); (case aO => exact (by (with_reducible repeat (first | apply Kd.R_alloc | apply Kd.R_drewN | apply Kd.R_drew)); exact Kd.R_mono HO_4.out (fun _ hk => hk.2))); (case aS => exact (below_size (by repeat (first | (with_reducible first | exact HB.out | apply below_alloc | apply pw_below_drewN | apply below_drew1) | exact HB.out)))); (case aL => have := LMc17.out; first | omega | exact this | exact Nat.le_of_lt this); intro v144 w20 ho hb hg hat; rw [← Ny143.out] at ho; have n0_ := Aside0.mk (Kd.R_after (ok := (fun _ => True)) (by (with_reducible repeat (first | apply Kd.R_alloc | apply Kd.R_drewN | apply Kd.R_drew)); exact HO142.out) hg hat); have n1_ := Aside0.mk (hb); have n2_ := Aside0.mk (ho); clear HO142; clear HB; clear HO_4; have HO142 := n0_; have HB := n1_; have HO145 := n2_; clear n0_ n1_ n2_; clear ho hb hg hat))
                      go_roundg kj7
                      case measure => have := HK1.out; have := HJ7.out; omega
                      case rel => exact ⟨(y143), (wrap64 (x10_1 + 1)), (by first | rfl | (simp; done) | (simp [*]; done)), H', ⟨by have := HK1.out; have := HJ7.out; omega⟩, ⟨by (with_reducible repeat (first | apply Kd.R_alloc | apply Kd.R_drewN | apply Kd.R_drew)); exact Kd.R_mono HO145.out (fun _ hk => trivial)⟩, ⟨by repeat (first | (with_reducible first | exact HB.out | apply below_alloc | apply pw_below_drewN | apply below_drew1) | exact HB.out)⟩⟩
                    · rw [if_neg c17] at H
                      exact absurd H (by simp)
                  · rw [if_neg c16] at H
                    have c16b0 : ((bt a0 x10_1) == 10) = false := beq_eq_false_iff_ne.mpr c16
                    have c16b1 : ((bt a0 x10_1) != 10) = true := bne_iff_ne.mpr c16
                    by_cases c22 : (bt a0 x10_1) < 32
                    · rw [if_pos c22] at H
                      have c22b0 : decide ((bt a0 x10_1) < 32) = true := decide_eq_true c22
                      clear c22
                      simp only [Option.some.injEq, Prod.mk.injEq] at H
                      obtain ⟨rfl, rfl⟩ := H
                      go_wp2
                      go_ret2
                      exact ⟨by first | rfl | (simp [errW_none, errW_some] <;> rfl) | (simp [*, errW_none, errW_some] <;> rfl), by repeat (first | (with_reducible first | exact HB.out | apply below_alloc | apply pw_below_drewN | apply below_drew1) | exact HB.out)⟩
                    · rw [if_neg c22] at H
                      have c22b0 : decide ((bt a0 x10_1) < 32) = false := decide_eq_false c22
                      clear c22
                      by_cases c23 : (bt a0 x10_1) > 126
                      · rw [if_pos c23] at H
                        have c23b0 : decide (126 < (bt a0 x10_1)) = true := decide_eq_true c23
                        clear c23
                        simp only [Option.some.injEq, Prod.mk.injEq] at H
                        obtain ⟨rfl, rfl⟩ := H
                        go_wp2
                        go_ret2
                        exact ⟨by first | rfl | (simp [errW_none, errW_some] <;> rfl) | (simp [*, errW_none, errW_some] <;> rfl), by repeat (first | (with_reducible first | exact HB.out | apply below_alloc | apply pw_below_drewN | apply below_drew1) | exact HB.out)⟩
                      · rw [if_neg c23] at H
                        have c23b0 : decide (126 < (bt a0 x10_1)) = false := decide_eq_false c23
                        clear c23
                        by_cases c24 : x4_1.length < 140737488355328
                        · rw [if_pos c24] at H
                          have LMc24 := Aside0.mk c24
                          clear c24
                          obtain ⟨y146, hy146⟩ : ∃ y_ : List Int, y_ = (x4_1 ++ [(bt a0 x10_1)]) := ⟨_, rfl⟩
                          replace H : (spec_Quoted.l0 kj7 a0 y146 (a0.size : Int) (wrap64 (x10_1 + 1))) = some (r1, r2) := by first | (rw [hy146]; with_reducible exact H) | (have H2_ := (Option.bind_some _ _).symm.trans H; rw [hy146]; with_reducible exact H2_) | (have H2_ := (Option.bind_some _ _).symm.trans H; with_reducible exact H2_) | with_reducible exact H | (rw [hy146]; exact H) | exact H
                          have Ny146 := Aside0.mk hy146
                          clear hy146
                          have H' := Aside0.mk H
                          clear H
                          go_wp2_with (first | ((with_reducible refine gate_builtin (b := .append) (xs := #[.tmp 16, .tmp 18]) rfl ?_); at_builtin; refine Kd.R_append (Kd.int .u8) (w0 := w) w.heap.size rfl (.tmp 16) (.tmp 18) 75 5 (.int .u8 0) 1 rfl Tryd.underlying75 info5 rfl (by decide) (by omega) u4 x4_1 (bt a0 x10_1) [.int .u8 (bt a0 x10_1)] (fun _ => True) (fun _ => False) rfl rfl ?aP (fun _ hk => hk.elim) ?aF ?aO ?aB ?aS ?aL ?_; (case aP => exact rfl); (case aB => exact (by repeat (first | (with_reducible first | exact HB.out | apply below_alloc | apply pw_below_drewN | apply below_drew1) | exact HB.out))); (case aF => exact (fun _ _ => trivial)); (case aO => exact (by (with_reducible repeat (first | apply Kd.R_alloc | apply Kd.R_drewN | apply Kd.R_drew)); exact HO_4.out)); (case aS => exact (below_size (by repeat (first | (with_reducible first | exact HB.out | apply below_alloc | apply pw_below_drewN | apply below_drew1) | exact HB.out)))); (case aL => have := LMc24.out; first | omega | exact this | exact Nat.le_of_lt this); intro v147 w25 ho hb hg hat; rw [← Ny146.out] at ho; have n0_ := Aside0.mk (hb); have n1_ := Aside0.mk (ho); clear HB; clear HO_4; have HB := n0_; have HO148 := n1_; clear n0_ n1_; clear ho hb hg hat))
                          go_roundg kj7
                          case measure => have := HK1.out; have := HJ7.out; omega
                          case rel => exact ⟨(y146), (wrap64 (x10_1 + 1)), (by first | rfl | (simp; done) | (simp [*]; done)), H', ⟨by have := HK1.out; have := HJ7.out; omega⟩, ⟨by (with_reducible repeat (first | apply Kd.R_alloc | apply Kd.R_drewN | apply Kd.R_drew)); exact HO148.out⟩, ⟨by repeat (first | (with_reducible first | exact HB.out | apply below_alloc | apply pw_below_drewN | apply below_drew1) | exact HB.out)⟩⟩
                        · rw [if_neg c24] at H
                          exact absurd H (by simp)
          · rw [if_neg c6] at H
            exact absurd H (by simp)
        · rw [if_neg c5] at H
          exact absurd H (by simp)
      · rw [if_neg c4] at H
        have c4b0 : decide (x10_1 < (a0.size : Int)) = false := decide_eq_false c4
        clear c4
        by_cases c26 : x4_1.length < 140737488355328
        · rw [if_pos c26] at H
          have LMc26 := Aside0.mk c26
          clear c26
          obtain ⟨y131, hy131⟩ : ∃ y_ : List Int, y_ = (x4_1 ++ [34]) := ⟨_, rfl⟩
          replace H : (some (strOfNums y131, 1)) = some (r1, r2) := by first | (rw [hy131]; with_reducible exact H) | (have H2_ := (Option.bind_some _ _).symm.trans H; rw [hy131]; with_reducible exact H2_) | (have H2_ := (Option.bind_some _ _).symm.trans H; with_reducible exact H2_) | with_reducible exact H | (rw [hy131]; exact H) | exact H
          have Ny131 := Aside0.mk hy131
          clear hy131
          simp only [Option.some.injEq, Prod.mk.injEq] at H
          obtain ⟨rfl, rfl⟩ := H
          go_wp2_with (first | ((with_reducible refine gate_builtin (b := .append) (xs := #[.tmp 45, .tmp 46]) rfl ?_); at_builtin; refine Kd.R_append (Kd.int .u8) (w0 := w) w.heap.size rfl (.tmp 45) (.tmp 46) 75 5 (.int .u8 0) 1 rfl Tryd.underlying75 info5 rfl (by decide) (by omega) u4 x4_1 34 [.int .u8 34] (fun _ => True) (fun _ => False) rfl rfl ?aP (fun _ hk => hk.elim) ?aF ?aO ?aB ?aS ?aL ?_; (case aP => exact rfl); (case aB => exact (by repeat (first | (with_reducible first | exact HB.out | apply below_alloc | apply pw_below_drewN | apply below_drew1) | exact HB.out))); (case aF => exact (fun _ _ => trivial)); (case aO => exact (by (with_reducible repeat (first | apply Kd.R_alloc | apply Kd.R_drewN | apply Kd.R_drew)); exact HO_4.out)); (case aS => exact (below_size (by repeat (first | (with_reducible first | exact HB.out | apply below_alloc | apply pw_below_drewN | apply below_drew1) | exact HB.out)))); (case aL => have := LMc26.out; first | omega | exact this | exact Nat.le_of_lt this); intro v132 w27 ho hb hg hat; rw [← Ny131.out] at ho; have n0_ := Aside0.mk (hb); have n1_ := Aside0.mk (ho); clear HB; clear HO_4; have HB := n0_; have HO133 := n1_; clear n0_ n1_; clear ho hb hg hat; have hcv28 := own_string (P := Tryd.prog) Tryd.underlying75 Tryd.underlying5 Tryd.underlying9 (Kd.own_of_R HO133.out)))
          go_ret2
          exact ⟨by first | rfl | (simp [errW_none, errW_some] <;> rfl) | (simp [*, errW_none, errW_some] <;> rfl), by repeat (first | (with_reducible first | exact HB.out | apply below_alloc | apply pw_below_drewN | apply below_drew1) | exact HB.out)⟩
        · rw [if_neg c26] at H
          exact absurd H (by simp)

/-! ### spec_blank: function 46 -/
def spec_blank.f (a0 : Int) : Option (Bool) := if a0 = 32 then (some true) else (if a0 ≥ 9 then (some (decide (a0 ≤ 13))) else (some false))
set_option maxHeartbeats 8000000 in
set_option maxRecDepth 100000 in
theorem spec_blank.calls (a0 : Int) (r : Bool) (w : World) (h : spec_blank.f a0 = some r) :
    Calls Tryd.prog 46 #[.int .u8 a0] w fun e w' => e = .returned (.bool r) ∧ Drawn0 w w' := by
  have H : (if a0 = 32 then (some true) else (if a0 ≥ 9 then (some (decide (a0 ≤ 13))) else (some false))) = some r := h
  clear h
  by_cases c2 : a0 = 32
  · rw [if_pos c2] at H
    have c2b0 : (a0 == 32) = true := beq_iff_eq.mpr c2
    have c2b1 : (a0 != 32) = false := bne_eq_false_iff_eq.mpr c2
    clear c2
    obtain rfl := Option.some.inj H
    go_enter Tryd.func46, Tryd.ntmps46
    go_wp2
    go_ret
    exact ⟨by first | rfl | (simp; done) | (simp [*]; done), by repeat (first | exact Drawn0.refl _ | apply Drawn0.step)⟩
  · rw [if_neg c2] at H
    have c2b0 : (a0 == 32) = false := beq_eq_false_iff_ne.mpr c2
    have c2b1 : (a0 != 32) = true := bne_iff_ne.mpr c2
    by_cases c3 : a0 ≥ 9
    · rw [if_pos c3] at H
      have c3b0 : decide (9 ≤ a0) = true := decide_eq_true c3
      clear c3
      obtain rfl := Option.some.inj H
      go_enter Tryd.func46, Tryd.ntmps46
      go_wp2
      go_ret
      exact ⟨by first | rfl | (simp; done) | (simp [*]; done), by repeat (first | exact Drawn0.refl _ | apply Drawn0.step)⟩
    · rw [if_neg c3] at H
      have c3b0 : decide (9 ≤ a0) = false := decide_eq_false c3
      clear c3
      obtain rfl := Option.some.inj H
      go_enter Tryd.func46, Tryd.ntmps46
      go_wp2
      go_ret
      exact ⟨by first | rfl | (simp; done) | (simp [*]; done), by repeat (first | exact Drawn0.refl _ | apply Drawn0.step)⟩

end Go.Proofs.YtpdfokdhnalfaaaDoor.Q
