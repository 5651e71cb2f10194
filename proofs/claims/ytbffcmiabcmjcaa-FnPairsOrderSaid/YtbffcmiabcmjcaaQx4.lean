-- printed by this project's own program wip/tools/mkprint.py (the kit's print.py with hand-proved contracts put in)
import Derived.Test.YtbffcmiabcmjcaaQx0
import Derived.Test.YtbffcmiabcmjcaaQx1
import Derived.Test.YtbffcmiabcmjcaaQx2
import Derived.Test.YtbffcmiabcmjcaaQx3
namespace Go.Proofs.Ytbffcmiabcmjcaa.Q
open Go.RowKit Go.Proofs.YtbffcmiabcmjcaaW.PrintWords Go.Proofs.YtbffcmiabcmjcaaW.PrintLast Go.Proofs.YtbffcmiabcmjcaaW.PrintMore
attribute [local go_sem] max2_int min2_int max_two min_two max_three min_three max_four min_four   -- for this text's walks alone
set_option linter.unusedVariables false
set_option linter.unusedSimpArgs false

/-! ### spec_SortedPairs: function 18 -/
def spec_SortedPairs.l0 : Nat → List (S44) → List (S44) → List (S44) → Int → Int → Option ((List (S44)))
  | 0, _, _, _, _, _ => none
  | k + 1, x3, x4, x5, x10, x11 => if x11 < x10 then (if 0 ≤ x11 then (if x11 < (x3.length : Int) then (if ((rd_T44 x3 x11).f0).toList = ([97, 108, 101, 114, 116, 110, 97, 109, 101] : List UInt8) then (if x4.length < 4398046511104 then (spec_SortedPairs.l0 k x3 (x4 ++ [(⟨(rd_T44 x3 x11).f0, (rd_T44 x3 x11).f1⟩ : S44)]) x5 x10 (wrap64 (x11 + 1))) else (none)) else (if x5.length < 4398046511104 then (spec_SortedPairs.l0 k x3 x4 (x5 ++ [(⟨(rd_T44 x3 x11).f0, (rd_T44 x3 x11).f1⟩ : S44)]) x10 (wrap64 (x11 + 1))) else (none))) else (none)) else (none)) else (if x4.length + x5.length < 4398046511104 then (some (x4 ++ x5)) else (none))
def spec_SortedPairs.f (k : Nat) (l0 : List (S44)) : Option ((List (S44))) := (spec_Set.f k l0).bind fun t167 => (spec_SortedPairs.l0 k t167 ([] : List (S44)) ([] : List (S44)) (t167.length : Int) 0)
theorem spec_SortedPairs.mono_l : ∀ k, (∀ y0 y1 y2 y3 y4, LeO (spec_SortedPairs.l0 k y0 y1 y2 y3 y4) (spec_SortedPairs.l0 (k + 1) y0 y1 y2 y3 y4))
  | 0 => fun _ _ _ _ _ r h => by simp [spec_SortedPairs.l0] at h
  | k + 1 => by
    have ih0 := spec_SortedPairs.mono_l k
    · intro y0 y1 y2 y3 y4
      unfold spec_SortedPairs.l0
      repeat' first
      | (with_reducible exact ih0 _ _ _ _ _)
      | (with_reducible exact spec_Set.mono _ _)
      | (with_reducible exact LeO.refl _)
      | (with_reducible exact LeO.none _)
      | (with_reducible refine LeO.ite ?_ ?_)
      | (with_reducible refine LeO.bind ?_ (fun _ => ?_))
      | exact ih0 _ _ _ _ _
      | exact spec_Set.mono _ _
      | exact LeO.none _
      | refine LeO.ite ?_ ?_
      | refine LeO.bind ?_ (fun _ => ?_)
theorem spec_SortedPairs.mono : ∀ a0 k, LeO (spec_SortedPairs.f k a0) (spec_SortedPairs.f (k + 1) a0) := by
  intro a0 k
  have ih0 := spec_SortedPairs.mono_l k
  unfold spec_SortedPairs.f
  repeat' first
      | (with_reducible exact ih0 _ _ _ _ _)
      | (with_reducible exact spec_Set.mono _ _)
      | (with_reducible exact LeO.refl _)
      | (with_reducible exact LeO.none _)
      | (with_reducible refine LeO.ite ?_ ?_)
      | (with_reducible refine LeO.bind ?_ (fun _ => ?_))
      | exact ih0 _ _ _ _ _
      | exact spec_Set.mono _ _
      | exact LeO.none _
      | refine LeO.ite ?_ ?_
      | refine LeO.bind ?_ (fun _ => ?_)
set_option maxHeartbeats 8000000 in
set_option maxRecDepth 100000 in
theorem spec_SortedPairs.calls (k : Nat) (A0 : Option Addr) (c0 : Nat) (l0 : List (S44)) (r : List (S44)) (w : World) (hr0 : Kd.C k44 w A0 l0.length l0) (hc0 : l0.length ≤ c0) (h : spec_SortedPairs.f k l0 = some r) :
    Calls Try.prog 18 #[.slice A0 l0.length c0] w fun e w' => ∃ v0_ : Value, e = .returned (v0_) ∧ Kd.R k44 44 w' w.heap.size (fun _ => True) v0_ r ∧ Below w.heap.size w w' := by
  have hu44 := Try.underlying44
  have HR0 := Aside0.mk hr0
  have HC0 := Aside0.mk hc0
  clear hr0 hc0
  have HB := Aside0.mk (Below.refl w.heap.size w)
  have H : ((spec_Set.f k l0).bind fun t167 => (spec_SortedPairs.l0 k t167 ([] : List (S44)) ([] : List (S44)) (t167.length : Int) 0)) = some r := h
  clear h
  replace H := Option.bind_eq_some_iff.mp H
  obtain ⟨t167, A20, H⟩ := H
  replace H : (spec_SortedPairs.l0 k t167 ([] : List (S44)) ([] : List (S44)) (t167.length : Int) 0) = some r := H
  have A2 := Aside0.mk A20
  clear A20
  have H' := Aside0.mk H
  clear H
  go_enter Try.func18, Try.ntmps18
  go_wp2_with (first | ((with_reducible refine gate_callee (f := 15) rfl ?_); refine goesL_ (some 8) rfl rfl Try.func15 (by kernel_rfl) rfl #[.slice A0 l0.length c0] rfl (by (try simp only [List.map_toArray, List.map_cons, List.map_nil]); first | done | rfl | (simp only [List.length_drop, List.length_take]; rfl)) ?_; (with_reducible refine (spec_Set.calls k _ _ l0 t167 _ ?side1 ?side2 A2.out).mono ?_); (case side1 => repeat (first | exact HR0.out | (with_reducible refine Kd.C_alloc ?_ _) | (with_reducible refine Kd.C_drewN ?_ _) | (with_reducible refine Kd.C_drew ?_))); (case side2 => exact HC0.out); rintro e w3 ⟨v168, rfl, ho0, hb⟩; refine ⟨_, rfl, ?_⟩; have n0_ := Aside0.mk (Kd.R_lower ho0 (below_size (by repeat (first | (with_reducible first | exact HB.out | apply below_alloc | apply pw_below_drewN | apply below_drew1) | exact HB.out)))); have n1_ := Aside0.mk (below_step (by repeat (first | (with_reducible first | exact HB.out | apply below_alloc | apply pw_below_drewN | apply below_drew1) | exact HB.out)) hb); clear HB; have HO169 := n0_; have HB := n1_; clear n0_ n1_; (try clear hb); (try clear hb2); (try clear hk); (try clear hi); (try clear ho0); obtain ⟨Ao4, co4, eo4⟩ := Kd.R_slice HO169.out; subst eo4))
  go_loopg [4, 5, 11] k (fun kq v4 v5 v11 w' => ∃ (x4_1 : List (S44)) (x5_1 : List (S44)) (x11_1 : Int), v11 = .int .i64 x11_1 ∧ Aside0 (spec_SortedPairs.l0 kq t167 x4_1 x5_1 (t167.length : Int) x11_1 = some r) ∧ Aside0 (kq ≤ k) ∧ Aside0 (Kd.R k44 44 w' w.heap.size (fun k_ => some k_ ≠ (v4 : Value).ownBlock ∧ some k_ ≠ (v5 : Value).ownBlock) (.slice Ao4 t167.length co4) t167) ∧ Aside0 (Kd.R k44 44 w' w.heap.size (fun k_ => some k_ ≠ ((.slice Ao4 t167.length co4) : Value).ownBlock ∧ some k_ ≠ (v5 : Value).ownBlock) v4 x4_1) ∧ Aside0 (Kd.R k44 44 w' w.heap.size (fun k_ => some k_ ≠ ((.slice Ao4 t167.length co4) : Value).ownBlock ∧ some k_ ≠ (v4 : Value).ownBlock) v5 x5_1) ∧ Aside0 (Below w.heap.size w w'))
  case atStart => exact ⟨(([] : List (S44))), (([] : List (S44))), (0), (by first | rfl | (simp; done) | (simp [*]; done)), H', ⟨Nat.le_refl _⟩, ⟨by (with_reducible repeat (first | apply Kd.R_alloc | apply Kd.R_drewN | apply Kd.R_drew)); exact Kd.R_mono HO169.out (fun _ hk => ⟨(by simp [Value.ownBlock]), (by simp [Value.ownBlock])⟩)⟩, ⟨by first | exact Kd.R_nil _ _ _ _ _ | exact Kd.N_nil _ _ _ _ _ | exact Kd.V_nil _ _ _ _ _ | exact Kd.Q_nil _ _ _ _ _ | exact Kd.S_nil _ _ _ _ _⟩, ⟨by first | exact Kd.R_nil _ _ _ _ _ | exact Kd.N_nil _ _ _ _ _ | exact Kd.V_nil _ _ _ _ _ | exact Kd.Q_nil _ _ _ _ _ | exact Kd.S_nil _ _ _ _ _⟩, ⟨by repeat (first | (with_reducible first | exact HB.out | apply below_alloc | apply pw_below_drewN | apply below_drew1) | exact HB.out)⟩⟩
  case round =>
    clear H'
    try clear c1
    try clear p2
    obtain ⟨x4_1, x5_1, x11_1, rfl, HA, HK1, HO_3, HO_4, HO_5, HB⟩ := hrel
    cases gk with
    | zero => exact absurd HA.out (by simp [spec_SortedPairs.l0])
    | succ k1 =>
      have H := HA.out
      clear HA
      simp only [spec_SortedPairs.l0] at H
      by_cases c5 : x11_1 < (t167.length : Int)
      · rw [if_pos c5] at H
        have c5b0 : decide (x11_1 < (t167.length : Int)) = true := decide_eq_true c5
        clear c5
        by_cases c6 : 0 ≤ x11_1
        · rw [if_pos c6] at H
          have c6b0 : decide (0 ≤ x11_1) = true := decide_eq_true c6
          clear c6
          by_cases c7 : x11_1 < (t167.length : Int)
          · rw [if_pos c7] at H
            have c7b0 : decide (x11_1 < (t167.length : Int)) = true := decide_eq_true c7
            clear c7
            by_cases c8 : ((rd_T44 t167 x11_1).f0).toList = ([97, 108, 101, 114, 116, 110, 97, 109, 101] : List UInt8)
            · rw [if_pos c8] at H
              have c8b0 : (((rd_T44 t167 x11_1).f0).toList == ([97, 108, 101, 114, 116, 110, 97, 109, 101] : List UInt8)) = true := beq_iff_eq.mpr c8
              have c8b1 : (((rd_T44 t167 x11_1).f0).toList != ([97, 108, 101, 114, 116, 110, 97, 109, 101] : List UInt8)) = false := bne_eq_false_iff_eq.mpr c8
              clear c8
              by_cases c9 : x4_1.length < 4398046511104
              · rw [if_pos c9] at H
                have LMc9 := Aside0.mk c9
                clear c9
                obtain ⟨y172, hy172⟩ : ∃ y_ : List (S44), y_ = (x4_1 ++ [(⟨(rd_T44 t167 x11_1).f0, (rd_T44 t167 x11_1).f1⟩ : S44)]) := ⟨_, rfl⟩
                replace H : (spec_SortedPairs.l0 k1 t167 y172 x5_1 (t167.length : Int) (wrap64 (x11_1 + 1))) = some r := by first | (rw [hy172]; with_reducible exact H) | (have H2_ := (Option.bind_some _ _).symm.trans H; rw [hy172]; with_reducible exact H2_) | (have H2_ := (Option.bind_some _ _).symm.trans H; with_reducible exact H2_) | with_reducible exact H | (rw [hy172]; exact H) | exact H
                have Ny172 := Aside0.mk hy172
                clear hy172
                have H' := Aside0.mk H
                clear H
                have p170 : 0 ≤ (x11_1 : Int) := of_decide_eq_true (by first | (with_reducible assumption) | assumption)
                have q170 : x11_1 < (t167.length : Int) := of_decide_eq_true (by first | (with_reducible assumption) | assumption)
                obtain ⟨ad170, e170, hx170_0, hx170_1⟩ := at_T44 (Kd.R_reads' HO_3.out).2.2 x11_1 p170 q170
                cases e170
                replace p170 := eq_true p170
                replace q170 := eq_true q170
                have p171 : 0 ≤ (x11_1 : Int) := of_decide_eq_true (by first | (with_reducible assumption) | assumption)
                have q171 : x11_1 < (t167.length : Int) := of_decide_eq_true (by first | (with_reducible assumption) | assumption)
                obtain ⟨ad171, e171, hx171_0, hx171_1⟩ := at_T44 (Kd.R_reads' HO_3.out).2.2 x11_1 p171 q171
                obtain rfl : ad170 = ad171 := (by injection e171)
                replace p171 := eq_true p171
                replace q171 := eq_true q171
                go_wp2_with (first | ((with_reducible refine gate_builtin (b := .append) (xs := #[.tmp 20, .tmp 25]) rfl ?_); at_builtin; refine Kd.R_append k44 (w0 := w) w.heap.size rfl (.tmp 20) (.tmp 25) 28 44 (.agg #[(.string ⟨#[]⟩), (.string ⟨#[]⟩)]) 32 rfl Try.underlying28 info44 rfl (by decide) (by omega) u4 x4_1 (⟨(rd_T44 t167 x11_1).f0, (rd_T44 t167 x11_1).f1⟩ : S44) [.string ((rd_T44 t167 x11_1).f0), .string ((rd_T44 t167 x11_1).f1)] (fun k_ => some k_ ≠ (.slice (some ad170) t167.length co4 : Value).ownBlock ∧ some k_ ≠ (u5 : Value).ownBlock) (fun _ => False) rfl rfl ?aP (fun _ hk => hk.elim) ?aF ?aO ?aB ?aS ?aL ?_; (case aP => exact k44_mkM _ _ _ (⟨(rd_T44 t167 x11_1).f0, (rd_T44 t167 x11_1).f1⟩ : S44)); (case aB => exact (by repeat (first | (with_reducible first | exact HB.out | apply below_alloc | apply pw_below_drewN | apply below_drew1) | exact HB.out))); (case aF => exact (fun k_ hk => ⟨Kd.fresh' (Kd.R_lt (by (with_reducible repeat (first | apply Kd.R_alloc | apply Kd.R_drewN | apply Kd.R_drew)); exact HO_3.out)) k_ hk, Kd.fresh' (Kd.R_lt (by (with_reducible repeat (first | apply Kd.R_alloc | apply Kd.R_drewN | apply Kd.R_drew)); exact HO_5.out)) k_ hk⟩)); (case aO => exact (by (with_reducible repeat (first | apply Kd.R_alloc | apply Kd.R_drewN | apply Kd.R_drew)); exact HO_4.out)); (case aS => exact (below_size (by repeat (first | (with_reducible first | exact HB.out | apply below_alloc | apply pw_below_drewN | apply below_drew1) | exact HB.out)))); (case aL => have := LMc9.out; omega); intro v173 w10 ho hb hg hat; rw [← Ny172.out] at ho; have n0_ := Aside0.mk (Kd.R_after (ok := (fun k_ => some k_ ≠ (u5 : Value).ownBlock)) (by (with_reducible repeat (first | apply Kd.R_alloc | apply Kd.R_drewN | apply Kd.R_drew)); exact Kd.R_mono HO_3.out (fun _ hk => ⟨hk.2, hk.1⟩)) hg hat); have n1_ := Aside0.mk (Kd.R_after (ok := (fun k_ => some k_ ≠ (.slice (some ad170) t167.length co4 : Value).ownBlock)) (by (with_reducible repeat (first | apply Kd.R_alloc | apply Kd.R_drewN | apply Kd.R_drew)); exact HO_5.out) hg hat); have n2_ := Aside0.mk (hb); have n3_ := Aside0.mk (ho); clear HO_3; clear HO_5; clear HB; clear HO_4; have HO_3 := n0_; have HO_5 := n1_; have HB := n2_; have HO174 := n3_; clear n0_ n1_ n2_ n3_; clear ho hb hg hat))
                go_roundg k1
                case measure => have := HK1.out; omega
                case rel => exact ⟨(y172), (x5_1), (wrap64 (x11_1 + 1)), (by first | rfl | (simp; done) | (simp [*]; done)), H', ⟨by have := HK1.out; omega⟩, ⟨by (with_reducible repeat (first | apply Kd.R_alloc | apply Kd.R_drewN | apply Kd.R_drew)); exact Kd.R_mono HO_3.out (fun _ hk => ⟨hk.2, hk.1⟩)⟩, ⟨by (with_reducible repeat (first | apply Kd.R_alloc | apply Kd.R_drewN | apply Kd.R_drew)); exact HO174.out⟩, ⟨by (with_reducible repeat (first | apply Kd.R_alloc | apply Kd.R_drewN | apply Kd.R_drew)); exact HO_5.out⟩, ⟨by repeat (first | (with_reducible first | exact HB.out | apply below_alloc | apply pw_below_drewN | apply below_drew1) | exact HB.out)⟩⟩
              · rw [if_neg c9] at H
                exact absurd H (by simp)
            · rw [if_neg c8] at H
              have c8b0 : (((rd_T44 t167 x11_1).f0).toList == ([97, 108, 101, 114, 116, 110, 97, 109, 101] : List UInt8)) = false := beq_eq_false_iff_ne.mpr c8
              have c8b1 : (((rd_T44 t167 x11_1).f0).toList != ([97, 108, 101, 114, 116, 110, 97, 109, 101] : List UInt8)) = true := bne_iff_ne.mpr c8
              by_cases c11 : x5_1.length < 4398046511104
              · rw [if_pos c11] at H
                have LMc11 := Aside0.mk c11
                clear c11
                obtain ⟨y176, hy176⟩ : ∃ y_ : List (S44), y_ = (x5_1 ++ [(⟨(rd_T44 t167 x11_1).f0, (rd_T44 t167 x11_1).f1⟩ : S44)]) := ⟨_, rfl⟩
                replace H : (spec_SortedPairs.l0 k1 t167 x4_1 y176 (t167.length : Int) (wrap64 (x11_1 + 1))) = some r := by first | (rw [hy176]; with_reducible exact H) | (have H2_ := (Option.bind_some _ _).symm.trans H; rw [hy176]; with_reducible exact H2_) | (have H2_ := (Option.bind_some _ _).symm.trans H; with_reducible exact H2_) | with_reducible exact H | (rw [hy176]; exact H) | exact H
                have Ny176 := Aside0.mk hy176
                clear hy176
                have H' := Aside0.mk H
                clear H
                have p170 : 0 ≤ (x11_1 : Int) := of_decide_eq_true (by first | (with_reducible assumption) | assumption)
                have q170 : x11_1 < (t167.length : Int) := of_decide_eq_true (by first | (with_reducible assumption) | assumption)
                obtain ⟨ad170, e170, hx170_0, hx170_1⟩ := at_T44 (Kd.R_reads' HO_3.out).2.2 x11_1 p170 q170
                cases e170
                replace p170 := eq_true p170
                replace q170 := eq_true q170
                have p175 : 0 ≤ (x11_1 : Int) := of_decide_eq_true (by first | (with_reducible assumption) | assumption)
                have q175 : x11_1 < (t167.length : Int) := of_decide_eq_true (by first | (with_reducible assumption) | assumption)
                obtain ⟨ad175, e175, hx175_0, hx175_1⟩ := at_T44 (Kd.R_reads' HO_3.out).2.2 x11_1 p175 q175
                obtain rfl : ad170 = ad175 := (by injection e175)
                replace p175 := eq_true p175
                replace q175 := eq_true q175
                go_wp2_with (first | ((with_reducible refine gate_builtin (b := .append) (xs := #[.tmp 27, .tmp 32]) rfl ?_); at_builtin; refine Kd.R_append k44 (w0 := w) w.heap.size rfl (.tmp 27) (.tmp 32) 28 44 (.agg #[(.string ⟨#[]⟩), (.string ⟨#[]⟩)]) 32 rfl Try.underlying28 info44 rfl (by decide) (by omega) u5 x5_1 (⟨(rd_T44 t167 x11_1).f0, (rd_T44 t167 x11_1).f1⟩ : S44) [.string ((rd_T44 t167 x11_1).f0), .string ((rd_T44 t167 x11_1).f1)] (fun k_ => some k_ ≠ (.slice (some ad170) t167.length co4 : Value).ownBlock ∧ some k_ ≠ (u4 : Value).ownBlock) (fun _ => False) rfl rfl ?aP (fun _ hk => hk.elim) ?aF ?aO ?aB ?aS ?aL ?_; (case aP => exact k44_mkM _ _ _ (⟨(rd_T44 t167 x11_1).f0, (rd_T44 t167 x11_1).f1⟩ : S44)); (case aB => exact (by repeat (first | (with_reducible first | exact HB.out | apply below_alloc | apply pw_below_drewN | apply below_drew1) | exact HB.out))); (case aF => exact (fun k_ hk => ⟨Kd.fresh' (Kd.R_lt (by (with_reducible repeat (first | apply Kd.R_alloc | apply Kd.R_drewN | apply Kd.R_drew)); exact HO_3.out)) k_ hk, Kd.fresh' (Kd.R_lt (by (with_reducible repeat (first | apply Kd.R_alloc | apply Kd.R_drewN | apply Kd.R_drew)); exact HO_4.out)) k_ hk⟩)); (case aO => exact (by (with_reducible repeat (first | apply Kd.R_alloc | apply Kd.R_drewN | apply Kd.R_drew)); exact HO_5.out)); (case aS => exact (below_size (by repeat (first | (with_reducible first | exact HB.out | apply below_alloc | apply pw_below_drewN | apply below_drew1) | exact HB.out)))); (case aL => have := LMc11.out; omega); intro v177 w12 ho hb hg hat; rw [← Ny176.out] at ho; have n0_ := Aside0.mk (Kd.R_after (ok := (fun k_ => some k_ ≠ (u4 : Value).ownBlock)) (by (with_reducible repeat (first | apply Kd.R_alloc | apply Kd.R_drewN | apply Kd.R_drew)); exact HO_3.out) hg hat); have n1_ := Aside0.mk (Kd.R_after (ok := (fun k_ => some k_ ≠ (.slice (some ad170) t167.length co4 : Value).ownBlock)) (by (with_reducible repeat (first | apply Kd.R_alloc | apply Kd.R_drewN | apply Kd.R_drew)); exact HO_4.out) hg hat); have n2_ := Aside0.mk (hb); have n3_ := Aside0.mk (ho); clear HO_3; clear HO_4; clear HB; clear HO_5; have HO_3 := n0_; have HO_4 := n1_; have HB := n2_; have HO178 := n3_; clear n0_ n1_ n2_ n3_; clear ho hb hg hat))
                go_roundg k1
                case measure => have := HK1.out; omega
                case rel => exact ⟨(x4_1), (y176), (wrap64 (x11_1 + 1)), (by first | rfl | (simp; done) | (simp [*]; done)), H', ⟨by have := HK1.out; omega⟩, ⟨by (with_reducible repeat (first | apply Kd.R_alloc | apply Kd.R_drewN | apply Kd.R_drew)); exact HO_3.out⟩, ⟨by (with_reducible repeat (first | apply Kd.R_alloc | apply Kd.R_drewN | apply Kd.R_drew)); exact HO_4.out⟩, ⟨by (with_reducible repeat (first | apply Kd.R_alloc | apply Kd.R_drewN | apply Kd.R_drew)); exact HO178.out⟩, ⟨by repeat (first | (with_reducible first | exact HB.out | apply below_alloc | apply pw_below_drewN | apply below_drew1) | exact HB.out)⟩⟩
              · rw [if_neg c11] at H
                exact absurd H (by simp)
          · rw [if_neg c7] at H
            exact absurd H (by simp)
        · rw [if_neg c6] at H
          exact absurd H (by simp)
      · rw [if_neg c5] at H
        have c5b0 : decide (x11_1 < (t167.length : Int)) = false := decide_eq_false c5
        clear c5
        by_cases c13 : x4_1.length + x5_1.length < 4398046511104
        · rw [if_pos c13] at H
          have LMc13 := Aside0.mk c13
          clear c13
          obtain ⟨y179, hy179⟩ : ∃ y_ : List (S44), y_ = (x4_1 ++ x5_1) := ⟨_, rfl⟩
          replace H : (some y179) = some r := by first | (rw [hy179]; with_reducible exact H) | (have H2_ := (Option.bind_some _ _).symm.trans H; rw [hy179]; with_reducible exact H2_) | (have H2_ := (Option.bind_some _ _).symm.trans H; with_reducible exact H2_) | with_reducible exact H | (rw [hy179]; exact H) | exact H
          have Ny179 := Aside0.mk hy179
          clear hy179
          obtain rfl := Option.some.inj H
          obtain ⟨Ao15, co15, eo15⟩ := Kd.R_slice HO_5.out
          subst eo15
          go_wp2_with (first | ((with_reducible refine gate_builtin (b := .append) (xs := #[.tmp 35, .tmp 36]) rfl ?_); at_builtin; refine Kd.R_append_rows k44 (w0 := w) w.heap.size rfl (.tmp 35) (.tmp 36) 28 44 (.agg #[(.string ⟨#[]⟩), (.string ⟨#[]⟩)]) 32 rfl Try.underlying28 info44 rfl (by decide) (by omega) u4 x4_1 x5_1 _ _ _ (fun k_ => some k_ ≠ (.slice Ao4 t167.length co4 : Value).ownBlock ∧ some k_ ≠ (.slice Ao15 x5_1.length co15 : Value).ownBlock) (fun _ => False) rfl rfl ?aO ?aR (fun _ _ h => h) (fun _ h => h.elim) ?aF ?aB ?aS ?aL ?_; (case aR => repeat (first | exact (Kd.R_reads' HO_5.out).2.2 | (with_reducible refine Kd.C_alloc ?_ _) | (with_reducible refine Kd.C_drewN ?_ _) | (with_reducible refine Kd.C_drew ?_))); (case aB => exact (by repeat (first | (with_reducible first | exact HB.out | apply below_alloc | apply pw_below_drewN | apply below_drew1) | exact HB.out))); (case aF => exact (fun k_ hk => ⟨Kd.fresh' (Kd.R_lt (by (with_reducible repeat (first | apply Kd.R_alloc | apply Kd.R_drewN | apply Kd.R_drew)); exact HO_3.out)) k_ hk, Kd.fresh' (Kd.R_lt (by (with_reducible repeat (first | apply Kd.R_alloc | apply Kd.R_drewN | apply Kd.R_drew)); exact HO_5.out)) k_ hk⟩)); (case aO => exact (by (with_reducible repeat (first | apply Kd.R_alloc | apply Kd.R_drewN | apply Kd.R_drew)); exact HO_4.out)); (case aS => exact (below_size (by repeat (first | (with_reducible first | exact HB.out | apply below_alloc | apply pw_below_drewN | apply below_drew1) | exact HB.out)))); (case aL => have := LMc13.out; omega); intro v180 w14 ho hb hg hat; rw [← Ny179.out] at ho; have n0_ := Aside0.mk (Kd.R_after (ok := (fun k_ => some k_ ≠ (.slice Ao15 x5_1.length co15 : Value).ownBlock)) (by (with_reducible repeat (first | apply Kd.R_alloc | apply Kd.R_drewN | apply Kd.R_drew)); exact Kd.R_mono HO_3.out (fun _ hk => ⟨hk.2, hk.1⟩)) hg hat); have n1_ := Aside0.mk (Kd.R_after (ok := (fun k_ => some k_ ≠ (.slice Ao4 t167.length co4 : Value).ownBlock)) (by (with_reducible repeat (first | apply Kd.R_alloc | apply Kd.R_drewN | apply Kd.R_drew)); exact HO_5.out) hg hat); have n2_ := Aside0.mk (hb); have n3_ := Aside0.mk (ho); clear HO_3; clear HO_5; clear HB; clear HO_4; have HO_3 := n0_; have HO_5 := n1_; have HB := n2_; have HO181 := n3_; clear n0_ n1_ n2_ n3_; clear ho hb hg hat))
          go_ret
          exact ⟨_, by first | rfl | (simp [errW_none, errW_some] <;> rfl) | (simp [*, errW_none, errW_some] <;> rfl), by (with_reducible repeat (first | apply Kd.R_alloc | apply Kd.R_drewN | apply Kd.R_drew)); exact Kd.R_mono HO181.out (fun _ hk => trivial), by repeat (first | (with_reducible first | exact HB.out | apply below_alloc | apply pw_below_drewN | apply below_drew1) | exact HB.out)⟩
        · rw [if_neg c13] at H
          exact absurd H (by simp)

/-! ### laws_FnSortedPairs: function 5 -/
def laws_FnSortedPairs.f (k : Nat) (l0 : List (S26)) : Option (Bool) := (laws_zzFits1.f k l0).bind fun t182 => (if t182 = true then ((laws_much.f l0).bind fun t183 => (if t183 = true then (some true) else ((impl_SortedPairs.f l0).bind fun t184 => ((laws_pairs.f k l0).bind fun t187 => ((spec_SortedPairs.f k t187).bind fun t190 => ((laws_eqPairs.f t184 t190).bind fun t193 => (some t193))))))) else (some true))
theorem laws_FnSortedPairs.mono : ∀ a0 k, LeO (laws_FnSortedPairs.f k a0) (laws_FnSortedPairs.f (k + 1) a0) := by
  intro a0 k
  unfold laws_FnSortedPairs.f
  repeat' first
      | (with_reducible exact laws_pairs.mono _ _)
      | (with_reducible exact laws_zzFits1.mono _ _)
      | (with_reducible exact spec_SortedPairs.mono _ _)
      | (with_reducible exact LeO.refl _)
      | (with_reducible exact LeO.none _)
      | (with_reducible refine LeO.ite ?_ ?_)
      | (with_reducible refine LeO.bind ?_ (fun _ => ?_))
      | exact laws_pairs.mono _ _
      | exact laws_zzFits1.mono _ _
      | exact spec_SortedPairs.mono _ _
      | exact LeO.none _
      | refine LeO.ite ?_ ?_
      | refine LeO.bind ?_ (fun _ => ?_)
set_option maxHeartbeats 8000000 in
set_option maxRecDepth 100000 in
theorem laws_FnSortedPairs.calls (k : Nat) (A0 : Option Addr) (c0 : Nat) (l0 : List (S26)) (r : Bool) (w : World) (hr0 : Kd.C k26 w A0 l0.length l0) (hc0 : l0.length ≤ c0) (h : laws_FnSortedPairs.f k l0 = some r) :
    Calls Try.prog 5 #[.slice A0 l0.length c0] w fun e w' => e = .returned (.bool r) ∧ Below w.heap.size w w' := by
  have HR0 := Aside0.mk hr0
  have HC0 := Aside0.mk hc0
  clear hr0 hc0
  have HB := Aside0.mk (Below.refl w.heap.size w)
  have H : ((laws_zzFits1.f k l0).bind fun t182 => (if t182 = true then ((laws_much.f l0).bind fun t183 => (if t183 = true then (some true) else ((impl_SortedPairs.f l0).bind fun t184 => ((laws_pairs.f k l0).bind fun t187 => ((spec_SortedPairs.f k t187).bind fun t190 => ((laws_eqPairs.f t184 t190).bind fun t193 => (some t193))))))) else (some true))) = some r := h
  clear h
  replace H := Option.bind_eq_some_iff.mp H
  obtain ⟨t182, A20, H⟩ := H
  replace H : (if t182 = true then ((laws_much.f l0).bind fun t183 => (if t183 = true then (some true) else ((impl_SortedPairs.f l0).bind fun t184 => ((laws_pairs.f k l0).bind fun t187 => ((spec_SortedPairs.f k t187).bind fun t190 => ((laws_eqPairs.f t184 t190).bind fun t193 => (some t193))))))) else (some true)) = some r := H
  have A2 := Aside0.mk A20
  clear A20
  by_cases c3 : t182 = true
  · subst c3
    have H1 : ((laws_much.f l0).bind fun t183 => (if t183 = true then (some true) else ((impl_SortedPairs.f l0).bind fun t184 => ((laws_pairs.f k l0).bind fun t187 => ((spec_SortedPairs.f k t187).bind fun t190 => ((laws_eqPairs.f t184 t190).bind fun t193 => (some t193))))))) = some r := by rw [if_pos rfl] at H; exact H
    clear H
    have H := H1
    clear H1
    replace H := Option.bind_eq_some_iff.mp H
    obtain ⟨t183, A40, H⟩ := H
    replace H : (if t183 = true then (some true) else ((impl_SortedPairs.f l0).bind fun t184 => ((laws_pairs.f k l0).bind fun t187 => ((spec_SortedPairs.f k t187).bind fun t190 => ((laws_eqPairs.f t184 t190).bind fun t193 => (some t193)))))) = some r := H
    have A4 := Aside0.mk A40
    clear A40
    by_cases c5 : t183 = true
    · subst c5
      have H1 : (some true) = some r := by rw [if_pos rfl] at H; exact H
      clear H
      have H := H1
      clear H1
      obtain rfl := Option.some.inj H
      go_enter Try.func5, Try.ntmps5
      go_wp2_with (first | ((with_reducible refine gate_callee (f := 11) rfl ?_); refine goesL_ (some 4) rfl rfl Try.func11 (by kernel_rfl) rfl #[.slice A0 l0.length c0] rfl (by (try simp only [List.map_toArray, List.map_cons, List.map_nil]); first | done | rfl | (simp only [List.length_drop, List.length_take]; rfl)) ?_; (with_reducible refine (laws_zzFits1.calls k _ _ l0 true _ ?side1 ?side2 A2.out).mono ?_); (case side1 => repeat (first | exact HR0.out | (with_reducible refine Kd.C_alloc ?_ _) | (with_reducible refine Kd.C_drewN ?_ _) | (with_reducible refine Kd.C_drew ?_))); (case side2 => exact HC0.out); rintro e w6 ⟨rfl, hb⟩; refine ⟨_, rfl, ?_⟩; have n0_ := Aside0.mk (below_step (by repeat (first | (with_reducible first | exact HB.out | apply below_alloc | apply pw_below_drewN | apply below_drew1) | exact HB.out)) hb); clear HB; have HB := n0_; clear n0_; (try clear hb); (try clear hb2); (try clear hk); (try clear hi)) | ((with_reducible refine gate_callee (f := 13) rfl ?_); refine goesL_ (some 7) rfl rfl Try.func13 (by kernel_rfl) rfl #[.slice A0 l0.length c0] rfl (by (try simp only [List.map_toArray, List.map_cons, List.map_nil]); first | done | rfl | (simp only [List.length_drop, List.length_take]; rfl)) ?_; (with_reducible refine (laws_much.calls _ _ l0 true _ ?side1 ?side2 A4.out).mono ?_); (case side1 => repeat (first | exact (Kd.C_below HR0.out HB.out) | (with_reducible refine Kd.C_alloc ?_ _) | (with_reducible refine Kd.C_drewN ?_ _) | (with_reducible refine Kd.C_drew ?_))); (case side2 => exact HC0.out); rintro e w' ⟨rfl, ⟨nd, rfl⟩⟩; refine ⟨_, rfl, ?_⟩))
      go_ret
      exact ⟨by first | rfl | (simp [errW_none, errW_some] <;> rfl) | (simp [*, errW_none, errW_some] <;> rfl), by repeat (first | (with_reducible first | exact HB.out | apply below_alloc | apply pw_below_drewN | apply below_drew1) | exact HB.out)⟩
    · replace c5 := Bool.eq_false_iff.mpr c5
      subst c5
      have H1 : ((impl_SortedPairs.f l0).bind fun t184 => ((laws_pairs.f k l0).bind fun t187 => ((spec_SortedPairs.f k t187).bind fun t190 => ((laws_eqPairs.f t184 t190).bind fun t193 => (some t193))))) = some r := by rw [if_neg (show ¬ (false = true) by decide)] at H; exact H
      clear H
      have H := H1
      clear H1
      replace H := Option.bind_eq_some_iff.mp H
      obtain ⟨t184, A70, H⟩ := H
      replace H : ((laws_pairs.f k l0).bind fun t187 => ((spec_SortedPairs.f k t187).bind fun t190 => ((laws_eqPairs.f t184 t190).bind fun t193 => (some t193)))) = some r := H
      have A7 := Aside0.mk A70
      clear A70
      replace H := Option.bind_eq_some_iff.mp H
      obtain ⟨t187, A80, H⟩ := H
      replace H : ((spec_SortedPairs.f k t187).bind fun t190 => ((laws_eqPairs.f t184 t190).bind fun t193 => (some t193))) = some r := H
      have A8 := Aside0.mk A80
      clear A80
      replace H := Option.bind_eq_some_iff.mp H
      obtain ⟨t190, A90, H⟩ := H
      replace H : ((laws_eqPairs.f t184 t190).bind fun t193 => (some t193)) = some r := H
      have A9 := Aside0.mk A90
      clear A90
      replace H := Option.bind_eq_some_iff.mp H
      obtain ⟨t193, A100, H⟩ := H
      replace H : (some t193) = some r := H
      have A10 := Aside0.mk A100
      clear A100
      obtain rfl := Option.some.inj H
      go_enter Try.func5, Try.ntmps5
      go_wp2_with (first | ((with_reducible refine gate_callee (f := 11) rfl ?_); refine goesL_ (some 4) rfl rfl Try.func11 (by kernel_rfl) rfl #[.slice A0 l0.length c0] rfl (by (try simp only [List.map_toArray, List.map_cons, List.map_nil]); first | done | rfl | (simp only [List.length_drop, List.length_take]; rfl)) ?_; (with_reducible refine (laws_zzFits1.calls k _ _ l0 true _ ?side1 ?side2 A2.out).mono ?_); (case side1 => repeat (first | exact HR0.out | (with_reducible refine Kd.C_alloc ?_ _) | (with_reducible refine Kd.C_drewN ?_ _) | (with_reducible refine Kd.C_drew ?_))); (case side2 => exact HC0.out); rintro e w11 ⟨rfl, hb⟩; refine ⟨_, rfl, ?_⟩; have n0_ := Aside0.mk (below_step (by repeat (first | (with_reducible first | exact HB.out | apply below_alloc | apply pw_below_drewN | apply below_drew1) | exact HB.out)) hb); clear HB; have HB := n0_; clear n0_; (try clear hb); (try clear hb2); (try clear hk); (try clear hi)) | ((with_reducible refine gate_callee (f := 13) rfl ?_); refine goesL_ (some 7) rfl rfl Try.func13 (by kernel_rfl) rfl #[.slice A0 l0.length c0] rfl (by (try simp only [List.map_toArray, List.map_cons, List.map_nil]); first | done | rfl | (simp only [List.length_drop, List.length_take]; rfl)) ?_; (with_reducible refine (laws_much.calls _ _ l0 false _ ?side1 ?side2 A4.out).mono ?_); (case side1 => repeat (first | exact (Kd.C_below HR0.out HB.out) | (with_reducible refine Kd.C_alloc ?_ _) | (with_reducible refine Kd.C_drewN ?_ _) | (with_reducible refine Kd.C_drew ?_))); (case side2 => exact HC0.out); rintro e w' ⟨rfl, ⟨nd, rfl⟩⟩; refine ⟨_, rfl, ?_⟩) | ((with_reducible refine gate_callee (f := 17) rfl ?_); refine goesL_ (some 9) rfl rfl Try.func17 (by kernel_rfl) rfl #[.slice A0 l0.length c0] rfl (by (try simp only [List.map_toArray, List.map_cons, List.map_nil]); first | done | rfl | (simp only [List.length_drop, List.length_take]; rfl)) ?_; (with_reducible refine (impl_SortedPairs.calls _ _ l0 t184 _ ?side1 ?side2 A7.out).mono ?_); (case side1 => repeat (first | exact (Kd.C_below HR0.out (by repeat (first | (with_reducible first | exact HB.out | apply below_alloc | apply pw_below_drewN | apply below_drew1) | exact HB.out))) | (with_reducible refine Kd.C_alloc ?_ _) | (with_reducible refine Kd.C_drewN ?_ _) | (with_reducible refine Kd.C_drew ?_))); (case side2 => exact HC0.out); rintro e w12 ⟨v185, rfl, ho0, hb⟩; refine ⟨_, rfl, ?_⟩; have n0_ := Aside0.mk (Kd.R_lower ho0 (below_size (by repeat (first | (with_reducible first | exact HB.out | apply below_alloc | apply pw_below_drewN | apply below_drew1) | exact HB.out)))); have n1_ := Aside0.mk (below_step (by repeat (first | (with_reducible first | exact HB.out | apply below_alloc | apply pw_below_drewN | apply below_drew1) | exact HB.out)) hb); clear HB; have HO186 := n0_; have HB := n1_; clear n0_ n1_; (try clear hb); (try clear hb2); (try clear hk); (try clear hi); (try clear ho0)) | ((with_reducible refine gate_callee (f := 16) rfl ?_); refine goesL_ (some 11) rfl rfl Try.func16 (by kernel_rfl) rfl #[.slice A0 l0.length c0] rfl (by (try simp only [List.map_toArray, List.map_cons, List.map_nil]); first | done | rfl | (simp only [List.length_drop, List.length_take]; rfl)) ?_; (with_reducible refine (laws_pairs.calls k _ _ l0 t187 _ ?side1 ?side2 A8.out).mono ?_); (case side1 => repeat (first | exact (Kd.C_below HR0.out HB.out) | (with_reducible refine Kd.C_alloc ?_ _) | (with_reducible refine Kd.C_drewN ?_ _) | (with_reducible refine Kd.C_drew ?_))); (case side2 => exact HC0.out); rintro e w13 ⟨v188, rfl, ho0, hb⟩; refine ⟨_, rfl, ?_⟩; have n0_ := Aside0.mk (Kd.R_below (by (with_reducible repeat (first | apply Kd.R_alloc | apply Kd.R_drewN | apply Kd.R_drew)); exact HO186.out) hb); have n1_ := Aside0.mk (Kd.R_lower ho0 (below_size (by repeat (first | (with_reducible first | exact HB.out | apply below_alloc | apply pw_below_drewN | apply below_drew1) | exact HB.out)))); have n2_ := Aside0.mk (below_step (by repeat (first | (with_reducible first | exact HB.out | apply below_alloc | apply pw_below_drewN | apply below_drew1) | exact HB.out)) hb); clear HO186; clear HB; have HO186 := n0_; have HO189 := n1_; have HB := n2_; clear n0_ n1_ n2_; (try clear hb); (try clear hb2); (try clear hk); (try clear hi); (try clear ho0); obtain ⟨Ao14, co14, eo14⟩ := Kd.R_slice HO189.out; subst eo14) | ((with_reducible refine gate_callee (f := 18) rfl ?_); refine goesL_ (some 12) rfl rfl Try.func18 (by kernel_rfl) rfl #[.slice Ao14 t187.length co14] rfl (by (try simp only [List.map_toArray, List.map_cons, List.map_nil]); first | done | rfl | (simp only [List.length_drop, List.length_take]; rfl)) ?_; (with_reducible refine (spec_SortedPairs.calls k _ _ t187 t190 _ ?side1 ?side2 A9.out).mono ?_); (case side1 => repeat (first | exact (Kd.R_reads' HO189.out).2.2 | (with_reducible refine Kd.C_alloc ?_ _) | (with_reducible refine Kd.C_drewN ?_ _) | (with_reducible refine Kd.C_drew ?_))); (case side2 => exact (Kd.R_reads' HO189.out).2.1); rintro e w15 ⟨v191, rfl, ho0, hb⟩; refine ⟨_, rfl, ?_⟩; have n0_ := Aside0.mk (Kd.R_below (by (with_reducible repeat (first | apply Kd.R_alloc | apply Kd.R_drewN | apply Kd.R_drew)); exact HO186.out) hb); have n1_ := Aside0.mk (Kd.R_elder' (by (with_reducible repeat (first | apply Kd.R_alloc | apply Kd.R_drewN | apply Kd.R_drew)); exact HO189.out) (Kd.R_base ho0) hb); have n2_ := Aside0.mk (Kd.R_lower (Kd.R_new' ho0 (Kd.R_lt (by (with_reducible repeat (first | apply Kd.R_alloc | apply Kd.R_drewN | apply Kd.R_drew)); exact HO189.out))) (below_size (by repeat (first | (with_reducible first | exact HB.out | apply below_alloc | apply pw_below_drewN | apply below_drew1) | exact HB.out)))); have n3_ := Aside0.mk (below_step (by repeat (first | (with_reducible first | exact HB.out | apply below_alloc | apply pw_below_drewN | apply below_drew1) | exact HB.out)) hb); clear HO186; clear HO189; clear HB; have HO186 := n0_; have HO189 := n1_; have HO192 := n2_; have HB := n3_; clear n0_ n1_ n2_ n3_; (try clear hb); (try clear hb2); (try clear hk); (try clear hi); (try clear ho0); obtain ⟨Ao16, co16, eo16⟩ := Kd.R_slice HO186.out; subst eo16; obtain ⟨Ao17, co17, eo17⟩ := Kd.R_slice HO192.out; subst eo17) | ((with_reducible refine gate_callee (f := 14) rfl ?_); refine goesL_ (some 13) rfl rfl Try.func14 (by kernel_rfl) rfl #[.slice Ao16 t184.length co16, .slice Ao17 t190.length co17] rfl (by (try simp only [List.map_toArray, List.map_cons, List.map_nil]); first | done | rfl | (simp only [List.length_drop, List.length_take]; rfl)) ?_; (with_reducible refine (laws_eqPairs.calls _ _ t184 _ _ t190 t193 _ ?side1 ?side2 ?side3 ?side4 A10.out).mono ?_); (case side1 => repeat (first | exact (Kd.R_reads' HO186.out).2.2 | (with_reducible refine Kd.C_alloc ?_ _) | (with_reducible refine Kd.C_drewN ?_ _) | (with_reducible refine Kd.C_drew ?_))); (case side2 => exact (Kd.R_reads' HO186.out).2.1); (case side3 => repeat (first | exact (Kd.R_reads' HO192.out).2.2 | (with_reducible refine Kd.C_alloc ?_ _) | (with_reducible refine Kd.C_drewN ?_ _) | (with_reducible refine Kd.C_drew ?_))); (case side4 => exact (Kd.R_reads' HO192.out).2.1); rintro e w' ⟨rfl, ⟨nd, rfl⟩⟩; refine ⟨_, rfl, ?_⟩))
      go_ret
      exact ⟨by first | rfl | (simp [errW_none, errW_some] <;> rfl) | (simp [*, errW_none, errW_some] <;> rfl), by repeat (first | (with_reducible first | exact HB.out | apply below_alloc | apply pw_below_drewN | apply below_drew1) | exact HB.out)⟩
  · replace c3 := Bool.eq_false_iff.mpr c3
    subst c3
    have H1 : (some true) = some r := by rw [if_neg (show ¬ (false = true) by decide)] at H; exact H
    clear H
    have H := H1
    clear H1
    obtain rfl := Option.some.inj H
    go_enter Try.func5, Try.ntmps5
    go_wp2_with (first | ((with_reducible refine gate_callee (f := 11) rfl ?_); refine goesL_ (some 4) rfl rfl Try.func11 (by kernel_rfl) rfl #[.slice A0 l0.length c0] rfl (by (try simp only [List.map_toArray, List.map_cons, List.map_nil]); first | done | rfl | (simp only [List.length_drop, List.length_take]; rfl)) ?_; (with_reducible refine (laws_zzFits1.calls k _ _ l0 false _ ?side1 ?side2 A2.out).mono ?_); (case side1 => repeat (first | exact HR0.out | (with_reducible refine Kd.C_alloc ?_ _) | (with_reducible refine Kd.C_drewN ?_ _) | (with_reducible refine Kd.C_drew ?_))); (case side2 => exact HC0.out); rintro e w18 ⟨rfl, hb⟩; refine ⟨_, rfl, ?_⟩; have n0_ := Aside0.mk (below_step (by repeat (first | (with_reducible first | exact HB.out | apply below_alloc | apply pw_below_drewN | apply below_drew1) | exact HB.out)) hb); clear HB; have HB := n0_; clear n0_; (try clear hb); (try clear hb2); (try clear hk); (try clear hi)))
    go_ret
    exact ⟨by first | rfl | (simp [errW_none, errW_some] <;> rfl) | (simp [*, errW_none, errW_some] <;> rfl), by repeat (first | (with_reducible first | exact HB.out | apply below_alloc | apply pw_below_drewN | apply below_drew1) | exact HB.out)⟩

/-- THE ONE PURE STATEMENT of laws_FnSortedPairs: yours. -/
def laws_FnSortedPairs.Pure : Prop := ∀ (l0 : List (S26)), (l0.length ≤ maxLen ∧ ∀ y ∈ l0, okS26 y) → ∃ k, laws_FnSortedPairs.f k l0 = some true

end Go.Proofs.Ytbffcmiabcmjcaa.Q
