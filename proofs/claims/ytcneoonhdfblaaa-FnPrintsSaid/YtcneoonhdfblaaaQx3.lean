-- printed by this project's own program wip/tools/mkprint.py (the kit's print.py with hand-proved contracts put in)
import Derived.Test.YtcneoonhdfblaaaQx0
import Derived.Test.YtcneoonhdfblaaaQx2
namespace Go.Proofs.Ytcneoonhdfblaaa.Q
open Go.RowKit Go.Proofs.YtcneoonhdfblaaaW.PrintWords Go.Proofs.YtcneoonhdfblaaaW.PrintLast Go.Proofs.YtcneoonhdfblaaaW.PrintMore
attribute [local go_sem] max2_int min2_int max_two min_two max_three min_three max_four min_four   -- for this text's walks alone
set_option linter.unusedVariables false
set_option linter.unusedSimpArgs false

/-! ### spec_PrintsBoth: function 7 -/
mutual
def spec_PrintsBoth.l0 : Nat → List Int → List Int → List Int → Int → Int → Option (List Int)
  | 0, _, _, _, _, _ => none
  | k + 1, x0, x1, x5, x9, x10 => if x10 < x9 then (if 0 ≤ x10 then (if x10 ≤ (wrap64 (x10 + 1)) then (if (wrap64 (x10 + 1)) ≤ (x0.length : Int) then ((spec_allIn.f k ((x0.take ((wrap64 (x10 + 1)) : Int).toNat).drop (x10 : Int).toNat) x1).bind fun t105 => (if t105 = true then (if (x5.length : Int) > 0 then ((spec_allIn.f k ((x0.take ((wrap64 (x10 + 1)) : Int).toNat).drop (x10 : Int).toNat) x5).bind fun t107 => (spec_PrintsBoth.j1 k x0 x1 x5 x10 x9 x10 t107)) else (spec_PrintsBoth.j1 k x0 x1 x5 x10 x9 x10 false)) else (spec_PrintsBoth.j1 k x0 x1 x5 x10 x9 x10 true))) else (none)) else (none)) else (none)) else (some x5)
def spec_PrintsBoth.j1 : Nat → List Int → List Int → List Int → Int → Int → Int → Bool → Option (List Int)
  | 0, _, _, _, _, _, _, _ => none
  | k + 1, x0, x1, x5, x6, x9, x10, x34 => if x34 = true then (spec_PrintsBoth.l0 k x0 x1 x5 x9 (wrap64 (x10 + 1))) else (spec_PrintsBoth.l1 k x0 x1 x5 x6 0 x9 x10)
def spec_PrintsBoth.l1 : Nat → List Int → List Int → List Int → Int → Int → Int → Int → Option (List Int)
  | 0, _, _, _, _, _, _, _ => none
  | k + 1, x0, x1, x5, x6, x7, x9, x10 => if x7 < (x5.length : Int) then (if 0 ≤ x7 then (if 0 ≤ x6 then (if x6 < (x0.length : Int) then (if (rd x5 x7) < (rd x0 x6) then (spec_PrintsBoth.l1 k x0 x1 x5 x6 (wrap64 (x7 + 1)) x9 x10) else ((some (([] : List Int) : List Int)).bind fun y110 => (if x7 ≤ (x5.length : Int) then ((some (x5.take (x7 : Int).toNat : List Int)).bind fun y113 => (if y110.length + y113.length < 17592186044416 then ((some (y110 ++ y113 : List Int)).bind fun y117 => ((some (([rd x0 x6] : List Int) : List Int)).bind fun y121 => (if y117.length + y121.length < 17592186044416 then ((some (y117 ++ y121 : List Int)).bind fun y124 => ((some (x5.drop (x7 : Int).toNat : List Int)).bind fun y127 => (if y124.length + y127.length < 17592186044416 then (spec_PrintsBoth.l0 k x0 x1 (y124 ++ y127) x9 (wrap64 (x10 + 1))) else (none)))) else (none)))) else (none))) else (none)))) else (none)) else (none)) else (none)) else ((some (([] : List Int) : List Int)).bind fun y134 => (if 0 ≤ x7 then (if x7 ≤ (x5.length : Int) then ((some (x5.take (x7 : Int).toNat : List Int)).bind fun y137 => (if y134.length + y137.length < 17592186044416 then ((some (y134 ++ y137 : List Int)).bind fun y141 => (if 0 ≤ x6 then (if x6 < (x0.length : Int) then ((some (([rd x0 x6] : List Int) : List Int)).bind fun y145 => (if y141.length + y145.length < 17592186044416 then ((some (y141 ++ y145 : List Int)).bind fun y148 => ((some (x5.drop (x7 : Int).toNat : List Int)).bind fun y151 => (if y148.length + y151.length < 17592186044416 then (spec_PrintsBoth.l0 k x0 x1 (y148 ++ y151) x9 (wrap64 (x10 + 1))) else (none)))) else (none))) else (none)) else (none))) else (none))) else (none)) else (none)))
end
def spec_PrintsBoth.f (k : Nat) (l0 : List Int) (l1 : List Int) : Option (List Int) := spec_PrintsBoth.l0 k l0 l1 ([] : List Int) (l0.length : Int) 0
theorem spec_PrintsBoth.mono_l : ∀ k, (∀ y0 y1 y2 y3 y4, LeO (spec_PrintsBoth.l0 k y0 y1 y2 y3 y4) (spec_PrintsBoth.l0 (k + 1) y0 y1 y2 y3 y4)) ∧ (∀ y0 y1 y2 y3 y4 y5 y6, LeO (spec_PrintsBoth.j1 k y0 y1 y2 y3 y4 y5 y6) (spec_PrintsBoth.j1 (k + 1) y0 y1 y2 y3 y4 y5 y6)) ∧ (∀ y0 y1 y2 y3 y4 y5 y6, LeO (spec_PrintsBoth.l1 k y0 y1 y2 y3 y4 y5 y6) (spec_PrintsBoth.l1 (k + 1) y0 y1 y2 y3 y4 y5 y6))
  | 0 => ⟨fun _ _ _ _ _ r h => by simp [spec_PrintsBoth.l0] at h, fun _ _ _ _ _ _ _ r h => by simp [spec_PrintsBoth.j1] at h, fun _ _ _ _ _ _ _ r h => by simp [spec_PrintsBoth.l1] at h⟩
  | k + 1 => by
    obtain ⟨ih0, ih1, ih2⟩ := spec_PrintsBoth.mono_l k
    refine ⟨?_, ?_, ?_⟩
    · intro y0 y1 y2 y3 y4
      unfold spec_PrintsBoth.l0
      repeat' first
      | (with_reducible exact ih0 _ _ _ _ _)
      | (with_reducible exact ih1 _ _ _ _ _ _ _)
      | (with_reducible exact ih2 _ _ _ _ _ _ _)
      | (with_reducible exact spec_allIn.mono _ _ _)
      | (with_reducible exact LeO.refl _)
      | (with_reducible exact LeO.none _)
      | (with_reducible refine LeO.ite ?_ ?_)
      | (with_reducible refine LeO.bind ?_ (fun _ => ?_))
      | exact ih0 _ _ _ _ _
      | exact ih1 _ _ _ _ _ _ _
      | exact ih2 _ _ _ _ _ _ _
      | exact spec_allIn.mono _ _ _
      | exact LeO.none _
      | refine LeO.ite ?_ ?_
      | refine LeO.bind ?_ (fun _ => ?_)
    · intro y0 y1 y2 y3 y4 y5 y6
      unfold spec_PrintsBoth.j1
      repeat' first
      | (with_reducible exact ih0 _ _ _ _ _)
      | (with_reducible exact ih1 _ _ _ _ _ _ _)
      | (with_reducible exact ih2 _ _ _ _ _ _ _)
      | (with_reducible exact spec_allIn.mono _ _ _)
      | (with_reducible exact LeO.refl _)
      | (with_reducible exact LeO.none _)
      | (with_reducible refine LeO.ite ?_ ?_)
      | (with_reducible refine LeO.bind ?_ (fun _ => ?_))
      | exact ih0 _ _ _ _ _
      | exact ih1 _ _ _ _ _ _ _
      | exact ih2 _ _ _ _ _ _ _
      | exact spec_allIn.mono _ _ _
      | exact LeO.none _
      | refine LeO.ite ?_ ?_
      | refine LeO.bind ?_ (fun _ => ?_)
    · intro y0 y1 y2 y3 y4 y5 y6
      unfold spec_PrintsBoth.l1
      repeat' first
      | (with_reducible exact ih0 _ _ _ _ _)
      | (with_reducible exact ih1 _ _ _ _ _ _ _)
      | (with_reducible exact ih2 _ _ _ _ _ _ _)
      | (with_reducible exact spec_allIn.mono _ _ _)
      | (with_reducible exact LeO.refl _)
      | (with_reducible exact LeO.none _)
      | (with_reducible refine LeO.ite ?_ ?_)
      | (with_reducible refine LeO.bind ?_ (fun _ => ?_))
      | exact ih0 _ _ _ _ _
      | exact ih1 _ _ _ _ _ _ _
      | exact ih2 _ _ _ _ _ _ _
      | exact spec_allIn.mono _ _ _
      | exact LeO.none _
      | refine LeO.ite ?_ ?_
      | refine LeO.bind ?_ (fun _ => ?_)
theorem spec_PrintsBoth.mono : ∀ a0 a1 k, LeO (spec_PrintsBoth.f k a0 a1) (spec_PrintsBoth.f (k + 1) a0 a1) := by
  intro a0 a1 k
  obtain ⟨ih0, ih1, ih2⟩ := spec_PrintsBoth.mono_l k
  unfold spec_PrintsBoth.f
  repeat' first
      | (with_reducible exact ih0 _ _ _ _ _)
      | (with_reducible exact ih1 _ _ _ _ _ _ _)
      | (with_reducible exact ih2 _ _ _ _ _ _ _)
      | (with_reducible exact spec_allIn.mono _ _ _)
      | (with_reducible exact LeO.refl _)
      | (with_reducible exact LeO.none _)
      | (with_reducible refine LeO.ite ?_ ?_)
      | (with_reducible refine LeO.bind ?_ (fun _ => ?_))
      | exact ih0 _ _ _ _ _
      | exact ih1 _ _ _ _ _ _ _
      | exact ih2 _ _ _ _ _ _ _
      | exact spec_allIn.mono _ _ _
      | exact LeO.none _
      | refine LeO.ite ?_ ?_
      | refine LeO.bind ?_ (fun _ => ?_)
def spec_PrintsBoth.T7 : Bool × List (List Nat × List Nat) := (true, [([], []), ([], []), ([1], [1]), ([0, 2], [0, 2]), ([3], [3]), ([4], [4]), ([4], [4]), ([5, 6, 4], [4, 5, 6]), ([7, 4], [4, 7]), ([4], [4]), ([4], [4]), ([9, 10, 4], [4, 9, 10]), ([11, 4], [4, 11]), ([8, 12, 4], [4, 8, 12]), ([4, 13], [4, 13])])
def spec_PrintsBoth.B7 : List Nat := [0, 0, 2, 7, 15, 31, 31, 127, 255, 31, 31, 1567, 3615, 8191, 16383]
theorem spec_PrintsBoth.tab7 : rtab .any (opsOf Try.f7 7) = spec_PrintsBoth.T7 := by kernel_rfl
theorem spec_PrintsBoth.bits7 : waitsOk spec_PrintsBoth.T7.2 spec_PrintsBoth.B7 = true := by kernel_rfl
def spec_PrintsBoth.T9 : Bool × List (List Nat × List Nat) := (true, [([], []), ([], []), ([], []), ([1, 2], [1, 2]), ([0, 3], [0, 3]), ([], []), ([], []), ([5, 6], [5, 6]), ([7], [7]), ([8], [8]), ([4, 9, 4], [4, 9]), ([], []), ([], []), ([11, 12], [11, 12]), ([10, 13, 10], [10, 13]), ([14, 14, 0, 1, 2, 3, 4, 5, 6, 7, 8, 9, 10, 11, 12, 13, 14], [1, 11, 14])])
def spec_PrintsBoth.B9 : List Nat := [0, 0, 0, 6, 15, 0, 0, 96, 224, 480, 1023, 0, 0, 6144, 16383, 32767]
theorem spec_PrintsBoth.tab9 : rtab .any (opsOf Try.f7 9) = spec_PrintsBoth.T9 := by kernel_rfl
theorem spec_PrintsBoth.bits9 : waitsOk spec_PrintsBoth.T9.2 spec_PrintsBoth.B9 = true := by kernel_rfl
set_option maxHeartbeats 8000000 in
set_option maxRecDepth 100000 in
theorem spec_PrintsBoth.calls (k : Nat) (A0 : Option Addr) (c0 : Nat) (l0 : List Int) (A1 : Option Addr) (c1 : Nat) (l1 : List Int) (r : List Int) (w : World) (hr0 : Kd.C (Kd.int .u64) w A0 l0.length l0) (hc0 : l0.length ≤ c0) (hr1 : Kd.C (Kd.int .u64) w A1 l1.length l1) (hc1 : l1.length ≤ c1) (h : spec_PrintsBoth.f k l0 l1 = some r) :
    Calls Try.prog 7 #[.slice A0 l0.length c0, .slice A1 l1.length c1] w fun e w' => ∃ v0_ : Value, e = .returned (v0_) ∧ Kd.R (Kd.int .u64) 24 w' w.heap.size (fun _ => True) v0_ r ∧ Below w.heap.size w w' := by
  have HR0 := Aside0.mk hr0
  have HC0 := Aside0.mk hc0
  clear hr0 hc0
  have HR1 := Aside0.mk hr1
  have HC1 := Aside0.mk hc1
  clear hr1 hc1
  have HB := Aside0.mk (Below.refl w.heap.size w)
  have H : (spec_PrintsBoth.l0 k l0 l1 ([] : List Int) (l0.length : Int) 0) = some r := h
  clear h
  have H' := Aside0.mk H
  clear H
  go_enter Try.func7, Try.ntmps7
  go_wp2
  go_loopg [5, 10] k (fun kq v5 v10 w' => ∃ (x5_1 : List Int) (x10_1 : Int), v10 = .int .i64 x10_1 ∧ Aside0 (spec_PrintsBoth.l0 kq l0 l1 x5_1 (l0.length : Int) x10_1 = some r) ∧ Aside0 (kq ≤ k) ∧ Aside0 (Kd.R (Kd.int .u64) 24 w' w.heap.size (fun _ => True) v5 x5_1) ∧ Aside0 (Below w.heap.size w w'))
  case atStart => exact ⟨(([] : List Int)), (0), (by first | rfl | (simp; done) | (simp [*]; done)), H', ⟨Nat.le_refl _⟩, ⟨by first | exact Kd.R_nil _ _ _ _ _ | exact Kd.N_nil _ _ _ _ _ | exact Kd.V_nil _ _ _ _ _ | exact Kd.Q_nil _ _ _ _ _ | exact Kd.S_nil _ _ _ _ _⟩, ⟨by repeat (first | (with_reducible first | exact HB.out | apply below_alloc | apply pw_below_drewN | apply below_drew1) | exact HB.out)⟩⟩
  case round =>
    clear H'
    try clear c1
    try clear p2
    obtain ⟨x5_1, x10_1, rfl, HA, HK1, HO_5, HB⟩ := hrel
    cases gk with
    | zero => exact absurd HA.out (by simp [spec_PrintsBoth.l0])
    | succ k1 =>
      have H := HA.out
      clear HA
      simp only [spec_PrintsBoth.l0] at H
      by_cases c3 : x10_1 < (l0.length : Int)
      · rw [if_pos c3] at H
        have c3b0 : decide (x10_1 < (l0.length : Int)) = true := decide_eq_true c3
        clear c3
        have HC4 := Aside0.mk H
        clear H
        go_upto_region 5 with (fail)
        go_cut [34] (fun v34 wc => ∃ (kq : Nat) (x34_3 : Bool), v34 = .bool x34_3 ∧ Aside0 (spec_PrintsBoth.j1 kq l0 l1 x5_1 x10_1 (l0.length : Int) x10_1 x34_3 = some r) ∧ Aside0 (kq ≤ k1) ∧ Aside0 (Kd.R (Kd.int .u64) 24 wc w.heap.size (fun _ => True) u5 x5_1) ∧ Aside0 (Below w.heap.size w wc))
        case first =>
          have H := HC4.out
          clear HC4
          by_cases c5 : 0 ≤ x10_1
          · rw [if_pos c5] at H
            have c5b0 := eq_true c5
            have c5b1 : decide (0 ≤ x10_1) = true := decide_eq_true c5
            clear c5
            by_cases c6 : x10_1 ≤ (wrap64 (x10_1 + 1))
            · rw [if_pos c6] at H
              have c6b0 := eq_true c6
              have c6b1 : decide (x10_1 ≤ (wrap64 (x10_1 + 1))) = true := decide_eq_true c6
              by_cases c7 : (wrap64 (x10_1 + 1)) ≤ (l0.length : Int)
              · rw [if_pos c7] at H
                have c7b0 := eq_true c7
                have c7b1 : decide ((wrap64 (x10_1 + 1)) ≤ (l0.length : Int)) = true := decide_eq_true c7
                replace H := Option.bind_eq_some_iff.mp H
                obtain ⟨t105, A80, H⟩ := H
                replace H : (if t105 = true then (if (x5_1.length : Int) > 0 then ((spec_allIn.f k1 ((l0.take ((wrap64 (x10_1 + 1)) : Int).toNat).drop (x10_1 : Int).toNat) x5_1).bind fun t107 => (spec_PrintsBoth.j1 k1 l0 l1 x5_1 x10_1 (l0.length : Int) x10_1 t107)) else (spec_PrintsBoth.j1 k1 l0 l1 x5_1 x10_1 (l0.length : Int) x10_1 false)) else (spec_PrintsBoth.j1 k1 l0 l1 x5_1 x10_1 (l0.length : Int) x10_1 true)) = some r := H
                have A8 := Aside0.mk A80
                clear A80
                by_cases c9 : t105 = true
                · subst c9
                  have H1 : (if (x5_1.length : Int) > 0 then ((spec_allIn.f k1 ((l0.take ((wrap64 (x10_1 + 1)) : Int).toNat).drop (x10_1 : Int).toNat) x5_1).bind fun t107 => (spec_PrintsBoth.j1 k1 l0 l1 x5_1 x10_1 (l0.length : Int) x10_1 t107)) else (spec_PrintsBoth.j1 k1 l0 l1 x5_1 x10_1 (l0.length : Int) x10_1 false)) = some r := by rw [if_pos rfl] at H; exact H
                  clear H
                  have H := H1
                  clear H1
                  by_cases c10 : (x5_1.length : Int) > 0
                  · rw [if_pos c10] at H
                    have c10b0 : decide (0 < (x5_1.length : Int)) = true := decide_eq_true c10
                    have c10b1 : decide (0 < x5_1.length) = true := decide_eq_true (by omega)
                    clear c10
                    (first | rw [c10b0] | (simp only [i64_w, i32_w]; rw [c10b0]) | skip)
                    have c11b0 := eq_true (of_decide_eq_true (by first | (with_reducible assumption) | assumption) : 0 ≤ x10_1)
                    have c12b0 := eq_true (of_decide_eq_true (by first | (with_reducible assumption) | assumption) : x10_1 ≤ (wrap64 (x10_1 + 1)))
                    have c13b0 := eq_true (of_decide_eq_true (by first | (with_reducible assumption) | assumption) : (wrap64 (x10_1 + 1)) ≤ (l0.length : Int))
                    replace H := Option.bind_eq_some_iff.mp H
                    obtain ⟨t107, A140, H⟩ := H
                    replace H : (spec_PrintsBoth.j1 k1 l0 l1 x5_1 x10_1 (l0.length : Int) x10_1 t107) = some r := H
                    have A14 := Aside0.mk A140
                    clear A140
                    have H' := Aside0.mk H
                    clear H
                    obtain ⟨i015, hi015, _, hsz15, _⟩ := info_parts info24
                    obtain ⟨A15, hcut15, hA15, hC15⟩ := print_mid_of (P := Try.prog) (Value.int .u64) 0 22 24 .i64 .i64 Try.underlying22 hi015 hsz15 A0 c0 l0 x10_1 (wrap64 (x10_1 + 1)) (of_decide_eq_true (by first | (with_reducible assumption) | assumption)) (by first | omega | exact of_decide_eq_true (by first | (with_reducible assumption) | assumption)) (of_decide_eq_true (by first | (with_reducible assumption) | assumption)) HC0.out
                    have HR104 := Aside0.mk (Kd.C_of_reads (h1 := fun _ => rfl) (hA15 _ (Kd.reads_of_C HR0.out)))
                    have HC104 := Aside0.mk hC15
                    clear hA15 hC15 hi015 hsz15
                    go_wp2_with (first | ((with_reducible refine gate_callee (f := 21) rfl ?_); refine goesL_ (some 19) rfl rfl Try.func21 (by kernel_rfl) rfl #[.slice A15 ((l0.take ((wrap64 (x10_1 + 1)) : Int).toNat).drop (x10_1 : Int).toNat).length (c0 - x10_1.toNat), .slice A1 l1.length c1] rfl (by (try simp only [List.map_toArray, List.map_cons, List.map_nil]); first | done | (rw [show ((l0.take ((wrap64 (x10_1 + 1)) : Int).toNat).drop (x10_1 : Int).toNat).length = ((wrap64 (x10_1 + 1)).toNat - x10_1.toNat) from (by rw [List.length_drop, List.length_take]; have h_ : ((wrap64 (x10_1 + 1)) : Int) ≤ (l0.length : Int) := of_decide_eq_true (by first | (with_reducible assumption) | assumption); omega)] <;> rfl) | rfl | (simp only [List.length_drop, List.length_take]; rfl)) ?_; (with_reducible refine (spec_allIn.calls k1 _ _ ((l0.take ((wrap64 (x10_1 + 1)) : Int).toNat).drop (x10_1 : Int).toNat) _ _ l1 true _ ?side1 ?side2 ?side3 ?side4 A8.out).mono ?_); (case side1 => repeat (first | exact (Kd.C_below HR104.out HB.out) | (with_reducible refine Kd.C_alloc ?_ _) | (with_reducible refine Kd.C_drewN ?_ _) | (with_reducible refine Kd.C_drew ?_))); (case side2 => exact HC104.out); (case side3 => repeat (first | exact (Kd.C_below HR1.out HB.out) | (with_reducible refine Kd.C_alloc ?_ _) | (with_reducible refine Kd.C_drewN ?_ _) | (with_reducible refine Kd.C_drew ?_))); (case side4 => exact HC1.out); rintro e w' ⟨rfl, ⟨nd, rfl⟩⟩; refine ⟨_, rfl, ?_⟩; obtain ⟨Ao16, co16, eo16⟩ := Kd.R_slice HO_5.out; subst eo16; obtain ⟨i017, hi017, _, hsz17, _⟩ := info_parts info24; obtain ⟨A17, hcut17, hA17, hC17⟩ := print_mid_of (P := Try.prog) (Value.int .u64) 0 22 24 .i64 .i64 Try.underlying22 hi017 hsz17 A0 c0 l0 x10_1 (wrap64 (x10_1 + 1)) (of_decide_eq_true (by first | (with_reducible assumption) | assumption)) (by first | omega | exact of_decide_eq_true (by first | (with_reducible assumption) | assumption)) (of_decide_eq_true (by first | (with_reducible assumption) | assumption)) HC0.out; have HR106 := Aside0.mk (Kd.C_of_reads (h1 := fun _ => rfl) (hA17 _ (Kd.reads_of_C HR0.out))); have HC106 := Aside0.mk hC17; clear hA17 hC17 hi017 hsz17) | (go_at_call 21; have e18 := spec_allIn.calls k1 A15 (c0 - x10_1.toNat) ((l0.take ((wrap64 (x10_1 + 1)) : Int).toNat).drop (x10_1 : Int).toNat) Ao16 co16 x5_1 t107 (wr.drewN nd) (Kd.C_drewN (Kd.C_below HR104.out HB.out) _) HC104.out (Kd.C_drewN (Kd.R_reads' HO_5.out).2.2 _) (Kd.R_reads' HO_5.out).2.1 A14.out; rw [show ((l0.take ((wrap64 (x10_1 + 1)) : Int).toNat).drop (x10_1 : Int).toNat).length = ((wrap64 (x10_1 + 1)).toNat - x10_1.toNat) from (by rw [List.length_drop, List.length_take]; have h_ : ((wrap64 (x10_1 + 1)) : Int) ≤ (l0.length : Int) := of_decide_eq_true (by first | (with_reducible assumption) | assumption); omega)] at e18; refine e18.mono ?_; clear e18; rintro e w' ⟨rfl, ⟨nd, rfl⟩⟩))
                    go_meet
                    case rel => exact ⟨_, (t107), (by first | rfl | (simp; done) | (simp [*]; done)), H', ⟨by have := HK1.out; first | omega | exact Nat.le_refl _⟩, ⟨by (with_reducible repeat (first | apply Kd.R_alloc | apply Kd.R_drewN | apply Kd.R_drew)); exact HO_5.out⟩, ⟨by repeat (first | (with_reducible first | exact HB.out | apply below_alloc | apply pw_below_drewN | apply below_drew1) | exact HB.out)⟩⟩
                  · rw [if_neg c10] at H
                    have c10b0 : decide (0 < (x5_1.length : Int)) = false := decide_eq_false c10
                    have c10b1 : decide (0 < x5_1.length) = false := decide_eq_false (by omega)
                    clear c10
                    (first | rw [c10b0] | (simp only [i64_w, i32_w]; rw [c10b0]) | skip)
                    have H' := Aside0.mk H
                    clear H
                    obtain ⟨i018, hi018, _, hsz18, _⟩ := info_parts info24
                    obtain ⟨A18, hcut18, hA18, hC18⟩ := print_mid_of (P := Try.prog) (Value.int .u64) 0 22 24 .i64 .i64 Try.underlying22 hi018 hsz18 A0 c0 l0 x10_1 (wrap64 (x10_1 + 1)) (of_decide_eq_true (by first | (with_reducible assumption) | assumption)) (by first | omega | exact of_decide_eq_true (by first | (with_reducible assumption) | assumption)) (of_decide_eq_true (by first | (with_reducible assumption) | assumption)) HC0.out
                    have HR104 := Aside0.mk (Kd.C_of_reads (h1 := fun _ => rfl) (hA18 _ (Kd.reads_of_C HR0.out)))
                    have HC104 := Aside0.mk hC18
                    clear hA18 hC18 hi018 hsz18
                    go_wp2_with (first | ((with_reducible refine gate_callee (f := 21) rfl ?_); refine goesL_ (some 19) rfl rfl Try.func21 (by kernel_rfl) rfl #[.slice A18 ((l0.take ((wrap64 (x10_1 + 1)) : Int).toNat).drop (x10_1 : Int).toNat).length (c0 - x10_1.toNat), .slice A1 l1.length c1] rfl (by (try simp only [List.map_toArray, List.map_cons, List.map_nil]); first | done | (rw [show ((l0.take ((wrap64 (x10_1 + 1)) : Int).toNat).drop (x10_1 : Int).toNat).length = ((wrap64 (x10_1 + 1)).toNat - x10_1.toNat) from (by rw [List.length_drop, List.length_take]; have h_ : ((wrap64 (x10_1 + 1)) : Int) ≤ (l0.length : Int) := of_decide_eq_true (by first | (with_reducible assumption) | assumption); omega)] <;> rfl) | rfl | (simp only [List.length_drop, List.length_take]; rfl)) ?_; (with_reducible refine (spec_allIn.calls k1 _ _ ((l0.take ((wrap64 (x10_1 + 1)) : Int).toNat).drop (x10_1 : Int).toNat) _ _ l1 true _ ?side1 ?side2 ?side3 ?side4 A8.out).mono ?_); (case side1 => repeat (first | exact (Kd.C_below HR104.out HB.out) | (with_reducible refine Kd.C_alloc ?_ _) | (with_reducible refine Kd.C_drewN ?_ _) | (with_reducible refine Kd.C_drew ?_))); (case side2 => exact HC104.out); (case side3 => repeat (first | exact (Kd.C_below HR1.out HB.out) | (with_reducible refine Kd.C_alloc ?_ _) | (with_reducible refine Kd.C_drewN ?_ _) | (with_reducible refine Kd.C_drew ?_))); (case side4 => exact HC1.out); rintro e w' ⟨rfl, ⟨nd, rfl⟩⟩; refine ⟨_, rfl, ?_⟩; obtain ⟨Ao19, co19, eo19⟩ := Kd.R_slice HO_5.out; subst eo19))
                    go_meet
                    case rel => exact ⟨_, (false), (by first | rfl | (simp; done) | (simp [*]; done)), H', ⟨by have := HK1.out; first | omega | exact Nat.le_refl _⟩, ⟨by (with_reducible repeat (first | apply Kd.R_alloc | apply Kd.R_drewN | apply Kd.R_drew)); exact HO_5.out⟩, ⟨by repeat (first | (with_reducible first | exact HB.out | apply below_alloc | apply pw_below_drewN | apply below_drew1) | exact HB.out)⟩⟩
                · replace c9 := Bool.eq_false_iff.mpr c9
                  subst c9
                  have H1 : (spec_PrintsBoth.j1 k1 l0 l1 x5_1 x10_1 (l0.length : Int) x10_1 true) = some r := by rw [if_neg (show ¬ (false = true) by decide)] at H; exact H
                  clear H
                  have H := H1
                  clear H1
                  have H' := Aside0.mk H
                  clear H
                  obtain ⟨i020, hi020, _, hsz20, _⟩ := info_parts info24
                  obtain ⟨A20, hcut20, hA20, hC20⟩ := print_mid_of (P := Try.prog) (Value.int .u64) 0 22 24 .i64 .i64 Try.underlying22 hi020 hsz20 A0 c0 l0 x10_1 (wrap64 (x10_1 + 1)) (of_decide_eq_true (by first | (with_reducible assumption) | assumption)) (by first | omega | exact of_decide_eq_true (by first | (with_reducible assumption) | assumption)) (of_decide_eq_true (by first | (with_reducible assumption) | assumption)) HC0.out
                  have HR104 := Aside0.mk (Kd.C_of_reads (h1 := fun _ => rfl) (hA20 _ (Kd.reads_of_C HR0.out)))
                  have HC104 := Aside0.mk hC20
                  clear hA20 hC20 hi020 hsz20
                  go_wp2_with (first | ((with_reducible refine gate_callee (f := 21) rfl ?_); refine goesL_ (some 19) rfl rfl Try.func21 (by kernel_rfl) rfl #[.slice A20 ((l0.take ((wrap64 (x10_1 + 1)) : Int).toNat).drop (x10_1 : Int).toNat).length (c0 - x10_1.toNat), .slice A1 l1.length c1] rfl (by (try simp only [List.map_toArray, List.map_cons, List.map_nil]); first | done | (rw [show ((l0.take ((wrap64 (x10_1 + 1)) : Int).toNat).drop (x10_1 : Int).toNat).length = ((wrap64 (x10_1 + 1)).toNat - x10_1.toNat) from (by rw [List.length_drop, List.length_take]; have h_ : ((wrap64 (x10_1 + 1)) : Int) ≤ (l0.length : Int) := of_decide_eq_true (by first | (with_reducible assumption) | assumption); omega)] <;> rfl) | rfl | (simp only [List.length_drop, List.length_take]; rfl)) ?_; (with_reducible refine (spec_allIn.calls k1 _ _ ((l0.take ((wrap64 (x10_1 + 1)) : Int).toNat).drop (x10_1 : Int).toNat) _ _ l1 false _ ?side1 ?side2 ?side3 ?side4 A8.out).mono ?_); (case side1 => repeat (first | exact (Kd.C_below HR104.out HB.out) | (with_reducible refine Kd.C_alloc ?_ _) | (with_reducible refine Kd.C_drewN ?_ _) | (with_reducible refine Kd.C_drew ?_))); (case side2 => exact HC104.out); (case side3 => repeat (first | exact (Kd.C_below HR1.out HB.out) | (with_reducible refine Kd.C_alloc ?_ _) | (with_reducible refine Kd.C_drewN ?_ _) | (with_reducible refine Kd.C_drew ?_))); (case side4 => exact HC1.out); rintro e w' ⟨rfl, ⟨nd, rfl⟩⟩; refine ⟨_, rfl, ?_⟩))
                  go_meet
                  case rel => exact ⟨_, (true), (by first | rfl | (simp; done) | (simp [*]; done)), H', ⟨by have := HK1.out; first | omega | exact Nat.le_refl _⟩, ⟨by (with_reducible repeat (first | apply Kd.R_alloc | apply Kd.R_drewN | apply Kd.R_drew)); exact HO_5.out⟩, ⟨by repeat (first | (with_reducible first | exact HB.out | apply below_alloc | apply pw_below_drewN | apply below_drew1) | exact HB.out)⟩⟩
              · rw [if_neg c7] at H
                exact absurd H (by simp)
            · rw [if_neg c6] at H
              exact absurd H (by simp)
          · rw [if_neg c5] at H
            exact absurd H (by simp)
        case rest =>
          clear HC4
          try clear c1
          try clear c2
          try clear p2
          try clear c3
          try clear c3b0
          try clear c5
          try clear c5b0
          try clear c5b1
          try clear c6
          try clear c6b0
          try clear c6b1
          try clear p6
          try clear c7
          try clear c7b0
          try clear c7b1
          try clear c9
          try clear c10
          try clear c10b0
          try clear c10b1
          try clear c11
          try clear c11b0
          try clear c12
          try clear c12b0
          try clear c13
          try clear c13b0
          try clear p2
          obtain ⟨kq, x34_3, rfl, HA, HJ3, HO_5, HB⟩ := hcut
          cases kq with
          | zero => exact absurd HA.out (by simp [spec_PrintsBoth.j1])
          | succ kj3 =>
            have H := HA.out
            clear HA
            simp only [spec_PrintsBoth.j1] at H
            by_cases c21 : x34_3 = true
            · subst c21
              have H1 : (spec_PrintsBoth.l0 kj3 l0 l1 x5_1 (l0.length : Int) (wrap64 (x10_1 + 1))) = some r := by rw [if_pos rfl] at H; exact H
              clear H
              have H := H1
              clear H1
              have H' := Aside0.mk H
              clear H
              go_wp2
              go_roundg kj3
              case measure => have := HK1.out; have := HJ3.out; omega
              case rel => exact ⟨(x5_1), (wrap64 (x10_1 + 1)), (by first | rfl | (simp; done) | (simp [*]; done)), H', ⟨by have := HK1.out; have := HJ3.out; omega⟩, ⟨by (with_reducible repeat (first | apply Kd.R_alloc | apply Kd.R_drewN | apply Kd.R_drew)); exact HO_5.out⟩, ⟨by repeat (first | (with_reducible first | exact HB.out | apply below_alloc | apply pw_below_drewN | apply below_drew1) | exact HB.out)⟩⟩
            · replace c21 := Bool.eq_false_iff.mpr c21
              subst c21
              have H1 : (spec_PrintsBoth.l1 kj3 l0 l1 x5_1 x10_1 0 (l0.length : Int) x10_1) = some r := by rw [if_neg (show ¬ (false = true) by decide)] at H; exact H
              clear H
              have H := H1
              clear H1
              have H' := Aside0.mk H
              clear H
              go_wp2
              go_loopg [7] kj3 (fun kq v7 w' => ∃ (x7_3 : Int), v7 = .int .i64 x7_3 ∧ Aside0 (spec_PrintsBoth.l1 kq l0 l1 x5_1 x10_1 x7_3 (l0.length : Int) x10_1 = some r) ∧ Aside0 (kq ≤ kj3) ∧ Aside0 (Kd.R (Kd.int .u64) 24 w' w.heap.size (fun _ => True) u5 x5_1) ∧ Aside0 (Below w.heap.size w w'))
              case atStart => exact ⟨(0), (by first | rfl | (simp; done) | (simp [*]; done)), H', ⟨Nat.le_refl _⟩, ⟨by (with_reducible repeat (first | apply Kd.R_alloc | apply Kd.R_drewN | apply Kd.R_drew)); exact HO_5.out⟩, ⟨by repeat (first | (with_reducible first | exact HB.out | apply below_alloc | apply pw_below_drewN | apply below_drew1) | exact HB.out)⟩⟩
              case round =>
                clear H'
                try clear c1
                try clear c2
                try clear p2
                try clear c3
                try clear c3b0
                try clear c5
                try clear c5b0
                try clear c5b1
                try clear c6
                try clear c6b0
                try clear c6b1
                try clear p6
                try clear c7
                try clear c7b0
                try clear c7b1
                try clear c9
                try clear c10
                try clear c10b0
                try clear c10b1
                try clear c11
                try clear c11b0
                try clear c12
                try clear c12b0
                try clear c13
                try clear c13b0
                try clear c21
                try clear p2
                try clear p6
                obtain ⟨x7_3, rfl, HA, HK3, HO_5, HB⟩ := hrel
                cases gk with
                | zero => exact absurd HA.out (by simp [spec_PrintsBoth.l1])
                | succ k3 =>
                  have H := HA.out
                  clear HA
                  simp only [spec_PrintsBoth.l1] at H
                  by_cases c22 : x7_3 < (x5_1.length : Int)
                  · rw [if_pos c22] at H
                    have c22b0 : decide (x7_3 < (x5_1.length : Int)) = true := decide_eq_true c22
                    clear c22
                    by_cases c23 : 0 ≤ x7_3
                    · rw [if_pos c23] at H
                      have c23b0 : decide (0 ≤ x7_3) = true := decide_eq_true c23
                      clear c23
                      by_cases c24 : 0 ≤ x10_1
                      · rw [if_pos c24] at H
                        have c24b0 : decide (0 ≤ x10_1) = true := decide_eq_true c24
                        clear c24
                        by_cases c25 : x10_1 < (l0.length : Int)
                        · rw [if_pos c25] at H
                          have c25b0 : decide (x10_1 < (l0.length : Int)) = true := decide_eq_true c25
                          clear c25
                          by_cases c26 : (rd x5_1 x7_3) < (rd l0 x10_1)
                          · rw [if_pos c26] at H
                            have c26b0 : decide ((rd x5_1 x7_3) < (rd l0 x10_1)) = true := decide_eq_true c26
                            clear c26
                            have H' := Aside0.mk H
                            clear H
                            try go_wp2
                            have n0_ := Aside0.mk (Kd.R_drew HO_5.out)
                            have n1_ := Aside0.mk (below_drew1 HB.out)
                            clear HO_5
                            clear HB
                            have HO_5 := n0_
                            have HB := n1_
                            clear n0_ n1_
                            obtain ⟨Ao28, co28, eo28⟩ := Kd.R_slice HO_5.out
                            (first | subst eo28 | (injection eo28 with f1_ f2_ f3_; have f4_ := f1_.symm; have f5_ := f3_.symm; clear f1_ f2_ f3_; subst f4_; subst f5_))
                            have p108 : 0 ≤ (x7_3 : Int) := of_decide_eq_true (by first | (with_reducible assumption) | assumption)
                            have q108 : x7_3 < (x5_1.length : Int) := of_decide_eq_true (by first | (with_reducible assumption) | assumption)
                            obtain ⟨ad108, e108, hx108_0⟩ := Kd.at_int (Kd.R_reads' HO_5.out).2.2 x7_3 p108 q108
                            cases e108
                            replace p108 := eq_true p108
                            replace q108 := eq_true q108
                            have p109 : 0 ≤ (x10_1 : Int) := of_decide_eq_true (by first | (with_reducible assumption) | assumption)
                            have q109 : x10_1 < (l0.length : Int) := of_decide_eq_true (by first | (with_reducible assumption) | assumption)
                            obtain ⟨ad109, e109, hx109_0⟩ := Kd.at_int HR0.out x10_1 p109 q109
                            have hw109_0 := hx109_0
                            cases e109
                            replace hx109_0 := (HB.out.cell (World.block_lt_of_cell? w _ hx109_0)).trans hx109_0
                            replace p109 := eq_true p109
                            replace q109 := eq_true q109
                            refine start_ (n := 15) (S := fun w' => w'.cell? (ad108.add (x7_3).toNat) = some (.int .u64 (rd x5_1 x7_3)) ∧ w'.cell? (ad109.add (x10_1).toNat) = some (.int .u64 (rd l0 x10_1))) (ds := []) #[false, false, false, false, false, false, false, false, false, false, false, false, false, false, false] (by kernel_rfl) rfl rfl ⟨hx108_0, ((HB.out.cell (World.block_lt_of_cell? w _ hw109_0)).trans hw109_0)⟩ (fun hHeld => ?_); refine with_tabW spec_PrintsBoth.tab7 spec_PrintsBoth.bits7 (fun HT_ HW_ => ?_)
                            generalize wr.drew = w27 at HO_5 HB hx108_0 hx109_0 hHeld ⊢
                            refine pure_ (i := 0) (N := some 35) (v := ?_) (a' := ?_) #[true, false, false, false, false, false, false, false, false, false, false, false, false, false, false] rfl rfl (any_of HT_.out (by kernel_rfl)) (fun _ _ _ h => h) (Or.inl ⟨by rfl, ?_⟩) ?_ ?_
                            rotate_left
                            · intro w'
                              go_simp
                              with_reducible rfl
                            rotate_left
                            · simp only [Act.put, List.setIfInBounds_toArray, List.set_cons_zero, List.set_cons_succ, i64_w, i32_w]
                              rfl
                            refine pure_ (i := 1) (N := some 36) (v := ?_) (a' := ?_) #[true, true, false, false, false, false, false, false, false, false, false, false, false, false, false] rfl rfl (any_of HT_.out (by kernel_rfl)) (fun _ _ _ h => h) (Or.inl ⟨by rfl, ?_⟩) ?_ ?_
                            rotate_left
                            · intro w'
                              go_simp
                              with_reducible rfl
                            rotate_left
                            · simp only [Act.put, List.setIfInBounds_toArray, List.set_cons_zero, List.set_cons_succ, i64_w, i32_w]
                              rfl
                            refine pure_ (i := 2) (N := some 37) (v := ?_) (a' := ?_) #[true, true, true, false, false, false, false, false, false, false, false, false, false, false, false] rfl rfl (any_of HT_.out (by kernel_rfl)) (fun _ _ _ h => h) (Or.inl ⟨by rfl, ?_⟩) ?_ ?_
                            rotate_left
                            · intro w'
                              go_simp
                              with_reducible rfl
                            rotate_left
                            · simp only [Act.put, List.setIfInBounds_toArray, List.set_cons_zero, List.set_cons_succ, i64_w, i32_w]
                              rfl
                            refine pure_ (i := 3) (N := some 38) (v := ?_) (a' := ?_) #[true, true, true, true, false, false, false, false, false, false, false, false, false, false, false] rfl rfl (any_of HT_.out (by kernel_rfl)) (fun _ _ _ h => h) (Or.inl ⟨by rfl, ?_⟩) ?_ ?_
                            rotate_left
                            · intro w'
                              go_simp
                              with_reducible rfl
                            rotate_left
                            · simp only [Act.put, List.setIfInBounds_toArray, List.set_cons_zero, List.set_cons_succ, i64_w, i32_w]
                              rfl
                            refine pure_ (i := 4) (N := some 39) (v := ?_) (a' := ?_) #[true, true, true, true, true, false, false, false, false, false, false, false, false, false, false] rfl rfl (any_of HT_.out (by kernel_rfl)) (fun _ _ _ h => h) (Or.inl ⟨by rfl, ?_⟩) ?_ ?_
                            rotate_left
                            · intro w'
                              go_simp
                              with_reducible rfl
                            rotate_left
                            · simp only [Act.put, List.setIfInBounds_toArray, List.set_cons_zero, List.set_cons_succ, i64_w, i32_w]
                              rfl
                            refine pure_ (i := 5) (N := some 40) (v := ?_) (a' := ?_) #[true, true, true, true, true, true, false, false, false, false, false, false, false, false, false] rfl rfl (any_of HT_.out (by kernel_rfl)) (fun _ _ _ h => h) (Or.inl ⟨by rfl, ?_⟩) ?_ ?_
                            rotate_left
                            · intro w'
                              go_simp
                              with_reducible rfl
                            rotate_left
                            · simp only [Act.put, List.setIfInBounds_toArray, List.set_cons_zero, List.set_cons_succ, i64_w, i32_w]
                              rfl
                            refine pure_ (i := 6) (N := some 41) (v := ?_) (a' := ?_) #[true, true, true, true, true, true, true, false, false, false, false, false, false, false, false] rfl rfl (any_of HT_.out (by kernel_rfl)) (fun _ _ _ h => h) (Or.inl ⟨by rfl, ?_⟩) ?_ ?_
                            rotate_left
                            · intro w'
                              go_simp
                              with_reducible rfl
                            rotate_left
                            · simp only [Act.put, List.setIfInBounds_toArray, List.set_cons_zero, List.set_cons_succ, i64_w, i32_w]
                              rfl
                            refine pure_ (i := 7) (N := some 42) (v := ?_) (a' := ?_) #[true, true, true, true, true, true, true, true, false, false, false, false, false, false, false] rfl rfl (any_of HT_.out (by kernel_rfl)) (fun _ _ _ h => h) (Or.inl ⟨by rfl, ?_⟩) ?_ ?_
                            rotate_left
                            · intro w'
                              go_simp
                              with_reducible rfl
                            rotate_left
                            · simp only [Act.put, List.setIfInBounds_toArray, List.set_cons_zero, List.set_cons_succ, i64_w, i32_w]
                              rfl
                            refine pure_ (i := 9) (N := some 44) (v := ?_) (a' := ?_) #[true, true, true, true, true, true, true, true, false, true, false, false, false, false, false] rfl rfl (any_of HT_.out (by kernel_rfl)) (fun _ _ _ h => h) (Or.inl ⟨by rfl, ?_⟩) ?_ ?_
                            rotate_left
                            · intro w'
                              go_simp
                              with_reducible rfl
                            rotate_left
                            · simp only [Act.put, List.setIfInBounds_toArray, List.set_cons_zero, List.set_cons_succ, i64_w, i32_w]
                              rfl
                            refine pure_ (i := 10) (N := some 45) (v := ?_) (a' := ?_) #[true, true, true, true, true, true, true, true, false, true, true, false, false, false, false] rfl rfl (any_of HT_.out (by kernel_rfl)) (fun _ _ _ h => h) (Or.inl ⟨by rfl, ?_⟩) ?_ ?_
                            rotate_left
                            · intro w'
                              go_simp
                              with_reducible rfl
                            rotate_left
                            · simp only [Act.put, List.setIfInBounds_toArray, List.set_cons_zero, List.set_cons_succ, i64_w, i32_w]
                              rfl
                            refine pure_ (i := 11) (N := some 46) (v := ?_) (a' := ?_) #[true, true, true, true, true, true, true, true, false, true, true, true, false, false, false] rfl rfl (any_of HT_.out (by kernel_rfl)) (fun _ _ _ h => h) (Or.inl ⟨by rfl, ?_⟩) ?_ ?_
                            rotate_left
                            · intro w'
                              go_simp
                              with_reducible rfl
                            rotate_left
                            · simp only [Act.put, List.setIfInBounds_toArray, List.set_cons_zero, List.set_cons_succ, i64_w, i32_w]
                              rfl
                            refine take_ (i := 8) (N := some 43) (v := ?_) (a' := ?_) #[true, true, true, true, true, true, true, true, true, true, true, true, false, false, false] rfl rfl (take_ofW HT_.out HW_.out (by kernel_rfl)) (fun _ _ _ h => h) (Or.inl ⟨by rfl, ?_⟩) hHeld ?_ ?_
                            rotate_left
                            · rintro w' ⟨s0, s1⟩
                              go_simp
                              with_reducible rfl
                            rotate_left
                            · simp only [Act.put, List.setIfInBounds_toArray, List.set_cons_zero, List.set_cons_succ, i64_w, i32_w]
                              rfl
                            refine take_ (i := 12) (N := some 47) (v := ?_) (a' := ?_) #[true, true, true, true, true, true, true, true, true, true, true, true, true, false, false] rfl rfl (take_ofW HT_.out HW_.out (by kernel_rfl)) (fun _ _ _ h => h) (Or.inl ⟨by rfl, ?_⟩) hHeld ?_ ?_
                            rotate_left
                            · rintro w' ⟨s0, s1⟩
                              go_simp
                              with_reducible rfl
                            rotate_left
                            · simp only [Act.put, List.setIfInBounds_toArray, List.set_cons_zero, List.set_cons_succ, i64_w, i32_w]
                              rfl
                            refine pure_ (i := 13) (N := some 48) (v := ?_) (a' := ?_) #[true, true, true, true, true, true, true, true, true, true, true, true, true, true, false] rfl rfl (any_of HT_.out (by kernel_rfl)) (fun _ _ _ h => h) (Or.inl ⟨by rfl, ?_⟩) ?_ ?_
                            rotate_left
                            · intro w'
                              go_simp
                              with_reducible rfl
                            rotate_left
                            · simp only [Act.put, List.setIfInBounds_toArray, List.set_cons_zero, List.set_cons_succ, i64_w, i32_w]
                              rfl
                            refine pure_ (i := 14) (N := some 49) (v := ?_) (a' := ?_) #[true, true, true, true, true, true, true, true, true, true, true, true, true, true, true] rfl rfl (any_of HT_.out (by kernel_rfl)) (fun _ _ _ h => h) (Or.inl ⟨by rfl, ?_⟩) ?_ ?_
                            rotate_left
                            · intro w'
                              go_simp
                              with_reducible rfl
                            rotate_left
                            · simp only [Act.put, List.setIfInBounds_toArray, List.set_cons_zero, List.set_cons_succ, i64_w, i32_w]
                              rfl
                            refine done_ (done_of HT_.out (by kernel_rfl)) ?_
                            try go_wp2
                            go_roundg k3
                            case measure => have := HK1.out; have := HJ3.out; have := HK3.out; omega
                            case rel => exact ⟨(wrap64 (x7_3 + 1)), (by first | rfl | (simp; done) | (simp [*]; done)), H', ⟨by have := HK1.out; have := HJ3.out; have := HK3.out; omega⟩, ⟨by (with_reducible repeat (first | apply Kd.R_alloc | apply Kd.R_drewN | apply Kd.R_drew)); exact HO_5.out⟩, ⟨by repeat (first | (with_reducible first | exact HB.out | apply below_alloc | apply pw_below_drewN | apply below_drew1) | exact HB.out)⟩⟩
                          · rw [if_neg c26] at H
                            have c26b0 : decide ((rd x5_1 x7_3) < (rd l0 x10_1)) = false := decide_eq_false c26
                            clear c26
                            obtain ⟨y110, hy110⟩ : ∃ y_ : List Int, y_ = (([] : List Int)) := ⟨_, rfl⟩
                            replace H : (if x7_3 ≤ (x5_1.length : Int) then ((some (x5_1.take (x7_3 : Int).toNat : List Int)).bind fun y113 => (if y110.length + y113.length < 17592186044416 then ((some (y110 ++ y113 : List Int)).bind fun y117 => ((some (([rd l0 x10_1] : List Int) : List Int)).bind fun y121 => (if y117.length + y121.length < 17592186044416 then ((some (y117 ++ y121 : List Int)).bind fun y124 => ((some (x5_1.drop (x7_3 : Int).toNat : List Int)).bind fun y127 => (if y124.length + y127.length < 17592186044416 then (spec_PrintsBoth.l0 k3 l0 l1 (y124 ++ y127) (l0.length : Int) (wrap64 (x10_1 + 1))) else (none)))) else (none)))) else (none))) else (none)) = some r := by first | (rw [hy110]; with_reducible exact H) | (have H2_ := (Option.bind_some _ _).symm.trans H; rw [hy110]; with_reducible exact H2_) | (have H2_ := (Option.bind_some _ _).symm.trans H; with_reducible exact H2_) | with_reducible exact H | (rw [hy110]; exact H) | exact H
                            have Ny110 := Aside0.mk hy110
                            clear hy110
                            have c29b0 := eq_true (of_decide_eq_true (by first | (with_reducible assumption) | assumption) : 0 ≤ x7_3)
                            by_cases c30 : x7_3 ≤ (x5_1.length : Int)
                            · rw [if_pos c30] at H
                              have c30b0 := eq_true c30
                              have c30b1 : decide (x7_3 ≤ (x5_1.length : Int)) = true := decide_eq_true c30
                              clear c30
                              obtain ⟨y113, hy113⟩ : ∃ y_ : List Int, y_ = (x5_1.take (x7_3 : Int).toNat) := ⟨_, rfl⟩
                              replace H : (if y110.length + y113.length < 17592186044416 then ((some (y110 ++ y113 : List Int)).bind fun y117 => ((some (([rd l0 x10_1] : List Int) : List Int)).bind fun y121 => (if y117.length + y121.length < 17592186044416 then ((some (y117 ++ y121 : List Int)).bind fun y124 => ((some (x5_1.drop (x7_3 : Int).toNat : List Int)).bind fun y127 => (if y124.length + y127.length < 17592186044416 then (spec_PrintsBoth.l0 k3 l0 l1 (y124 ++ y127) (l0.length : Int) (wrap64 (x10_1 + 1))) else (none)))) else (none)))) else (none)) = some r := by first | (rw [hy113]; with_reducible exact H) | (have H2_ := (Option.bind_some _ _).symm.trans H; rw [hy113]; with_reducible exact H2_) | (have H2_ := (Option.bind_some _ _).symm.trans H; with_reducible exact H2_) | with_reducible exact H | (rw [hy113]; exact H) | exact H
                              have Ny113 := Aside0.mk hy113
                              clear hy113
                              by_cases c31 : y110.length + y113.length < 17592186044416
                              · rw [if_pos c31] at H
                                have LMc31 := Aside0.mk c31
                                clear c31
                                obtain ⟨y117, hy117⟩ : ∃ y_ : List Int, y_ = (y110 ++ y113) := ⟨_, rfl⟩
                                replace H : ((some (([rd l0 x10_1] : List Int) : List Int)).bind fun y121 => (if y117.length + y121.length < 17592186044416 then ((some (y117 ++ y121 : List Int)).bind fun y124 => ((some (x5_1.drop (x7_3 : Int).toNat : List Int)).bind fun y127 => (if y124.length + y127.length < 17592186044416 then (spec_PrintsBoth.l0 k3 l0 l1 (y124 ++ y127) (l0.length : Int) (wrap64 (x10_1 + 1))) else (none)))) else (none))) = some r := by first | (rw [hy117]; with_reducible exact H) | (have H2_ := (Option.bind_some _ _).symm.trans H; rw [hy117]; with_reducible exact H2_) | (have H2_ := (Option.bind_some _ _).symm.trans H; with_reducible exact H2_) | with_reducible exact H | (rw [hy117]; exact H) | exact H
                                have Ny117 := Aside0.mk hy117
                                clear hy117
                                obtain ⟨y121, hy121⟩ : ∃ y_ : List Int, y_ = (([rd l0 x10_1] : List Int)) := ⟨_, rfl⟩
                                replace H : (if y117.length + y121.length < 17592186044416 then ((some (y117 ++ y121 : List Int)).bind fun y124 => ((some (x5_1.drop (x7_3 : Int).toNat : List Int)).bind fun y127 => (if y124.length + y127.length < 17592186044416 then (spec_PrintsBoth.l0 k3 l0 l1 (y124 ++ y127) (l0.length : Int) (wrap64 (x10_1 + 1))) else (none)))) else (none)) = some r := by first | (rw [hy121]; with_reducible exact H) | (have H2_ := (Option.bind_some _ _).symm.trans H; rw [hy121]; with_reducible exact H2_) | (have H2_ := (Option.bind_some _ _).symm.trans H; with_reducible exact H2_) | with_reducible exact H | (rw [hy121]; exact H) | exact H
                                have Ny121 := Aside0.mk hy121
                                clear hy121
                                by_cases c32 : y117.length + y121.length < 17592186044416
                                · rw [if_pos c32] at H
                                  have LMc32 := Aside0.mk c32
                                  clear c32
                                  obtain ⟨y124, hy124⟩ : ∃ y_ : List Int, y_ = (y117 ++ y121) := ⟨_, rfl⟩
                                  replace H : ((some (x5_1.drop (x7_3 : Int).toNat : List Int)).bind fun y127 => (if y124.length + y127.length < 17592186044416 then (spec_PrintsBoth.l0 k3 l0 l1 (y124 ++ y127) (l0.length : Int) (wrap64 (x10_1 + 1))) else (none))) = some r := by first | (rw [hy124]; with_reducible exact H) | (have H2_ := (Option.bind_some _ _).symm.trans H; rw [hy124]; with_reducible exact H2_) | (have H2_ := (Option.bind_some _ _).symm.trans H; with_reducible exact H2_) | with_reducible exact H | (rw [hy124]; exact H) | exact H
                                  have Ny124 := Aside0.mk hy124
                                  clear hy124
                                  have c33b0 := eq_true (of_decide_eq_true (by first | (with_reducible assumption) | assumption) : 0 ≤ x7_3)
                                  have c34b0 := eq_true (of_decide_eq_true (by first | (with_reducible assumption) | assumption) : x7_3 ≤ (x5_1.length : Int))
                                  obtain ⟨y127, hy127⟩ : ∃ y_ : List Int, y_ = (x5_1.drop (x7_3 : Int).toNat) := ⟨_, rfl⟩
                                  replace H : (if y124.length + y127.length < 17592186044416 then (spec_PrintsBoth.l0 k3 l0 l1 (y124 ++ y127) (l0.length : Int) (wrap64 (x10_1 + 1))) else (none)) = some r := by first | (rw [hy127]; with_reducible exact H) | (have H2_ := (Option.bind_some _ _).symm.trans H; rw [hy127]; with_reducible exact H2_) | (have H2_ := (Option.bind_some _ _).symm.trans H; with_reducible exact H2_) | with_reducible exact H | (rw [hy127]; exact H) | exact H
                                  have Ny127 := Aside0.mk hy127
                                  clear hy127
                                  by_cases c35 : y124.length + y127.length < 17592186044416
                                  · rw [if_pos c35] at H
                                    have LMc35 := Aside0.mk c35
                                    clear c35
                                    obtain ⟨y131, hy131⟩ : ∃ y_ : List Int, y_ = (y124 ++ y127) := ⟨_, rfl⟩
                                    replace H : (spec_PrintsBoth.l0 k3 l0 l1 y131 (l0.length : Int) (wrap64 (x10_1 + 1))) = some r := by first | (rw [hy131]; with_reducible exact H) | (have H2_ := (Option.bind_some _ _).symm.trans H; rw [hy131]; with_reducible exact H2_) | (have H2_ := (Option.bind_some _ _).symm.trans H; with_reducible exact H2_) | with_reducible exact H | (rw [hy131]; exact H) | exact H
                                    have Ny131 := Aside0.mk hy131
                                    clear hy131
                                    have H' := Aside0.mk H
                                    clear H
                                    try go_wp2
                                    have n0_ := Aside0.mk (Kd.R_drew HO_5.out)
                                    have n1_ := Aside0.mk (below_drew1 HB.out)
                                    clear HO_5
                                    clear HB
                                    have HO_5 := n0_
                                    have HB := n1_
                                    clear n0_ n1_
                                    obtain ⟨Ao37, co37, eo37⟩ := Kd.R_slice HO_5.out
                                    (first | subst eo37 | (injection eo37 with f1_ f2_ f3_; have f4_ := f1_.symm; have f5_ := f3_.symm; clear f1_ f2_ f3_; subst f4_; subst f5_))
                                    have p108 : 0 ≤ (x7_3 : Int) := of_decide_eq_true (by first | (with_reducible assumption) | assumption)
                                    have q108 : x7_3 < (x5_1.length : Int) := of_decide_eq_true (by first | (with_reducible assumption) | assumption)
                                    obtain ⟨ad108, e108, hx108_0⟩ := Kd.at_int (Kd.R_reads' HO_5.out).2.2 x7_3 p108 q108
                                    cases e108
                                    replace p108 := eq_true p108
                                    replace q108 := eq_true q108
                                    have p109 : 0 ≤ (x10_1 : Int) := of_decide_eq_true (by first | (with_reducible assumption) | assumption)
                                    have q109 : x10_1 < (l0.length : Int) := of_decide_eq_true (by first | (with_reducible assumption) | assumption)
                                    obtain ⟨ad109, e109, hx109_0⟩ := Kd.at_int HR0.out x10_1 p109 q109
                                    have hw109_0 := hx109_0
                                    cases e109
                                    replace hx109_0 := (HB.out.cell (World.block_lt_of_cell? w _ hx109_0)).trans hx109_0
                                    replace p109 := eq_true p109
                                    replace q109 := eq_true q109
                                    refine start_ (n := 15) (S := fun w' => w'.cell? (ad108.add (x7_3).toNat) = some (.int .u64 (rd x5_1 x7_3)) ∧ w'.cell? (ad109.add (x10_1).toNat) = some (.int .u64 (rd l0 x10_1))) (ds := []) #[false, false, false, false, false, false, false, false, false, false, false, false, false, false, false] (by kernel_rfl) rfl rfl ⟨hx108_0, ((HB.out.cell (World.block_lt_of_cell? w _ hw109_0)).trans hw109_0)⟩ (fun hHeld => ?_); refine with_tabW spec_PrintsBoth.tab7 spec_PrintsBoth.bits7 (fun HT_ HW_ => ?_)
                                    generalize wr.drew = w36 at HO_5 HB hx108_0 hx109_0 hHeld ⊢
                                    refine pure_ (i := 0) (N := some 35) (v := ?_) (a' := ?_) #[true, false, false, false, false, false, false, false, false, false, false, false, false, false, false] rfl rfl (any_of HT_.out (by kernel_rfl)) (fun _ _ _ h => h) (Or.inl ⟨by rfl, ?_⟩) ?_ ?_
                                    rotate_left
                                    · intro w'
                                      go_simp
                                      with_reducible rfl
                                    rotate_left
                                    · simp only [Act.put, List.setIfInBounds_toArray, List.set_cons_zero, List.set_cons_succ, i64_w, i32_w]
                                      rfl
                                    refine pure_ (i := 1) (N := some 36) (v := ?_) (a' := ?_) #[true, true, false, false, false, false, false, false, false, false, false, false, false, false, false] rfl rfl (any_of HT_.out (by kernel_rfl)) (fun _ _ _ h => h) (Or.inl ⟨by rfl, ?_⟩) ?_ ?_
                                    rotate_left
                                    · intro w'
                                      go_simp
                                      with_reducible rfl
                                    rotate_left
                                    · simp only [Act.put, List.setIfInBounds_toArray, List.set_cons_zero, List.set_cons_succ, i64_w, i32_w]
                                      rfl
                                    refine pure_ (i := 2) (N := some 37) (v := ?_) (a' := ?_) #[true, true, true, false, false, false, false, false, false, false, false, false, false, false, false] rfl rfl (any_of HT_.out (by kernel_rfl)) (fun _ _ _ h => h) (Or.inl ⟨by rfl, ?_⟩) ?_ ?_
                                    rotate_left
                                    · intro w'
                                      go_simp
                                      with_reducible rfl
                                    rotate_left
                                    · simp only [Act.put, List.setIfInBounds_toArray, List.set_cons_zero, List.set_cons_succ, i64_w, i32_w]
                                      rfl
                                    refine pure_ (i := 3) (N := some 38) (v := ?_) (a' := ?_) #[true, true, true, true, false, false, false, false, false, false, false, false, false, false, false] rfl rfl (any_of HT_.out (by kernel_rfl)) (fun _ _ _ h => h) (Or.inl ⟨by rfl, ?_⟩) ?_ ?_
                                    rotate_left
                                    · intro w'
                                      go_simp
                                      with_reducible rfl
                                    rotate_left
                                    · simp only [Act.put, List.setIfInBounds_toArray, List.set_cons_zero, List.set_cons_succ, i64_w, i32_w]
                                      rfl
                                    refine pure_ (i := 4) (N := some 39) (v := ?_) (a' := ?_) #[true, true, true, true, true, false, false, false, false, false, false, false, false, false, false] rfl rfl (any_of HT_.out (by kernel_rfl)) (fun _ _ _ h => h) (Or.inl ⟨by rfl, ?_⟩) ?_ ?_
                                    rotate_left
                                    · intro w'
                                      go_simp
                                      with_reducible rfl
                                    rotate_left
                                    · simp only [Act.put, List.setIfInBounds_toArray, List.set_cons_zero, List.set_cons_succ, i64_w, i32_w]
                                      rfl
                                    refine pure_ (i := 5) (N := some 40) (v := ?_) (a' := ?_) #[true, true, true, true, true, true, false, false, false, false, false, false, false, false, false] rfl rfl (any_of HT_.out (by kernel_rfl)) (fun _ _ _ h => h) (Or.inl ⟨by rfl, ?_⟩) ?_ ?_
                                    rotate_left
                                    · intro w'
                                      go_simp
                                      with_reducible rfl
                                    rotate_left
                                    · simp only [Act.put, List.setIfInBounds_toArray, List.set_cons_zero, List.set_cons_succ, i64_w, i32_w]
                                      rfl
                                    refine pure_ (i := 6) (N := some 41) (v := ?_) (a' := ?_) #[true, true, true, true, true, true, true, false, false, false, false, false, false, false, false] rfl rfl (any_of HT_.out (by kernel_rfl)) (fun _ _ _ h => h) (Or.inl ⟨by rfl, ?_⟩) ?_ ?_
                                    rotate_left
                                    · intro w'
                                      go_simp
                                      with_reducible rfl
                                    rotate_left
                                    · simp only [Act.put, List.setIfInBounds_toArray, List.set_cons_zero, List.set_cons_succ, i64_w, i32_w]
                                      rfl
                                    refine pure_ (i := 7) (N := some 42) (v := ?_) (a' := ?_) #[true, true, true, true, true, true, true, true, false, false, false, false, false, false, false] rfl rfl (any_of HT_.out (by kernel_rfl)) (fun _ _ _ h => h) (Or.inl ⟨by rfl, ?_⟩) ?_ ?_
                                    rotate_left
                                    · intro w'
                                      go_simp
                                      with_reducible rfl
                                    rotate_left
                                    · simp only [Act.put, List.setIfInBounds_toArray, List.set_cons_zero, List.set_cons_succ, i64_w, i32_w]
                                      rfl
                                    refine pure_ (i := 9) (N := some 44) (v := ?_) (a' := ?_) #[true, true, true, true, true, true, true, true, false, true, false, false, false, false, false] rfl rfl (any_of HT_.out (by kernel_rfl)) (fun _ _ _ h => h) (Or.inl ⟨by rfl, ?_⟩) ?_ ?_
                                    rotate_left
                                    · intro w'
                                      go_simp
                                      with_reducible rfl
                                    rotate_left
                                    · simp only [Act.put, List.setIfInBounds_toArray, List.set_cons_zero, List.set_cons_succ, i64_w, i32_w]
                                      rfl
                                    refine pure_ (i := 10) (N := some 45) (v := ?_) (a' := ?_) #[true, true, true, true, true, true, true, true, false, true, true, false, false, false, false] rfl rfl (any_of HT_.out (by kernel_rfl)) (fun _ _ _ h => h) (Or.inl ⟨by rfl, ?_⟩) ?_ ?_
                                    rotate_left
                                    · intro w'
                                      go_simp
                                      with_reducible rfl
                                    rotate_left
                                    · simp only [Act.put, List.setIfInBounds_toArray, List.set_cons_zero, List.set_cons_succ, i64_w, i32_w]
                                      rfl
                                    refine pure_ (i := 11) (N := some 46) (v := ?_) (a' := ?_) #[true, true, true, true, true, true, true, true, false, true, true, true, false, false, false] rfl rfl (any_of HT_.out (by kernel_rfl)) (fun _ _ _ h => h) (Or.inl ⟨by rfl, ?_⟩) ?_ ?_
                                    rotate_left
                                    · intro w'
                                      go_simp
                                      with_reducible rfl
                                    rotate_left
                                    · simp only [Act.put, List.setIfInBounds_toArray, List.set_cons_zero, List.set_cons_succ, i64_w, i32_w]
                                      rfl
                                    refine take_ (i := 8) (N := some 43) (v := ?_) (a' := ?_) #[true, true, true, true, true, true, true, true, true, true, true, true, false, false, false] rfl rfl (take_ofW HT_.out HW_.out (by kernel_rfl)) (fun _ _ _ h => h) (Or.inl ⟨by rfl, ?_⟩) hHeld ?_ ?_
                                    rotate_left
                                    · rintro w' ⟨s0, s1⟩
                                      go_simp
                                      with_reducible rfl
                                    rotate_left
                                    · simp only [Act.put, List.setIfInBounds_toArray, List.set_cons_zero, List.set_cons_succ, i64_w, i32_w]
                                      rfl
                                    refine take_ (i := 12) (N := some 47) (v := ?_) (a' := ?_) #[true, true, true, true, true, true, true, true, true, true, true, true, true, false, false] rfl rfl (take_ofW HT_.out HW_.out (by kernel_rfl)) (fun _ _ _ h => h) (Or.inl ⟨by rfl, ?_⟩) hHeld ?_ ?_
                                    rotate_left
                                    · rintro w' ⟨s0, s1⟩
                                      go_simp
                                      with_reducible rfl
                                    rotate_left
                                    · simp only [Act.put, List.setIfInBounds_toArray, List.set_cons_zero, List.set_cons_succ, i64_w, i32_w]
                                      rfl
                                    refine pure_ (i := 13) (N := some 48) (v := ?_) (a' := ?_) #[true, true, true, true, true, true, true, true, true, true, true, true, true, true, false] rfl rfl (any_of HT_.out (by kernel_rfl)) (fun _ _ _ h => h) (Or.inl ⟨by rfl, ?_⟩) ?_ ?_
                                    rotate_left
                                    · intro w'
                                      go_simp
                                      with_reducible rfl
                                    rotate_left
                                    · simp only [Act.put, List.setIfInBounds_toArray, List.set_cons_zero, List.set_cons_succ, i64_w, i32_w]
                                      rfl
                                    refine pure_ (i := 14) (N := some 49) (v := ?_) (a' := ?_) #[true, true, true, true, true, true, true, true, true, true, true, true, true, true, true] rfl rfl (any_of HT_.out (by kernel_rfl)) (fun _ _ _ h => h) (Or.inl ⟨by rfl, ?_⟩) ?_ ?_
                                    rotate_left
                                    · intro w'
                                      go_simp
                                      with_reducible rfl
                                    rotate_left
                                    · simp only [Act.put, List.setIfInBounds_toArray, List.set_cons_zero, List.set_cons_succ, i64_w, i32_w]
                                      rfl
                                    refine done_ (done_of HT_.out (by kernel_rfl)) ?_
                                    try go_wp2
                                    have n0_ := Aside0.mk (Kd.R_drew HO_5.out)
                                    have n1_ := Aside0.mk (below_drew1 HB.out)
                                    clear HO_5
                                    clear HB
                                    have HO_5 := n0_
                                    have HB := n1_
                                    clear n0_ n1_
                                    have q39 : (x7_3 : Int) ≤ ((x5_1.length : Int) : Int) := of_decide_eq_true (by first | (with_reducible assumption) | assumption)
                                    obtain ⟨i039, hi039, _, hsz39, _⟩ := info_parts info24
                                    have hroom39 : x5_1.length ≤ co37 := (Kd.R_reads' HO_5.out).2.1
                                    have hC39 : Kd.C (Kd.int .u64) _ (some ad108) x5_1.length x5_1 := (Kd.R_reads' HO_5.out).2.2
                                    have hcut39 := cut_to (P := Try.prog) 22 24 .i64 Try.underlying22 hi039 (some ad108) x5_1.length co37 x7_3 (of_decide_eq_true (by first | (with_reducible assumption) | assumption)) q39 hroom39
                                    have hr39 := Kd.C_take (m := (x7_3 : Int).toNat) hC39 (by omega)
                                    have hy39 : y113.length = (x7_3 : Int).toNat := (by rw [Ny113.out, List.length_take]; omega)
                                    rw [← Ny113.out] at hr39
                                    rw [← hy39] at hcut39
                                    have HR116 := Aside0.mk hr39
                                    have HC116 := Aside0.mk (show y113.length ≤ co37 from by omega)
                                    clear hr39 hC39 hroom39 hi039 hsz39
                                    have KY39 := Aside0.mk hy39
                                    clear hy39
                                    have KL39 := Aside0.mk (show (x7_3 : Int).toNat ≤ x5_1.length from by omega)
                                    replace q39 := eq_true q39
                                    have p120 : 0 ≤ (x10_1 : Int) := of_decide_eq_true (by first | (with_reducible assumption) | assumption)
                                    have q120 : x10_1 < (l0.length : Int) := of_decide_eq_true (by first | (with_reducible assumption) | assumption)
                                    obtain ⟨ad120, e120, hx120_0⟩ := Kd.at_int HR0.out x10_1 p120 q120
                                    have hw120_0 := hx120_0
                                    obtain rfl : ad109 = ad120 := (by injection e120)
                                    replace hx120_0 := (HB.out.cell (World.block_lt_of_cell? w _ hx120_0)).trans hx120_0
                                    replace p120 := eq_true p120
                                    replace q120 := eq_true q120
                                    have q40 : (x7_3 : Int) ≤ ((x5_1.length : Int) : Int) := of_decide_eq_true (by first | (with_reducible assumption) | assumption)
                                    obtain ⟨i040, hi040, _, hsz40, _⟩ := info_parts info24
                                    have hroom40 : x5_1.length ≤ co37 := (Kd.R_reads' HO_5.out).2.1
                                    have hC40 : Kd.C (Kd.int .u64) _ (some ad108) x5_1.length x5_1 := (Kd.R_reads' HO_5.out).2.2
                                    have q040 : (0 : Int) ≤ (x7_3 : Int) := of_decide_eq_true (by first | (with_reducible assumption) | assumption)
                                    have hcut40 := cut_from (P := Try.prog) 22 24 .i64 Try.underlying22 hi040 1 hsz40 (some ad108) x5_1.length co37 x7_3 q040 q40
                                    have hr40 := Kd.C_drop (m := (x7_3 : Int).toNat) (c := co37) hC40 (by omega) hroom40
                                    obtain ⟨A40, hA40⟩ : ∃ A1, A1 = (if co37 = (x7_3 : Int).toNat then (some ad108) else ((some ad108) : Option Addr).map (·.add ((x7_3 : Int).toNat * 1))) := ⟨_, rfl⟩
                                    obtain ⟨c40, hc40⟩ : ∃ c1, c1 = co37 - (x7_3 : Int).toNat := ⟨_, rfl⟩
                                    have hy40 : y127.length = x5_1.length - (x7_3 : Int).toNat := (by rw [Ny127.out, List.length_drop] <;> omega)
                                    rw [show (x5_1).drop (x7_3 : Int).toNat = y127 from Ny127.out.symm] at hr40
                                    replace hr40 : Kd.C (Kd.int .u64) _ A40 y127.length y127 := (by rw [hA40]; exact hr40)
                                    rw [← hy40, ← hA40, ← hc40] at hcut40
                                    have HR130 := Aside0.mk hr40
                                    have HC130 := Aside0.mk (show y127.length ≤ c40 from by rw [hy40, hc40]; exact Nat.sub_le_sub_right hroom40 _)
                                    clear hr40 hC40 hroom40 hi040 hsz40 hc40
                                    have KY40 := Aside0.mk hy40
                                    have KA40 := Aside0.mk hA40
                                    clear hy40 hA40
                                    have KL40 := Aside0.mk (show (x7_3 : Int).toNat ≤ x5_1.length from by omega)
                                    replace q40 := eq_true q40
                                    refine start_ (n := 16) (S := fun w' => w'.cell? (ad109.add (x10_1).toNat) = some (.int .u64 (rd l0 x10_1))) (ds := []) #[false, false, false, false, false, false, false, false, false, false, false, false, false, false, false, false] (by kernel_rfl) rfl rfl (((HB.out.cell (World.block_lt_of_cell? w _ hw120_0)).trans hw120_0)) (fun hHeld => ?_); refine with_tabW spec_PrintsBoth.tab9 spec_PrintsBoth.bits9 (fun HT_ HW_ => ?_)
                                    generalize w36.drew = w38 at HO_5 HB HR116 HR130 hx120_0 hHeld ⊢
                                    refine pure_ (i := 1) (N := some 53) (v := ?_) (a' := ?_) #[false, true, false, false, false, false, false, false, false, false, false, false, false, false, false, false] rfl rfl (any_of HT_.out (by kernel_rfl)) (fun _ _ _ h => h) (Or.inl ⟨by rfl, ?_⟩) ?_ ?_
                                    rotate_left
                                    · intro w'
                                      go_simp
                                      with_reducible rfl
                                    rotate_left
                                    · simp only [Act.put, List.setIfInBounds_toArray, List.set_cons_zero, List.set_cons_succ, i64_w, i32_w]
                                      rfl
                                    refine pure_ (i := 2) (N := some 54) (v := ?_) (a' := ?_) #[false, true, true, false, false, false, false, false, false, false, false, false, false, false, false, false] rfl rfl (any_of HT_.out (by kernel_rfl)) (fun _ _ _ h => h) (Or.inl ⟨by rfl, ?_⟩) ?_ ?_
                                    rotate_left
                                    · intro w'
                                      go_simp
                                      with_reducible rfl
                                    rotate_left
                                    · simp only [Act.put, List.setIfInBounds_toArray, List.set_cons_zero, List.set_cons_succ, i64_w, i32_w]
                                      rfl
                                    refine pure_ (i := 3) (N := some 55) (v := ?_) (a' := ?_) #[false, true, true, true, false, false, false, false, false, false, false, false, false, false, false, false] rfl rfl (any_of HT_.out (by kernel_rfl)) (fun _ _ _ h => h) (Or.inl ⟨by rfl, ?_⟩) ?_ ?_
                                    rotate_left
                                    · intro w'
                                      go_simp
                                      with_reducible rfl
                                    rotate_left
                                    · simp only [Act.put, List.setIfInBounds_toArray, List.set_cons_zero, List.set_cons_succ, i64_w, i32_w]
                                      rfl
                                    refine pure_ (i := 5) (N := some 57) (v := ?_) (a' := ?_) #[false, true, true, true, false, true, false, false, false, false, false, false, false, false, false, false] rfl rfl (any_of HT_.out (by kernel_rfl)) (fun _ _ _ h => h) (Or.inl ⟨by rfl, ?_⟩) ?_ ?_
                                    rotate_left
                                    · intro w'
                                      go_simp
                                      with_reducible rfl
                                    rotate_left
                                    · simp only [Act.put, List.setIfInBounds_toArray, List.set_cons_zero, List.set_cons_succ, i64_w, i32_w]
                                      rfl
                                    refine pure_ (i := 6) (N := some 58) (v := ?_) (a' := ?_) #[false, true, true, true, false, true, true, false, false, false, false, false, false, false, false, false] rfl rfl (any_of HT_.out (by kernel_rfl)) (fun _ _ _ h => h) (Or.inl ⟨by rfl, ?_⟩) ?_ ?_
                                    rotate_left
                                    · intro w'
                                      go_simp
                                      with_reducible rfl
                                    rotate_left
                                    · simp only [Act.put, List.setIfInBounds_toArray, List.set_cons_zero, List.set_cons_succ, i64_w, i32_w]
                                      rfl
                                    refine pure_ (i := 7) (N := some 59) (v := ?_) (a' := ?_) #[false, true, true, true, false, true, true, true, false, false, false, false, false, false, false, false] rfl rfl (any_of HT_.out (by kernel_rfl)) (fun _ _ _ h => h) (Or.inl ⟨by rfl, ?_⟩) ?_ ?_
                                    rotate_left
                                    · intro w'
                                      go_simp
                                      with_reducible rfl
                                    rotate_left
                                    · simp only [Act.put, List.setIfInBounds_toArray, List.set_cons_zero, List.set_cons_succ, i64_w, i32_w]
                                      rfl
                                    refine pure_ (i := 11) (N := some 63) (v := ?_) (a' := ?_) #[false, true, true, true, false, true, true, true, false, false, false, true, false, false, false, false] rfl rfl (any_of HT_.out (by kernel_rfl)) (fun _ _ _ h => h) (Or.inl ⟨by rfl, ?_⟩) ?_ ?_
                                    rotate_left
                                    · intro w'
                                      go_simp
                                      with_reducible rfl
                                    rotate_left
                                    · simp only [Act.put, List.setIfInBounds_toArray, List.set_cons_zero, List.set_cons_succ, i64_w, i32_w]
                                      rfl
                                    refine pure_ (i := 12) (N := some 64) (v := ?_) (a' := ?_) #[false, true, true, true, false, true, true, true, false, false, false, true, true, false, false, false] rfl rfl (any_of HT_.out (by kernel_rfl)) (fun _ _ _ h => h) (Or.inl ⟨by rfl, ?_⟩) ?_ ?_
                                    rotate_left
                                    · intro w'
                                      go_simp
                                      with_reducible rfl
                                    rotate_left
                                    · simp only [Act.put, List.setIfInBounds_toArray, List.set_cons_zero, List.set_cons_succ, i64_w, i32_w]
                                      rfl
                                    refine pure_ (i := 13) (N := some 65) (v := ?_) (a' := ?_) #[false, true, true, true, false, true, true, true, false, false, false, true, true, true, false, false] rfl rfl (any_of HT_.out (by kernel_rfl)) (fun _ _ _ h => h) (Or.inl ⟨by rfl, ?_⟩) ?_ ?_
                                    rotate_left
                                    · intro w'
                                      go_simp
                                      with_reducible rfl
                                    rotate_left
                                    · simp only [Act.put, List.setIfInBounds_toArray, List.set_cons_zero, List.set_cons_succ, i64_w, i32_w]
                                      rfl
                                    refine take_ (i := 8) (N := some 60) (v := ?_) (a' := ?_) #[false, true, true, true, false, true, true, true, true, false, false, true, true, true, false, false] rfl rfl (take_ofW HT_.out HW_.out (by kernel_rfl)) (fun _ _ _ h => h) (Or.inl ⟨by rfl, ?_⟩) hHeld ?_ ?_
                                    rotate_left
                                    · intro w' s0
                                      go_simp
                                      with_reducible rfl
                                    rotate_left
                                    · simp only [Act.put, List.setIfInBounds_toArray, List.set_cons_zero, List.set_cons_succ, i64_w, i32_w]
                                      rfl
                                    refine join_ (σ := Value × Value × Value) 3 #[true, true, true, true, true, true, true, true, true, true, false, true, true, true, false, false] (fun s_ => [(52, s_.1), (56, s_.2.1), (61, s_.2.2)]) (fun s_ w' => (w'.cell? (ad109.add (x10_1).toNat) = some (.int .u64 (rd l0 x10_1))) ∧ (Kd.R (Kd.int .u64) 24 w' w.heap.size (fun k_ => some k_ ≠ (s_.2.2 : Value).ownBlock ∧ some k_ ≠ (.slice (some ad108) x5_1.length co37 : Value).ownBlock) s_.2.1 y117) ∧ (Kd.R (Kd.int .u64) 24 w' w.heap.size (fun k_ => some k_ ≠ (s_.2.1 : Value).ownBlock ∧ some k_ ≠ (.slice (some ad108) x5_1.length co37 : Value).ownBlock) s_.2.2 y121) ∧ (Kd.R (Kd.int .u64) 24 w' w.heap.size (fun k_ => some k_ ≠ (s_.2.1 : Value).ownBlock ∧ some k_ ≠ (s_.2.2 : Value).ownBlock) (.slice (some ad108) x5_1.length co37) x5_1) ∧ (Below w.heap.size w w')) ?_ ?_
                                    rotate_left
                                    · intro hCont
                                      refine two_ (i := 0) (j := 9) (Ni := some 52) (Nj := some 61) #[true, true, true, true, false, true, true, true, true, false, false, true, true, true, false, false] #[false, true, true, true, false, true, true, true, true, true, false, true, true, true, false, false] rfl rfl rfl rfl (two_of HT_.out (by kernel_rfl)) (by decide) (by decide) (fun K hK => ?_) (fun K hK => ?_)
                                      · skip
                                        refine Kd.R_lit_step (Kd.int .u64) _ 24 ?hg (N := 52) ?hd (xs := ([] : List Int)) (inner := []) (ok := fun _ => True) (okp := fun _ => True) ?hr ?hp (fun _ hk => hk) trivial (Below.refl _ _) (Nat.le_refl _) (by simp) ?_; (case hd => rfl); (case hg => rfl); (case hr => first | (go_simp; done) | (go_simp; rfl)); (case hp => exact (Reps.none _ _))
                                        intro v111 w41 ho42 hb hg_ hnew_
                                        clear hg_ hnew_
                                        (first | rw [← Ny110.out] at ho42 | (simp only [Int.reduceToNat] at ho42; rw [← Ny110.out] at ho42))
                                        have n0_ := Aside0.mk (Kd.R_elder' (by (with_reducible repeat (first | apply Kd.R_alloc | apply Kd.R_drewN | apply Kd.R_drew)); exact HO_5.out) (Kd.R_base ho42) hb)
                                        have n1_ := Aside0.mk (Kd.R_lower (Kd.R_new' ho42 (Kd.R_lt (by (with_reducible repeat (first | apply Kd.R_alloc | apply Kd.R_drewN | apply Kd.R_drew)); exact HO_5.out))) (below_size (by repeat (first | (with_reducible first | exact HB.out | apply below_alloc | apply pw_below_drewN | apply below_drew1) | exact HB.out))))
                                        have n2_ := Aside0.mk (Kd.C_below (by repeat (first | (with_reducible exact HR116.out) | (with_reducible refine Kd.C_alloc ?_ _) | (with_reducible refine Kd.C_drewN ?_ _) | (with_reducible refine Kd.C_drew ?_) | exact HR116.out)) hb)
                                        have n3_ := Aside0.mk (Kd.C_below (by repeat (first | (with_reducible exact HR130.out) | (with_reducible refine Kd.C_alloc ?_ _) | (with_reducible refine Kd.C_drewN ?_ _) | (with_reducible refine Kd.C_drew ?_) | exact HR130.out)) hb)
                                        have n4_ := Aside0.mk (below_step (by repeat (first | (with_reducible first | exact HB.out | apply below_alloc | apply pw_below_drewN | apply below_drew1) | exact HB.out)) hb)
                                        clear HO_5
                                        clear HR116
                                        clear HR130
                                        clear HB
                                        have HO_5 := n0_
                                        have HO112 := n1_
                                        have HR116 := n2_
                                        have HR130 := n3_
                                        have HB := n4_
                                        clear n0_ n1_ n2_ n3_ n4_
                                        clear hb ho42
                                        refine hK.out _ _ (((HB.out.cell (World.block_lt_of_cell? w _ hw120_0)).trans hw120_0)) (fun hHeld => ?_)
                                        clear hK K
                                        refine norm_ (a' := ?_) ?_ ?_
                                        rotate_left
                                        · show Act.put _ (some 52) _ = _
                                          simp only [Act.put, List.setIfInBounds_toArray, List.set_cons_zero, List.set_cons_succ, i64_w, i32_w]
                                          rfl
                                        refine two_ (i := 4) (j := 9) (Ni := some 56) (Nj := some 61) #[true, true, true, true, true, true, true, true, true, false, false, true, true, true, false, false] #[true, true, true, true, false, true, true, true, true, true, false, true, true, true, false, false] rfl rfl rfl rfl (two_of HT_.out (by kernel_rfl)) (by decide) (by decide) (fun K hK => ?_) (fun K hK => ?_)
                                        · skip
                                          refine Kd.R_append_rows_step (Kd.int .u64) (w0 := w) w.heap.size (by rfl) (.tmp 52) (.tmp 55) 22 24 (.int .u64 0) 8 rfl Try.underlying22 info24 rfl (by decide) (by omega) v111 y110 y113 _ _ _ (fun k_ => some k_ ≠ (.slice (some ad108) x5_1.length co37 : Value).ownBlock) (fun _ => False) rfl rfl ?aO ?aR (fun _ _ h => h) (fun _ h => h.elim) ?aF ?aB ?aS ?aL ?_
                                          (case aR => repeat (first | exact (by repeat (first | (with_reducible exact HR116.out) | (with_reducible refine Kd.C_alloc ?_ _) | (with_reducible refine Kd.C_drewN ?_ _) | (with_reducible refine Kd.C_drew ?_) | exact HR116.out)) | (with_reducible refine Kd.C_alloc ?_ _) | (with_reducible refine Kd.C_drewN ?_ _) | (with_reducible refine Kd.C_drew ?_)))
                                          (case aB => exact (by repeat (first | (with_reducible first | exact HB.out | apply below_alloc | apply pw_below_drewN | apply below_drew1) | exact HB.out)))
                                          (case aF => exact (fun k_ hk => Kd.fresh' (Kd.R_lt (by (with_reducible repeat (first | apply Kd.R_alloc | apply Kd.R_drewN | apply Kd.R_drew)); exact HO_5.out)) k_ hk))
                                          (case aO => exact (by (with_reducible repeat (first | apply Kd.R_alloc | apply Kd.R_drewN | apply Kd.R_drew)); exact Kd.R_mono HO112.out (fun _ hk => hk.2)))
                                          (case aS => exact (below_size (by repeat (first | (with_reducible first | exact HB.out | apply below_alloc | apply pw_below_drewN | apply below_drew1) | exact HB.out))))
                                          (case aL => have := LMc31.out; first | omega | exact this | exact Nat.le_of_lt this)
                                          intro v118 w43 ho hb hg hat
                                          rw [← Ny117.out] at ho
                                          have n0_ := Aside0.mk (Kd.R_after (ok := (fun _ => True)) (by (with_reducible repeat (first | apply Kd.R_alloc | apply Kd.R_drewN | apply Kd.R_drew)); exact HO_5.out) hg hat)
                                          have n1_ := Aside0.mk (hb)
                                          have n2_ := Aside0.mk ((show Kd.C (Kd.int .u64) w43 (some ad108) y113.length y113 from by rw [Ny113.out]; exact Kd.C_take (m := (x7_3 : Int).toNat) ((Kd.R_reads' (Kd.R_after (ok := (fun _ => True)) (by (with_reducible repeat (first | apply Kd.R_alloc | apply Kd.R_drewN | apply Kd.R_drew)); exact HO_5.out) hg hat)).2.2) KL39.out))
                                          have n3_ := Aside0.mk ((show Kd.C (Kd.int .u64) w43 A40 y127.length y127 from by rw [Ny127.out, KA40.out]; exact Kd.C_drop (m := (x7_3 : Int).toNat) (c := co37) ((Kd.R_reads' (Kd.R_after (ok := (fun _ => True)) (by (with_reducible repeat (first | apply Kd.R_alloc | apply Kd.R_drewN | apply Kd.R_drew)); exact HO_5.out) hg hat)).2.2) KL40.out ((Kd.R_reads' (Kd.R_after (ok := (fun _ => True)) (by (with_reducible repeat (first | apply Kd.R_alloc | apply Kd.R_drewN | apply Kd.R_drew)); exact HO_5.out) hg hat)).2.1)))
                                          have n4_ := Aside0.mk (ho)
                                          clear HO_5
                                          clear HB
                                          clear HR116
                                          clear HR130
                                          clear HO112
                                          have HO_5 := n0_
                                          have HB := n1_
                                          have HR116 := n2_
                                          have HR130 := n3_
                                          have HO119 := n4_
                                          clear n0_ n1_ n2_ n3_ n4_
                                          clear ho hb hg hat
                                          refine hK.out _ _ (((HB.out.cell (World.block_lt_of_cell? w _ hw120_0)).trans hw120_0)) (fun hHeld => ?_)
                                          clear hK K
                                          refine norm_ (a' := ?_) ?_ ?_
                                          rotate_left
                                          · show Act.put _ (some 56) _ = _
                                            simp only [Act.put, List.setIfInBounds_toArray, List.set_cons_zero, List.set_cons_succ, i64_w, i32_w]
                                            rfl
                                          refine one_ (i := 9) (N := some 61) #[true, true, true, true, true, true, true, true, true, true, false, true, true, true, false, false] rfl rfl (one_of HT_.out (by kernel_rfl)) (by decide) (fun K hK => ?_)
                                          refine Kd.R_lit_step (Kd.int .u64) _ 24 ?hg (N := 61) ?hd (xs := ([rd l0 x10_1] : List Int)) (inner := [.int .u64 (rd l0 x10_1)]) (ok := fun _ => True) (okp := fun _ => True) ?hr ?hp (fun _ hk => hk) trivial (Below.refl _ _) (Nat.le_refl _) (by simp) ?_; (case hd => rfl); (case hg => rfl); (case hr => first | (go_simp; done) | (go_simp; rfl)); (case hp => exact (Reps.one (show Kd.M (Kd.int .u64) _ _ _ (rd l0 x10_1) [.int .u64 (rd l0 x10_1)] from rfl) (Reps.none _ _)))
                                          intro v122 w44 ho45 hb hg_ hnew_
                                          clear hg_ hnew_
                                          (first | rw [← Ny121.out] at ho45 | (simp only [Int.reduceToNat] at ho45; rw [← Ny121.out] at ho45))
                                          have n0_ := Aside0.mk (Kd.R_elder' (by (with_reducible repeat (first | apply Kd.R_alloc | apply Kd.R_drewN | apply Kd.R_drew)); exact HO_5.out) (Kd.R_base ho45) hb)
                                          have n1_ := Aside0.mk (Kd.R_elder' (by (with_reducible repeat (first | apply Kd.R_alloc | apply Kd.R_drewN | apply Kd.R_drew)); exact HO119.out) (Kd.R_base ho45) hb)
                                          have n2_ := Aside0.mk (Kd.R_lower (Kd.R_new' (Kd.R_new' ho45 (Kd.R_lt (by (with_reducible repeat (first | apply Kd.R_alloc | apply Kd.R_drewN | apply Kd.R_drew)); exact HO_5.out))) (Kd.R_lt (by (with_reducible repeat (first | apply Kd.R_alloc | apply Kd.R_drewN | apply Kd.R_drew)); exact HO119.out))) (below_size (by repeat (first | (with_reducible first | exact HB.out | apply below_alloc | apply pw_below_drewN | apply below_drew1) | exact HB.out))))
                                          have n3_ := Aside0.mk (Kd.C_below (by repeat (first | (with_reducible exact HR116.out) | (with_reducible refine Kd.C_alloc ?_ _) | (with_reducible refine Kd.C_drewN ?_ _) | (with_reducible refine Kd.C_drew ?_) | exact HR116.out)) hb)
                                          have n4_ := Aside0.mk (Kd.C_below (by repeat (first | (with_reducible exact HR130.out) | (with_reducible refine Kd.C_alloc ?_ _) | (with_reducible refine Kd.C_drewN ?_ _) | (with_reducible refine Kd.C_drew ?_) | exact HR130.out)) hb)
                                          have n5_ := Aside0.mk (below_step (by repeat (first | (with_reducible first | exact HB.out | apply below_alloc | apply pw_below_drewN | apply below_drew1) | exact HB.out)) hb)
                                          clear HO_5
                                          clear HO119
                                          clear HR116
                                          clear HR130
                                          clear HB
                                          have HO_5 := n0_
                                          have HO119 := n1_
                                          have HO123 := n2_
                                          have HR116 := n3_
                                          have HR130 := n4_
                                          have HB := n5_
                                          clear n0_ n1_ n2_ n3_ n4_ n5_
                                          clear hb ho45
                                          refine hK.out _ _ (((HB.out.cell (World.block_lt_of_cell? w _ hw120_0)).trans hw120_0)) (fun hHeld => ?_)
                                          clear hK K
                                          refine norm_ (a' := ?_) ?_ ?_
                                          rotate_left
                                          · show Act.put _ (some 61) _ = _
                                            simp only [Act.put, List.setIfInBounds_toArray, List.set_cons_zero, List.set_cons_succ, i64_w, i32_w]
                                            rfl
                                          exact norm_ (by simp only [putAll, Act.put, List.setIfInBounds_toArray, List.set_cons_zero, List.set_cons_succ]) (hCont (v111, v118, v122) _ ⟨hHeld, (by (with_reducible repeat (first | apply Kd.R_alloc | apply Kd.R_drewN | apply Kd.R_drew)); exact Kd.R_mono HO119.out (fun _ hk => ⟨hk.2, hk.1⟩)), (by (with_reducible repeat (first | apply Kd.R_alloc | apply Kd.R_drewN | apply Kd.R_drew)); exact Kd.R_mono HO123.out (fun _ hk => ⟨hk.2, hk.1.2⟩)), (by (with_reducible repeat (first | apply Kd.R_alloc | apply Kd.R_drewN | apply Kd.R_drew)); exact Kd.R_mono HO_5.out (fun _ hk => ⟨hk.1.2, hk.2⟩)), (by repeat (first | (with_reducible first | exact HB.out | apply below_alloc | apply pw_below_drewN | apply below_drew1) | exact HB.out))⟩)
                                        · skip
                                          refine Kd.R_lit_step (Kd.int .u64) _ 24 ?hg (N := 61) ?hd (xs := ([rd l0 x10_1] : List Int)) (inner := [.int .u64 (rd l0 x10_1)]) (ok := fun _ => True) (okp := fun _ => True) ?hr ?hp (fun _ hk => hk) trivial (Below.refl _ _) (Nat.le_refl _) (by simp) ?_; (case hd => rfl); (case hg => rfl); (case hr => first | (go_simp; done) | (go_simp; rfl)); (case hp => exact (Reps.one (show Kd.M (Kd.int .u64) _ _ _ (rd l0 x10_1) [.int .u64 (rd l0 x10_1)] from rfl) (Reps.none _ _)))
                                          intro v122 w43 ho44 hb hg_ hnew_
                                          clear hg_ hnew_
                                          (first | rw [← Ny121.out] at ho44 | (simp only [Int.reduceToNat] at ho44; rw [← Ny121.out] at ho44))
                                          have n0_ := Aside0.mk (Kd.R_elder' (by (with_reducible repeat (first | apply Kd.R_alloc | apply Kd.R_drewN | apply Kd.R_drew)); exact HO_5.out) (Kd.R_base ho44) hb)
                                          have n1_ := Aside0.mk (Kd.R_elder' (by (with_reducible repeat (first | apply Kd.R_alloc | apply Kd.R_drewN | apply Kd.R_drew)); exact HO112.out) (Kd.R_base ho44) hb)
                                          have n2_ := Aside0.mk (Kd.R_lower (Kd.R_new' (Kd.R_new' ho44 (Kd.R_lt (by (with_reducible repeat (first | apply Kd.R_alloc | apply Kd.R_drewN | apply Kd.R_drew)); exact HO_5.out))) (Kd.R_lt (by (with_reducible repeat (first | apply Kd.R_alloc | apply Kd.R_drewN | apply Kd.R_drew)); exact HO112.out))) (below_size (by repeat (first | (with_reducible first | exact HB.out | apply below_alloc | apply pw_below_drewN | apply below_drew1) | exact HB.out))))
                                          have n3_ := Aside0.mk (Kd.C_below (by repeat (first | (with_reducible exact HR116.out) | (with_reducible refine Kd.C_alloc ?_ _) | (with_reducible refine Kd.C_drewN ?_ _) | (with_reducible refine Kd.C_drew ?_) | exact HR116.out)) hb)
                                          have n4_ := Aside0.mk (Kd.C_below (by repeat (first | (with_reducible exact HR130.out) | (with_reducible refine Kd.C_alloc ?_ _) | (with_reducible refine Kd.C_drewN ?_ _) | (with_reducible refine Kd.C_drew ?_) | exact HR130.out)) hb)
                                          have n5_ := Aside0.mk (below_step (by repeat (first | (with_reducible first | exact HB.out | apply below_alloc | apply pw_below_drewN | apply below_drew1) | exact HB.out)) hb)
                                          clear HO_5
                                          clear HO112
                                          clear HR116
                                          clear HR130
                                          clear HB
                                          have HO_5 := n0_
                                          have HO112 := n1_
                                          have HO123 := n2_
                                          have HR116 := n3_
                                          have HR130 := n4_
                                          have HB := n5_
                                          clear n0_ n1_ n2_ n3_ n4_ n5_
                                          clear hb ho44
                                          refine hK.out _ _ (((HB.out.cell (World.block_lt_of_cell? w _ hw120_0)).trans hw120_0)) (fun hHeld => ?_)
                                          clear hK K
                                          refine norm_ (a' := ?_) ?_ ?_
                                          rotate_left
                                          · show Act.put _ (some 61) _ = _
                                            simp only [Act.put, List.setIfInBounds_toArray, List.set_cons_zero, List.set_cons_succ, i64_w, i32_w]
                                            rfl
                                          refine one_ (i := 4) (N := some 56) #[true, true, true, true, true, true, true, true, true, true, false, true, true, true, false, false] rfl rfl (one_of HT_.out (by kernel_rfl)) (by decide) (fun K hK => ?_)
                                          refine Kd.R_append_rows_step (Kd.int .u64) (w0 := w) w.heap.size (by rfl) (.tmp 52) (.tmp 55) 22 24 (.int .u64 0) 8 rfl Try.underlying22 info24 rfl (by decide) (by omega) v111 y110 y113 _ _ _ (fun k_ => some k_ ≠ (.slice (some ad108) x5_1.length co37 : Value).ownBlock ∧ some k_ ≠ (v122 : Value).ownBlock) (fun _ => False) rfl rfl ?aO ?aR (fun _ _ h => h) (fun _ h => h.elim) ?aF ?aB ?aS ?aL ?_
                                          (case aR => repeat (first | exact (by repeat (first | (with_reducible exact HR116.out) | (with_reducible refine Kd.C_alloc ?_ _) | (with_reducible refine Kd.C_drewN ?_ _) | (with_reducible refine Kd.C_drew ?_) | exact HR116.out)) | (with_reducible refine Kd.C_alloc ?_ _) | (with_reducible refine Kd.C_drewN ?_ _) | (with_reducible refine Kd.C_drew ?_)))
                                          (case aB => exact (by repeat (first | (with_reducible first | exact HB.out | apply below_alloc | apply pw_below_drewN | apply below_drew1) | exact HB.out)))
                                          (case aF => exact (fun k_ hk => ⟨Kd.fresh' (Kd.R_lt (by (with_reducible repeat (first | apply Kd.R_alloc | apply Kd.R_drewN | apply Kd.R_drew)); exact HO_5.out)) k_ hk, Kd.fresh' (Kd.R_lt (by (with_reducible repeat (first | apply Kd.R_alloc | apply Kd.R_drewN | apply Kd.R_drew)); exact HO123.out)) k_ hk⟩))
                                          (case aO => exact (by (with_reducible repeat (first | apply Kd.R_alloc | apply Kd.R_drewN | apply Kd.R_drew)); exact Kd.R_mono HO112.out (fun _ hk => ⟨hk.1.2, hk.2⟩)))
                                          (case aS => exact (below_size (by repeat (first | (with_reducible first | exact HB.out | apply below_alloc | apply pw_below_drewN | apply below_drew1) | exact HB.out))))
                                          (case aL => have := LMc31.out; first | omega | exact this | exact Nat.le_of_lt this)
                                          intro v118 w45 ho hb hg hat
                                          rw [← Ny117.out] at ho
                                          have n0_ := Aside0.mk (Kd.R_after (ok := (fun k_ => some k_ ≠ (v122 : Value).ownBlock)) (by (with_reducible repeat (first | apply Kd.R_alloc | apply Kd.R_drewN | apply Kd.R_drew)); exact Kd.R_mono HO_5.out (fun _ hk => ⟨hk.2, hk.1.2⟩)) hg hat)
                                          have n1_ := Aside0.mk (Kd.R_after (ok := (fun k_ => some k_ ≠ (.slice (some ad108) x5_1.length co37 : Value).ownBlock)) (by (with_reducible repeat (first | apply Kd.R_alloc | apply Kd.R_drewN | apply Kd.R_drew)); exact Kd.R_mono HO123.out (fun _ hk => ⟨hk.1.2, hk.2⟩)) hg hat)
                                          have n2_ := Aside0.mk (hb)
                                          have n3_ := Aside0.mk ((show Kd.C (Kd.int .u64) w45 (some ad108) y113.length y113 from by rw [Ny113.out]; exact Kd.C_take (m := (x7_3 : Int).toNat) ((Kd.R_reads' (Kd.R_after (ok := (fun k_ => some k_ ≠ (v122 : Value).ownBlock)) (by (with_reducible repeat (first | apply Kd.R_alloc | apply Kd.R_drewN | apply Kd.R_drew)); exact Kd.R_mono HO_5.out (fun _ hk => ⟨hk.2, hk.1.2⟩)) hg hat)).2.2) KL39.out))
                                          have n4_ := Aside0.mk ((show Kd.C (Kd.int .u64) w45 A40 y127.length y127 from by rw [Ny127.out, KA40.out]; exact Kd.C_drop (m := (x7_3 : Int).toNat) (c := co37) ((Kd.R_reads' (Kd.R_after (ok := (fun k_ => some k_ ≠ (v122 : Value).ownBlock)) (by (with_reducible repeat (first | apply Kd.R_alloc | apply Kd.R_drewN | apply Kd.R_drew)); exact Kd.R_mono HO_5.out (fun _ hk => ⟨hk.2, hk.1.2⟩)) hg hat)).2.2) KL40.out ((Kd.R_reads' (Kd.R_after (ok := (fun k_ => some k_ ≠ (v122 : Value).ownBlock)) (by (with_reducible repeat (first | apply Kd.R_alloc | apply Kd.R_drewN | apply Kd.R_drew)); exact Kd.R_mono HO_5.out (fun _ hk => ⟨hk.2, hk.1.2⟩)) hg hat)).2.1)))
                                          have n5_ := Aside0.mk (ho)
                                          clear HO_5
                                          clear HO123
                                          clear HB
                                          clear HR116
                                          clear HR130
                                          clear HO112
                                          have HO_5 := n0_
                                          have HO123 := n1_
                                          have HB := n2_
                                          have HR116 := n3_
                                          have HR130 := n4_
                                          have HO119 := n5_
                                          clear n0_ n1_ n2_ n3_ n4_ n5_
                                          clear ho hb hg hat
                                          refine hK.out _ _ (((HB.out.cell (World.block_lt_of_cell? w _ hw120_0)).trans hw120_0)) (fun hHeld => ?_)
                                          clear hK K
                                          refine norm_ (a' := ?_) ?_ ?_
                                          rotate_left
                                          · show Act.put _ (some 56) _ = _
                                            simp only [Act.put, List.setIfInBounds_toArray, List.set_cons_zero, List.set_cons_succ, i64_w, i32_w]
                                            rfl
                                          exact norm_ (by simp only [putAll, Act.put, List.setIfInBounds_toArray, List.set_cons_zero, List.set_cons_succ]) (hCont (v111, v118, v122) _ ⟨hHeld, (by (with_reducible repeat (first | apply Kd.R_alloc | apply Kd.R_drewN | apply Kd.R_drew)); exact Kd.R_mono HO119.out (fun _ hk => ⟨hk.2, hk.1⟩)), (by (with_reducible repeat (first | apply Kd.R_alloc | apply Kd.R_drewN | apply Kd.R_drew)); exact Kd.R_mono HO123.out (fun _ hk => ⟨hk.2, hk.1⟩)), (by (with_reducible repeat (first | apply Kd.R_alloc | apply Kd.R_drewN | apply Kd.R_drew)); exact Kd.R_mono HO_5.out (fun _ hk => ⟨hk.2, hk.1⟩)), (by repeat (first | (with_reducible first | exact HB.out | apply below_alloc | apply pw_below_drewN | apply below_drew1) | exact HB.out))⟩)
                                      · skip
                                        refine Kd.R_lit_step (Kd.int .u64) _ 24 ?hg (N := 61) ?hd (xs := ([rd l0 x10_1] : List Int)) (inner := [.int .u64 (rd l0 x10_1)]) (ok := fun _ => True) (okp := fun _ => True) ?hr ?hp (fun _ hk => hk) trivial (Below.refl _ _) (Nat.le_refl _) (by simp) ?_; (case hd => rfl); (case hg => rfl); (case hr => first | (go_simp; done) | (go_simp; rfl)); (case hp => exact (Reps.one (show Kd.M (Kd.int .u64) _ _ _ (rd l0 x10_1) [.int .u64 (rd l0 x10_1)] from rfl) (Reps.none _ _)))
                                        intro v122 w41 ho42 hb hg_ hnew_
                                        clear hg_ hnew_
                                        (first | rw [← Ny121.out] at ho42 | (simp only [Int.reduceToNat] at ho42; rw [← Ny121.out] at ho42))
                                        have n0_ := Aside0.mk (Kd.R_elder' (by (with_reducible repeat (first | apply Kd.R_alloc | apply Kd.R_drewN | apply Kd.R_drew)); exact HO_5.out) (Kd.R_base ho42) hb)
                                        have n1_ := Aside0.mk (Kd.R_lower (Kd.R_new' ho42 (Kd.R_lt (by (with_reducible repeat (first | apply Kd.R_alloc | apply Kd.R_drewN | apply Kd.R_drew)); exact HO_5.out))) (below_size (by repeat (first | (with_reducible first | exact HB.out | apply below_alloc | apply pw_below_drewN | apply below_drew1) | exact HB.out))))
                                        have n2_ := Aside0.mk (Kd.C_below (by repeat (first | (with_reducible exact HR116.out) | (with_reducible refine Kd.C_alloc ?_ _) | (with_reducible refine Kd.C_drewN ?_ _) | (with_reducible refine Kd.C_drew ?_) | exact HR116.out)) hb)
                                        have n3_ := Aside0.mk (Kd.C_below (by repeat (first | (with_reducible exact HR130.out) | (with_reducible refine Kd.C_alloc ?_ _) | (with_reducible refine Kd.C_drewN ?_ _) | (with_reducible refine Kd.C_drew ?_) | exact HR130.out)) hb)
                                        have n4_ := Aside0.mk (below_step (by repeat (first | (with_reducible first | exact HB.out | apply below_alloc | apply pw_below_drewN | apply below_drew1) | exact HB.out)) hb)
                                        clear HO_5
                                        clear HR116
                                        clear HR130
                                        clear HB
                                        have HO_5 := n0_
                                        have HO123 := n1_
                                        have HR116 := n2_
                                        have HR130 := n3_
                                        have HB := n4_
                                        clear n0_ n1_ n2_ n3_ n4_
                                        clear hb ho42
                                        refine hK.out _ _ (((HB.out.cell (World.block_lt_of_cell? w _ hw120_0)).trans hw120_0)) (fun hHeld => ?_)
                                        clear hK K
                                        refine norm_ (a' := ?_) ?_ ?_
                                        rotate_left
                                        · show Act.put _ (some 61) _ = _
                                          simp only [Act.put, List.setIfInBounds_toArray, List.set_cons_zero, List.set_cons_succ, i64_w, i32_w]
                                          rfl
                                        refine one_ (i := 0) (N := some 52) #[true, true, true, true, false, true, true, true, true, true, false, true, true, true, false, false] rfl rfl (one_of HT_.out (by kernel_rfl)) (by decide) (fun K hK => ?_)
                                        refine Kd.R_lit_step (Kd.int .u64) _ 24 ?hg (N := 52) ?hd (xs := ([] : List Int)) (inner := []) (ok := fun _ => True) (okp := fun _ => True) ?hr ?hp (fun _ hk => hk) trivial (Below.refl _ _) (Nat.le_refl _) (by simp) ?_; (case hd => rfl); (case hg => rfl); (case hr => first | (go_simp; done) | (go_simp; rfl)); (case hp => exact (Reps.none _ _))
                                        intro v111 w43 ho44 hb hg_ hnew_
                                        clear hg_ hnew_
                                        (first | rw [← Ny110.out] at ho44 | (simp only [Int.reduceToNat] at ho44; rw [← Ny110.out] at ho44))
                                        have n0_ := Aside0.mk (Kd.R_elder' (by (with_reducible repeat (first | apply Kd.R_alloc | apply Kd.R_drewN | apply Kd.R_drew)); exact HO_5.out) (Kd.R_base ho44) hb)
                                        have n1_ := Aside0.mk (Kd.R_elder' (by (with_reducible repeat (first | apply Kd.R_alloc | apply Kd.R_drewN | apply Kd.R_drew)); exact HO123.out) (Kd.R_base ho44) hb)
                                        have n2_ := Aside0.mk (Kd.R_lower (Kd.R_new' (Kd.R_new' ho44 (Kd.R_lt (by (with_reducible repeat (first | apply Kd.R_alloc | apply Kd.R_drewN | apply Kd.R_drew)); exact HO_5.out))) (Kd.R_lt (by (with_reducible repeat (first | apply Kd.R_alloc | apply Kd.R_drewN | apply Kd.R_drew)); exact HO123.out))) (below_size (by repeat (first | (with_reducible first | exact HB.out | apply below_alloc | apply pw_below_drewN | apply below_drew1) | exact HB.out))))
                                        have n3_ := Aside0.mk (Kd.C_below (by repeat (first | (with_reducible exact HR116.out) | (with_reducible refine Kd.C_alloc ?_ _) | (with_reducible refine Kd.C_drewN ?_ _) | (with_reducible refine Kd.C_drew ?_) | exact HR116.out)) hb)
                                        have n4_ := Aside0.mk (Kd.C_below (by repeat (first | (with_reducible exact HR130.out) | (with_reducible refine Kd.C_alloc ?_ _) | (with_reducible refine Kd.C_drewN ?_ _) | (with_reducible refine Kd.C_drew ?_) | exact HR130.out)) hb)
                                        have n5_ := Aside0.mk (below_step (by repeat (first | (with_reducible first | exact HB.out | apply below_alloc | apply pw_below_drewN | apply below_drew1) | exact HB.out)) hb)
                                        clear HO_5
                                        clear HO123
                                        clear HR116
                                        clear HR130
                                        clear HB
                                        have HO_5 := n0_
                                        have HO123 := n1_
                                        have HO112 := n2_
                                        have HR116 := n3_
                                        have HR130 := n4_
                                        have HB := n5_
                                        clear n0_ n1_ n2_ n3_ n4_ n5_
                                        clear hb ho44
                                        refine hK.out _ _ (((HB.out.cell (World.block_lt_of_cell? w _ hw120_0)).trans hw120_0)) (fun hHeld => ?_)
                                        clear hK K
                                        refine norm_ (a' := ?_) ?_ ?_
                                        rotate_left
                                        · show Act.put _ (some 52) _ = _
                                          simp only [Act.put, List.setIfInBounds_toArray, List.set_cons_zero, List.set_cons_succ, i64_w, i32_w]
                                          rfl
                                        refine one_ (i := 4) (N := some 56) #[true, true, true, true, true, true, true, true, true, true, false, true, true, true, false, false] rfl rfl (one_of HT_.out (by kernel_rfl)) (by decide) (fun K hK => ?_)
                                        refine Kd.R_append_rows_step (Kd.int .u64) (w0 := w) w.heap.size (by rfl) (.tmp 52) (.tmp 55) 22 24 (.int .u64 0) 8 rfl Try.underlying22 info24 rfl (by decide) (by omega) v111 y110 y113 _ _ _ (fun k_ => some k_ ≠ (.slice (some ad108) x5_1.length co37 : Value).ownBlock ∧ some k_ ≠ (v122 : Value).ownBlock) (fun _ => False) rfl rfl ?aO ?aR (fun _ _ h => h) (fun _ h => h.elim) ?aF ?aB ?aS ?aL ?_
                                        (case aR => repeat (first | exact (by repeat (first | (with_reducible exact HR116.out) | (with_reducible refine Kd.C_alloc ?_ _) | (with_reducible refine Kd.C_drewN ?_ _) | (with_reducible refine Kd.C_drew ?_) | exact HR116.out)) | (with_reducible refine Kd.C_alloc ?_ _) | (with_reducible refine Kd.C_drewN ?_ _) | (with_reducible refine Kd.C_drew ?_)))
                                        (case aB => exact (by repeat (first | (with_reducible first | exact HB.out | apply below_alloc | apply pw_below_drewN | apply below_drew1) | exact HB.out)))
                                        (case aF => exact (fun k_ hk => ⟨Kd.fresh' (Kd.R_lt (by (with_reducible repeat (first | apply Kd.R_alloc | apply Kd.R_drewN | apply Kd.R_drew)); exact HO_5.out)) k_ hk, Kd.fresh' (Kd.R_lt (by (with_reducible repeat (first | apply Kd.R_alloc | apply Kd.R_drewN | apply Kd.R_drew)); exact HO123.out)) k_ hk⟩))
                                        (case aO => exact (by (with_reducible repeat (first | apply Kd.R_alloc | apply Kd.R_drewN | apply Kd.R_drew)); exact Kd.R_mono HO112.out (fun _ hk => ⟨hk.1.2, hk.2⟩)))
                                        (case aS => exact (below_size (by repeat (first | (with_reducible first | exact HB.out | apply below_alloc | apply pw_below_drewN | apply below_drew1) | exact HB.out))))
                                        (case aL => have := LMc31.out; first | omega | exact this | exact Nat.le_of_lt this)
                                        intro v118 w45 ho hb hg hat
                                        rw [← Ny117.out] at ho
                                        have n0_ := Aside0.mk (Kd.R_after (ok := (fun k_ => some k_ ≠ (v122 : Value).ownBlock)) (by (with_reducible repeat (first | apply Kd.R_alloc | apply Kd.R_drewN | apply Kd.R_drew)); exact Kd.R_mono HO_5.out (fun _ hk => ⟨hk.1.2, hk.2⟩)) hg hat)
                                        have n1_ := Aside0.mk (Kd.R_after (ok := (fun k_ => some k_ ≠ (.slice (some ad108) x5_1.length co37 : Value).ownBlock)) (by (with_reducible repeat (first | apply Kd.R_alloc | apply Kd.R_drewN | apply Kd.R_drew)); exact Kd.R_mono HO123.out (fun _ hk => ⟨hk.1.2, hk.2⟩)) hg hat)
                                        have n2_ := Aside0.mk (hb)
                                        have n3_ := Aside0.mk ((show Kd.C (Kd.int .u64) w45 (some ad108) y113.length y113 from by rw [Ny113.out]; exact Kd.C_take (m := (x7_3 : Int).toNat) ((Kd.R_reads' (Kd.R_after (ok := (fun k_ => some k_ ≠ (v122 : Value).ownBlock)) (by (with_reducible repeat (first | apply Kd.R_alloc | apply Kd.R_drewN | apply Kd.R_drew)); exact Kd.R_mono HO_5.out (fun _ hk => ⟨hk.1.2, hk.2⟩)) hg hat)).2.2) KL39.out))
                                        have n4_ := Aside0.mk ((show Kd.C (Kd.int .u64) w45 A40 y127.length y127 from by rw [Ny127.out, KA40.out]; exact Kd.C_drop (m := (x7_3 : Int).toNat) (c := co37) ((Kd.R_reads' (Kd.R_after (ok := (fun k_ => some k_ ≠ (v122 : Value).ownBlock)) (by (with_reducible repeat (first | apply Kd.R_alloc | apply Kd.R_drewN | apply Kd.R_drew)); exact Kd.R_mono HO_5.out (fun _ hk => ⟨hk.1.2, hk.2⟩)) hg hat)).2.2) KL40.out ((Kd.R_reads' (Kd.R_after (ok := (fun k_ => some k_ ≠ (v122 : Value).ownBlock)) (by (with_reducible repeat (first | apply Kd.R_alloc | apply Kd.R_drewN | apply Kd.R_drew)); exact Kd.R_mono HO_5.out (fun _ hk => ⟨hk.1.2, hk.2⟩)) hg hat)).2.1)))
                                        have n5_ := Aside0.mk (ho)
                                        clear HO_5
                                        clear HO123
                                        clear HB
                                        clear HR116
                                        clear HR130
                                        clear HO112
                                        have HO_5 := n0_
                                        have HO123 := n1_
                                        have HB := n2_
                                        have HR116 := n3_
                                        have HR130 := n4_
                                        have HO119 := n5_
                                        clear n0_ n1_ n2_ n3_ n4_ n5_
                                        clear ho hb hg hat
                                        refine hK.out _ _ (((HB.out.cell (World.block_lt_of_cell? w _ hw120_0)).trans hw120_0)) (fun hHeld => ?_)
                                        clear hK K
                                        refine norm_ (a' := ?_) ?_ ?_
                                        rotate_left
                                        · show Act.put _ (some 56) _ = _
                                          simp only [Act.put, List.setIfInBounds_toArray, List.set_cons_zero, List.set_cons_succ, i64_w, i32_w]
                                          rfl
                                        exact norm_ (by simp only [putAll, Act.put, List.setIfInBounds_toArray, List.set_cons_zero, List.set_cons_succ]) (hCont (v111, v118, v122) _ ⟨hHeld, (by (with_reducible repeat (first | apply Kd.R_alloc | apply Kd.R_drewN | apply Kd.R_drew)); exact Kd.R_mono HO119.out (fun _ hk => ⟨hk.2, hk.1⟩)), (by (with_reducible repeat (first | apply Kd.R_alloc | apply Kd.R_drewN | apply Kd.R_drew)); exact Kd.R_mono HO123.out (fun _ hk => ⟨hk.2, hk.1⟩)), (by (with_reducible repeat (first | apply Kd.R_alloc | apply Kd.R_drewN | apply Kd.R_drew)); exact Kd.R_mono HO_5.out (fun _ hk => ⟨hk.2, hk.1⟩)), (by repeat (first | (with_reducible first | exact HB.out | apply below_alloc | apply pw_below_drewN | apply below_drew1) | exact HB.out))⟩)
                                    rintro ⟨v111, v118, v122⟩ w46 ⟨hS_, h0_, h1_, h2_, h3_⟩
                                    have n0_ : Aside0 (Kd.R (Kd.int .u64) 24 w46 w.heap.size (fun k_ => some k_ ≠ (v122 : Value).ownBlock ∧ some k_ ≠ (.slice (some ad108) x5_1.length co37 : Value).ownBlock) v118 y117) := ⟨h0_⟩
                                    have n1_ : Aside0 (Kd.R (Kd.int .u64) 24 w46 w.heap.size (fun k_ => some k_ ≠ (v118 : Value).ownBlock ∧ some k_ ≠ (.slice (some ad108) x5_1.length co37 : Value).ownBlock) v122 y121) := ⟨h1_⟩
                                    have n2_ : Aside0 (Kd.R (Kd.int .u64) 24 w46 w.heap.size (fun k_ => some k_ ≠ (v118 : Value).ownBlock ∧ some k_ ≠ (v122 : Value).ownBlock) (.slice (some ad108) x5_1.length co37) x5_1) := ⟨h2_⟩
                                    have n3_ : Aside0 (Below w.heap.size w w46) := ⟨h3_⟩
                                    clear HO_5
                                    clear HB
                                    clear h0_ h1_ h2_ h3_
                                    have HO119 := n0_
                                    have HO123 := n1_
                                    have HO_5 := n2_
                                    have HB := n3_
                                    clear n0_ n1_ n2_ n3_
                                    have hHeld : w46.cell? (ad109.add (x10_1).toNat) = some (.int .u64 (rd l0 x10_1)) := hS_
                                    have HR116 := Aside0.mk (show Kd.C (Kd.int .u64) w46 (some ad108) y113.length y113 from by rw [Ny113.out]; exact Kd.C_take (m := (x7_3 : Int).toNat) ((Kd.R_reads' (HO_5.out)).2.2) KL39.out)
                                    have HR130 := Aside0.mk (show Kd.C (Kd.int .u64) w46 A40 y127.length y127 from by rw [Ny127.out, KA40.out]; exact Kd.C_drop (m := (x7_3 : Int).toNat) (c := co37) ((Kd.R_reads' (HO_5.out)).2.2) KL40.out ((Kd.R_reads' (HO_5.out)).2.1))
                                    obtain ⟨Ao48, co48, eo48⟩ := Kd.R_slice HO123.out
                                    (first | subst eo48 | (injection eo48 with f1_ f2_ f3_; have f4_ := f1_.symm; have f5_ := f3_.symm; clear f1_ f2_ f3_; subst f4_; subst f5_))
                                    refine norm_ (a' := ?_) ?_ ?_
                                    rotate_left
                                    · simp only [putAll, Act.put, List.setIfInBounds_toArray, List.set_cons_zero, List.set_cons_succ]
                                      rfl
                                    refine one_ (i := 10) (N := some 62) #[true, true, true, true, true, true, true, true, true, true, true, true, true, true, false, false] rfl rfl (one_of HT_.out (by kernel_rfl)) (by decide) (fun K hK => ?_)
                                    refine Kd.R_append_rows_step (Kd.int .u64) (w0 := w) w.heap.size (by rfl) (.tmp 56) (.tmp 61) 22 24 (.int .u64 0) 8 rfl Try.underlying22 info24 rfl (by decide) (by omega) v118 y117 y121 _ _ _ (fun k_ => some k_ ≠ (.slice (some ad108) x5_1.length co37 : Value).ownBlock ∧ some k_ ≠ (.slice Ao48 y121.length co48 : Value).ownBlock) (fun _ => False) rfl rfl ?aO ?aR (fun _ _ h => h) (fun _ h => h.elim) ?aF ?aB ?aS ?aL ?_
                                    (case aR => repeat (first | exact (Kd.R_reads' HO123.out).2.2 | (with_reducible refine Kd.C_alloc ?_ _) | (with_reducible refine Kd.C_drewN ?_ _) | (with_reducible refine Kd.C_drew ?_)))
                                    (case aB => exact (by repeat (first | (with_reducible first | exact HB.out | apply below_alloc | apply pw_below_drewN | apply below_drew1) | exact HB.out)))
                                    (case aF => exact (fun k_ hk => ⟨Kd.fresh' (Kd.R_lt (by (with_reducible repeat (first | apply Kd.R_alloc | apply Kd.R_drewN | apply Kd.R_drew)); exact HO_5.out)) k_ hk, Kd.fresh' (Kd.R_lt (by (with_reducible repeat (first | apply Kd.R_alloc | apply Kd.R_drewN | apply Kd.R_drew)); exact HO123.out)) k_ hk⟩))
                                    (case aO => exact (by (with_reducible repeat (first | apply Kd.R_alloc | apply Kd.R_drewN | apply Kd.R_drew)); exact Kd.R_mono HO119.out (fun _ hk => ⟨hk.2, hk.1⟩)))
                                    (case aS => exact (below_size (by repeat (first | (with_reducible first | exact HB.out | apply below_alloc | apply pw_below_drewN | apply below_drew1) | exact HB.out))))
                                    (case aL => have := LMc32.out; first | omega | exact this | exact Nat.le_of_lt this)
                                    intro v125 w47 ho hb hg hat
                                    rw [← Ny124.out] at ho
                                    have n0_ := Aside0.mk (Kd.R_after (ok := (fun k_ => some k_ ≠ (.slice Ao48 y121.length co48 : Value).ownBlock)) (by (with_reducible repeat (first | apply Kd.R_alloc | apply Kd.R_drewN | apply Kd.R_drew)); exact Kd.R_mono HO_5.out (fun _ hk => ⟨hk.2, hk.1⟩)) hg hat)
                                    have n1_ := Aside0.mk (Kd.R_after (ok := (fun k_ => some k_ ≠ (.slice (some ad108) x5_1.length co37 : Value).ownBlock)) (by (with_reducible repeat (first | apply Kd.R_alloc | apply Kd.R_drewN | apply Kd.R_drew)); exact Kd.R_mono HO123.out (fun _ hk => ⟨hk.2, hk.1⟩)) hg hat)
                                    have n2_ := Aside0.mk (hb)
                                    have n3_ := Aside0.mk ((show Kd.C (Kd.int .u64) w47 (some ad108) y113.length y113 from by rw [Ny113.out]; exact Kd.C_take (m := (x7_3 : Int).toNat) ((Kd.R_reads' (Kd.R_after (ok := (fun k_ => some k_ ≠ (.slice Ao48 y121.length co48 : Value).ownBlock)) (by (with_reducible repeat (first | apply Kd.R_alloc | apply Kd.R_drewN | apply Kd.R_drew)); exact Kd.R_mono HO_5.out (fun _ hk => ⟨hk.2, hk.1⟩)) hg hat)).2.2) KL39.out))
                                    have n4_ := Aside0.mk ((show Kd.C (Kd.int .u64) w47 A40 y127.length y127 from by rw [Ny127.out, KA40.out]; exact Kd.C_drop (m := (x7_3 : Int).toNat) (c := co37) ((Kd.R_reads' (Kd.R_after (ok := (fun k_ => some k_ ≠ (.slice Ao48 y121.length co48 : Value).ownBlock)) (by (with_reducible repeat (first | apply Kd.R_alloc | apply Kd.R_drewN | apply Kd.R_drew)); exact Kd.R_mono HO_5.out (fun _ hk => ⟨hk.2, hk.1⟩)) hg hat)).2.2) KL40.out ((Kd.R_reads' (Kd.R_after (ok := (fun k_ => some k_ ≠ (.slice Ao48 y121.length co48 : Value).ownBlock)) (by (with_reducible repeat (first | apply Kd.R_alloc | apply Kd.R_drewN | apply Kd.R_drew)); exact Kd.R_mono HO_5.out (fun _ hk => ⟨hk.2, hk.1⟩)) hg hat)).2.1)))
                                    have n5_ := Aside0.mk (ho)
                                    clear HO_5
                                    clear HO123
                                    clear HB
                                    clear HR116
                                    clear HR130
                                    clear HO119
                                    have HO_5 := n0_
                                    have HO123 := n1_
                                    have HB := n2_
                                    have HR116 := n3_
                                    have HR130 := n4_
                                    have HO126 := n5_
                                    clear n0_ n1_ n2_ n3_ n4_ n5_
                                    clear ho hb hg hat
                                    refine hK.out _ _ (((HB.out.cell (World.block_lt_of_cell? w _ hw120_0)).trans hw120_0)) (fun hHeld => ?_)
                                    clear hK K
                                    refine norm_ (a' := ?_) ?_ ?_
                                    rotate_left
                                    · show Act.put _ (some 62) _ = _
                                      simp only [Act.put, List.setIfInBounds_toArray, List.set_cons_zero, List.set_cons_succ, i64_w, i32_w]
                                      rfl
                                    refine one_ (i := 14) (N := some 66) #[true, true, true, true, true, true, true, true, true, true, true, true, true, true, true, false] rfl rfl (one_of HT_.out (by kernel_rfl)) (by decide) (fun K hK => ?_)
                                    refine Kd.R_append_rows_step (Kd.int .u64) (w0 := w) w.heap.size (by rfl) (.tmp 62) (.tmp 65) 22 24 (.int .u64 0) 8 rfl Try.underlying22 info24 rfl (by decide) (by omega) v125 y124 y127 _ _ _ (fun k_ => some k_ ≠ (.slice (some ad108) x5_1.length co37 : Value).ownBlock ∧ some k_ ≠ (.slice Ao48 y121.length co48 : Value).ownBlock) (fun _ => False) rfl rfl ?aO ?aR (fun _ _ h => h) (fun _ h => h.elim) ?aF ?aB ?aS ?aL ?_
                                    (case aR => repeat (first | exact (by repeat (first | (with_reducible exact HR130.out) | (with_reducible refine Kd.C_alloc ?_ _) | (with_reducible refine Kd.C_drewN ?_ _) | (with_reducible refine Kd.C_drew ?_) | exact HR130.out)) | (with_reducible refine Kd.C_alloc ?_ _) | (with_reducible refine Kd.C_drewN ?_ _) | (with_reducible refine Kd.C_drew ?_)))
                                    (case aB => exact (by repeat (first | (with_reducible first | exact HB.out | apply below_alloc | apply pw_below_drewN | apply below_drew1) | exact HB.out)))
                                    (case aF => exact (fun k_ hk => ⟨Kd.fresh' (Kd.R_lt (by (with_reducible repeat (first | apply Kd.R_alloc | apply Kd.R_drewN | apply Kd.R_drew)); exact HO_5.out)) k_ hk, Kd.fresh' (Kd.R_lt (by (with_reducible repeat (first | apply Kd.R_alloc | apply Kd.R_drewN | apply Kd.R_drew)); exact HO123.out)) k_ hk⟩))
                                    (case aO => exact (by (with_reducible repeat (first | apply Kd.R_alloc | apply Kd.R_drewN | apply Kd.R_drew)); exact HO126.out))
                                    (case aS => exact (below_size (by repeat (first | (with_reducible first | exact HB.out | apply below_alloc | apply pw_below_drewN | apply below_drew1) | exact HB.out))))
                                    (case aL => have := LMc35.out; first | omega | exact this | exact Nat.le_of_lt this)
                                    intro v132 w49 ho hb hg hat
                                    rw [← Ny131.out] at ho
                                    have n0_ := Aside0.mk (Kd.R_after (ok := (fun k_ => some k_ ≠ (.slice Ao48 y121.length co48 : Value).ownBlock)) (by (with_reducible repeat (first | apply Kd.R_alloc | apply Kd.R_drewN | apply Kd.R_drew)); exact HO_5.out) hg hat)
                                    have n1_ := Aside0.mk (Kd.R_after (ok := (fun k_ => some k_ ≠ (.slice (some ad108) x5_1.length co37 : Value).ownBlock)) (by (with_reducible repeat (first | apply Kd.R_alloc | apply Kd.R_drewN | apply Kd.R_drew)); exact HO123.out) hg hat)
                                    have n2_ := Aside0.mk (hb)
                                    have n3_ := Aside0.mk ((show Kd.C (Kd.int .u64) w49 (some ad108) y113.length y113 from by rw [Ny113.out]; exact Kd.C_take (m := (x7_3 : Int).toNat) ((Kd.R_reads' (Kd.R_after (ok := (fun k_ => some k_ ≠ (.slice Ao48 y121.length co48 : Value).ownBlock)) (by (with_reducible repeat (first | apply Kd.R_alloc | apply Kd.R_drewN | apply Kd.R_drew)); exact HO_5.out) hg hat)).2.2) KL39.out))
                                    have n4_ := Aside0.mk ((show Kd.C (Kd.int .u64) w49 A40 y127.length y127 from by rw [Ny127.out, KA40.out]; exact Kd.C_drop (m := (x7_3 : Int).toNat) (c := co37) ((Kd.R_reads' (Kd.R_after (ok := (fun k_ => some k_ ≠ (.slice Ao48 y121.length co48 : Value).ownBlock)) (by (with_reducible repeat (first | apply Kd.R_alloc | apply Kd.R_drewN | apply Kd.R_drew)); exact HO_5.out) hg hat)).2.2) KL40.out ((Kd.R_reads' (Kd.R_after (ok := (fun k_ => some k_ ≠ (.slice Ao48 y121.length co48 : Value).ownBlock)) (by (with_reducible repeat (first | apply Kd.R_alloc | apply Kd.R_drewN | apply Kd.R_drew)); exact HO_5.out) hg hat)).2.1)))
                                    have n5_ := Aside0.mk (ho)
                                    clear HO_5
                                    clear HO123
                                    clear HB
                                    clear HR116
                                    clear HR130
                                    clear HO126
                                    have HO_5 := n0_
                                    have HO123 := n1_
                                    have HB := n2_
                                    have HR116 := n3_
                                    have HR130 := n4_
                                    have HO133 := n5_
                                    clear n0_ n1_ n2_ n3_ n4_ n5_
                                    clear ho hb hg hat
                                    refine hK.out _ _ (((HB.out.cell (World.block_lt_of_cell? w _ hw120_0)).trans hw120_0)) (fun hHeld => ?_)
                                    clear hK K
                                    refine norm_ (a' := ?_) ?_ ?_
                                    rotate_left
                                    · show Act.put _ (some 66) _ = _
                                      simp only [Act.put, List.setIfInBounds_toArray, List.set_cons_zero, List.set_cons_succ, i64_w, i32_w]
                                      rfl
                                    refine pure_ (i := 15) (N := some 5) (v := ?_) (a' := ?_) #[true, true, true, true, true, true, true, true, true, true, true, true, true, true, true, true] rfl rfl (any_of HT_.out (by kernel_rfl)) (fun _ _ _ h => h) (Or.inl ⟨by rfl, ?_⟩) ?_ ?_
                                    rotate_left
                                    · intro w'
                                      go_simp
                                      with_reducible rfl
                                    rotate_left
                                    · simp only [Act.put, List.setIfInBounds_toArray, List.set_cons_zero, List.set_cons_succ, i64_w, i32_w]
                                      rfl
                                    refine done_ (done_of HT_.out (by kernel_rfl)) ?_
                                    try go_wp2
                                    go_roundg k3
                                    case measure => have := HK1.out; have := HJ3.out; have := HK3.out; omega
                                    case rel => exact ⟨(y131), (wrap64 (x10_1 + 1)), (by first | rfl | (simp; done) | (simp [*]; done)), H', ⟨by have := HK1.out; have := HJ3.out; have := HK3.out; omega⟩, ⟨by (with_reducible repeat (first | apply Kd.R_alloc | apply Kd.R_drewN | apply Kd.R_drew)); exact Kd.R_mono HO133.out (fun _ hk => trivial)⟩, ⟨by repeat (first | (with_reducible first | exact HB.out | apply below_alloc | apply pw_below_drewN | apply below_drew1) | exact HB.out)⟩⟩
                                  · rw [if_neg c35] at H
                                    exact absurd H (by simp)
                                · rw [if_neg c32] at H
                                  exact absurd H (by simp)
                              · rw [if_neg c31] at H
                                exact absurd H (by simp)
                            · rw [if_neg c30] at H
                              exact absurd H (by simp)
                        · rw [if_neg c25] at H
                          exact absurd H (by simp)
                      · rw [if_neg c24] at H
                        exact absurd H (by simp)
                    · rw [if_neg c23] at H
                      exact absurd H (by simp)
                  · rw [if_neg c22] at H
                    have c22b0 : decide (x7_3 < (x5_1.length : Int)) = false := decide_eq_false c22
                    clear c22
                    obtain ⟨y134, hy134⟩ : ∃ y_ : List Int, y_ = (([] : List Int)) := ⟨_, rfl⟩
                    replace H : (if 0 ≤ x7_3 then (if x7_3 ≤ (x5_1.length : Int) then ((some (x5_1.take (x7_3 : Int).toNat : List Int)).bind fun y137 => (if y134.length + y137.length < 17592186044416 then ((some (y134 ++ y137 : List Int)).bind fun y141 => (if 0 ≤ x10_1 then (if x10_1 < (l0.length : Int) then ((some (([rd l0 x10_1] : List Int) : List Int)).bind fun y145 => (if y141.length + y145.length < 17592186044416 then ((some (y141 ++ y145 : List Int)).bind fun y148 => ((some (x5_1.drop (x7_3 : Int).toNat : List Int)).bind fun y151 => (if y148.length + y151.length < 17592186044416 then (spec_PrintsBoth.l0 k3 l0 l1 (y148 ++ y151) (l0.length : Int) (wrap64 (x10_1 + 1))) else (none)))) else (none))) else (none)) else (none))) else (none))) else (none)) else (none)) = some r := by first | (rw [hy134]; with_reducible exact H) | (have H2_ := (Option.bind_some _ _).symm.trans H; rw [hy134]; with_reducible exact H2_) | (have H2_ := (Option.bind_some _ _).symm.trans H; with_reducible exact H2_) | with_reducible exact H | (rw [hy134]; exact H) | exact H
                    have Ny134 := Aside0.mk hy134
                    clear hy134
                    by_cases c50 : 0 ≤ x7_3
                    · rw [if_pos c50] at H
                      have c50b0 := eq_true c50
                      have c50b1 : decide (0 ≤ x7_3) = true := decide_eq_true c50
                      clear c50
                      by_cases c51 : x7_3 ≤ (x5_1.length : Int)
                      · rw [if_pos c51] at H
                        have c51b0 := eq_true c51
                        have c51b1 : decide (x7_3 ≤ (x5_1.length : Int)) = true := decide_eq_true c51
                        clear c51
                        obtain ⟨y137, hy137⟩ : ∃ y_ : List Int, y_ = (x5_1.take (x7_3 : Int).toNat) := ⟨_, rfl⟩
                        replace H : (if y134.length + y137.length < 17592186044416 then ((some (y134 ++ y137 : List Int)).bind fun y141 => (if 0 ≤ x10_1 then (if x10_1 < (l0.length : Int) then ((some (([rd l0 x10_1] : List Int) : List Int)).bind fun y145 => (if y141.length + y145.length < 17592186044416 then ((some (y141 ++ y145 : List Int)).bind fun y148 => ((some (x5_1.drop (x7_3 : Int).toNat : List Int)).bind fun y151 => (if y148.length + y151.length < 17592186044416 then (spec_PrintsBoth.l0 k3 l0 l1 (y148 ++ y151) (l0.length : Int) (wrap64 (x10_1 + 1))) else (none)))) else (none))) else (none)) else (none))) else (none)) = some r := by first | (rw [hy137]; with_reducible exact H) | (have H2_ := (Option.bind_some _ _).symm.trans H; rw [hy137]; with_reducible exact H2_) | (have H2_ := (Option.bind_some _ _).symm.trans H; with_reducible exact H2_) | with_reducible exact H | (rw [hy137]; exact H) | exact H
                        have Ny137 := Aside0.mk hy137
                        clear hy137
                        by_cases c52 : y134.length + y137.length < 17592186044416
                        · rw [if_pos c52] at H
                          have LMc52 := Aside0.mk c52
                          clear c52
                          obtain ⟨y141, hy141⟩ : ∃ y_ : List Int, y_ = (y134 ++ y137) := ⟨_, rfl⟩
                          replace H : (if 0 ≤ x10_1 then (if x10_1 < (l0.length : Int) then ((some (([rd l0 x10_1] : List Int) : List Int)).bind fun y145 => (if y141.length + y145.length < 17592186044416 then ((some (y141 ++ y145 : List Int)).bind fun y148 => ((some (x5_1.drop (x7_3 : Int).toNat : List Int)).bind fun y151 => (if y148.length + y151.length < 17592186044416 then (spec_PrintsBoth.l0 k3 l0 l1 (y148 ++ y151) (l0.length : Int) (wrap64 (x10_1 + 1))) else (none)))) else (none))) else (none)) else (none)) = some r := by first | (rw [hy141]; with_reducible exact H) | (have H2_ := (Option.bind_some _ _).symm.trans H; rw [hy141]; with_reducible exact H2_) | (have H2_ := (Option.bind_some _ _).symm.trans H; with_reducible exact H2_) | with_reducible exact H | (rw [hy141]; exact H) | exact H
                          have Ny141 := Aside0.mk hy141
                          clear hy141
                          by_cases c53 : 0 ≤ x10_1
                          · rw [if_pos c53] at H
                            have c53b0 : decide (0 ≤ x10_1) = true := decide_eq_true c53
                            clear c53
                            by_cases c54 : x10_1 < (l0.length : Int)
                            · rw [if_pos c54] at H
                              have c54b0 : decide (x10_1 < (l0.length : Int)) = true := decide_eq_true c54
                              clear c54
                              obtain ⟨y145, hy145⟩ : ∃ y_ : List Int, y_ = (([rd l0 x10_1] : List Int)) := ⟨_, rfl⟩
                              replace H : (if y141.length + y145.length < 17592186044416 then ((some (y141 ++ y145 : List Int)).bind fun y148 => ((some (x5_1.drop (x7_3 : Int).toNat : List Int)).bind fun y151 => (if y148.length + y151.length < 17592186044416 then (spec_PrintsBoth.l0 k3 l0 l1 (y148 ++ y151) (l0.length : Int) (wrap64 (x10_1 + 1))) else (none)))) else (none)) = some r := by first | (rw [hy145]; with_reducible exact H) | (have H2_ := (Option.bind_some _ _).symm.trans H; rw [hy145]; with_reducible exact H2_) | (have H2_ := (Option.bind_some _ _).symm.trans H; with_reducible exact H2_) | with_reducible exact H | (rw [hy145]; exact H) | exact H
                              have Ny145 := Aside0.mk hy145
                              clear hy145
                              by_cases c55 : y141.length + y145.length < 17592186044416
                              · rw [if_pos c55] at H
                                have LMc55 := Aside0.mk c55
                                clear c55
                                obtain ⟨y148, hy148⟩ : ∃ y_ : List Int, y_ = (y141 ++ y145) := ⟨_, rfl⟩
                                replace H : ((some (x5_1.drop (x7_3 : Int).toNat : List Int)).bind fun y151 => (if y148.length + y151.length < 17592186044416 then (spec_PrintsBoth.l0 k3 l0 l1 (y148 ++ y151) (l0.length : Int) (wrap64 (x10_1 + 1))) else (none))) = some r := by first | (rw [hy148]; with_reducible exact H) | (have H2_ := (Option.bind_some _ _).symm.trans H; rw [hy148]; with_reducible exact H2_) | (have H2_ := (Option.bind_some _ _).symm.trans H; with_reducible exact H2_) | with_reducible exact H | (rw [hy148]; exact H) | exact H
                                have Ny148 := Aside0.mk hy148
                                clear hy148
                                have c56b0 := eq_true (of_decide_eq_true (by first | (with_reducible assumption) | assumption) : 0 ≤ x7_3)
                                have c57b0 := eq_true (of_decide_eq_true (by first | (with_reducible assumption) | assumption) : x7_3 ≤ (x5_1.length : Int))
                                obtain ⟨y151, hy151⟩ : ∃ y_ : List Int, y_ = (x5_1.drop (x7_3 : Int).toNat) := ⟨_, rfl⟩
                                replace H : (if y148.length + y151.length < 17592186044416 then (spec_PrintsBoth.l0 k3 l0 l1 (y148 ++ y151) (l0.length : Int) (wrap64 (x10_1 + 1))) else (none)) = some r := by first | (rw [hy151]; with_reducible exact H) | (have H2_ := (Option.bind_some _ _).symm.trans H; rw [hy151]; with_reducible exact H2_) | (have H2_ := (Option.bind_some _ _).symm.trans H; with_reducible exact H2_) | with_reducible exact H | (rw [hy151]; exact H) | exact H
                                have Ny151 := Aside0.mk hy151
                                clear hy151
                                by_cases c58 : y148.length + y151.length < 17592186044416
                                · rw [if_pos c58] at H
                                  have LMc58 := Aside0.mk c58
                                  clear c58
                                  obtain ⟨y155, hy155⟩ : ∃ y_ : List Int, y_ = (y148 ++ y151) := ⟨_, rfl⟩
                                  replace H : (spec_PrintsBoth.l0 k3 l0 l1 y155 (l0.length : Int) (wrap64 (x10_1 + 1))) = some r := by first | (rw [hy155]; with_reducible exact H) | (have H2_ := (Option.bind_some _ _).symm.trans H; rw [hy155]; with_reducible exact H2_) | (have H2_ := (Option.bind_some _ _).symm.trans H; with_reducible exact H2_) | with_reducible exact H | (rw [hy155]; exact H) | exact H
                                  have Ny155 := Aside0.mk hy155
                                  clear hy155
                                  have H' := Aside0.mk H
                                  clear H
                                  try go_wp2
                                  have n0_ := Aside0.mk (Kd.R_drew HO_5.out)
                                  have n1_ := Aside0.mk (below_drew1 HB.out)
                                  clear HO_5
                                  clear HB
                                  have HO_5 := n0_
                                  have HB := n1_
                                  clear n0_ n1_
                                  obtain ⟨Ao60, co60, eo60⟩ := Kd.R_slice HO_5.out
                                  (first | subst eo60 | (injection eo60 with f1_ f2_ f3_; have f4_ := f1_.symm; have f5_ := f3_.symm; clear f1_ f2_ f3_; subst f4_; subst f5_))
                                  refine start_ (n := 15) (S := fun w' => True) (ds := []) #[false, false, false, false, false, false, false, false, false, false, false, false, false, false, false] (by kernel_rfl) rfl rfl trivial (fun hHeld => ?_); refine with_tabW spec_PrintsBoth.tab7 spec_PrintsBoth.bits7 (fun HT_ HW_ => ?_)
                                  generalize wr.drew = w59 at HO_5 HB hHeld ⊢
                                  refine pure_ (i := 0) (N := some 35) (v := ?_) (a' := ?_) #[true, false, false, false, false, false, false, false, false, false, false, false, false, false, false] rfl rfl (any_of HT_.out (by kernel_rfl)) (fun _ _ _ h => h) (Or.inl ⟨by rfl, ?_⟩) ?_ ?_
                                  rotate_left
                                  · intro w'
                                    go_simp
                                    with_reducible rfl
                                  rotate_left
                                  · simp only [Act.put, List.setIfInBounds_toArray, List.set_cons_zero, List.set_cons_succ, i64_w, i32_w]
                                    rfl
                                  refine pure_ (i := 1) (N := some 36) (v := ?_) (a' := ?_) #[true, true, false, false, false, false, false, false, false, false, false, false, false, false, false] rfl rfl (any_of HT_.out (by kernel_rfl)) (fun _ _ _ h => h) (Or.inl ⟨by rfl, ?_⟩) ?_ ?_
                                  rotate_left
                                  · intro w'
                                    go_simp
                                    with_reducible rfl
                                  rotate_left
                                  · simp only [Act.put, List.setIfInBounds_toArray, List.set_cons_zero, List.set_cons_succ, i64_w, i32_w]
                                    rfl
                                  refine pure_ (i := 2) (N := some 37) (v := ?_) (a' := ?_) #[true, true, true, false, false, false, false, false, false, false, false, false, false, false, false] rfl rfl (any_of HT_.out (by kernel_rfl)) (fun _ _ _ h => h) (Or.inl ⟨by rfl, ?_⟩) ?_ ?_
                                  rotate_left
                                  · intro w'
                                    go_simp
                                    with_reducible rfl
                                  rotate_left
                                  · simp only [Act.put, List.setIfInBounds_toArray, List.set_cons_zero, List.set_cons_succ, i64_w, i32_w]
                                    rfl
                                  refine pure_ (i := 3) (N := some 38) (v := ?_) (a' := ?_) #[true, true, true, true, false, false, false, false, false, false, false, false, false, false, false] rfl rfl (any_of HT_.out (by kernel_rfl)) (fun _ _ _ h => h) (Or.inl ⟨by rfl, ?_⟩) ?_ ?_
                                  rotate_left
                                  · intro w'
                                    go_simp
                                    with_reducible rfl
                                  rotate_left
                                  · simp only [Act.put, List.setIfInBounds_toArray, List.set_cons_zero, List.set_cons_succ, i64_w, i32_w]
                                    rfl
                                  refine pure_ (i := 4) (N := some 39) (v := ?_) (a' := ?_) #[true, true, true, true, true, false, false, false, false, false, false, false, false, false, false] rfl rfl (any_of HT_.out (by kernel_rfl)) (fun _ _ _ h => h) (Or.inl ⟨by rfl, ?_⟩) ?_ ?_
                                  rotate_left
                                  · intro w'
                                    go_simp
                                    with_reducible rfl
                                  rotate_left
                                  · simp only [Act.put, List.setIfInBounds_toArray, List.set_cons_zero, List.set_cons_succ, i64_w, i32_w]
                                    rfl
                                  refine pure_ (i := 5) (N := some 40) (v := undef) (a' := ?_) #[true, true, true, true, true, true, false, false, false, false, false, false, false, false, false] rfl rfl (any_of HT_.out (by kernel_rfl)) (fun _ _ _ h => h) (Or.inr ⟨by rfl, rfl⟩) ?_ ?_
                                  rotate_left
                                  · simp only [Act.put, List.setIfInBounds_toArray, List.set_cons_zero, List.set_cons_succ, i64_w, i32_w]
                                    rfl
                                  refine pure_ (i := 6) (N := some 41) (v := undef) (a' := ?_) #[true, true, true, true, true, true, true, false, false, false, false, false, false, false, false] rfl rfl (any_of HT_.out (by kernel_rfl)) (fun _ _ _ h => h) (Or.inr ⟨by rfl, rfl⟩) ?_ ?_
                                  rotate_left
                                  · simp only [Act.put, List.setIfInBounds_toArray, List.set_cons_zero, List.set_cons_succ, i64_w, i32_w]
                                    rfl
                                  refine pure_ (i := 7) (N := some 42) (v := undef) (a' := ?_) #[true, true, true, true, true, true, true, true, false, false, false, false, false, false, false] rfl rfl (any_of HT_.out (by kernel_rfl)) (fun _ _ _ h => h) (Or.inr ⟨by rfl, rfl⟩) ?_ ?_
                                  rotate_left
                                  · simp only [Act.put, List.setIfInBounds_toArray, List.set_cons_zero, List.set_cons_succ, i64_w, i32_w]
                                    rfl
                                  refine pure_ (i := 8) (N := some 43) (v := undef) (a' := ?_) #[true, true, true, true, true, true, true, true, true, false, false, false, false, false, false] rfl rfl (any_of HT_.out (by kernel_rfl)) (fun _ _ _ h => h) (Or.inr ⟨by rfl, rfl⟩) ?_ ?_
                                  rotate_left
                                  · simp only [Act.put, List.setIfInBounds_toArray, List.set_cons_zero, List.set_cons_succ, i64_w, i32_w]
                                    rfl
                                  refine pure_ (i := 9) (N := some 44) (v := undef) (a' := ?_) #[true, true, true, true, true, true, true, true, true, true, false, false, false, false, false] rfl rfl (any_of HT_.out (by kernel_rfl)) (fun _ _ _ h => h) (Or.inr ⟨by rfl, rfl⟩) ?_ ?_
                                  rotate_left
                                  · simp only [Act.put, List.setIfInBounds_toArray, List.set_cons_zero, List.set_cons_succ, i64_w, i32_w]
                                    rfl
                                  refine pure_ (i := 10) (N := some 45) (v := undef) (a' := ?_) #[true, true, true, true, true, true, true, true, true, true, true, false, false, false, false] rfl rfl (any_of HT_.out (by kernel_rfl)) (fun _ _ _ h => h) (Or.inr ⟨by rfl, rfl⟩) ?_ ?_
                                  rotate_left
                                  · simp only [Act.put, List.setIfInBounds_toArray, List.set_cons_zero, List.set_cons_succ, i64_w, i32_w]
                                    rfl
                                  refine pure_ (i := 11) (N := some 46) (v := undef) (a' := ?_) #[true, true, true, true, true, true, true, true, true, true, true, true, false, false, false] rfl rfl (any_of HT_.out (by kernel_rfl)) (fun _ _ _ h => h) (Or.inr ⟨by rfl, rfl⟩) ?_ ?_
                                  rotate_left
                                  · simp only [Act.put, List.setIfInBounds_toArray, List.set_cons_zero, List.set_cons_succ, i64_w, i32_w]
                                    rfl
                                  refine pure_ (i := 12) (N := some 47) (v := undef) (a' := ?_) #[true, true, true, true, true, true, true, true, true, true, true, true, true, false, false] rfl rfl (any_of HT_.out (by kernel_rfl)) (fun _ _ _ h => h) (Or.inr ⟨by rfl, rfl⟩) ?_ ?_
                                  rotate_left
                                  · simp only [Act.put, List.setIfInBounds_toArray, List.set_cons_zero, List.set_cons_succ, i64_w, i32_w]
                                    rfl
                                  refine pure_ (i := 13) (N := some 48) (v := undef) (a' := ?_) #[true, true, true, true, true, true, true, true, true, true, true, true, true, true, false] rfl rfl (any_of HT_.out (by kernel_rfl)) (fun _ _ _ h => h) (Or.inr ⟨by rfl, rfl⟩) ?_ ?_
                                  rotate_left
                                  · simp only [Act.put, List.setIfInBounds_toArray, List.set_cons_zero, List.set_cons_succ, i64_w, i32_w]
                                    rfl
                                  refine pure_ (i := 14) (N := some 49) (v := ?_) (a' := ?_) #[true, true, true, true, true, true, true, true, true, true, true, true, true, true, true] rfl rfl (any_of HT_.out (by kernel_rfl)) (fun _ _ _ h => h) (Or.inl ⟨by rfl, ?_⟩) ?_ ?_
                                  rotate_left
                                  · intro w'
                                    go_simp
                                    with_reducible rfl
                                  rotate_left
                                  · simp only [Act.put, List.setIfInBounds_toArray, List.set_cons_zero, List.set_cons_succ, i64_w, i32_w]
                                    rfl
                                  refine done_ (done_of HT_.out (by kernel_rfl)) ?_
                                  try go_wp2
                                  have n0_ := Aside0.mk (Kd.R_drew HO_5.out)
                                  have n1_ := Aside0.mk (below_drew1 HB.out)
                                  clear HO_5
                                  clear HB
                                  have HO_5 := n0_
                                  have HB := n1_
                                  clear n0_ n1_
                                  have q62 : (x7_3 : Int) ≤ ((x5_1.length : Int) : Int) := of_decide_eq_true (by first | (with_reducible assumption) | assumption)
                                  obtain ⟨i062, hi062, _, hsz62, _⟩ := info_parts info24
                                  have hroom62 : x5_1.length ≤ co60 := (Kd.R_reads' HO_5.out).2.1
                                  have hC62 : Kd.C (Kd.int .u64) _ Ao60 x5_1.length x5_1 := (Kd.R_reads' HO_5.out).2.2
                                  have hcut62 := cut_to (P := Try.prog) 22 24 .i64 Try.underlying22 hi062 Ao60 x5_1.length co60 x7_3 (of_decide_eq_true (by first | (with_reducible assumption) | assumption)) q62 hroom62
                                  have hr62 := Kd.C_take (m := (x7_3 : Int).toNat) hC62 (by omega)
                                  have hy62 : y137.length = (x7_3 : Int).toNat := (by rw [Ny137.out, List.length_take]; omega)
                                  rw [← Ny137.out] at hr62
                                  rw [← hy62] at hcut62
                                  have HR140 := Aside0.mk hr62
                                  have HC140 := Aside0.mk (show y137.length ≤ co60 from by omega)
                                  clear hr62 hC62 hroom62 hi062 hsz62
                                  have KY62 := Aside0.mk hy62
                                  clear hy62
                                  have KL62 := Aside0.mk (show (x7_3 : Int).toNat ≤ x5_1.length from by omega)
                                  replace q62 := eq_true q62
                                  have p144 : 0 ≤ (x10_1 : Int) := of_decide_eq_true (by first | (with_reducible assumption) | assumption)
                                  have q144 : x10_1 < (l0.length : Int) := of_decide_eq_true (by first | (with_reducible assumption) | assumption)
                                  obtain ⟨ad144, e144, hx144_0⟩ := Kd.at_int HR0.out x10_1 p144 q144
                                  have hw144_0 := hx144_0
                                  cases e144
                                  replace hx144_0 := (HB.out.cell (World.block_lt_of_cell? w _ hx144_0)).trans hx144_0
                                  replace p144 := eq_true p144
                                  replace q144 := eq_true q144
                                  have q63 : (x7_3 : Int) ≤ ((x5_1.length : Int) : Int) := of_decide_eq_true (by first | (with_reducible assumption) | assumption)
                                  obtain ⟨i063, hi063, _, hsz63, _⟩ := info_parts info24
                                  have hroom63 : x5_1.length ≤ co60 := (Kd.R_reads' HO_5.out).2.1
                                  have hC63 : Kd.C (Kd.int .u64) _ Ao60 x5_1.length x5_1 := (Kd.R_reads' HO_5.out).2.2
                                  have q063 : (0 : Int) ≤ (x7_3 : Int) := of_decide_eq_true (by first | (with_reducible assumption) | assumption)
                                  have hcut63 := cut_from (P := Try.prog) 22 24 .i64 Try.underlying22 hi063 1 hsz63 Ao60 x5_1.length co60 x7_3 q063 q63
                                  have hr63 := Kd.C_drop (m := (x7_3 : Int).toNat) (c := co60) hC63 (by omega) hroom63
                                  obtain ⟨A63, hA63⟩ : ∃ A1, A1 = (if co60 = (x7_3 : Int).toNat then Ao60 else (Ao60 : Option Addr).map (·.add ((x7_3 : Int).toNat * 1))) := ⟨_, rfl⟩
                                  obtain ⟨c63, hc63⟩ : ∃ c1, c1 = co60 - (x7_3 : Int).toNat := ⟨_, rfl⟩
                                  have hy63 : y151.length = x5_1.length - (x7_3 : Int).toNat := (by rw [Ny151.out, List.length_drop] <;> omega)
                                  rw [show (x5_1).drop (x7_3 : Int).toNat = y151 from Ny151.out.symm] at hr63
                                  replace hr63 : Kd.C (Kd.int .u64) _ A63 y151.length y151 := (by rw [hA63]; exact hr63)
                                  rw [← hy63, ← hA63, ← hc63] at hcut63
                                  have HR154 := Aside0.mk hr63
                                  have HC154 := Aside0.mk (show y151.length ≤ c63 from by rw [hy63, hc63]; exact Nat.sub_le_sub_right hroom63 _)
                                  clear hr63 hC63 hroom63 hi063 hsz63 hc63
                                  have KY63 := Aside0.mk hy63
                                  have KA63 := Aside0.mk hA63
                                  clear hy63 hA63
                                  have KL63 := Aside0.mk (show (x7_3 : Int).toNat ≤ x5_1.length from by omega)
                                  replace q63 := eq_true q63
                                  refine start_ (n := 16) (S := fun w' => w'.cell? (ad144.add (x10_1).toNat) = some (.int .u64 (rd l0 x10_1))) (ds := []) #[false, false, false, false, false, false, false, false, false, false, false, false, false, false, false, false] (by kernel_rfl) rfl rfl (((HB.out.cell (World.block_lt_of_cell? w _ hw144_0)).trans hw144_0)) (fun hHeld => ?_); refine with_tabW spec_PrintsBoth.tab9 spec_PrintsBoth.bits9 (fun HT_ HW_ => ?_)
                                  generalize w59.drew = w61 at HO_5 HB HR140 HR154 hx144_0 hHeld ⊢
                                  refine pure_ (i := 1) (N := some 53) (v := ?_) (a' := ?_) #[false, true, false, false, false, false, false, false, false, false, false, false, false, false, false, false] rfl rfl (any_of HT_.out (by kernel_rfl)) (fun _ _ _ h => h) (Or.inl ⟨by rfl, ?_⟩) ?_ ?_
                                  rotate_left
                                  · intro w'
                                    go_simp
                                    with_reducible rfl
                                  rotate_left
                                  · simp only [Act.put, List.setIfInBounds_toArray, List.set_cons_zero, List.set_cons_succ, i64_w, i32_w]
                                    rfl
                                  refine pure_ (i := 2) (N := some 54) (v := ?_) (a' := ?_) #[false, true, true, false, false, false, false, false, false, false, false, false, false, false, false, false] rfl rfl (any_of HT_.out (by kernel_rfl)) (fun _ _ _ h => h) (Or.inl ⟨by rfl, ?_⟩) ?_ ?_
                                  rotate_left
                                  · intro w'
                                    go_simp
                                    with_reducible rfl
                                  rotate_left
                                  · simp only [Act.put, List.setIfInBounds_toArray, List.set_cons_zero, List.set_cons_succ, i64_w, i32_w]
                                    rfl
                                  refine pure_ (i := 3) (N := some 55) (v := ?_) (a' := ?_) #[false, true, true, true, false, false, false, false, false, false, false, false, false, false, false, false] rfl rfl (any_of HT_.out (by kernel_rfl)) (fun _ _ _ h => h) (Or.inl ⟨by rfl, ?_⟩) ?_ ?_
                                  rotate_left
                                  · intro w'
                                    go_simp
                                    with_reducible rfl
                                  rotate_left
                                  · simp only [Act.put, List.setIfInBounds_toArray, List.set_cons_zero, List.set_cons_succ, i64_w, i32_w]
                                    rfl
                                  refine pure_ (i := 5) (N := some 57) (v := ?_) (a' := ?_) #[false, true, true, true, false, true, false, false, false, false, false, false, false, false, false, false] rfl rfl (any_of HT_.out (by kernel_rfl)) (fun _ _ _ h => h) (Or.inl ⟨by rfl, ?_⟩) ?_ ?_
                                  rotate_left
                                  · intro w'
                                    go_simp
                                    with_reducible rfl
                                  rotate_left
                                  · simp only [Act.put, List.setIfInBounds_toArray, List.set_cons_zero, List.set_cons_succ, i64_w, i32_w]
                                    rfl
                                  refine pure_ (i := 6) (N := some 58) (v := ?_) (a' := ?_) #[false, true, true, true, false, true, true, false, false, false, false, false, false, false, false, false] rfl rfl (any_of HT_.out (by kernel_rfl)) (fun _ _ _ h => h) (Or.inl ⟨by rfl, ?_⟩) ?_ ?_
                                  rotate_left
                                  · intro w'
                                    go_simp
                                    with_reducible rfl
                                  rotate_left
                                  · simp only [Act.put, List.setIfInBounds_toArray, List.set_cons_zero, List.set_cons_succ, i64_w, i32_w]
                                    rfl
                                  refine pure_ (i := 7) (N := some 59) (v := ?_) (a' := ?_) #[false, true, true, true, false, true, true, true, false, false, false, false, false, false, false, false] rfl rfl (any_of HT_.out (by kernel_rfl)) (fun _ _ _ h => h) (Or.inl ⟨by rfl, ?_⟩) ?_ ?_
                                  rotate_left
                                  · intro w'
                                    go_simp
                                    with_reducible rfl
                                  rotate_left
                                  · simp only [Act.put, List.setIfInBounds_toArray, List.set_cons_zero, List.set_cons_succ, i64_w, i32_w]
                                    rfl
                                  refine pure_ (i := 11) (N := some 63) (v := ?_) (a' := ?_) #[false, true, true, true, false, true, true, true, false, false, false, true, false, false, false, false] rfl rfl (any_of HT_.out (by kernel_rfl)) (fun _ _ _ h => h) (Or.inl ⟨by rfl, ?_⟩) ?_ ?_
                                  rotate_left
                                  · intro w'
                                    go_simp
                                    with_reducible rfl
                                  rotate_left
                                  · simp only [Act.put, List.setIfInBounds_toArray, List.set_cons_zero, List.set_cons_succ, i64_w, i32_w]
                                    rfl
                                  refine pure_ (i := 12) (N := some 64) (v := ?_) (a' := ?_) #[false, true, true, true, false, true, true, true, false, false, false, true, true, false, false, false] rfl rfl (any_of HT_.out (by kernel_rfl)) (fun _ _ _ h => h) (Or.inl ⟨by rfl, ?_⟩) ?_ ?_
                                  rotate_left
                                  · intro w'
                                    go_simp
                                    with_reducible rfl
                                  rotate_left
                                  · simp only [Act.put, List.setIfInBounds_toArray, List.set_cons_zero, List.set_cons_succ, i64_w, i32_w]
                                    rfl
                                  refine pure_ (i := 13) (N := some 65) (v := ?_) (a' := ?_) #[false, true, true, true, false, true, true, true, false, false, false, true, true, true, false, false] rfl rfl (any_of HT_.out (by kernel_rfl)) (fun _ _ _ h => h) (Or.inl ⟨by rfl, ?_⟩) ?_ ?_
                                  rotate_left
                                  · intro w'
                                    go_simp
                                    with_reducible rfl
                                  rotate_left
                                  · simp only [Act.put, List.setIfInBounds_toArray, List.set_cons_zero, List.set_cons_succ, i64_w, i32_w]
                                    rfl
                                  refine take_ (i := 8) (N := some 60) (v := ?_) (a' := ?_) #[false, true, true, true, false, true, true, true, true, false, false, true, true, true, false, false] rfl rfl (take_ofW HT_.out HW_.out (by kernel_rfl)) (fun _ _ _ h => h) (Or.inl ⟨by rfl, ?_⟩) hHeld ?_ ?_
                                  rotate_left
                                  · intro w' s0
                                    go_simp
                                    with_reducible rfl
                                  rotate_left
                                  · simp only [Act.put, List.setIfInBounds_toArray, List.set_cons_zero, List.set_cons_succ, i64_w, i32_w]
                                    rfl
                                  refine join_ (σ := Value × Value × Value) 3 #[true, true, true, true, true, true, true, true, true, true, false, true, true, true, false, false] (fun s_ => [(52, s_.1), (56, s_.2.1), (61, s_.2.2)]) (fun s_ w' => (w'.cell? (ad144.add (x10_1).toNat) = some (.int .u64 (rd l0 x10_1))) ∧ (Kd.R (Kd.int .u64) 24 w' w.heap.size (fun k_ => some k_ ≠ (s_.2.2 : Value).ownBlock ∧ some k_ ≠ (.slice Ao60 x5_1.length co60 : Value).ownBlock) s_.2.1 y141) ∧ (Kd.R (Kd.int .u64) 24 w' w.heap.size (fun k_ => some k_ ≠ (s_.2.1 : Value).ownBlock ∧ some k_ ≠ (.slice Ao60 x5_1.length co60 : Value).ownBlock) s_.2.2 y145) ∧ (Kd.R (Kd.int .u64) 24 w' w.heap.size (fun k_ => some k_ ≠ (s_.2.1 : Value).ownBlock ∧ some k_ ≠ (s_.2.2 : Value).ownBlock) (.slice Ao60 x5_1.length co60) x5_1) ∧ (Below w.heap.size w w')) ?_ ?_
                                  rotate_left
                                  · intro hCont
                                    refine two_ (i := 0) (j := 9) (Ni := some 52) (Nj := some 61) #[true, true, true, true, false, true, true, true, true, false, false, true, true, true, false, false] #[false, true, true, true, false, true, true, true, true, true, false, true, true, true, false, false] rfl rfl rfl rfl (two_of HT_.out (by kernel_rfl)) (by decide) (by decide) (fun K hK => ?_) (fun K hK => ?_)
                                    · skip
                                      refine Kd.R_lit_step (Kd.int .u64) _ 24 ?hg (N := 52) ?hd (xs := ([] : List Int)) (inner := []) (ok := fun _ => True) (okp := fun _ => True) ?hr ?hp (fun _ hk => hk) trivial (Below.refl _ _) (Nat.le_refl _) (by simp) ?_; (case hd => rfl); (case hg => rfl); (case hr => first | (go_simp; done) | (go_simp; rfl)); (case hp => exact (Reps.none _ _))
                                      intro v135 w64 ho65 hb hg_ hnew_
                                      clear hg_ hnew_
                                      (first | rw [← Ny134.out] at ho65 | (simp only [Int.reduceToNat] at ho65; rw [← Ny134.out] at ho65))
                                      have n0_ := Aside0.mk (Kd.R_elder' (by (with_reducible repeat (first | apply Kd.R_alloc | apply Kd.R_drewN | apply Kd.R_drew)); exact HO_5.out) (Kd.R_base ho65) hb)
                                      have n1_ := Aside0.mk (Kd.R_lower (Kd.R_new' ho65 (Kd.R_lt (by (with_reducible repeat (first | apply Kd.R_alloc | apply Kd.R_drewN | apply Kd.R_drew)); exact HO_5.out))) (below_size (by repeat (first | (with_reducible first | exact HB.out | apply below_alloc | apply pw_below_drewN | apply below_drew1) | exact HB.out))))
                                      have n2_ := Aside0.mk (Kd.C_below (by repeat (first | (with_reducible exact HR140.out) | (with_reducible refine Kd.C_alloc ?_ _) | (with_reducible refine Kd.C_drewN ?_ _) | (with_reducible refine Kd.C_drew ?_) | exact HR140.out)) hb)
                                      have n3_ := Aside0.mk (Kd.C_below (by repeat (first | (with_reducible exact HR154.out) | (with_reducible refine Kd.C_alloc ?_ _) | (with_reducible refine Kd.C_drewN ?_ _) | (with_reducible refine Kd.C_drew ?_) | exact HR154.out)) hb)
                                      have n4_ := Aside0.mk (below_step (by repeat (first | (with_reducible first | exact HB.out | apply below_alloc | apply pw_below_drewN | apply below_drew1) | exact HB.out)) hb)
                                      clear HO_5
                                      clear HR140
                                      clear HR154
                                      clear HB
                                      have HO_5 := n0_
                                      have HO136 := n1_
                                      have HR140 := n2_
                                      have HR154 := n3_
                                      have HB := n4_
                                      clear n0_ n1_ n2_ n3_ n4_
                                      clear hb ho65
                                      refine hK.out _ _ (((HB.out.cell (World.block_lt_of_cell? w _ hw144_0)).trans hw144_0)) (fun hHeld => ?_)
                                      clear hK K
                                      refine norm_ (a' := ?_) ?_ ?_
                                      rotate_left
                                      · show Act.put _ (some 52) _ = _
                                        simp only [Act.put, List.setIfInBounds_toArray, List.set_cons_zero, List.set_cons_succ, i64_w, i32_w]
                                        rfl
                                      refine two_ (i := 4) (j := 9) (Ni := some 56) (Nj := some 61) #[true, true, true, true, true, true, true, true, true, false, false, true, true, true, false, false] #[true, true, true, true, false, true, true, true, true, true, false, true, true, true, false, false] rfl rfl rfl rfl (two_of HT_.out (by kernel_rfl)) (by decide) (by decide) (fun K hK => ?_) (fun K hK => ?_)
                                      · skip
                                        refine Kd.R_append_rows_step (Kd.int .u64) (w0 := w) w.heap.size (by rfl) (.tmp 52) (.tmp 55) 22 24 (.int .u64 0) 8 rfl Try.underlying22 info24 rfl (by decide) (by omega) v135 y134 y137 _ _ _ (fun k_ => some k_ ≠ (.slice Ao60 x5_1.length co60 : Value).ownBlock) (fun _ => False) rfl rfl ?aO ?aR (fun _ _ h => h) (fun _ h => h.elim) ?aF ?aB ?aS ?aL ?_
                                        (case aR => repeat (first | exact (by repeat (first | (with_reducible exact HR140.out) | (with_reducible refine Kd.C_alloc ?_ _) | (with_reducible refine Kd.C_drewN ?_ _) | (with_reducible refine Kd.C_drew ?_) | exact HR140.out)) | (with_reducible refine Kd.C_alloc ?_ _) | (with_reducible refine Kd.C_drewN ?_ _) | (with_reducible refine Kd.C_drew ?_)))
                                        (case aB => exact (by repeat (first | (with_reducible first | exact HB.out | apply below_alloc | apply pw_below_drewN | apply below_drew1) | exact HB.out)))
                                        (case aF => exact (fun k_ hk => Kd.fresh' (Kd.R_lt (by (with_reducible repeat (first | apply Kd.R_alloc | apply Kd.R_drewN | apply Kd.R_drew)); exact HO_5.out)) k_ hk))
                                        (case aO => exact (by (with_reducible repeat (first | apply Kd.R_alloc | apply Kd.R_drewN | apply Kd.R_drew)); exact Kd.R_mono HO136.out (fun _ hk => hk.2)))
                                        (case aS => exact (below_size (by repeat (first | (with_reducible first | exact HB.out | apply below_alloc | apply pw_below_drewN | apply below_drew1) | exact HB.out))))
                                        (case aL => have := LMc52.out; first | omega | exact this | exact Nat.le_of_lt this)
                                        intro v142 w66 ho hb hg hat
                                        rw [← Ny141.out] at ho
                                        have n0_ := Aside0.mk (Kd.R_after (ok := (fun _ => True)) (by (with_reducible repeat (first | apply Kd.R_alloc | apply Kd.R_drewN | apply Kd.R_drew)); exact HO_5.out) hg hat)
                                        have n1_ := Aside0.mk (hb)
                                        have n2_ := Aside0.mk ((show Kd.C (Kd.int .u64) w66 Ao60 y137.length y137 from by rw [Ny137.out]; exact Kd.C_take (m := (x7_3 : Int).toNat) ((Kd.R_reads' (Kd.R_after (ok := (fun _ => True)) (by (with_reducible repeat (first | apply Kd.R_alloc | apply Kd.R_drewN | apply Kd.R_drew)); exact HO_5.out) hg hat)).2.2) KL62.out))
                                        have n3_ := Aside0.mk ((show Kd.C (Kd.int .u64) w66 A63 y151.length y151 from by rw [Ny151.out, KA63.out]; exact Kd.C_drop (m := (x7_3 : Int).toNat) (c := co60) ((Kd.R_reads' (Kd.R_after (ok := (fun _ => True)) (by (with_reducible repeat (first | apply Kd.R_alloc | apply Kd.R_drewN | apply Kd.R_drew)); exact HO_5.out) hg hat)).2.2) KL63.out ((Kd.R_reads' (Kd.R_after (ok := (fun _ => True)) (by (with_reducible repeat (first | apply Kd.R_alloc | apply Kd.R_drewN | apply Kd.R_drew)); exact HO_5.out) hg hat)).2.1)))
                                        have n4_ := Aside0.mk (ho)
                                        clear HO_5
                                        clear HB
                                        clear HR140
                                        clear HR154
                                        clear HO136
                                        have HO_5 := n0_
                                        have HB := n1_
                                        have HR140 := n2_
                                        have HR154 := n3_
                                        have HO143 := n4_
                                        clear n0_ n1_ n2_ n3_ n4_
                                        clear ho hb hg hat
                                        refine hK.out _ _ (((HB.out.cell (World.block_lt_of_cell? w _ hw144_0)).trans hw144_0)) (fun hHeld => ?_)
                                        clear hK K
                                        refine norm_ (a' := ?_) ?_ ?_
                                        rotate_left
                                        · show Act.put _ (some 56) _ = _
                                          simp only [Act.put, List.setIfInBounds_toArray, List.set_cons_zero, List.set_cons_succ, i64_w, i32_w]
                                          rfl
                                        refine one_ (i := 9) (N := some 61) #[true, true, true, true, true, true, true, true, true, true, false, true, true, true, false, false] rfl rfl (one_of HT_.out (by kernel_rfl)) (by decide) (fun K hK => ?_)
                                        refine Kd.R_lit_step (Kd.int .u64) _ 24 ?hg (N := 61) ?hd (xs := ([rd l0 x10_1] : List Int)) (inner := [.int .u64 (rd l0 x10_1)]) (ok := fun _ => True) (okp := fun _ => True) ?hr ?hp (fun _ hk => hk) trivial (Below.refl _ _) (Nat.le_refl _) (by simp) ?_; (case hd => rfl); (case hg => rfl); (case hr => first | (go_simp; done) | (go_simp; rfl)); (case hp => exact (Reps.one (show Kd.M (Kd.int .u64) _ _ _ (rd l0 x10_1) [.int .u64 (rd l0 x10_1)] from rfl) (Reps.none _ _)))
                                        intro v146 w67 ho68 hb hg_ hnew_
                                        clear hg_ hnew_
                                        (first | rw [← Ny145.out] at ho68 | (simp only [Int.reduceToNat] at ho68; rw [← Ny145.out] at ho68))
                                        have n0_ := Aside0.mk (Kd.R_elder' (by (with_reducible repeat (first | apply Kd.R_alloc | apply Kd.R_drewN | apply Kd.R_drew)); exact HO_5.out) (Kd.R_base ho68) hb)
                                        have n1_ := Aside0.mk (Kd.R_elder' (by (with_reducible repeat (first | apply Kd.R_alloc | apply Kd.R_drewN | apply Kd.R_drew)); exact HO143.out) (Kd.R_base ho68) hb)
                                        have n2_ := Aside0.mk (Kd.R_lower (Kd.R_new' (Kd.R_new' ho68 (Kd.R_lt (by (with_reducible repeat (first | apply Kd.R_alloc | apply Kd.R_drewN | apply Kd.R_drew)); exact HO_5.out))) (Kd.R_lt (by (with_reducible repeat (first | apply Kd.R_alloc | apply Kd.R_drewN | apply Kd.R_drew)); exact HO143.out))) (below_size (by repeat (first | (with_reducible first | exact HB.out | apply below_alloc | apply pw_below_drewN | apply below_drew1) | exact HB.out))))
                                        have n3_ := Aside0.mk (Kd.C_below (by repeat (first | (with_reducible exact HR140.out) | (with_reducible refine Kd.C_alloc ?_ _) | (with_reducible refine Kd.C_drewN ?_ _) | (with_reducible refine Kd.C_drew ?_) | exact HR140.out)) hb)
                                        have n4_ := Aside0.mk (Kd.C_below (by repeat (first | (with_reducible exact HR154.out) | (with_reducible refine Kd.C_alloc ?_ _) | (with_reducible refine Kd.C_drewN ?_ _) | (with_reducible refine Kd.C_drew ?_) | exact HR154.out)) hb)
                                        have n5_ := Aside0.mk (below_step (by repeat (first | (with_reducible first | exact HB.out | apply below_alloc | apply pw_below_drewN | apply below_drew1) | exact HB.out)) hb)
                                        clear HO_5
                                        clear HO143
                                        clear HR140
                                        clear HR154
                                        clear HB
                                        have HO_5 := n0_
                                        have HO143 := n1_
                                        have HO147 := n2_
                                        have HR140 := n3_
                                        have HR154 := n4_
                                        have HB := n5_
                                        clear n0_ n1_ n2_ n3_ n4_ n5_
                                        clear hb ho68
                                        refine hK.out _ _ (((HB.out.cell (World.block_lt_of_cell? w _ hw144_0)).trans hw144_0)) (fun hHeld => ?_)
                                        clear hK K
                                        refine norm_ (a' := ?_) ?_ ?_
                                        rotate_left
                                        · show Act.put _ (some 61) _ = _
                                          simp only [Act.put, List.setIfInBounds_toArray, List.set_cons_zero, List.set_cons_succ, i64_w, i32_w]
                                          rfl
                                        exact norm_ (by simp only [putAll, Act.put, List.setIfInBounds_toArray, List.set_cons_zero, List.set_cons_succ]) (hCont (v135, v142, v146) _ ⟨hHeld, (by (with_reducible repeat (first | apply Kd.R_alloc | apply Kd.R_drewN | apply Kd.R_drew)); exact Kd.R_mono HO143.out (fun _ hk => ⟨hk.2, hk.1⟩)), (by (with_reducible repeat (first | apply Kd.R_alloc | apply Kd.R_drewN | apply Kd.R_drew)); exact Kd.R_mono HO147.out (fun _ hk => ⟨hk.2, hk.1.2⟩)), (by (with_reducible repeat (first | apply Kd.R_alloc | apply Kd.R_drewN | apply Kd.R_drew)); exact Kd.R_mono HO_5.out (fun _ hk => ⟨hk.1.2, hk.2⟩)), (by repeat (first | (with_reducible first | exact HB.out | apply below_alloc | apply pw_below_drewN | apply below_drew1) | exact HB.out))⟩)
                                      · skip
                                        refine Kd.R_lit_step (Kd.int .u64) _ 24 ?hg (N := 61) ?hd (xs := ([rd l0 x10_1] : List Int)) (inner := [.int .u64 (rd l0 x10_1)]) (ok := fun _ => True) (okp := fun _ => True) ?hr ?hp (fun _ hk => hk) trivial (Below.refl _ _) (Nat.le_refl _) (by simp) ?_; (case hd => rfl); (case hg => rfl); (case hr => first | (go_simp; done) | (go_simp; rfl)); (case hp => exact (Reps.one (show Kd.M (Kd.int .u64) _ _ _ (rd l0 x10_1) [.int .u64 (rd l0 x10_1)] from rfl) (Reps.none _ _)))
                                        intro v146 w66 ho67 hb hg_ hnew_
                                        clear hg_ hnew_
                                        (first | rw [← Ny145.out] at ho67 | (simp only [Int.reduceToNat] at ho67; rw [← Ny145.out] at ho67))
                                        have n0_ := Aside0.mk (Kd.R_elder' (by (with_reducible repeat (first | apply Kd.R_alloc | apply Kd.R_drewN | apply Kd.R_drew)); exact HO_5.out) (Kd.R_base ho67) hb)
                                        have n1_ := Aside0.mk (Kd.R_elder' (by (with_reducible repeat (first | apply Kd.R_alloc | apply Kd.R_drewN | apply Kd.R_drew)); exact HO136.out) (Kd.R_base ho67) hb)
                                        have n2_ := Aside0.mk (Kd.R_lower (Kd.R_new' (Kd.R_new' ho67 (Kd.R_lt (by (with_reducible repeat (first | apply Kd.R_alloc | apply Kd.R_drewN | apply Kd.R_drew)); exact HO_5.out))) (Kd.R_lt (by (with_reducible repeat (first | apply Kd.R_alloc | apply Kd.R_drewN | apply Kd.R_drew)); exact HO136.out))) (below_size (by repeat (first | (with_reducible first | exact HB.out | apply below_alloc | apply pw_below_drewN | apply below_drew1) | exact HB.out))))
                                        have n3_ := Aside0.mk (Kd.C_below (by repeat (first | (with_reducible exact HR140.out) | (with_reducible refine Kd.C_alloc ?_ _) | (with_reducible refine Kd.C_drewN ?_ _) | (with_reducible refine Kd.C_drew ?_) | exact HR140.out)) hb)
                                        have n4_ := Aside0.mk (Kd.C_below (by repeat (first | (with_reducible exact HR154.out) | (with_reducible refine Kd.C_alloc ?_ _) | (with_reducible refine Kd.C_drewN ?_ _) | (with_reducible refine Kd.C_drew ?_) | exact HR154.out)) hb)
                                        have n5_ := Aside0.mk (below_step (by repeat (first | (with_reducible first | exact HB.out | apply below_alloc | apply pw_below_drewN | apply below_drew1) | exact HB.out)) hb)
                                        clear HO_5
                                        clear HO136
                                        clear HR140
                                        clear HR154
                                        clear HB
                                        have HO_5 := n0_
                                        have HO136 := n1_
                                        have HO147 := n2_
                                        have HR140 := n3_
                                        have HR154 := n4_
                                        have HB := n5_
                                        clear n0_ n1_ n2_ n3_ n4_ n5_
                                        clear hb ho67
                                        refine hK.out _ _ (((HB.out.cell (World.block_lt_of_cell? w _ hw144_0)).trans hw144_0)) (fun hHeld => ?_)
                                        clear hK K
                                        refine norm_ (a' := ?_) ?_ ?_
                                        rotate_left
                                        · show Act.put _ (some 61) _ = _
                                          simp only [Act.put, List.setIfInBounds_toArray, List.set_cons_zero, List.set_cons_succ, i64_w, i32_w]
                                          rfl
                                        refine one_ (i := 4) (N := some 56) #[true, true, true, true, true, true, true, true, true, true, false, true, true, true, false, false] rfl rfl (one_of HT_.out (by kernel_rfl)) (by decide) (fun K hK => ?_)
                                        refine Kd.R_append_rows_step (Kd.int .u64) (w0 := w) w.heap.size (by rfl) (.tmp 52) (.tmp 55) 22 24 (.int .u64 0) 8 rfl Try.underlying22 info24 rfl (by decide) (by omega) v135 y134 y137 _ _ _ (fun k_ => some k_ ≠ (.slice Ao60 x5_1.length co60 : Value).ownBlock ∧ some k_ ≠ (v146 : Value).ownBlock) (fun _ => False) rfl rfl ?aO ?aR (fun _ _ h => h) (fun _ h => h.elim) ?aF ?aB ?aS ?aL ?_
                                        (case aR => repeat (first | exact (by repeat (first | (with_reducible exact HR140.out) | (with_reducible refine Kd.C_alloc ?_ _) | (with_reducible refine Kd.C_drewN ?_ _) | (with_reducible refine Kd.C_drew ?_) | exact HR140.out)) | (with_reducible refine Kd.C_alloc ?_ _) | (with_reducible refine Kd.C_drewN ?_ _) | (with_reducible refine Kd.C_drew ?_)))
                                        (case aB => exact (by repeat (first | (with_reducible first | exact HB.out | apply below_alloc | apply pw_below_drewN | apply below_drew1) | exact HB.out)))
                                        (case aF => exact (fun k_ hk => ⟨Kd.fresh' (Kd.R_lt (by (with_reducible repeat (first | apply Kd.R_alloc | apply Kd.R_drewN | apply Kd.R_drew)); exact HO_5.out)) k_ hk, Kd.fresh' (Kd.R_lt (by (with_reducible repeat (first | apply Kd.R_alloc | apply Kd.R_drewN | apply Kd.R_drew)); exact HO147.out)) k_ hk⟩))
                                        (case aO => exact (by (with_reducible repeat (first | apply Kd.R_alloc | apply Kd.R_drewN | apply Kd.R_drew)); exact Kd.R_mono HO136.out (fun _ hk => ⟨hk.1.2, hk.2⟩)))
                                        (case aS => exact (below_size (by repeat (first | (with_reducible first | exact HB.out | apply below_alloc | apply pw_below_drewN | apply below_drew1) | exact HB.out))))
                                        (case aL => have := LMc52.out; first | omega | exact this | exact Nat.le_of_lt this)
                                        intro v142 w68 ho hb hg hat
                                        rw [← Ny141.out] at ho
                                        have n0_ := Aside0.mk (Kd.R_after (ok := (fun k_ => some k_ ≠ (v146 : Value).ownBlock)) (by (with_reducible repeat (first | apply Kd.R_alloc | apply Kd.R_drewN | apply Kd.R_drew)); exact Kd.R_mono HO_5.out (fun _ hk => ⟨hk.2, hk.1.2⟩)) hg hat)
                                        have n1_ := Aside0.mk (Kd.R_after (ok := (fun k_ => some k_ ≠ (.slice Ao60 x5_1.length co60 : Value).ownBlock)) (by (with_reducible repeat (first | apply Kd.R_alloc | apply Kd.R_drewN | apply Kd.R_drew)); exact Kd.R_mono HO147.out (fun _ hk => ⟨hk.1.2, hk.2⟩)) hg hat)
                                        have n2_ := Aside0.mk (hb)
                                        have n3_ := Aside0.mk ((show Kd.C (Kd.int .u64) w68 Ao60 y137.length y137 from by rw [Ny137.out]; exact Kd.C_take (m := (x7_3 : Int).toNat) ((Kd.R_reads' (Kd.R_after (ok := (fun k_ => some k_ ≠ (v146 : Value).ownBlock)) (by (with_reducible repeat (first | apply Kd.R_alloc | apply Kd.R_drewN | apply Kd.R_drew)); exact Kd.R_mono HO_5.out (fun _ hk => ⟨hk.2, hk.1.2⟩)) hg hat)).2.2) KL62.out))
                                        have n4_ := Aside0.mk ((show Kd.C (Kd.int .u64) w68 A63 y151.length y151 from by rw [Ny151.out, KA63.out]; exact Kd.C_drop (m := (x7_3 : Int).toNat) (c := co60) ((Kd.R_reads' (Kd.R_after (ok := (fun k_ => some k_ ≠ (v146 : Value).ownBlock)) (by (with_reducible repeat (first | apply Kd.R_alloc | apply Kd.R_drewN | apply Kd.R_drew)); exact Kd.R_mono HO_5.out (fun _ hk => ⟨hk.2, hk.1.2⟩)) hg hat)).2.2) KL63.out ((Kd.R_reads' (Kd.R_after (ok := (fun k_ => some k_ ≠ (v146 : Value).ownBlock)) (by (with_reducible repeat (first | apply Kd.R_alloc | apply Kd.R_drewN | apply Kd.R_drew)); exact Kd.R_mono HO_5.out (fun _ hk => ⟨hk.2, hk.1.2⟩)) hg hat)).2.1)))
                                        have n5_ := Aside0.mk (ho)
                                        clear HO_5
                                        clear HO147
                                        clear HB
                                        clear HR140
                                        clear HR154
                                        clear HO136
                                        have HO_5 := n0_
                                        have HO147 := n1_
                                        have HB := n2_
                                        have HR140 := n3_
                                        have HR154 := n4_
                                        have HO143 := n5_
                                        clear n0_ n1_ n2_ n3_ n4_ n5_
                                        clear ho hb hg hat
                                        refine hK.out _ _ (((HB.out.cell (World.block_lt_of_cell? w _ hw144_0)).trans hw144_0)) (fun hHeld => ?_)
                                        clear hK K
                                        refine norm_ (a' := ?_) ?_ ?_
                                        rotate_left
                                        · show Act.put _ (some 56) _ = _
                                          simp only [Act.put, List.setIfInBounds_toArray, List.set_cons_zero, List.set_cons_succ, i64_w, i32_w]
                                          rfl
                                        exact norm_ (by simp only [putAll, Act.put, List.setIfInBounds_toArray, List.set_cons_zero, List.set_cons_succ]) (hCont (v135, v142, v146) _ ⟨hHeld, (by (with_reducible repeat (first | apply Kd.R_alloc | apply Kd.R_drewN | apply Kd.R_drew)); exact Kd.R_mono HO143.out (fun _ hk => ⟨hk.2, hk.1⟩)), (by (with_reducible repeat (first | apply Kd.R_alloc | apply Kd.R_drewN | apply Kd.R_drew)); exact Kd.R_mono HO147.out (fun _ hk => ⟨hk.2, hk.1⟩)), (by (with_reducible repeat (first | apply Kd.R_alloc | apply Kd.R_drewN | apply Kd.R_drew)); exact Kd.R_mono HO_5.out (fun _ hk => ⟨hk.2, hk.1⟩)), (by repeat (first | (with_reducible first | exact HB.out | apply below_alloc | apply pw_below_drewN | apply below_drew1) | exact HB.out))⟩)
                                    · skip
                                      refine Kd.R_lit_step (Kd.int .u64) _ 24 ?hg (N := 61) ?hd (xs := ([rd l0 x10_1] : List Int)) (inner := [.int .u64 (rd l0 x10_1)]) (ok := fun _ => True) (okp := fun _ => True) ?hr ?hp (fun _ hk => hk) trivial (Below.refl _ _) (Nat.le_refl _) (by simp) ?_; (case hd => rfl); (case hg => rfl); (case hr => first | (go_simp; done) | (go_simp; rfl)); (case hp => exact (Reps.one (show Kd.M (Kd.int .u64) _ _ _ (rd l0 x10_1) [.int .u64 (rd l0 x10_1)] from rfl) (Reps.none _ _)))
                                      intro v146 w64 ho65 hb hg_ hnew_
                                      clear hg_ hnew_
                                      (first | rw [← Ny145.out] at ho65 | (simp only [Int.reduceToNat] at ho65; rw [← Ny145.out] at ho65))
                                      have n0_ := Aside0.mk (Kd.R_elder' (by (with_reducible repeat (first | apply Kd.R_alloc | apply Kd.R_drewN | apply Kd.R_drew)); exact HO_5.out) (Kd.R_base ho65) hb)
                                      have n1_ := Aside0.mk (Kd.R_lower (Kd.R_new' ho65 (Kd.R_lt (by (with_reducible repeat (first | apply Kd.R_alloc | apply Kd.R_drewN | apply Kd.R_drew)); exact HO_5.out))) (below_size (by repeat (first | (with_reducible first | exact HB.out | apply below_alloc | apply pw_below_drewN | apply below_drew1) | exact HB.out))))
                                      have n2_ := Aside0.mk (Kd.C_below (by repeat (first | (with_reducible exact HR140.out) | (with_reducible refine Kd.C_alloc ?_ _) | (with_reducible refine Kd.C_drewN ?_ _) | (with_reducible refine Kd.C_drew ?_) | exact HR140.out)) hb)
                                      have n3_ := Aside0.mk (Kd.C_below (by repeat (first | (with_reducible exact HR154.out) | (with_reducible refine Kd.C_alloc ?_ _) | (with_reducible refine Kd.C_drewN ?_ _) | (with_reducible refine Kd.C_drew ?_) | exact HR154.out)) hb)
                                      have n4_ := Aside0.mk (below_step (by repeat (first | (with_reducible first | exact HB.out | apply below_alloc | apply pw_below_drewN | apply below_drew1) | exact HB.out)) hb)
                                      clear HO_5
                                      clear HR140
                                      clear HR154
                                      clear HB
                                      have HO_5 := n0_
                                      have HO147 := n1_
                                      have HR140 := n2_
                                      have HR154 := n3_
                                      have HB := n4_
                                      clear n0_ n1_ n2_ n3_ n4_
                                      clear hb ho65
                                      refine hK.out _ _ (((HB.out.cell (World.block_lt_of_cell? w _ hw144_0)).trans hw144_0)) (fun hHeld => ?_)
                                      clear hK K
                                      refine norm_ (a' := ?_) ?_ ?_
                                      rotate_left
                                      · show Act.put _ (some 61) _ = _
                                        simp only [Act.put, List.setIfInBounds_toArray, List.set_cons_zero, List.set_cons_succ, i64_w, i32_w]
                                        rfl
                                      refine one_ (i := 0) (N := some 52) #[true, true, true, true, false, true, true, true, true, true, false, true, true, true, false, false] rfl rfl (one_of HT_.out (by kernel_rfl)) (by decide) (fun K hK => ?_)
                                      refine Kd.R_lit_step (Kd.int .u64) _ 24 ?hg (N := 52) ?hd (xs := ([] : List Int)) (inner := []) (ok := fun _ => True) (okp := fun _ => True) ?hr ?hp (fun _ hk => hk) trivial (Below.refl _ _) (Nat.le_refl _) (by simp) ?_; (case hd => rfl); (case hg => rfl); (case hr => first | (go_simp; done) | (go_simp; rfl)); (case hp => exact (Reps.none _ _))
                                      intro v135 w66 ho67 hb hg_ hnew_
                                      clear hg_ hnew_
                                      (first | rw [← Ny134.out] at ho67 | (simp only [Int.reduceToNat] at ho67; rw [← Ny134.out] at ho67))
                                      have n0_ := Aside0.mk (Kd.R_elder' (by (with_reducible repeat (first | apply Kd.R_alloc | apply Kd.R_drewN | apply Kd.R_drew)); exact HO_5.out) (Kd.R_base ho67) hb)
                                      have n1_ := Aside0.mk (Kd.R_elder' (by (with_reducible repeat (first | apply Kd.R_alloc | apply Kd.R_drewN | apply Kd.R_drew)); exact HO147.out) (Kd.R_base ho67) hb)
                                      have n2_ := Aside0.mk (Kd.R_lower (Kd.R_new' (Kd.R_new' ho67 (Kd.R_lt (by (with_reducible repeat (first | apply Kd.R_alloc | apply Kd.R_drewN | apply Kd.R_drew)); exact HO_5.out))) (Kd.R_lt (by (with_reducible repeat (first | apply Kd.R_alloc | apply Kd.R_drewN | apply Kd.R_drew)); exact HO147.out))) (below_size (by repeat (first | (with_reducible first | exact HB.out | apply below_alloc | apply pw_below_drewN | apply below_drew1) | exact HB.out))))
                                      have n3_ := Aside0.mk (Kd.C_below (by repeat (first | (with_reducible exact HR140.out) | (with_reducible refine Kd.C_alloc ?_ _) | (with_reducible refine Kd.C_drewN ?_ _) | (with_reducible refine Kd.C_drew ?_) | exact HR140.out)) hb)
                                      have n4_ := Aside0.mk (Kd.C_below (by repeat (first | (with_reducible exact HR154.out) | (with_reducible refine Kd.C_alloc ?_ _) | (with_reducible refine Kd.C_drewN ?_ _) | (with_reducible refine Kd.C_drew ?_) | exact HR154.out)) hb)
                                      have n5_ := Aside0.mk (below_step (by repeat (first | (with_reducible first | exact HB.out | apply below_alloc | apply pw_below_drewN | apply below_drew1) | exact HB.out)) hb)
                                      clear HO_5
                                      clear HO147
                                      clear HR140
                                      clear HR154
                                      clear HB
                                      have HO_5 := n0_
                                      have HO147 := n1_
                                      have HO136 := n2_
                                      have HR140 := n3_
                                      have HR154 := n4_
                                      have HB := n5_
                                      clear n0_ n1_ n2_ n3_ n4_ n5_
                                      clear hb ho67
                                      refine hK.out _ _ (((HB.out.cell (World.block_lt_of_cell? w _ hw144_0)).trans hw144_0)) (fun hHeld => ?_)
                                      clear hK K
                                      refine norm_ (a' := ?_) ?_ ?_
                                      rotate_left
                                      · show Act.put _ (some 52) _ = _
                                        simp only [Act.put, List.setIfInBounds_toArray, List.set_cons_zero, List.set_cons_succ, i64_w, i32_w]
                                        rfl
                                      refine one_ (i := 4) (N := some 56) #[true, true, true, true, true, true, true, true, true, true, false, true, true, true, false, false] rfl rfl (one_of HT_.out (by kernel_rfl)) (by decide) (fun K hK => ?_)
                                      refine Kd.R_append_rows_step (Kd.int .u64) (w0 := w) w.heap.size (by rfl) (.tmp 52) (.tmp 55) 22 24 (.int .u64 0) 8 rfl Try.underlying22 info24 rfl (by decide) (by omega) v135 y134 y137 _ _ _ (fun k_ => some k_ ≠ (.slice Ao60 x5_1.length co60 : Value).ownBlock ∧ some k_ ≠ (v146 : Value).ownBlock) (fun _ => False) rfl rfl ?aO ?aR (fun _ _ h => h) (fun _ h => h.elim) ?aF ?aB ?aS ?aL ?_
                                      (case aR => repeat (first | exact (by repeat (first | (with_reducible exact HR140.out) | (with_reducible refine Kd.C_alloc ?_ _) | (with_reducible refine Kd.C_drewN ?_ _) | (with_reducible refine Kd.C_drew ?_) | exact HR140.out)) | (with_reducible refine Kd.C_alloc ?_ _) | (with_reducible refine Kd.C_drewN ?_ _) | (with_reducible refine Kd.C_drew ?_)))
                                      (case aB => exact (by repeat (first | (with_reducible first | exact HB.out | apply below_alloc | apply pw_below_drewN | apply below_drew1) | exact HB.out)))
                                      (case aF => exact (fun k_ hk => ⟨Kd.fresh' (Kd.R_lt (by (with_reducible repeat (first | apply Kd.R_alloc | apply Kd.R_drewN | apply Kd.R_drew)); exact HO_5.out)) k_ hk, Kd.fresh' (Kd.R_lt (by (with_reducible repeat (first | apply Kd.R_alloc | apply Kd.R_drewN | apply Kd.R_drew)); exact HO147.out)) k_ hk⟩))
                                      (case aO => exact (by (with_reducible repeat (first | apply Kd.R_alloc | apply Kd.R_drewN | apply Kd.R_drew)); exact Kd.R_mono HO136.out (fun _ hk => ⟨hk.1.2, hk.2⟩)))
                                      (case aS => exact (below_size (by repeat (first | (with_reducible first | exact HB.out | apply below_alloc | apply pw_below_drewN | apply below_drew1) | exact HB.out))))
                                      (case aL => have := LMc52.out; first | omega | exact this | exact Nat.le_of_lt this)
                                      intro v142 w68 ho hb hg hat
                                      rw [← Ny141.out] at ho
                                      have n0_ := Aside0.mk (Kd.R_after (ok := (fun k_ => some k_ ≠ (v146 : Value).ownBlock)) (by (with_reducible repeat (first | apply Kd.R_alloc | apply Kd.R_drewN | apply Kd.R_drew)); exact Kd.R_mono HO_5.out (fun _ hk => ⟨hk.1.2, hk.2⟩)) hg hat)
                                      have n1_ := Aside0.mk (Kd.R_after (ok := (fun k_ => some k_ ≠ (.slice Ao60 x5_1.length co60 : Value).ownBlock)) (by (with_reducible repeat (first | apply Kd.R_alloc | apply Kd.R_drewN | apply Kd.R_drew)); exact Kd.R_mono HO147.out (fun _ hk => ⟨hk.1.2, hk.2⟩)) hg hat)
                                      have n2_ := Aside0.mk (hb)
                                      have n3_ := Aside0.mk ((show Kd.C (Kd.int .u64) w68 Ao60 y137.length y137 from by rw [Ny137.out]; exact Kd.C_take (m := (x7_3 : Int).toNat) ((Kd.R_reads' (Kd.R_after (ok := (fun k_ => some k_ ≠ (v146 : Value).ownBlock)) (by (with_reducible repeat (first | apply Kd.R_alloc | apply Kd.R_drewN | apply Kd.R_drew)); exact Kd.R_mono HO_5.out (fun _ hk => ⟨hk.1.2, hk.2⟩)) hg hat)).2.2) KL62.out))
                                      have n4_ := Aside0.mk ((show Kd.C (Kd.int .u64) w68 A63 y151.length y151 from by rw [Ny151.out, KA63.out]; exact Kd.C_drop (m := (x7_3 : Int).toNat) (c := co60) ((Kd.R_reads' (Kd.R_after (ok := (fun k_ => some k_ ≠ (v146 : Value).ownBlock)) (by (with_reducible repeat (first | apply Kd.R_alloc | apply Kd.R_drewN | apply Kd.R_drew)); exact Kd.R_mono HO_5.out (fun _ hk => ⟨hk.1.2, hk.2⟩)) hg hat)).2.2) KL63.out ((Kd.R_reads' (Kd.R_after (ok := (fun k_ => some k_ ≠ (v146 : Value).ownBlock)) (by (with_reducible repeat (first | apply Kd.R_alloc | apply Kd.R_drewN | apply Kd.R_drew)); exact Kd.R_mono HO_5.out (fun _ hk => ⟨hk.1.2, hk.2⟩)) hg hat)).2.1)))
                                      have n5_ := Aside0.mk (ho)
                                      clear HO_5
                                      clear HO147
                                      clear HB
                                      clear HR140
                                      clear HR154
                                      clear HO136
                                      have HO_5 := n0_
                                      have HO147 := n1_
                                      have HB := n2_
                                      have HR140 := n3_
                                      have HR154 := n4_
                                      have HO143 := n5_
                                      clear n0_ n1_ n2_ n3_ n4_ n5_
                                      clear ho hb hg hat
                                      refine hK.out _ _ (((HB.out.cell (World.block_lt_of_cell? w _ hw144_0)).trans hw144_0)) (fun hHeld => ?_)
                                      clear hK K
                                      refine norm_ (a' := ?_) ?_ ?_
                                      rotate_left
                                      · show Act.put _ (some 56) _ = _
                                        simp only [Act.put, List.setIfInBounds_toArray, List.set_cons_zero, List.set_cons_succ, i64_w, i32_w]
                                        rfl
                                      exact norm_ (by simp only [putAll, Act.put, List.setIfInBounds_toArray, List.set_cons_zero, List.set_cons_succ]) (hCont (v135, v142, v146) _ ⟨hHeld, (by (with_reducible repeat (first | apply Kd.R_alloc | apply Kd.R_drewN | apply Kd.R_drew)); exact Kd.R_mono HO143.out (fun _ hk => ⟨hk.2, hk.1⟩)), (by (with_reducible repeat (first | apply Kd.R_alloc | apply Kd.R_drewN | apply Kd.R_drew)); exact Kd.R_mono HO147.out (fun _ hk => ⟨hk.2, hk.1⟩)), (by (with_reducible repeat (first | apply Kd.R_alloc | apply Kd.R_drewN | apply Kd.R_drew)); exact Kd.R_mono HO_5.out (fun _ hk => ⟨hk.2, hk.1⟩)), (by repeat (first | (with_reducible first | exact HB.out | apply below_alloc | apply pw_below_drewN | apply below_drew1) | exact HB.out))⟩)
                                  rintro ⟨v135, v142, v146⟩ w69 ⟨hS_, h0_, h1_, h2_, h3_⟩
                                  have n0_ : Aside0 (Kd.R (Kd.int .u64) 24 w69 w.heap.size (fun k_ => some k_ ≠ (v146 : Value).ownBlock ∧ some k_ ≠ (.slice Ao60 x5_1.length co60 : Value).ownBlock) v142 y141) := ⟨h0_⟩
                                  have n1_ : Aside0 (Kd.R (Kd.int .u64) 24 w69 w.heap.size (fun k_ => some k_ ≠ (v142 : Value).ownBlock ∧ some k_ ≠ (.slice Ao60 x5_1.length co60 : Value).ownBlock) v146 y145) := ⟨h1_⟩
                                  have n2_ : Aside0 (Kd.R (Kd.int .u64) 24 w69 w.heap.size (fun k_ => some k_ ≠ (v142 : Value).ownBlock ∧ some k_ ≠ (v146 : Value).ownBlock) (.slice Ao60 x5_1.length co60) x5_1) := ⟨h2_⟩
                                  have n3_ : Aside0 (Below w.heap.size w w69) := ⟨h3_⟩
                                  clear HO_5
                                  clear HB
                                  clear h0_ h1_ h2_ h3_
                                  have HO143 := n0_
                                  have HO147 := n1_
                                  have HO_5 := n2_
                                  have HB := n3_
                                  clear n0_ n1_ n2_ n3_
                                  have hHeld : w69.cell? (ad144.add (x10_1).toNat) = some (.int .u64 (rd l0 x10_1)) := hS_
                                  have HR140 := Aside0.mk (show Kd.C (Kd.int .u64) w69 Ao60 y137.length y137 from by rw [Ny137.out]; exact Kd.C_take (m := (x7_3 : Int).toNat) ((Kd.R_reads' (HO_5.out)).2.2) KL62.out)
                                  have HR154 := Aside0.mk (show Kd.C (Kd.int .u64) w69 A63 y151.length y151 from by rw [Ny151.out, KA63.out]; exact Kd.C_drop (m := (x7_3 : Int).toNat) (c := co60) ((Kd.R_reads' (HO_5.out)).2.2) KL63.out ((Kd.R_reads' (HO_5.out)).2.1))
                                  obtain ⟨Ao71, co71, eo71⟩ := Kd.R_slice HO147.out
                                  (first | subst eo71 | (injection eo71 with f1_ f2_ f3_; have f4_ := f1_.symm; have f5_ := f3_.symm; clear f1_ f2_ f3_; subst f4_; subst f5_))
                                  refine norm_ (a' := ?_) ?_ ?_
                                  rotate_left
                                  · simp only [putAll, Act.put, List.setIfInBounds_toArray, List.set_cons_zero, List.set_cons_succ]
                                    rfl
                                  refine one_ (i := 10) (N := some 62) #[true, true, true, true, true, true, true, true, true, true, true, true, true, true, false, false] rfl rfl (one_of HT_.out (by kernel_rfl)) (by decide) (fun K hK => ?_)
                                  refine Kd.R_append_rows_step (Kd.int .u64) (w0 := w) w.heap.size (by rfl) (.tmp 56) (.tmp 61) 22 24 (.int .u64 0) 8 rfl Try.underlying22 info24 rfl (by decide) (by omega) v142 y141 y145 _ _ _ (fun k_ => some k_ ≠ (.slice Ao60 x5_1.length co60 : Value).ownBlock ∧ some k_ ≠ (.slice Ao71 y145.length co71 : Value).ownBlock) (fun _ => False) rfl rfl ?aO ?aR (fun _ _ h => h) (fun _ h => h.elim) ?aF ?aB ?aS ?aL ?_
                                  (case aR => repeat (first | exact (Kd.R_reads' HO147.out).2.2 | (with_reducible refine Kd.C_alloc ?_ _) | (with_reducible refine Kd.C_drewN ?_ _) | (with_reducible refine Kd.C_drew ?_)))
                                  (case aB => exact (by repeat (first | (with_reducible first | exact HB.out | apply below_alloc | apply pw_below_drewN | apply below_drew1) | exact HB.out)))
                                  (case aF => exact (fun k_ hk => ⟨Kd.fresh' (Kd.R_lt (by (with_reducible repeat (first | apply Kd.R_alloc | apply Kd.R_drewN | apply Kd.R_drew)); exact HO_5.out)) k_ hk, Kd.fresh' (Kd.R_lt (by (with_reducible repeat (first | apply Kd.R_alloc | apply Kd.R_drewN | apply Kd.R_drew)); exact HO147.out)) k_ hk⟩))
                                  (case aO => exact (by (with_reducible repeat (first | apply Kd.R_alloc | apply Kd.R_drewN | apply Kd.R_drew)); exact Kd.R_mono HO143.out (fun _ hk => ⟨hk.2, hk.1⟩)))
                                  (case aS => exact (below_size (by repeat (first | (with_reducible first | exact HB.out | apply below_alloc | apply pw_below_drewN | apply below_drew1) | exact HB.out))))
                                  (case aL => have := LMc55.out; first | omega | exact this | exact Nat.le_of_lt this)
                                  intro v149 w70 ho hb hg hat
                                  rw [← Ny148.out] at ho
                                  have n0_ := Aside0.mk (Kd.R_after (ok := (fun k_ => some k_ ≠ (.slice Ao71 y145.length co71 : Value).ownBlock)) (by (with_reducible repeat (first | apply Kd.R_alloc | apply Kd.R_drewN | apply Kd.R_drew)); exact Kd.R_mono HO_5.out (fun _ hk => ⟨hk.2, hk.1⟩)) hg hat)
                                  have n1_ := Aside0.mk (Kd.R_after (ok := (fun k_ => some k_ ≠ (.slice Ao60 x5_1.length co60 : Value).ownBlock)) (by (with_reducible repeat (first | apply Kd.R_alloc | apply Kd.R_drewN | apply Kd.R_drew)); exact Kd.R_mono HO147.out (fun _ hk => ⟨hk.2, hk.1⟩)) hg hat)
                                  have n2_ := Aside0.mk (hb)
                                  have n3_ := Aside0.mk ((show Kd.C (Kd.int .u64) w70 Ao60 y137.length y137 from by rw [Ny137.out]; exact Kd.C_take (m := (x7_3 : Int).toNat) ((Kd.R_reads' (Kd.R_after (ok := (fun k_ => some k_ ≠ (.slice Ao71 y145.length co71 : Value).ownBlock)) (by (with_reducible repeat (first | apply Kd.R_alloc | apply Kd.R_drewN | apply Kd.R_drew)); exact Kd.R_mono HO_5.out (fun _ hk => ⟨hk.2, hk.1⟩)) hg hat)).2.2) KL62.out))
                                  have n4_ := Aside0.mk ((show Kd.C (Kd.int .u64) w70 A63 y151.length y151 from by rw [Ny151.out, KA63.out]; exact Kd.C_drop (m := (x7_3 : Int).toNat) (c := co60) ((Kd.R_reads' (Kd.R_after (ok := (fun k_ => some k_ ≠ (.slice Ao71 y145.length co71 : Value).ownBlock)) (by (with_reducible repeat (first | apply Kd.R_alloc | apply Kd.R_drewN | apply Kd.R_drew)); exact Kd.R_mono HO_5.out (fun _ hk => ⟨hk.2, hk.1⟩)) hg hat)).2.2) KL63.out ((Kd.R_reads' (Kd.R_after (ok := (fun k_ => some k_ ≠ (.slice Ao71 y145.length co71 : Value).ownBlock)) (by (with_reducible repeat (first | apply Kd.R_alloc | apply Kd.R_drewN | apply Kd.R_drew)); exact Kd.R_mono HO_5.out (fun _ hk => ⟨hk.2, hk.1⟩)) hg hat)).2.1)))
                                  have n5_ := Aside0.mk (ho)
                                  clear HO_5
                                  clear HO147
                                  clear HB
                                  clear HR140
                                  clear HR154
                                  clear HO143
                                  have HO_5 := n0_
                                  have HO147 := n1_
                                  have HB := n2_
                                  have HR140 := n3_
                                  have HR154 := n4_
                                  have HO150 := n5_
                                  clear n0_ n1_ n2_ n3_ n4_ n5_
                                  clear ho hb hg hat
                                  refine hK.out _ _ (((HB.out.cell (World.block_lt_of_cell? w _ hw144_0)).trans hw144_0)) (fun hHeld => ?_)
                                  clear hK K
                                  refine norm_ (a' := ?_) ?_ ?_
                                  rotate_left
                                  · show Act.put _ (some 62) _ = _
                                    simp only [Act.put, List.setIfInBounds_toArray, List.set_cons_zero, List.set_cons_succ, i64_w, i32_w]
                                    rfl
                                  refine one_ (i := 14) (N := some 66) #[true, true, true, true, true, true, true, true, true, true, true, true, true, true, true, false] rfl rfl (one_of HT_.out (by kernel_rfl)) (by decide) (fun K hK => ?_)
                                  refine Kd.R_append_rows_step (Kd.int .u64) (w0 := w) w.heap.size (by rfl) (.tmp 62) (.tmp 65) 22 24 (.int .u64 0) 8 rfl Try.underlying22 info24 rfl (by decide) (by omega) v149 y148 y151 _ _ _ (fun k_ => some k_ ≠ (.slice Ao60 x5_1.length co60 : Value).ownBlock ∧ some k_ ≠ (.slice Ao71 y145.length co71 : Value).ownBlock) (fun _ => False) rfl rfl ?aO ?aR (fun _ _ h => h) (fun _ h => h.elim) ?aF ?aB ?aS ?aL ?_
                                  (case aR => repeat (first | exact (by repeat (first | (with_reducible exact HR154.out) | (with_reducible refine Kd.C_alloc ?_ _) | (with_reducible refine Kd.C_drewN ?_ _) | (with_reducible refine Kd.C_drew ?_) | exact HR154.out)) | (with_reducible refine Kd.C_alloc ?_ _) | (with_reducible refine Kd.C_drewN ?_ _) | (with_reducible refine Kd.C_drew ?_)))
                                  (case aB => exact (by repeat (first | (with_reducible first | exact HB.out | apply below_alloc | apply pw_below_drewN | apply below_drew1) | exact HB.out)))
                                  (case aF => exact (fun k_ hk => ⟨Kd.fresh' (Kd.R_lt (by (with_reducible repeat (first | apply Kd.R_alloc | apply Kd.R_drewN | apply Kd.R_drew)); exact HO_5.out)) k_ hk, Kd.fresh' (Kd.R_lt (by (with_reducible repeat (first | apply Kd.R_alloc | apply Kd.R_drewN | apply Kd.R_drew)); exact HO147.out)) k_ hk⟩))
                                  (case aO => exact (by (with_reducible repeat (first | apply Kd.R_alloc | apply Kd.R_drewN | apply Kd.R_drew)); exact HO150.out))
                                  (case aS => exact (below_size (by repeat (first | (with_reducible first | exact HB.out | apply below_alloc | apply pw_below_drewN | apply below_drew1) | exact HB.out))))
                                  (case aL => have := LMc58.out; first | omega | exact this | exact Nat.le_of_lt this)
                                  intro v156 w72 ho hb hg hat
                                  rw [← Ny155.out] at ho
                                  have n0_ := Aside0.mk (Kd.R_after (ok := (fun k_ => some k_ ≠ (.slice Ao71 y145.length co71 : Value).ownBlock)) (by (with_reducible repeat (first | apply Kd.R_alloc | apply Kd.R_drewN | apply Kd.R_drew)); exact HO_5.out) hg hat)
                                  have n1_ := Aside0.mk (Kd.R_after (ok := (fun k_ => some k_ ≠ (.slice Ao60 x5_1.length co60 : Value).ownBlock)) (by (with_reducible repeat (first | apply Kd.R_alloc | apply Kd.R_drewN | apply Kd.R_drew)); exact HO147.out) hg hat)
                                  have n2_ := Aside0.mk (hb)
                                  have n3_ := Aside0.mk ((show Kd.C (Kd.int .u64) w72 Ao60 y137.length y137 from by rw [Ny137.out]; exact Kd.C_take (m := (x7_3 : Int).toNat) ((Kd.R_reads' (Kd.R_after (ok := (fun k_ => some k_ ≠ (.slice Ao71 y145.length co71 : Value).ownBlock)) (by (with_reducible repeat (first | apply Kd.R_alloc | apply Kd.R_drewN | apply Kd.R_drew)); exact HO_5.out) hg hat)).2.2) KL62.out))
                                  have n4_ := Aside0.mk ((show Kd.C (Kd.int .u64) w72 A63 y151.length y151 from by rw [Ny151.out, KA63.out]; exact Kd.C_drop (m := (x7_3 : Int).toNat) (c := co60) ((Kd.R_reads' (Kd.R_after (ok := (fun k_ => some k_ ≠ (.slice Ao71 y145.length co71 : Value).ownBlock)) (by (with_reducible repeat (first | apply Kd.R_alloc | apply Kd.R_drewN | apply Kd.R_drew)); exact HO_5.out) hg hat)).2.2) KL63.out ((Kd.R_reads' (Kd.R_after (ok := (fun k_ => some k_ ≠ (.slice Ao71 y145.length co71 : Value).ownBlock)) (by (with_reducible repeat (first | apply Kd.R_alloc | apply Kd.R_drewN | apply Kd.R_drew)); exact HO_5.out) hg hat)).2.1)))
                                  have n5_ := Aside0.mk (ho)
                                  clear HO_5
                                  clear HO147
                                  clear HB
                                  clear HR140
                                  clear HR154
                                  clear HO150
                                  have HO_5 := n0_
                                  have HO147 := n1_
                                  have HB := n2_
                                  have HR140 := n3_
                                  have HR154 := n4_
                                  have HO157 := n5_
                                  clear n0_ n1_ n2_ n3_ n4_ n5_
                                  clear ho hb hg hat
                                  refine hK.out _ _ (((HB.out.cell (World.block_lt_of_cell? w _ hw144_0)).trans hw144_0)) (fun hHeld => ?_)
                                  clear hK K
                                  refine norm_ (a' := ?_) ?_ ?_
                                  rotate_left
                                  · show Act.put _ (some 66) _ = _
                                    simp only [Act.put, List.setIfInBounds_toArray, List.set_cons_zero, List.set_cons_succ, i64_w, i32_w]
                                    rfl
                                  refine pure_ (i := 15) (N := some 5) (v := ?_) (a' := ?_) #[true, true, true, true, true, true, true, true, true, true, true, true, true, true, true, true] rfl rfl (any_of HT_.out (by kernel_rfl)) (fun _ _ _ h => h) (Or.inl ⟨by rfl, ?_⟩) ?_ ?_
                                  rotate_left
                                  · intro w'
                                    go_simp
                                    with_reducible rfl
                                  rotate_left
                                  · simp only [Act.put, List.setIfInBounds_toArray, List.set_cons_zero, List.set_cons_succ, i64_w, i32_w]
                                    rfl
                                  refine done_ (done_of HT_.out (by kernel_rfl)) ?_
                                  try go_wp2
                                  go_roundg k3
                                  case measure => have := HK1.out; have := HJ3.out; have := HK3.out; omega
                                  case rel => exact ⟨(y155), (wrap64 (x10_1 + 1)), (by first | rfl | (simp; done) | (simp [*]; done)), H', ⟨by have := HK1.out; have := HJ3.out; have := HK3.out; omega⟩, ⟨by (with_reducible repeat (first | apply Kd.R_alloc | apply Kd.R_drewN | apply Kd.R_drew)); exact Kd.R_mono HO157.out (fun _ hk => trivial)⟩, ⟨by repeat (first | (with_reducible first | exact HB.out | apply below_alloc | apply pw_below_drewN | apply below_drew1) | exact HB.out)⟩⟩
                                · rw [if_neg c58] at H
                                  exact absurd H (by simp)
                              · rw [if_neg c55] at H
                                exact absurd H (by simp)
                            · rw [if_neg c54] at H
                              exact absurd H (by simp)
                          · rw [if_neg c53] at H
                            exact absurd H (by simp)
                        · rw [if_neg c52] at H
                          exact absurd H (by simp)
                      · rw [if_neg c51] at H
                        exact absurd H (by simp)
                    · rw [if_neg c50] at H
                      exact absurd H (by simp)
      · rw [if_neg c3] at H
        have c3b0 : decide (x10_1 < (l0.length : Int)) = false := decide_eq_false c3
        clear c3
        obtain rfl := Option.some.inj H
        go_wp2
        go_ret
        exact ⟨_, by first | rfl | (simp [errW_none, errW_some] <;> rfl) | (simp [*, errW_none, errW_some] <;> rfl), by (with_reducible repeat (first | apply Kd.R_alloc | apply Kd.R_drewN | apply Kd.R_drew)); exact HO_5.out, by repeat (first | (with_reducible first | exact HB.out | apply below_alloc | apply pw_below_drewN | apply below_drew1) | exact HB.out)⟩

end Go.Proofs.Ytcneoonhdfblaaa.Q
