-- printed by this project's own program wip/tools/mkprint.py (the kit's print.py with hand-proved contracts put in)
import Derived.Test.YtbffhefeepmpcaaQx0
import Derived.Test.YtbffhefeepmpcaaQx5
import Derived.Test.YtbffhefeepmpcaaQx8
import Derived.Test.YtbffhefeepmpcaaQx13
import Derived.Test.YtbffhefeepmpcaaQx14
import Derived.Test.YtbffhefeepmpcaaQx15
namespace Go.Proofs.Ytbffhefeepmpcaa.Q
open Go.RowKit Go.Proofs.YtbffhefeepmpcaaW.PrintWords Go.Proofs.YtbffhefeepmpcaaW.PrintLast Go.Proofs.YtbffhefeepmpcaaW.PrintMore
attribute [local go_sem] max2_int min2_int max_two min_two max_three min_three max_four min_four   -- for this text's walks alone
set_option linter.unusedVariables false
set_option linter.unusedSimpArgs false

/-! ### impl_MatchAny: function 36 -/
-- a contract that was proved by hand
def lessLists (l : List (List S37)) : Bool := decide (l.length ≤ 17592186044416) && decide (l.length ≤ maxLen) && l.all less44
def impl_MatchAny.f (l0 : List (List S37)) (l1 : List S48) : Option Bool := if lessLists l0 = true ∧ lessMax l1 = true then some ((l0.map fun x => x.map toMat).any fun x => msOk x (setL l1)) else none
theorem lists_at {w : World} {A : Option Addr} {n : Nat} {l : List (List S37)} (h : Kd.C (Kd.slice 37 k37) w A n l) (i : Int) (h0 : 0 ≤ i) (h1 : i < n) :
    ∃ ad B c, A = some ad ∧ w.cell? (ad.add i.toNat) = some (.slice B (l.getD i.toNat []).length c) ∧ (l.getD i.toNat []).length ≤ c ∧ Kd.C k37 w B (l.getD i.toNat []).length (l.getD i.toNat []) := by
  obtain ⟨ad, cs, e, _, hK, hc0⟩ := Kd.C_get h [] i h0 h1
  obtain ⟨B, c, rfl, hl, hC⟩ := hK
  refine ⟨ad, B, c, e, ?_, hl, hC⟩
  have := hc0 0 _ rfl
  simpa [Kd.slice] using this
theorem infoPMs : (Try.prog.info? 91).map (fun i => (i.zero, i.size, i.bytes)) = some (some (.pointer none), 1, 8) := by kernel_rfl
theorem msAll {l : List (List S37)} (h : l.all less44 = true) : ∀ x ∈ l.map (fun x => x.map toMat), x.length ≤ maxLen ∧ ∀ a ∈ x, okM a := by
  intro x hx
  obtain ⟨y, hy, rfl⟩ := List.mem_map.1 hx
  have := List.all_eq_true.1 h y hy
  simp only [less44, Bool.and_eq_true, decide_eq_true_eq] at this
  exact ⟨by rw [List.length_map]; exact this.1.2, okM_all this.2⟩
set_option maxHeartbeats 1600000 in
set_option maxRecDepth 100000 in
theorem impl_MatchAny.calls (A0 : Option Addr) (c0 : Nat) (l0 : List (List S37)) (A1 : Option Addr) (c1 : Nat) (l1 : List S48) (r : Bool) (w : World) (hr0 : Kd.C (Kd.slice 37 k37) w A0 l0.length l0) (hc0 : l0.length ≤ c0) (hr1 : Kd.C k48 w A1 l1.length l1) (hc1 : l1.length ≤ c1) (h : impl_MatchAny.f l0 l1 = some r) :
    Calls Try.prog 36 #[.slice A0 l0.length c0, .slice A1 l1.length c1] w fun e w' => e = .returned (.bool r) ∧ Below w.heap.size w w' := by
  unfold impl_MatchAny.f at h
  split at h
  · rename_i hl
    simp only [lessLists, lessMax, Bool.and_eq_true, decide_eq_true_eq] at hl
    obtain ⟨⟨⟨h1, h1'⟩, h2⟩, h3, h4⟩ := hl
    have HQ := Aside0.mk (Option.some.inj h)
    have HK := Aside0.mk (msAll h2)
    have HS := Aside0.mk h2
    have HL := Aside0.mk (show (l0.map fun x => x.map toMat).length ≤ maxLen by rw [List.length_map]; exact h1')
    clear h h2 h1'
    have R0 := Aside0.mk hr0
    have R1 := Aside0.mk hr1
    have X1 := Aside0.mk hc1
    have X2 := Aside0.mk h3
    have X3 := Aside0.mk h4
    clear hr0 hc0 hr1 hc1 h3 h4
    go_enter Try.func36, Try.ntmps36
    go_wp2
    go_loopw [5, 11] (fun v5 v11 wr => ∃ j : Nat, j ≤ l0.length ∧ v11 = .int .i64 j ∧ Aside0 (kMats.R 91 wr w.heap.size (fun _ => True) v5 ((l0.take j).map fun x => x.map toMat)) ∧ Aside0 (Below w.heap.size w wr)) (fun _ v11 _ => l0.length - (intOf v11).toNat)
    case atStart => exact ⟨0, Nat.zero_le _, rfl, ⟨Kd.R_nil _ _ _ _ _⟩, ⟨Below.refl _ _⟩⟩
    case round =>
      obtain ⟨j, hj, rfl, HO, HB⟩ := hrel
      by_cases hlt : j < l0.length
      · obtain ⟨ad, B, c, e0, hx, hxl, hC⟩ := lists_at (Kd.C_below R0.out HB.out) (j : Int) (by omega) (by omega)
        cases e0
        simp only [Int.toNat_natCast] at hx hxl hC
        have hT : (l0.take (j + 1)).map (fun x => x.map toMat) = (l0.take j).map (fun x => x.map toMat) ++ [(l0.getD j []).map toMat] := by rw [Box.take_more l0 [] j hlt, List.map_append]; rfl
        have hs := List.all_eq_true.1 HS.out (l0.getD j []) (by rw [List.getD_eq_getElem?_getD, List.getElem?_eq_getElem hlt]; exact List.getElem_mem hlt)
        simp only [less44, Bool.and_eq_true, decide_eq_true_eq] at hs
        have CI := Aside0.mk (impl_inners.calls B c (l0.getD j []) wr hC hxl hs.1.1)
        have HT := Aside0.mk hT
        clear hT hs hC hxl
        generalize (l0.getD j []) = x at *
        go_wp2_with fail
        refine CI.out.mono ?_
        rintro e w1 ⟨v, rfl, hO, hb1⟩
        obtain ⟨A', c', rfl⟩ := Kd.R_slice hO
        rw [List.length_map] at hO
        have HS0 := Aside0.mk (show w.heap.size ≤ wr.heap.size from below_size HB.out)
        have HLT := Aside0.mk (show ∀ k, u5.ownBlock = some k → k < wr.heap.size from fun k hk => by obtain ⟨_, inner, ho, _⟩ := HO.out; exact own_lt ho k hk)
        have HV := Aside0.mk (Kd.R_mono (Kd.R_bound hO) (ok' := fun k => wr.heap.size ≤ k) (fun k hk => hk.2.1))
        have HO1 := Aside0.mk (Kd.R_below HO.out hb1)
        have HB1 := Aside0.mk (below_step HB.out hb1)
        have HZ := Aside0.mk (show wr.heap.size ≤ w1.heap.size from below_size hb1)
        clear HO HB hO hb1 hx
        have hW : (w1.alloc (Obj.cells #[.slice A' x.length c'] 79)).heap[w1.heap.size]? = some (.cells #[.slice A' x.length c'] 79 (0, 0)) := Box.new_at rfl _
        have AP := Aside0.mk (show kMats.M (w1.alloc (Obj.cells #[.slice A' x.length c'] 79)) w.heap.size (fun k => wr.heap.size ≤ k) (x.map toMat) [.pointer (some ⟨w1.heap.size, 0, none⟩)] from ⟨w1.heap.size, #[.slice A' x.length c'], rfl, HZ.out, Nat.le_trans HS0.out HZ.out, hW, .slice A' x.length c', rfl, Kd.R_lower (Kd.R_alloc HV.out _) HS0.out⟩)
        have AK := Aside0.mk (show ∀ k, wr.heap.size ≤ k → True ∧ some k ≠ u5.ownBlock from fun k hk => ⟨trivial, fun e => by have := HLT.out _ e.symm; omega⟩)
        have AO := Aside0.mk (Kd.R_alloc HO1.out (Obj.cells #[.slice A' x.length c'] 79))
        have AB := Aside0.mk (below_alloc HB1.out (Obj.cells #[.slice A' x.length c'] 79))
        have AL := Aside0.mk (show (((l0.take j).map fun x => x.map toMat).length + 1) * 8 ≤ 140737488355328 by rw [List.length_map, List.length_take]; omega)
        clear hW HO1 HB1 HV HZ HS0 HLT
        go_wp2_with ((with_reducible refine gate_builtin (b := .append) (xs := #[.tmp 17, .tmp 18]) rfl ?_); at_builtin; refine Kd.R_append kMats (w0 := w) w.heap.size rfl (.tmp 17) (.tmp 18) 90 91 (.pointer none) 8 rfl Try.underlying90 infoPMs rfl (by decide) (by omega) u5 ((l0.take j).map fun x => x.map toMat) (x.map toMat) [.pointer (some ⟨w1.heap.size, 0, none⟩)] (fun _ => True) (fun k => wr.heap.size ≤ k) rfl (by first | (go_simp; done) | (go_simp; rfl)) AP.out AK.out (fun _ _ => trivial) AO.out AB.out (below_size AB.out) AL.out ?_; intro v2 w2 hO2 hB2 hg2 hat2; rw [← HT.out] at hO2; have HO2 := Aside0.mk hO2; have HB2 := Aside0.mk hB2; clear hO2 hB2 hg2 hat2 AO AB AP AK HT)
        go_roundw
        case rel => exact ⟨j + 1, by omega, by go_num, HO2, HB2⟩
        case measure => simp [intOf]; omega
      · have hj2 : j = l0.length := by omega
        subst hj2
        have hO := HO.out
        rw [List.take_of_length_le (Nat.le_refl _)] at hO
        have HO1 := Aside0.mk hO
        clear hO HO
        go_wp2_with fail
        refine (impl_labelSet.calls A1 c1 l1 wr (Kd.C_below R1.out HB.out) X1.out X2.out X3.out).mono ?_
        rintro e w2 ⟨b', rfl, hb', hM', hB'⟩
        have hO2 := Kd.R_below HO1.out hB'
        obtain ⟨A, c, rfl, hlc, hC⟩ := Kd.R_reads hO2
        have HC := Aside0.mk hC
        have HM := Aside0.mk hM'
        have HB2 := Aside0.mk (below_step HB.out hB')
        clear hM' hB' hb' hO2 hC HO1 HB
        generalize l0.map (fun x => x.map toMat) = l at *
        go_wp2_with fail
        have HE := labels_MatcherSet_Matches.calls A c l b' _ _ w2 HC.out HL.out HK.out HM.out
        rw [HQ.out] at HE
        refine HE.mono ?_
        clear HE
        rintro e w3 ⟨rfl, hD⟩
        have HB3 := Aside0.mk (below_step HB2.out hD.below)
        clear hD
        go_wp2
        go_ret
        exact ⟨rfl, HB3.out⟩
  · cases h


/-! ### spec_MatchAny: function 37 -/
def spec_MatchAny.l0 : Nat → List (List (S40)) → List (S50) → Int → Int → Int → Option (Int)
  | 0, _, _, _, _, _ => none
  | k + 1, x0, x1, x5, x12, x13 => if x13 < x12 then (if 0 ≤ x13 then (if x13 < (x0.length : Int) then ((spec_MatchAll.f k (rd_L13 x0 x13) x1).bind fun t317 => (if t317 = 1 then (some 1) else (if t317 = 2 then (spec_MatchAny.l0 k x0 x1 2 x12 (wrap64 (x13 + 1))) else (spec_MatchAny.l0 k x0 x1 x5 x12 (wrap64 (x13 + 1)))))) else (none)) else (none)) else (some x5)
def spec_MatchAny.f (k : Nat) (l0 : List (List (S40))) (l1 : List (S50)) : Option (Int) := if (l0.length : Int) = 0 then (some 2) else (spec_MatchAny.l0 k l0 l1 0 (l0.length : Int) 0)
theorem spec_MatchAny.mono_l : ∀ k, (∀ y0 y1 y2 y3 y4, LeO (spec_MatchAny.l0 k y0 y1 y2 y3 y4) (spec_MatchAny.l0 (k + 1) y0 y1 y2 y3 y4))
  | 0 => fun _ _ _ _ _ r h => by simp [spec_MatchAny.l0] at h
  | k + 1 => by
    have ih0 := spec_MatchAny.mono_l k
    · intro y0 y1 y2 y3 y4
      unfold spec_MatchAny.l0
      repeat' first
      | (with_reducible exact ih0 _ _ _ _ _)
      | (with_reducible exact spec_MatchAll.mono _ _ _)
      | (with_reducible exact LeO.refl _)
      | (with_reducible exact LeO.none _)
      | (with_reducible refine LeO.ite ?_ ?_)
      | (with_reducible refine LeO.bind ?_ (fun _ => ?_))
      | exact ih0 _ _ _ _ _
      | exact spec_MatchAll.mono _ _ _
      | exact LeO.none _
      | refine LeO.ite ?_ ?_
      | refine LeO.bind ?_ (fun _ => ?_)
theorem spec_MatchAny.mono : ∀ a0 a1 k, LeO (spec_MatchAny.f k a0 a1) (spec_MatchAny.f (k + 1) a0 a1) := by
  intro a0 a1 k
  have ih0 := spec_MatchAny.mono_l k
  unfold spec_MatchAny.f
  repeat' first
      | (with_reducible exact ih0 _ _ _ _ _)
      | (with_reducible exact spec_MatchAll.mono _ _ _)
      | (with_reducible exact LeO.refl _)
      | (with_reducible exact LeO.none _)
      | (with_reducible refine LeO.ite ?_ ?_)
      | (with_reducible refine LeO.bind ?_ (fun _ => ?_))
      | exact ih0 _ _ _ _ _
      | exact spec_MatchAll.mono _ _ _
      | exact LeO.none _
      | refine LeO.ite ?_ ?_
      | refine LeO.bind ?_ (fun _ => ?_)
set_option maxHeartbeats 8000000 in
set_option maxRecDepth 100000 in
theorem spec_MatchAny.calls (k : Nat) (A0 : Option Addr) (c0 : Nat) (l0 : List (List (S40))) (A1 : Option Addr) (c1 : Nat) (l1 : List (S50)) (r : Int) (w : World) (hr0 : Kd.C (Kd.slice 40 k40) w A0 l0.length l0) (hc0 : l0.length ≤ c0) (hr1 : Kd.C k50 w A1 l1.length l1) (hc1 : l1.length ≤ c1) (h : spec_MatchAny.f k l0 l1 = some r) :
    Calls Try.prog 37 #[.slice A0 l0.length c0, .slice A1 l1.length c1] w fun e w' => e = .returned (.int .i64 r) ∧ Below w.heap.size w w' := by
  have HR0 := Aside0.mk hr0
  have HC0 := Aside0.mk hc0
  clear hr0 hc0
  have HR1 := Aside0.mk hr1
  have HC1 := Aside0.mk hc1
  clear hr1 hc1
  have HB := Aside0.mk (Below.refl w.heap.size w)
  have H : (if (l0.length : Int) = 0 then (some 2) else (spec_MatchAny.l0 k l0 l1 0 (l0.length : Int) 0)) = some r := h
  clear h
  by_cases c3 : (l0.length : Int) = 0
  · rw [if_pos c3] at H
    have c3b0 : ((l0.length : Int) == 0) = true := beq_iff_eq.mpr c3
    have c3b1 : ((l0.length : Int) != 0) = false := bne_eq_false_iff_eq.mpr c3
    clear c3
    obtain rfl := Option.some.inj H
    go_enter Try.func37, Try.ntmps37
    go_wp2
    go_ret
    exact ⟨by first | rfl | (simp [errW_none, errW_some] <;> rfl) | (simp [*, errW_none, errW_some] <;> rfl), by repeat (first | (with_reducible first | exact HB.out | apply below_alloc | apply pw_below_drewN | apply below_drew1) | exact HB.out)⟩
  · rw [if_neg c3] at H
    have c3b0 : ((l0.length : Int) == 0) = false := beq_eq_false_iff_ne.mpr c3
    have c3b1 : ((l0.length : Int) != 0) = true := bne_iff_ne.mpr c3
    have c3b2 : ¬ (l0 = []) := fun h_ => c3 (by rw [h_]; rfl)
    have H' := Aside0.mk H
    clear H
    go_enter Try.func37, Try.ntmps37
    go_wp2
    go_loopg [5, 13] k (fun kq v5 v13 w' => ∃ (x5_1 : Int) (x13_1 : Int), v5 = .int .i64 x5_1 ∧ v13 = .int .i64 x13_1 ∧ Aside0 (spec_MatchAny.l0 kq l0 l1 x5_1 (l0.length : Int) x13_1 = some r) ∧ Aside0 (kq ≤ k) ∧ Aside0 (Below w.heap.size w w'))
    case atStart => exact ⟨(0), (0), (by first | rfl | (simp; done) | (simp [*]; done)), (by first | rfl | (simp; done) | (simp [*]; done)), H', ⟨Nat.le_refl _⟩, ⟨by repeat (first | (with_reducible first | exact HB.out | apply below_alloc | apply pw_below_drewN | apply below_drew1) | exact HB.out)⟩⟩
    case round =>
      clear H'
      try clear c1
      try clear p2
      try clear c3
      try clear c3b0
      try clear c3b1
      try clear c3b2
      obtain ⟨x5_1, x13_1, rfl, rfl, HA, HK1, HB⟩ := hrel
      cases gk with
      | zero => exact absurd HA.out (by simp [spec_MatchAny.l0])
      | succ k1 =>
        have H := HA.out
        clear HA
        simp only [spec_MatchAny.l0] at H
        by_cases c4 : x13_1 < (l0.length : Int)
        · rw [if_pos c4] at H
          have c4b0 : decide (x13_1 < (l0.length : Int)) = true := decide_eq_true c4
          clear c4
          by_cases c5 : 0 ≤ x13_1
          · rw [if_pos c5] at H
            have c5b0 : decide (0 ≤ x13_1) = true := decide_eq_true c5
            clear c5
            by_cases c6 : x13_1 < (l0.length : Int)
            · rw [if_pos c6] at H
              have c6b0 : decide (x13_1 < (l0.length : Int)) = true := decide_eq_true c6
              clear c6
              replace H := Option.bind_eq_some_iff.mp H
              obtain ⟨t317, A70, H⟩ := H
              replace H : (if t317 = 1 then (some 1) else (if t317 = 2 then (spec_MatchAny.l0 k1 l0 l1 2 (l0.length : Int) (wrap64 (x13_1 + 1))) else (spec_MatchAny.l0 k1 l0 l1 x5_1 (l0.length : Int) (wrap64 (x13_1 + 1))))) = some r := H
              have A7 := Aside0.mk A70
              clear A70
              by_cases c8 : t317 = 1
              · rw [if_pos c8] at H
                have c8b0 : (t317 == 1) = true := beq_iff_eq.mpr c8
                have c8b1 : (t317 != 1) = false := bne_eq_false_iff_eq.mpr c8
                clear c8
                obtain rfl := Option.some.inj H
                have p316 : 0 ≤ (x13_1 : Int) := of_decide_eq_true (by first | (with_reducible assumption) | assumption)
                have q316 : x13_1 < (l0.length : Int) := of_decide_eq_true (by first | (with_reducible assumption) | assumption)
                obtain ⟨ad316, A316_0, c316_0, e316, hx316_0, hl316_0, hi316_0⟩ := at_L13 HR0.out x13_1 p316 q316
                cases e316
                replace hx316_0 := (HB.out.cell (World.block_lt_of_cell? w _ hx316_0)).trans hx316_0
                have HR316_0 := Aside0.mk hi316_0
                have HC316_0 := Aside0.mk hl316_0
                clear hi316_0 hl316_0
                replace p316 := eq_true p316
                replace q316 := eq_true q316
                go_wp2_with (first | ((with_reducible refine gate_callee (f := 33) rfl ?_); refine goesL_ (some 21) rfl rfl Try.func33 (by kernel_rfl) rfl #[.slice A316_0 (rd_L13 l0 x13_1).length c316_0, .slice A1 l1.length c1] rfl (by (try simp only [List.map_toArray, List.map_cons, List.map_nil]); first | done | rfl | (simp only [List.length_drop, List.length_take]; rfl)) ?_; (with_reducible refine (spec_MatchAll.calls k1 _ _ (rd_L13 l0 x13_1) _ _ l1 t317 _ ?side1 ?side2 ?side3 ?side4 A7.out).mono ?_); (case side1 => repeat (first | exact (Kd.C_below HR316_0.out HB.out) | (with_reducible refine Kd.C_alloc ?_ _) | (with_reducible refine Kd.C_drewN ?_ _) | (with_reducible refine Kd.C_drew ?_))); (case side2 => exact HC316_0.out); (case side3 => repeat (first | exact (Kd.C_below HR1.out HB.out) | (with_reducible refine Kd.C_alloc ?_ _) | (with_reducible refine Kd.C_drewN ?_ _) | (with_reducible refine Kd.C_drew ?_))); (case side4 => exact HC1.out); rintro e w9 ⟨rfl, hb⟩; refine ⟨_, rfl, ?_⟩; have n0_ := Aside0.mk (below_step (by repeat (first | (with_reducible first | exact HB.out | apply below_alloc | apply pw_below_drewN | apply below_drew1) | exact HB.out)) hb); clear HB; have HB := n0_; clear n0_; (try clear hb); (try clear hb2); (try clear hk); (try clear hi)))
                go_ret
                exact ⟨by first | rfl | (simp [errW_none, errW_some] <;> rfl) | (simp [*, errW_none, errW_some] <;> rfl), by repeat (first | (with_reducible first | exact HB.out | apply below_alloc | apply pw_below_drewN | apply below_drew1) | exact HB.out)⟩
              · rw [if_neg c8] at H
                have c8b0 : (t317 == 1) = false := beq_eq_false_iff_ne.mpr c8
                have c8b1 : (t317 != 1) = true := bne_iff_ne.mpr c8
                by_cases c10 : t317 = 2
                · rw [if_pos c10] at H
                  have c10b0 : (t317 == 2) = true := beq_iff_eq.mpr c10
                  have c10b1 : (t317 != 2) = false := bne_eq_false_iff_eq.mpr c10
                  clear c10
                  have H' := Aside0.mk H
                  clear H
                  have p316 : 0 ≤ (x13_1 : Int) := of_decide_eq_true (by first | (with_reducible assumption) | assumption)
                  have q316 : x13_1 < (l0.length : Int) := of_decide_eq_true (by first | (with_reducible assumption) | assumption)
                  obtain ⟨ad316, A316_0, c316_0, e316, hx316_0, hl316_0, hi316_0⟩ := at_L13 HR0.out x13_1 p316 q316
                  cases e316
                  replace hx316_0 := (HB.out.cell (World.block_lt_of_cell? w _ hx316_0)).trans hx316_0
                  have HR316_0 := Aside0.mk hi316_0
                  have HC316_0 := Aside0.mk hl316_0
                  clear hi316_0 hl316_0
                  replace p316 := eq_true p316
                  replace q316 := eq_true q316
                  go_wp2_with (first | ((with_reducible refine gate_callee (f := 33) rfl ?_); refine goesL_ (some 21) rfl rfl Try.func33 (by kernel_rfl) rfl #[.slice A316_0 (rd_L13 l0 x13_1).length c316_0, .slice A1 l1.length c1] rfl (by (try simp only [List.map_toArray, List.map_cons, List.map_nil]); first | done | rfl | (simp only [List.length_drop, List.length_take]; rfl)) ?_; (with_reducible refine (spec_MatchAll.calls k1 _ _ (rd_L13 l0 x13_1) _ _ l1 t317 _ ?side1 ?side2 ?side3 ?side4 A7.out).mono ?_); (case side1 => repeat (first | exact (Kd.C_below HR316_0.out HB.out) | (with_reducible refine Kd.C_alloc ?_ _) | (with_reducible refine Kd.C_drewN ?_ _) | (with_reducible refine Kd.C_drew ?_))); (case side2 => exact HC316_0.out); (case side3 => repeat (first | exact (Kd.C_below HR1.out HB.out) | (with_reducible refine Kd.C_alloc ?_ _) | (with_reducible refine Kd.C_drewN ?_ _) | (with_reducible refine Kd.C_drew ?_))); (case side4 => exact HC1.out); rintro e w11 ⟨rfl, hb⟩; refine ⟨_, rfl, ?_⟩; have n0_ := Aside0.mk (below_step (by repeat (first | (with_reducible first | exact HB.out | apply below_alloc | apply pw_below_drewN | apply below_drew1) | exact HB.out)) hb); clear HB; have HB := n0_; clear n0_; (try clear hb); (try clear hb2); (try clear hk); (try clear hi)))
                  go_roundg k1
                  case measure => have := HK1.out; omega
                  case rel => exact ⟨(2), (wrap64 (x13_1 + 1)), (by first | rfl | (simp; done) | (simp [*]; done)), (by first | rfl | (simp; done) | (simp [*]; done)), H', ⟨by have := HK1.out; omega⟩, ⟨by repeat (first | (with_reducible first | exact HB.out | apply below_alloc | apply pw_below_drewN | apply below_drew1) | exact HB.out)⟩⟩
                · rw [if_neg c10] at H
                  have c10b0 : (t317 == 2) = false := beq_eq_false_iff_ne.mpr c10
                  have c10b1 : (t317 != 2) = true := bne_iff_ne.mpr c10
                  have H' := Aside0.mk H
                  clear H
                  have p316 : 0 ≤ (x13_1 : Int) := of_decide_eq_true (by first | (with_reducible assumption) | assumption)
                  have q316 : x13_1 < (l0.length : Int) := of_decide_eq_true (by first | (with_reducible assumption) | assumption)
                  obtain ⟨ad316, A316_0, c316_0, e316, hx316_0, hl316_0, hi316_0⟩ := at_L13 HR0.out x13_1 p316 q316
                  cases e316
                  replace hx316_0 := (HB.out.cell (World.block_lt_of_cell? w _ hx316_0)).trans hx316_0
                  have HR316_0 := Aside0.mk hi316_0
                  have HC316_0 := Aside0.mk hl316_0
                  clear hi316_0 hl316_0
                  replace p316 := eq_true p316
                  replace q316 := eq_true q316
                  go_wp2_with (first | ((with_reducible refine gate_callee (f := 33) rfl ?_); refine goesL_ (some 21) rfl rfl Try.func33 (by kernel_rfl) rfl #[.slice A316_0 (rd_L13 l0 x13_1).length c316_0, .slice A1 l1.length c1] rfl (by (try simp only [List.map_toArray, List.map_cons, List.map_nil]); first | done | rfl | (simp only [List.length_drop, List.length_take]; rfl)) ?_; (with_reducible refine (spec_MatchAll.calls k1 _ _ (rd_L13 l0 x13_1) _ _ l1 t317 _ ?side1 ?side2 ?side3 ?side4 A7.out).mono ?_); (case side1 => repeat (first | exact (Kd.C_below HR316_0.out HB.out) | (with_reducible refine Kd.C_alloc ?_ _) | (with_reducible refine Kd.C_drewN ?_ _) | (with_reducible refine Kd.C_drew ?_))); (case side2 => exact HC316_0.out); (case side3 => repeat (first | exact (Kd.C_below HR1.out HB.out) | (with_reducible refine Kd.C_alloc ?_ _) | (with_reducible refine Kd.C_drewN ?_ _) | (with_reducible refine Kd.C_drew ?_))); (case side4 => exact HC1.out); rintro e w12 ⟨rfl, hb⟩; refine ⟨_, rfl, ?_⟩; have n0_ := Aside0.mk (below_step (by repeat (first | (with_reducible first | exact HB.out | apply below_alloc | apply pw_below_drewN | apply below_drew1) | exact HB.out)) hb); clear HB; have HB := n0_; clear n0_; (try clear hb); (try clear hb2); (try clear hk); (try clear hi)))
                  go_roundg k1
                  case measure => have := HK1.out; omega
                  case rel => exact ⟨(x5_1), (wrap64 (x13_1 + 1)), (by first | rfl | (simp; done) | (simp [*]; done)), (by first | rfl | (simp; done) | (simp [*]; done)), H', ⟨by have := HK1.out; omega⟩, ⟨by repeat (first | (with_reducible first | exact HB.out | apply below_alloc | apply pw_below_drewN | apply below_drew1) | exact HB.out)⟩⟩
            · rw [if_neg c6] at H
              exact absurd H (by simp)
          · rw [if_neg c5] at H
            exact absurd H (by simp)
        · rw [if_neg c4] at H
          have c4b0 : decide (x13_1 < (l0.length : Int)) = false := decide_eq_false c4
          clear c4
          obtain rfl := Option.some.inj H
          go_wp2
          go_ret
          exact ⟨by first | rfl | (simp [errW_none, errW_some] <;> rfl) | (simp [*, errW_none, errW_some] <;> rfl), by repeat (first | (with_reducible first | exact HB.out | apply below_alloc | apply pw_below_drewN | apply below_drew1) | exact HB.out)⟩

end Go.Proofs.Ytbffhefeepmpcaa.Q
