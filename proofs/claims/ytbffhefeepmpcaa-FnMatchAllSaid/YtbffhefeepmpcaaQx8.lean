-- printed by this project's own program wip/tools/mkprint.py (the kit's print.py with hand-proved contracts put in)
import Derived.Test.YtbffhefeepmpcaaQx0
import Derived.Test.YtbffhefeepmpcaaQx7
namespace Go.Proofs.Ytbffhefeepmpcaa.Q
open Go.RowKit Go.Proofs.YtbffhefeepmpcaaW.PrintWords Go.Proofs.YtbffhefeepmpcaaW.PrintLast Go.Proofs.YtbffhefeepmpcaaW.PrintMore
attribute [local go_sem] max2_int min2_int max_two min_two max_three min_three max_four min_four   -- for this text's walks alone
set_option linter.unusedVariables false
set_option linter.unusedSimpArgs false

/-! ### labels_Matchers_Less: function 53 -/
-- contracts that were proved by hand
def zMat : S114 := z114
theorem kMat_at {w : World} {A : Option Addr} {n : Nat} {l : List S114} (h : Kd.C kMat w A n l) (i : Int) (h0 : 0 ≤ i) (h1 : i < n) :
    ∃ ad g, A = some ad ∧ w.cell? (ad.add i.toNat) = some (.pointer (some ⟨g, 0, none⟩)) ∧ w.cell? ⟨g, 0, none⟩ = some (.int .i64 (l.getD i.toNat zMat).f0) ∧ w.cell? ⟨g, 1, none⟩ = some (.string (l.getD i.toNat zMat).f1) ∧ w.cell? ⟨g, 2, none⟩ = some (.string (l.getD i.toNat zMat).f2) := by
  obtain ⟨ad, c, e, _, hK, hc0⟩ := Kd.C_get h zMat i h0 h1
  obtain ⟨g, rfl, hb⟩ := kMat_open hK
  refine ⟨ad, g, e, ?_, (blk_cell hb 0).trans rfl, (blk_cell hb 1).trans rfl, (blk_cell hb 2).trans rfl⟩
  have := hc0 0 _ rfl
  simpa [kMat, Box.box] using this
def lessM (a b : S114) : Bool :=
  if Op.bytesLess a.f1.toList b.f1.toList = true then true else if (a.f1.toList == b.f1.toList) = true then
  (if Op.bytesLess a.f2.toList b.f2.toList = true then true else if (a.f2.toList == b.f2.toList) = true then decide (a.f0 < b.f0) else false) else false
set_option maxHeartbeats 1600000 in
set_option maxRecDepth 100000 in
theorem labels_Matchers_Less.calls (A0 : Option Addr) (c0 : Nat) (l : List S114) (i j : Int) (w : World) (hr : Kd.C kMat w A0 l.length l) (hi0 : 0 ≤ i) (hi1 : i < l.length) (hj0 : 0 ≤ j) (hj1 : j < l.length) (hc : l.length ≤ c0) :
    Calls Try.prog 53 #[.slice A0 l.length c0, .int .i64 i, .int .i64 j] w fun e w' => e = .returned (.bool (lessM (l.getD i.toNat zMat) (l.getD j.toNat zMat))) ∧ Drawn0 w w' := by
  obtain ⟨ad, g, rfl, ha, ha0, ha1, ha2⟩ := kMat_at hr i hi0 hi1
  obtain ⟨ad', g', e, hb, hb0, hb1, hb2⟩ := kMat_at hr j hj0 hj1
  obtain rfl := Option.some.inj e
  clear e hr
  generalize l.getD i.toNat zMat = x at *
  generalize l.getD j.toNat zMat = y at *
  obtain ⟨x0, x1, x2⟩ := x
  obtain ⟨y0, y1, y2⟩ := y
  simp only at ha0 ha1 ha2 hb0 hb1 hb2
  have hi1' : (i : Int) < (l.length : Int) := hi1
  cases L1 : Op.bytesLess x1.toList y1.toList with
  | true =>
    have hf : lessM ⟨x0, x1, x2⟩ ⟨y0, y1, y2⟩ = true := by simp [lessM, L1]
    rw [hf]
    clear hf
    go_enter Try.func53, Try.ntmps53
    go_wp2
    go_quiet (fail)
    go_wp2
    go_quiet (fail)
    go_wp2
    go_ret
    exact ⟨rfl, by repeat (first | exact Drawn0.refl _ | apply Drawn0.step)⟩
  | false =>
  cases E1 : (x1.toList == y1.toList) with
  | false =>
    have hf : lessM ⟨x0, x1, x2⟩ ⟨y0, y1, y2⟩ = false := by simp [lessM, L1, E1]
    rw [hf]
    clear hf
    go_enter Try.func53, Try.ntmps53
    go_wp2
    go_quiet (fail)
    go_wp2
    go_ret
    exact ⟨rfl, by repeat (first | exact Drawn0.refl _ | apply Drawn0.step)⟩
  | true =>
  cases L2 : Op.bytesLess x2.toList y2.toList with
  | true =>
    have hf : lessM ⟨x0, x1, x2⟩ ⟨y0, y1, y2⟩ = true := by simp [lessM, L1, E1, L2]
    rw [hf]
    clear hf
    go_enter Try.func53, Try.ntmps53
    go_wp2
    go_quiet (fail)
    go_wp2
    go_quiet (fail)
    go_wp2
    go_quiet (fail)
    go_wp2
    go_quiet (fail)
    go_wp2
    go_ret
    exact ⟨rfl, by repeat (first | exact Drawn0.refl _ | apply Drawn0.step)⟩
  | false =>
  cases E2 : (x2.toList == y2.toList) with
  | false =>
    have hf : lessM ⟨x0, x1, x2⟩ ⟨y0, y1, y2⟩ = false := by simp [lessM, L1, E1, L2, E2]
    rw [hf]
    clear hf
    go_enter Try.func53, Try.ntmps53
    go_wp2
    go_quiet (fail)
    go_wp2
    go_quiet (fail)
    go_wp2
    go_quiet (fail)
    go_wp2
    go_ret
    exact ⟨rfl, by repeat (first | exact Drawn0.refl _ | apply Drawn0.step)⟩
  | true =>
    have hf : lessM ⟨x0, x1, x2⟩ ⟨y0, y1, y2⟩ = decide (x0 < y0) := by simp [lessM, L1, E1, L2, E2]
    rw [hf]
    clear hf
    go_enter Try.func53, Try.ntmps53
    go_wp2
    go_quiet (fail)
    go_wp2
    go_quiet (fail)
    go_wp2
    go_quiet (fail)
    go_wp2
    go_quiet (fail)
    go_wp2
    go_quiet (fail)
    go_wp2
    go_ret
    exact ⟨rfl, by repeat (first | exact Drawn0.refl _ | apply Drawn0.step)⟩


/-! ### impl_Before: function 22 -/
-- a contract that was proved by hand
def impl_Before.f (l0 : List S37) (a1 a2 : Int) : Option Bool :=
  if l0.length ≤ 17592186044416 then (if 0 ≤ a1 ∧ a1 < l0.length ∧ 0 ≤ a2 ∧ a2 < l0.length then some (lessM (toMat (rd_T37 l0 a1)) (toMat (rd_T37 l0 a2))) else none) else none
theorem mapMat_getD (l0 : List S37) (i : Int) (h0 : 0 ≤ i) (h1 : i < l0.length) : (l0.map toMat).getD i.toNat zMat = toMat (rd_T37 l0 i) := by
  have h : i.toNat < l0.length := by omega
  simp [rd_T37, List.getD_eq_getElem?_getD, h]
set_option maxHeartbeats 1600000 in
set_option maxRecDepth 100000 in
theorem impl_Before.calls (A0 : Option Addr) (c0 : Nat) (l0 : List S37) (a1 a2 : Int) (r : Bool) (w : World) (hr0 : Kd.C k37 w A0 l0.length l0) (hc0 : l0.length ≤ c0) (h : impl_Before.f l0 a1 a2 = some r) :
    Calls Try.prog 22 #[.slice A0 l0.length c0, .int .i64 a1, .int .i64 a2] w fun e w' => e = .returned (.bool r) ∧ Below w.heap.size w w' := by
  unfold impl_Before.f at h
  split at h
  · rename_i hl
    split at h
    · rename_i hh
      obtain ⟨h1, h2, h3, h4⟩ := hh
      obtain rfl := Option.some.inj h
      clear h
      have e1 := mapMat_getD l0 a1 h1 h2
      have e2 := mapMat_getD l0 a2 h3 h4
      have e3 : (l0.map toMat).length = l0.length := List.length_map ..
      have HI := impl_inners.calls A0 c0 l0 w hr0 hc0 hl
      generalize l0.map toMat = l at *
      rw [← e1, ← e2]
      rw [← e3] at h2 h4
      clear e1 e2 e3
      obtain ⟨q, hq⟩ : ∃ q, lessM (l.getD a1.toNat zMat) (l.getD a2.toNat zMat) = q := ⟨_, rfl⟩
      rw [hq]
      have HQ := Aside0.mk hq
      clear hq
      have HI' := Aside0.mk HI
      clear HI
      go_enter Try.func22, Try.ntmps22
      go_wp2_with fail
      refine HI'.out.mono ?_
      rintro e w1 ⟨v, rfl, hO, hB⟩
      obtain ⟨A, c, rfl, hlc, hC⟩ := Kd.R_reads hO
      go_wp2_with fail
      have HL := labels_Matchers_Less.calls A c l a1 a2 w1 hC h1 h2 h3 h4 hlc
      rw [HQ.out] at HL
      refine HL.mono ?_
      clear HL
      rintro e w2 ⟨rfl, hD⟩
      go_wp2
      go_ret
      exact ⟨rfl, below_step hB hD.below⟩
    · cases h
  · cases h


/-! ### laws_values: function 30 -/
def laws_values.l0 : Nat → List (S37) → List (S37) → Int → Int → Option (Bool)
  | 0, _, _, _, _ => none
  | k + 1, x0, x5, x6, x7 => if x7 < x6 then (if 0 ≤ x7 then (if x7 < (x5.length : Int) then (if ((rd_T37 x5 x7).f0) = 0 then (laws_values.l0 k x0 x5 x6 (wrap64 (x7 + 1))) else (if ((rd_T37 x5 x7).f0) = 1 then (laws_values.l0 k x0 x5 x6 (wrap64 (x7 + 1))) else (some false))) else (none)) else (none)) else (some (decide ((x0.length : Int) ≤ 10000)))
def laws_values.f (k : Nat) (l0 : List (S37)) : Option (Bool) := laws_values.l0 k l0 l0 (l0.length : Int) 0
theorem laws_values.mono_l : ∀ k, (∀ y0 y1 y2 y3, LeO (laws_values.l0 k y0 y1 y2 y3) (laws_values.l0 (k + 1) y0 y1 y2 y3))
  | 0 => fun _ _ _ _ r h => by simp [laws_values.l0] at h
  | k + 1 => by
    have ih0 := laws_values.mono_l k
    · intro y0 y1 y2 y3
      unfold laws_values.l0
      repeat' first
      | (with_reducible exact ih0 _ _ _ _)
      | (with_reducible exact LeO.refl _)
      | (with_reducible exact LeO.none _)
      | (with_reducible refine LeO.ite ?_ ?_)
      | (with_reducible refine LeO.bind ?_ (fun _ => ?_))
      | exact ih0 _ _ _ _
      | exact LeO.none _
      | refine LeO.ite ?_ ?_
      | refine LeO.bind ?_ (fun _ => ?_)
theorem laws_values.mono : ∀ a0 k, LeO (laws_values.f k a0) (laws_values.f (k + 1) a0) := by
  intro a0 k
  have ih0 := laws_values.mono_l k
  unfold laws_values.f
  repeat' first
      | (with_reducible exact ih0 _ _ _ _)
      | (with_reducible exact LeO.refl _)
      | (with_reducible exact LeO.none _)
      | (with_reducible refine LeO.ite ?_ ?_)
      | (with_reducible refine LeO.bind ?_ (fun _ => ?_))
      | exact ih0 _ _ _ _
      | exact LeO.none _
      | refine LeO.ite ?_ ?_
      | refine LeO.bind ?_ (fun _ => ?_)
set_option maxHeartbeats 8000000 in
set_option maxRecDepth 100000 in
theorem laws_values.calls (k : Nat) (A0 : Option Addr) (c0 : Nat) (l0 : List (S37)) (r : Bool) (w : World) (hr0 : Kd.C k37 w A0 l0.length l0) (hc0 : l0.length ≤ c0) (h : laws_values.f k l0 = some r) :
    Calls Try.prog 30 #[.slice A0 l0.length c0] w fun e w' => e = .returned (.bool r) ∧ Below w.heap.size w w' := by
  have hu37 := Try.underlying37
  have HR0 := Aside0.mk hr0
  have HC0 := Aside0.mk hc0
  clear hr0 hc0
  have HB := Aside0.mk (Below.refl w.heap.size w)
  have H : (laws_values.l0 k l0 l0 (l0.length : Int) 0) = some r := h
  clear h
  have H' := Aside0.mk H
  clear H
  go_enter Try.func30, Try.ntmps30
  go_wp2
  go_loopg [7] k (fun kq v7 w' => ∃ (x7_1 : Int), v7 = .int .i64 x7_1 ∧ Aside0 (laws_values.l0 kq l0 l0 (l0.length : Int) x7_1 = some r) ∧ Aside0 (kq ≤ k) ∧ Aside0 (Below w.heap.size w w'))
  case atStart => exact ⟨(0), (by first | rfl | (simp; done) | (simp [*]; done)), H', ⟨Nat.le_refl _⟩, ⟨by repeat (first | (with_reducible first | exact HB.out | apply below_alloc | apply pw_below_drewN | apply below_drew1) | exact HB.out)⟩⟩
  case round =>
    clear H'
    obtain ⟨x7_1, rfl, HA, HK1, HB⟩ := hrel
    cases gk with
    | zero => exact absurd HA.out (by simp [laws_values.l0])
    | succ k1 =>
      have H := HA.out
      clear HA
      simp only [laws_values.l0] at H
      by_cases c2 : x7_1 < (l0.length : Int)
      · rw [if_pos c2] at H
        have c2b0 : decide (x7_1 < (l0.length : Int)) = true := decide_eq_true c2
        clear c2
        by_cases c3 : 0 ≤ x7_1
        · rw [if_pos c3] at H
          have c3b0 : decide (0 ≤ x7_1) = true := decide_eq_true c3
          clear c3
          by_cases c4 : x7_1 < (l0.length : Int)
          · rw [if_pos c4] at H
            have c4b0 : decide (x7_1 < (l0.length : Int)) = true := decide_eq_true c4
            clear c4
            by_cases c5 : ((rd_T37 l0 x7_1).f0) = 0
            · rw [if_pos c5] at H
              have c5b0 : (((rd_T37 l0 x7_1).f0) == 0) = true := beq_iff_eq.mpr c5
              have c5b1 : (((rd_T37 l0 x7_1).f0) != 0) = false := bne_eq_false_iff_eq.mpr c5
              clear c5
              have H' := Aside0.mk H
              clear H
              have p134 : 0 ≤ (x7_1 : Int) := of_decide_eq_true (by first | (with_reducible assumption) | assumption)
              have q134 : x7_1 < (l0.length : Int) := of_decide_eq_true (by first | (with_reducible assumption) | assumption)
              obtain ⟨ad134, e134, hx134_0, hx134_1, hx134_2⟩ := at_T37 HR0.out x7_1 p134 q134
              cases e134
              replace hx134_0 := (HB.out.cell (World.block_lt_of_cell? w _ hx134_0)).trans hx134_0
              replace hx134_1 := (HB.out.cell (World.block_lt_of_cell? w _ hx134_1)).trans hx134_1
              replace hx134_2 := (HB.out.cell (World.block_lt_of_cell? w _ hx134_2)).trans hx134_2
              replace p134 := eq_true p134
              replace q134 := eq_true q134
              go_wp2_with (first | ((with_reducible refine gate_dst (N := 4) rfl ?_); refine box_event ?hg (N := 4) ?hd (cs := #[.int .i64 0, .string (⟨#[]⟩ : ByteArray), .string (⟨#[]⟩ : ByteArray)]) (t := 37) ?hr ?_; (case hd => rfl); (case hg => rfl); (case hr => first | (go_simp; done) | (go_simp; rfl)); intro gb135 hg w6 hbox hb; have n0_ := Aside0.mk (below_step (by repeat (first | (with_reducible first | exact HB.out | apply below_alloc | apply pw_below_drewN | apply below_drew1) | exact HB.out)) hb); have n1_ := Aside0.mk (hbox); have n2_ := Aside0.mk ((by rw [hg]; exact (below_size (by repeat (first | (with_reducible first | exact HB.out | apply below_alloc | apply pw_below_drewN | apply below_drew1) | exact HB.out))) : w.heap.size ≤ gb135)); have n3_ := Aside0.mk ((by rw [hg]; exact (below_size (by repeat (first | (with_reducible first | exact HB.out | apply below_alloc | apply pw_below_drewN | apply below_drew1) | exact HB.out))) : w.heap.size ≤ gb135)); clear HB; have HB := n0_; have BK135 := n1_; have GW135 := n2_; have GE135 := n3_; clear n0_ n1_ n2_ n3_; clear hb hbox hg; have hcz7_0 : w6.cell? ⟨gb135, 0, none⟩ = some (.int .i64 0) := (blk_cell BK135.out 0).trans rfl; have hcz7_1 : w6.cell? ⟨gb135, 1, none⟩ = some (.string (⟨#[]⟩ : ByteArray)) := (blk_cell BK135.out 1).trans rfl; have hcz7_2 : w6.cell? ⟨gb135, 2, none⟩ = some (.string (⟨#[]⟩ : ByteArray)) := (blk_cell BK135.out 2).trans rfl; have hfz7_0 := blk_frozen BK135.out 0; have hfz7_1 := blk_frozen BK135.out 1; have hfz7_2 := blk_frozen BK135.out 2))
              go_roundg k1
              case measure => have := HK1.out; omega
              case rel => exact ⟨(wrap64 (x7_1 + 1)), (by first | rfl | (simp; done) | (simp [*]; done)), H', ⟨by have := HK1.out; omega⟩, ⟨by repeat (first | (with_reducible first | exact HB.out | apply below_alloc | apply pw_below_drewN | apply below_drew1 | refine below_set ?_ GE135.out) | exact HB.out)⟩⟩
            · rw [if_neg c5] at H
              have c5b0 : (((rd_T37 l0 x7_1).f0) == 0) = false := beq_eq_false_iff_ne.mpr c5
              have c5b1 : (((rd_T37 l0 x7_1).f0) != 0) = true := bne_iff_ne.mpr c5
              by_cases c8 : ((rd_T37 l0 x7_1).f0) = 1
              · rw [if_pos c8] at H
                have c8b0 : (((rd_T37 l0 x7_1).f0) == 1) = true := beq_iff_eq.mpr c8
                have c8b1 : (((rd_T37 l0 x7_1).f0) != 1) = false := bne_eq_false_iff_eq.mpr c8
                clear c8
                have H' := Aside0.mk H
                clear H
                have p134 : 0 ≤ (x7_1 : Int) := of_decide_eq_true (by first | (with_reducible assumption) | assumption)
                have q134 : x7_1 < (l0.length : Int) := of_decide_eq_true (by first | (with_reducible assumption) | assumption)
                obtain ⟨ad134, e134, hx134_0, hx134_1, hx134_2⟩ := at_T37 HR0.out x7_1 p134 q134
                cases e134
                replace hx134_0 := (HB.out.cell (World.block_lt_of_cell? w _ hx134_0)).trans hx134_0
                replace hx134_1 := (HB.out.cell (World.block_lt_of_cell? w _ hx134_1)).trans hx134_1
                replace hx134_2 := (HB.out.cell (World.block_lt_of_cell? w _ hx134_2)).trans hx134_2
                replace p134 := eq_true p134
                replace q134 := eq_true q134
                go_wp2_with (first | ((with_reducible refine gate_dst (N := 4) rfl ?_); refine box_event ?hg (N := 4) ?hd (cs := #[.int .i64 0, .string (⟨#[]⟩ : ByteArray), .string (⟨#[]⟩ : ByteArray)]) (t := 37) ?hr ?_; (case hd => rfl); (case hg => rfl); (case hr => first | (go_simp; done) | (go_simp; rfl)); intro gb135 hg w9 hbox hb; have n0_ := Aside0.mk (below_step (by repeat (first | (with_reducible first | exact HB.out | apply below_alloc | apply pw_below_drewN | apply below_drew1) | exact HB.out)) hb); have n1_ := Aside0.mk (hbox); have n2_ := Aside0.mk ((by rw [hg]; exact (below_size (by repeat (first | (with_reducible first | exact HB.out | apply below_alloc | apply pw_below_drewN | apply below_drew1) | exact HB.out))) : w.heap.size ≤ gb135)); have n3_ := Aside0.mk ((by rw [hg]; exact (below_size (by repeat (first | (with_reducible first | exact HB.out | apply below_alloc | apply pw_below_drewN | apply below_drew1) | exact HB.out))) : w.heap.size ≤ gb135)); clear HB; have HB := n0_; have BK135 := n1_; have GW135 := n2_; have GE135 := n3_; clear n0_ n1_ n2_ n3_; clear hb hbox hg; have hcz10_0 : w9.cell? ⟨gb135, 0, none⟩ = some (.int .i64 0) := (blk_cell BK135.out 0).trans rfl; have hcz10_1 : w9.cell? ⟨gb135, 1, none⟩ = some (.string (⟨#[]⟩ : ByteArray)) := (blk_cell BK135.out 1).trans rfl; have hcz10_2 : w9.cell? ⟨gb135, 2, none⟩ = some (.string (⟨#[]⟩ : ByteArray)) := (blk_cell BK135.out 2).trans rfl; have hfz10_0 := blk_frozen BK135.out 0; have hfz10_1 := blk_frozen BK135.out 1; have hfz10_2 := blk_frozen BK135.out 2))
                go_roundg k1
                case measure => have := HK1.out; omega
                case rel => exact ⟨(wrap64 (x7_1 + 1)), (by first | rfl | (simp; done) | (simp [*]; done)), H', ⟨by have := HK1.out; omega⟩, ⟨by repeat (first | (with_reducible first | exact HB.out | apply below_alloc | apply pw_below_drewN | apply below_drew1 | refine below_set ?_ GE135.out) | exact HB.out)⟩⟩
              · rw [if_neg c8] at H
                have c8b0 : (((rd_T37 l0 x7_1).f0) == 1) = false := beq_eq_false_iff_ne.mpr c8
                have c8b1 : (((rd_T37 l0 x7_1).f0) != 1) = true := bne_iff_ne.mpr c8
                obtain rfl := Option.some.inj H
                have p134 : 0 ≤ (x7_1 : Int) := of_decide_eq_true (by first | (with_reducible assumption) | assumption)
                have q134 : x7_1 < (l0.length : Int) := of_decide_eq_true (by first | (with_reducible assumption) | assumption)
                obtain ⟨ad134, e134, hx134_0, hx134_1, hx134_2⟩ := at_T37 HR0.out x7_1 p134 q134
                cases e134
                replace hx134_0 := (HB.out.cell (World.block_lt_of_cell? w _ hx134_0)).trans hx134_0
                replace hx134_1 := (HB.out.cell (World.block_lt_of_cell? w _ hx134_1)).trans hx134_1
                replace hx134_2 := (HB.out.cell (World.block_lt_of_cell? w _ hx134_2)).trans hx134_2
                replace p134 := eq_true p134
                replace q134 := eq_true q134
                go_wp2_with (first | ((with_reducible refine gate_dst (N := 4) rfl ?_); refine box_event ?hg (N := 4) ?hd (cs := #[.int .i64 0, .string (⟨#[]⟩ : ByteArray), .string (⟨#[]⟩ : ByteArray)]) (t := 37) ?hr ?_; (case hd => rfl); (case hg => rfl); (case hr => first | (go_simp; done) | (go_simp; rfl)); intro gb135 hg w11 hbox hb; have n0_ := Aside0.mk (below_step (by repeat (first | (with_reducible first | exact HB.out | apply below_alloc | apply pw_below_drewN | apply below_drew1) | exact HB.out)) hb); have n1_ := Aside0.mk (hbox); have n2_ := Aside0.mk ((by rw [hg]; exact (below_size (by repeat (first | (with_reducible first | exact HB.out | apply below_alloc | apply pw_below_drewN | apply below_drew1) | exact HB.out))) : w.heap.size ≤ gb135)); have n3_ := Aside0.mk ((by rw [hg]; exact (below_size (by repeat (first | (with_reducible first | exact HB.out | apply below_alloc | apply pw_below_drewN | apply below_drew1) | exact HB.out))) : w.heap.size ≤ gb135)); clear HB; have HB := n0_; have BK135 := n1_; have GW135 := n2_; have GE135 := n3_; clear n0_ n1_ n2_ n3_; clear hb hbox hg; have hcz12_0 : w11.cell? ⟨gb135, 0, none⟩ = some (.int .i64 0) := (blk_cell BK135.out 0).trans rfl; have hcz12_1 : w11.cell? ⟨gb135, 1, none⟩ = some (.string (⟨#[]⟩ : ByteArray)) := (blk_cell BK135.out 1).trans rfl; have hcz12_2 : w11.cell? ⟨gb135, 2, none⟩ = some (.string (⟨#[]⟩ : ByteArray)) := (blk_cell BK135.out 2).trans rfl; have hfz12_0 := blk_frozen BK135.out 0; have hfz12_1 := blk_frozen BK135.out 1; have hfz12_2 := blk_frozen BK135.out 2))
                go_ret
                exact ⟨by first | rfl | (simp [errW_none, errW_some] <;> rfl) | (simp [*, errW_none, errW_some] <;> rfl), by repeat (first | (with_reducible first | exact HB.out | apply below_alloc | apply pw_below_drewN | apply below_drew1 | refine below_set ?_ GE135.out) | exact HB.out)⟩
          · rw [if_neg c4] at H
            exact absurd H (by simp)
        · rw [if_neg c3] at H
          exact absurd H (by simp)
      · rw [if_neg c2] at H
        have c2b0 : decide (x7_1 < (l0.length : Int)) = false := decide_eq_false c2
        clear c2
        obtain rfl := Option.some.inj H
        go_wp2
        go_ret
        exact ⟨by first | rfl | (simp [errW_none, errW_some] <;> rfl) | (simp [*, errW_none, errW_some] <;> rfl), by repeat (first | (with_reducible first | exact HB.out | apply below_alloc | apply pw_below_drewN | apply below_drew1) | exact HB.out)⟩

end Go.Proofs.Ytbffhefeepmpcaa.Q
