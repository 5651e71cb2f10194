-- printed by this project's own program wip/tools/mkprint.py (the kit's print.py with hand-proved contracts put in)
import Derived.Test.YtbffhefeepmpcaaQx0
import Derived.Test.YtbffhefeepmpcaaQx4
namespace Go.Proofs.Ytbffhefeepmpcaa.Q
open Go.RowKit Go.Proofs.YtbffhefeepmpcaaW.PrintWords Go.Proofs.YtbffhefeepmpcaaW.PrintLast Go.Proofs.YtbffhefeepmpcaaW.PrintMore
attribute [local go_sem] max2_int min2_int max_two min_two max_three min_three max_four min_four   -- for this text's walks alone
set_option linter.unusedVariables false
set_option linter.unusedSimpArgs false

/-! ### laws_zzFits3: function 21 -/
def laws_zzFits3.l0 : Nat → List (S37) → Int → Int → Option (Bool)
  | 0, _, _, _ => none
  | k + 1, x8, x9, x10 => if x10 < x9 then (if 0 ≤ x10 then (if x10 < (x8.length : Int) then ((laws_zzFits4.f ((rd_T37 x8 x10).f0) ((rd_T37 x8 x10).f1) ((rd_T37 x8 x10).f2)).bind fun t133 => (if t133 = true then (laws_zzFits3.l0 k x8 x9 (wrap64 (x10 + 1))) else (some false))) else (none)) else (none)) else (some true)
def laws_zzFits3.f (k : Nat) (l0 : List (S37)) : Option (Bool) := if (l0.length : Int) > 2147483647 then (some false) else (laws_zzFits3.l0 k l0 (l0.length : Int) 0)
theorem laws_zzFits3.mono_l : ∀ k, (∀ y0 y1 y2, LeO (laws_zzFits3.l0 k y0 y1 y2) (laws_zzFits3.l0 (k + 1) y0 y1 y2))
  | 0 => fun _ _ _ r h => by simp [laws_zzFits3.l0] at h
  | k + 1 => by
    have ih0 := laws_zzFits3.mono_l k
    · intro y0 y1 y2
      unfold laws_zzFits3.l0
      repeat' first
      | (with_reducible exact ih0 _ _ _)
      | (with_reducible exact LeO.refl _)
      | (with_reducible exact LeO.none _)
      | (with_reducible refine LeO.ite ?_ ?_)
      | (with_reducible refine LeO.bind ?_ (fun _ => ?_))
      | exact ih0 _ _ _
      | exact LeO.none _
      | refine LeO.ite ?_ ?_
      | refine LeO.bind ?_ (fun _ => ?_)
theorem laws_zzFits3.mono : ∀ a0 k, LeO (laws_zzFits3.f k a0) (laws_zzFits3.f (k + 1) a0) := by
  intro a0 k
  have ih0 := laws_zzFits3.mono_l k
  unfold laws_zzFits3.f
  repeat' first
      | (with_reducible exact ih0 _ _ _)
      | (with_reducible exact LeO.refl _)
      | (with_reducible exact LeO.none _)
      | (with_reducible refine LeO.ite ?_ ?_)
      | (with_reducible refine LeO.bind ?_ (fun _ => ?_))
      | exact ih0 _ _ _
      | exact LeO.none _
      | refine LeO.ite ?_ ?_
      | refine LeO.bind ?_ (fun _ => ?_)
set_option maxHeartbeats 8000000 in
set_option maxRecDepth 100000 in
theorem laws_zzFits3.calls (k : Nat) (A0 : Option Addr) (c0 : Nat) (l0 : List (S37)) (r : Bool) (w : World) (hr0 : Kd.C k37 w A0 l0.length l0) (hc0 : l0.length ≤ c0) (h : laws_zzFits3.f k l0 = some r) :
    Calls Try.prog 21 #[.slice A0 l0.length c0] w fun e w' => e = .returned (.bool r) ∧ Below w.heap.size w w' := by
  have hu37 := Try.underlying37
  have HR0 := Aside0.mk hr0
  have HC0 := Aside0.mk hc0
  clear hr0 hc0
  have HB := Aside0.mk (Below.refl w.heap.size w)
  have H : (if (l0.length : Int) > 2147483647 then (some false) else (laws_zzFits3.l0 k l0 (l0.length : Int) 0)) = some r := h
  clear h
  by_cases c2 : (l0.length : Int) > 2147483647
  · rw [if_pos c2] at H
    have c2b0 : decide (2147483647 < (l0.length : Int)) = true := decide_eq_true c2
    have c2b1 : decide (2147483647 < l0.length) = true := decide_eq_true (by omega)
    clear c2
    obtain rfl := Option.some.inj H
    go_enter Try.func21, Try.ntmps21
    go_wp2
    go_ret
    exact ⟨by first | rfl | (simp [errW_none, errW_some] <;> rfl) | (simp [*, errW_none, errW_some] <;> rfl), by repeat (first | (with_reducible first | exact HB.out | apply below_alloc | apply pw_below_drewN | apply below_drew1) | exact HB.out)⟩
  · rw [if_neg c2] at H
    have c2b0 : decide (2147483647 < (l0.length : Int)) = false := decide_eq_false c2
    have c2b1 : decide (2147483647 < l0.length) = false := decide_eq_false (by omega)
    clear c2
    have H' := Aside0.mk H
    clear H
    go_enter Try.func21, Try.ntmps21
    go_wp2
    go_loopg [10] k (fun kq v10 w' => ∃ (x10_1 : Int), v10 = .int .i64 x10_1 ∧ Aside0 (laws_zzFits3.l0 kq l0 (l0.length : Int) x10_1 = some r) ∧ Aside0 (kq ≤ k) ∧ Aside0 (Below w.heap.size w w'))
    case atStart => exact ⟨(0), (by first | rfl | (simp; done) | (simp [*]; done)), H', ⟨Nat.le_refl _⟩, ⟨by repeat (first | (with_reducible first | exact HB.out | apply below_alloc | apply pw_below_drewN | apply below_drew1) | exact HB.out)⟩⟩
    case round =>
      clear H'
      try clear c2
      try clear c2b0
      try clear c2b1
      try clear p2
      obtain ⟨x10_1, rfl, HA, HK1, HB⟩ := hrel
      cases gk with
      | zero => exact absurd HA.out (by simp [laws_zzFits3.l0])
      | succ k1 =>
        have H := HA.out
        clear HA
        simp only [laws_zzFits3.l0] at H
        by_cases c3 : x10_1 < (l0.length : Int)
        · rw [if_pos c3] at H
          have c3b0 : decide (x10_1 < (l0.length : Int)) = true := decide_eq_true c3
          clear c3
          by_cases c4 : 0 ≤ x10_1
          · rw [if_pos c4] at H
            have c4b0 : decide (0 ≤ x10_1) = true := decide_eq_true c4
            clear c4
            by_cases c5 : x10_1 < (l0.length : Int)
            · rw [if_pos c5] at H
              have c5b0 : decide (x10_1 < (l0.length : Int)) = true := decide_eq_true c5
              clear c5
              replace H := Option.bind_eq_some_iff.mp H
              obtain ⟨t133, A60, H⟩ := H
              replace H : (if t133 = true then (laws_zzFits3.l0 k1 l0 (l0.length : Int) (wrap64 (x10_1 + 1))) else (some false)) = some r := H
              have A6 := Aside0.mk A60
              clear A60
              by_cases c7 : t133 = true
              · subst c7
                have H1 : (laws_zzFits3.l0 k1 l0 (l0.length : Int) (wrap64 (x10_1 + 1))) = some r := by rw [if_pos rfl] at H; exact H
                clear H
                have H := H1
                clear H1
                have H' := Aside0.mk H
                clear H
                have p131 : 0 ≤ (x10_1 : Int) := of_decide_eq_true (by first | (with_reducible assumption) | assumption)
                have q131 : x10_1 < (l0.length : Int) := of_decide_eq_true (by first | (with_reducible assumption) | assumption)
                obtain ⟨ad131, e131, hx131_0, hx131_1, hx131_2⟩ := at_T37 HR0.out x10_1 p131 q131
                cases e131
                replace hx131_0 := (HB.out.cell (World.block_lt_of_cell? w _ hx131_0)).trans hx131_0
                replace hx131_1 := (HB.out.cell (World.block_lt_of_cell? w _ hx131_1)).trans hx131_1
                replace hx131_2 := (HB.out.cell (World.block_lt_of_cell? w _ hx131_2)).trans hx131_2
                replace p131 := eq_true p131
                replace q131 := eq_true q131
                go_wp2_with (first | ((with_reducible refine gate_dst (N := 4) rfl ?_); refine box_event ?hg (N := 4) ?hd (cs := #[.int .i64 0, .string (⟨#[]⟩ : ByteArray), .string (⟨#[]⟩ : ByteArray)]) (t := 37) ?hr ?_; (case hd => rfl); (case hg => rfl); (case hr => first | (go_simp; done) | (go_simp; rfl)); intro gb132 hg w8 hbox hb; have n0_ := Aside0.mk (below_step (by repeat (first | (with_reducible first | exact HB.out | apply below_alloc | apply pw_below_drewN | apply below_drew1) | exact HB.out)) hb); have n1_ := Aside0.mk (hbox); have n2_ := Aside0.mk ((by rw [hg]; exact (below_size (by repeat (first | (with_reducible first | exact HB.out | apply below_alloc | apply pw_below_drewN | apply below_drew1) | exact HB.out))) : w.heap.size ≤ gb132)); have n3_ := Aside0.mk ((by rw [hg]; exact (below_size (by repeat (first | (with_reducible first | exact HB.out | apply below_alloc | apply pw_below_drewN | apply below_drew1) | exact HB.out))) : w.heap.size ≤ gb132)); clear HB; have HB := n0_; have BK132 := n1_; have GW132 := n2_; have GE132 := n3_; clear n0_ n1_ n2_ n3_; clear hb hbox hg; have hcz9_0 : w8.cell? ⟨gb132, 0, none⟩ = some (.int .i64 0) := (blk_cell BK132.out 0).trans rfl; have hcz9_1 : w8.cell? ⟨gb132, 1, none⟩ = some (.string (⟨#[]⟩ : ByteArray)) := (blk_cell BK132.out 1).trans rfl; have hcz9_2 : w8.cell? ⟨gb132, 2, none⟩ = some (.string (⟨#[]⟩ : ByteArray)) := (blk_cell BK132.out 2).trans rfl; have hfz9_0 := blk_frozen BK132.out 0; have hfz9_1 := blk_frozen BK132.out 1; have hfz9_2 := blk_frozen BK132.out 2) | ((with_reducible refine gate_callee (f := 51) rfl ?_); refine goesL_ (some 15) rfl rfl Try.func51 (by kernel_rfl) rfl #[.agg #[.int .i64 ((rd_T37 l0 x10_1).f0), .string ((rd_T37 l0 x10_1).f1), .string ((rd_T37 l0 x10_1).f2)]] rfl (by (try simp only [List.map_toArray, List.map_cons, List.map_nil]); first | done | rfl | (simp only [List.length_drop, List.length_take]; rfl)) ?_; (with_reducible refine (laws_zzFits4.calls ((rd_T37 l0 x10_1).f0) ((rd_T37 l0 x10_1).f1) ((rd_T37 l0 x10_1).f2) true _ A6.out).mono ?_); rintro e w10 ⟨rfl, hb⟩; refine ⟨_, rfl, ?_⟩; have n0_ := Aside0.mk (blk_below (g := gb132) (o := .cells #[.int .i64 ((rd_T37 l0 x10_1).f0), .string ((rd_T37 l0 x10_1).f1), .string ((rd_T37 l0 x10_1).f2)] 37 (0, 0)) (by (with_reducible repeat (first | refine blk_drewN ?_ _ | refine blk_drew ?_ | refine blk_alloc ?_ _)); refine blk_put (cs := #[.int .i64 ((rd_T37 l0 x10_1).f0), .string ((rd_T37 l0 x10_1).f1), .string (⟨#[]⟩ : ByteArray)]) ?_ 2 _ rfl; (with_reducible repeat (first | refine blk_drewN ?_ _ | refine blk_drew ?_ | refine blk_alloc ?_ _)); refine blk_put (cs := #[.int .i64 ((rd_T37 l0 x10_1).f0), .string (⟨#[]⟩ : ByteArray), .string (⟨#[]⟩ : ByteArray)]) ?_ 1 _ rfl; (with_reducible repeat (first | refine blk_drewN ?_ _ | refine blk_drew ?_ | refine blk_alloc ?_ _)); refine blk_put (cs := #[.int .i64 0, .string (⟨#[]⟩ : ByteArray), .string (⟨#[]⟩ : ByteArray)]) ?_ 0 _ rfl; (with_reducible repeat (first | refine blk_drewN ?_ _ | refine blk_drew ?_ | refine blk_alloc ?_ _)); exact BK132.out) hb); have n1_ := Aside0.mk (below_step (by repeat (first | (with_reducible first | exact HB.out | apply below_alloc | apply pw_below_drewN | apply below_drew1 | refine below_set ?_ GE132.out) | exact HB.out)) hb); clear BK132; clear HB; have BK132 := n0_; have HB := n1_; clear n0_ n1_; (try clear hb); (try clear hb2); (try clear hk); (try clear hi)))
                go_roundg k1
                case measure => have := HK1.out; omega
                case rel => exact ⟨(wrap64 (x10_1 + 1)), (by first | rfl | (simp; done) | (simp [*]; done)), H', ⟨by have := HK1.out; omega⟩, ⟨by repeat (first | (with_reducible first | exact HB.out | apply below_alloc | apply pw_below_drewN | apply below_drew1 | refine below_set ?_ GE132.out) | exact HB.out)⟩⟩
              · replace c7 := Bool.eq_false_iff.mpr c7
                subst c7
                have H1 : (some false) = some r := by rw [if_neg (show ¬ (false = true) by decide)] at H; exact H
                clear H
                have H := H1
                clear H1
                obtain rfl := Option.some.inj H
                have p131 : 0 ≤ (x10_1 : Int) := of_decide_eq_true (by first | (with_reducible assumption) | assumption)
                have q131 : x10_1 < (l0.length : Int) := of_decide_eq_true (by first | (with_reducible assumption) | assumption)
                obtain ⟨ad131, e131, hx131_0, hx131_1, hx131_2⟩ := at_T37 HR0.out x10_1 p131 q131
                cases e131
                replace hx131_0 := (HB.out.cell (World.block_lt_of_cell? w _ hx131_0)).trans hx131_0
                replace hx131_1 := (HB.out.cell (World.block_lt_of_cell? w _ hx131_1)).trans hx131_1
                replace hx131_2 := (HB.out.cell (World.block_lt_of_cell? w _ hx131_2)).trans hx131_2
                replace p131 := eq_true p131
                replace q131 := eq_true q131
                go_wp2_with (first | ((with_reducible refine gate_dst (N := 4) rfl ?_); refine box_event ?hg (N := 4) ?hd (cs := #[.int .i64 0, .string (⟨#[]⟩ : ByteArray), .string (⟨#[]⟩ : ByteArray)]) (t := 37) ?hr ?_; (case hd => rfl); (case hg => rfl); (case hr => first | (go_simp; done) | (go_simp; rfl)); intro gb132 hg w11 hbox hb; have n0_ := Aside0.mk (below_step (by repeat (first | (with_reducible first | exact HB.out | apply below_alloc | apply pw_below_drewN | apply below_drew1) | exact HB.out)) hb); have n1_ := Aside0.mk (hbox); have n2_ := Aside0.mk ((by rw [hg]; exact (below_size (by repeat (first | (with_reducible first | exact HB.out | apply below_alloc | apply pw_below_drewN | apply below_drew1) | exact HB.out))) : w.heap.size ≤ gb132)); have n3_ := Aside0.mk ((by rw [hg]; exact (below_size (by repeat (first | (with_reducible first | exact HB.out | apply below_alloc | apply pw_below_drewN | apply below_drew1) | exact HB.out))) : w.heap.size ≤ gb132)); clear HB; have HB := n0_; have BK132 := n1_; have GW132 := n2_; have GE132 := n3_; clear n0_ n1_ n2_ n3_; clear hb hbox hg; have hcz12_0 : w11.cell? ⟨gb132, 0, none⟩ = some (.int .i64 0) := (blk_cell BK132.out 0).trans rfl; have hcz12_1 : w11.cell? ⟨gb132, 1, none⟩ = some (.string (⟨#[]⟩ : ByteArray)) := (blk_cell BK132.out 1).trans rfl; have hcz12_2 : w11.cell? ⟨gb132, 2, none⟩ = some (.string (⟨#[]⟩ : ByteArray)) := (blk_cell BK132.out 2).trans rfl; have hfz12_0 := blk_frozen BK132.out 0; have hfz12_1 := blk_frozen BK132.out 1; have hfz12_2 := blk_frozen BK132.out 2) | ((with_reducible refine gate_callee (f := 51) rfl ?_); refine goesL_ (some 15) rfl rfl Try.func51 (by kernel_rfl) rfl #[.agg #[.int .i64 ((rd_T37 l0 x10_1).f0), .string ((rd_T37 l0 x10_1).f1), .string ((rd_T37 l0 x10_1).f2)]] rfl (by (try simp only [List.map_toArray, List.map_cons, List.map_nil]); first | done | rfl | (simp only [List.length_drop, List.length_take]; rfl)) ?_; (with_reducible refine (laws_zzFits4.calls ((rd_T37 l0 x10_1).f0) ((rd_T37 l0 x10_1).f1) ((rd_T37 l0 x10_1).f2) false _ A6.out).mono ?_); rintro e w13 ⟨rfl, hb⟩; refine ⟨_, rfl, ?_⟩; have n0_ := Aside0.mk (blk_below (g := gb132) (o := .cells #[.int .i64 ((rd_T37 l0 x10_1).f0), .string ((rd_T37 l0 x10_1).f1), .string ((rd_T37 l0 x10_1).f2)] 37 (0, 0)) (by (with_reducible repeat (first | refine blk_drewN ?_ _ | refine blk_drew ?_ | refine blk_alloc ?_ _)); refine blk_put (cs := #[.int .i64 ((rd_T37 l0 x10_1).f0), .string ((rd_T37 l0 x10_1).f1), .string (⟨#[]⟩ : ByteArray)]) ?_ 2 _ rfl; (with_reducible repeat (first | refine blk_drewN ?_ _ | refine blk_drew ?_ | refine blk_alloc ?_ _)); refine blk_put (cs := #[.int .i64 ((rd_T37 l0 x10_1).f0), .string (⟨#[]⟩ : ByteArray), .string (⟨#[]⟩ : ByteArray)]) ?_ 1 _ rfl; (with_reducible repeat (first | refine blk_drewN ?_ _ | refine blk_drew ?_ | refine blk_alloc ?_ _)); refine blk_put (cs := #[.int .i64 0, .string (⟨#[]⟩ : ByteArray), .string (⟨#[]⟩ : ByteArray)]) ?_ 0 _ rfl; (with_reducible repeat (first | refine blk_drewN ?_ _ | refine blk_drew ?_ | refine blk_alloc ?_ _)); exact BK132.out) hb); have n1_ := Aside0.mk (below_step (by repeat (first | (with_reducible first | exact HB.out | apply below_alloc | apply pw_below_drewN | apply below_drew1 | refine below_set ?_ GE132.out) | exact HB.out)) hb); clear BK132; clear HB; have BK132 := n0_; have HB := n1_; clear n0_ n1_; (try clear hb); (try clear hb2); (try clear hk); (try clear hi)))
                go_ret
                exact ⟨by first | rfl | (simp [errW_none, errW_some] <;> rfl) | (simp [*, errW_none, errW_some] <;> rfl), by repeat (first | (with_reducible first | exact HB.out | apply below_alloc | apply pw_below_drewN | apply below_drew1 | refine below_set ?_ GE132.out) | exact HB.out)⟩
            · rw [if_neg c5] at H
              exact absurd H (by simp)
          · rw [if_neg c4] at H
            exact absurd H (by simp)
        · rw [if_neg c3] at H
          have c3b0 : decide (x10_1 < (l0.length : Int)) = false := decide_eq_false c3
          clear c3
          obtain rfl := Option.some.inj H
          go_wp2
          go_ret
          exact ⟨by first | rfl | (simp [errW_none, errW_some] <;> rfl) | (simp [*, errW_none, errW_some] <;> rfl), by repeat (first | (with_reducible first | exact HB.out | apply below_alloc | apply pw_below_drewN | apply below_drew1) | exact HB.out)⟩

-- NOT PRINTED: function 79 (labels_NewMatcher)

/-! ### impl_inner: function 69 -/
-- contracts that were proved by hand
def kMat : Kd S114 := Box.box 114 k114
def toMat (x : S37) : S114 := ⟨x.f0, x.f1, x.f2⟩
theorem kMat_new {w : World} {base g : Nat} {x : S114} (hb : base ≤ g) (h : w.heap[g]? = some (.cells #[.int .i64 x.f0, .string x.f1, .string x.f2] 114 (0, 0))) (ok : Nat → Prop) (ho : ok g) :
    kMat.M w base ok x [.pointer (some ⟨g, 0, none⟩)] :=
  ⟨g, _, rfl, ho, hb, h, k114_mkM w base ok x⟩
theorem kMat_open {w : World} {x : S114} {cs : List Value} (h : kMat.K w x cs) : ∃ g, cs = [.pointer (some ⟨g, 0, none⟩)] ∧ w.heap[g]? = some (.cells #[.int .i64 x.f0, .string x.f1, .string x.f2] 114 (0, 0)) := by
  obtain ⟨g, cs', e, hg, hk⟩ := h
  have e' := k114_open hk
  refine ⟨g, e, ?_⟩
  rw [hg]
  congr 2
  exact Array.toList_inj.1 e'
set_option maxHeartbeats 800000 in
theorem impl_inner.calls (a0 : Int) (a1 a2 : ByteArray) (w : World) :
    Calls Try.prog 69 #[.agg #[.int .i64 a0, .string a1, .string a2]] w fun e w' => ∃ g, e = .returned (.pointer (some ⟨g, 0, none⟩)) ∧ w.heap.size ≤ g ∧ w'.heap[g]? = some (.cells #[.int .i64 a0, .string a1, .string a2] 114 (0, 0)) ∧ Below w.heap.size w w' := by
  go_enter Try.func69, Try.ntmps69
  go_wp2
  go_ret
  exact ⟨_, rfl, by omega, Box.new_at (by simp) _, below_alloc (below_alloc (Below.refl _ _) _) _⟩


/-! ### impl_inners: function 52 -/
-- contracts that were proved by hand
theorem infoPM : (Try.prog.info? 110).map (fun i => (i.zero, i.size, i.bytes)) = some (some (.pointer none), 1, 8) := by kernel_rfl
set_option maxHeartbeats 1600000 in
set_option maxRecDepth 100000 in
theorem impl_inners.calls (A0 : Option Addr) (c0 : Nat) (l0 : List S37) (w : World) (hr0 : Kd.C k37 w A0 l0.length l0) (hc0 : l0.length ≤ c0) (hl : l0.length ≤ 17592186044416) :
    Calls Try.prog 52 #[.slice A0 l0.length c0] w fun e w' => ∃ v, e = .returned v ∧ kMat.R 110 w' w.heap.size (fun _ => True) v (l0.map toMat) ∧ Below w.heap.size w w' := by
  have HR0 := Aside0.mk hr0
  have HC0 := Aside0.mk hc0
  clear hr0 hc0
  go_enter Try.func52, Try.ntmps52
  go_wp2
  go_loopw [3, 8] (fun v3 v8 wr => ∃ j : Nat, j ≤ l0.length ∧ v8 = .int .i64 j ∧ Aside0 (kMat.R 110 wr w.heap.size (fun _ => True) v3 ((l0.take j).map toMat)) ∧ Aside0 (Below w.heap.size w wr)) (fun _ v8 _ => l0.length - (intOf v8).toNat)
  case atStart => exact ⟨0, Nat.zero_le _, rfl, ⟨Kd.R_nil _ _ _ _ _⟩, ⟨Below.refl _ _⟩⟩
  case round =>
    obtain ⟨j, hj, rfl, HO, HB⟩ := hrel
    by_cases hlt : j < l0.length
    · obtain ⟨ad, e0, hx0, hx1, hx2⟩ := at_T37 HR0.out (j : Int) (by omega) (by omega)
      cases e0
      replace hx0 := (HB.out.cell (World.block_lt_of_cell? w _ hx0)).trans hx0
      replace hx1 := (HB.out.cell (World.block_lt_of_cell? w _ hx1)).trans hx1
      replace hx2 := (HB.out.cell (World.block_lt_of_cell? w _ hx2)).trans hx2
      simp only [Int.toNat_natCast] at hx0 hx1 hx2
      go_wp2_with fail
      refine (impl_inner.calls _ _ _ _).mono ?_
      rintro e w1 ⟨g, rfl, hg, hbox, hb1⟩
      have HO1 := Aside0.mk (Kd.R_below (Kd.R_alloc HO.out _) hb1)
      have HB1 := Aside0.mk (below_step (below_alloc HB.out _) hb1)
      have HS := Aside0.mk (show w.heap.size ≤ wr.heap.size from below_size HB.out)
      have HL := Aside0.mk (show ∀ k, u3.ownBlock = some k → k < wr.heap.size from fun k hk => by obtain ⟨_, inner, ho, _⟩ := HO.out; exact own_lt ho k hk)
      have HG := Aside0.mk (show wr.heap.size ≤ g by simp at hg; omega)
      have HX := Aside0.mk hbox
      have HT := Aside0.mk (show (l0.take (j + 1)).map toMat = (l0.take j).map toMat ++ [toMat (rd_T37 l0 (j : Int))] by rw [Box.take_more l0 z37 j hlt, List.map_append]; rfl)
      clear HO HB hb1 hbox hg hx0 hx1 hx2
      go_wp2_with ((with_reducible refine gate_builtin (b := .append) (xs := #[.tmp 12, .tmp 15]) rfl ?_); at_builtin; refine Kd.R_append kMat (w0 := w) w.heap.size rfl (.tmp 12) (.tmp 15) 79 110 (.pointer none) 8 rfl Try.underlying79 infoPM rfl (by decide) (by omega) u3 ((l0.take j).map toMat) (toMat (rd_T37 l0 (j : Int))) [.pointer (some ⟨g, 0, none⟩)] (fun _ => True) (fun k => k = g) rfl (by first | (go_simp; done) | (go_simp; rfl)) ?aP ?aK ?aF ?aO ?aB ?aS ?aL ?_; (case aP => exact kMat_new (Nat.le_trans HS.out HG.out) HX.out _ rfl); (case aK => (rintro k rfl; exact ⟨trivial, fun e => by have := HL.out _ e.symm; have := HG.out; omega⟩)); (case aF => exact fun _ _ => trivial); (case aO => exact HO1.out); (case aB => exact HB1.out); (case aS => exact below_size HB1.out); (case aL => rw [List.length_map, List.length_take]; omega); intro v2 w2 hO2 hB2 hg2 hat2; rw [← HT.out] at hO2; have HO2 := Aside0.mk hO2; have HB2 := Aside0.mk hB2; clear hO2 hB2 hg2 hat2 HO1 HB1 HX HT)
      go_roundw
      case rel => exact ⟨j + 1, by omega, by go_num, HO2, HB2⟩
      case measure => simp [intOf]; omega
    · have hj2 : j = l0.length := by omega
      subst hj2
      go_wp2
      go_ret
      have h := HO.out
      rw [List.take_of_length_le (Nat.le_refl _)] at h
      exact ⟨_, rfl, h, HB.out⟩


/-! ### labels_Matchers_Less: function 53 -/
-- contracts that were proved by hand
def zMat : S114 := z114
theorem kMat_at {w : World} {A : Option Addr} {n : Nat} {l : List S114} (h : Kd.C kMat w A n l) (i : Int) (h0 : 0 ≤ i) (h1 : i < n) :
    ∃ ad g, A = some ad ∧ w.cell? (ad.add i.toNat) = some (.pointer (some ⟨g, 0, none⟩)) ∧ w.cell? ⟨g, 0, none⟩ = some (.int .i64 (l.getD i.toNat zMat).f0) ∧ w.cell? ⟨g, 1, none⟩ = some (.string (l.getD i.toNat zMat).f1) ∧ w.cell? ⟨g, 2, none⟩ = some (.string (l.getD i.toNat zMat).f2) := by
  obtain ⟨ad, c, e, _, hK, hc0⟩ := Kd.C_get h zMat i h0 h1
  obtain ⟨g, rfl, hb⟩ := kMat_open hK
  refine ⟨ad, g, e, ?_, (blk_cell hb 0).trans rfl, (blk_cell hb 1).trans rfl, (blk_cell hb 2).trans rfl⟩
  have := hc0 0 _ rfl
  simpa [kMat, Box.box] using this
def lessM (a b : S114) : Bool :=
  if Op.bytesLess a.f1.toList b.f1.toList = true then true else if (a.f1.toList == b.f1.toList) = true then
  (if Op.bytesLess a.f2.toList b.f2.toList = true then true else if (a.f2.toList == b.f2.toList) = true then decide (a.f0 < b.f0) else false) else false
set_option maxHeartbeats 1600000 in
set_option maxRecDepth 100000 in
theorem labels_Matchers_Less.calls (A0 : Option Addr) (c0 : Nat) (l : List S114) (i j : Int) (w : World) (hr : Kd.C kMat w A0 l.length l) (hi0 : 0 ≤ i) (hi1 : i < l.length) (hj0 : 0 ≤ j) (hj1 : j < l.length) (hc : l.length ≤ c0) :
    Calls Try.prog 53 #[.slice A0 l.length c0, .int .i64 i, .int .i64 j] w fun e w' => e = .returned (.bool (lessM (l.getD i.toNat zMat) (l.getD j.toNat zMat))) ∧ Drawn0 w w' := by
  obtain ⟨ad, g, rfl, ha, ha0, ha1, ha2⟩ := kMat_at hr i hi0 hi1
  obtain ⟨ad', g', e, hb, hb0, hb1, hb2⟩ := kMat_at hr j hj0 hj1
  obtain rfl := Option.some.inj e
  clear e hr
  generalize l.getD i.toNat zMat = x at *
  generalize l.getD j.toNat zMat = y at *
  obtain ⟨x0, x1, x2⟩ := x
  obtain ⟨y0, y1, y2⟩ := y
  simp only at ha0 ha1 ha2 hb0 hb1 hb2
  have hi1' : (i : Int) < (l.length : Int) := hi1
  cases L1 : Op.bytesLess x1.toList y1.toList with
  | true =>
    have hf : lessM ⟨x0, x1, x2⟩ ⟨y0, y1, y2⟩ = true := by simp [lessM, L1]
    rw [hf]
    clear hf
    go_enter Try.func53, Try.ntmps53
    go_wp2
    go_quiet (fail)
    go_wp2
    go_quiet (fail)
    go_wp2
    go_ret
    exact ⟨rfl, by repeat (first | exact Drawn0.refl _ | apply Drawn0.step)⟩
  | false =>
  cases E1 : (x1.toList == y1.toList) with
  | false =>
    have hf : lessM ⟨x0, x1, x2⟩ ⟨y0, y1, y2⟩ = false := by simp [lessM, L1, E1]
    rw [hf]
    clear hf
    go_enter Try.func53, Try.ntmps53
    go_wp2
    go_quiet (fail)
    go_wp2
    go_ret
    exact ⟨rfl, by repeat (first | exact Drawn0.refl _ | apply Drawn0.step)⟩
  | true =>
  cases L2 : Op.bytesLess x2.toList y2.toList with
  | true =>
    have hf : lessM ⟨x0, x1, x2⟩ ⟨y0, y1, y2⟩ = true := by simp [lessM, L1, E1, L2]
    rw [hf]
    clear hf
    go_enter Try.func53, Try.ntmps53
    go_wp2
    go_quiet (fail)
    go_wp2
    go_quiet (fail)
    go_wp2
    go_quiet (fail)
    go_wp2
    go_quiet (fail)
    go_wp2
    go_ret
    exact ⟨rfl, by repeat (first | exact Drawn0.refl _ | apply Drawn0.step)⟩
  | false =>
  cases E2 : (x2.toList == y2.toList) with
  | false =>
    have hf : lessM ⟨x0, x1, x2⟩ ⟨y0, y1, y2⟩ = false := by simp [lessM, L1, E1, L2, E2]
    rw [hf]
    clear hf
    go_enter Try.func53, Try.ntmps53
    go_wp2
    go_quiet (fail)
    go_wp2
    go_quiet (fail)
    go_wp2
    go_quiet (fail)
    go_wp2
    go_ret
    exact ⟨rfl, by repeat (first | exact Drawn0.refl _ | apply Drawn0.step)⟩
  | true =>
    have hf : lessM ⟨x0, x1, x2⟩ ⟨y0, y1, y2⟩ = decide (x0 < y0) := by simp [lessM, L1, E1, L2, E2]
    rw [hf]
    clear hf
    go_enter Try.func53, Try.ntmps53
    go_wp2
    go_quiet (fail)
    go_wp2
    go_quiet (fail)
    go_wp2
    go_quiet (fail)
    go_wp2
    go_quiet (fail)
    go_wp2
    go_quiet (fail)
    go_wp2
    go_ret
    exact ⟨rfl, by repeat (first | exact Drawn0.refl _ | apply Drawn0.step)⟩


/-! ### impl_Before: function 22 -/
-- a contract that was proved by hand
def impl_Before.f (l0 : List S37) (a1 a2 : Int) : Option Bool :=
  if l0.length ≤ 17592186044416 then (if 0 ≤ a1 ∧ a1 < l0.length ∧ 0 ≤ a2 ∧ a2 < l0.length then some (lessM (toMat (rd_T37 l0 a1)) (toMat (rd_T37 l0 a2))) else none) else none
theorem mapMat_getD (l0 : List S37) (i : Int) (h0 : 0 ≤ i) (h1 : i < l0.length) : (l0.map toMat).getD i.toNat zMat = toMat (rd_T37 l0 i) := by
  have h : i.toNat < l0.length := by omega
  simp [rd_T37, List.getD_eq_getElem?_getD, h]
set_option maxHeartbeats 1600000 in
set_option maxRecDepth 100000 in
theorem impl_Before.calls (A0 : Option Addr) (c0 : Nat) (l0 : List S37) (a1 a2 : Int) (r : Bool) (w : World) (hr0 : Kd.C k37 w A0 l0.length l0) (hc0 : l0.length ≤ c0) (h : impl_Before.f l0 a1 a2 = some r) :
    Calls Try.prog 22 #[.slice A0 l0.length c0, .int .i64 a1, .int .i64 a2] w fun e w' => e = .returned (.bool r) ∧ Below w.heap.size w w' := by
  unfold impl_Before.f at h
  split at h
  · rename_i hl
    split at h
    · rename_i hh
      obtain ⟨h1, h2, h3, h4⟩ := hh
      obtain rfl := Option.some.inj h
      clear h
      have e1 := mapMat_getD l0 a1 h1 h2
      have e2 := mapMat_getD l0 a2 h3 h4
      have e3 : (l0.map toMat).length = l0.length := List.length_map ..
      have HI := impl_inners.calls A0 c0 l0 w hr0 hc0 hl
      generalize l0.map toMat = l at *
      rw [← e1, ← e2]
      rw [← e3] at h2 h4
      clear e1 e2 e3
      obtain ⟨q, hq⟩ : ∃ q, lessM (l.getD a1.toNat zMat) (l.getD a2.toNat zMat) = q := ⟨_, rfl⟩
      rw [hq]
      have HQ := Aside0.mk hq
      clear hq
      have HI' := Aside0.mk HI
      clear HI
      go_enter Try.func22, Try.ntmps22
      go_wp2_with fail
      refine HI'.out.mono ?_
      rintro e w1 ⟨v, rfl, hO, hB⟩
      obtain ⟨A, c, rfl, hlc, hC⟩ := Kd.R_reads hO
      go_wp2_with fail
      have HL := labels_Matchers_Less.calls A c l a1 a2 w1 hC h1 h2 h3 h4 hlc
      rw [HQ.out] at HL
      refine HL.mono ?_
      clear HL
      rintro e w2 ⟨rfl, hD⟩
      go_wp2
      go_ret
      exact ⟨rfl, below_step hB hD.below⟩
    · cases h
  · cases h


/-! ### laws_values: function 30 -/
def laws_values.l0 : Nat → List (S37) → List (S37) → Int → Int → Option (Bool)
  | 0, _, _, _, _ => none
  | k + 1, x0, x5, x6, x7 => if x7 < x6 then (if 0 ≤ x7 then (if x7 < (x5.length : Int) then (if ((rd_T37 x5 x7).f0) = 0 then (laws_values.l0 k x0 x5 x6 (wrap64 (x7 + 1))) else (if ((rd_T37 x5 x7).f0) = 1 then (laws_values.l0 k x0 x5 x6 (wrap64 (x7 + 1))) else (some false))) else (none)) else (none)) else (some (decide ((x0.length : Int) ≤ 10000)))
def laws_values.f (k : Nat) (l0 : List (S37)) : Option (Bool) := laws_values.l0 k l0 l0 (l0.length : Int) 0
theorem laws_values.mono_l : ∀ k, (∀ y0 y1 y2 y3, LeO (laws_values.l0 k y0 y1 y2 y3) (laws_values.l0 (k + 1) y0 y1 y2 y3))
  | 0 => fun _ _ _ _ r h => by simp [laws_values.l0] at h
  | k + 1 => by
    have ih0 := laws_values.mono_l k
    · intro y0 y1 y2 y3
      unfold laws_values.l0
      repeat' first
      | (with_reducible exact ih0 _ _ _ _)
      | (with_reducible exact LeO.refl _)
      | (with_reducible exact LeO.none _)
      | (with_reducible refine LeO.ite ?_ ?_)
      | (with_reducible refine LeO.bind ?_ (fun _ => ?_))
      | exact ih0 _ _ _ _
      | exact LeO.none _
      | refine LeO.ite ?_ ?_
      | refine LeO.bind ?_ (fun _ => ?_)
theorem laws_values.mono : ∀ a0 k, LeO (laws_values.f k a0) (laws_values.f (k + 1) a0) := by
  intro a0 k
  have ih0 := laws_values.mono_l k
  unfold laws_values.f
  repeat' first
      | (with_reducible exact ih0 _ _ _ _)
      | (with_reducible exact LeO.refl _)
      | (with_reducible exact LeO.none _)
      | (with_reducible refine LeO.ite ?_ ?_)
      | (with_reducible refine LeO.bind ?_ (fun _ => ?_))
      | exact ih0 _ _ _ _
      | exact LeO.none _
      | refine LeO.ite ?_ ?_
      | refine LeO.bind ?_ (fun _ => ?_)
set_option maxHeartbeats 8000000 in
set_option maxRecDepth 100000 in
theorem laws_values.calls (k : Nat) (A0 : Option Addr) (c0 : Nat) (l0 : List (S37)) (r : Bool) (w : World) (hr0 : Kd.C k37 w A0 l0.length l0) (hc0 : l0.length ≤ c0) (h : laws_values.f k l0 = some r) :
    Calls Try.prog 30 #[.slice A0 l0.length c0] w fun e w' => e = .returned (.bool r) ∧ Below w.heap.size w w' := by
  have hu37 := Try.underlying37
  have HR0 := Aside0.mk hr0
  have HC0 := Aside0.mk hc0
  clear hr0 hc0
  have HB := Aside0.mk (Below.refl w.heap.size w)
  have H : (laws_values.l0 k l0 l0 (l0.length : Int) 0) = some r := h
  clear h
  have H' := Aside0.mk H
  clear H
  go_enter Try.func30, Try.ntmps30
  go_wp2
  go_loopg [7] k (fun kq v7 w' => ∃ (x7_1 : Int), v7 = .int .i64 x7_1 ∧ Aside0 (laws_values.l0 kq l0 l0 (l0.length : Int) x7_1 = some r) ∧ Aside0 (kq ≤ k) ∧ Aside0 (Below w.heap.size w w'))
  case atStart => exact ⟨(0), (by first | rfl | (simp; done) | (simp [*]; done)), H', ⟨Nat.le_refl _⟩, ⟨by repeat (first | (with_reducible first | exact HB.out | apply below_alloc | apply pw_below_drewN | apply below_drew1) | exact HB.out)⟩⟩
  case round =>
    clear H'
    obtain ⟨x7_1, rfl, HA, HK1, HB⟩ := hrel
    cases gk with
    | zero => exact absurd HA.out (by simp [laws_values.l0])
    | succ k1 =>
      have H := HA.out
      clear HA
      simp only [laws_values.l0] at H
      by_cases c2 : x7_1 < (l0.length : Int)
      · rw [if_pos c2] at H
        have c2b0 : decide (x7_1 < (l0.length : Int)) = true := decide_eq_true c2
        clear c2
        by_cases c3 : 0 ≤ x7_1
        · rw [if_pos c3] at H
          have c3b0 : decide (0 ≤ x7_1) = true := decide_eq_true c3
          clear c3
          by_cases c4 : x7_1 < (l0.length : Int)
          · rw [if_pos c4] at H
            have c4b0 : decide (x7_1 < (l0.length : Int)) = true := decide_eq_true c4
            clear c4
            by_cases c5 : ((rd_T37 l0 x7_1).f0) = 0
            · rw [if_pos c5] at H
              have c5b0 : (((rd_T37 l0 x7_1).f0) == 0) = true := beq_iff_eq.mpr c5
              have c5b1 : (((rd_T37 l0 x7_1).f0) != 0) = false := bne_eq_false_iff_eq.mpr c5
              clear c5
              have H' := Aside0.mk H
              clear H
              have p134 : 0 ≤ (x7_1 : Int) := of_decide_eq_true (by first | (with_reducible assumption) | assumption)
              have q134 : x7_1 < (l0.length : Int) := of_decide_eq_true (by first | (with_reducible assumption) | assumption)
              obtain ⟨ad134, e134, hx134_0, hx134_1, hx134_2⟩ := at_T37 HR0.out x7_1 p134 q134
              cases e134
              replace hx134_0 := (HB.out.cell (World.block_lt_of_cell? w _ hx134_0)).trans hx134_0
              replace hx134_1 := (HB.out.cell (World.block_lt_of_cell? w _ hx134_1)).trans hx134_1
              replace hx134_2 := (HB.out.cell (World.block_lt_of_cell? w _ hx134_2)).trans hx134_2
              replace p134 := eq_true p134
              replace q134 := eq_true q134
              go_wp2_with (first | ((with_reducible refine gate_dst (N := 4) rfl ?_); refine box_event ?hg (N := 4) ?hd (cs := #[.int .i64 0, .string (⟨#[]⟩ : ByteArray), .string (⟨#[]⟩ : ByteArray)]) (t := 37) ?hr ?_; (case hd => rfl); (case hg => rfl); (case hr => first | (go_simp; done) | (go_simp; rfl)); intro gb135 hg w6 hbox hb; have n0_ := Aside0.mk (below_step (by repeat (first | (with_reducible first | exact HB.out | apply below_alloc | apply pw_below_drewN | apply below_drew1) | exact HB.out)) hb); have n1_ := Aside0.mk (hbox); have n2_ := Aside0.mk ((by rw [hg]; exact (below_size (by repeat (first | (with_reducible first | exact HB.out | apply below_alloc | apply pw_below_drewN | apply below_drew1) | exact HB.out))) : w.heap.size ≤ gb135)); have n3_ := Aside0.mk ((by rw [hg]; exact (below_size (by repeat (first | (with_reducible first | exact HB.out | apply below_alloc | apply pw_below_drewN | apply below_drew1) | exact HB.out))) : w.heap.size ≤ gb135)); clear HB; have HB := n0_; have BK135 := n1_; have GW135 := n2_; have GE135 := n3_; clear n0_ n1_ n2_ n3_; clear hb hbox hg; have hcz7_0 : w6.cell? ⟨gb135, 0, none⟩ = some (.int .i64 0) := (blk_cell BK135.out 0).trans rfl; have hcz7_1 : w6.cell? ⟨gb135, 1, none⟩ = some (.string (⟨#[]⟩ : ByteArray)) := (blk_cell BK135.out 1).trans rfl; have hcz7_2 : w6.cell? ⟨gb135, 2, none⟩ = some (.string (⟨#[]⟩ : ByteArray)) := (blk_cell BK135.out 2).trans rfl; have hfz7_0 := blk_frozen BK135.out 0; have hfz7_1 := blk_frozen BK135.out 1; have hfz7_2 := blk_frozen BK135.out 2))
              go_roundg k1
              case measure => have := HK1.out; omega
              case rel => exact ⟨(wrap64 (x7_1 + 1)), (by first | rfl | (simp; done) | (simp [*]; done)), H', ⟨by have := HK1.out; omega⟩, ⟨by repeat (first | (with_reducible first | exact HB.out | apply below_alloc | apply pw_below_drewN | apply below_drew1 | refine below_set ?_ GE135.out) | exact HB.out)⟩⟩
            · rw [if_neg c5] at H
              have c5b0 : (((rd_T37 l0 x7_1).f0) == 0) = false := beq_eq_false_iff_ne.mpr c5
              have c5b1 : (((rd_T37 l0 x7_1).f0) != 0) = true := bne_iff_ne.mpr c5
              by_cases c8 : ((rd_T37 l0 x7_1).f0) = 1
              · rw [if_pos c8] at H
                have c8b0 : (((rd_T37 l0 x7_1).f0) == 1) = true := beq_iff_eq.mpr c8
                have c8b1 : (((rd_T37 l0 x7_1).f0) != 1) = false := bne_eq_false_iff_eq.mpr c8
                clear c8
                have H' := Aside0.mk H
                clear H
                have p134 : 0 ≤ (x7_1 : Int) := of_decide_eq_true (by first | (with_reducible assumption) | assumption)
                have q134 : x7_1 < (l0.length : Int) := of_decide_eq_true (by first | (with_reducible assumption) | assumption)
                obtain ⟨ad134, e134, hx134_0, hx134_1, hx134_2⟩ := at_T37 HR0.out x7_1 p134 q134
                cases e134
                replace hx134_0 := (HB.out.cell (World.block_lt_of_cell? w _ hx134_0)).trans hx134_0
                replace hx134_1 := (HB.out.cell (World.block_lt_of_cell? w _ hx134_1)).trans hx134_1
                replace hx134_2 := (HB.out.cell (World.block_lt_of_cell? w _ hx134_2)).trans hx134_2
                replace p134 := eq_true p134
                replace q134 := eq_true q134
                go_wp2_with (first | ((with_reducible refine gate_dst (N := 4) rfl ?_); refine box_event ?hg (N := 4) ?hd (cs := #[.int .i64 0, .string (⟨#[]⟩ : ByteArray), .string (⟨#[]⟩ : ByteArray)]) (t := 37) ?hr ?_; (case hd => rfl); (case hg => rfl); (case hr => first | (go_simp; done) | (go_simp; rfl)); intro gb135 hg w9 hbox hb; have n0_ := Aside0.mk (below_step (by repeat (first | (with_reducible first | exact HB.out | apply below_alloc | apply pw_below_drewN | apply below_drew1) | exact HB.out)) hb); have n1_ := Aside0.mk (hbox); have n2_ := Aside0.mk ((by rw [hg]; exact (below_size (by repeat (first | (with_reducible first | exact HB.out | apply below_alloc | apply pw_below_drewN | apply below_drew1) | exact HB.out))) : w.heap.size ≤ gb135)); have n3_ := Aside0.mk ((by rw [hg]; exact (below_size (by repeat (first | (with_reducible first | exact HB.out | apply below_alloc | apply pw_below_drewN | apply below_drew1) | exact HB.out))) : w.heap.size ≤ gb135)); clear HB; have HB := n0_; have BK135 := n1_; have GW135 := n2_; have GE135 := n3_; clear n0_ n1_ n2_ n3_; clear hb hbox hg; have hcz10_0 : w9.cell? ⟨gb135, 0, none⟩ = some (.int .i64 0) := (blk_cell BK135.out 0).trans rfl; have hcz10_1 : w9.cell? ⟨gb135, 1, none⟩ = some (.string (⟨#[]⟩ : ByteArray)) := (blk_cell BK135.out 1).trans rfl; have hcz10_2 : w9.cell? ⟨gb135, 2, none⟩ = some (.string (⟨#[]⟩ : ByteArray)) := (blk_cell BK135.out 2).trans rfl; have hfz10_0 := blk_frozen BK135.out 0; have hfz10_1 := blk_frozen BK135.out 1; have hfz10_2 := blk_frozen BK135.out 2))
                go_roundg k1
                case measure => have := HK1.out; omega
                case rel => exact ⟨(wrap64 (x7_1 + 1)), (by first | rfl | (simp; done) | (simp [*]; done)), H', ⟨by have := HK1.out; omega⟩, ⟨by repeat (first | (with_reducible first | exact HB.out | apply below_alloc | apply pw_below_drewN | apply below_drew1 | refine below_set ?_ GE135.out) | exact HB.out)⟩⟩
              · rw [if_neg c8] at H
                have c8b0 : (((rd_T37 l0 x7_1).f0) == 1) = false := beq_eq_false_iff_ne.mpr c8
                have c8b1 : (((rd_T37 l0 x7_1).f0) != 1) = true := bne_iff_ne.mpr c8
                obtain rfl := Option.some.inj H
                have p134 : 0 ≤ (x7_1 : Int) := of_decide_eq_true (by first | (with_reducible assumption) | assumption)
                have q134 : x7_1 < (l0.length : Int) := of_decide_eq_true (by first | (with_reducible assumption) | assumption)
                obtain ⟨ad134, e134, hx134_0, hx134_1, hx134_2⟩ := at_T37 HR0.out x7_1 p134 q134
                cases e134
                replace hx134_0 := (HB.out.cell (World.block_lt_of_cell? w _ hx134_0)).trans hx134_0
                replace hx134_1 := (HB.out.cell (World.block_lt_of_cell? w _ hx134_1)).trans hx134_1
                replace hx134_2 := (HB.out.cell (World.block_lt_of_cell? w _ hx134_2)).trans hx134_2
                replace p134 := eq_true p134
                replace q134 := eq_true q134
                go_wp2_with (first | ((with_reducible refine gate_dst (N := 4) rfl ?_); refine box_event ?hg (N := 4) ?hd (cs := #[.int .i64 0, .string (⟨#[]⟩ : ByteArray), .string (⟨#[]⟩ : ByteArray)]) (t := 37) ?hr ?_; (case hd => rfl); (case hg => rfl); (case hr => first | (go_simp; done) | (go_simp; rfl)); intro gb135 hg w11 hbox hb; have n0_ := Aside0.mk (below_step (by repeat (first | (with_reducible first | exact HB.out | apply below_alloc | apply pw_below_drewN | apply below_drew1) | exact HB.out)) hb); have n1_ := Aside0.mk (hbox); have n2_ := Aside0.mk ((by rw [hg]; exact (below_size (by repeat (first | (with_reducible first | exact HB.out | apply below_alloc | apply pw_below_drewN | apply below_drew1) | exact HB.out))) : w.heap.size ≤ gb135)); have n3_ := Aside0.mk ((by rw [hg]; exact (below_size (by repeat (first | (with_reducible first | exact HB.out | apply below_alloc | apply pw_below_drewN | apply below_drew1) | exact HB.out))) : w.heap.size ≤ gb135)); clear HB; have HB := n0_; have BK135 := n1_; have GW135 := n2_; have GE135 := n3_; clear n0_ n1_ n2_ n3_; clear hb hbox hg; have hcz12_0 : w11.cell? ⟨gb135, 0, none⟩ = some (.int .i64 0) := (blk_cell BK135.out 0).trans rfl; have hcz12_1 : w11.cell? ⟨gb135, 1, none⟩ = some (.string (⟨#[]⟩ : ByteArray)) := (blk_cell BK135.out 1).trans rfl; have hcz12_2 : w11.cell? ⟨gb135, 2, none⟩ = some (.string (⟨#[]⟩ : ByteArray)) := (blk_cell BK135.out 2).trans rfl; have hfz12_0 := blk_frozen BK135.out 0; have hfz12_1 := blk_frozen BK135.out 1; have hfz12_2 := blk_frozen BK135.out 2))
                go_ret
                exact ⟨by first | rfl | (simp [errW_none, errW_some] <;> rfl) | (simp [*, errW_none, errW_some] <;> rfl), by repeat (first | (with_reducible first | exact HB.out | apply below_alloc | apply pw_below_drewN | apply below_drew1 | refine below_set ?_ GE135.out) | exact HB.out)⟩
          · rw [if_neg c4] at H
            exact absurd H (by simp)
        · rw [if_neg c3] at H
          exact absurd H (by simp)
      · rw [if_neg c2] at H
        have c2b0 : decide (x7_1 < (l0.length : Int)) = false := decide_eq_false c2
        clear c2
        obtain rfl := Option.some.inj H
        go_wp2
        go_ret
        exact ⟨by first | rfl | (simp [errW_none, errW_some] <;> rfl) | (simp [*, errW_none, errW_some] <;> rfl), by repeat (first | (with_reducible first | exact HB.out | apply below_alloc | apply pw_below_drewN | apply below_drew1) | exact HB.out)⟩

/-! ### laws_typed: function 23 -/
def laws_typed.f (k : Nat) (l0 : List (S37)) : Option (Bool) := (laws_values.f k l0).bind fun t136 => (if t136 = true then (some (decide ((l0.length : Int) ≤ 2000))) else (some false))
theorem laws_typed.mono : ∀ a0 k, LeO (laws_typed.f k a0) (laws_typed.f (k + 1) a0) := by
  intro a0 k
  unfold laws_typed.f
  repeat' first
      | (with_reducible exact laws_values.mono _ _)
      | (with_reducible exact LeO.refl _)
      | (with_reducible exact LeO.none _)
      | (with_reducible refine LeO.ite ?_ ?_)
      | (with_reducible refine LeO.bind ?_ (fun _ => ?_))
      | exact laws_values.mono _ _
      | exact LeO.none _
      | refine LeO.ite ?_ ?_
      | refine LeO.bind ?_ (fun _ => ?_)
set_option maxHeartbeats 8000000 in
set_option maxRecDepth 100000 in
theorem laws_typed.calls (k : Nat) (A0 : Option Addr) (c0 : Nat) (l0 : List (S37)) (r : Bool) (w : World) (hr0 : Kd.C k37 w A0 l0.length l0) (hc0 : l0.length ≤ c0) (h : laws_typed.f k l0 = some r) :
    Calls Try.prog 23 #[.slice A0 l0.length c0] w fun e w' => e = .returned (.bool r) ∧ Below w.heap.size w w' := by
  have HR0 := Aside0.mk hr0
  have HC0 := Aside0.mk hc0
  clear hr0 hc0
  have HB := Aside0.mk (Below.refl w.heap.size w)
  have H : ((laws_values.f k l0).bind fun t136 => (if t136 = true then (some (decide ((l0.length : Int) ≤ 2000))) else (some false))) = some r := h
  clear h
  replace H := Option.bind_eq_some_iff.mp H
  obtain ⟨t136, A20, H⟩ := H
  replace H : (if t136 = true then (some (decide ((l0.length : Int) ≤ 2000))) else (some false)) = some r := H
  have A2 := Aside0.mk A20
  clear A20
  by_cases c3 : t136 = true
  · subst c3
    have H1 : (some (decide ((l0.length : Int) ≤ 2000))) = some r := by rw [if_pos rfl] at H; exact H
    clear H
    have H := H1
    clear H1
    obtain rfl := Option.some.inj H
    go_enter Try.func23, Try.ntmps23
    go_wp2_with (first | ((with_reducible refine gate_callee (f := 30) rfl ?_); refine goesL_ (some 4) rfl rfl Try.func30 (by kernel_rfl) rfl #[.slice A0 l0.length c0] rfl (by (try simp only [List.map_toArray, List.map_cons, List.map_nil]); first | done | rfl | (simp only [List.length_drop, List.length_take]; rfl)) ?_; (with_reducible refine (laws_values.calls k _ _ l0 true _ ?side1 ?side2 A2.out).mono ?_); (case side1 => repeat (first | exact HR0.out | (with_reducible refine Kd.C_alloc ?_ _) | (with_reducible refine Kd.C_drewN ?_ _) | (with_reducible refine Kd.C_drew ?_))); (case side2 => exact HC0.out); rintro e w4 ⟨rfl, hb⟩; refine ⟨_, rfl, ?_⟩; have n0_ := Aside0.mk (below_step (by repeat (first | (with_reducible first | exact HB.out | apply below_alloc | apply pw_below_drewN | apply below_drew1) | exact HB.out)) hb); clear HB; have HB := n0_; clear n0_; (try clear hb); (try clear hb2); (try clear hk); (try clear hi)))
    go_ret
    exact ⟨by first | rfl | (simp [errW_none, errW_some] <;> rfl) | (simp [*, errW_none, errW_some] <;> rfl), by repeat (first | (with_reducible first | exact HB.out | apply below_alloc | apply pw_below_drewN | apply below_drew1) | exact HB.out)⟩
  · replace c3 := Bool.eq_false_iff.mpr c3
    subst c3
    have H1 : (some false) = some r := by rw [if_neg (show ¬ (false = true) by decide)] at H; exact H
    clear H
    have H := H1
    clear H1
    obtain rfl := Option.some.inj H
    go_enter Try.func23, Try.ntmps23
    go_wp2_with (first | ((with_reducible refine gate_callee (f := 30) rfl ?_); refine goesL_ (some 4) rfl rfl Try.func30 (by kernel_rfl) rfl #[.slice A0 l0.length c0] rfl (by (try simp only [List.map_toArray, List.map_cons, List.map_nil]); first | done | rfl | (simp only [List.length_drop, List.length_take]; rfl)) ?_; (with_reducible refine (laws_values.calls k _ _ l0 false _ ?side1 ?side2 A2.out).mono ?_); (case side1 => repeat (first | exact HR0.out | (with_reducible refine Kd.C_alloc ?_ _) | (with_reducible refine Kd.C_drewN ?_ _) | (with_reducible refine Kd.C_drew ?_))); (case side2 => exact HC0.out); rintro e w5 ⟨rfl, hb⟩; refine ⟨_, rfl, ?_⟩; have n0_ := Aside0.mk (below_step (by repeat (first | (with_reducible first | exact HB.out | apply below_alloc | apply pw_below_drewN | apply below_drew1) | exact HB.out)) hb); clear HB; have HB := n0_; clear n0_; (try clear hb); (try clear hb2); (try clear hk); (try clear hi)))
    go_ret
    exact ⟨by first | rfl | (simp [errW_none, errW_some] <;> rfl) | (simp [*, errW_none, errW_some] <;> rfl), by repeat (first | (with_reducible first | exact HB.out | apply below_alloc | apply pw_below_drewN | apply below_drew1) | exact HB.out)⟩

/-! ### laws_before: function 24 -/
def laws_before.f (a0_0 : Int) (a0_1 : ByteArray) (a0_2 : ByteArray) (a1_0 : Int) (a1_1 : ByteArray) (a1_2 : ByteArray) : Option (Bool) := if a0_1.toList = a1_1.toList then (if a0_2.toList = a1_2.toList then (some (decide (a0_0 < a1_0))) else (some (Op.bytesLess a0_2.toList a1_2.toList))) else (some (Op.bytesLess a0_1.toList a1_1.toList))
set_option maxHeartbeats 8000000 in
set_option maxRecDepth 100000 in
theorem laws_before.calls (a0_0 : Int) (a0_1 : ByteArray) (a0_2 : ByteArray) (a1_0 : Int) (a1_1 : ByteArray) (a1_2 : ByteArray) (r : Bool) (w : World) (h : laws_before.f a0_0 a0_1 a0_2 a1_0 a1_1 a1_2 = some r) :
    Calls Try.prog 24 #[.agg #[.int .i64 a0_0, .string a0_1, .string a0_2], .agg #[.int .i64 a1_0, .string a1_1, .string a1_2]] w fun e w' => e = .returned (.bool r) ∧ Below w.heap.size w w' := by
  have hu37 := Try.underlying37
  have HB := Aside0.mk (Below.refl w.heap.size w)
  have H : (if a0_1.toList = a1_1.toList then (if a0_2.toList = a1_2.toList then (some (decide (a0_0 < a1_0))) else (some (Op.bytesLess a0_2.toList a1_2.toList))) else (some (Op.bytesLess a0_1.toList a1_1.toList))) = some r := h
  clear h
  by_cases c3 : a0_1.toList = a1_1.toList
  · rw [if_pos c3] at H
    have c3b0 : (a0_1.toList == a1_1.toList) = true := beq_iff_eq.mpr c3
    have c3b1 : (a0_1.toList != a1_1.toList) = false := bne_eq_false_iff_eq.mpr c3
    clear c3
    by_cases c4 : a0_2.toList = a1_2.toList
    · rw [if_pos c4] at H
      have c4b0 : (a0_2.toList == a1_2.toList) = true := beq_iff_eq.mpr c4
      have c4b1 : (a0_2.toList != a1_2.toList) = false := bne_eq_false_iff_eq.mpr c4
      clear c4
      obtain rfl := Option.some.inj H
      go_enter Try.func24, Try.ntmps24
      go_wp2_with (first | ((with_reducible refine gate_dst (N := 2) rfl ?_); refine box_event ?hg (N := 2) ?hd (cs := #[.int .i64 a0_0, .string a0_1, .string a0_2]) (t := 37) ?hr ?_; (case hd => rfl); (case hg => rfl); (case hr => first | (go_simp; done) | (go_simp; rfl)); intro gb137 hg w5 hbox hb; have n0_ := Aside0.mk (below_step (by repeat (first | (with_reducible first | exact HB.out | apply below_alloc | apply pw_below_drewN | apply below_drew1) | exact HB.out)) hb); have n1_ := Aside0.mk (hbox); have n2_ := Aside0.mk ((by rw [hg]; exact (below_size (by repeat (first | (with_reducible first | exact HB.out | apply below_alloc | apply pw_below_drewN | apply below_drew1) | exact HB.out))) : w.heap.size ≤ gb137)); have n3_ := Aside0.mk ((by rw [hg]; exact (below_size (by repeat (first | (with_reducible first | exact HB.out | apply below_alloc | apply pw_below_drewN | apply below_drew1) | exact HB.out))) : w.heap.size ≤ gb137)); clear HB; have HB := n0_; have BK137 := n1_; have GW137 := n2_; have GE137 := n3_; clear n0_ n1_ n2_ n3_; clear hb hbox hg) | ((with_reducible refine gate_dst (N := 3) rfl ?_); refine box_event ?hg (N := 3) ?hd (cs := #[.int .i64 a1_0, .string a1_1, .string a1_2]) (t := 37) ?hr ?_; (case hd => rfl); (case hg => rfl); (case hr => first | (go_simp; done) | (go_simp; rfl)); intro gb138 hg w6 hbox hb; have n0_ := Aside0.mk (blk_below (g := gb137) (o := .cells #[.int .i64 a0_0, .string a0_1, .string a0_2] 37 (0, 0)) (by (with_reducible repeat (first | refine blk_drewN ?_ _ | refine blk_drew ?_ | refine blk_alloc ?_ _)); exact BK137.out) hb); have n1_ := Aside0.mk (below_step (by repeat (first | (with_reducible first | exact HB.out | apply below_alloc | apply pw_below_drewN | apply below_drew1 | refine below_set ?_ GE137.out) | exact HB.out)) hb); have n2_ := Aside0.mk (hbox); have n3_ := Aside0.mk ((by rw [hg]; exact (below_size (by repeat (first | (with_reducible first | exact HB.out | apply below_alloc | apply pw_below_drewN | apply below_drew1 | refine below_set ?_ GE137.out) | exact HB.out))) : w.heap.size ≤ gb138)); have n4_ := Aside0.mk ((by rw [hg]; exact (below_size (by repeat (first | (with_reducible first | exact HB.out | apply below_alloc | apply pw_below_drewN | apply below_drew1 | refine below_set ?_ GE137.out) | exact HB.out))) : w.heap.size ≤ gb138)); have n5_ := Aside0.mk ((by rw [hg]; exact Nat.ne_of_lt (blk_lt (g := gb137) (o := .cells #[.int .i64 a0_0, .string a0_1, .string a0_2] 37 (0, 0)) (by (with_reducible repeat (first | refine blk_drewN ?_ _ | refine blk_drew ?_ | refine blk_alloc ?_ _)); exact BK137.out)) : gb137 ≠ gb138)); have n6_ := Aside0.mk ((by rw [hg]; exact Nat.ne_of_gt (blk_lt (g := gb137) (o := .cells #[.int .i64 a0_0, .string a0_1, .string a0_2] 37 (0, 0)) (by (with_reducible repeat (first | refine blk_drewN ?_ _ | refine blk_drew ?_ | refine blk_alloc ?_ _)); exact BK137.out)) : gb138 ≠ gb137)); clear BK137; clear HB; have BK137 := n0_; have HB := n1_; have BK138 := n2_; have GW138 := n3_; have GE138 := n4_; have NB137_138 := n5_; have NB138_137 := n6_; clear n0_ n1_ n2_ n3_ n4_ n5_ n6_; clear hb hbox hg; have hnb7 := NB137_138.out; have hnc7 := NB138_137.out; have hcz8_0 : w6.cell? ⟨gb137, 0, none⟩ = some (.int .i64 a0_0) := (blk_cell BK137.out 0).trans rfl; have hcz8_1 : w6.cell? ⟨gb137, 1, none⟩ = some (.string a0_1) := (blk_cell BK137.out 1).trans rfl; have hcz8_2 : w6.cell? ⟨gb137, 2, none⟩ = some (.string a0_2) := (blk_cell BK137.out 2).trans rfl; have hfz8_0 := blk_frozen BK137.out 0; have hfz8_1 := blk_frozen BK137.out 1; have hfz8_2 := blk_frozen BK137.out 2; have hcz9_0 : w6.cell? ⟨gb138, 0, none⟩ = some (.int .i64 a1_0) := (blk_cell BK138.out 0).trans rfl; have hcz9_1 : w6.cell? ⟨gb138, 1, none⟩ = some (.string a1_1) := (blk_cell BK138.out 1).trans rfl; have hcz9_2 : w6.cell? ⟨gb138, 2, none⟩ = some (.string a1_2) := (blk_cell BK138.out 2).trans rfl; have hfz9_0 := blk_frozen BK138.out 0; have hfz9_1 := blk_frozen BK138.out 1; have hfz9_2 := blk_frozen BK138.out 2))
      go_ret
      exact ⟨by first | rfl | (simp [errW_none, errW_some] <;> rfl) | (simp [*, errW_none, errW_some] <;> rfl), by repeat (first | (with_reducible first | exact HB.out | apply below_alloc | apply pw_below_drewN | apply below_drew1 | refine below_set ?_ GE137.out | refine below_set ?_ GE138.out) | exact HB.out)⟩
    · rw [if_neg c4] at H
      have c4b0 : (a0_2.toList == a1_2.toList) = false := beq_eq_false_iff_ne.mpr c4
      have c4b1 : (a0_2.toList != a1_2.toList) = true := bne_iff_ne.mpr c4
      obtain rfl := Option.some.inj H
      go_enter Try.func24, Try.ntmps24
      go_wp2_with (first | ((with_reducible refine gate_dst (N := 2) rfl ?_); refine box_event ?hg (N := 2) ?hd (cs := #[.int .i64 a0_0, .string a0_1, .string a0_2]) (t := 37) ?hr ?_; (case hd => rfl); (case hg => rfl); (case hr => first | (go_simp; done) | (go_simp; rfl)); intro gb137 hg w10 hbox hb; have n0_ := Aside0.mk (below_step (by repeat (first | (with_reducible first | exact HB.out | apply below_alloc | apply pw_below_drewN | apply below_drew1) | exact HB.out)) hb); have n1_ := Aside0.mk (hbox); have n2_ := Aside0.mk ((by rw [hg]; exact (below_size (by repeat (first | (with_reducible first | exact HB.out | apply below_alloc | apply pw_below_drewN | apply below_drew1) | exact HB.out))) : w.heap.size ≤ gb137)); have n3_ := Aside0.mk ((by rw [hg]; exact (below_size (by repeat (first | (with_reducible first | exact HB.out | apply below_alloc | apply pw_below_drewN | apply below_drew1) | exact HB.out))) : w.heap.size ≤ gb137)); clear HB; have HB := n0_; have BK137 := n1_; have GW137 := n2_; have GE137 := n3_; clear n0_ n1_ n2_ n3_; clear hb hbox hg) | ((with_reducible refine gate_dst (N := 3) rfl ?_); refine box_event ?hg (N := 3) ?hd (cs := #[.int .i64 a1_0, .string a1_1, .string a1_2]) (t := 37) ?hr ?_; (case hd => rfl); (case hg => rfl); (case hr => first | (go_simp; done) | (go_simp; rfl)); intro gb138 hg w11 hbox hb; have n0_ := Aside0.mk (blk_below (g := gb137) (o := .cells #[.int .i64 a0_0, .string a0_1, .string a0_2] 37 (0, 0)) (by (with_reducible repeat (first | refine blk_drewN ?_ _ | refine blk_drew ?_ | refine blk_alloc ?_ _)); exact BK137.out) hb); have n1_ := Aside0.mk (below_step (by repeat (first | (with_reducible first | exact HB.out | apply below_alloc | apply pw_below_drewN | apply below_drew1 | refine below_set ?_ GE137.out) | exact HB.out)) hb); have n2_ := Aside0.mk (hbox); have n3_ := Aside0.mk ((by rw [hg]; exact (below_size (by repeat (first | (with_reducible first | exact HB.out | apply below_alloc | apply pw_below_drewN | apply below_drew1 | refine below_set ?_ GE137.out) | exact HB.out))) : w.heap.size ≤ gb138)); have n4_ := Aside0.mk ((by rw [hg]; exact (below_size (by repeat (first | (with_reducible first | exact HB.out | apply below_alloc | apply pw_below_drewN | apply below_drew1 | refine below_set ?_ GE137.out) | exact HB.out))) : w.heap.size ≤ gb138)); have n5_ := Aside0.mk ((by rw [hg]; exact Nat.ne_of_lt (blk_lt (g := gb137) (o := .cells #[.int .i64 a0_0, .string a0_1, .string a0_2] 37 (0, 0)) (by (with_reducible repeat (first | refine blk_drewN ?_ _ | refine blk_drew ?_ | refine blk_alloc ?_ _)); exact BK137.out)) : gb137 ≠ gb138)); have n6_ := Aside0.mk ((by rw [hg]; exact Nat.ne_of_gt (blk_lt (g := gb137) (o := .cells #[.int .i64 a0_0, .string a0_1, .string a0_2] 37 (0, 0)) (by (with_reducible repeat (first | refine blk_drewN ?_ _ | refine blk_drew ?_ | refine blk_alloc ?_ _)); exact BK137.out)) : gb138 ≠ gb137)); clear BK137; clear HB; have BK137 := n0_; have HB := n1_; have BK138 := n2_; have GW138 := n3_; have GE138 := n4_; have NB137_138 := n5_; have NB138_137 := n6_; clear n0_ n1_ n2_ n3_ n4_ n5_ n6_; clear hb hbox hg; have hnb12 := NB137_138.out; have hnc12 := NB138_137.out; have hcz13_0 : w11.cell? ⟨gb137, 0, none⟩ = some (.int .i64 a0_0) := (blk_cell BK137.out 0).trans rfl; have hcz13_1 : w11.cell? ⟨gb137, 1, none⟩ = some (.string a0_1) := (blk_cell BK137.out 1).trans rfl; have hcz13_2 : w11.cell? ⟨gb137, 2, none⟩ = some (.string a0_2) := (blk_cell BK137.out 2).trans rfl; have hfz13_0 := blk_frozen BK137.out 0; have hfz13_1 := blk_frozen BK137.out 1; have hfz13_2 := blk_frozen BK137.out 2; have hcz14_0 : w11.cell? ⟨gb138, 0, none⟩ = some (.int .i64 a1_0) := (blk_cell BK138.out 0).trans rfl; have hcz14_1 : w11.cell? ⟨gb138, 1, none⟩ = some (.string a1_1) := (blk_cell BK138.out 1).trans rfl; have hcz14_2 : w11.cell? ⟨gb138, 2, none⟩ = some (.string a1_2) := (blk_cell BK138.out 2).trans rfl; have hfz14_0 := blk_frozen BK138.out 0; have hfz14_1 := blk_frozen BK138.out 1; have hfz14_2 := blk_frozen BK138.out 2))
      go_ret
      exact ⟨by first | rfl | (simp [errW_none, errW_some] <;> rfl) | (simp [*, errW_none, errW_some] <;> rfl), by repeat (first | (with_reducible first | exact HB.out | apply below_alloc | apply pw_below_drewN | apply below_drew1 | refine below_set ?_ GE137.out | refine below_set ?_ GE138.out) | exact HB.out)⟩
  · rw [if_neg c3] at H
    have c3b0 : (a0_1.toList == a1_1.toList) = false := beq_eq_false_iff_ne.mpr c3
    have c3b1 : (a0_1.toList != a1_1.toList) = true := bne_iff_ne.mpr c3
    obtain rfl := Option.some.inj H
    go_enter Try.func24, Try.ntmps24
    go_wp2_with (first | ((with_reducible refine gate_dst (N := 2) rfl ?_); refine box_event ?hg (N := 2) ?hd (cs := #[.int .i64 a0_0, .string a0_1, .string a0_2]) (t := 37) ?hr ?_; (case hd => rfl); (case hg => rfl); (case hr => first | (go_simp; done) | (go_simp; rfl)); intro gb137 hg w15 hbox hb; have n0_ := Aside0.mk (below_step (by repeat (first | (with_reducible first | exact HB.out | apply below_alloc | apply pw_below_drewN | apply below_drew1) | exact HB.out)) hb); have n1_ := Aside0.mk (hbox); have n2_ := Aside0.mk ((by rw [hg]; exact (below_size (by repeat (first | (with_reducible first | exact HB.out | apply below_alloc | apply pw_below_drewN | apply below_drew1) | exact HB.out))) : w.heap.size ≤ gb137)); have n3_ := Aside0.mk ((by rw [hg]; exact (below_size (by repeat (first | (with_reducible first | exact HB.out | apply below_alloc | apply pw_below_drewN | apply below_drew1) | exact HB.out))) : w.heap.size ≤ gb137)); clear HB; have HB := n0_; have BK137 := n1_; have GW137 := n2_; have GE137 := n3_; clear n0_ n1_ n2_ n3_; clear hb hbox hg) | ((with_reducible refine gate_dst (N := 3) rfl ?_); refine box_event ?hg (N := 3) ?hd (cs := #[.int .i64 a1_0, .string a1_1, .string a1_2]) (t := 37) ?hr ?_; (case hd => rfl); (case hg => rfl); (case hr => first | (go_simp; done) | (go_simp; rfl)); intro gb138 hg w16 hbox hb; have n0_ := Aside0.mk (blk_below (g := gb137) (o := .cells #[.int .i64 a0_0, .string a0_1, .string a0_2] 37 (0, 0)) (by (with_reducible repeat (first | refine blk_drewN ?_ _ | refine blk_drew ?_ | refine blk_alloc ?_ _)); exact BK137.out) hb); have n1_ := Aside0.mk (below_step (by repeat (first | (with_reducible first | exact HB.out | apply below_alloc | apply pw_below_drewN | apply below_drew1 | refine below_set ?_ GE137.out) | exact HB.out)) hb); have n2_ := Aside0.mk (hbox); have n3_ := Aside0.mk ((by rw [hg]; exact (below_size (by repeat (first | (with_reducible first | exact HB.out | apply below_alloc | apply pw_below_drewN | apply below_drew1 | refine below_set ?_ GE137.out) | exact HB.out))) : w.heap.size ≤ gb138)); have n4_ := Aside0.mk ((by rw [hg]; exact (below_size (by repeat (first | (with_reducible first | exact HB.out | apply below_alloc | apply pw_below_drewN | apply below_drew1 | refine below_set ?_ GE137.out) | exact HB.out))) : w.heap.size ≤ gb138)); have n5_ := Aside0.mk ((by rw [hg]; exact Nat.ne_of_lt (blk_lt (g := gb137) (o := .cells #[.int .i64 a0_0, .string a0_1, .string a0_2] 37 (0, 0)) (by (with_reducible repeat (first | refine blk_drewN ?_ _ | refine blk_drew ?_ | refine blk_alloc ?_ _)); exact BK137.out)) : gb137 ≠ gb138)); have n6_ := Aside0.mk ((by rw [hg]; exact Nat.ne_of_gt (blk_lt (g := gb137) (o := .cells #[.int .i64 a0_0, .string a0_1, .string a0_2] 37 (0, 0)) (by (with_reducible repeat (first | refine blk_drewN ?_ _ | refine blk_drew ?_ | refine blk_alloc ?_ _)); exact BK137.out)) : gb138 ≠ gb137)); clear BK137; clear HB; have BK137 := n0_; have HB := n1_; have BK138 := n2_; have GW138 := n3_; have GE138 := n4_; have NB137_138 := n5_; have NB138_137 := n6_; clear n0_ n1_ n2_ n3_ n4_ n5_ n6_; clear hb hbox hg; have hnb17 := NB137_138.out; have hnc17 := NB138_137.out; have hcz18_0 : w16.cell? ⟨gb137, 0, none⟩ = some (.int .i64 a0_0) := (blk_cell BK137.out 0).trans rfl; have hcz18_1 : w16.cell? ⟨gb137, 1, none⟩ = some (.string a0_1) := (blk_cell BK137.out 1).trans rfl; have hcz18_2 : w16.cell? ⟨gb137, 2, none⟩ = some (.string a0_2) := (blk_cell BK137.out 2).trans rfl; have hfz18_0 := blk_frozen BK137.out 0; have hfz18_1 := blk_frozen BK137.out 1; have hfz18_2 := blk_frozen BK137.out 2; have hcz19_0 : w16.cell? ⟨gb138, 0, none⟩ = some (.int .i64 a1_0) := (blk_cell BK138.out 0).trans rfl; have hcz19_1 : w16.cell? ⟨gb138, 1, none⟩ = some (.string a1_1) := (blk_cell BK138.out 1).trans rfl; have hcz19_2 : w16.cell? ⟨gb138, 2, none⟩ = some (.string a1_2) := (blk_cell BK138.out 2).trans rfl; have hfz19_0 := blk_frozen BK138.out 0; have hfz19_1 := blk_frozen BK138.out 1; have hfz19_2 := blk_frozen BK138.out 2))
    go_ret
    exact ⟨by first | rfl | (simp [errW_none, errW_some] <;> rfl) | (simp [*, errW_none, errW_some] <;> rfl), by repeat (first | (with_reducible first | exact HB.out | apply below_alloc | apply pw_below_drewN | apply below_drew1 | refine below_set ?_ GE137.out | refine below_set ?_ GE138.out) | exact HB.out)⟩

/-! ### spec_sign: function 54 -/
def spec_sign.f (a0 : Bool) : Option (Int) := if a0 = true then (some (-1)) else (some 1)
set_option maxHeartbeats 8000000 in
set_option maxRecDepth 100000 in
theorem spec_sign.calls (a0 : Bool) (r : Int) (w : World) (h : spec_sign.f a0 = some r) :
    Calls Try.prog 54 #[.bool a0] w fun e w' => e = .returned (.int .i64 r) ∧ Drawn0 w w' := by
  have H : (if a0 = true then (some (-1)) else (some 1)) = some r := h
  clear h
  by_cases c2 : a0 = true
  · subst c2
    have H1 : (some (-1)) = some r := by rw [if_pos rfl] at H; exact H
    clear H
    have H := H1
    clear H1
    obtain rfl := Option.some.inj H
    go_enter Try.func54, Try.ntmps54
    go_wp2
    go_ret
    exact ⟨by first | rfl | (simp; done) | (simp [*]; done), by repeat (first | exact Drawn0.refl _ | apply Drawn0.step)⟩
  · replace c2 := Bool.eq_false_iff.mpr c2
    subst c2
    have H1 : (some 1) = some r := by rw [if_neg (show ¬ (false = true) by decide)] at H; exact H
    clear H
    have H := H1
    clear H1
    obtain rfl := Option.some.inj H
    go_enter Try.func54, Try.ntmps54
    go_wp2
    go_ret
    exact ⟨by first | rfl | (simp; done) | (simp [*]; done), by repeat (first | exact Drawn0.refl _ | apply Drawn0.step)⟩

end Go.Proofs.Ytbffhefeepmpcaa.Q
