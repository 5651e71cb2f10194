-- printed by this project's own program wip/tools/mkprint.py (the kit's print.py with hand-proved contracts put in)
import Derived.Test.YtmjoebnphacadaaDoorMc
import Derived.Test.YtmjoebnphacadaaDoorQx0
import Derived.Test.YtmjoebnphacadaaDoorQx1
namespace Go.Proofs.YtmjoebnphacadaaDoor.Q
open Go.RowKit Go.Proofs.YtmjoebnphacadaaDoorW.PrintWords Go.Proofs.YtmjoebnphacadaaDoorW.PrintLast Go.Proofs.YtmjoebnphacadaaDoorW.PrintMore
attribute [local go_sem] max2_int min2_int max_two min_two max_three min_three max_four min_four   -- for this text's walks alone
set_option linter.unusedVariables false
set_option linter.unusedSimpArgs false

attribute [local go_sem high] eqA35
-- NOT PRINTED: function 22 (parse_ZzNewLexer)

/-! ### parse_zzData: function 30 -/
noncomputable def parse_zzData.f (a0_0 : Int) (a0_1 : ByteArray) (a0_2 : Int) (a0_3 : Int) (a0_4 : Int) (a0_5 : Int) (a1 : Option Int) : Option (Int × ByteArray × Int × Int × Int × Int × Option Int) := some (a0_0, a0_1, a0_2, a0_3, a0_4, a0_5, a1)
set_option maxHeartbeats 8000000 in
set_option maxRecDepth 100000 in
theorem parse_zzData.calls (a0_0 : Int) (a0_1 : ByteArray) (a0_2 : Int) (a0_3 : Int) (a0_4 : Int) (a0_5 : Int) (a1 : Option Int) (r1 : Int) (r2 : ByteArray) (r3 : Int) (r4 : Int) (r5 : Int) (r6 : Int) (r7 : Option Int) (w : World) (h : parse_zzData.f a0_0 a0_1 a0_2 a0_3 a0_4 a0_5 a1 = some (r1, r2, r3, r4, r5, r6, r7)) :
    Calls Tryd.prog 30 #[.agg #[.int .i64 a0_0, .string a0_1, .int .i64 a0_2, .int .i64 a0_3, .int .i64 a0_4, .int .i64 a0_5], errW a1] w fun e w' => e = .returned (.tuple #[.agg #[.int .i64 r1, .string r2, .int .i64 r3, .int .i64 r4, .int .i64 r5, .int .i64 r6], errW r7]) ∧ Below w.heap.size w w' := by
  have hu80 := Tryd.underlying80
  have hu49 := Tryd.underlying49
  have HB := Aside0.mk (Below.refl w.heap.size w)
  have H : (some (a0_0, a0_1, a0_2, a0_3, a0_4, a0_5, a1)) = some (r1, r2, r3, r4, r5, r6, r7) := h
  clear h
  simp only [Option.some.injEq, Prod.mk.injEq] at H
  obtain ⟨rfl, rfl, rfl, rfl, rfl, rfl, rfl⟩ := H
  go_enter Tryd.func30, Tryd.ntmps30
  go_wp2_with (first | ((with_reducible refine gate_dst (N := 2) rfl ?_); refine box_event ?hg (N := 2) ?hd (cs := #[.int .i64 a0_0, .string a0_1, .int .i64 a0_2, .int .i64 a0_3, .int .i64 a0_4, .int .i64 a0_5]) (t := 80) ?hr ?_; (case hd => rfl); (case hg => rfl); (case hr => first | (go_simp; done) | (go_simp; rfl)); intro gb101 hg w3 hbox hb; have n0_ := Aside0.mk (below_step (by repeat (first | (with_reducible first | exact HB.out | apply below_alloc | apply pw_below_drewN | apply below_drew1) | exact HB.out)) hb); have n1_ := Aside0.mk (hbox); have n2_ := Aside0.mk ((by rw [hg]; exact (below_size (by repeat (first | (with_reducible first | exact HB.out | apply below_alloc | apply pw_below_drewN | apply below_drew1) | exact HB.out))) : w.heap.size ≤ gb101)); have n3_ := Aside0.mk ((by rw [hg]; exact (below_size (by repeat (first | (with_reducible first | exact HB.out | apply below_alloc | apply pw_below_drewN | apply below_drew1) | exact HB.out))) : w.heap.size ≤ gb101)); clear HB; have HB := n0_; have BK101 := n1_; have GW101 := n2_; have GE101 := n3_; clear n0_ n1_ n2_ n3_; clear hb hbox hg) | ((with_reducible refine gate_dst (N := 4) rfl ?_); refine box_event ?hg (N := 4) ?hd (cs := #[.int .i64 0, .string (⟨#[]⟩ : ByteArray), .int .i64 0, .int .i64 0, .int .i64 0, .int .i64 0]) (t := 49) ?hr ?_; (case hd => rfl); (case hg => rfl); (case hr => first | (go_simp; done) | (go_simp; rfl)); intro gb102 hg w4 hbox hb; have n0_ := Aside0.mk (blk_below (g := gb101) (o := .cells #[.int .i64 a0_0, .string a0_1, .int .i64 a0_2, .int .i64 a0_3, .int .i64 a0_4, .int .i64 a0_5] 80 (0, 0)) (by (with_reducible repeat (first | refine blk_drewN ?_ _ | refine blk_drew ?_ | refine blk_alloc ?_ _)); exact BK101.out) hb); have n1_ := Aside0.mk (below_step (by repeat (first | (with_reducible first | exact HB.out | apply below_alloc | apply pw_below_drewN | apply below_drew1 | refine below_set ?_ GE101.out) | exact HB.out)) hb); have n2_ := Aside0.mk (hbox); have n3_ := Aside0.mk ((by rw [hg]; exact (below_size (by repeat (first | (with_reducible first | exact HB.out | apply below_alloc | apply pw_below_drewN | apply below_drew1 | refine below_set ?_ GE101.out) | exact HB.out))) : w.heap.size ≤ gb102)); have n4_ := Aside0.mk ((by rw [hg]; exact (below_size (by repeat (first | (with_reducible first | exact HB.out | apply below_alloc | apply pw_below_drewN | apply below_drew1 | refine below_set ?_ GE101.out) | exact HB.out))) : w.heap.size ≤ gb102)); have n5_ := Aside0.mk ((by rw [hg]; exact Nat.ne_of_lt (blk_lt (g := gb101) (o := .cells #[.int .i64 a0_0, .string a0_1, .int .i64 a0_2, .int .i64 a0_3, .int .i64 a0_4, .int .i64 a0_5] 80 (0, 0)) (by (with_reducible repeat (first | refine blk_drewN ?_ _ | refine blk_drew ?_ | refine blk_alloc ?_ _)); exact BK101.out)) : gb101 ≠ gb102)); have n6_ := Aside0.mk ((by rw [hg]; exact Nat.ne_of_gt (blk_lt (g := gb101) (o := .cells #[.int .i64 a0_0, .string a0_1, .int .i64 a0_2, .int .i64 a0_3, .int .i64 a0_4, .int .i64 a0_5] 80 (0, 0)) (by (with_reducible repeat (first | refine blk_drewN ?_ _ | refine blk_drew ?_ | refine blk_alloc ?_ _)); exact BK101.out)) : gb102 ≠ gb101)); clear BK101; clear HB; have BK101 := n0_; have HB := n1_; have BK102 := n2_; have GW102 := n3_; have GE102 := n4_; have NB101_102 := n5_; have NB102_101 := n6_; clear n0_ n1_ n2_ n3_ n4_ n5_ n6_; clear hb hbox hg; have hnb5 := NB101_102.out; have hnc5 := NB102_101.out; have hcz6_0 : w4.cell? ⟨gb101, 0, none⟩ = some (.int .i64 a0_0) := (blk_cell BK101.out 0).trans rfl; have hcz6_1 : w4.cell? ⟨gb101, 1, none⟩ = some (.string a0_1) := (blk_cell BK101.out 1).trans rfl; have hcz6_2 : w4.cell? ⟨gb101, 2, none⟩ = some (.int .i64 a0_2) := (blk_cell BK101.out 2).trans rfl; have hcz6_3 : w4.cell? ⟨gb101, 3, none⟩ = some (.int .i64 a0_3) := (blk_cell BK101.out 3).trans rfl; have hcz6_4 : w4.cell? ⟨gb101, 4, none⟩ = some (.int .i64 a0_4) := (blk_cell BK101.out 4).trans rfl; have hcz6_5 : w4.cell? ⟨gb101, 5, none⟩ = some (.int .i64 a0_5) := (blk_cell BK101.out 5).trans rfl; have hfz6_0 := blk_frozen BK101.out 0; have hfz6_1 := blk_frozen BK101.out 1; have hfz6_2 := blk_frozen BK101.out 2; have hfz6_3 := blk_frozen BK101.out 3; have hfz6_4 := blk_frozen BK101.out 4; have hfz6_5 := blk_frozen BK101.out 5; have hcz7_0 : w4.cell? ⟨gb102, 0, none⟩ = some (.int .i64 0) := (blk_cell BK102.out 0).trans rfl; have hcz7_1 : w4.cell? ⟨gb102, 1, none⟩ = some (.string (⟨#[]⟩ : ByteArray)) := (blk_cell BK102.out 1).trans rfl; have hcz7_2 : w4.cell? ⟨gb102, 2, none⟩ = some (.int .i64 0) := (blk_cell BK102.out 2).trans rfl; have hcz7_3 : w4.cell? ⟨gb102, 3, none⟩ = some (.int .i64 0) := (blk_cell BK102.out 3).trans rfl; have hcz7_4 : w4.cell? ⟨gb102, 4, none⟩ = some (.int .i64 0) := (blk_cell BK102.out 4).trans rfl; have hcz7_5 : w4.cell? ⟨gb102, 5, none⟩ = some (.int .i64 0) := (blk_cell BK102.out 5).trans rfl; have hfz7_0 := blk_frozen BK102.out 0; have hfz7_1 := blk_frozen BK102.out 1; have hfz7_2 := blk_frozen BK102.out 2; have hfz7_3 := blk_frozen BK102.out 3; have hfz7_4 := blk_frozen BK102.out 4; have hfz7_5 := blk_frozen BK102.out 5))
  refine bodyPost_ret (results_ct rfl _ _ gb102 49 #[.int .i64 a0_0, .string a0_1, .int .i64 a0_2, .int .i64 a0_3, .int .i64 a0_4, .int .i64 a0_5] (0, 0) _ rfl (by (with_reducible repeat (first | refine blk_drewN ?_ _ | refine blk_drew ?_ | refine blk_alloc ?_ _)); refine blk_put (cs := #[.int .i64 a0_0, .string a0_1, .int .i64 a0_2, .int .i64 a0_3, .int .i64 a0_4, .int .i64 0]) ?_ 5 _ rfl; (with_reducible repeat (first | refine blk_drewN ?_ _ | refine blk_drew ?_ | refine blk_alloc ?_ _)); refine blk_put (cs := #[.int .i64 a0_0, .string a0_1, .int .i64 a0_2, .int .i64 a0_3, .int .i64 0, .int .i64 0]) ?_ 4 _ rfl; (with_reducible repeat (first | refine blk_drewN ?_ _ | refine blk_drew ?_ | refine blk_alloc ?_ _)); refine blk_put (cs := #[.int .i64 a0_0, .string a0_1, .int .i64 a0_2, .int .i64 0, .int .i64 0, .int .i64 0]) ?_ 3 _ rfl; (with_reducible repeat (first | refine blk_drewN ?_ _ | refine blk_drew ?_ | refine blk_alloc ?_ _)); refine blk_put (cs := #[.int .i64 a0_0, .string a0_1, .int .i64 0, .int .i64 0, .int .i64 0, .int .i64 0]) ?_ 2 _ rfl; (with_reducible repeat (first | refine blk_drewN ?_ _ | refine blk_drew ?_ | refine blk_alloc ?_ _)); refine blk_put (cs := #[.int .i64 a0_0, .string (⟨#[]⟩ : ByteArray), .int .i64 0, .int .i64 0, .int .i64 0, .int .i64 0]) ?_ 1 _ rfl; (with_reducible repeat (first | refine blk_drewN ?_ _ | refine blk_drew ?_ | refine blk_alloc ?_ _)); refine blk_put (cs := #[.int .i64 0, .string (⟨#[]⟩ : ByteArray), .int .i64 0, .int .i64 0, .int .i64 0, .int .i64 0]) ?_ 0 _ rfl; (with_reducible repeat (first | refine blk_drewN ?_ _ | refine blk_drew ?_ | refine blk_alloc ?_ _)); exact BK102.out) Tryd.underlying49 rfl (by kernel_rfl)) rfl ?_
  exact ⟨by first | rfl | (simp [errW_none, errW_some] <;> rfl) | (simp [*, errW_none, errW_some] <;> rfl), by repeat (first | (with_reducible first | exact HB.out | apply below_alloc | apply pw_below_drewN | apply below_drew1 | refine below_set ?_ GE101.out | refine below_set ?_ GE102.out) | exact HB.out)⟩

-- NOT PRINTED: function 45 (unicode_is16)

-- NOT PRINTED: function 46 (unicode_is32)

-- NOT PRINTED: function 32 (unicode_isExcludingLatin)

-- NOT PRINTED: function 24 (unicode_IsSpace)

-- NOT PRINTED: function 58 (utf8_decodeRuneInStringSlow)

-- NOT PRINTED: function 48 (utf8_DecodeRuneInString)

-- NOT PRINTED: function 36 (parse_lexer_next)

-- NOT PRINTED: function 44 (parse_lexer_position)

-- NOT PRINTED: function 37 (parse_lexer_emit)

-- NOT PRINTED: function 38 (parse_lexer_rewind)

/-! ### parse_zzIndexRune: function 59 -/
def parse_zzIndexRune.j0 : Nat → Bool → Option (Int)
  | 0, _ => none
  | k + 1, x24 => if x24 = true then (some (-1)) else (none)
noncomputable def parse_zzIndexRune.f (k : Nat) (a0 : ByteArray) (a1 : Int) : Option (Int) := if a1 = 65533 then (parse_zzIndexRune.j0 k false) else (if a1 < 0 then (parse_zzIndexRune.j0 k true) else (if a1 > 1114111 then (parse_zzIndexRune.j0 k true) else (if 55296 ≤ a1 then (parse_zzIndexRune.j0 k (decide (a1 ≤ 57343))) else (parse_zzIndexRune.j0 k false))))
theorem parse_zzIndexRune.mono_l : ∀ k, (∀ y0, LeO (parse_zzIndexRune.j0 k y0) (parse_zzIndexRune.j0 (k + 1) y0))
  | 0 => fun _ r h => by simp [parse_zzIndexRune.j0] at h
  | k + 1 => by
    have ih0 := parse_zzIndexRune.mono_l k
    · intro y0
      unfold parse_zzIndexRune.j0
      repeat' first
      | (with_reducible exact ih0 _)
      | (with_reducible exact LeO.refl _)
      | (with_reducible exact LeO.none _)
      | (with_reducible refine LeO.ite ?_ ?_)
      | (with_reducible refine LeO.bind ?_ (fun _ => ?_))
      | exact ih0 _
      | exact LeO.none _
      | refine LeO.ite ?_ ?_
      | refine LeO.bind ?_ (fun _ => ?_)
theorem parse_zzIndexRune.mono : ∀ a0 a1 k, LeO (parse_zzIndexRune.f k a0 a1) (parse_zzIndexRune.f (k + 1) a0 a1) := by
  intro a0 a1 k
  have ih0 := parse_zzIndexRune.mono_l k
  unfold parse_zzIndexRune.f
  repeat' first
      | (with_reducible exact ih0 _)
      | (with_reducible exact LeO.refl _)
      | (with_reducible exact LeO.none _)
      | (with_reducible refine LeO.ite ?_ ?_)
      | (with_reducible refine LeO.bind ?_ (fun _ => ?_))
      | exact ih0 _
      | exact LeO.none _
      | refine LeO.ite ?_ ?_
      | refine LeO.bind ?_ (fun _ => ?_)
set_option maxHeartbeats 8000000 in
set_option maxRecDepth 100000 in
theorem parse_zzIndexRune.calls (k : Nat) (a0 : ByteArray) (a1 : Int) (r : Int) (w : World) (h : parse_zzIndexRune.f k a0 a1 = some r) :
    Calls Tryd.prog 59 #[.string a0, .int .i32 a1] w fun e w' => e = .returned (.int .i64 r) ∧ Drawn0 w w' := by
  have H : (if a1 = 65533 then (parse_zzIndexRune.j0 k false) else (if a1 < 0 then (parse_zzIndexRune.j0 k true) else (if a1 > 1114111 then (parse_zzIndexRune.j0 k true) else (if 55296 ≤ a1 then (parse_zzIndexRune.j0 k (decide (a1 ≤ 57343))) else (parse_zzIndexRune.j0 k false))))) = some r := h
  clear h
  have HC3 := Aside0.mk H
  clear H
  go_enter Tryd.func59, Tryd.ntmps59
  go_upto_region 1 with (fail)
  go_cut [24] (fun v24 wc => ∃ (kq : Nat) (x24_2 : Bool), v24 = .bool x24_2 ∧ Aside0 (parse_zzIndexRune.j0 kq x24_2 = some r) ∧ Aside0 (kq ≤ k) ∧ Drawn0 w wc)
  case first =>
    have H := HC3.out
    clear HC3
    by_cases c4 : a1 = 65533
    · rw [if_pos c4] at H
      have c4b0 : (a1 == 65533) = true := beq_iff_eq.mpr c4
      have c4b1 : (a1 != 65533) = false := bne_eq_false_iff_eq.mpr c4
      clear c4
      (first | rw [c4b0] | (simp only [i64_w, i32_w]; rw [c4b0]) | skip)
      have H' := Aside0.mk H
      clear H
      go_wp2
      go_meet
      case rel => exact ⟨_, (false), (by first | rfl | (simp; done) | (simp [*]; done)), H', ⟨by first | omega | exact Nat.le_refl _⟩, by repeat (first | exact Drawn0.refl _ | apply Drawn0.step)⟩
    · rw [if_neg c4] at H
      have c4b0 : (a1 == 65533) = false := beq_eq_false_iff_ne.mpr c4
      have c4b1 : (a1 != 65533) = true := bne_iff_ne.mpr c4
      (first | rw [c4b0] | (simp only [i64_w, i32_w]; rw [c4b0]) | skip)
      by_cases c5 : a1 < 0
      · rw [if_pos c5] at H
        have c5b0 : decide (a1 < 0) = true := decide_eq_true c5
        clear c5
        have H' := Aside0.mk H
        clear H
        go_wp2
        go_meet
        case rel => exact ⟨_, (true), (by first | rfl | (simp; done) | (simp [*]; done)), H', ⟨by first | omega | exact Nat.le_refl _⟩, by repeat (first | exact Drawn0.refl _ | apply Drawn0.step)⟩
      · rw [if_neg c5] at H
        have c5b0 : decide (a1 < 0) = false := decide_eq_false c5
        clear c5
        by_cases c6 : a1 > 1114111
        · rw [if_pos c6] at H
          have c6b0 : decide (1114111 < a1) = true := decide_eq_true c6
          clear c6
          have H' := Aside0.mk H
          clear H
          go_wp2
          go_meet
          case rel => exact ⟨_, (true), (by first | rfl | (simp; done) | (simp [*]; done)), H', ⟨by first | omega | exact Nat.le_refl _⟩, by repeat (first | exact Drawn0.refl _ | apply Drawn0.step)⟩
        · rw [if_neg c6] at H
          have c6b0 : decide (1114111 < a1) = false := decide_eq_false c6
          clear c6
          by_cases c7 : 55296 ≤ a1
          · rw [if_pos c7] at H
            have c7b0 : decide (55296 ≤ a1) = true := decide_eq_true c7
            clear c7
            have H' := Aside0.mk H
            clear H
            go_wp2
            go_meet
            case rel => exact ⟨_, (decide (a1 ≤ 57343)), (by first | rfl | (simp; done) | (simp [*]; done)), H', ⟨by first | omega | exact Nat.le_refl _⟩, by repeat (first | exact Drawn0.refl _ | apply Drawn0.step)⟩
          · rw [if_neg c7] at H
            have c7b0 : decide (55296 ≤ a1) = false := decide_eq_false c7
            clear c7
            have H' := Aside0.mk H
            clear H
            go_wp2
            go_meet
            case rel => exact ⟨_, (false), (by first | rfl | (simp; done) | (simp [*]; done)), H', ⟨by first | omega | exact Nat.le_refl _⟩, by repeat (first | exact Drawn0.refl _ | apply Drawn0.step)⟩
  case rest =>
    clear HC3
    try clear p2
    try clear c4
    try clear c4b0
    try clear c4b1
    try clear c5
    try clear c5b0
    try clear c6
    try clear c6b0
    try clear c7
    try clear c7b0
    obtain ⟨kq, x24_2, rfl, HA, HJ2, ⟨mc2, rfl⟩⟩ := hcut
    cases kq with
    | zero => exact absurd HA.out (by simp [parse_zzIndexRune.j0])
    | succ kj2 =>
      have H := HA.out
      clear HA
      simp only [parse_zzIndexRune.j0] at H
      by_cases c8 : x24_2 = true
      · subst c8
        have H1 : (some (-1)) = some r := by rw [if_pos rfl] at H; exact H
        clear H
        have H := H1
        clear H1
        obtain rfl := Option.some.inj H
        go_wp2
        go_ret
        exact ⟨by first | rfl | (simp; done) | (simp [*]; done), by repeat (first | exact Drawn0.refl _ | apply Drawn0.step)⟩
      · replace c8 := Bool.eq_false_iff.mpr c8
        subst c8
        have H1 : (none) = some r := by rw [if_neg (show ¬ (false = true) by decide)] at H; exact H
        clear H
        have H := H1
        clear H1
        exact absurd H (by simp)

/-! ### parse_zzContainsRune: function 51 -/
noncomputable def parse_zzContainsRune.f (k : Nat) (a0 : ByteArray) (a1 : Int) : Option (Bool) := (parse_zzIndexRune.f k a0 a1).bind fun t106 => (some (decide (t106 ≥ 0)))
theorem parse_zzContainsRune.mono : ∀ a0 a1 k, LeO (parse_zzContainsRune.f k a0 a1) (parse_zzContainsRune.f (k + 1) a0 a1) := by
  intro a0 a1 k
  unfold parse_zzContainsRune.f
  repeat' first
      | (with_reducible exact parse_zzIndexRune.mono _ _ _)
      | (with_reducible exact LeO.refl _)
      | (with_reducible exact LeO.none _)
      | (with_reducible refine LeO.ite ?_ ?_)
      | (with_reducible refine LeO.bind ?_ (fun _ => ?_))
      | exact parse_zzIndexRune.mono _ _ _
      | exact LeO.none _
      | refine LeO.ite ?_ ?_
      | refine LeO.bind ?_ (fun _ => ?_)
set_option maxHeartbeats 8000000 in
set_option maxRecDepth 100000 in
theorem parse_zzContainsRune.calls (k : Nat) (a0 : ByteArray) (a1 : Int) (r : Bool) (w : World) (h : parse_zzContainsRune.f k a0 a1 = some r) :
    Calls Tryd.prog 51 #[.string a0, .int .i32 a1] w fun e w' => e = .returned (.bool r) ∧ Drawn0 w w' := by
  have H : ((parse_zzIndexRune.f k a0 a1).bind fun t106 => (some (decide (t106 ≥ 0)))) = some r := h
  clear h
  replace H := Option.bind_eq_some_iff.mp H
  obtain ⟨t106, A30, H⟩ := H
  replace H : (some (decide (t106 ≥ 0))) = some r := H
  have A3 := Aside0.mk A30
  clear A30
  obtain rfl := Option.some.inj H
  go_enter Tryd.func51, Tryd.ntmps51
  go_wp2_with (first | ((with_reducible refine gate_callee (f := 59) rfl ?_); refine goesL_ (some 7) rfl rfl Tryd.func59 (by kernel_rfl) rfl #[.string a0, .int .i32 a1] rfl (by (try simp only [List.map_toArray, List.map_cons, List.map_nil]); first | done | rfl | (simp only [List.length_drop, List.length_take]; rfl)) ?_; (with_reducible refine (parse_zzIndexRune.calls k a0 a1 t106 _ A3.out).mono ?_); rintro e w' ⟨rfl, ⟨nd, rfl⟩⟩; refine ⟨_, rfl, ?_⟩))
  go_ret
  exact ⟨by first | rfl | (simp; done) | (simp [*]; done), by repeat (first | exact Drawn0.refl _ | apply Drawn0.step)⟩

-- NOT PRINTED: function 49 (parse_lexer_accept)

-- NOT PRINTED: function 39 (parse_lexer_scanOperator)

-- NOT PRINTED: function 50 (parse_lexer_expect)

-- NOT PRINTED: function 40 (parse_lexer_scanQuoted)

-- NOT PRINTED: function 41 (parse_isReserved)

-- NOT PRINTED: function 42 (parse_lexer_scanUnquoted)

-- NOT PRINTED: function 43 (parse_lexer_skip)

-- NOT PRINTED: function 31 (parse_lexer_scan)

-- NOT PRINTED: function 23 (parse_ZzLexer_ZzScan)

/-! ### impl_Tokens: function 9 -/
-- a contract that was proved by hand
theorem infoTk : (Tryd.prog.info? 27).map (fun i => (i.zero, i.size, i.bytes)) = some (some (.agg #[.int .i64 0, .string ⟨#[]⟩, .int .i64 0, .int .i64 0, .int .i64 0, .int .i64 0]), 6, 56) := by kernel_rfl
open Go.Proofs.YtmjoebnphacadaaDoor.Lex in
/-- The tokens of a text from a place on; is there its end behind them? -/
def tokensR (s : ByteArray) : Nat → Nat → Nat → List S27 × Bool
  | 0, _, _ => ([], false)
  | f + 1, p, c => match scanE s (s.size + 1) p c with
    | .eof _ _ => ([], true)
    | .bad => ([], false)
    | .tok k a e ca ce => ((⟨(k : Int), s.extract a e, (a : Int), (e : Int), (ca : Int), (ce : Int)⟩ : S27) :: (tokensR s f e ce).1, (tokensR s f e ce).2)
noncomputable def impl_Tokens.f (a0 : ByteArray) : Option (List S27 × Bool) := if a0.size ≤ 2147483647 then some (tokensR a0 (a0.size + 1) 0 0) else none
section tokens
open Go.Proofs.YtmjoebnphacadaaDoor.Lex
theorem tokensR_eof {s : ByteArray} {f p c u v : Nat} (h : scanE s (s.size + 1) p c = .eof u v) : tokensR s (f + 1) p c = ([], true) := by
  show (match scanE s (s.size + 1) p c with | .eof _ _ => _ | .bad => _ | .tok k a e ca ce => _) = _
  rw [h]
theorem tokensR_bad {s : ByteArray} {f p c : Nat} (h : scanE s (s.size + 1) p c = .bad) : tokensR s (f + 1) p c = ([], false) := by
  show (match scanE s (s.size + 1) p c with | .eof _ _ => _ | .bad => _ | .tok k a e ca ce => _) = _
  rw [h]
theorem tokensR_tok {s : ByteArray} {f p c k a e ca ce : Nat} (h : scanE s (s.size + 1) p c = .tok k a e ca ce) :
    tokensR s (f + 1) p c = ((⟨(k : Int), s.extract a e, (a : Int), (e : Int), (ca : Int), (ce : Int)⟩ : S27) :: (tokensR s f e ce).1, (tokensR s f e ce).2) := by
  show (match scanE s (s.size + 1) p c with | .eof _ _ => _ | .bad => _ | .tok k a e ca ce => _) = _
  rw [h]
theorem R_kept {α : Type} {d : Kd α} {e B o : Nat} {w w1 : World} {v : Value} {xs : List α} (h : d.R e w (B + 1) (fun _ => True) v xs) (hk : Kept B o w w1) : d.R e w1 (B + 1) (fun _ => True) v xs :=
  Kd.R_mono (Kd.R_step (Kd.R_bound h) (fun k h1 h2 => hk.block k h2 (by have := h1.2.1; omega))) (fun _ _ => trivial)
theorem R_notB {α : Type} {d : Kd α} {e B : Nat} {w : World} {v : Value} {xs : List α} (h : d.R e w (B + 1) (fun _ => True) v xs) : some B ≠ v.ownBlock := by
  intro hh
  have := ((Kd.R_bound h).1 B hh.symm).2.1
  omega
theorem LexAt.block {w w' : World} {B o : Nat} {s : ByteArray} {e : Value} {a p wd ca c : Nat} (h : LexAt w B o s e a p wd ca c) (hb : w'.heap[B]? = w.heap[B]?) : LexAt w' B o s e a p wd ca c := by
  have h1 : ∀ i, w'.cell? ⟨B, i, none⟩ = w.cell? ⟨B, i, none⟩ := fun i => World.cell?_of_block (w := w) hb
  have h2 : ∀ i, w'.frozen? ⟨B, i, none⟩ = w.frozen? ⟨B, i, none⟩ := fun i => World.frozen?_of_block (w := w) hb
  exact ⟨(h1 _).trans h.c0, (h1 _).trans h.c1, (h1 _).trans h.c2, (h1 _).trans h.c3, (h1 _).trans h.c4, (h1 _).trans h.c5, (h1 _).trans h.c6, (h2 _).trans h.f1, (h2 _).trans h.f2, (h2 _).trans h.f3, (h2 _).trans h.f4, (h2 _).trans h.f5, (h2 _).trans h.f6⟩
set_option maxHeartbeats 6400000 in
set_option maxRecDepth 100000 in
theorem impl_Tokens.calls (a0 : ByteArray) (r1 : List S27) (r2 : Bool) (w : World) (hT_ : ETx w) (h : impl_Tokens.f a0 = some (r1, r2)) :
    Calls Tryd.prog 9 #[.string a0] w fun e w' => ∃ v0_ : Value, e = .returned (.tuple #[v0_, .bool r2]) ∧ Kd.R k27 27 w' w.heap.size (fun _ => True) v0_ r1 ∧ Below w.heap.size w w' := by
  unfold impl_Tokens.f at h
  split at h
  · rename_i hs
    have hq := Option.some.inj h
    clear h
    have HS := Aside0.mk hs
    have HT := Aside0.mk (show LT w from hT_.elim fun _ h => h.t)
    have HQ := Aside0.mk hq
    have N := Aside0.mk (new_lexer a0 w)
    clear hs hT_ hq
    go_enter Tryd.func9, Tryd.ntmps9
    go_wp2_with fail
    refine N.out.mono ?_
    rintro x w1 ⟨rfl, hl, hb⟩
    have HL1 := Aside0.mk hl
    have HB1 := Aside0.mk hb
    clear hl hb N
    go_wp2_with fail
    go_loopw [5] (fun v5 wr => ∃ (q c f wd : Nat) (l : List S27), Aside0 ((l ++ (tokensR a0 f q c).1, (tokensR a0 f q c).2) = (r1, r2) ∧ a0.size + 1 ≤ q + f ∧ q ≤ a0.size ∧ c ≤ q ∧ l.length ≤ q) ∧ Aside0 (LexAt wr w.heap.size 0 a0 .nilIface q q wd c c) ∧ Aside0 (Kd.R k27 27 wr (w.heap.size + 1) (fun _ => True) v5 l) ∧ Aside0 (Below w.heap.size w wr)) (fun _ wr => a0.size - posAt wr w.heap.size 0)
    case atStart => exact ⟨0, 0, a0.size + 1, 0, [], ⟨HQ.out, by omega, by omega, by omega, by simp⟩, HL1, ⟨Kd.R_nil _ _ _ _ _⟩, HB1⟩
    case round =>
      obtain ⟨q, c, f, wd, l, HR, HL, HO, HB⟩ := hrel
      obtain ⟨f, rfl⟩ : ∃ g, f = g + 1 := ⟨f - 1, by have := HR.out; omega⟩
      have C := Aside0.mk (zz_scan (w0 := w) ⟨HT.out, HB.out, Nat.le_refl _⟩ HL.out HS.out HR.out.2.2.1 HR.out.2.2.2.1)
      go_wp2_with fail
      refine C.out.mono ?_
      clear C
      intro x w2 hO
      cases hV : scanE a0 (a0.size + 1) q c with
      | eof u v =>
        rw [hV] at hO
        obtain ⟨hk, rfl, wd1, hl⟩ := hO
        have hEq := HR.out.1
        rw [tokensR_eof hV, List.append_nil] at hEq
        injection hEq with e1 e2
        subst e1 e2
        have HB2 := Aside0.mk (HB.out.trans (hk.below (Nat.le_refl _) HB.out.size))
        have HO2 := Aside0.mk (R_kept HO.out hk)
        clear hk hl hV
        unfold noTok
        go_wp2
        go_ret2
        exact ⟨_, rfl, Kd.R_below (Kd.R_lower HO2.out (by omega)) (below_alloc (Below.refl _ _) _), HB2.out.alloc HB2.out.size _⟩
      | bad =>
        rw [hV] at hO
        obtain ⟨hk, r, rfl, hr, a9, p9, wd9, ca9, c9, hl⟩ := hO
        obtain ⟨T, cs, rfl, hT⟩ := hr
        have hEq := HR.out.1
        rw [tokensR_bad hV, List.append_nil] at hEq
        injection hEq with e1 e2
        subst e1 e2
        have HB2 := Aside0.mk (HB.out.trans (hk.below (Nat.le_refl _) HB.out.size))
        have HO2 := Aside0.mk (R_kept HO.out hk)
        clear hk hl hV hT
        unfold noTok
        go_wp2
        go_ret2
        exact ⟨_, rfl, Kd.R_below (Kd.R_lower HO2.out (by omega)) (below_alloc (Below.refl _ _) _), HB2.out.alloc HB2.out.size _⟩
      | tok k9 a9 E9 ca9 c9 =>
        rw [hV] at hO
        obtain ⟨hk, rfl, wd1, hl⟩ := hO
        have hle := scanE_le _ _ _ _ _ _ _ _ HR.out.2.2.1 HR.out.2.2.2.1 hV
        have hEq := HR.out.1
        rw [tokensR_tok hV] at hEq
        have HR2 := Aside0.mk (show (l ++ [(⟨(k9 : Int), a0.extract a9 E9, (a9 : Int), (E9 : Int), (ca9 : Int), (c9 : Int)⟩ : S27)] ++ (tokensR a0 f E9 c9).1, (tokensR a0 f E9 c9).2) = (r1, r2) ∧ a0.size + 1 ≤ E9 + f ∧ E9 ≤ a0.size ∧ c9 ≤ E9 ∧ (l ++ [(⟨(k9 : Int), a0.extract a9 E9, (a9 : Int), (E9 : Int), (ca9 : Int), (c9 : Int)⟩ : S27)]).length ≤ E9 from
          ⟨by rw [List.append_assoc]; exact hEq, by have := HR.out; omega, by omega, by omega, by rw [List.length_append, List.length_singleton]; have := HR.out; omega⟩)
        have HB2 := Aside0.mk (HB.out.trans (hk.below (Nat.le_refl _) HB.out.size))
        have HO2 := Aside0.mk (Kd.R_below (R_kept HO.out hk) (below_alloc (Below.refl w2.heap.size w2) (.cells #[.int .i64 (k9 : Int), .string (a0.extract a9 E9), .int .i64 (a9 : Int), .int .i64 (E9 : Int), .int .i64 (ca9 : Int), .int .i64 (c9 : Int)] 49)))
        have HL2 := Aside0.mk (hl.alloc (.cells #[.int .i64 (k9 : Int), .string (a0.extract a9 E9), .int .i64 (a9 : Int), .int .i64 (E9 : Int), .int .i64 (ca9 : Int), .int .i64 (c9 : Int)] 49))
        have HBW := Aside0.mk (HB2.out.alloc HB2.out.size (.cells #[.int .i64 (k9 : Int), .string (a0.extract a9 E9), .int .i64 (a9 : Int), .int .i64 (E9 : Int), .int .i64 (ca9 : Int), .int .i64 (c9 : Int)] 49))
        have HSZ := Aside0.mk (show w.heap.size + 1 ≤ (w2.alloc (.cells #[.int .i64 (k9 : Int), .string (a0.extract a9 E9), .int .i64 (a9 : Int), .int .i64 (E9 : Int), .int .i64 (ca9 : Int), .int .i64 (c9 : Int)] 49)).heap.size by have := hl.lt; simp; omega)
        have HNB := Aside0.mk (R_notB HO.out)
        have HA := Aside0.mk hle
        have HP := Aside0.mk (show posAt wr w.heap.size 0 = q from posAt_of HL.out)
        have hkn : ((k9 : Int) == 0) = false := by simp; omega
        clear hk hl hV hle hEq
        unfold tokV
        go_wp2_with ((with_reducible refine gate_builtin (b := .append) (xs := #[.tmp 22, .tmp 36]) rfl ?_); at_builtin; refine Kd.R_append k27 (w0 := (w2.alloc (.cells #[.int .i64 (k9 : Int), .string (a0.extract a9 E9), .int .i64 (a9 : Int), .int .i64 (E9 : Int), .int .i64 (ca9 : Int), .int .i64 (c9 : Int)] 49))) (w.heap.size + 1) rfl (.tmp 22) (.tmp 36) 22 27 (.agg #[.int .i64 0, .string ⟨#[]⟩, .int .i64 0, .int .i64 0, .int .i64 0, .int .i64 0]) 56 ?a0 ?a1 infoTk ?a2 ?a3 ?a4 u5 l (⟨(k9 : Int), a0.extract a9 E9, (a9 : Int), (E9 : Int), (ca9 : Int), (c9 : Int)⟩ : S27) [.int .i64 (k9 : Int), .string (a0.extract a9 E9), .int .i64 (a9 : Int), .int .i64 (E9 : Int), .int .i64 (ca9 : Int), .int .i64 (c9 : Int)] (fun _ => True) (fun _ => False) ?a5 ?a6 ?a7 ?a8 ?a9 ?b1 ?b2 ?b3 ?b4 ?_; (case a0 => rfl); (case a1 => exact Tryd.underlying22); (case a2 => rfl); (case a3 => decide); (case a4 => omega); (case a5 => rfl); (case a6 => (first | (go_simp; done) | (go_simp; rfl) | (go_simp; simp; done))); (case a7 => exact k27_mkM _ _ _ (⟨(k9 : Int), a0.extract a9 E9, (a9 : Int), (E9 : Int), (ca9 : Int), (c9 : Int)⟩ : S27)); (case a8 => exact fun _ hk => hk.elim); (case a9 => exact fun _ _ => trivial); (case b1 => exact HO2.out); (case b2 => exact Below.refl _ _); (case b3 => exact HSZ.out); (case b4 => (have h1 := HR.out; have h2 := HS.out; omega)); intro v2 w4 hO4 hB4 hg4 hat4; have HO4 := Aside0.mk hO4; have HB4 := Aside0.mk (HBW.out.trans (hB4.mono (Nat.le_succ _))); have HL4 := Aside0.mk (LexAt.block HL2.out (hg4.block w.heap.size HL2.out.lt HNB.out)); clear hO4 hB4 hg4 hat4)
        go_wp2
        go_roundw
        case rel => exact ⟨E9, c9, f, wd1, _, HR2, HL4, HO4, HB4⟩
        case measure =>
          rw [HP.out, posAt_of HL4.out]
          have := HA.out
          omega
  · exact nomatch h
end tokens


/-! ### laws_long: function 10 -/
noncomputable def laws_long.f (a0 : ByteArray) : Option (Bool) := some (decide ((a0.size : Int) > 65536))
set_option maxHeartbeats 8000000 in
set_option maxRecDepth 100000 in
theorem laws_long.calls (a0 : ByteArray) (r : Bool) (w : World) (h : laws_long.f a0 = some r) :
    Calls Tryd.prog 10 #[.string a0] w fun e w' => e = .returned (.bool r) ∧ Drawn0 w w' := by
  have H : (some (decide ((a0.size : Int) > 65536))) = some r := h
  clear h
  obtain rfl := Option.some.inj H
  go_enter Tryd.func10, Tryd.ntmps10
  go_wp2
  go_ret
  exact ⟨by first | rfl | (simp; done) | (simp [*]; done), by repeat (first | exact Drawn0.refl _ | apply Drawn0.step)⟩

-- NOT PRINTED: function 35 (parse_parser_parse)

-- NOT PRINTED: function 25 (parse_Matchers)

/-! ### impl_outer: function 29 -/
-- contracts that were proved by hand
/-- The matchers' struct is printed for the hand-proved walks: S93. -/
theorem outer_kind : True := trivial


-- NOT PRINTED: function 26 (impl_outers)

/-! ### impl_ParseMatchers: function 15 -/
-- a contract that was proved by hand
noncomputable def impl_ParseMatchers.f (a0 : ByteArray) : Option (List S35 × Bool) := if a0.size ≤ 1000000 then some (Go.Proofs.YtmjoebnphacadaaDoor.Lex.pmF a0) else none
theorem impl_ParseMatchers.calls (a0 : ByteArray) (r1 : List S35) (r2 : Bool) (w : World) (hT_ : Go.Proofs.YtmjoebnphacadaaDoor.Lex.ETx w) (h : impl_ParseMatchers.f a0 = some (r1, r2)) :
    Calls Tryd.prog 15 #[.string a0] w fun e w' => ∃ v0_ : Value, e = .returned (.tuple #[v0_, .bool r2]) ∧ Kd.R k35 35 w' w.heap.size (fun _ => True) v0_ r1 ∧ Below w.heap.size w w' := by
  unfold impl_ParseMatchers.f at h
  split at h
  · rename_i hs
    obtain ⟨ea, hT⟩ := hT_
    have hq := Option.some.inj h
    have := Go.Proofs.YtmjoebnphacadaaDoor.Lex.parseMatchers_calls hT hs
    rw [hq] at this
    exact this
  · exact nomatch h


/-! ### laws_one: function 13 -/
noncomputable def laws_one.f  : Option (Bool) := (impl_ParseMatchers.f (⟨#[123, 97, 61, 34, 98, 34, 125]⟩ : ByteArray)).bind fun bt107 => (if bt107.2 = true then (if (bt107.1.length : Int) = 1 then (if 0 < (bt107.1.length : Int) then (some (((rd_T35 bt107.1 0).f0) == 0 && ((((rd_T35 bt107.1 0).f1).toList) == ([97] : List UInt8) && ((((rd_T35 bt107.1 0).f2).toList) == ([98] : List UInt8))))) else (none)) else (some false)) else (some false))
set_option maxHeartbeats 8000000 in
set_option maxRecDepth 100000 in
theorem laws_one.calls  (r : Bool) (w : World) (hT_ : Go.Proofs.YtmjoebnphacadaaDoor.Lex.ETx w) (h : laws_one.f  = some r) :
    Calls Tryd.prog 13 #[] w fun e w' => e = .returned (.bool r) ∧ Below w.heap.size w w' := by
  have HT_ := Aside0.mk hT_
  clear hT_
  have hu35 := Tryd.underlying35
  have HB := Aside0.mk (Below.refl w.heap.size w)
  have H : ((impl_ParseMatchers.f (⟨#[123, 97, 61, 34, 98, 34, 125]⟩ : ByteArray)).bind fun bt107 => (if bt107.2 = true then (if (bt107.1.length : Int) = 1 then (if 0 < (bt107.1.length : Int) then (some (((rd_T35 bt107.1 0).f0) == 0 && ((((rd_T35 bt107.1 0).f1).toList) == ([97] : List UInt8) && ((((rd_T35 bt107.1 0).f2).toList) == ([98] : List UInt8))))) else (none)) else (some false)) else (some false))) = some r := h
  clear h
  replace H := Option.bind_eq_some_iff.mp H
  obtain ⟨⟨t107, t108⟩, A10, H⟩ := H
  replace H : (if t108 = true then (if (t107.length : Int) = 1 then (if 0 < (t107.length : Int) then (some (((rd_T35 t107 0).f0) == 0 && ((((rd_T35 t107 0).f1).toList) == ([97] : List UInt8) && ((((rd_T35 t107 0).f2).toList) == ([98] : List UInt8))))) else (none)) else (some false)) else (some false)) = some r := H
  have A1 := Aside0.mk A10
  clear A10
  by_cases c2 : t108 = true
  · subst c2
    have H1 : (if (t107.length : Int) = 1 then (if 0 < (t107.length : Int) then (some (((rd_T35 t107 0).f0) == 0 && ((((rd_T35 t107 0).f1).toList) == ([97] : List UInt8) && ((((rd_T35 t107 0).f2).toList) == ([98] : List UInt8))))) else (none)) else (some false)) = some r := by rw [if_pos rfl] at H; exact H
    clear H
    have H := H1
    clear H1
    by_cases c3 : (t107.length : Int) = 1
    · rw [if_pos c3] at H
      have c3b0 : ((t107.length : Int) == 1) = true := beq_iff_eq.mpr c3
      have c3b1 : ((t107.length : Int) != 1) = false := bne_eq_false_iff_eq.mpr c3
      clear c3
      by_cases c4 : 0 < (t107.length : Int)
      · rw [if_pos c4] at H
        have c4b0 : decide (0 < (t107.length : Int)) = true := decide_eq_true c4
        have c4b1 : decide (0 < t107.length) = true := decide_eq_true (by omega)
        clear c4
        obtain rfl := Option.some.inj H
        go_enter Tryd.func13, Tryd.ntmps13
        go_wp2_with (first | ((with_reducible refine gate_callee (f := 15) rfl ?_); refine goesL_ (some 4) rfl rfl Tryd.func15 (by kernel_rfl) rfl #[.string (⟨#[123, 97, 61, 34, 98, 34, 125]⟩ : ByteArray)] rfl (by (try simp only [List.map_toArray, List.map_cons, List.map_nil]); first | done | rfl | (simp only [List.length_drop, List.length_take]; rfl)) ?_; (with_reducible refine (impl_ParseMatchers.calls (⟨#[123, 97, 61, 34, 98, 34, 125]⟩ : ByteArray) t107 true _ ?side1 A1.out).mono ?_); (case side1 => exact Go.Proofs.YtmjoebnphacadaaDoor.Lex.ETx.below HT_.out (by repeat (first | (with_reducible first | exact HB.out | apply below_alloc | apply pw_below_drewN | apply below_drew1) | exact HB.out))); rintro e w5 ⟨v109, rfl, ho0, hb⟩; refine ⟨_, rfl, ?_⟩; have n0_ := Aside0.mk (Kd.R_lower ho0 (below_size (by repeat (first | (with_reducible first | exact HB.out | apply below_alloc | apply pw_below_drewN | apply below_drew1) | exact HB.out)))); have n1_ := Aside0.mk (below_step (by repeat (first | (with_reducible first | exact HB.out | apply below_alloc | apply pw_below_drewN | apply below_drew1) | exact HB.out)) hb); clear HB; have HO110 := n0_; have HB := n1_; clear n0_ n1_; (try clear hb); (try clear hb2); (try clear hk); (try clear hi); (try clear ho0); obtain ⟨Ao6, co6, eo6⟩ := Kd.R_slice HO110.out; subst eo6; have p111 : 0 ≤ (0 : Int) := (by omega); have q111 : 0 < (t107.length : Int) := of_decide_eq_true (by first | (with_reducible assumption) | assumption); obtain ⟨ad111, e111, hx111_0, hx111_1, hx111_2⟩ := at_T35 (Kd.R_reads' HO110.out).2.2 0 p111 q111; cases e111; have qi111 : (0 < t107.length) = True := eq_true (by omega); (try rw [show ((0 : Int)).toNat = 0 from rfl] at hx111_0); (try rw [show 0 * 3 = 0 from rfl] at hx111_0); (try rw [Addr.add_zero'] at hx111_0); (try rw [show ((0 : Int)).toNat = 0 from rfl] at hx111_1); (try rw [show 0 * 3 = 0 from rfl] at hx111_1); (try rw [Addr.add_zero'] at hx111_1); (try rw [show ((0 : Int)).toNat = 0 from rfl] at hx111_2); (try rw [show 0 * 3 = 0 from rfl] at hx111_2); (try rw [Addr.add_zero'] at hx111_2); replace p111 := eq_true p111; replace q111 := eq_true q111))
        go_ret
        exact ⟨by first | rfl | (simp [errW_none, errW_some] <;> rfl) | (simp [*, errW_none, errW_some] <;> rfl), by repeat (first | (with_reducible first | exact HB.out | apply below_alloc | apply pw_below_drewN | apply below_drew1) | exact HB.out)⟩
      · rw [if_neg c4] at H
        exact absurd H (by simp)
    · rw [if_neg c3] at H
      have c3b0 : ((t107.length : Int) == 1) = false := beq_eq_false_iff_ne.mpr c3
      have c3b1 : ((t107.length : Int) != 1) = true := bne_iff_ne.mpr c3
      obtain rfl := Option.some.inj H
      go_enter Tryd.func13, Tryd.ntmps13
      go_wp2_with (first | ((with_reducible refine gate_callee (f := 15) rfl ?_); refine goesL_ (some 4) rfl rfl Tryd.func15 (by kernel_rfl) rfl #[.string (⟨#[123, 97, 61, 34, 98, 34, 125]⟩ : ByteArray)] rfl (by (try simp only [List.map_toArray, List.map_cons, List.map_nil]); first | done | rfl | (simp only [List.length_drop, List.length_take]; rfl)) ?_; (with_reducible refine (impl_ParseMatchers.calls (⟨#[123, 97, 61, 34, 98, 34, 125]⟩ : ByteArray) t107 true _ ?side1 A1.out).mono ?_); (case side1 => exact Go.Proofs.YtmjoebnphacadaaDoor.Lex.ETx.below HT_.out (by repeat (first | (with_reducible first | exact HB.out | apply below_alloc | apply pw_below_drewN | apply below_drew1) | exact HB.out))); rintro e w7 ⟨v109, rfl, ho0, hb⟩; refine ⟨_, rfl, ?_⟩; have n0_ := Aside0.mk (Kd.R_lower ho0 (below_size (by repeat (first | (with_reducible first | exact HB.out | apply below_alloc | apply pw_below_drewN | apply below_drew1) | exact HB.out)))); have n1_ := Aside0.mk (below_step (by repeat (first | (with_reducible first | exact HB.out | apply below_alloc | apply pw_below_drewN | apply below_drew1) | exact HB.out)) hb); clear HB; have HO110 := n0_; have HB := n1_; clear n0_ n1_; (try clear hb); (try clear hb2); (try clear hk); (try clear hi); (try clear ho0); obtain ⟨Ao8, co8, eo8⟩ := Kd.R_slice HO110.out; subst eo8))
      go_ret
      exact ⟨by first | rfl | (simp [errW_none, errW_some] <;> rfl) | (simp [*, errW_none, errW_some] <;> rfl), by repeat (first | (with_reducible first | exact HB.out | apply below_alloc | apply pw_below_drewN | apply below_drew1) | exact HB.out)⟩
  · replace c2 := Bool.eq_false_iff.mpr c2
    subst c2
    have H1 : (some false) = some r := by rw [if_neg (show ¬ (false = true) by decide)] at H; exact H
    clear H
    have H := H1
    clear H1
    obtain rfl := Option.some.inj H
    go_enter Tryd.func13, Tryd.ntmps13
    go_wp2_with (first | ((with_reducible refine gate_callee (f := 15) rfl ?_); refine goesL_ (some 4) rfl rfl Tryd.func15 (by kernel_rfl) rfl #[.string (⟨#[123, 97, 61, 34, 98, 34, 125]⟩ : ByteArray)] rfl (by (try simp only [List.map_toArray, List.map_cons, List.map_nil]); first | done | rfl | (simp only [List.length_drop, List.length_take]; rfl)) ?_; (with_reducible refine (impl_ParseMatchers.calls (⟨#[123, 97, 61, 34, 98, 34, 125]⟩ : ByteArray) t107 false _ ?side1 A1.out).mono ?_); (case side1 => exact Go.Proofs.YtmjoebnphacadaaDoor.Lex.ETx.below HT_.out (by repeat (first | (with_reducible first | exact HB.out | apply below_alloc | apply pw_below_drewN | apply below_drew1) | exact HB.out))); rintro e w9 ⟨v109, rfl, ho0, hb⟩; refine ⟨_, rfl, ?_⟩; have n0_ := Aside0.mk (Kd.R_lower ho0 (below_size (by repeat (first | (with_reducible first | exact HB.out | apply below_alloc | apply pw_below_drewN | apply below_drew1) | exact HB.out)))); have n1_ := Aside0.mk (below_step (by repeat (first | (with_reducible first | exact HB.out | apply below_alloc | apply pw_below_drewN | apply below_drew1) | exact HB.out)) hb); clear HB; have HO110 := n0_; have HB := n1_; clear n0_ n1_; (try clear hb); (try clear hb2); (try clear hk); (try clear hi); (try clear ho0)))
    go_ret
    exact ⟨by first | rfl | (simp [errW_none, errW_some] <;> rfl) | (simp [*, errW_none, errW_some] <;> rfl), by repeat (first | (with_reducible first | exact HB.out | apply below_alloc | apply pw_below_drewN | apply below_drew1) | exact HB.out)⟩

/-! ### laws_has: function 14 -/
noncomputable def laws_has.l0 : Nat → ByteArray → Int → Int → Option (Bool)
  | 0, _, _, _ => none
  | k + 1, x0, x1, x5 => if x5 < (x0.size : Int) then (if 0 ≤ x5 then (if (bt x0 x5) = x1 then (some true) else (laws_has.l0 k x0 x1 (wrap64 (x5 + 1)))) else (none)) else (some false)
noncomputable def laws_has.f (k : Nat) (a0 : ByteArray) (a1 : Int) : Option (Bool) := laws_has.l0 k a0 a1 0
theorem laws_has.mono_l : ∀ k, (∀ y0 y1 y2, LeO (laws_has.l0 k y0 y1 y2) (laws_has.l0 (k + 1) y0 y1 y2))
  | 0 => fun _ _ _ r h => by simp [laws_has.l0] at h
  | k + 1 => by
    have ih0 := laws_has.mono_l k
    · intro y0 y1 y2
      unfold laws_has.l0
      repeat' first
      | (with_reducible exact ih0 _ _ _)
      | (with_reducible exact LeO.refl _)
      | (with_reducible exact LeO.none _)
      | (with_reducible refine LeO.ite ?_ ?_)
      | (with_reducible refine LeO.bind ?_ (fun _ => ?_))
      | exact ih0 _ _ _
      | exact LeO.none _
      | refine LeO.ite ?_ ?_
      | refine LeO.bind ?_ (fun _ => ?_)
theorem laws_has.mono : ∀ a0 a1 k, LeO (laws_has.f k a0 a1) (laws_has.f (k + 1) a0 a1) := by
  intro a0 a1 k
  have ih0 := laws_has.mono_l k
  unfold laws_has.f
  repeat' first
      | (with_reducible exact ih0 _ _ _)
      | (with_reducible exact LeO.refl _)
      | (with_reducible exact LeO.none _)
      | (with_reducible refine LeO.ite ?_ ?_)
      | (with_reducible refine LeO.bind ?_ (fun _ => ?_))
      | exact ih0 _ _ _
      | exact LeO.none _
      | refine LeO.ite ?_ ?_
      | refine LeO.bind ?_ (fun _ => ?_)
set_option maxHeartbeats 8000000 in
set_option maxRecDepth 100000 in
theorem laws_has.calls (k : Nat) (a0 : ByteArray) (a1 : Int) (r : Bool) (w : World) (h : laws_has.f k a0 a1 = some r) :
    Calls Tryd.prog 14 #[.string a0, .int .u8 a1] w fun e w' => e = .returned (.bool r) ∧ Drawn0 w w' := by
  have H : (laws_has.l0 k a0 a1 0) = some r := h
  clear h
  have H' := Aside0.mk H
  clear H
  go_enter Tryd.func14, Tryd.ntmps14
  go_wp2
  go_loopg [5] k (fun kq v5 w' => ∃ (x5_1 : Int), v5 = .int .i64 x5_1 ∧ Aside0 (laws_has.l0 kq a0 a1 x5_1 = some r) ∧ Aside0 (kq ≤ k) ∧ Drawn0 w w')
  case atStart => exact ⟨(0), (by first | rfl | (simp; done) | (simp [*]; done)), H', ⟨Nat.le_refl _⟩, by repeat (first | exact Drawn0.refl _ | apply Drawn0.step)⟩
  case round =>
    clear H'
    try clear c1
    try clear p2
    obtain ⟨x5_1, rfl, HA, HK1, ⟨m1, rfl⟩⟩ := hrel
    cases gk with
    | zero => exact absurd HA.out (by simp [laws_has.l0])
    | succ k1 =>
      have H := HA.out
      clear HA
      simp only [laws_has.l0] at H
      by_cases c3 : x5_1 < (a0.size : Int)
      · rw [if_pos c3] at H
        have c3b0 : decide (x5_1 < (a0.size : Int)) = true := decide_eq_true c3
        clear c3
        by_cases c4 : 0 ≤ x5_1
        · rw [if_pos c4] at H
          have c4b0 : decide (0 ≤ x5_1) = true := decide_eq_true c4
          clear c4
          by_cases c6 : (bt a0 x5_1) = a1
          · rw [if_pos c6] at H
            have c6b0 : ((bt a0 x5_1) == a1) = true := beq_iff_eq.mpr c6
            have c6b1 : ((bt a0 x5_1) != a1) = false := bne_eq_false_iff_eq.mpr c6
            clear c6
            obtain rfl := Option.some.inj H
            have p5 : 0 ≤ (x5_1 : Int) := of_decide_eq_true (by first | (with_reducible assumption) | assumption)
            have q5 : x5_1 < (a0.size : Int) := of_decide_eq_true (by first | (with_reducible assumption) | assumption)
            have hx5 := bt_at a0 x5_1
            replace p5 := eq_true p5
            replace q5 := eq_true q5
            go_wp2
            go_ret
            exact ⟨by first | rfl | (simp; done) | (simp [*]; done), by repeat (first | exact Drawn0.refl _ | apply Drawn0.step)⟩
          · rw [if_neg c6] at H
            have c6b0 : ((bt a0 x5_1) == a1) = false := beq_eq_false_iff_ne.mpr c6
            have c6b1 : ((bt a0 x5_1) != a1) = true := bne_iff_ne.mpr c6
            have H' := Aside0.mk H
            clear H
            have p5 : 0 ≤ (x5_1 : Int) := of_decide_eq_true (by first | (with_reducible assumption) | assumption)
            have q5 : x5_1 < (a0.size : Int) := of_decide_eq_true (by first | (with_reducible assumption) | assumption)
            have hx5 := bt_at a0 x5_1
            replace p5 := eq_true p5
            replace q5 := eq_true q5
            go_wp2
            go_roundg k1
            case measure => have := HK1.out; omega
            case rel => exact ⟨(wrap64 (x5_1 + 1)), (by first | rfl | (simp; done) | (simp [*]; done)), H', ⟨by have := HK1.out; omega⟩, by repeat (first | exact Drawn0.refl _ | apply Drawn0.step)⟩
        · rw [if_neg c4] at H
          exact absurd H (by simp)
      · rw [if_neg c3] at H
        have c3b0 : decide (x5_1 < (a0.size : Int)) = false := decide_eq_false c3
        clear c3
        obtain rfl := Option.some.inj H
        go_wp2
        go_ret
        exact ⟨by first | rfl | (simp; done) | (simp [*]; done), by repeat (first | exact Drawn0.refl _ | apply Drawn0.step)⟩

end Go.Proofs.YtmjoebnphacadaaDoor.Q
