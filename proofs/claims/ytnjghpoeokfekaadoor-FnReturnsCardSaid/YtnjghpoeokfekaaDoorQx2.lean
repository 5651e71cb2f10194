-- printed by this project's own program wip/tools/mkprint.py (the kit's print.py with hand-proved contracts put in)
import Derived.Test.YtnjghpoeokfekaaDoorQx0
import Derived.Test.YtnjghpoeokfekaaDoorQx1
namespace Go.Proofs.YtnjghpoeokfekaaDoor.Q
open Go.RowKit Go.Proofs.YtnjghpoeokfekaaDoorW.PrintWords Go.Proofs.YtnjghpoeokfekaaDoorW.PrintLast Go.Proofs.YtnjghpoeokfekaaDoorW.PrintMore
attribute [local go_sem] max2_int min2_int max_two min_two max_three min_three max_four min_four   -- for this text's walks alone
set_option linter.unusedVariables false
set_option linter.unusedSimpArgs false

/-! ### laws_FnReadPrint: function 3 -/
def laws_FnReadPrint.l0 : Nat → Int → List Bool → ByteArray → Int → Int → Option (Bool)
  | 0, _, _, _, _, _ => none
  | k + 1, x0, x2, x7, x8, x9 => if x9 < x8 then (if 0 ≤ x9 then (if x9 < (x7.size : Int) then (if (bt x7 x9) = 48 then (laws_FnReadPrint.l0 k x0 x2 x7 x8 (wrap64 (x9 + 1))) else (laws_FnReadPrint.l0 k x0 x2 x7 x9 (wrap64 (x9 + 1)))) else (none)) else (none)) else ((laws_turned.f x7 x2).bind fun t110 => ((impl_ReadPrint.f t110).bind fun bt111 => (if 0 ≤ x8 then (if x8 ≤ (x7.size : Int) then ((impl_ReadPrint.f (x7.extract (x8 : Int).toNat x7.size)).bind fun bt113 => ((spec_ReadPrint.f k x7).bind fun bt115 => (if bt111.2 = true then (if bt111.1 = x0 then (if bt113.2 = true then (if bt113.1 = x0 then ((spec_PrintText.f k x0).bind fun t117 => (if x7.toList = t117.toList then (if bt115.2 = 1 then (some (bt115.1 == x0)) else (some false)) else (some false))) else (some false)) else (some false)) else (some false)) else (some false)))) else (none)) else (none))))
def laws_FnReadPrint.f (k : Nat) (a0 : Int) (a1 : Int) (l2 : List Bool) : Option (Bool) := if (l2.length : Int) > 2147483647 then (some true) else ((laws_hex.f k a0).bind fun t109 => (laws_FnReadPrint.l0 k a0 l2 t109 (wrap64 (Int.tmod a1 16)) 0))
theorem laws_FnReadPrint.mono_l : ∀ k, (∀ y0 y1 y2 y3 y4, LeO (laws_FnReadPrint.l0 k y0 y1 y2 y3 y4) (laws_FnReadPrint.l0 (k + 1) y0 y1 y2 y3 y4))
  | 0 => fun _ _ _ _ _ r h => by simp [laws_FnReadPrint.l0] at h
  | k + 1 => by
    have ih0 := laws_FnReadPrint.mono_l k
    · intro y0 y1 y2 y3 y4
      unfold laws_FnReadPrint.l0
      repeat' first
      | (with_reducible exact ih0 _ _ _ _ _)
      | (with_reducible exact laws_hex.mono _ _)
      | (with_reducible exact spec_PrintText.mono _ _)
      | (with_reducible exact spec_ReadPrint.mono _ _)
      | (with_reducible exact LeO.refl _)
      | (with_reducible exact LeO.none _)
      | (with_reducible refine LeO.ite ?_ ?_)
      | (with_reducible refine LeO.bind ?_ (fun _ => ?_))
      | exact ih0 _ _ _ _ _
      | exact laws_hex.mono _ _
      | exact spec_PrintText.mono _ _
      | exact spec_ReadPrint.mono _ _
      | exact LeO.none _
      | refine LeO.ite ?_ ?_
      | refine LeO.bind ?_ (fun _ => ?_)
theorem laws_FnReadPrint.mono : ∀ a0 a1 a2 k, LeO (laws_FnReadPrint.f k a0 a1 a2) (laws_FnReadPrint.f (k + 1) a0 a1 a2) := by
  intro a0 a1 a2 k
  have ih0 := laws_FnReadPrint.mono_l k
  unfold laws_FnReadPrint.f
  repeat' first
      | (with_reducible exact ih0 _ _ _ _ _)
      | (with_reducible exact laws_hex.mono _ _)
      | (with_reducible exact spec_PrintText.mono _ _)
      | (with_reducible exact spec_ReadPrint.mono _ _)
      | (with_reducible exact LeO.refl _)
      | (with_reducible exact LeO.none _)
      | (with_reducible refine LeO.ite ?_ ?_)
      | (with_reducible refine LeO.bind ?_ (fun _ => ?_))
      | exact ih0 _ _ _ _ _
      | exact laws_hex.mono _ _
      | exact spec_PrintText.mono _ _
      | exact spec_ReadPrint.mono _ _
      | exact LeO.none _
      | refine LeO.ite ?_ ?_
      | refine LeO.bind ?_ (fun _ => ?_)
set_option maxHeartbeats 8000000 in
set_option maxRecDepth 100000 in
theorem laws_FnReadPrint.calls (k : Nat) (a0 : Int) (a1 : Int) (A2 : Option Addr) (c2 : Nat) (l2 : List Bool) (r : Bool) (w : World) (hr2 : Kd.C Kd.bool w A2 l2.length l2) (hc2 : l2.length ≤ c2) (h : laws_FnReadPrint.f k a0 a1 l2 = some r) :
    Calls Tryd.prog 3 #[.int .u64 a0, .int .u8 a1, .slice A2 l2.length c2] w fun e w' => e = .returned (.bool r) ∧ Below w.heap.size w w' := by
  have HR2 := Aside0.mk hr2
  have HC2 := Aside0.mk hc2
  clear hr2 hc2
  have HB := Aside0.mk (Below.refl w.heap.size w)
  have H : (if (l2.length : Int) > 2147483647 then (some true) else ((laws_hex.f k a0).bind fun t109 => (laws_FnReadPrint.l0 k a0 l2 t109 (wrap64 (Int.tmod a1 16)) 0))) = some r := h
  clear h
  by_cases c4 : (l2.length : Int) > 2147483647
  · rw [if_pos c4] at H
    have c4b0 : decide (2147483647 < (l2.length : Int)) = true := decide_eq_true c4
    have c4b1 : decide (2147483647 < l2.length) = true := decide_eq_true (by omega)
    clear c4
    obtain rfl := Option.some.inj H
    go_enter Tryd.func3, Tryd.ntmps3
    go_wp2
    go_ret
    exact ⟨by first | rfl | (simp [errW_none, errW_some] <;> rfl) | (simp [*, errW_none, errW_some] <;> rfl), by repeat (first | (with_reducible first | exact HB.out | apply below_alloc | apply pw_below_drewN | apply below_drew1) | exact HB.out)⟩
  · rw [if_neg c4] at H
    have c4b0 : decide (2147483647 < (l2.length : Int)) = false := decide_eq_false c4
    have c4b1 : decide (2147483647 < l2.length) = false := decide_eq_false (by omega)
    clear c4
    replace H := Option.bind_eq_some_iff.mp H
    obtain ⟨t109, A50, H⟩ := H
    replace H : (laws_FnReadPrint.l0 k a0 l2 t109 (wrap64 (Int.tmod a1 16)) 0) = some r := H
    have A5 := Aside0.mk A50
    clear A50
    have H' := Aside0.mk H
    clear H
    go_enter Tryd.func3, Tryd.ntmps3
    go_wp2_with (first | ((with_reducible refine gate_callee (f := 7) rfl ?_); refine goesL_ (some 20) rfl rfl Tryd.func7 (by kernel_rfl) rfl #[.int .u64 a0] rfl (by (try simp only [List.map_toArray, List.map_cons, List.map_nil]); first | done | rfl | (simp only [List.length_drop, List.length_take]; rfl)) ?_; (with_reducible refine (laws_hex.calls k a0 t109 _ A5.out).mono ?_); rintro e w' ⟨rfl, ⟨nd, rfl⟩⟩; refine ⟨_, rfl, ?_⟩))
    go_loopg [8, 9] k (fun kq v8 v9 w' => ∃ (x8_1 : Int) (x9_1 : Int), v8 = .int .i64 x8_1 ∧ v9 = .int .i64 x9_1 ∧ Aside0 (laws_FnReadPrint.l0 kq a0 l2 t109 x8_1 x9_1 = some r) ∧ Aside0 (kq ≤ k) ∧ Aside0 (Below w.heap.size w w'))
    case atStart => exact ⟨(wrap64 (Int.tmod a1 16)), (0), (by first | rfl | (simp; done) | (simp [*]; done)), (by first | rfl | (simp; done) | (simp [*]; done)), H', ⟨Nat.le_refl _⟩, ⟨by repeat (first | (with_reducible first | exact HB.out | apply below_alloc | apply pw_below_drewN | apply below_drew1) | exact HB.out)⟩⟩
    case round =>
      clear H'
      try clear c2
      try clear p2
      try clear c3
      try clear c4
      try clear c4b0
      try clear c4b1
      obtain ⟨x8_1, x9_1, rfl, rfl, HA, HK1, HB⟩ := hrel
      cases gk with
      | zero => exact absurd HA.out (by simp [laws_FnReadPrint.l0])
      | succ k1 =>
        have H := HA.out
        clear HA
        simp only [laws_FnReadPrint.l0] at H
        by_cases c6 : x9_1 < x8_1
        · rw [if_pos c6] at H
          have c6b0 : decide (x9_1 < x8_1) = true := decide_eq_true c6
          clear c6
          by_cases c7 : 0 ≤ x9_1
          · rw [if_pos c7] at H
            have c7b0 : decide (0 ≤ x9_1) = true := decide_eq_true c7
            clear c7
            by_cases c8 : x9_1 < (t109.size : Int)
            · rw [if_pos c8] at H
              have c8b0 : decide (x9_1 < (t109.size : Int)) = true := decide_eq_true c8
              clear c8
              by_cases c10 : (bt t109 x9_1) = 48
              · rw [if_pos c10] at H
                have c10b0 : ((bt t109 x9_1) == 48) = true := beq_iff_eq.mpr c10
                have c10b1 : ((bt t109 x9_1) != 48) = false := bne_eq_false_iff_eq.mpr c10
                clear c10
                have H' := Aside0.mk H
                clear H
                have p9 : 0 ≤ (x9_1 : Int) := of_decide_eq_true (by first | (with_reducible assumption) | assumption)
                have q9 : x9_1 < (t109.size : Int) := of_decide_eq_true (by first | (with_reducible assumption) | assumption)
                have hx9 := bt_at t109 x9_1
                replace p9 := eq_true p9
                replace q9 := eq_true q9
                go_wp2
                go_roundg k1
                case measure => have := HK1.out; omega
                case rel => exact ⟨(x8_1), (wrap64 (x9_1 + 1)), (by first | rfl | (simp; done) | (simp [*]; done)), (by first | rfl | (simp; done) | (simp [*]; done)), H', ⟨by have := HK1.out; omega⟩, ⟨by repeat (first | (with_reducible first | exact HB.out | apply below_alloc | apply pw_below_drewN | apply below_drew1) | exact HB.out)⟩⟩
              · rw [if_neg c10] at H
                have c10b0 : ((bt t109 x9_1) == 48) = false := beq_eq_false_iff_ne.mpr c10
                have c10b1 : ((bt t109 x9_1) != 48) = true := bne_iff_ne.mpr c10
                have H' := Aside0.mk H
                clear H
                have p9 : 0 ≤ (x9_1 : Int) := of_decide_eq_true (by first | (with_reducible assumption) | assumption)
                have q9 : x9_1 < (t109.size : Int) := of_decide_eq_true (by first | (with_reducible assumption) | assumption)
                have hx9 := bt_at t109 x9_1
                replace p9 := eq_true p9
                replace q9 := eq_true q9
                go_wp2
                go_roundg k1
                case measure => have := HK1.out; omega
                case rel => exact ⟨(x9_1), (wrap64 (x9_1 + 1)), (by first | rfl | (simp; done) | (simp [*]; done)), (by first | rfl | (simp; done) | (simp [*]; done)), H', ⟨by have := HK1.out; omega⟩, ⟨by repeat (first | (with_reducible first | exact HB.out | apply below_alloc | apply pw_below_drewN | apply below_drew1) | exact HB.out)⟩⟩
            · rw [if_neg c8] at H
              exact absurd H (by simp)
          · rw [if_neg c7] at H
            exact absurd H (by simp)
        · rw [if_neg c6] at H
          have c6b0 : decide (x9_1 < x8_1) = false := decide_eq_false c6
          clear c6
          replace H := Option.bind_eq_some_iff.mp H
          obtain ⟨t110, A110, H⟩ := H
          replace H : ((impl_ReadPrint.f t110).bind fun bt111 => (if 0 ≤ x8_1 then (if x8_1 ≤ (t109.size : Int) then ((impl_ReadPrint.f (t109.extract (x8_1 : Int).toNat t109.size)).bind fun bt113 => ((spec_ReadPrint.f k1 t109).bind fun bt115 => (if bt111.2 = true then (if bt111.1 = a0 then (if bt113.2 = true then (if bt113.1 = a0 then ((spec_PrintText.f k1 a0).bind fun t117 => (if t109.toList = t117.toList then (if bt115.2 = 1 then (some (bt115.1 == a0)) else (some false)) else (some false))) else (some false)) else (some false)) else (some false)) else (some false)))) else (none)) else (none))) = some r := H
          have A11 := Aside0.mk A110
          clear A110
          replace H := Option.bind_eq_some_iff.mp H
          obtain ⟨⟨t111, t112⟩, A120, H⟩ := H
          replace H : (if 0 ≤ x8_1 then (if x8_1 ≤ (t109.size : Int) then ((impl_ReadPrint.f (t109.extract (x8_1 : Int).toNat t109.size)).bind fun bt113 => ((spec_ReadPrint.f k1 t109).bind fun bt115 => (if t112 = true then (if t111 = a0 then (if bt113.2 = true then (if bt113.1 = a0 then ((spec_PrintText.f k1 a0).bind fun t117 => (if t109.toList = t117.toList then (if bt115.2 = 1 then (some (bt115.1 == a0)) else (some false)) else (some false))) else (some false)) else (some false)) else (some false)) else (some false)))) else (none)) else (none)) = some r := H
          have A12 := Aside0.mk A120
          clear A120
          by_cases c13 : 0 ≤ x8_1
          · rw [if_pos c13] at H
            have c13b0 := eq_true c13
            have c13b1 : decide (0 ≤ x8_1) = true := decide_eq_true c13
            clear c13
            by_cases c14 : x8_1 ≤ (t109.size : Int)
            · rw [if_pos c14] at H
              have c14b0 := eq_true c14
              have c14b1 : decide (x8_1 ≤ (t109.size : Int)) = true := decide_eq_true c14
              clear c14
              replace H := Option.bind_eq_some_iff.mp H
              obtain ⟨⟨t113, t114⟩, A150, H⟩ := H
              replace H : ((spec_ReadPrint.f k1 t109).bind fun bt115 => (if t112 = true then (if t111 = a0 then (if t114 = true then (if t113 = a0 then ((spec_PrintText.f k1 a0).bind fun t117 => (if t109.toList = t117.toList then (if bt115.2 = 1 then (some (bt115.1 == a0)) else (some false)) else (some false))) else (some false)) else (some false)) else (some false)) else (some false))) = some r := H
              have A15 := Aside0.mk A150
              clear A150
              replace H := Option.bind_eq_some_iff.mp H
              obtain ⟨⟨t115, t116⟩, A160, H⟩ := H
              replace H : (if t112 = true then (if t111 = a0 then (if t114 = true then (if t113 = a0 then ((spec_PrintText.f k1 a0).bind fun t117 => (if t109.toList = t117.toList then (if t116 = 1 then (some (t115 == a0)) else (some false)) else (some false))) else (some false)) else (some false)) else (some false)) else (some false)) = some r := H
              have A16 := Aside0.mk A160
              clear A160
              by_cases c17 : t112 = true
              · subst c17
                have H1 : (if t111 = a0 then (if t114 = true then (if t113 = a0 then ((spec_PrintText.f k1 a0).bind fun t117 => (if t109.toList = t117.toList then (if t116 = 1 then (some (t115 == a0)) else (some false)) else (some false))) else (some false)) else (some false)) else (some false)) = some r := by rw [if_pos rfl] at H; exact H
                clear H
                have H := H1
                clear H1
                by_cases c18 : t111 = a0
                · rw [if_pos c18] at H
                  have c18b0 : (t111 == a0) = true := beq_iff_eq.mpr c18
                  have c18b1 : (t111 != a0) = false := bne_eq_false_iff_eq.mpr c18
                  clear c18
                  by_cases c19 : t114 = true
                  · subst c19
                    have H1 : (if t113 = a0 then ((spec_PrintText.f k1 a0).bind fun t117 => (if t109.toList = t117.toList then (if t116 = 1 then (some (t115 == a0)) else (some false)) else (some false))) else (some false)) = some r := by rw [if_pos rfl] at H; exact H
                    clear H
                    have H := H1
                    clear H1
                    by_cases c20 : t113 = a0
                    · rw [if_pos c20] at H
                      have c20b0 : (t113 == a0) = true := beq_iff_eq.mpr c20
                      have c20b1 : (t113 != a0) = false := bne_eq_false_iff_eq.mpr c20
                      clear c20
                      replace H := Option.bind_eq_some_iff.mp H
                      obtain ⟨t117, A210, H⟩ := H
                      replace H : (if t109.toList = t117.toList then (if t116 = 1 then (some (t115 == a0)) else (some false)) else (some false)) = some r := H
                      have A21 := Aside0.mk A210
                      clear A210
                      by_cases c22 : t109.toList = t117.toList
                      · rw [if_pos c22] at H
                        have c22b0 : (t109.toList == t117.toList) = true := beq_iff_eq.mpr c22
                        have c22b1 : (t109.toList != t117.toList) = false := bne_eq_false_iff_eq.mpr c22
                        clear c22
                        by_cases c23 : t116 = 1
                        · rw [if_pos c23] at H
                          have c23b0 : (t116 == 1) = true := beq_iff_eq.mpr c23
                          have c23b1 : (t116 != 1) = false := bne_eq_false_iff_eq.mpr c23
                          clear c23
                          obtain rfl := Option.some.inj H
                          go_wp2_with (first | ((with_reducible refine gate_callee (f := 9) rfl ?_); refine goesL_ (some 37) rfl rfl Tryd.func9 (by kernel_rfl) rfl #[.string t109, .slice A2 l2.length c2] rfl (by (try simp only [List.map_toArray, List.map_cons, List.map_nil]); first | done | rfl | (simp only [List.length_drop, List.length_take]; rfl)) ?_; (with_reducible refine (laws_turned.calls t109 _ _ l2 t110 _ ?side1 ?side2 A11.out).mono ?_); (case side1 => repeat (first | exact (Kd.C_below HR2.out HB.out) | (with_reducible refine Kd.C_alloc ?_ _) | (with_reducible refine Kd.C_drewN ?_ _) | (with_reducible refine Kd.C_drew ?_))); (case side2 => exact HC2.out); rintro e w24 ⟨rfl, hb⟩; refine ⟨_, rfl, ?_⟩; have n0_ := Aside0.mk (below_step (by repeat (first | (with_reducible first | exact HB.out | apply below_alloc | apply pw_below_drewN | apply below_drew1) | exact HB.out)) hb); clear HB; have HB := n0_; clear n0_; (try clear hb); (try clear hb2); (try clear hk); (try clear hi)) | ((with_reducible refine gate_callee (f := 8) rfl ?_); refine goesL_ (some 38) rfl rfl Tryd.func8 (by kernel_rfl) rfl #[.string t110] rfl (by (try simp only [List.map_toArray, List.map_cons, List.map_nil]); first | done | rfl | (simp only [List.length_drop, List.length_take]; rfl)) ?_; (with_reducible refine (impl_ReadPrint.calls t110 t111 true _ A12.out).mono ?_); rintro e w25 ⟨rfl, hb⟩; refine ⟨_, rfl, ?_⟩; have n0_ := Aside0.mk (below_step (by repeat (first | (with_reducible first | exact HB.out | apply below_alloc | apply pw_below_drewN | apply below_drew1) | exact HB.out)) hb); clear HB; have HB := n0_; clear n0_; (try clear hb); (try clear hb2); (try clear hk); (try clear hi)) | ((with_reducible refine gate_callee (f := 8) rfl ?_); refine goesL_ (some 45) rfl rfl Tryd.func8 (by kernel_rfl) rfl #[.string (t109.extract (x8_1 : Int).toNat t109.size)] rfl (by (try simp only [List.map_toArray, List.map_cons, List.map_nil]); first | done | rfl | (simp only [List.length_drop, List.length_take]; rfl)) ?_; (with_reducible refine (impl_ReadPrint.calls (t109.extract (x8_1 : Int).toNat t109.size) t113 true _ A15.out).mono ?_); rintro e w26 ⟨rfl, hb⟩; refine ⟨_, rfl, ?_⟩; have n0_ := Aside0.mk (below_step (by repeat (first | (with_reducible first | exact HB.out | apply below_alloc | apply pw_below_drewN | apply below_drew1) | exact HB.out)) hb); clear HB; have HB := n0_; clear n0_; (try clear hb); (try clear hb2); (try clear hk); (try clear hi)) | ((with_reducible refine gate_callee (f := 10) rfl ?_); refine goesL_ (some 50) rfl rfl Tryd.func10 (by kernel_rfl) rfl #[.string t109] rfl (by (try simp only [List.map_toArray, List.map_cons, List.map_nil]); first | done | rfl | (simp only [List.length_drop, List.length_take]; rfl)) ?_; (with_reducible refine (spec_ReadPrint.calls k1 t109 t115 t116 _ A16.out).mono ?_); rintro e w' ⟨rfl, ⟨nd, rfl⟩⟩; refine ⟨_, rfl, ?_⟩) | (go_at_call 11; (with_reducible refine (spec_PrintText.calls k1 a0 t117 _ A21.out).mono ?_); rintro e w27 ⟨rfl, hb⟩; have n0_ := Aside0.mk (below_step (by repeat (first | (with_reducible first | exact HB.out | apply below_alloc | apply pw_below_drewN | apply below_drew1) | exact HB.out)) hb); clear HB; have HB := n0_; clear n0_; (try clear hb); (try clear hb2); (try clear hk); (try clear hi)))
                          go_ret
                          exact ⟨by first | rfl | (simp [errW_none, errW_some] <;> rfl) | (simp [*, errW_none, errW_some] <;> rfl), by repeat (first | (with_reducible first | exact HB.out | apply below_alloc | apply pw_below_drewN | apply below_drew1) | exact HB.out)⟩
                        · rw [if_neg c23] at H
                          have c23b0 : (t116 == 1) = false := beq_eq_false_iff_ne.mpr c23
                          have c23b1 : (t116 != 1) = true := bne_iff_ne.mpr c23
                          obtain rfl := Option.some.inj H
                          go_wp2_with (first | ((with_reducible refine gate_callee (f := 9) rfl ?_); refine goesL_ (some 37) rfl rfl Tryd.func9 (by kernel_rfl) rfl #[.string t109, .slice A2 l2.length c2] rfl (by (try simp only [List.map_toArray, List.map_cons, List.map_nil]); first | done | rfl | (simp only [List.length_drop, List.length_take]; rfl)) ?_; (with_reducible refine (laws_turned.calls t109 _ _ l2 t110 _ ?side1 ?side2 A11.out).mono ?_); (case side1 => repeat (first | exact (Kd.C_below HR2.out HB.out) | (with_reducible refine Kd.C_alloc ?_ _) | (with_reducible refine Kd.C_drewN ?_ _) | (with_reducible refine Kd.C_drew ?_))); (case side2 => exact HC2.out); rintro e w28 ⟨rfl, hb⟩; refine ⟨_, rfl, ?_⟩; have n0_ := Aside0.mk (below_step (by repeat (first | (with_reducible first | exact HB.out | apply below_alloc | apply pw_below_drewN | apply below_drew1) | exact HB.out)) hb); clear HB; have HB := n0_; clear n0_; (try clear hb); (try clear hb2); (try clear hk); (try clear hi)) | ((with_reducible refine gate_callee (f := 8) rfl ?_); refine goesL_ (some 38) rfl rfl Tryd.func8 (by kernel_rfl) rfl #[.string t110] rfl (by (try simp only [List.map_toArray, List.map_cons, List.map_nil]); first | done | rfl | (simp only [List.length_drop, List.length_take]; rfl)) ?_; (with_reducible refine (impl_ReadPrint.calls t110 t111 true _ A12.out).mono ?_); rintro e w29 ⟨rfl, hb⟩; refine ⟨_, rfl, ?_⟩; have n0_ := Aside0.mk (below_step (by repeat (first | (with_reducible first | exact HB.out | apply below_alloc | apply pw_below_drewN | apply below_drew1) | exact HB.out)) hb); clear HB; have HB := n0_; clear n0_; (try clear hb); (try clear hb2); (try clear hk); (try clear hi)) | ((with_reducible refine gate_callee (f := 8) rfl ?_); refine goesL_ (some 45) rfl rfl Tryd.func8 (by kernel_rfl) rfl #[.string (t109.extract (x8_1 : Int).toNat t109.size)] rfl (by (try simp only [List.map_toArray, List.map_cons, List.map_nil]); first | done | rfl | (simp only [List.length_drop, List.length_take]; rfl)) ?_; (with_reducible refine (impl_ReadPrint.calls (t109.extract (x8_1 : Int).toNat t109.size) t113 true _ A15.out).mono ?_); rintro e w30 ⟨rfl, hb⟩; refine ⟨_, rfl, ?_⟩; have n0_ := Aside0.mk (below_step (by repeat (first | (with_reducible first | exact HB.out | apply below_alloc | apply pw_below_drewN | apply below_drew1) | exact HB.out)) hb); clear HB; have HB := n0_; clear n0_; (try clear hb); (try clear hb2); (try clear hk); (try clear hi)) | ((with_reducible refine gate_callee (f := 10) rfl ?_); refine goesL_ (some 50) rfl rfl Tryd.func10 (by kernel_rfl) rfl #[.string t109] rfl (by (try simp only [List.map_toArray, List.map_cons, List.map_nil]); first | done | rfl | (simp only [List.length_drop, List.length_take]; rfl)) ?_; (with_reducible refine (spec_ReadPrint.calls k1 t109 t115 t116 _ A16.out).mono ?_); rintro e w' ⟨rfl, ⟨nd, rfl⟩⟩; refine ⟨_, rfl, ?_⟩) | (go_at_call 11; (with_reducible refine (spec_PrintText.calls k1 a0 t117 _ A21.out).mono ?_); rintro e w31 ⟨rfl, hb⟩; have n0_ := Aside0.mk (below_step (by repeat (first | (with_reducible first | exact HB.out | apply below_alloc | apply pw_below_drewN | apply below_drew1) | exact HB.out)) hb); clear HB; have HB := n0_; clear n0_; (try clear hb); (try clear hb2); (try clear hk); (try clear hi)))
                          go_ret
                          exact ⟨by first | rfl | (simp [errW_none, errW_some] <;> rfl) | (simp [*, errW_none, errW_some] <;> rfl), by repeat (first | (with_reducible first | exact HB.out | apply below_alloc | apply pw_below_drewN | apply below_drew1) | exact HB.out)⟩
                      · rw [if_neg c22] at H
                        have c22b0 : (t109.toList == t117.toList) = false := beq_eq_false_iff_ne.mpr c22
                        have c22b1 : (t109.toList != t117.toList) = true := bne_iff_ne.mpr c22
                        obtain rfl := Option.some.inj H
                        go_wp2_with (first | ((with_reducible refine gate_callee (f := 9) rfl ?_); refine goesL_ (some 37) rfl rfl Tryd.func9 (by kernel_rfl) rfl #[.string t109, .slice A2 l2.length c2] rfl (by (try simp only [List.map_toArray, List.map_cons, List.map_nil]); first | done | rfl | (simp only [List.length_drop, List.length_take]; rfl)) ?_; (with_reducible refine (laws_turned.calls t109 _ _ l2 t110 _ ?side1 ?side2 A11.out).mono ?_); (case side1 => repeat (first | exact (Kd.C_below HR2.out HB.out) | (with_reducible refine Kd.C_alloc ?_ _) | (with_reducible refine Kd.C_drewN ?_ _) | (with_reducible refine Kd.C_drew ?_))); (case side2 => exact HC2.out); rintro e w32 ⟨rfl, hb⟩; refine ⟨_, rfl, ?_⟩; have n0_ := Aside0.mk (below_step (by repeat (first | (with_reducible first | exact HB.out | apply below_alloc | apply pw_below_drewN | apply below_drew1) | exact HB.out)) hb); clear HB; have HB := n0_; clear n0_; (try clear hb); (try clear hb2); (try clear hk); (try clear hi)) | ((with_reducible refine gate_callee (f := 8) rfl ?_); refine goesL_ (some 38) rfl rfl Tryd.func8 (by kernel_rfl) rfl #[.string t110] rfl (by (try simp only [List.map_toArray, List.map_cons, List.map_nil]); first | done | rfl | (simp only [List.length_drop, List.length_take]; rfl)) ?_; (with_reducible refine (impl_ReadPrint.calls t110 t111 true _ A12.out).mono ?_); rintro e w33 ⟨rfl, hb⟩; refine ⟨_, rfl, ?_⟩; have n0_ := Aside0.mk (below_step (by repeat (first | (with_reducible first | exact HB.out | apply below_alloc | apply pw_below_drewN | apply below_drew1) | exact HB.out)) hb); clear HB; have HB := n0_; clear n0_; (try clear hb); (try clear hb2); (try clear hk); (try clear hi)) | ((with_reducible refine gate_callee (f := 8) rfl ?_); refine goesL_ (some 45) rfl rfl Tryd.func8 (by kernel_rfl) rfl #[.string (t109.extract (x8_1 : Int).toNat t109.size)] rfl (by (try simp only [List.map_toArray, List.map_cons, List.map_nil]); first | done | rfl | (simp only [List.length_drop, List.length_take]; rfl)) ?_; (with_reducible refine (impl_ReadPrint.calls (t109.extract (x8_1 : Int).toNat t109.size) t113 true _ A15.out).mono ?_); rintro e w34 ⟨rfl, hb⟩; refine ⟨_, rfl, ?_⟩; have n0_ := Aside0.mk (below_step (by repeat (first | (with_reducible first | exact HB.out | apply below_alloc | apply pw_below_drewN | apply below_drew1) | exact HB.out)) hb); clear HB; have HB := n0_; clear n0_; (try clear hb); (try clear hb2); (try clear hk); (try clear hi)) | ((with_reducible refine gate_callee (f := 10) rfl ?_); refine goesL_ (some 50) rfl rfl Tryd.func10 (by kernel_rfl) rfl #[.string t109] rfl (by (try simp only [List.map_toArray, List.map_cons, List.map_nil]); first | done | rfl | (simp only [List.length_drop, List.length_take]; rfl)) ?_; (with_reducible refine (spec_ReadPrint.calls k1 t109 t115 t116 _ A16.out).mono ?_); rintro e w' ⟨rfl, ⟨nd, rfl⟩⟩; refine ⟨_, rfl, ?_⟩) | (go_at_call 11; (with_reducible refine (spec_PrintText.calls k1 a0 t117 _ A21.out).mono ?_); rintro e w35 ⟨rfl, hb⟩; have n0_ := Aside0.mk (below_step (by repeat (first | (with_reducible first | exact HB.out | apply below_alloc | apply pw_below_drewN | apply below_drew1) | exact HB.out)) hb); clear HB; have HB := n0_; clear n0_; (try clear hb); (try clear hb2); (try clear hk); (try clear hi)))
                        go_ret
                        exact ⟨by first | rfl | (simp [errW_none, errW_some] <;> rfl) | (simp [*, errW_none, errW_some] <;> rfl), by repeat (first | (with_reducible first | exact HB.out | apply below_alloc | apply pw_below_drewN | apply below_drew1) | exact HB.out)⟩
                    · rw [if_neg c20] at H
                      have c20b0 : (t113 == a0) = false := beq_eq_false_iff_ne.mpr c20
                      have c20b1 : (t113 != a0) = true := bne_iff_ne.mpr c20
                      obtain rfl := Option.some.inj H
                      go_wp2_with (first | ((with_reducible refine gate_callee (f := 9) rfl ?_); refine goesL_ (some 37) rfl rfl Tryd.func9 (by kernel_rfl) rfl #[.string t109, .slice A2 l2.length c2] rfl (by (try simp only [List.map_toArray, List.map_cons, List.map_nil]); first | done | rfl | (simp only [List.length_drop, List.length_take]; rfl)) ?_; (with_reducible refine (laws_turned.calls t109 _ _ l2 t110 _ ?side1 ?side2 A11.out).mono ?_); (case side1 => repeat (first | exact (Kd.C_below HR2.out HB.out) | (with_reducible refine Kd.C_alloc ?_ _) | (with_reducible refine Kd.C_drewN ?_ _) | (with_reducible refine Kd.C_drew ?_))); (case side2 => exact HC2.out); rintro e w36 ⟨rfl, hb⟩; refine ⟨_, rfl, ?_⟩; have n0_ := Aside0.mk (below_step (by repeat (first | (with_reducible first | exact HB.out | apply below_alloc | apply pw_below_drewN | apply below_drew1) | exact HB.out)) hb); clear HB; have HB := n0_; clear n0_; (try clear hb); (try clear hb2); (try clear hk); (try clear hi)) | ((with_reducible refine gate_callee (f := 8) rfl ?_); refine goesL_ (some 38) rfl rfl Tryd.func8 (by kernel_rfl) rfl #[.string t110] rfl (by (try simp only [List.map_toArray, List.map_cons, List.map_nil]); first | done | rfl | (simp only [List.length_drop, List.length_take]; rfl)) ?_; (with_reducible refine (impl_ReadPrint.calls t110 t111 true _ A12.out).mono ?_); rintro e w37 ⟨rfl, hb⟩; refine ⟨_, rfl, ?_⟩; have n0_ := Aside0.mk (below_step (by repeat (first | (with_reducible first | exact HB.out | apply below_alloc | apply pw_below_drewN | apply below_drew1) | exact HB.out)) hb); clear HB; have HB := n0_; clear n0_; (try clear hb); (try clear hb2); (try clear hk); (try clear hi)) | ((with_reducible refine gate_callee (f := 8) rfl ?_); refine goesL_ (some 45) rfl rfl Tryd.func8 (by kernel_rfl) rfl #[.string (t109.extract (x8_1 : Int).toNat t109.size)] rfl (by (try simp only [List.map_toArray, List.map_cons, List.map_nil]); first | done | rfl | (simp only [List.length_drop, List.length_take]; rfl)) ?_; (with_reducible refine (impl_ReadPrint.calls (t109.extract (x8_1 : Int).toNat t109.size) t113 true _ A15.out).mono ?_); rintro e w38 ⟨rfl, hb⟩; refine ⟨_, rfl, ?_⟩; have n0_ := Aside0.mk (below_step (by repeat (first | (with_reducible first | exact HB.out | apply below_alloc | apply pw_below_drewN | apply below_drew1) | exact HB.out)) hb); clear HB; have HB := n0_; clear n0_; (try clear hb); (try clear hb2); (try clear hk); (try clear hi)) | ((with_reducible refine gate_callee (f := 10) rfl ?_); refine goesL_ (some 50) rfl rfl Tryd.func10 (by kernel_rfl) rfl #[.string t109] rfl (by (try simp only [List.map_toArray, List.map_cons, List.map_nil]); first | done | rfl | (simp only [List.length_drop, List.length_take]; rfl)) ?_; (with_reducible refine (spec_ReadPrint.calls k1 t109 t115 t116 _ A16.out).mono ?_); rintro e w' ⟨rfl, ⟨nd, rfl⟩⟩; refine ⟨_, rfl, ?_⟩))
                      go_ret
                      exact ⟨by first | rfl | (simp [errW_none, errW_some] <;> rfl) | (simp [*, errW_none, errW_some] <;> rfl), by repeat (first | (with_reducible first | exact HB.out | apply below_alloc | apply pw_below_drewN | apply below_drew1) | exact HB.out)⟩
                  · replace c19 := Bool.eq_false_iff.mpr c19
                    subst c19
                    have H1 : (some false) = some r := by rw [if_neg (show ¬ (false = true) by decide)] at H; exact H
                    clear H
                    have H := H1
                    clear H1
                    obtain rfl := Option.some.inj H
                    go_wp2_with (first | ((with_reducible refine gate_callee (f := 9) rfl ?_); refine goesL_ (some 37) rfl rfl Tryd.func9 (by kernel_rfl) rfl #[.string t109, .slice A2 l2.length c2] rfl (by (try simp only [List.map_toArray, List.map_cons, List.map_nil]); first | done | rfl | (simp only [List.length_drop, List.length_take]; rfl)) ?_; (with_reducible refine (laws_turned.calls t109 _ _ l2 t110 _ ?side1 ?side2 A11.out).mono ?_); (case side1 => repeat (first | exact (Kd.C_below HR2.out HB.out) | (with_reducible refine Kd.C_alloc ?_ _) | (with_reducible refine Kd.C_drewN ?_ _) | (with_reducible refine Kd.C_drew ?_))); (case side2 => exact HC2.out); rintro e w39 ⟨rfl, hb⟩; refine ⟨_, rfl, ?_⟩; have n0_ := Aside0.mk (below_step (by repeat (first | (with_reducible first | exact HB.out | apply below_alloc | apply pw_below_drewN | apply below_drew1) | exact HB.out)) hb); clear HB; have HB := n0_; clear n0_; (try clear hb); (try clear hb2); (try clear hk); (try clear hi)) | ((with_reducible refine gate_callee (f := 8) rfl ?_); refine goesL_ (some 38) rfl rfl Tryd.func8 (by kernel_rfl) rfl #[.string t110] rfl (by (try simp only [List.map_toArray, List.map_cons, List.map_nil]); first | done | rfl | (simp only [List.length_drop, List.length_take]; rfl)) ?_; (with_reducible refine (impl_ReadPrint.calls t110 t111 true _ A12.out).mono ?_); rintro e w40 ⟨rfl, hb⟩; refine ⟨_, rfl, ?_⟩; have n0_ := Aside0.mk (below_step (by repeat (first | (with_reducible first | exact HB.out | apply below_alloc | apply pw_below_drewN | apply below_drew1) | exact HB.out)) hb); clear HB; have HB := n0_; clear n0_; (try clear hb); (try clear hb2); (try clear hk); (try clear hi)) | ((with_reducible refine gate_callee (f := 8) rfl ?_); refine goesL_ (some 45) rfl rfl Tryd.func8 (by kernel_rfl) rfl #[.string (t109.extract (x8_1 : Int).toNat t109.size)] rfl (by (try simp only [List.map_toArray, List.map_cons, List.map_nil]); first | done | rfl | (simp only [List.length_drop, List.length_take]; rfl)) ?_; (with_reducible refine (impl_ReadPrint.calls (t109.extract (x8_1 : Int).toNat t109.size) t113 false _ A15.out).mono ?_); rintro e w41 ⟨rfl, hb⟩; refine ⟨_, rfl, ?_⟩; have n0_ := Aside0.mk (below_step (by repeat (first | (with_reducible first | exact HB.out | apply below_alloc | apply pw_below_drewN | apply below_drew1) | exact HB.out)) hb); clear HB; have HB := n0_; clear n0_; (try clear hb); (try clear hb2); (try clear hk); (try clear hi)) | ((with_reducible refine gate_callee (f := 10) rfl ?_); refine goesL_ (some 50) rfl rfl Tryd.func10 (by kernel_rfl) rfl #[.string t109] rfl (by (try simp only [List.map_toArray, List.map_cons, List.map_nil]); first | done | rfl | (simp only [List.length_drop, List.length_take]; rfl)) ?_; (with_reducible refine (spec_ReadPrint.calls k1 t109 t115 t116 _ A16.out).mono ?_); rintro e w' ⟨rfl, ⟨nd, rfl⟩⟩; refine ⟨_, rfl, ?_⟩))
                    go_ret
                    exact ⟨by first | rfl | (simp [errW_none, errW_some] <;> rfl) | (simp [*, errW_none, errW_some] <;> rfl), by repeat (first | (with_reducible first | exact HB.out | apply below_alloc | apply pw_below_drewN | apply below_drew1) | exact HB.out)⟩
                · rw [if_neg c18] at H
                  have c18b0 : (t111 == a0) = false := beq_eq_false_iff_ne.mpr c18
                  have c18b1 : (t111 != a0) = true := bne_iff_ne.mpr c18
                  obtain rfl := Option.some.inj H
                  go_wp2_with (first | ((with_reducible refine gate_callee (f := 9) rfl ?_); refine goesL_ (some 37) rfl rfl Tryd.func9 (by kernel_rfl) rfl #[.string t109, .slice A2 l2.length c2] rfl (by (try simp only [List.map_toArray, List.map_cons, List.map_nil]); first | done | rfl | (simp only [List.length_drop, List.length_take]; rfl)) ?_; (with_reducible refine (laws_turned.calls t109 _ _ l2 t110 _ ?side1 ?side2 A11.out).mono ?_); (case side1 => repeat (first | exact (Kd.C_below HR2.out HB.out) | (with_reducible refine Kd.C_alloc ?_ _) | (with_reducible refine Kd.C_drewN ?_ _) | (with_reducible refine Kd.C_drew ?_))); (case side2 => exact HC2.out); rintro e w42 ⟨rfl, hb⟩; refine ⟨_, rfl, ?_⟩; have n0_ := Aside0.mk (below_step (by repeat (first | (with_reducible first | exact HB.out | apply below_alloc | apply pw_below_drewN | apply below_drew1) | exact HB.out)) hb); clear HB; have HB := n0_; clear n0_; (try clear hb); (try clear hb2); (try clear hk); (try clear hi)) | ((with_reducible refine gate_callee (f := 8) rfl ?_); refine goesL_ (some 38) rfl rfl Tryd.func8 (by kernel_rfl) rfl #[.string t110] rfl (by (try simp only [List.map_toArray, List.map_cons, List.map_nil]); first | done | rfl | (simp only [List.length_drop, List.length_take]; rfl)) ?_; (with_reducible refine (impl_ReadPrint.calls t110 t111 true _ A12.out).mono ?_); rintro e w43 ⟨rfl, hb⟩; refine ⟨_, rfl, ?_⟩; have n0_ := Aside0.mk (below_step (by repeat (first | (with_reducible first | exact HB.out | apply below_alloc | apply pw_below_drewN | apply below_drew1) | exact HB.out)) hb); clear HB; have HB := n0_; clear n0_; (try clear hb); (try clear hb2); (try clear hk); (try clear hi)) | ((with_reducible refine gate_callee (f := 8) rfl ?_); refine goesL_ (some 45) rfl rfl Tryd.func8 (by kernel_rfl) rfl #[.string (t109.extract (x8_1 : Int).toNat t109.size)] rfl (by (try simp only [List.map_toArray, List.map_cons, List.map_nil]); first | done | rfl | (simp only [List.length_drop, List.length_take]; rfl)) ?_; (with_reducible refine (impl_ReadPrint.calls (t109.extract (x8_1 : Int).toNat t109.size) t113 t114 _ A15.out).mono ?_); rintro e w44 ⟨rfl, hb⟩; refine ⟨_, rfl, ?_⟩; have n0_ := Aside0.mk (below_step (by repeat (first | (with_reducible first | exact HB.out | apply below_alloc | apply pw_below_drewN | apply below_drew1) | exact HB.out)) hb); clear HB; have HB := n0_; clear n0_; (try clear hb); (try clear hb2); (try clear hk); (try clear hi)) | ((with_reducible refine gate_callee (f := 10) rfl ?_); refine goesL_ (some 50) rfl rfl Tryd.func10 (by kernel_rfl) rfl #[.string t109] rfl (by (try simp only [List.map_toArray, List.map_cons, List.map_nil]); first | done | rfl | (simp only [List.length_drop, List.length_take]; rfl)) ?_; (with_reducible refine (spec_ReadPrint.calls k1 t109 t115 t116 _ A16.out).mono ?_); rintro e w' ⟨rfl, ⟨nd, rfl⟩⟩; refine ⟨_, rfl, ?_⟩))
                  go_ret
                  exact ⟨by first | rfl | (simp [errW_none, errW_some] <;> rfl) | (simp [*, errW_none, errW_some] <;> rfl), by repeat (first | (with_reducible first | exact HB.out | apply below_alloc | apply pw_below_drewN | apply below_drew1) | exact HB.out)⟩
              · replace c17 := Bool.eq_false_iff.mpr c17
                subst c17
                have H1 : (some false) = some r := by rw [if_neg (show ¬ (false = true) by decide)] at H; exact H
                clear H
                have H := H1
                clear H1
                obtain rfl := Option.some.inj H
                go_wp2_with (first | ((with_reducible refine gate_callee (f := 9) rfl ?_); refine goesL_ (some 37) rfl rfl Tryd.func9 (by kernel_rfl) rfl #[.string t109, .slice A2 l2.length c2] rfl (by (try simp only [List.map_toArray, List.map_cons, List.map_nil]); first | done | rfl | (simp only [List.length_drop, List.length_take]; rfl)) ?_; (with_reducible refine (laws_turned.calls t109 _ _ l2 t110 _ ?side1 ?side2 A11.out).mono ?_); (case side1 => repeat (first | exact (Kd.C_below HR2.out HB.out) | (with_reducible refine Kd.C_alloc ?_ _) | (with_reducible refine Kd.C_drewN ?_ _) | (with_reducible refine Kd.C_drew ?_))); (case side2 => exact HC2.out); rintro e w45 ⟨rfl, hb⟩; refine ⟨_, rfl, ?_⟩; have n0_ := Aside0.mk (below_step (by repeat (first | (with_reducible first | exact HB.out | apply below_alloc | apply pw_below_drewN | apply below_drew1) | exact HB.out)) hb); clear HB; have HB := n0_; clear n0_; (try clear hb); (try clear hb2); (try clear hk); (try clear hi)) | ((with_reducible refine gate_callee (f := 8) rfl ?_); refine goesL_ (some 38) rfl rfl Tryd.func8 (by kernel_rfl) rfl #[.string t110] rfl (by (try simp only [List.map_toArray, List.map_cons, List.map_nil]); first | done | rfl | (simp only [List.length_drop, List.length_take]; rfl)) ?_; (with_reducible refine (impl_ReadPrint.calls t110 t111 false _ A12.out).mono ?_); rintro e w46 ⟨rfl, hb⟩; refine ⟨_, rfl, ?_⟩; have n0_ := Aside0.mk (below_step (by repeat (first | (with_reducible first | exact HB.out | apply below_alloc | apply pw_below_drewN | apply below_drew1) | exact HB.out)) hb); clear HB; have HB := n0_; clear n0_; (try clear hb); (try clear hb2); (try clear hk); (try clear hi)) | ((with_reducible refine gate_callee (f := 8) rfl ?_); refine goesL_ (some 45) rfl rfl Tryd.func8 (by kernel_rfl) rfl #[.string (t109.extract (x8_1 : Int).toNat t109.size)] rfl (by (try simp only [List.map_toArray, List.map_cons, List.map_nil]); first | done | rfl | (simp only [List.length_drop, List.length_take]; rfl)) ?_; (with_reducible refine (impl_ReadPrint.calls (t109.extract (x8_1 : Int).toNat t109.size) t113 t114 _ A15.out).mono ?_); rintro e w47 ⟨rfl, hb⟩; refine ⟨_, rfl, ?_⟩; have n0_ := Aside0.mk (below_step (by repeat (first | (with_reducible first | exact HB.out | apply below_alloc | apply pw_below_drewN | apply below_drew1) | exact HB.out)) hb); clear HB; have HB := n0_; clear n0_; (try clear hb); (try clear hb2); (try clear hk); (try clear hi)) | ((with_reducible refine gate_callee (f := 10) rfl ?_); refine goesL_ (some 50) rfl rfl Tryd.func10 (by kernel_rfl) rfl #[.string t109] rfl (by (try simp only [List.map_toArray, List.map_cons, List.map_nil]); first | done | rfl | (simp only [List.length_drop, List.length_take]; rfl)) ?_; (with_reducible refine (spec_ReadPrint.calls k1 t109 t115 t116 _ A16.out).mono ?_); rintro e w' ⟨rfl, ⟨nd, rfl⟩⟩; refine ⟨_, rfl, ?_⟩))
                go_ret
                exact ⟨by first | rfl | (simp [errW_none, errW_some] <;> rfl) | (simp [*, errW_none, errW_some] <;> rfl), by repeat (first | (with_reducible first | exact HB.out | apply below_alloc | apply pw_below_drewN | apply below_drew1) | exact HB.out)⟩
            · rw [if_neg c14] at H
              exact absurd H (by simp)
          · rw [if_neg c13] at H
            exact absurd H (by simp)

/-- THE ONE PURE STATEMENT of laws_FnReadPrint: yours. -/
def laws_FnReadPrint.Pure : Prop := ∀ (a0 : Int) (a1 : Int) (l2 : List Bool), (Lit.int .u64 a0).wf = true → (Lit.int .u8 a1).wf = true → (l2.length ≤ maxLen ∧ ∀ y ∈ l2, True) → ∃ k, laws_FnReadPrint.f k a0 a1 l2 = some true

/-! ### model_zzIndex: function 43 -/
def model_zzIndex.l0 : Nat → ByteArray → ByteArray → Int → Option (Int)
  | 0, _, _, _ => none
  | k + 1, x0, x1, x5 => if (wrap64 (x5 + (x1.size : Int))) ≤ (x0.size : Int) then (if 0 ≤ x5 then (if x5 ≤ (wrap64 (x5 + (x1.size : Int))) then (if (x0.extract (x5 : Int).toNat ((wrap64 (x5 + (x1.size : Int))) : Int).toNat).toList = x1.toList then (some x5) else (model_zzIndex.l0 k x0 x1 (wrap64 (x5 + 1)))) else (none)) else (none)) else (some (-1))
def model_zzIndex.f (k : Nat) (a0 : ByteArray) (a1 : ByteArray) : Option (Int) := model_zzIndex.l0 k a0 a1 0
theorem model_zzIndex.mono_l : ∀ k, (∀ y0 y1 y2, LeO (model_zzIndex.l0 k y0 y1 y2) (model_zzIndex.l0 (k + 1) y0 y1 y2))
  | 0 => fun _ _ _ r h => by simp [model_zzIndex.l0] at h
  | k + 1 => by
    have ih0 := model_zzIndex.mono_l k
    · intro y0 y1 y2
      unfold model_zzIndex.l0
      repeat' first
      | (with_reducible exact ih0 _ _ _)
      | (with_reducible exact LeO.refl _)
      | (with_reducible exact LeO.none _)
      | (with_reducible refine LeO.ite ?_ ?_)
      | (with_reducible refine LeO.bind ?_ (fun _ => ?_))
      | exact ih0 _ _ _
      | exact LeO.none _
      | refine LeO.ite ?_ ?_
      | refine LeO.bind ?_ (fun _ => ?_)
theorem model_zzIndex.mono : ∀ a0 a1 k, LeO (model_zzIndex.f k a0 a1) (model_zzIndex.f (k + 1) a0 a1) := by
  intro a0 a1 k
  have ih0 := model_zzIndex.mono_l k
  unfold model_zzIndex.f
  repeat' first
      | (with_reducible exact ih0 _ _ _)
      | (with_reducible exact LeO.refl _)
      | (with_reducible exact LeO.none _)
      | (with_reducible refine LeO.ite ?_ ?_)
      | (with_reducible refine LeO.bind ?_ (fun _ => ?_))
      | exact ih0 _ _ _
      | exact LeO.none _
      | refine LeO.ite ?_ ?_
      | refine LeO.bind ?_ (fun _ => ?_)
set_option maxHeartbeats 8000000 in
set_option maxRecDepth 100000 in
theorem model_zzIndex.calls (k : Nat) (a0 : ByteArray) (a1 : ByteArray) (r : Int) (w : World) (h : model_zzIndex.f k a0 a1 = some r) :
    Calls Tryd.prog 43 #[.string a0, .string a1] w fun e w' => e = .returned (.int .i64 r) ∧ Drawn0 w w' := by
  have H : (model_zzIndex.l0 k a0 a1 0) = some r := h
  clear h
  have H' := Aside0.mk H
  clear H
  go_enter Tryd.func43, Tryd.ntmps43
  go_wp2
  go_loopg [5] k (fun kq v5 w' => ∃ (x5_1 : Int), v5 = .int .i64 x5_1 ∧ Aside0 (model_zzIndex.l0 kq a0 a1 x5_1 = some r) ∧ Aside0 (kq ≤ k) ∧ Drawn0 w w')
  case atStart => exact ⟨(0), (by first | rfl | (simp; done) | (simp [*]; done)), H', ⟨Nat.le_refl _⟩, by repeat (first | exact Drawn0.refl _ | apply Drawn0.step)⟩
  case round =>
    clear H'
    try clear p2
    obtain ⟨x5_1, rfl, HA, HK1, ⟨m1, rfl⟩⟩ := hrel
    cases gk with
    | zero => exact absurd HA.out (by simp [model_zzIndex.l0])
    | succ k1 =>
      have H := HA.out
      clear HA
      simp only [model_zzIndex.l0] at H
      by_cases c3 : (wrap64 (x5_1 + (a1.size : Int))) ≤ (a0.size : Int)
      · rw [if_pos c3] at H
        have c3b0 : decide ((wrap64 (x5_1 + (a1.size : Int))) ≤ (a0.size : Int)) = true := decide_eq_true c3
        clear c3
        by_cases c4 : 0 ≤ x5_1
        · rw [if_pos c4] at H
          have c4b0 := eq_true c4
          have c4b1 : decide (0 ≤ x5_1) = true := decide_eq_true c4
          clear c4
          by_cases c5 : x5_1 ≤ (wrap64 (x5_1 + (a1.size : Int)))
          · rw [if_pos c5] at H
            have c5b0 := eq_true c5
            have c5b1 : decide (x5_1 ≤ (wrap64 (x5_1 + (a1.size : Int)))) = true := decide_eq_true c5
            have c6b0 := eq_true (of_decide_eq_true (by first | (with_reducible assumption) | assumption) : (wrap64 (x5_1 + (a1.size : Int))) ≤ (a0.size : Int))
            by_cases c7 : (a0.extract (x5_1 : Int).toNat ((wrap64 (x5_1 + (a1.size : Int))) : Int).toNat).toList = a1.toList
            · rw [if_pos c7] at H
              have c7b0 : ((a0.extract (x5_1 : Int).toNat ((wrap64 (x5_1 + (a1.size : Int))) : Int).toNat).toList == a1.toList) = true := beq_iff_eq.mpr c7
              have c7b1 : ((a0.extract (x5_1 : Int).toNat ((wrap64 (x5_1 + (a1.size : Int))) : Int).toNat).toList != a1.toList) = false := bne_eq_false_iff_eq.mpr c7
              clear c7
              obtain rfl := Option.some.inj H
              go_wp2
              go_ret
              exact ⟨by first | rfl | (simp; done) | (simp [*]; done), by repeat (first | exact Drawn0.refl _ | apply Drawn0.step)⟩
            · rw [if_neg c7] at H
              have c7b0 : ((a0.extract (x5_1 : Int).toNat ((wrap64 (x5_1 + (a1.size : Int))) : Int).toNat).toList == a1.toList) = false := beq_eq_false_iff_ne.mpr c7
              have c7b1 : ((a0.extract (x5_1 : Int).toNat ((wrap64 (x5_1 + (a1.size : Int))) : Int).toNat).toList != a1.toList) = true := bne_iff_ne.mpr c7
              have H' := Aside0.mk H
              clear H
              go_wp2
              go_roundg k1
              case measure => have := HK1.out; omega
              case rel => exact ⟨(wrap64 (x5_1 + 1)), (by first | rfl | (simp; done) | (simp [*]; done)), H', ⟨by have := HK1.out; omega⟩, by repeat (first | exact Drawn0.refl _ | apply Drawn0.step)⟩
          · rw [if_neg c5] at H
            exact absurd H (by simp)
        · rw [if_neg c4] at H
          exact absurd H (by simp)
      · rw [if_neg c3] at H
        have c3b0 : decide ((wrap64 (x5_1 + (a1.size : Int))) ≤ (a0.size : Int)) = false := decide_eq_false c3
        clear c3
        obtain rfl := Option.some.inj H
        go_wp2
        go_ret
        exact ⟨by first | rfl | (simp; done) | (simp [*]; done), by repeat (first | exact Drawn0.refl _ | apply Drawn0.step)⟩

/-! ### model_zzReplaceAll: function 27 -/
def model_zzReplaceAll.l1 : Nat → ByteArray → ByteArray → ByteArray → List Int → Option (ByteArray)
  | 0, _, _, _, _ => none
  | k + 1, x0, x1, x2, x7 => (model_zzIndex.f k x0 x1).bind fun t121 => (if t121 < 0 then (if x7.length + x0.size < 140737488355328 then (some (strOfNums (x7 ++ bytesOf x0))) else (none)) else (if 0 ≤ t121 then (if t121 ≤ (x0.size : Int) then (if x7.length + (x0.extract 0 (t121 : Int).toNat).size < 140737488355328 then ((some (x7 ++ bytesOf (x0.extract 0 (t121 : Int).toNat) : List Int)).bind fun y125 => (if y125.length + x2.size < 140737488355328 then (if 0 ≤ (wrap64 (t121 + (x1.size : Int))) then (if (wrap64 (t121 + (x1.size : Int))) ≤ (x0.size : Int) then (model_zzReplaceAll.l1 k (x0.extract ((wrap64 (t121 + (x1.size : Int))) : Int).toNat x0.size) x1 x2 (y125 ++ bytesOf x2)) else (none)) else (none)) else (none))) else (none)) else (none)) else (none)))
def model_zzReplaceAll.f (k : Nat) (a0 : ByteArray) (a1 : ByteArray) (a2 : ByteArray) : Option (ByteArray) := if (a1.size : Int) = 0 then (if ([] : List Int).length + a2.size < 140737488355328 then (none) else (none)) else (model_zzReplaceAll.l1 k a0 a1 a2 ([] : List Int))
theorem model_zzReplaceAll.mono_l : ∀ k, (∀ y0 y1 y2 y3, LeO (model_zzReplaceAll.l1 k y0 y1 y2 y3) (model_zzReplaceAll.l1 (k + 1) y0 y1 y2 y3))
  | 0 => fun _ _ _ _ r h => by simp [model_zzReplaceAll.l1] at h
  | k + 1 => by
    have ih0 := model_zzReplaceAll.mono_l k
    · intro y0 y1 y2 y3
      unfold model_zzReplaceAll.l1
      repeat' first
      | (with_reducible exact ih0 _ _ _ _)
      | (with_reducible exact model_zzIndex.mono _ _ _)
      | (with_reducible exact LeO.refl _)
      | (with_reducible exact LeO.none _)
      | (with_reducible refine LeO.ite ?_ ?_)
      | (with_reducible refine LeO.bind ?_ (fun _ => ?_))
      | exact ih0 _ _ _ _
      | exact model_zzIndex.mono _ _ _
      | exact LeO.none _
      | refine LeO.ite ?_ ?_
      | refine LeO.bind ?_ (fun _ => ?_)
theorem model_zzReplaceAll.mono : ∀ a0 a1 a2 k, LeO (model_zzReplaceAll.f k a0 a1 a2) (model_zzReplaceAll.f (k + 1) a0 a1 a2) := by
  intro a0 a1 a2 k
  have ih0 := model_zzReplaceAll.mono_l k
  unfold model_zzReplaceAll.f
  repeat' first
      | (with_reducible exact ih0 _ _ _ _)
      | (with_reducible exact model_zzIndex.mono _ _ _)
      | (with_reducible exact LeO.refl _)
      | (with_reducible exact LeO.none _)
      | (with_reducible refine LeO.ite ?_ ?_)
      | (with_reducible refine LeO.bind ?_ (fun _ => ?_))
      | exact ih0 _ _ _ _
      | exact model_zzIndex.mono _ _ _
      | exact LeO.none _
      | refine LeO.ite ?_ ?_
      | refine LeO.bind ?_ (fun _ => ?_)
set_option maxHeartbeats 8000000 in
set_option maxRecDepth 100000 in
theorem model_zzReplaceAll.calls (k : Nat) (a0 : ByteArray) (a1 : ByteArray) (a2 : ByteArray) (r : ByteArray) (w : World) (h : model_zzReplaceAll.f k a0 a1 a2 = some r) :
    Calls Tryd.prog 27 #[.string a0, .string a1, .string a2] w fun e w' => e = .returned (.string r) ∧ Below w.heap.size w w' := by
  have HB := Aside0.mk (Below.refl w.heap.size w)
  have H : (if (a1.size : Int) = 0 then (if ([] : List Int).length + a2.size < 140737488355328 then (none) else (none)) else (model_zzReplaceAll.l1 k a0 a1 a2 ([] : List Int))) = some r := h
  clear h
  by_cases c4 : (a1.size : Int) = 0
  · rw [if_pos c4] at H
    have c4b0 : ((a1.size : Int) == 0) = true := beq_iff_eq.mpr c4
    have c4b1 : ((a1.size : Int) != 0) = false := bne_eq_false_iff_eq.mpr c4
    clear c4
    by_cases c5 : ([] : List Int).length + a2.size < 140737488355328
    · rw [if_pos c5] at H
      have LMc5 := Aside0.mk c5
      clear c5
      obtain ⟨y118, hy118⟩ : ∃ y_ : List Int, y_ = (([] : List Int) ++ bytesOf a2) := ⟨_, rfl⟩
      replace H : (none) = some r := by first | (rw [hy118]; with_reducible exact H) | (have H2_ := (Option.bind_some _ _).symm.trans H; rw [hy118]; with_reducible exact H2_) | (have H2_ := (Option.bind_some _ _).symm.trans H; with_reducible exact H2_) | with_reducible exact H | (rw [hy118]; exact H) | exact H
      have Ny118 := Aside0.mk hy118
      clear hy118
      exact absurd H (by simp)
    · rw [if_neg c5] at H
      exact absurd H (by simp)
  · rw [if_neg c4] at H
    have c4b0 : ((a1.size : Int) == 0) = false := beq_eq_false_iff_ne.mpr c4
    have c4b1 : ((a1.size : Int) != 0) = true := bne_iff_ne.mpr c4
    have H' := Aside0.mk H
    clear H
    go_enter Tryd.func27, Tryd.ntmps27
    go_wp2
    go_loopg [0, 7] k (fun kq v0 v7 w' => ∃ (x0_1 : ByteArray) (x7_1 : List Int), v0 = .string x0_1 ∧ Aside0 (model_zzReplaceAll.l1 kq x0_1 a1 a2 x7_1 = some r) ∧ Aside0 (kq ≤ k) ∧ Aside0 (Kd.R (Kd.int .u8) 5 w' w.heap.size (fun _ => True) v7 x7_1) ∧ Aside0 (Below w.heap.size w w'))
    case atStart => exact ⟨(a0), (([] : List Int)), (by first | rfl | (simp; done) | (simp [*]; done)), H', ⟨Nat.le_refl _⟩, ⟨by first | exact Kd.R_nil _ _ _ _ _ | exact Kd.N_nil _ _ _ _ _ | exact Kd.V_nil _ _ _ _ _ | exact Kd.Q_nil _ _ _ _ _ | exact Kd.S_nil _ _ _ _ _⟩, ⟨by repeat (first | (with_reducible first | exact HB.out | apply below_alloc | apply pw_below_drewN | apply below_drew1) | exact HB.out)⟩⟩
    case round =>
      clear H'
      try clear c2
      try clear p2
      try clear c4
      try clear c4b0
      try clear c4b1
      try clear c5
      obtain ⟨x0_1, x7_1, rfl, HA, HK1, HO_7, HB⟩ := hrel
      cases gk with
      | zero => exact absurd HA.out (by simp [model_zzReplaceAll.l1])
      | succ k1 =>
        have H := HA.out
        clear HA
        simp only [model_zzReplaceAll.l1] at H
        replace H := Option.bind_eq_some_iff.mp H
        obtain ⟨t121, A60, H⟩ := H
        replace H : (if t121 < 0 then (if x7_1.length + x0_1.size < 140737488355328 then (some (strOfNums (x7_1 ++ bytesOf x0_1))) else (none)) else (if 0 ≤ t121 then (if t121 ≤ (x0_1.size : Int) then (if x7_1.length + (x0_1.extract 0 (t121 : Int).toNat).size < 140737488355328 then ((some (x7_1 ++ bytesOf (x0_1.extract 0 (t121 : Int).toNat) : List Int)).bind fun y125 => (if y125.length + a2.size < 140737488355328 then (if 0 ≤ (wrap64 (t121 + (a1.size : Int))) then (if (wrap64 (t121 + (a1.size : Int))) ≤ (x0_1.size : Int) then (model_zzReplaceAll.l1 k1 (x0_1.extract ((wrap64 (t121 + (a1.size : Int))) : Int).toNat x0_1.size) a1 a2 (y125 ++ bytesOf a2)) else (none)) else (none)) else (none))) else (none)) else (none)) else (none))) = some r := H
        have A6 := Aside0.mk A60
        clear A60
        by_cases c7 : t121 < 0
        · rw [if_pos c7] at H
          have c7b0 : decide (t121 < 0) = true := decide_eq_true c7
          clear c7
          by_cases c8 : x7_1.length + x0_1.size < 140737488355328
          · rw [if_pos c8] at H
            have LMc8 := Aside0.mk c8
            clear c8
            obtain ⟨y122, hy122⟩ : ∃ y_ : List Int, y_ = (x7_1 ++ bytesOf x0_1) := ⟨_, rfl⟩
            replace H : (some (strOfNums y122)) = some r := by first | (rw [hy122]; with_reducible exact H) | (have H2_ := (Option.bind_some _ _).symm.trans H; rw [hy122]; with_reducible exact H2_) | (have H2_ := (Option.bind_some _ _).symm.trans H; with_reducible exact H2_) | with_reducible exact H | (rw [hy122]; exact H) | exact H
            have Ny122 := Aside0.mk hy122
            clear hy122
            obtain rfl := Option.some.inj H
            go_wp2_with (first | ((with_reducible refine gate_callee (f := 43) rfl ?_); refine goesL_ (some 47) rfl rfl Tryd.func43 (by kernel_rfl) rfl #[.string x0_1, .string a1] rfl (by (try simp only [List.map_toArray, List.map_cons, List.map_nil]); first | done | rfl | (simp only [List.length_drop, List.length_take]; rfl)) ?_; (with_reducible refine (model_zzIndex.calls k1 x0_1 a1 t121 _ A6.out).mono ?_); rintro e w' ⟨rfl, ⟨nd, rfl⟩⟩; refine ⟨_, rfl, ?_⟩) | (at_builtin; refine print_append_str (w0 := w) w.heap.size rfl (.tmp 50) _ 41 9 5 rfl Tryd.underlying41 Tryd.underlying9 info5 u7 x7_1 x0_1 rfl rfl ?aO ?aB ?aS ?aL ?_; (case aB => exact (by repeat (first | (with_reducible first | exact HB.out | apply below_alloc | apply pw_below_drewN | apply below_drew1) | exact HB.out))); (case aO => exact (Kd.own_of_R (by (with_reducible repeat (first | apply Kd.R_alloc | apply Kd.R_drewN | apply Kd.R_drew)); exact HO_7.out))); (case aS => exact (below_size (by repeat (first | (with_reducible first | exact HB.out | apply below_alloc | apply pw_below_drewN | apply below_drew1) | exact HB.out)))); (case aL => have := LMc8.out; omega); intro v123 w9 ho0 hb hg; have ho := Kd.R_of_own (h1 := fun _ => rfl) (ok := fun _ => True) ho0 (fun _ _ => trivial); clear ho0; have hat := True.intro; rw [← Ny122.out] at ho; change Kd.R (Kd.int .u8) 5 w9 w.heap.size (fun _ => True) v123 y122 at ho; have n0_ := Aside0.mk (hb); have n1_ := Aside0.mk (ho); clear HB; clear HO_7; have HB := n0_; have HO124 := n1_; clear n0_ n1_; clear ho hb hg hat; have hcv10 := own_string (P := Tryd.prog) Tryd.underlying41 Tryd.underlying5 Tryd.underlying9 (Kd.own_of_R HO124.out)))
            go_ret
            exact ⟨by first | rfl | (simp [errW_none, errW_some] <;> rfl) | (simp [*, errW_none, errW_some] <;> rfl), by repeat (first | (with_reducible first | exact HB.out | apply below_alloc | apply pw_below_drewN | apply below_drew1) | exact HB.out)⟩
          · rw [if_neg c8] at H
            exact absurd H (by simp)
        · rw [if_neg c7] at H
          have c7b0 : decide (t121 < 0) = false := decide_eq_false c7
          clear c7
          by_cases c11 : 0 ≤ t121
          · rw [if_pos c11] at H
            have c11b0 := eq_true c11
            have c11b1 : decide (0 ≤ t121) = true := decide_eq_true c11
            clear c11
            by_cases c12 : t121 ≤ (x0_1.size : Int)
            · rw [if_pos c12] at H
              have c12b0 := eq_true c12
              have c12b1 : decide (t121 ≤ (x0_1.size : Int)) = true := decide_eq_true c12
              clear c12
              by_cases c13 : x7_1.length + (x0_1.extract 0 (t121 : Int).toNat).size < 140737488355328
              · rw [if_pos c13] at H
                have LMc13 := Aside0.mk c13
                clear c13
                obtain ⟨y125, hy125⟩ : ∃ y_ : List Int, y_ = (x7_1 ++ bytesOf (x0_1.extract 0 (t121 : Int).toNat)) := ⟨_, rfl⟩
                replace H : (if y125.length + a2.size < 140737488355328 then (if 0 ≤ (wrap64 (t121 + (a1.size : Int))) then (if (wrap64 (t121 + (a1.size : Int))) ≤ (x0_1.size : Int) then (model_zzReplaceAll.l1 k1 (x0_1.extract ((wrap64 (t121 + (a1.size : Int))) : Int).toNat x0_1.size) a1 a2 (y125 ++ bytesOf a2)) else (none)) else (none)) else (none)) = some r := by first | (rw [hy125]; with_reducible exact H) | (have H2_ := (Option.bind_some _ _).symm.trans H; rw [hy125]; with_reducible exact H2_) | (have H2_ := (Option.bind_some _ _).symm.trans H; with_reducible exact H2_) | with_reducible exact H | (rw [hy125]; exact H) | exact H
                have Ny125 := Aside0.mk hy125
                clear hy125
                by_cases c14 : y125.length + a2.size < 140737488355328
                · rw [if_pos c14] at H
                  have LMc14 := Aside0.mk c14
                  clear c14
                  obtain ⟨y128, hy128⟩ : ∃ y_ : List Int, y_ = (y125 ++ bytesOf a2) := ⟨_, rfl⟩
                  replace H : (if 0 ≤ (wrap64 (t121 + (a1.size : Int))) then (if (wrap64 (t121 + (a1.size : Int))) ≤ (x0_1.size : Int) then (model_zzReplaceAll.l1 k1 (x0_1.extract ((wrap64 (t121 + (a1.size : Int))) : Int).toNat x0_1.size) a1 a2 y128) else (none)) else (none)) = some r := by first | (rw [hy128]; with_reducible exact H) | (have H2_ := (Option.bind_some _ _).symm.trans H; rw [hy128]; with_reducible exact H2_) | (have H2_ := (Option.bind_some _ _).symm.trans H; with_reducible exact H2_) | with_reducible exact H | (rw [hy128]; exact H) | exact H
                  have Ny128 := Aside0.mk hy128
                  clear hy128
                  obtain ⟨ji15, hji15⟩ : ∃ j_ : Int, (wrap64 (t121 + (a1.size : Int))) = j_ := ⟨_, rfl⟩
                  replace H : (if 0 ≤ (ji15) then (if (ji15) ≤ (x0_1.size : Int) then (model_zzReplaceAll.l1 k1 (x0_1.extract ((ji15) : Int).toNat x0_1.size) a1 a2 y128) else (none)) else (none)) = some r := by first | (rw [hji15] at H; exact H) | (simp only [hji15] at H ⊢; exact H)
                  (try rw [hji15] at A6)
                  have hji15w : (IntKind.i64.wrap (t121 + (a1.size : Int))) = ji15 := (i64_w _).trans hji15
                  by_cases c16 : 0 ≤ (ji15)
                  · rw [if_pos c16] at H
                    have c16b0 := eq_true c16
                    have c16b1 : decide (0 ≤ (ji15)) = true := decide_eq_true c16
                    clear c16
                    by_cases c17 : (ji15) ≤ (x0_1.size : Int)
                    · rw [if_pos c17] at H
                      have c17b0 := eq_true c17
                      have c17b1 : decide ((ji15) ≤ (x0_1.size : Int)) = true := decide_eq_true c17
                      clear c17
                      have H' := Aside0.mk H
                      clear H
                      go_wp2_with (first | ((with_reducible refine gate_callee (f := 43) rfl ?_); refine goesL_ (some 47) rfl rfl Tryd.func43 (by kernel_rfl) rfl #[.string x0_1, .string a1] rfl (by (try simp only [List.map_toArray, List.map_cons, List.map_nil]); first | done | rfl | (simp only [List.length_drop, List.length_take]; rfl)) ?_; (with_reducible refine (model_zzIndex.calls k1 x0_1 a1 t121 _ A6.out).mono ?_); rintro e w' ⟨rfl, ⟨nd, rfl⟩⟩; refine ⟨_, rfl, ?_⟩) | (at_builtin; refine print_append_str (w0 := w) w.heap.size rfl (.tmp 54) _ 41 9 5 rfl Tryd.underlying41 Tryd.underlying9 info5 u7 x7_1 (x0_1.extract 0 (t121 : Int).toNat) rfl rfl ?aO ?aB ?aS ?aL ?_; (case aB => exact (by repeat (first | (with_reducible first | exact HB.out | apply below_alloc | apply pw_below_drewN | apply below_drew1) | exact HB.out))); (case aO => exact (Kd.own_of_R (by (with_reducible repeat (first | apply Kd.R_alloc | apply Kd.R_drewN | apply Kd.R_drew)); exact HO_7.out))); (case aS => exact (below_size (by repeat (first | (with_reducible first | exact HB.out | apply below_alloc | apply pw_below_drewN | apply below_drew1) | exact HB.out)))); (case aL => have := LMc13.out; omega); intro v126 w18 ho0 hb hg; have ho := Kd.R_of_own (h1 := fun _ => rfl) (ok := fun _ => True) ho0 (fun _ _ => trivial); clear ho0; have hat := True.intro; rw [← Ny125.out] at ho; change Kd.R (Kd.int .u8) 5 w18 w.heap.size (fun _ => True) v126 y125 at ho; have n0_ := Aside0.mk (hb); have n1_ := Aside0.mk (ho); clear HB; clear HO_7; have HB := n0_; have HO127 := n1_; clear n0_ n1_; clear ho hb hg hat) | (at_builtin; refine print_append_str (w0 := w) w.heap.size rfl (.tmp 58) _ 41 9 5 rfl Tryd.underlying41 Tryd.underlying9 info5 v126 y125 a2 rfl rfl ?aO ?aB ?aS ?aL ?_; (case aB => exact (by repeat (first | (with_reducible first | exact HB.out | apply below_alloc | apply pw_below_drewN | apply below_drew1) | exact HB.out))); (case aO => exact (Kd.own_of_R (by (with_reducible repeat (first | apply Kd.R_alloc | apply Kd.R_drewN | apply Kd.R_drew)); exact HO127.out))); (case aS => exact (below_size (by repeat (first | (with_reducible first | exact HB.out | apply below_alloc | apply pw_below_drewN | apply below_drew1) | exact HB.out)))); (case aL => have := LMc14.out; omega); intro v129 w19 ho0 hb hg; have ho := Kd.R_of_own (h1 := fun _ => rfl) (ok := fun _ => True) ho0 (fun _ _ => trivial); clear ho0; have hat := True.intro; rw [← Ny128.out] at ho; change Kd.R (Kd.int .u8) 5 w19 w.heap.size (fun _ => True) v129 y128 at ho; have n0_ := Aside0.mk (hb); have n1_ := Aside0.mk (ho); clear HB; clear HO127; have HB := n0_; have HO130 := n1_; clear n0_ n1_; clear ho hb hg hat))
                      go_roundg k1
                      case measure => have := HK1.out; omega
                      case rel => exact ⟨(x0_1.extract ((ji15) : Int).toNat x0_1.size), (y128), (by first | rfl | (simp; done) | (simp only [← hji15] <;> (first | rfl | simp)) | (simp [*]; done)), H', ⟨by have := HK1.out; omega⟩, ⟨by (with_reducible repeat (first | apply Kd.R_alloc | apply Kd.R_drewN | apply Kd.R_drew)); exact HO130.out⟩, ⟨by repeat (first | (with_reducible first | exact HB.out | apply below_alloc | apply pw_below_drewN | apply below_drew1) | exact HB.out)⟩⟩
                    · rw [if_neg c17] at H
                      exact absurd H (by simp)
                  · rw [if_neg c16] at H
                    exact absurd H (by simp)
                · rw [if_neg c14] at H
                  exact absurd H (by simp)
              · rw [if_neg c13] at H
                exact absurd H (by simp)
            · rw [if_neg c12] at H
              exact absurd H (by simp)
          · rw [if_neg c11] at H
            exact absurd H (by simp)

/-! ### stringslite_HasPrefix: function 54 -/
def stringslite_HasPrefix.f (a0 : ByteArray) (a1 : ByteArray) : Option (Bool) := if (a0.size : Int) ≥ (a1.size : Int) then (if 0 ≤ (a1.size : Int) then (if (a1.size : Int) ≤ (a0.size : Int) then (some ((a0.extract 0 ((a1.size : Int) : Int).toNat).toList == a1.toList)) else (none)) else (none)) else (some false)
set_option maxHeartbeats 8000000 in
set_option maxRecDepth 100000 in
theorem stringslite_HasPrefix.calls (a0 : ByteArray) (a1 : ByteArray) (r : Bool) (w : World) (h : stringslite_HasPrefix.f a0 a1 = some r) :
    Calls Tryd.prog 54 #[.string a0, .string a1] w fun e w' => e = .returned (.bool r) ∧ Drawn0 w w' := by
  have H : (if (a0.size : Int) ≥ (a1.size : Int) then (if 0 ≤ (a1.size : Int) then (if (a1.size : Int) ≤ (a0.size : Int) then (some ((a0.extract 0 ((a1.size : Int) : Int).toNat).toList == a1.toList)) else (none)) else (none)) else (some false)) = some r := h
  clear h
  by_cases c3 : (a0.size : Int) ≥ (a1.size : Int)
  · rw [if_pos c3] at H
    have c3b0 : decide ((a1.size : Int) ≤ (a0.size : Int)) = true := decide_eq_true c3
    have c3b1 : decide (a1.size ≤ a0.size) = true := decide_eq_true (Int.ofNat_le.mp c3)
    clear c3
    by_cases c4 : 0 ≤ (a1.size : Int)
    · rw [if_pos c4] at H
      have c4b0 := eq_true c4
      have c4b1 : decide (0 ≤ (a1.size : Int)) = true := decide_eq_true c4
      clear c4
      by_cases c5 : (a1.size : Int) ≤ (a0.size : Int)
      · rw [if_pos c5] at H
        have c5b0 := eq_true c5
        have c5b1 : decide ((a1.size : Int) ≤ (a0.size : Int)) = true := decide_eq_true c5
        clear c5
        obtain rfl := Option.some.inj H
        go_enter Tryd.func54, Tryd.ntmps54
        go_wp2
        go_ret
        exact ⟨by first | rfl | (simp; done) | (simp [*]; done), by repeat (first | exact Drawn0.refl _ | apply Drawn0.step)⟩
      · rw [if_neg c5] at H
        exact absurd H (by simp)
    · rw [if_neg c4] at H
      exact absurd H (by simp)
  · rw [if_neg c3] at H
    have c3b0 : decide ((a1.size : Int) ≤ (a0.size : Int)) = false := decide_eq_false c3
    have c3b1 : decide (a1.size ≤ a0.size) = false := decide_eq_false (fun h => c3 (Int.ofNat_le.mpr h))
    clear c3
    obtain rfl := Option.some.inj H
    go_enter Tryd.func54, Tryd.ntmps54
    go_wp2
    go_ret
    exact ⟨by first | rfl | (simp; done) | (simp [*]; done), by repeat (first | exact Drawn0.refl _ | apply Drawn0.step)⟩

/-! ### stringslite_CutPrefix: function 44 -/
def stringslite_CutPrefix.f (a0 : ByteArray) (a1 : ByteArray) : Option (ByteArray × Bool) := (stringslite_HasPrefix.f a0 a1).bind fun t131 => (if t131 = true then (if 0 ≤ (a1.size : Int) then (if (a1.size : Int) ≤ (a0.size : Int) then (some (a0.extract ((a1.size : Int) : Int).toNat a0.size, true)) else (none)) else (none)) else (some (a0, false)))
set_option maxHeartbeats 8000000 in
set_option maxRecDepth 100000 in
theorem stringslite_CutPrefix.calls (a0 : ByteArray) (a1 : ByteArray) (r1 : ByteArray) (r2 : Bool) (w : World) (h : stringslite_CutPrefix.f a0 a1 = some (r1, r2)) :
    Calls Tryd.prog 44 #[.string a0, .string a1] w fun e w' => e = .returned (.tuple #[.string r1, .bool r2]) ∧ Drawn0 w w' := by
  have H : ((stringslite_HasPrefix.f a0 a1).bind fun t131 => (if t131 = true then (if 0 ≤ (a1.size : Int) then (if (a1.size : Int) ≤ (a0.size : Int) then (some (a0.extract ((a1.size : Int) : Int).toNat a0.size, true)) else (none)) else (none)) else (some (a0, false)))) = some (r1, r2) := h
  clear h
  replace H := Option.bind_eq_some_iff.mp H
  obtain ⟨t131, A30, H⟩ := H
  replace H : (if t131 = true then (if 0 ≤ (a1.size : Int) then (if (a1.size : Int) ≤ (a0.size : Int) then (some (a0.extract ((a1.size : Int) : Int).toNat a0.size, true)) else (none)) else (none)) else (some (a0, false))) = some (r1, r2) := H
  have A3 := Aside0.mk A30
  clear A30
  by_cases c4 : t131 = true
  · subst c4
    have H1 : (if 0 ≤ (a1.size : Int) then (if (a1.size : Int) ≤ (a0.size : Int) then (some (a0.extract ((a1.size : Int) : Int).toNat a0.size, true)) else (none)) else (none)) = some (r1, r2) := by rw [if_pos rfl] at H; exact H
    clear H
    have H := H1
    clear H1
    by_cases c5 : 0 ≤ (a1.size : Int)
    · rw [if_pos c5] at H
      have c5b0 := eq_true c5
      have c5b1 : decide (0 ≤ (a1.size : Int)) = true := decide_eq_true c5
      clear c5
      by_cases c6 : (a1.size : Int) ≤ (a0.size : Int)
      · rw [if_pos c6] at H
        have c6b0 := eq_true c6
        have c6b1 : decide ((a1.size : Int) ≤ (a0.size : Int)) = true := decide_eq_true c6
        clear c6
        simp only [Option.some.injEq, Prod.mk.injEq] at H
        obtain ⟨rfl, rfl⟩ := H
        go_enter Tryd.func44, Tryd.ntmps44
        go_wp2_with (first | ((with_reducible refine gate_callee (f := 54) rfl ?_); refine goesL_ (some 8) rfl rfl Tryd.func54 (by kernel_rfl) rfl #[.string a0, .string a1] rfl (by (try simp only [List.map_toArray, List.map_cons, List.map_nil]); first | done | rfl | (simp only [List.length_drop, List.length_take]; rfl)) ?_; (with_reducible refine (stringslite_HasPrefix.calls a0 a1 true _ A3.out).mono ?_); rintro e w' ⟨rfl, ⟨nd, rfl⟩⟩; refine ⟨_, rfl, ?_⟩))
        go_ret2
        exact ⟨by first | rfl | (simp; done) | (simp [*]; done), by repeat (first | exact Drawn0.refl _ | apply Drawn0.step)⟩
      · rw [if_neg c6] at H
        exact absurd H (by simp)
    · rw [if_neg c5] at H
      exact absurd H (by simp)
  · replace c4 := Bool.eq_false_iff.mpr c4
    subst c4
    have H1 : (some (a0, false)) = some (r1, r2) := by rw [if_neg (show ¬ (false = true) by decide)] at H; exact H
    clear H
    have H := H1
    clear H1
    simp only [Option.some.injEq, Prod.mk.injEq] at H
    obtain ⟨rfl, rfl⟩ := H
    go_enter Tryd.func44, Tryd.ntmps44
    go_wp2_with (first | ((with_reducible refine gate_callee (f := 54) rfl ?_); refine goesL_ (some 8) rfl rfl Tryd.func54 (by kernel_rfl) rfl #[.string a0, .string a1] rfl (by (try simp only [List.map_toArray, List.map_cons, List.map_nil]); first | done | rfl | (simp only [List.length_drop, List.length_take]; rfl)) ?_; (with_reducible refine (stringslite_HasPrefix.calls a0 a1 false _ A3.out).mono ?_); rintro e w' ⟨rfl, ⟨nd, rfl⟩⟩; refine ⟨_, rfl, ?_⟩))
    go_ret2
    exact ⟨by first | rfl | (simp; done) | (simp [*]; done), by repeat (first | exact Drawn0.refl _ | apply Drawn0.step)⟩

/-! ### strings_CutPrefix: function 28 -/
def strings_CutPrefix.f (a0 : ByteArray) (a1 : ByteArray) : Option (ByteArray × Bool) := (stringslite_CutPrefix.f a0 a1).bind fun bt132 => (some (bt132.1, bt132.2))
set_option maxHeartbeats 8000000 in
set_option maxRecDepth 100000 in
theorem strings_CutPrefix.calls (a0 : ByteArray) (a1 : ByteArray) (r1 : ByteArray) (r2 : Bool) (w : World) (h : strings_CutPrefix.f a0 a1 = some (r1, r2)) :
    Calls Tryd.prog 28 #[.string a0, .string a1] w fun e w' => e = .returned (.tuple #[.string r1, .bool r2]) ∧ Drawn0 w w' := by
  have H : ((stringslite_CutPrefix.f a0 a1).bind fun bt132 => (some (bt132.1, bt132.2))) = some (r1, r2) := h
  clear h
  replace H := Option.bind_eq_some_iff.mp H
  obtain ⟨⟨t132, t133⟩, A30, H⟩ := H
  replace H : (some (t132, t133)) = some (r1, r2) := H
  have A3 := Aside0.mk A30
  clear A30
  simp only [Option.some.injEq, Prod.mk.injEq] at H
  obtain ⟨rfl, rfl⟩ := H
  go_enter Tryd.func28, Tryd.ntmps28
  go_wp2_with (first | ((with_reducible refine gate_callee (f := 44) rfl ?_); refine goesL_ (some 8) rfl rfl Tryd.func44 (by kernel_rfl) rfl #[.string a0, .string a1] rfl (by (try simp only [List.map_toArray, List.map_cons, List.map_nil]); first | done | rfl | (simp only [List.length_drop, List.length_take]; rfl)) ?_; (with_reducible refine (stringslite_CutPrefix.calls a0 a1 t132 t133 _ A3.out).mono ?_); rintro e w' ⟨rfl, ⟨nd, rfl⟩⟩; refine ⟨_, rfl, ?_⟩))
  go_ret2
  exact ⟨by first | rfl | (simp; done) | (simp [*]; done), by repeat (first | exact Drawn0.refl _ | apply Drawn0.step)⟩

-- NOT PRINTED: function 55 (abi_NoEscape)

-- NOT PRINTED: function 45 (strings_Builder_copyCheck)

-- NOT PRINTED: function 29 (strings_Builder_WriteByte)

/-! ### utf8_ValidRune: function 30 -/
def utf8_ValidRune.j0 : Nat → Int → Bool → Option (Bool)
  | 0, _, _ => none
  | k + 1, x0, x3 => if x3 = true then (some true) else (if 57343 < x0 then (if x0 ≤ 1114111 then (some true) else (some false)) else (some false))
def utf8_ValidRune.f (k : Nat) (a0 : Int) : Option (Bool) := if 0 ≤ a0 then (utf8_ValidRune.j0 k a0 (decide (a0 < 55296))) else (utf8_ValidRune.j0 k a0 false)
theorem utf8_ValidRune.mono_l : ∀ k, (∀ y0 y1, LeO (utf8_ValidRune.j0 k y0 y1) (utf8_ValidRune.j0 (k + 1) y0 y1))
  | 0 => fun _ _ r h => by simp [utf8_ValidRune.j0] at h
  | k + 1 => by
    have ih0 := utf8_ValidRune.mono_l k
    · intro y0 y1
      unfold utf8_ValidRune.j0
      repeat' first
      | (with_reducible exact ih0 _ _)
      | (with_reducible exact LeO.refl _)
      | (with_reducible exact LeO.none _)
      | (with_reducible refine LeO.ite ?_ ?_)
      | (with_reducible refine LeO.bind ?_ (fun _ => ?_))
      | exact ih0 _ _
      | exact LeO.none _
      | refine LeO.ite ?_ ?_
      | refine LeO.bind ?_ (fun _ => ?_)
theorem utf8_ValidRune.mono : ∀ a0 k, LeO (utf8_ValidRune.f k a0) (utf8_ValidRune.f (k + 1) a0) := by
  intro a0 k
  have ih0 := utf8_ValidRune.mono_l k
  unfold utf8_ValidRune.f
  repeat' first
      | (with_reducible exact ih0 _ _)
      | (with_reducible exact LeO.refl _)
      | (with_reducible exact LeO.none _)
      | (with_reducible refine LeO.ite ?_ ?_)
      | (with_reducible refine LeO.bind ?_ (fun _ => ?_))
      | exact ih0 _ _
      | exact LeO.none _
      | refine LeO.ite ?_ ?_
      | refine LeO.bind ?_ (fun _ => ?_)
set_option maxHeartbeats 8000000 in
set_option maxRecDepth 100000 in
theorem utf8_ValidRune.calls (k : Nat) (a0 : Int) (r : Bool) (w : World) (h : utf8_ValidRune.f k a0 = some r) :
    Calls Tryd.prog 30 #[.int .i32 a0] w fun e w' => e = .returned (.bool r) ∧ Drawn0 w w' := by
  have H : (if 0 ≤ a0 then (utf8_ValidRune.j0 k a0 (decide (a0 < 55296))) else (utf8_ValidRune.j0 k a0 false)) = some r := h
  clear h
  have HC2 := Aside0.mk H
  clear H
  go_enter Tryd.func30, Tryd.ntmps30
  go_upto_region 1 with (fail)
  go_cut [3] (fun v3 wc => ∃ (kq : Nat) (x3_1 : Bool), v3 = .bool x3_1 ∧ Aside0 (utf8_ValidRune.j0 kq a0 x3_1 = some r) ∧ Aside0 (kq ≤ k) ∧ Drawn0 w wc)
  case first =>
    have H := HC2.out
    clear HC2
    by_cases c3 : 0 ≤ a0
    · rw [if_pos c3] at H
      have c3b0 : decide (0 ≤ a0) = true := decide_eq_true c3
      clear c3
      (first | rw [c3b0] | (simp only [i64_w, i32_w]; rw [c3b0]) | skip)
      have H' := Aside0.mk H
      clear H
      go_wp2
      go_meet
      case rel => exact ⟨_, (decide (a0 < 55296)), (by first | rfl | (simp; done) | (simp [*]; done)), H', ⟨by first | omega | exact Nat.le_refl _⟩, by repeat (first | exact Drawn0.refl _ | apply Drawn0.step)⟩
    · rw [if_neg c3] at H
      have c3b0 : decide (0 ≤ a0) = false := decide_eq_false c3
      clear c3
      (first | rw [c3b0] | (simp only [i64_w, i32_w]; rw [c3b0]) | skip)
      have H' := Aside0.mk H
      clear H
      go_wp2
      go_meet
      case rel => exact ⟨_, (false), (by first | rfl | (simp; done) | (simp [*]; done)), H', ⟨by first | omega | exact Nat.le_refl _⟩, by repeat (first | exact Drawn0.refl _ | apply Drawn0.step)⟩
  case rest =>
    clear HC2
    try clear p2
    try clear c3
    try clear c3b0
    obtain ⟨kq, x3_1, rfl, HA, HJ1, ⟨mc1, rfl⟩⟩ := hcut
    cases kq with
    | zero => exact absurd HA.out (by simp [utf8_ValidRune.j0])
    | succ kj1 =>
      have H := HA.out
      clear HA
      simp only [utf8_ValidRune.j0] at H
      by_cases c4 : x3_1 = true
      · subst c4
        have H1 : (some true) = some r := by rw [if_pos rfl] at H; exact H
        clear H
        have H := H1
        clear H1
        obtain rfl := Option.some.inj H
        go_wp2
        go_ret
        exact ⟨by first | rfl | (simp; done) | (simp [*]; done), by repeat (first | exact Drawn0.refl _ | apply Drawn0.step)⟩
      · replace c4 := Bool.eq_false_iff.mpr c4
        subst c4
        have H1 : (if 57343 < a0 then (if a0 ≤ 1114111 then (some true) else (some false)) else (some false)) = some r := by rw [if_neg (show ¬ (false = true) by decide)] at H; exact H
        clear H
        have H := H1
        clear H1
        by_cases c5 : 57343 < a0
        · rw [if_pos c5] at H
          have c5b0 : decide (57343 < a0) = true := decide_eq_true c5
          clear c5
          by_cases c6 : a0 ≤ 1114111
          · rw [if_pos c6] at H
            have c6b0 : decide (a0 ≤ 1114111) = true := decide_eq_true c6
            clear c6
            obtain rfl := Option.some.inj H
            go_wp2
            go_ret
            exact ⟨by first | rfl | (simp; done) | (simp [*]; done), by repeat (first | exact Drawn0.refl _ | apply Drawn0.step)⟩
          · rw [if_neg c6] at H
            have c6b0 : decide (a0 ≤ 1114111) = false := decide_eq_false c6
            clear c6
            obtain rfl := Option.some.inj H
            go_wp2
            go_ret
            exact ⟨by first | rfl | (simp; done) | (simp [*]; done), by repeat (first | exact Drawn0.refl _ | apply Drawn0.step)⟩
        · rw [if_neg c5] at H
          have c5b0 : decide (57343 < a0) = false := decide_eq_false c5
          clear c5
          obtain rfl := Option.some.inj H
          go_wp2
          go_ret
          exact ⟨by first | rfl | (simp; done) | (simp [*]; done), by repeat (first | exact Drawn0.refl _ | apply Drawn0.step)⟩

/-! ### utf8_appendRuneNonASCII: function 56 -/
-- contracts that were proved by hand
-- nothing told here: the shelf's contract of the Builder stands in its place


/-! ### utf8_AppendRune: function 46 -/
-- contracts that were proved by hand
-- nothing told here: the shelf's contract of the Builder stands in its place


-- NOT PRINTED: function 31 (strings_Builder_WriteRune)

/-! ### model_lower: function 32 -/
def model_lower.f (a0 : Int) : Option (Int) := some (Go.bits .or .u8 a0 32)
set_option maxHeartbeats 8000000 in
set_option maxRecDepth 100000 in
theorem model_lower.calls (a0 : Int) (r : Int) (w : World) (h : model_lower.f a0 = some r) :
    Calls Tryd.prog 32 #[.int .u8 a0] w fun e w' => e = .returned (.int .u8 r) ∧ Drawn0 w w' := by
  have H : (some (Go.bits .or .u8 a0 32)) = some r := h
  clear h
  obtain rfl := Option.some.inj H
  go_enter Tryd.func32, Tryd.ntmps32
  go_wp2
  go_ret
  exact ⟨by first | rfl | (simp; done) | (simp [*]; done), by repeat (first | exact Drawn0.refl _ | apply Drawn0.step)⟩

-- NOT PRINTED: function 33 (strings_Builder_String)

-- NOT PRINTED: function 19 (model_UnescapeName)

end Go.Proofs.YtnjghpoeokfekaaDoor.Q
