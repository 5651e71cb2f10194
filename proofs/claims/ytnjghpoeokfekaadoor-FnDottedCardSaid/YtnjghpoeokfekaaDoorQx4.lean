-- printed by this project's own program wip/tools/mkprint.py (the kit's print.py with hand-proved contracts put in)
import Derived.Test.YtnjghpoeokfekaaDoorQx0
import Derived.Test.YtnjghpoeokfekaaDoorQx3
namespace Go.Proofs.YtnjghpoeokfekaaDoor.Q
open Go.RowKit Go.Proofs.YtnjghpoeokfekaaDoorW.PrintWords Go.Proofs.YtnjghpoeokfekaaDoorW.PrintLast Go.Proofs.YtnjghpoeokfekaaDoorW.PrintMore
attribute [local go_sem] max2_int min2_int max_two min_two max_three min_three max_four min_four   -- for this text's walks alone
set_option linter.unusedVariables false
set_option linter.unusedSimpArgs false

/-! ### laws_FnDotted: function 4 -/
mutual
def laws_FnDotted.l0 : Nat → ByteArray → ByteArray → Int → Option (Bool)
  | 0, _, _, _ => none
  | k + 1, x0, x3, x4 => if x4 < (x0.size : Int) then (if 0 ≤ x4 then (if 0 ≤ (Int.tmod (wrap64 (bt x0 x4)) 64) then (if (Int.tmod (wrap64 (bt x0 x4)) 64) ≤ (wrap64 ((Int.tmod (wrap64 (bt x0 x4)) 64) + 1)) then (if (wrap64 ((Int.tmod (wrap64 (bt x0 x4)) 64) + 1)) ≤ 64 then (if x3.size + ((⟨#[97, 98, 99, 100, 101, 102, 103, 104, 105, 106, 107, 108, 109, 110, 111, 112, 113, 114, 115, 116, 117, 118, 119, 120, 121, 122, 65, 66, 67, 68, 69, 70, 71, 72, 73, 74, 75, 76, 77, 78, 79, 80, 81, 82, 83, 84, 85, 86, 87, 88, 89, 90, 48, 49, 50, 51, 52, 53, 54, 55, 56, 57, 46, 95]⟩ : ByteArray).extract ((Int.tmod (wrap64 (bt x0 x4)) 64) : Int).toNat ((wrap64 ((Int.tmod (wrap64 (bt x0 x4)) 64) + 1)) : Int).toNat).size ≤ 9223372036854775807 then (laws_FnDotted.l0 k x0 (x3 ++ ((⟨#[97, 98, 99, 100, 101, 102, 103, 104, 105, 106, 107, 108, 109, 110, 111, 112, 113, 114, 115, 116, 117, 118, 119, 120, 121, 122, 65, 66, 67, 68, 69, 70, 71, 72, 73, 74, 75, 76, 77, 78, 79, 80, 81, 82, 83, 84, 85, 86, 87, 88, 89, 90, 48, 49, 50, 51, 52, 53, 54, 55, 56, 57, 46, 95]⟩ : ByteArray).extract ((Int.tmod (wrap64 (bt x0 x4)) 64) : Int).toNat ((wrap64 ((Int.tmod (wrap64 (bt x0 x4)) 64) + 1)) : Int).toNat)) (wrap64 (x4 + 1))) else (none)) else (none)) else (none)) else (none)) else (none)) else (laws_FnDotted.l1 k x3 0)
def laws_FnDotted.l1 : Nat → ByteArray → Int → Option (Bool)
  | 0, _, _ => none
  | k + 1, x3, x6 => if (wrap64 (x6 + 4)) ≤ (x3.size : Int) then (if 0 ≤ x6 then (if x6 ≤ (wrap64 (x6 + 4)) then (if (x3.extract (x6 : Int).toNat ((wrap64 (x6 + 4)) : Int).toNat).toList = ([95, 100, 111, 116] : List UInt8) then (some true) else (laws_FnDotted.l1 k x3 (wrap64 (x6 + 1)))) else (none)) else (none)) else ((impl_Escape.f x3 2).bind fun t140 => ((impl_Unescape.f t140 2).bind fun t141 => (some (t141.toList == x3.toList))))
end
def laws_FnDotted.f (k : Nat) (a0 : ByteArray) : Option (Bool) := if (a0.size : Int) > 2147483647 then (some true) else ((impl_Escape.f (⟨#[97, 46, 98]⟩ : ByteArray) 2).bind fun t138 => ((impl_Unescape.f t138 2).bind fun t139 => (if t139.toList = ([97, 46, 98] : List UInt8) then (if (a0.size : Int) > 3000 then (some true) else (laws_FnDotted.l0 k a0 (⟨#[97]⟩ : ByteArray) 0)) else (some false))))
theorem laws_FnDotted.mono_l : ∀ k, (∀ y0 y1 y2, LeO (laws_FnDotted.l0 k y0 y1 y2) (laws_FnDotted.l0 (k + 1) y0 y1 y2)) ∧ (∀ y0 y1, LeO (laws_FnDotted.l1 k y0 y1) (laws_FnDotted.l1 (k + 1) y0 y1))
  | 0 => ⟨fun _ _ _ r h => by simp [laws_FnDotted.l0] at h, fun _ _ r h => by simp [laws_FnDotted.l1] at h⟩
  | k + 1 => by
    obtain ⟨ih0, ih1⟩ := laws_FnDotted.mono_l k
    refine ⟨?_, ?_⟩
    · intro y0 y1 y2
      unfold laws_FnDotted.l0
      repeat' first
      | (with_reducible exact ih0 _ _ _)
      | (with_reducible exact ih1 _ _)
      | (with_reducible exact LeO.refl _)
      | (with_reducible exact LeO.none _)
      | (with_reducible refine LeO.ite ?_ ?_)
      | (with_reducible refine LeO.bind ?_ (fun _ => ?_))
      | exact ih0 _ _ _
      | exact ih1 _ _
      | exact LeO.none _
      | refine LeO.ite ?_ ?_
      | refine LeO.bind ?_ (fun _ => ?_)
    · intro y0 y1
      unfold laws_FnDotted.l1
      repeat' first
      | (with_reducible exact ih0 _ _ _)
      | (with_reducible exact ih1 _ _)
      | (with_reducible exact LeO.refl _)
      | (with_reducible exact LeO.none _)
      | (with_reducible refine LeO.ite ?_ ?_)
      | (with_reducible refine LeO.bind ?_ (fun _ => ?_))
      | exact ih0 _ _ _
      | exact ih1 _ _
      | exact LeO.none _
      | refine LeO.ite ?_ ?_
      | refine LeO.bind ?_ (fun _ => ?_)
theorem laws_FnDotted.mono : ∀ a0 k, LeO (laws_FnDotted.f k a0) (laws_FnDotted.f (k + 1) a0) := by
  intro a0 k
  obtain ⟨ih0, ih1⟩ := laws_FnDotted.mono_l k
  unfold laws_FnDotted.f
  repeat' first
      | (with_reducible exact ih0 _ _ _)
      | (with_reducible exact ih1 _ _)
      | (with_reducible exact LeO.refl _)
      | (with_reducible exact LeO.none _)
      | (with_reducible refine LeO.ite ?_ ?_)
      | (with_reducible refine LeO.bind ?_ (fun _ => ?_))
      | exact ih0 _ _ _
      | exact ih1 _ _
      | exact LeO.none _
      | refine LeO.ite ?_ ?_
      | refine LeO.bind ?_ (fun _ => ?_)
set_option maxHeartbeats 8000000 in
set_option maxRecDepth 100000 in
theorem laws_FnDotted.calls (k : Nat) (a0 : ByteArray) (r : Bool) (w : World) (h : laws_FnDotted.f k a0 = some r) :
    Calls Tryd.prog 4 #[.string a0] w fun e w' => e = .returned (.bool r) ∧ Below w.heap.size w w' := by
  have HB := Aside0.mk (Below.refl w.heap.size w)
  have H : (if (a0.size : Int) > 2147483647 then (some true) else ((impl_Escape.f (⟨#[97, 46, 98]⟩ : ByteArray) 2).bind fun t138 => ((impl_Unescape.f t138 2).bind fun t139 => (if t139.toList = ([97, 46, 98] : List UInt8) then (if (a0.size : Int) > 3000 then (some true) else (laws_FnDotted.l0 k a0 (⟨#[97]⟩ : ByteArray) 0)) else (some false))))) = some r := h
  clear h
  by_cases c2 : (a0.size : Int) > 2147483647
  · rw [if_pos c2] at H
    have c2b0 : decide (2147483647 < (a0.size : Int)) = true := decide_eq_true c2
    have c2b1 : decide (2147483647 < a0.size) = true := decide_eq_true (by omega)
    clear c2
    obtain rfl := Option.some.inj H
    go_enter Tryd.func4, Tryd.ntmps4
    go_wp2
    go_ret
    exact ⟨by first | rfl | (simp [errW_none, errW_some] <;> rfl) | (simp [*, errW_none, errW_some] <;> rfl), by repeat (first | (with_reducible first | exact HB.out | apply below_alloc | apply pw_below_drewN | apply below_drew1) | exact HB.out)⟩
  · rw [if_neg c2] at H
    have c2b0 : decide (2147483647 < (a0.size : Int)) = false := decide_eq_false c2
    have c2b1 : decide (2147483647 < a0.size) = false := decide_eq_false (by omega)
    clear c2
    replace H := Option.bind_eq_some_iff.mp H
    obtain ⟨t138, A30, H⟩ := H
    replace H : ((impl_Unescape.f t138 2).bind fun t139 => (if t139.toList = ([97, 46, 98] : List UInt8) then (if (a0.size : Int) > 3000 then (some true) else (laws_FnDotted.l0 k a0 (⟨#[97]⟩ : ByteArray) 0)) else (some false))) = some r := H
    have A3 := Aside0.mk A30
    clear A30
    replace H := Option.bind_eq_some_iff.mp H
    obtain ⟨t139, A40, H⟩ := H
    replace H : (if t139.toList = ([97, 46, 98] : List UInt8) then (if (a0.size : Int) > 3000 then (some true) else (laws_FnDotted.l0 k a0 (⟨#[97]⟩ : ByteArray) 0)) else (some false)) = some r := H
    have A4 := Aside0.mk A40
    clear A40
    by_cases c5 : t139.toList = ([97, 46, 98] : List UInt8)
    · rw [if_pos c5] at H
      have c5b0 : (t139.toList == ([97, 46, 98] : List UInt8)) = true := beq_iff_eq.mpr c5
      have c5b1 : (t139.toList != ([97, 46, 98] : List UInt8)) = false := bne_eq_false_iff_eq.mpr c5
      clear c5
      by_cases c6 : (a0.size : Int) > 3000
      · rw [if_pos c6] at H
        have c6b0 : decide (3000 < (a0.size : Int)) = true := decide_eq_true c6
        have c6b1 : decide (3000 < a0.size) = true := decide_eq_true (by omega)
        clear c6
        obtain rfl := Option.some.inj H
        go_enter Tryd.func4, Tryd.ntmps4
        go_wp2_with (first | ((with_reducible refine gate_callee (f := 13) rfl ?_); refine goesL_ (some 10) rfl rfl Tryd.func13 (by kernel_rfl) rfl #[.string (⟨#[97, 46, 98]⟩ : ByteArray), .int .i64 2] rfl (by (try simp only [List.map_toArray, List.map_cons, List.map_nil]); first | done | rfl | (simp only [List.length_drop, List.length_take]; rfl)) ?_; (with_reducible refine (impl_Escape.calls (⟨#[97, 46, 98]⟩ : ByteArray) 2 t138 _ A3.out).mono ?_); rintro e w7 ⟨rfl, hb⟩; refine ⟨_, rfl, ?_⟩; have n0_ := Aside0.mk (below_step (by repeat (first | (with_reducible first | exact HB.out | apply below_alloc | apply pw_below_drewN | apply below_drew1) | exact HB.out)) hb); clear HB; have HB := n0_; clear n0_; (try clear hb); (try clear hb2); (try clear hk); (try clear hi)) | ((with_reducible refine gate_callee (f := 12) rfl ?_); refine goesL_ (some 11) rfl rfl Tryd.func12 (by kernel_rfl) rfl #[.string t138, .int .i64 2] rfl (by (try simp only [List.map_toArray, List.map_cons, List.map_nil]); first | done | rfl | (simp only [List.length_drop, List.length_take]; rfl)) ?_; (with_reducible refine (impl_Unescape.calls t138 2 t139 _ A4.out).mono ?_); rintro e w8 ⟨rfl, hb⟩; refine ⟨_, rfl, ?_⟩; have n0_ := Aside0.mk (below_step (by repeat (first | (with_reducible first | exact HB.out | apply below_alloc | apply pw_below_drewN | apply below_drew1) | exact HB.out)) hb); clear HB; have HB := n0_; clear n0_; (try clear hb); (try clear hb2); (try clear hk); (try clear hi)))
        go_ret
        exact ⟨by first | rfl | (simp [errW_none, errW_some] <;> rfl) | (simp [*, errW_none, errW_some] <;> rfl), by repeat (first | (with_reducible first | exact HB.out | apply below_alloc | apply pw_below_drewN | apply below_drew1) | exact HB.out)⟩
      · rw [if_neg c6] at H
        have c6b0 : decide (3000 < (a0.size : Int)) = false := decide_eq_false c6
        have c6b1 : decide (3000 < a0.size) = false := decide_eq_false (by omega)
        clear c6
        have H' := Aside0.mk H
        clear H
        go_enter Tryd.func4, Tryd.ntmps4
        go_wp2_with (first | ((with_reducible refine gate_callee (f := 13) rfl ?_); refine goesL_ (some 10) rfl rfl Tryd.func13 (by kernel_rfl) rfl #[.string (⟨#[97, 46, 98]⟩ : ByteArray), .int .i64 2] rfl (by (try simp only [List.map_toArray, List.map_cons, List.map_nil]); first | done | rfl | (simp only [List.length_drop, List.length_take]; rfl)) ?_; (with_reducible refine (impl_Escape.calls (⟨#[97, 46, 98]⟩ : ByteArray) 2 t138 _ A3.out).mono ?_); rintro e w9 ⟨rfl, hb⟩; refine ⟨_, rfl, ?_⟩; have n0_ := Aside0.mk (below_step (by repeat (first | (with_reducible first | exact HB.out | apply below_alloc | apply pw_below_drewN | apply below_drew1) | exact HB.out)) hb); clear HB; have HB := n0_; clear n0_; (try clear hb); (try clear hb2); (try clear hk); (try clear hi)) | ((with_reducible refine gate_callee (f := 12) rfl ?_); refine goesL_ (some 11) rfl rfl Tryd.func12 (by kernel_rfl) rfl #[.string t138, .int .i64 2] rfl (by (try simp only [List.map_toArray, List.map_cons, List.map_nil]); first | done | rfl | (simp only [List.length_drop, List.length_take]; rfl)) ?_; (with_reducible refine (impl_Unescape.calls t138 2 t139 _ A4.out).mono ?_); rintro e w10 ⟨rfl, hb⟩; refine ⟨_, rfl, ?_⟩; have n0_ := Aside0.mk (below_step (by repeat (first | (with_reducible first | exact HB.out | apply below_alloc | apply pw_below_drewN | apply below_drew1) | exact HB.out)) hb); clear HB; have HB := n0_; clear n0_; (try clear hb); (try clear hb2); (try clear hk); (try clear hi)))
        go_loopg [3, 4] k (fun kq v3 v4 w' => ∃ (x3_1 : ByteArray) (x4_1 : Int), v3 = .string x3_1 ∧ v4 = .int .i64 x4_1 ∧ Aside0 (laws_FnDotted.l0 kq a0 x3_1 x4_1 = some r) ∧ Aside0 (kq ≤ k) ∧ Aside0 (Below w.heap.size w w'))
        case atStart => exact ⟨((⟨#[97]⟩ : ByteArray)), (0), (by first | rfl | (simp; done) | (simp [*]; done)), (by first | rfl | (simp; done) | (simp [*]; done)), H', ⟨Nat.le_refl _⟩, ⟨by repeat (first | (with_reducible first | exact HB.out | apply below_alloc | apply pw_below_drewN | apply below_drew1) | exact HB.out)⟩⟩
        case round =>
          clear H'
          try clear c1
          try clear c2
          try clear c2b0
          try clear c2b1
          try clear p2
          try clear c4
          try clear c5
          try clear c5b0
          try clear c5b1
          try clear c6
          try clear c6b0
          try clear c6b1
          obtain ⟨x3_1, x4_1, rfl, rfl, HA, HK1, HB⟩ := hrel
          cases gk with
          | zero => exact absurd HA.out (by simp [laws_FnDotted.l0])
          | succ k1 =>
            have H := HA.out
            clear HA
            simp only [laws_FnDotted.l0] at H
            by_cases c11 : x4_1 < (a0.size : Int)
            · rw [if_pos c11] at H
              have c11b0 : decide (x4_1 < (a0.size : Int)) = true := decide_eq_true c11
              clear c11
              by_cases c12 : 0 ≤ x4_1
              · rw [if_pos c12] at H
                have c12b0 : decide (0 ≤ x4_1) = true := decide_eq_true c12
                clear c12
                obtain ⟨ji14, hji14⟩ : ∃ j_ : Int, (Int.tmod (wrap64 (bt a0 x4_1)) 64) = j_ := ⟨_, rfl⟩
                replace H : (if 0 ≤ (ji14) then (if (ji14) ≤ (wrap64 ((ji14) + 1)) then (if (wrap64 ((ji14) + 1)) ≤ 64 then (if x3_1.size + ((⟨#[97, 98, 99, 100, 101, 102, 103, 104, 105, 106, 107, 108, 109, 110, 111, 112, 113, 114, 115, 116, 117, 118, 119, 120, 121, 122, 65, 66, 67, 68, 69, 70, 71, 72, 73, 74, 75, 76, 77, 78, 79, 80, 81, 82, 83, 84, 85, 86, 87, 88, 89, 90, 48, 49, 50, 51, 52, 53, 54, 55, 56, 57, 46, 95]⟩ : ByteArray).extract ((ji14) : Int).toNat ((wrap64 ((ji14) + 1)) : Int).toNat).size ≤ 9223372036854775807 then (laws_FnDotted.l0 k1 a0 (x3_1 ++ ((⟨#[97, 98, 99, 100, 101, 102, 103, 104, 105, 106, 107, 108, 109, 110, 111, 112, 113, 114, 115, 116, 117, 118, 119, 120, 121, 122, 65, 66, 67, 68, 69, 70, 71, 72, 73, 74, 75, 76, 77, 78, 79, 80, 81, 82, 83, 84, 85, 86, 87, 88, 89, 90, 48, 49, 50, 51, 52, 53, 54, 55, 56, 57, 46, 95]⟩ : ByteArray).extract ((ji14) : Int).toNat ((wrap64 ((ji14) + 1)) : Int).toNat)) (wrap64 (x4_1 + 1))) else (none)) else (none)) else (none)) else (none)) = some r := by first | (rw [hji14] at H; exact H) | (simp only [hji14] at H ⊢; exact H)
                by_cases c15 : 0 ≤ (ji14)
                · rw [if_pos c15] at H
                  have c15b0 := eq_true c15
                  have c15b1 : decide (0 ≤ (ji14)) = true := decide_eq_true c15
                  clear c15
                  by_cases c16 : (ji14) ≤ (wrap64 ((ji14) + 1))
                  · rw [if_pos c16] at H
                    have c16b0 := eq_true c16
                    have c16b1 : decide ((ji14) ≤ (wrap64 ((ji14) + 1))) = true := decide_eq_true c16
                    by_cases c17 : (wrap64 ((ji14) + 1)) ≤ 64
                    · rw [if_pos c17] at H
                      have c17b0 := eq_true c17
                      have c17b1 : decide ((wrap64 ((ji14) + 1)) ≤ 64) = true := decide_eq_true c17
                      by_cases c18 : x3_1.size + ((⟨#[97, 98, 99, 100, 101, 102, 103, 104, 105, 106, 107, 108, 109, 110, 111, 112, 113, 114, 115, 116, 117, 118, 119, 120, 121, 122, 65, 66, 67, 68, 69, 70, 71, 72, 73, 74, 75, 76, 77, 78, 79, 80, 81, 82, 83, 84, 85, 86, 87, 88, 89, 90, 48, 49, 50, 51, 52, 53, 54, 55, 56, 57, 46, 95]⟩ : ByteArray).extract ((ji14) : Int).toNat ((wrap64 ((ji14) + 1)) : Int).toNat).size ≤ 9223372036854775807
                      · rw [if_pos c18] at H
                        have c18b0 := eq_true c18
                        have c18b1 : decide (x3_1.size + ((⟨#[97, 98, 99, 100, 101, 102, 103, 104, 105, 106, 107, 108, 109, 110, 111, 112, 113, 114, 115, 116, 117, 118, 119, 120, 121, 122, 65, 66, 67, 68, 69, 70, 71, 72, 73, 74, 75, 76, 77, 78, 79, 80, 81, 82, 83, 84, 85, 86, 87, 88, 89, 90, 48, 49, 50, 51, 52, 53, 54, 55, 56, 57, 46, 95]⟩ : ByteArray).extract ((ji14) : Int).toNat ((wrap64 ((ji14) + 1)) : Int).toNat).size ≤ 9223372036854775807) = true := decide_eq_true c18
                        try have c18b2 : (9223372036854775807 < x3_1.size + ((⟨#[97, 98, 99, 100, 101, 102, 103, 104, 105, 106, 107, 108, 109, 110, 111, 112, 113, 114, 115, 116, 117, 118, 119, 120, 121, 122, 65, 66, 67, 68, 69, 70, 71, 72, 73, 74, 75, 76, 77, 78, 79, 80, 81, 82, 83, 84, 85, 86, 87, 88, 89, 90, 48, 49, 50, 51, 52, 53, 54, 55, 56, 57, 46, 95]⟩ : ByteArray).extract ((ji14) : Int).toNat ((wrap64 ((ji14) + 1)) : Int).toNat).size) = False := eq_false (Nat.not_lt.2 c18)
                        try have c18b4 : (9223372036854775807 < x3_1.size + (((wrap64 ((ji14) + 1)) : Int).toNat - ((ji14) : Int).toNat)) = False := eq_false (by have h_ := c18; rw [ByteArray.size_extract] at h_; have z_ : (⟨#[97, 98, 99, 100, 101, 102, 103, 104, 105, 106, 107, 108, 109, 110, 111, 112, 113, 114, 115, 116, 117, 118, 119, 120, 121, 122, 65, 66, 67, 68, 69, 70, 71, 72, 73, 74, 75, 76, 77, 78, 79, 80, 81, 82, 83, 84, 85, 86, 87, 88, 89, 90, 48, 49, 50, 51, 52, 53, 54, 55, 56, 57, 46, 95]⟩ : ByteArray).size = 64 := rfl; rw [z_] at h_; omega)
                        have H' := Aside0.mk H
                        clear H
                        have p13 : 0 ≤ (x4_1 : Int) := of_decide_eq_true (by first | (with_reducible assumption) | assumption)
                        have q13 : x4_1 < (a0.size : Int) := of_decide_eq_true (by first | (with_reducible assumption) | assumption)
                        have hx13 := bt_at a0 x4_1
                        replace p13 := eq_true p13
                        replace q13 := eq_true q13
                        go_wp2
                        go_roundg k1
                        case measure => have := HK1.out; omega
                        case rel => exact ⟨(x3_1 ++ ((⟨#[97, 98, 99, 100, 101, 102, 103, 104, 105, 106, 107, 108, 109, 110, 111, 112, 113, 114, 115, 116, 117, 118, 119, 120, 121, 122, 65, 66, 67, 68, 69, 70, 71, 72, 73, 74, 75, 76, 77, 78, 79, 80, 81, 82, 83, 84, 85, 86, 87, 88, 89, 90, 48, 49, 50, 51, 52, 53, 54, 55, 56, 57, 46, 95]⟩ : ByteArray).extract ((ji14) : Int).toNat ((wrap64 ((ji14) + 1)) : Int).toNat)), (wrap64 (x4_1 + 1)), (by first | rfl | (simp; done) | (simp only [← hji14] <;> (first | rfl | simp)) | (simp [*]; done)), (by first | rfl | (simp; done) | (simp [*]; done)), H', ⟨by have := HK1.out; omega⟩, ⟨by repeat (first | (with_reducible first | exact HB.out | apply below_alloc | apply pw_below_drewN | apply below_drew1) | exact HB.out)⟩⟩
                      · rw [if_neg c18] at H
                        exact absurd H (by simp)
                    · rw [if_neg c17] at H
                      exact absurd H (by simp)
                  · rw [if_neg c16] at H
                    exact absurd H (by simp)
                · rw [if_neg c15] at H
                  exact absurd H (by simp)
              · rw [if_neg c12] at H
                exact absurd H (by simp)
            · rw [if_neg c11] at H
              have c11b0 : decide (x4_1 < (a0.size : Int)) = false := decide_eq_false c11
              clear c11
              have H' := Aside0.mk H
              clear H
              go_wp2
              go_loopg [6] k1 (fun kq v6 w' => ∃ (x6_2 : Int), v6 = .int .i64 x6_2 ∧ Aside0 (laws_FnDotted.l1 kq x3_1 x6_2 = some r) ∧ Aside0 (kq ≤ k1) ∧ Aside0 (Below w.heap.size w w'))
              case atStart => exact ⟨(0), (by first | rfl | (simp; done) | (simp [*]; done)), H', ⟨Nat.le_refl _⟩, ⟨by repeat (first | (with_reducible first | exact HB.out | apply below_alloc | apply pw_below_drewN | apply below_drew1) | exact HB.out)⟩⟩
              case round =>
                clear H'
                try clear c1
                try clear p1
                try clear q1
                try clear hx1
                try clear c2
                try clear c2b0
                try clear c2b1
                try clear p2
                try clear c4
                try clear c5
                try clear c5b0
                try clear c5b1
                try clear c6
                try clear c6b0
                try clear c6b1
                try clear p6
                try clear c11
                try clear c11b0
                try clear c12
                try clear c12b0
                try clear c13
                try clear p13
                try clear q13
                try clear hx13
                try clear c15
                try clear c15b0
                try clear c15b1
                try clear c16
                try clear c16b0
                try clear c16b1
                try clear c17
                try clear c17b0
                try clear c17b1
                try clear c18
                try clear c18b0
                try clear c18b1
                try clear c18b2
                try clear p13
                try clear p2
                try clear q13
                obtain ⟨x6_2, rfl, HA, HK2, HB⟩ := hrel
                cases gk with
                | zero => exact absurd HA.out (by simp [laws_FnDotted.l1])
                | succ k2 =>
                  have H := HA.out
                  clear HA
                  simp only [laws_FnDotted.l1] at H
                  by_cases c19 : (wrap64 (x6_2 + 4)) ≤ (x3_1.size : Int)
                  · rw [if_pos c19] at H
                    have c19b0 : decide ((wrap64 (x6_2 + 4)) ≤ (x3_1.size : Int)) = true := decide_eq_true c19
                    clear c19
                    by_cases c20 : 0 ≤ x6_2
                    · rw [if_pos c20] at H
                      have c20b0 := eq_true c20
                      have c20b1 : decide (0 ≤ x6_2) = true := decide_eq_true c20
                      clear c20
                      by_cases c21 : x6_2 ≤ (wrap64 (x6_2 + 4))
                      · rw [if_pos c21] at H
                        have c21b0 := eq_true c21
                        have c21b1 : decide (x6_2 ≤ (wrap64 (x6_2 + 4))) = true := decide_eq_true c21
                        have c22b0 := eq_true (of_decide_eq_true (by first | (with_reducible assumption) | assumption) : (wrap64 (x6_2 + 4)) ≤ (x3_1.size : Int))
                        by_cases c23 : (x3_1.extract (x6_2 : Int).toNat ((wrap64 (x6_2 + 4)) : Int).toNat).toList = ([95, 100, 111, 116] : List UInt8)
                        · rw [if_pos c23] at H
                          have c23b0 : ((x3_1.extract (x6_2 : Int).toNat ((wrap64 (x6_2 + 4)) : Int).toNat).toList == ([95, 100, 111, 116] : List UInt8)) = true := beq_iff_eq.mpr c23
                          have c23b1 : ((x3_1.extract (x6_2 : Int).toNat ((wrap64 (x6_2 + 4)) : Int).toNat).toList != ([95, 100, 111, 116] : List UInt8)) = false := bne_eq_false_iff_eq.mpr c23
                          clear c23
                          obtain rfl := Option.some.inj H
                          go_wp2
                          go_ret
                          exact ⟨by first | rfl | (simp [errW_none, errW_some] <;> rfl) | (simp [*, errW_none, errW_some] <;> rfl), by repeat (first | (with_reducible first | exact HB.out | apply below_alloc | apply pw_below_drewN | apply below_drew1) | exact HB.out)⟩
                        · rw [if_neg c23] at H
                          have c23b0 : ((x3_1.extract (x6_2 : Int).toNat ((wrap64 (x6_2 + 4)) : Int).toNat).toList == ([95, 100, 111, 116] : List UInt8)) = false := beq_eq_false_iff_ne.mpr c23
                          have c23b1 : ((x3_1.extract (x6_2 : Int).toNat ((wrap64 (x6_2 + 4)) : Int).toNat).toList != ([95, 100, 111, 116] : List UInt8)) = true := bne_iff_ne.mpr c23
                          have H' := Aside0.mk H
                          clear H
                          go_wp2
                          go_roundg k2
                          case measure => have := HK1.out; have := HK2.out; omega
                          case rel => exact ⟨(wrap64 (x6_2 + 1)), (by first | rfl | (simp; done) | (simp [*]; done)), H', ⟨by have := HK1.out; have := HK2.out; omega⟩, ⟨by repeat (first | (with_reducible first | exact HB.out | apply below_alloc | apply pw_below_drewN | apply below_drew1) | exact HB.out)⟩⟩
                      · rw [if_neg c21] at H
                        exact absurd H (by simp)
                    · rw [if_neg c20] at H
                      exact absurd H (by simp)
                  · rw [if_neg c19] at H
                    have c19b0 : decide ((wrap64 (x6_2 + 4)) ≤ (x3_1.size : Int)) = false := decide_eq_false c19
                    clear c19
                    replace H := Option.bind_eq_some_iff.mp H
                    obtain ⟨t140, A240, H⟩ := H
                    replace H : ((impl_Unescape.f t140 2).bind fun t141 => (some (t141.toList == x3_1.toList))) = some r := H
                    have A24 := Aside0.mk A240
                    clear A240
                    replace H := Option.bind_eq_some_iff.mp H
                    obtain ⟨t141, A250, H⟩ := H
                    replace H : (some (t141.toList == x3_1.toList)) = some r := H
                    have A25 := Aside0.mk A250
                    clear A250
                    obtain rfl := Option.some.inj H
                    go_wp2_with (first | ((with_reducible refine gate_callee (f := 13) rfl ?_); refine goesL_ (some 47) rfl rfl Tryd.func13 (by kernel_rfl) rfl #[.string x3_1, .int .i64 2] rfl (by (try simp only [List.map_toArray, List.map_cons, List.map_nil]); first | done | rfl | (simp only [List.length_drop, List.length_take]; rfl)) ?_; (with_reducible refine (impl_Escape.calls x3_1 2 t140 _ A24.out).mono ?_); rintro e w26 ⟨rfl, hb⟩; refine ⟨_, rfl, ?_⟩; have n0_ := Aside0.mk (below_step (by repeat (first | (with_reducible first | exact HB.out | apply below_alloc | apply pw_below_drewN | apply below_drew1) | exact HB.out)) hb); clear HB; have HB := n0_; clear n0_; (try clear hb); (try clear hb2); (try clear hk); (try clear hi)) | ((with_reducible refine gate_callee (f := 12) rfl ?_); refine goesL_ (some 48) rfl rfl Tryd.func12 (by kernel_rfl) rfl #[.string t140, .int .i64 2] rfl (by (try simp only [List.map_toArray, List.map_cons, List.map_nil]); first | done | rfl | (simp only [List.length_drop, List.length_take]; rfl)) ?_; (with_reducible refine (impl_Unescape.calls t140 2 t141 _ A25.out).mono ?_); rintro e w27 ⟨rfl, hb⟩; refine ⟨_, rfl, ?_⟩; have n0_ := Aside0.mk (below_step (by repeat (first | (with_reducible first | exact HB.out | apply below_alloc | apply pw_below_drewN | apply below_drew1) | exact HB.out)) hb); clear HB; have HB := n0_; clear n0_; (try clear hb); (try clear hb2); (try clear hk); (try clear hi)))
                    go_ret
                    exact ⟨by first | rfl | (simp [errW_none, errW_some] <;> rfl) | (simp [*, errW_none, errW_some] <;> rfl), by repeat (first | (with_reducible first | exact HB.out | apply below_alloc | apply pw_below_drewN | apply below_drew1) | exact HB.out)⟩
    · rw [if_neg c5] at H
      have c5b0 : (t139.toList == ([97, 46, 98] : List UInt8)) = false := beq_eq_false_iff_ne.mpr c5
      have c5b1 : (t139.toList != ([97, 46, 98] : List UInt8)) = true := bne_iff_ne.mpr c5
      obtain rfl := Option.some.inj H
      go_enter Tryd.func4, Tryd.ntmps4
      go_wp2_with (first | ((with_reducible refine gate_callee (f := 13) rfl ?_); refine goesL_ (some 10) rfl rfl Tryd.func13 (by kernel_rfl) rfl #[.string (⟨#[97, 46, 98]⟩ : ByteArray), .int .i64 2] rfl (by (try simp only [List.map_toArray, List.map_cons, List.map_nil]); first | done | rfl | (simp only [List.length_drop, List.length_take]; rfl)) ?_; (with_reducible refine (impl_Escape.calls (⟨#[97, 46, 98]⟩ : ByteArray) 2 t138 _ A3.out).mono ?_); rintro e w28 ⟨rfl, hb⟩; refine ⟨_, rfl, ?_⟩; have n0_ := Aside0.mk (below_step (by repeat (first | (with_reducible first | exact HB.out | apply below_alloc | apply pw_below_drewN | apply below_drew1) | exact HB.out)) hb); clear HB; have HB := n0_; clear n0_; (try clear hb); (try clear hb2); (try clear hk); (try clear hi)) | ((with_reducible refine gate_callee (f := 12) rfl ?_); refine goesL_ (some 11) rfl rfl Tryd.func12 (by kernel_rfl) rfl #[.string t138, .int .i64 2] rfl (by (try simp only [List.map_toArray, List.map_cons, List.map_nil]); first | done | rfl | (simp only [List.length_drop, List.length_take]; rfl)) ?_; (with_reducible refine (impl_Unescape.calls t138 2 t139 _ A4.out).mono ?_); rintro e w29 ⟨rfl, hb⟩; refine ⟨_, rfl, ?_⟩; have n0_ := Aside0.mk (below_step (by repeat (first | (with_reducible first | exact HB.out | apply below_alloc | apply pw_below_drewN | apply below_drew1) | exact HB.out)) hb); clear HB; have HB := n0_; clear n0_; (try clear hb); (try clear hb2); (try clear hk); (try clear hi)))
      go_ret
      exact ⟨by first | rfl | (simp [errW_none, errW_some] <;> rfl) | (simp [*, errW_none, errW_some] <;> rfl), by repeat (first | (with_reducible first | exact HB.out | apply below_alloc | apply pw_below_drewN | apply below_drew1) | exact HB.out)⟩

/-- THE ONE PURE STATEMENT of laws_FnDotted: yours. -/
def laws_FnDotted.Pure : Prop := ∀ (a0 : ByteArray), a0.size ≤ maxLen → ∃ k, laws_FnDotted.f k a0 = some true

end Go.Proofs.YtnjghpoeokfekaaDoor.Q
