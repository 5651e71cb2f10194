-- printed by this project's own program wip/tools/mkprint.py (the kit's print.py with hand-proved contracts put in)
import Derived.Test.YtbcgcfdpblhddaaDoorQx0
import Derived.Test.YtbcgcfdpblhddaaDoorQx2
import Derived.Test.YtbcgcfdpblhddaaDoorQx3
namespace Go.Proofs.YtbcgcfdpblhddaaDoor.Q
open Go.RowKit Go.Proofs.YtbcgcfdpblhddaaDoorW.PrintWords Go.Proofs.YtbcgcfdpblhddaaDoorW.PrintLast Go.Proofs.YtbcgcfdpblhddaaDoorW.PrintMore
attribute [local go_sem] max2_int min2_int max_two min_two max_three min_three max_four min_four   -- for this text's walks alone
set_option linter.unusedVariables false
set_option linter.unusedSimpArgs false

/-! ### labels_zzMatcherParts: function 27 -/
mutual
def labels_zzMatcherParts.j1 : Nat → ByteArray → Int → Option (List ByteArray)
  | 0, _, _ => none
  | k + 1, x0, x3 => labels_zzMatcherParts.l1 k x0 x3 x3
def labels_zzMatcherParts.j3 : Nat → ByteArray → Int → Int → Option (List ByteArray)
  | 0, _, _, _ => none
  | k + 1, x0, x3, x4 => labels_zzMatcherParts.l2 k x0 x3 x4 x4
def labels_zzMatcherParts.j5 : Nat → ByteArray → Int → Int → Int → Option (List ByteArray)
  | 0, _, _, _, _ => none
  | k + 1, x0, x3, x4, x5 => if x4 = x3 then (some ([] : List ByteArray)) else (if (wrap64 (x5 + 1)) < (x0.size : Int) then (if 0 ≤ x5 then (if x5 ≤ (wrap64 (x5 + 2)) then (if (wrap64 (x5 + 2)) ≤ (x0.size : Int) then (if (x0.extract (x5 : Int).toNat ((wrap64 (x5 + 2)) : Int).toNat).toList = ([61, 126] : List UInt8) then (labels_zzMatcherParts.j6 k x0 x3 x4 x5 true) else (if (x0.extract (x5 : Int).toNat ((wrap64 (x5 + 2)) : Int).toNat).toList = ([33, 61] : List UInt8) then (labels_zzMatcherParts.j6 k x0 x3 x4 x5 true) else (labels_zzMatcherParts.j6 k x0 x3 x4 x5 ((x0.extract (x5 : Int).toNat ((wrap64 (x5 + 2)) : Int).toNat).toList == ([33, 126] : List UInt8))))) else (none)) else (none)) else (none)) else (labels_zzMatcherParts.j6 k x0 x3 x4 x5 false))
def labels_zzMatcherParts.j7 : Nat → ByteArray → Int → Int → Int → Int → Option (List ByteArray)
  | 0, _, _, _, _, _ => none
  | k + 1, x0, x3, x4, x5, x6 => labels_zzMatcherParts.l3 k x0 x3 x4 x5 x6 (wrap64 (x5 + x6)) (x0.size : Int)
def labels_zzMatcherParts.j9 : Nat → ByteArray → Int → Int → Int → Int → Int → Int → Option (List ByteArray)
  | 0, _, _, _, _, _, _, _ => none
  | k + 1, x0, x3, x4, x5, x6, x7, x8 => labels_zzMatcherParts.l4 k x0 x3 x4 x5 x6 x7 x8
def labels_zzMatcherParts.l4 : Nat → ByteArray → Int → Int → Int → Int → Int → Int → Option (List ByteArray)
  | 0, _, _, _, _, _, _, _ => none
  | k + 1, x0, x3, x4, x5, x6, x7, x8 => if x8 > x7 then (if 0 ≤ (wrap64 (x8 - 1)) then (if (wrap64 (x8 - 1)) < (x0.size : Int) then ((labels_zzBlank.f (bt x0 (wrap64 (x8 - 1)))).bind fun t105 => (if t105 = true then (labels_zzMatcherParts.l4 k x0 x3 x4 x5 x6 x7 (wrap64 (x8 - 1))) else (if 0 ≤ x3 then (if x3 ≤ x4 then (if x4 ≤ (x0.size : Int) then (if 0 ≤ x5 then (if x5 ≤ (wrap64 (x5 + x6)) then (if (wrap64 (x5 + x6)) ≤ (x0.size : Int) then (if 0 ≤ x7 then (if x7 ≤ x8 then (if x8 ≤ (x0.size : Int) then (some (([x0, x0.extract (x3 : Int).toNat (x4 : Int).toNat, x0.extract (x5 : Int).toNat ((wrap64 (x5 + x6)) : Int).toNat, x0.extract (x7 : Int).toNat (x8 : Int).toNat] : List ByteArray))) else (none)) else (none)) else (none)) else (none)) else (none)) else (none)) else (none)) else (none)) else (none)))) else (none)) else (none)) else (if 0 ≤ x3 then (if x3 ≤ x4 then (if x4 ≤ (x0.size : Int) then (if 0 ≤ x5 then (if x5 ≤ (wrap64 (x5 + x6)) then (if (wrap64 (x5 + x6)) ≤ (x0.size : Int) then (if 0 ≤ x7 then (if x7 ≤ x8 then (if x8 ≤ (x0.size : Int) then (some (([x0, x0.extract (x3 : Int).toNat (x4 : Int).toNat, x0.extract (x5 : Int).toNat ((wrap64 (x5 + x6)) : Int).toNat, x0.extract (x7 : Int).toNat (x8 : Int).toNat] : List ByteArray))) else (none)) else (none)) else (none)) else (none)) else (none)) else (none)) else (none)) else (none)) else (none))
def labels_zzMatcherParts.l3 : Nat → ByteArray → Int → Int → Int → Int → Int → Int → Option (List ByteArray)
  | 0, _, _, _, _, _, _, _ => none
  | k + 1, x0, x3, x4, x5, x6, x7, x8 => if x7 < x8 then (if 0 ≤ x7 then (if x7 < (x0.size : Int) then ((labels_zzBlank.f (bt x0 x7)).bind fun t104 => (if t104 = true then (labels_zzMatcherParts.l3 k x0 x3 x4 x5 x6 (wrap64 (x7 + 1)) x8) else (labels_zzMatcherParts.j9 k x0 x3 x4 x5 x6 x7 x8))) else (none)) else (none)) else (labels_zzMatcherParts.j9 k x0 x3 x4 x5 x6 x7 x8)
def labels_zzMatcherParts.j6 : Nat → ByteArray → Int → Int → Int → Bool → Option (List ByteArray)
  | 0, _, _, _, _, _ => none
  | k + 1, x0, x3, x4, x5, x54 => if x54 = true then (labels_zzMatcherParts.j7 k x0 x3 x4 x5 2) else (if x5 < (x0.size : Int) then (if 0 ≤ x5 then (if (bt x0 x5) = 61 then (labels_zzMatcherParts.j7 k x0 x3 x4 x5 1) else (some ([] : List ByteArray))) else (none)) else (some ([] : List ByteArray)))
def labels_zzMatcherParts.l2 : Nat → ByteArray → Int → Int → Int → Option (List ByteArray)
  | 0, _, _, _, _ => none
  | k + 1, x0, x3, x4, x5 => if x5 < (x0.size : Int) then (if 0 ≤ x5 then ((labels_zzBlank.f (bt x0 x5)).bind fun t103 => (if t103 = true then (labels_zzMatcherParts.l2 k x0 x3 x4 (wrap64 (x5 + 1))) else (labels_zzMatcherParts.j5 k x0 x3 x4 x5))) else (none)) else (labels_zzMatcherParts.j5 k x0 x3 x4 x5)
def labels_zzMatcherParts.l1 : Nat → ByteArray → Int → Int → Option (List ByteArray)
  | 0, _, _, _ => none
  | k + 1, x0, x3, x4 => if x4 < (x0.size : Int) then (if 0 ≤ x4 then ((labels_zzNameByte.f (bt x0 x4) (x4 == x3)).bind fun t102 => (if t102 = true then (labels_zzMatcherParts.l1 k x0 x3 (wrap64 (x4 + 1))) else (labels_zzMatcherParts.j3 k x0 x3 x4))) else (none)) else (labels_zzMatcherParts.j3 k x0 x3 x4)
def labels_zzMatcherParts.l0 : Nat → ByteArray → Int → Option (List ByteArray)
  | 0, _, _ => none
  | k + 1, x0, x3 => if x3 < (x0.size : Int) then (if 0 ≤ x3 then ((labels_zzBlank.f (bt x0 x3)).bind fun t101 => (if t101 = true then (labels_zzMatcherParts.l0 k x0 (wrap64 (x3 + 1))) else (labels_zzMatcherParts.j1 k x0 x3))) else (none)) else (labels_zzMatcherParts.j1 k x0 x3)
end
def labels_zzMatcherParts.f (k : Nat) (a0 : ByteArray) : Option (List ByteArray) := labels_zzMatcherParts.l0 k a0 0
theorem labels_zzMatcherParts.mono_l : ∀ k, (∀ y0 y1, LeO (labels_zzMatcherParts.j1 k y0 y1) (labels_zzMatcherParts.j1 (k + 1) y0 y1)) ∧ (∀ y0 y1 y2, LeO (labels_zzMatcherParts.j3 k y0 y1 y2) (labels_zzMatcherParts.j3 (k + 1) y0 y1 y2)) ∧ (∀ y0 y1 y2 y3, LeO (labels_zzMatcherParts.j5 k y0 y1 y2 y3) (labels_zzMatcherParts.j5 (k + 1) y0 y1 y2 y3)) ∧ (∀ y0 y1 y2 y3 y4, LeO (labels_zzMatcherParts.j7 k y0 y1 y2 y3 y4) (labels_zzMatcherParts.j7 (k + 1) y0 y1 y2 y3 y4)) ∧ (∀ y0 y1 y2 y3 y4 y5 y6, LeO (labels_zzMatcherParts.j9 k y0 y1 y2 y3 y4 y5 y6) (labels_zzMatcherParts.j9 (k + 1) y0 y1 y2 y3 y4 y5 y6)) ∧ (∀ y0 y1 y2 y3 y4 y5 y6, LeO (labels_zzMatcherParts.l4 k y0 y1 y2 y3 y4 y5 y6) (labels_zzMatcherParts.l4 (k + 1) y0 y1 y2 y3 y4 y5 y6)) ∧ (∀ y0 y1 y2 y3 y4 y5 y6, LeO (labels_zzMatcherParts.l3 k y0 y1 y2 y3 y4 y5 y6) (labels_zzMatcherParts.l3 (k + 1) y0 y1 y2 y3 y4 y5 y6)) ∧ (∀ y0 y1 y2 y3 y4, LeO (labels_zzMatcherParts.j6 k y0 y1 y2 y3 y4) (labels_zzMatcherParts.j6 (k + 1) y0 y1 y2 y3 y4)) ∧ (∀ y0 y1 y2 y3, LeO (labels_zzMatcherParts.l2 k y0 y1 y2 y3) (labels_zzMatcherParts.l2 (k + 1) y0 y1 y2 y3)) ∧ (∀ y0 y1 y2, LeO (labels_zzMatcherParts.l1 k y0 y1 y2) (labels_zzMatcherParts.l1 (k + 1) y0 y1 y2)) ∧ (∀ y0 y1, LeO (labels_zzMatcherParts.l0 k y0 y1) (labels_zzMatcherParts.l0 (k + 1) y0 y1))
  | 0 => ⟨fun _ _ r h => by simp [labels_zzMatcherParts.j1] at h, fun _ _ _ r h => by simp [labels_zzMatcherParts.j3] at h, fun _ _ _ _ r h => by simp [labels_zzMatcherParts.j5] at h, fun _ _ _ _ _ r h => by simp [labels_zzMatcherParts.j7] at h, fun _ _ _ _ _ _ _ r h => by simp [labels_zzMatcherParts.j9] at h, fun _ _ _ _ _ _ _ r h => by simp [labels_zzMatcherParts.l4] at h, fun _ _ _ _ _ _ _ r h => by simp [labels_zzMatcherParts.l3] at h, fun _ _ _ _ _ r h => by simp [labels_zzMatcherParts.j6] at h, fun _ _ _ _ r h => by simp [labels_zzMatcherParts.l2] at h, fun _ _ _ r h => by simp [labels_zzMatcherParts.l1] at h, fun _ _ r h => by simp [labels_zzMatcherParts.l0] at h⟩
  | k + 1 => by
    obtain ⟨ih0, ih1, ih2, ih3, ih4, ih5, ih6, ih7, ih8, ih9, ih10⟩ := labels_zzMatcherParts.mono_l k
    refine ⟨?_, ?_, ?_, ?_, ?_, ?_, ?_, ?_, ?_, ?_, ?_⟩
    · intro y0 y1
      unfold labels_zzMatcherParts.j1
      repeat' first
      | (with_reducible exact ih0 _ _)
      | (with_reducible exact ih1 _ _ _)
      | (with_reducible exact ih2 _ _ _ _)
      | (with_reducible exact ih3 _ _ _ _ _)
      | (with_reducible exact ih4 _ _ _ _ _ _ _)
      | (with_reducible exact ih5 _ _ _ _ _ _ _)
      | (with_reducible exact ih6 _ _ _ _ _ _ _)
      | (with_reducible exact ih7 _ _ _ _ _)
      | (with_reducible exact ih8 _ _ _ _)
      | (with_reducible exact ih9 _ _ _)
      | (with_reducible exact ih10 _ _)
      | (with_reducible exact LeO.refl _)
      | (with_reducible exact LeO.none _)
      | (with_reducible refine LeO.ite ?_ ?_)
      | (with_reducible refine LeO.bind ?_ (fun _ => ?_))
      | exact ih0 _ _
      | exact ih1 _ _ _
      | exact ih2 _ _ _ _
      | exact ih3 _ _ _ _ _
      | exact ih4 _ _ _ _ _ _ _
      | exact ih5 _ _ _ _ _ _ _
      | exact ih6 _ _ _ _ _ _ _
      | exact ih7 _ _ _ _ _
      | exact ih8 _ _ _ _
      | exact ih9 _ _ _
      | exact ih10 _ _
      | exact LeO.none _
      | refine LeO.ite ?_ ?_
      | refine LeO.bind ?_ (fun _ => ?_)
    · intro y0 y1 y2
      unfold labels_zzMatcherParts.j3
      repeat' first
      | (with_reducible exact ih0 _ _)
      | (with_reducible exact ih1 _ _ _)
      | (with_reducible exact ih2 _ _ _ _)
      | (with_reducible exact ih3 _ _ _ _ _)
      | (with_reducible exact ih4 _ _ _ _ _ _ _)
      | (with_reducible exact ih5 _ _ _ _ _ _ _)
      | (with_reducible exact ih6 _ _ _ _ _ _ _)
      | (with_reducible exact ih7 _ _ _ _ _)
      | (with_reducible exact ih8 _ _ _ _)
      | (with_reducible exact ih9 _ _ _)
      | (with_reducible exact ih10 _ _)
      | (with_reducible exact LeO.refl _)
      | (with_reducible exact LeO.none _)
      | (with_reducible refine LeO.ite ?_ ?_)
      | (with_reducible refine LeO.bind ?_ (fun _ => ?_))
      | exact ih0 _ _
      | exact ih1 _ _ _
      | exact ih2 _ _ _ _
      | exact ih3 _ _ _ _ _
      | exact ih4 _ _ _ _ _ _ _
      | exact ih5 _ _ _ _ _ _ _
      | exact ih6 _ _ _ _ _ _ _
      | exact ih7 _ _ _ _ _
      | exact ih8 _ _ _ _
      | exact ih9 _ _ _
      | exact ih10 _ _
      | exact LeO.none _
      | refine LeO.ite ?_ ?_
      | refine LeO.bind ?_ (fun _ => ?_)
    · intro y0 y1 y2 y3
      unfold labels_zzMatcherParts.j5
      repeat' first
      | (with_reducible exact ih0 _ _)
      | (with_reducible exact ih1 _ _ _)
      | (with_reducible exact ih2 _ _ _ _)
      | (with_reducible exact ih3 _ _ _ _ _)
      | (with_reducible exact ih4 _ _ _ _ _ _ _)
      | (with_reducible exact ih5 _ _ _ _ _ _ _)
      | (with_reducible exact ih6 _ _ _ _ _ _ _)
      | (with_reducible exact ih7 _ _ _ _ _)
      | (with_reducible exact ih8 _ _ _ _)
      | (with_reducible exact ih9 _ _ _)
      | (with_reducible exact ih10 _ _)
      | (with_reducible exact LeO.refl _)
      | (with_reducible exact LeO.none _)
      | (with_reducible refine LeO.ite ?_ ?_)
      | (with_reducible refine LeO.bind ?_ (fun _ => ?_))
      | exact ih0 _ _
      | exact ih1 _ _ _
      | exact ih2 _ _ _ _
      | exact ih3 _ _ _ _ _
      | exact ih4 _ _ _ _ _ _ _
      | exact ih5 _ _ _ _ _ _ _
      | exact ih6 _ _ _ _ _ _ _
      | exact ih7 _ _ _ _ _
      | exact ih8 _ _ _ _
      | exact ih9 _ _ _
      | exact ih10 _ _
      | exact LeO.none _
      | refine LeO.ite ?_ ?_
      | refine LeO.bind ?_ (fun _ => ?_)
    · intro y0 y1 y2 y3 y4
      unfold labels_zzMatcherParts.j7
      repeat' first
      | (with_reducible exact ih0 _ _)
      | (with_reducible exact ih1 _ _ _)
      | (with_reducible exact ih2 _ _ _ _)
      | (with_reducible exact ih3 _ _ _ _ _)
      | (with_reducible exact ih4 _ _ _ _ _ _ _)
      | (with_reducible exact ih5 _ _ _ _ _ _ _)
      | (with_reducible exact ih6 _ _ _ _ _ _ _)
      | (with_reducible exact ih7 _ _ _ _ _)
      | (with_reducible exact ih8 _ _ _ _)
      | (with_reducible exact ih9 _ _ _)
      | (with_reducible exact ih10 _ _)
      | (with_reducible exact LeO.refl _)
      | (with_reducible exact LeO.none _)
      | (with_reducible refine LeO.ite ?_ ?_)
      | (with_reducible refine LeO.bind ?_ (fun _ => ?_))
      | exact ih0 _ _
      | exact ih1 _ _ _
      | exact ih2 _ _ _ _
      | exact ih3 _ _ _ _ _
      | exact ih4 _ _ _ _ _ _ _
      | exact ih5 _ _ _ _ _ _ _
      | exact ih6 _ _ _ _ _ _ _
      | exact ih7 _ _ _ _ _
      | exact ih8 _ _ _ _
      | exact ih9 _ _ _
      | exact ih10 _ _
      | exact LeO.none _
      | refine LeO.ite ?_ ?_
      | refine LeO.bind ?_ (fun _ => ?_)
    · intro y0 y1 y2 y3 y4 y5 y6
      unfold labels_zzMatcherParts.j9
      repeat' first
      | (with_reducible exact ih0 _ _)
      | (with_reducible exact ih1 _ _ _)
      | (with_reducible exact ih2 _ _ _ _)
      | (with_reducible exact ih3 _ _ _ _ _)
      | (with_reducible exact ih4 _ _ _ _ _ _ _)
      | (with_reducible exact ih5 _ _ _ _ _ _ _)
      | (with_reducible exact ih6 _ _ _ _ _ _ _)
      | (with_reducible exact ih7 _ _ _ _ _)
      | (with_reducible exact ih8 _ _ _ _)
      | (with_reducible exact ih9 _ _ _)
      | (with_reducible exact ih10 _ _)
      | (with_reducible exact LeO.refl _)
      | (with_reducible exact LeO.none _)
      | (with_reducible refine LeO.ite ?_ ?_)
      | (with_reducible refine LeO.bind ?_ (fun _ => ?_))
      | exact ih0 _ _
      | exact ih1 _ _ _
      | exact ih2 _ _ _ _
      | exact ih3 _ _ _ _ _
      | exact ih4 _ _ _ _ _ _ _
      | exact ih5 _ _ _ _ _ _ _
      | exact ih6 _ _ _ _ _ _ _
      | exact ih7 _ _ _ _ _
      | exact ih8 _ _ _ _
      | exact ih9 _ _ _
      | exact ih10 _ _
      | exact LeO.none _
      | refine LeO.ite ?_ ?_
      | refine LeO.bind ?_ (fun _ => ?_)
    · intro y0 y1 y2 y3 y4 y5 y6
      unfold labels_zzMatcherParts.l4
      repeat' first
      | (with_reducible exact ih0 _ _)
      | (with_reducible exact ih1 _ _ _)
      | (with_reducible exact ih2 _ _ _ _)
      | (with_reducible exact ih3 _ _ _ _ _)
      | (with_reducible exact ih4 _ _ _ _ _ _ _)
      | (with_reducible exact ih5 _ _ _ _ _ _ _)
      | (with_reducible exact ih6 _ _ _ _ _ _ _)
      | (with_reducible exact ih7 _ _ _ _ _)
      | (with_reducible exact ih8 _ _ _ _)
      | (with_reducible exact ih9 _ _ _)
      | (with_reducible exact ih10 _ _)
      | (with_reducible exact LeO.refl _)
      | (with_reducible exact LeO.none _)
      | (with_reducible refine LeO.ite ?_ ?_)
      | (with_reducible refine LeO.bind ?_ (fun _ => ?_))
      | exact ih0 _ _
      | exact ih1 _ _ _
      | exact ih2 _ _ _ _
      | exact ih3 _ _ _ _ _
      | exact ih4 _ _ _ _ _ _ _
      | exact ih5 _ _ _ _ _ _ _
      | exact ih6 _ _ _ _ _ _ _
      | exact ih7 _ _ _ _ _
      | exact ih8 _ _ _ _
      | exact ih9 _ _ _
      | exact ih10 _ _
      | exact LeO.none _
      | refine LeO.ite ?_ ?_
      | refine LeO.bind ?_ (fun _ => ?_)
    · intro y0 y1 y2 y3 y4 y5 y6
      unfold labels_zzMatcherParts.l3
      repeat' first
      | (with_reducible exact ih0 _ _)
      | (with_reducible exact ih1 _ _ _)
      | (with_reducible exact ih2 _ _ _ _)
      | (with_reducible exact ih3 _ _ _ _ _)
      | (with_reducible exact ih4 _ _ _ _ _ _ _)
      | (with_reducible exact ih5 _ _ _ _ _ _ _)
      | (with_reducible exact ih6 _ _ _ _ _ _ _)
      | (with_reducible exact ih7 _ _ _ _ _)
      | (with_reducible exact ih8 _ _ _ _)
      | (with_reducible exact ih9 _ _ _)
      | (with_reducible exact ih10 _ _)
      | (with_reducible exact LeO.refl _)
      | (with_reducible exact LeO.none _)
      | (with_reducible refine LeO.ite ?_ ?_)
      | (with_reducible refine LeO.bind ?_ (fun _ => ?_))
      | exact ih0 _ _
      | exact ih1 _ _ _
      | exact ih2 _ _ _ _
      | exact ih3 _ _ _ _ _
      | exact ih4 _ _ _ _ _ _ _
      | exact ih5 _ _ _ _ _ _ _
      | exact ih6 _ _ _ _ _ _ _
      | exact ih7 _ _ _ _ _
      | exact ih8 _ _ _ _
      | exact ih9 _ _ _
      | exact ih10 _ _
      | exact LeO.none _
      | refine LeO.ite ?_ ?_
      | refine LeO.bind ?_ (fun _ => ?_)
    · intro y0 y1 y2 y3 y4
      unfold labels_zzMatcherParts.j6
      repeat' first
      | (with_reducible exact ih0 _ _)
      | (with_reducible exact ih1 _ _ _)
      | (with_reducible exact ih2 _ _ _ _)
      | (with_reducible exact ih3 _ _ _ _ _)
      | (with_reducible exact ih4 _ _ _ _ _ _ _)
      | (with_reducible exact ih5 _ _ _ _ _ _ _)
      | (with_reducible exact ih6 _ _ _ _ _ _ _)
      | (with_reducible exact ih7 _ _ _ _ _)
      | (with_reducible exact ih8 _ _ _ _)
      | (with_reducible exact ih9 _ _ _)
      | (with_reducible exact ih10 _ _)
      | (with_reducible exact LeO.refl _)
      | (with_reducible exact LeO.none _)
      | (with_reducible refine LeO.ite ?_ ?_)
      | (with_reducible refine LeO.bind ?_ (fun _ => ?_))
      | exact ih0 _ _
      | exact ih1 _ _ _
      | exact ih2 _ _ _ _
      | exact ih3 _ _ _ _ _
      | exact ih4 _ _ _ _ _ _ _
      | exact ih5 _ _ _ _ _ _ _
      | exact ih6 _ _ _ _ _ _ _
      | exact ih7 _ _ _ _ _
      | exact ih8 _ _ _ _
      | exact ih9 _ _ _
      | exact ih10 _ _
      | exact LeO.none _
      | refine LeO.ite ?_ ?_
      | refine LeO.bind ?_ (fun _ => ?_)
    · intro y0 y1 y2 y3
      unfold labels_zzMatcherParts.l2
      repeat' first
      | (with_reducible exact ih0 _ _)
      | (with_reducible exact ih1 _ _ _)
      | (with_reducible exact ih2 _ _ _ _)
      | (with_reducible exact ih3 _ _ _ _ _)
      | (with_reducible exact ih4 _ _ _ _ _ _ _)
      | (with_reducible exact ih5 _ _ _ _ _ _ _)
      | (with_reducible exact ih6 _ _ _ _ _ _ _)
      | (with_reducible exact ih7 _ _ _ _ _)
      | (with_reducible exact ih8 _ _ _ _)
      | (with_reducible exact ih9 _ _ _)
      | (with_reducible exact ih10 _ _)
      | (with_reducible exact LeO.refl _)
      | (with_reducible exact LeO.none _)
      | (with_reducible refine LeO.ite ?_ ?_)
      | (with_reducible refine LeO.bind ?_ (fun _ => ?_))
      | exact ih0 _ _
      | exact ih1 _ _ _
      | exact ih2 _ _ _ _
      | exact ih3 _ _ _ _ _
      | exact ih4 _ _ _ _ _ _ _
      | exact ih5 _ _ _ _ _ _ _
      | exact ih6 _ _ _ _ _ _ _
      | exact ih7 _ _ _ _ _
      | exact ih8 _ _ _ _
      | exact ih9 _ _ _
      | exact ih10 _ _
      | exact LeO.none _
      | refine LeO.ite ?_ ?_
      | refine LeO.bind ?_ (fun _ => ?_)
    · intro y0 y1 y2
      unfold labels_zzMatcherParts.l1
      repeat' first
      | (with_reducible exact ih0 _ _)
      | (with_reducible exact ih1 _ _ _)
      | (with_reducible exact ih2 _ _ _ _)
      | (with_reducible exact ih3 _ _ _ _ _)
      | (with_reducible exact ih4 _ _ _ _ _ _ _)
      | (with_reducible exact ih5 _ _ _ _ _ _ _)
      | (with_reducible exact ih6 _ _ _ _ _ _ _)
      | (with_reducible exact ih7 _ _ _ _ _)
      | (with_reducible exact ih8 _ _ _ _)
      | (with_reducible exact ih9 _ _ _)
      | (with_reducible exact ih10 _ _)
      | (with_reducible exact LeO.refl _)
      | (with_reducible exact LeO.none _)
      | (with_reducible refine LeO.ite ?_ ?_)
      | (with_reducible refine LeO.bind ?_ (fun _ => ?_))
      | exact ih0 _ _
      | exact ih1 _ _ _
      | exact ih2 _ _ _ _
      | exact ih3 _ _ _ _ _
      | exact ih4 _ _ _ _ _ _ _
      | exact ih5 _ _ _ _ _ _ _
      | exact ih6 _ _ _ _ _ _ _
      | exact ih7 _ _ _ _ _
      | exact ih8 _ _ _ _
      | exact ih9 _ _ _
      | exact ih10 _ _
      | exact LeO.none _
      | refine LeO.ite ?_ ?_
      | refine LeO.bind ?_ (fun _ => ?_)
    · intro y0 y1
      unfold labels_zzMatcherParts.l0
      repeat' first
      | (with_reducible exact ih0 _ _)
      | (with_reducible exact ih1 _ _ _)
      | (with_reducible exact ih2 _ _ _ _)
      | (with_reducible exact ih3 _ _ _ _ _)
      | (with_reducible exact ih4 _ _ _ _ _ _ _)
      | (with_reducible exact ih5 _ _ _ _ _ _ _)
      | (with_reducible exact ih6 _ _ _ _ _ _ _)
      | (with_reducible exact ih7 _ _ _ _ _)
      | (with_reducible exact ih8 _ _ _ _)
      | (with_reducible exact ih9 _ _ _)
      | (with_reducible exact ih10 _ _)
      | (with_reducible exact LeO.refl _)
      | (with_reducible exact LeO.none _)
      | (with_reducible refine LeO.ite ?_ ?_)
      | (with_reducible refine LeO.bind ?_ (fun _ => ?_))
      | exact ih0 _ _
      | exact ih1 _ _ _
      | exact ih2 _ _ _ _
      | exact ih3 _ _ _ _ _
      | exact ih4 _ _ _ _ _ _ _
      | exact ih5 _ _ _ _ _ _ _
      | exact ih6 _ _ _ _ _ _ _
      | exact ih7 _ _ _ _ _
      | exact ih8 _ _ _ _
      | exact ih9 _ _ _
      | exact ih10 _ _
      | exact LeO.none _
      | refine LeO.ite ?_ ?_
      | refine LeO.bind ?_ (fun _ => ?_)
theorem labels_zzMatcherParts.mono : ∀ a0 k, LeO (labels_zzMatcherParts.f k a0) (labels_zzMatcherParts.f (k + 1) a0) := by
  intro a0 k
  obtain ⟨ih0, ih1, ih2, ih3, ih4, ih5, ih6, ih7, ih8, ih9, ih10⟩ := labels_zzMatcherParts.mono_l k
  unfold labels_zzMatcherParts.f
  repeat' first
      | (with_reducible exact ih0 _ _)
      | (with_reducible exact ih1 _ _ _)
      | (with_reducible exact ih2 _ _ _ _)
      | (with_reducible exact ih3 _ _ _ _ _)
      | (with_reducible exact ih4 _ _ _ _ _ _ _)
      | (with_reducible exact ih5 _ _ _ _ _ _ _)
      | (with_reducible exact ih6 _ _ _ _ _ _ _)
      | (with_reducible exact ih7 _ _ _ _ _)
      | (with_reducible exact ih8 _ _ _ _)
      | (with_reducible exact ih9 _ _ _)
      | (with_reducible exact ih10 _ _)
      | (with_reducible exact LeO.refl _)
      | (with_reducible exact LeO.none _)
      | (with_reducible refine LeO.ite ?_ ?_)
      | (with_reducible refine LeO.bind ?_ (fun _ => ?_))
      | exact ih0 _ _
      | exact ih1 _ _ _
      | exact ih2 _ _ _ _
      | exact ih3 _ _ _ _ _
      | exact ih4 _ _ _ _ _ _ _
      | exact ih5 _ _ _ _ _ _ _
      | exact ih6 _ _ _ _ _ _ _
      | exact ih7 _ _ _ _ _
      | exact ih8 _ _ _ _
      | exact ih9 _ _ _
      | exact ih10 _ _
      | exact LeO.none _
      | refine LeO.ite ?_ ?_
      | refine LeO.bind ?_ (fun _ => ?_)
def labels_zzMatcherParts.T23 : Bool × List (List Nat × List Nat) := (true, [([], []), ([], []), ([], []), ([], []), ([1, 2, 3], [1, 2, 3]), ([], []), ([], []), ([], []), ([], []), ([7, 8], [7, 8]), ([5, 6, 9], [5, 6, 9]), ([], []), ([], []), ([], []), ([11, 12, 13], [11, 12, 13]), ([0, 4, 10, 14], [0, 4, 10, 14]), ([15, 0, 1, 2, 3, 4, 5, 6, 7, 8, 9, 10, 11, 12, 13, 14, 15], [15])])
def labels_zzMatcherParts.B23 : List Nat := [0, 0, 0, 0, 14, 0, 0, 0, 0, 384, 992, 0, 0, 0, 14336, 32767, 65535]
theorem labels_zzMatcherParts.tab23 : rtab .any (opsOf Tryd.f27 23) = labels_zzMatcherParts.T23 := by kernel_rfl
theorem labels_zzMatcherParts.bits23 : waitsOk labels_zzMatcherParts.T23.2 labels_zzMatcherParts.B23 = true := by kernel_rfl
set_option maxHeartbeats 8000000 in
set_option maxRecDepth 100000 in
theorem labels_zzMatcherParts.calls (k : Nat) (a0 : ByteArray) (r : List ByteArray) (w : World) (h : labels_zzMatcherParts.f k a0 = some r) :
    Calls Tryd.prog 27 #[.string a0] w fun e w' => ∃ v0_ : Value, e = .returned (v0_) ∧ Kd.R Kd.string 9 w' w.heap.size (fun _ => True) v0_ r ∧ Below w.heap.size w w' := by
  have HB := Aside0.mk (Below.refl w.heap.size w)
  have H : (labels_zzMatcherParts.l0 k a0 0) = some r := h
  clear h
  have HC2 := Aside0.mk H
  clear H
  go_enter Tryd.func27, Tryd.ntmps27
  go_upto_block 0 with (fail)
  go_cut [3] (fun v3 wc => ∃ (kq : Nat) (x3_1 : Int), v3 = .int .i64 x3_1 ∧ Aside0 (labels_zzMatcherParts.j1 kq a0 x3_1 = some r) ∧ Aside0 (kq ≤ k) ∧ Aside0 (Below w.heap.size w wc))
  case first =>
    have H := HC2.out
    clear HC2
    have H' := Aside0.mk H
    clear H
    go_wp2
    go_loopg [3] k (fun kq v3 w' => ∃ (x3_1 : Int), v3 = .int .i64 x3_1 ∧ Aside0 (labels_zzMatcherParts.l0 kq a0 x3_1 = some r) ∧ Aside0 (kq ≤ k) ∧ Aside0 (Below w.heap.size w w'))
    case atStart => exact ⟨(0), (by first | rfl | (simp; done) | (simp [*]; done)), H', ⟨Nat.le_refl _⟩, ⟨by repeat (first | (with_reducible first | exact HB.out | apply below_alloc | apply pw_below_drewN | apply below_drew1) | exact HB.out)⟩⟩
    case round =>
      clear H'
      try clear c2
      try clear p2
      obtain ⟨x3_1, rfl, HA, HK1, HB⟩ := hrel
      cases gk with
      | zero => exact absurd HA.out (by simp [labels_zzMatcherParts.l0])
      | succ k1 =>
        have H := HA.out
        clear HA
        simp only [labels_zzMatcherParts.l0] at H
        by_cases c3 : x3_1 < (a0.size : Int)
        · rw [if_pos c3] at H
          have c3b0 : decide (x3_1 < (a0.size : Int)) = true := decide_eq_true c3
          clear c3
          (first | rw [c3b0] | (simp only [i64_w, i32_w]; rw [c3b0]) | skip)
          by_cases c4 : 0 ≤ x3_1
          · rw [if_pos c4] at H
            have c4b0 : decide (0 ≤ x3_1) = true := decide_eq_true c4
            clear c4
            replace H := Option.bind_eq_some_iff.mp H
            obtain ⟨t101, A60, H⟩ := H
            replace H : (if t101 = true then (labels_zzMatcherParts.l0 k1 a0 (wrap64 (x3_1 + 1))) else (labels_zzMatcherParts.j1 k1 a0 x3_1)) = some r := H
            have A6 := Aside0.mk A60
            clear A60
            by_cases c7 : t101 = true
            · subst c7
              have H1 : (labels_zzMatcherParts.l0 k1 a0 (wrap64 (x3_1 + 1))) = some r := by rw [if_pos rfl] at H; exact H
              clear H
              have H := H1
              clear H1
              have H' := Aside0.mk H
              clear H
              have p5 : 0 ≤ (x3_1 : Int) := of_decide_eq_true (by first | (with_reducible assumption) | assumption)
              have q5 : x3_1 < (a0.size : Int) := of_decide_eq_true (by first | (with_reducible assumption) | assumption)
              have hx5 := bt_at a0 x3_1
              replace p5 := eq_true p5
              replace q5 := eq_true q5
              go_wp2_with (first | (go_at_call 48; (with_reducible refine (labels_zzBlank.calls (bt a0 x3_1) true _ A6.out).mono ?_); rintro e w' ⟨rfl, ⟨nd, rfl⟩⟩))
              go_roundg k1
              case measure => have := HK1.out; omega
              case rel => exact ⟨(wrap64 (x3_1 + 1)), (by first | rfl | (simp; done) | (simp [*]; done)), H', ⟨by have := HK1.out; omega⟩, ⟨by repeat (first | (with_reducible first | exact HB.out | apply below_alloc | apply pw_below_drewN | apply below_drew1) | exact HB.out)⟩⟩
            · replace c7 := Bool.eq_false_iff.mpr c7
              subst c7
              have H1 : (labels_zzMatcherParts.j1 k1 a0 x3_1) = some r := by rw [if_neg (show ¬ (false = true) by decide)] at H; exact H
              clear H
              have H := H1
              clear H1
              have H' := Aside0.mk H
              clear H
              have p5 : 0 ≤ (x3_1 : Int) := of_decide_eq_true (by first | (with_reducible assumption) | assumption)
              have q5 : x3_1 < (a0.size : Int) := of_decide_eq_true (by first | (with_reducible assumption) | assumption)
              have hx5 := bt_at a0 x3_1
              replace p5 := eq_true p5
              replace q5 := eq_true q5
              go_wp2_with (first | (go_at_call 48; (with_reducible refine (labels_zzBlank.calls (bt a0 x3_1) false _ A6.out).mono ?_); rintro e w' ⟨rfl, ⟨nd, rfl⟩⟩))
              go_meet
              case rel => exact ⟨_, (x3_1), (by first | rfl | (simp; done) | (simp [*]; done)), H', ⟨by have := HK1.out; first | omega | exact Nat.le_refl _⟩, ⟨by repeat (first | (with_reducible first | exact HB.out | apply below_alloc | apply pw_below_drewN | apply below_drew1) | exact HB.out)⟩⟩
          · rw [if_neg c4] at H
            exact absurd H (by simp)
        · rw [if_neg c3] at H
          have c3b0 : decide (x3_1 < (a0.size : Int)) = false := decide_eq_false c3
          clear c3
          (first | rw [c3b0] | (simp only [i64_w, i32_w]; rw [c3b0]) | skip)
          have H' := Aside0.mk H
          clear H
          go_wp2
          go_meet
          case rel => exact ⟨_, (x3_1), (by first | rfl | (simp; done) | (simp [*]; done)), H', ⟨by have := HK1.out; first | omega | exact Nat.le_refl _⟩, ⟨by repeat (first | (with_reducible first | exact HB.out | apply below_alloc | apply pw_below_drewN | apply below_drew1) | exact HB.out)⟩⟩
  case rest =>
    clear HC2
    try clear c2
    try clear p2
    try clear c3
    try clear c3b0
    try clear c4
    try clear c4b0
    try clear p5
    try clear q5
    try clear hx5
    try clear p6
    try clear c7
    try clear p2
    try clear p5
    try clear q5
    obtain ⟨kq, x3_1, rfl, HA, HJ1, HB⟩ := hcut
    cases kq with
    | zero => exact absurd HA.out (by simp [labels_zzMatcherParts.j1])
    | succ kj1 =>
      have H := HA.out
      clear HA
      simp only [labels_zzMatcherParts.j1] at H
      have HC8 := Aside0.mk H
      clear H
      go_upto_block 2 with (fail)
      go_cut [4] (fun v4 wc => ∃ (kq : Nat) (x4_7 : Int), v4 = .int .i64 x4_7 ∧ Aside0 (labels_zzMatcherParts.j3 kq a0 x3_1 x4_7 = some r) ∧ Aside0 (kq ≤ kj1) ∧ Aside0 (Below w.heap.size w wc))
      case first =>
        have H := HC8.out
        clear HC8
        have H' := Aside0.mk H
        clear H
        go_wp2
        go_loopg [4] kj1 (fun kq v4 w' => ∃ (x4_2 : Int), v4 = .int .i64 x4_2 ∧ Aside0 (labels_zzMatcherParts.l1 kq a0 x3_1 x4_2 = some r) ∧ Aside0 (kq ≤ kj1) ∧ Aside0 (Below w.heap.size w w'))
        case atStart => exact ⟨(x3_1), (by first | rfl | (simp; done) | (simp [*]; done)), H', ⟨Nat.le_refl _⟩, ⟨by repeat (first | (with_reducible first | exact HB.out | apply below_alloc | apply pw_below_drewN | apply below_drew1) | exact HB.out)⟩⟩
        case round =>
          clear H'
          try clear c2
          try clear p2
          try clear c3
          try clear c3b0
          try clear c4
          try clear c4b0
          try clear p5
          try clear q5
          try clear hx5
          try clear p6
          try clear c7
          try clear p2
          try clear p5
          try clear p6
          try clear q5
          obtain ⟨x4_2, rfl, HA, HK2, HB⟩ := hrel
          cases gk with
          | zero => exact absurd HA.out (by simp [labels_zzMatcherParts.l1])
          | succ k2 =>
            have H := HA.out
            clear HA
            simp only [labels_zzMatcherParts.l1] at H
            by_cases c9 : x4_2 < (a0.size : Int)
            · rw [if_pos c9] at H
              have c9b0 : decide (x4_2 < (a0.size : Int)) = true := decide_eq_true c9
              clear c9
              (first | rw [c9b0] | (simp only [i64_w, i32_w]; rw [c9b0]) | skip)
              by_cases c10 : 0 ≤ x4_2
              · rw [if_pos c10] at H
                have c10b0 : decide (0 ≤ x4_2) = true := decide_eq_true c10
                clear c10
                replace H := Option.bind_eq_some_iff.mp H
                obtain ⟨t102, A120, H⟩ := H
                replace H : (if t102 = true then (labels_zzMatcherParts.l1 k2 a0 x3_1 (wrap64 (x4_2 + 1))) else (labels_zzMatcherParts.j3 k2 a0 x3_1 x4_2)) = some r := H
                have A12 := Aside0.mk A120
                clear A120
                by_cases c13 : t102 = true
                · subst c13
                  have H1 : (labels_zzMatcherParts.l1 k2 a0 x3_1 (wrap64 (x4_2 + 1))) = some r := by rw [if_pos rfl] at H; exact H
                  clear H
                  have H := H1
                  clear H1
                  have H' := Aside0.mk H
                  clear H
                  have p11 : 0 ≤ (x4_2 : Int) := of_decide_eq_true (by first | (with_reducible assumption) | assumption)
                  have q11 : x4_2 < (a0.size : Int) := of_decide_eq_true (by first | (with_reducible assumption) | assumption)
                  have hx11 := bt_at a0 x4_2
                  replace p11 := eq_true p11
                  replace q11 := eq_true q11
                  go_wp2_with (first | (go_at_call 49; (with_reducible refine (labels_zzNameByte.calls (bt a0 x4_2) (x4_2 == x3_1) true _ A12.out).mono ?_); rintro e w' ⟨rfl, ⟨nd, rfl⟩⟩))
                  go_roundg k2
                  case measure => have := HJ1.out; have := HK2.out; omega
                  case rel => exact ⟨(wrap64 (x4_2 + 1)), (by first | rfl | (simp; done) | (simp [*]; done)), H', ⟨by have := HJ1.out; have := HK2.out; omega⟩, ⟨by repeat (first | (with_reducible first | exact HB.out | apply below_alloc | apply pw_below_drewN | apply below_drew1) | exact HB.out)⟩⟩
                · replace c13 := Bool.eq_false_iff.mpr c13
                  subst c13
                  have H1 : (labels_zzMatcherParts.j3 k2 a0 x3_1 x4_2) = some r := by rw [if_neg (show ¬ (false = true) by decide)] at H; exact H
                  clear H
                  have H := H1
                  clear H1
                  have H' := Aside0.mk H
                  clear H
                  have p11 : 0 ≤ (x4_2 : Int) := of_decide_eq_true (by first | (with_reducible assumption) | assumption)
                  have q11 : x4_2 < (a0.size : Int) := of_decide_eq_true (by first | (with_reducible assumption) | assumption)
                  have hx11 := bt_at a0 x4_2
                  replace p11 := eq_true p11
                  replace q11 := eq_true q11
                  go_wp2_with (first | (go_at_call 49; (with_reducible refine (labels_zzNameByte.calls (bt a0 x4_2) (x4_2 == x3_1) false _ A12.out).mono ?_); rintro e w' ⟨rfl, ⟨nd, rfl⟩⟩))
                  go_meet
                  case rel => exact ⟨_, (x4_2), (by first | rfl | (simp; done) | (simp [*]; done)), H', ⟨by have := HJ1.out; have := HK2.out; first | omega | exact Nat.le_refl _⟩, ⟨by repeat (first | (with_reducible first | exact HB.out | apply below_alloc | apply pw_below_drewN | apply below_drew1) | exact HB.out)⟩⟩
              · rw [if_neg c10] at H
                exact absurd H (by simp)
            · rw [if_neg c9] at H
              have c9b0 : decide (x4_2 < (a0.size : Int)) = false := decide_eq_false c9
              clear c9
              (first | rw [c9b0] | (simp only [i64_w, i32_w]; rw [c9b0]) | skip)
              have H' := Aside0.mk H
              clear H
              go_wp2
              go_meet
              case rel => exact ⟨_, (x4_2), (by first | rfl | (simp; done) | (simp [*]; done)), H', ⟨by have := HJ1.out; have := HK2.out; first | omega | exact Nat.le_refl _⟩, ⟨by repeat (first | (with_reducible first | exact HB.out | apply below_alloc | apply pw_below_drewN | apply below_drew1) | exact HB.out)⟩⟩
      case rest =>
        clear HC8
        try clear c1
        try clear p1
        try clear q1
        try clear hx1
        try clear c2
        try clear p2
        try clear c3
        try clear c3b0
        try clear c4
        try clear c4b0
        try clear p5
        try clear q5
        try clear hx5
        try clear p6
        try clear c7
        try clear c9
        try clear c9b0
        try clear c10
        try clear c10b0
        try clear p11
        try clear q11
        try clear hx11
        try clear c13
        try clear p11
        try clear p2
        try clear p5
        try clear p6
        try clear q11
        try clear q5
        obtain ⟨kq, x4_7, rfl, HA, HJ7, HB⟩ := hcut
        cases kq with
        | zero => exact absurd HA.out (by simp [labels_zzMatcherParts.j3])
        | succ kj7 =>
          have H := HA.out
          clear HA
          simp only [labels_zzMatcherParts.j3] at H
          have HC14 := Aside0.mk H
          clear H
          go_upto_block 4 with (fail)
          go_cut [5] (fun v5 wc => ∃ (kq : Nat) (x5_13 : Int), v5 = .int .i64 x5_13 ∧ Aside0 (labels_zzMatcherParts.j5 kq a0 x3_1 x4_7 x5_13 = some r) ∧ Aside0 (kq ≤ kj7) ∧ Aside0 (Below w.heap.size w wc))
          case first =>
            have H := HC14.out
            clear HC14
            have H' := Aside0.mk H
            clear H
            go_wp2
            go_loopg [5] kj7 (fun kq v5 w' => ∃ (x5_3 : Int), v5 = .int .i64 x5_3 ∧ Aside0 (labels_zzMatcherParts.l2 kq a0 x3_1 x4_7 x5_3 = some r) ∧ Aside0 (kq ≤ kj7) ∧ Aside0 (Below w.heap.size w w'))
            case atStart => exact ⟨(x4_7), (by first | rfl | (simp; done) | (simp [*]; done)), H', ⟨Nat.le_refl _⟩, ⟨by repeat (first | (with_reducible first | exact HB.out | apply below_alloc | apply pw_below_drewN | apply below_drew1) | exact HB.out)⟩⟩
            case round =>
              clear H'
              try clear c1
              try clear p1
              try clear q1
              try clear hx1
              try clear c2
              try clear p2
              try clear c3
              try clear c3b0
              try clear c4
              try clear c4b0
              try clear p5
              try clear q5
              try clear hx5
              try clear p6
              try clear c7
              try clear c9
              try clear c9b0
              try clear c10
              try clear c10b0
              try clear p11
              try clear q11
              try clear hx11
              try clear c13
              try clear p1
              try clear p11
              try clear p2
              try clear p5
              try clear p6
              try clear q1
              try clear q11
              try clear q5
              obtain ⟨x5_3, rfl, HA, HK3, HB⟩ := hrel
              cases gk with
              | zero => exact absurd HA.out (by simp [labels_zzMatcherParts.l2])
              | succ k3 =>
                have H := HA.out
                clear HA
                simp only [labels_zzMatcherParts.l2] at H
                by_cases c15 : x5_3 < (a0.size : Int)
                · rw [if_pos c15] at H
                  have c15b0 : decide (x5_3 < (a0.size : Int)) = true := decide_eq_true c15
                  clear c15
                  (first | rw [c15b0] | (simp only [i64_w, i32_w]; rw [c15b0]) | skip)
                  by_cases c16 : 0 ≤ x5_3
                  · rw [if_pos c16] at H
                    have c16b0 : decide (0 ≤ x5_3) = true := decide_eq_true c16
                    clear c16
                    replace H := Option.bind_eq_some_iff.mp H
                    obtain ⟨t103, A180, H⟩ := H
                    replace H : (if t103 = true then (labels_zzMatcherParts.l2 k3 a0 x3_1 x4_7 (wrap64 (x5_3 + 1))) else (labels_zzMatcherParts.j5 k3 a0 x3_1 x4_7 x5_3)) = some r := H
                    have A18 := Aside0.mk A180
                    clear A180
                    by_cases c19 : t103 = true
                    · subst c19
                      have H1 : (labels_zzMatcherParts.l2 k3 a0 x3_1 x4_7 (wrap64 (x5_3 + 1))) = some r := by rw [if_pos rfl] at H; exact H
                      clear H
                      have H := H1
                      clear H1
                      have H' := Aside0.mk H
                      clear H
                      have p17 : 0 ≤ (x5_3 : Int) := of_decide_eq_true (by first | (with_reducible assumption) | assumption)
                      have q17 : x5_3 < (a0.size : Int) := of_decide_eq_true (by first | (with_reducible assumption) | assumption)
                      have hx17 := bt_at a0 x5_3
                      replace p17 := eq_true p17
                      replace q17 := eq_true q17
                      go_wp2_with (first | (go_at_call 48; (with_reducible refine (labels_zzBlank.calls (bt a0 x5_3) true _ A18.out).mono ?_); rintro e w' ⟨rfl, ⟨nd, rfl⟩⟩))
                      go_roundg k3
                      case measure => have := HJ1.out; have := HJ7.out; have := HK3.out; omega
                      case rel => exact ⟨(wrap64 (x5_3 + 1)), (by first | rfl | (simp; done) | (simp [*]; done)), H', ⟨by have := HJ1.out; have := HJ7.out; have := HK3.out; omega⟩, ⟨by repeat (first | (with_reducible first | exact HB.out | apply below_alloc | apply pw_below_drewN | apply below_drew1) | exact HB.out)⟩⟩
                    · replace c19 := Bool.eq_false_iff.mpr c19
                      subst c19
                      have H1 : (labels_zzMatcherParts.j5 k3 a0 x3_1 x4_7 x5_3) = some r := by rw [if_neg (show ¬ (false = true) by decide)] at H; exact H
                      clear H
                      have H := H1
                      clear H1
                      have H' := Aside0.mk H
                      clear H
                      have p17 : 0 ≤ (x5_3 : Int) := of_decide_eq_true (by first | (with_reducible assumption) | assumption)
                      have q17 : x5_3 < (a0.size : Int) := of_decide_eq_true (by first | (with_reducible assumption) | assumption)
                      have hx17 := bt_at a0 x5_3
                      replace p17 := eq_true p17
                      replace q17 := eq_true q17
                      go_wp2_with (first | (go_at_call 48; (with_reducible refine (labels_zzBlank.calls (bt a0 x5_3) false _ A18.out).mono ?_); rintro e w' ⟨rfl, ⟨nd, rfl⟩⟩))
                      go_meet
                      case rel => exact ⟨_, (x5_3), (by first | rfl | (simp; done) | (simp [*]; done)), H', ⟨by have := HJ1.out; have := HJ7.out; have := HK3.out; first | omega | exact Nat.le_refl _⟩, ⟨by repeat (first | (with_reducible first | exact HB.out | apply below_alloc | apply pw_below_drewN | apply below_drew1) | exact HB.out)⟩⟩
                  · rw [if_neg c16] at H
                    exact absurd H (by simp)
                · rw [if_neg c15] at H
                  have c15b0 : decide (x5_3 < (a0.size : Int)) = false := decide_eq_false c15
                  clear c15
                  (first | rw [c15b0] | (simp only [i64_w, i32_w]; rw [c15b0]) | skip)
                  have H' := Aside0.mk H
                  clear H
                  go_wp2
                  go_meet
                  case rel => exact ⟨_, (x5_3), (by first | rfl | (simp; done) | (simp [*]; done)), H', ⟨by have := HJ1.out; have := HJ7.out; have := HK3.out; first | omega | exact Nat.le_refl _⟩, ⟨by repeat (first | (with_reducible first | exact HB.out | apply below_alloc | apply pw_below_drewN | apply below_drew1) | exact HB.out)⟩⟩
          case rest =>
            clear HC14
            try clear c1
            try clear p1
            try clear q1
            try clear hx1
            try clear c2
            try clear p2
            try clear c3
            try clear c3b0
            try clear c4
            try clear c4b0
            try clear p5
            try clear q5
            try clear hx5
            try clear p6
            try clear c7
            try clear c9
            try clear c9b0
            try clear c10
            try clear c10b0
            try clear p11
            try clear q11
            try clear hx11
            try clear c13
            try clear c15
            try clear c15b0
            try clear c16
            try clear c16b0
            try clear p17
            try clear q17
            try clear hx17
            try clear c19
            try clear p1
            try clear p11
            try clear p17
            try clear p2
            try clear p5
            try clear p6
            try clear q1
            try clear q11
            try clear q17
            try clear q5
            obtain ⟨kq, x5_13, rfl, HA, HJ13, HB⟩ := hcut
            cases kq with
            | zero => exact absurd HA.out (by simp [labels_zzMatcherParts.j5])
            | succ kj13 =>
              have H := HA.out
              clear HA
              simp only [labels_zzMatcherParts.j5] at H
              have HC20 := Aside0.mk H
              clear H
              go_upto_block 6 with (fail)
              go_cut [6] (fun v6 wc => ∃ (kq : Nat) (x6_19 : Int), v6 = .int .i64 x6_19 ∧ Aside0 (labels_zzMatcherParts.j7 kq a0 x3_1 x4_7 x5_13 x6_19 = some r) ∧ Aside0 (kq ≤ kj13) ∧ Aside0 (Below w.heap.size w wc))
              case first =>
                have H := HC20.out
                clear HC20
                by_cases c21 : x4_7 = x3_1
                · rw [if_pos c21] at H
                  have c21b0 : (x4_7 == x3_1) = true := beq_iff_eq.mpr c21
                  have c21b1 : (x4_7 != x3_1) = false := bne_eq_false_iff_eq.mpr c21
                  clear c21
                  (first | rw [c21b0] | (simp only [i64_w, i32_w]; rw [c21b0]) | skip)
                  obtain rfl := Option.some.inj H
                  go_wp2
                  go_ret
                  exact ⟨_, by first | rfl | (simp [errW_none, errW_some] <;> rfl) | (simp [*, errW_none, errW_some] <;> rfl), by first | exact Kd.R_nil _ _ _ _ _ | exact Kd.N_nil _ _ _ _ _ | exact Kd.V_nil _ _ _ _ _ | exact Kd.Q_nil _ _ _ _ _ | exact Kd.S_nil _ _ _ _ _, by repeat (first | (with_reducible first | exact HB.out | apply below_alloc | apply pw_below_drewN | apply below_drew1) | exact HB.out)⟩
                · rw [if_neg c21] at H
                  have c21b0 : (x4_7 == x3_1) = false := beq_eq_false_iff_ne.mpr c21
                  have c21b1 : (x4_7 != x3_1) = true := bne_iff_ne.mpr c21
                  (first | rw [c21b0] | (simp only [i64_w, i32_w]; rw [c21b0]) | skip)
                  have HC22 := Aside0.mk H
                  clear H
                  go_upto_region 14 with (fail)
                  go_cut [54] (fun v54 wc => ∃ (kq : Nat) (x54_21 : Bool), v54 = .bool x54_21 ∧ Aside0 (labels_zzMatcherParts.j6 kq a0 x3_1 x4_7 x5_13 x54_21 = some r) ∧ Aside0 (kq ≤ kj13) ∧ Aside0 (Below w.heap.size w wc))
                  case first =>
                    have H := HC22.out
                    clear HC22
                    by_cases c23 : (wrap64 (x5_13 + 1)) < (a0.size : Int)
                    · rw [if_pos c23] at H
                      have c23b0 : decide ((wrap64 (x5_13 + 1)) < (a0.size : Int)) = true := decide_eq_true c23
                      clear c23
                      (first | rw [c23b0] | (simp only [i64_w, i32_w]; rw [c23b0]) | skip)
                      by_cases c24 : 0 ≤ x5_13
                      · rw [if_pos c24] at H
                        have c24b0 := eq_true c24
                        have c24b1 : decide (0 ≤ x5_13) = true := decide_eq_true c24
                        clear c24
                        by_cases c25 : x5_13 ≤ (wrap64 (x5_13 + 2))
                        · rw [if_pos c25] at H
                          have c25b0 := eq_true c25
                          have c25b1 : decide (x5_13 ≤ (wrap64 (x5_13 + 2))) = true := decide_eq_true c25
                          by_cases c26 : (wrap64 (x5_13 + 2)) ≤ (a0.size : Int)
                          · rw [if_pos c26] at H
                            have c26b0 := eq_true c26
                            have c26b1 : decide ((wrap64 (x5_13 + 2)) ≤ (a0.size : Int)) = true := decide_eq_true c26
                            by_cases c27 : (a0.extract (x5_13 : Int).toNat ((wrap64 (x5_13 + 2)) : Int).toNat).toList = ([61, 126] : List UInt8)
                            · rw [if_pos c27] at H
                              have c27b0 : ((a0.extract (x5_13 : Int).toNat ((wrap64 (x5_13 + 2)) : Int).toNat).toList == ([61, 126] : List UInt8)) = true := beq_iff_eq.mpr c27
                              have c27b1 : ((a0.extract (x5_13 : Int).toNat ((wrap64 (x5_13 + 2)) : Int).toNat).toList != ([61, 126] : List UInt8)) = false := bne_eq_false_iff_eq.mpr c27
                              clear c27
                              have H' := Aside0.mk H
                              clear H
                              go_wp2
                              go_meet
                              case rel => exact ⟨_, (true), (by first | rfl | (simp; done) | (simp [*]; done)), H', ⟨by have := HJ1.out; have := HJ7.out; have := HJ13.out; first | omega | exact Nat.le_refl _⟩, ⟨by repeat (first | (with_reducible first | exact HB.out | apply below_alloc | apply pw_below_drewN | apply below_drew1) | exact HB.out)⟩⟩
                            · rw [if_neg c27] at H
                              have c27b0 : ((a0.extract (x5_13 : Int).toNat ((wrap64 (x5_13 + 2)) : Int).toNat).toList == ([61, 126] : List UInt8)) = false := beq_eq_false_iff_ne.mpr c27
                              have c27b1 : ((a0.extract (x5_13 : Int).toNat ((wrap64 (x5_13 + 2)) : Int).toNat).toList != ([61, 126] : List UInt8)) = true := bne_iff_ne.mpr c27
                              have c28b0 := eq_true (of_decide_eq_true (by first | (with_reducible assumption) | assumption) : 0 ≤ x5_13)
                              have c29b0 := eq_true (of_decide_eq_true (by first | (with_reducible assumption) | assumption) : x5_13 ≤ (wrap64 (x5_13 + 2)))
                              have c30b0 := eq_true (of_decide_eq_true (by first | (with_reducible assumption) | assumption) : (wrap64 (x5_13 + 2)) ≤ (a0.size : Int))
                              by_cases c31 : (a0.extract (x5_13 : Int).toNat ((wrap64 (x5_13 + 2)) : Int).toNat).toList = ([33, 61] : List UInt8)
                              · rw [if_pos c31] at H
                                have c31b0 : ((a0.extract (x5_13 : Int).toNat ((wrap64 (x5_13 + 2)) : Int).toNat).toList == ([33, 61] : List UInt8)) = true := beq_iff_eq.mpr c31
                                have c31b1 : ((a0.extract (x5_13 : Int).toNat ((wrap64 (x5_13 + 2)) : Int).toNat).toList != ([33, 61] : List UInt8)) = false := bne_eq_false_iff_eq.mpr c31
                                clear c31
                                have H' := Aside0.mk H
                                clear H
                                go_wp2
                                go_meet
                                case rel => exact ⟨_, (true), (by first | rfl | (simp; done) | (simp [*]; done)), H', ⟨by have := HJ1.out; have := HJ7.out; have := HJ13.out; first | omega | exact Nat.le_refl _⟩, ⟨by repeat (first | (with_reducible first | exact HB.out | apply below_alloc | apply pw_below_drewN | apply below_drew1) | exact HB.out)⟩⟩
                              · rw [if_neg c31] at H
                                have c31b0 : ((a0.extract (x5_13 : Int).toNat ((wrap64 (x5_13 + 2)) : Int).toNat).toList == ([33, 61] : List UInt8)) = false := beq_eq_false_iff_ne.mpr c31
                                have c31b1 : ((a0.extract (x5_13 : Int).toNat ((wrap64 (x5_13 + 2)) : Int).toNat).toList != ([33, 61] : List UInt8)) = true := bne_iff_ne.mpr c31
                                have c32b0 := eq_true (of_decide_eq_true (by first | (with_reducible assumption) | assumption) : 0 ≤ x5_13)
                                have c33b0 := eq_true (of_decide_eq_true (by first | (with_reducible assumption) | assumption) : x5_13 ≤ (wrap64 (x5_13 + 2)))
                                have c34b0 := eq_true (of_decide_eq_true (by first | (with_reducible assumption) | assumption) : (wrap64 (x5_13 + 2)) ≤ (a0.size : Int))
                                have H' := Aside0.mk H
                                clear H
                                go_wp2
                                go_meet
                                case rel => exact ⟨_, (((a0.extract (x5_13 : Int).toNat ((wrap64 (x5_13 + 2)) : Int).toNat).toList == ([33, 126] : List UInt8))), (by first | rfl | (simp; done) | (simp [*]; done)), H', ⟨by have := HJ1.out; have := HJ7.out; have := HJ13.out; first | omega | exact Nat.le_refl _⟩, ⟨by repeat (first | (with_reducible first | exact HB.out | apply below_alloc | apply pw_below_drewN | apply below_drew1) | exact HB.out)⟩⟩
                          · rw [if_neg c26] at H
                            exact absurd H (by simp)
                        · rw [if_neg c25] at H
                          exact absurd H (by simp)
                      · rw [if_neg c24] at H
                        exact absurd H (by simp)
                    · rw [if_neg c23] at H
                      have c23b0 : decide ((wrap64 (x5_13 + 1)) < (a0.size : Int)) = false := decide_eq_false c23
                      clear c23
                      (first | rw [c23b0] | (simp only [i64_w, i32_w]; rw [c23b0]) | skip)
                      have H' := Aside0.mk H
                      clear H
                      go_wp2
                      go_meet
                      case rel => exact ⟨_, (false), (by first | rfl | (simp; done) | (simp [*]; done)), H', ⟨by have := HJ1.out; have := HJ7.out; have := HJ13.out; first | omega | exact Nat.le_refl _⟩, ⟨by repeat (first | (with_reducible first | exact HB.out | apply below_alloc | apply pw_below_drewN | apply below_drew1) | exact HB.out)⟩⟩
                  case rest =>
                    clear HC22
                    try clear c1
                    try clear p1
                    try clear q1
                    try clear hx1
                    try clear c2
                    try clear p2
                    try clear c3
                    try clear c3b0
                    try clear c4
                    try clear c4b0
                    try clear p5
                    try clear q5
                    try clear hx5
                    try clear p6
                    try clear c7
                    try clear c9
                    try clear c9b0
                    try clear c10
                    try clear c10b0
                    try clear p11
                    try clear q11
                    try clear hx11
                    try clear c13
                    try clear c15
                    try clear c15b0
                    try clear c16
                    try clear c16b0
                    try clear p17
                    try clear q17
                    try clear hx17
                    try clear c19
                    try clear c21
                    try clear c21b0
                    try clear c21b1
                    try clear c23
                    try clear c23b0
                    try clear c24
                    try clear c24b0
                    try clear c24b1
                    try clear c25
                    try clear c25b0
                    try clear c25b1
                    try clear c26
                    try clear c26b0
                    try clear c26b1
                    try clear c27
                    try clear c27b0
                    try clear c27b1
                    try clear c28
                    try clear c28b0
                    try clear c29
                    try clear c29b0
                    try clear c30
                    try clear c30b0
                    try clear c31
                    try clear c31b0
                    try clear c31b1
                    try clear c32
                    try clear c32b0
                    try clear c33
                    try clear c33b0
                    try clear c34
                    try clear c34b0
                    try clear p1
                    try clear p11
                    try clear p17
                    try clear p2
                    try clear p5
                    try clear p6
                    try clear q1
                    try clear q11
                    try clear q17
                    try clear q5
                    obtain ⟨kq, x54_21, rfl, HA, HJ21, HB⟩ := hcut
                    cases kq with
                    | zero => exact absurd HA.out (by simp [labels_zzMatcherParts.j6])
                    | succ kj21 =>
                      have H := HA.out
                      clear HA
                      simp only [labels_zzMatcherParts.j6] at H
                      by_cases c35 : x54_21 = true
                      · subst c35
                        have H1 : (labels_zzMatcherParts.j7 kj21 a0 x3_1 x4_7 x5_13 2) = some r := by rw [if_pos rfl] at H; exact H
                        clear H
                        have H := H1
                        clear H1
                        have H' := Aside0.mk H
                        clear H
                        go_wp2
                        go_meet
                        case rel => exact ⟨_, (2), (by first | rfl | (simp; done) | (simp [*]; done)), H', ⟨by have := HJ1.out; have := HJ7.out; have := HJ13.out; have := HJ21.out; first | omega | exact Nat.le_refl _⟩, ⟨by repeat (first | (with_reducible first | exact HB.out | apply below_alloc | apply pw_below_drewN | apply below_drew1) | exact HB.out)⟩⟩
                      · replace c35 := Bool.eq_false_iff.mpr c35
                        subst c35
                        have H1 : (if x5_13 < (a0.size : Int) then (if 0 ≤ x5_13 then (if (bt a0 x5_13) = 61 then (labels_zzMatcherParts.j7 kj21 a0 x3_1 x4_7 x5_13 1) else (some ([] : List ByteArray))) else (none)) else (some ([] : List ByteArray))) = some r := by rw [if_neg (show ¬ (false = true) by decide)] at H; exact H
                        clear H
                        have H := H1
                        clear H1
                        by_cases c36 : x5_13 < (a0.size : Int)
                        · rw [if_pos c36] at H
                          have c36b0 : decide (x5_13 < (a0.size : Int)) = true := decide_eq_true c36
                          clear c36
                          by_cases c37 : 0 ≤ x5_13
                          · rw [if_pos c37] at H
                            have c37b0 : decide (0 ≤ x5_13) = true := decide_eq_true c37
                            clear c37
                            by_cases c39 : (bt a0 x5_13) = 61
                            · rw [if_pos c39] at H
                              have c39b0 : ((bt a0 x5_13) == 61) = true := beq_iff_eq.mpr c39
                              have c39b1 : ((bt a0 x5_13) != 61) = false := bne_eq_false_iff_eq.mpr c39
                              clear c39
                              have H' := Aside0.mk H
                              clear H
                              have p38 : 0 ≤ (x5_13 : Int) := of_decide_eq_true (by first | (with_reducible assumption) | assumption)
                              have q38 : x5_13 < (a0.size : Int) := of_decide_eq_true (by first | (with_reducible assumption) | assumption)
                              have hx38 := bt_at a0 x5_13
                              replace p38 := eq_true p38
                              replace q38 := eq_true q38
                              go_wp2
                              go_meet
                              case rel => exact ⟨_, (1), (by first | rfl | (simp; done) | (simp [*]; done)), H', ⟨by have := HJ1.out; have := HJ7.out; have := HJ13.out; have := HJ21.out; first | omega | exact Nat.le_refl _⟩, ⟨by repeat (first | (with_reducible first | exact HB.out | apply below_alloc | apply pw_below_drewN | apply below_drew1) | exact HB.out)⟩⟩
                            · rw [if_neg c39] at H
                              have c39b0 : ((bt a0 x5_13) == 61) = false := beq_eq_false_iff_ne.mpr c39
                              have c39b1 : ((bt a0 x5_13) != 61) = true := bne_iff_ne.mpr c39
                              obtain rfl := Option.some.inj H
                              have p38 : 0 ≤ (x5_13 : Int) := of_decide_eq_true (by first | (with_reducible assumption) | assumption)
                              have q38 : x5_13 < (a0.size : Int) := of_decide_eq_true (by first | (with_reducible assumption) | assumption)
                              have hx38 := bt_at a0 x5_13
                              replace p38 := eq_true p38
                              replace q38 := eq_true q38
                              go_wp2
                              go_ret
                              exact ⟨_, by first | rfl | (simp [errW_none, errW_some] <;> rfl) | (simp [*, errW_none, errW_some] <;> rfl), by first | exact Kd.R_nil _ _ _ _ _ | exact Kd.N_nil _ _ _ _ _ | exact Kd.V_nil _ _ _ _ _ | exact Kd.Q_nil _ _ _ _ _ | exact Kd.S_nil _ _ _ _ _, by repeat (first | (with_reducible first | exact HB.out | apply below_alloc | apply pw_below_drewN | apply below_drew1) | exact HB.out)⟩
                          · rw [if_neg c37] at H
                            exact absurd H (by simp)
                        · rw [if_neg c36] at H
                          have c36b0 : decide (x5_13 < (a0.size : Int)) = false := decide_eq_false c36
                          clear c36
                          obtain rfl := Option.some.inj H
                          go_wp2
                          go_ret
                          exact ⟨_, by first | rfl | (simp [errW_none, errW_some] <;> rfl) | (simp [*, errW_none, errW_some] <;> rfl), by first | exact Kd.R_nil _ _ _ _ _ | exact Kd.N_nil _ _ _ _ _ | exact Kd.V_nil _ _ _ _ _ | exact Kd.Q_nil _ _ _ _ _ | exact Kd.S_nil _ _ _ _ _, by repeat (first | (with_reducible first | exact HB.out | apply below_alloc | apply pw_below_drewN | apply below_drew1) | exact HB.out)⟩
              case rest =>
                clear HC20
                try clear c1
                try clear p1
                try clear q1
                try clear hx1
                try clear c2
                try clear p2
                try clear c3
                try clear c3b0
                try clear p3
                try clear q3
                try clear hx3
                try clear c4
                try clear c4b0
                try clear p5
                try clear q5
                try clear hx5
                try clear p6
                try clear c7
                try clear c9
                try clear c9b0
                try clear c10
                try clear c10b0
                try clear p11
                try clear q11
                try clear hx11
                try clear c13
                try clear c15
                try clear c15b0
                try clear c16
                try clear c16b0
                try clear p17
                try clear q17
                try clear hx17
                try clear c19
                try clear c21
                try clear c21b0
                try clear c21b1
                try clear c23
                try clear c23b0
                try clear c24
                try clear c24b0
                try clear c24b1
                try clear c25
                try clear c25b0
                try clear c25b1
                try clear c26
                try clear c26b0
                try clear c26b1
                try clear c27
                try clear c27b0
                try clear c27b1
                try clear c28
                try clear c28b0
                try clear c29
                try clear c29b0
                try clear c30
                try clear c30b0
                try clear c31
                try clear c31b0
                try clear c31b1
                try clear c32
                try clear c32b0
                try clear c33
                try clear c33b0
                try clear c34
                try clear c34b0
                try clear c35
                try clear c36
                try clear c36b0
                try clear c37
                try clear c37b0
                try clear p38
                try clear q38
                try clear hx38
                try clear c39
                try clear c39b0
                try clear c39b1
                try clear p1
                try clear p11
                try clear p17
                try clear p2
                try clear p38
                try clear p5
                try clear p6
                try clear q1
                try clear q11
                try clear q17
                try clear q38
                try clear q5
                obtain ⟨kq, x6_19, rfl, HA, HJ19, HB⟩ := hcut
                cases kq with
                | zero => exact absurd HA.out (by simp [labels_zzMatcherParts.j7])
                | succ kj19 =>
                  have H := HA.out
                  clear HA
                  simp only [labels_zzMatcherParts.j7] at H
                  have HC40 := Aside0.mk H
                  clear H
                  go_upto_block 7 with (fail)
                  go_cut [7] (fun v7 wc => ∃ (kq : Nat) (x7_39 : Int), v7 = .int .i64 x7_39 ∧ Aside0 (labels_zzMatcherParts.j9 kq a0 x3_1 x4_7 x5_13 x6_19 x7_39 (a0.size : Int) = some r) ∧ Aside0 (kq ≤ kj19) ∧ Aside0 (Below w.heap.size w wc))
                  case first =>
                    have H := HC40.out
                    clear HC40
                    have H' := Aside0.mk H
                    clear H
                    go_wp2
                    go_loopg [7] kj19 (fun kq v7 w' => ∃ (x7_5 : Int), v7 = .int .i64 x7_5 ∧ Aside0 (labels_zzMatcherParts.l3 kq a0 x3_1 x4_7 x5_13 x6_19 x7_5 (a0.size : Int) = some r) ∧ Aside0 (kq ≤ kj19) ∧ Aside0 (Below w.heap.size w w'))
                    case atStart => exact ⟨(wrap64 (x5_13 + x6_19)), (by first | rfl | (simp; done) | (simp [*]; done)), H', ⟨Nat.le_refl _⟩, ⟨by repeat (first | (with_reducible first | exact HB.out | apply below_alloc | apply pw_below_drewN | apply below_drew1) | exact HB.out)⟩⟩
                    case round =>
                      clear H'
                      try clear c1
                      try clear p1
                      try clear q1
                      try clear hx1
                      try clear c2
                      try clear p2
                      try clear c3
                      try clear c3b0
                      try clear p3
                      try clear q3
                      try clear hx3
                      try clear c4
                      try clear c4b0
                      try clear p5
                      try clear q5
                      try clear hx5
                      try clear p6
                      try clear c7
                      try clear c9
                      try clear c9b0
                      try clear c10
                      try clear c10b0
                      try clear p11
                      try clear q11
                      try clear hx11
                      try clear c13
                      try clear c15
                      try clear c15b0
                      try clear c16
                      try clear c16b0
                      try clear p17
                      try clear q17
                      try clear hx17
                      try clear c19
                      try clear c21
                      try clear c21b0
                      try clear c21b1
                      try clear c23
                      try clear c23b0
                      try clear c24
                      try clear c24b0
                      try clear c24b1
                      try clear c25
                      try clear c25b0
                      try clear c25b1
                      try clear c26
                      try clear c26b0
                      try clear c26b1
                      try clear c27
                      try clear c27b0
                      try clear c27b1
                      try clear c28
                      try clear c28b0
                      try clear c29
                      try clear c29b0
                      try clear c30
                      try clear c30b0
                      try clear c31
                      try clear c31b0
                      try clear c31b1
                      try clear c32
                      try clear c32b0
                      try clear c33
                      try clear c33b0
                      try clear c34
                      try clear c34b0
                      try clear c35
                      try clear c36
                      try clear c36b0
                      try clear c37
                      try clear c37b0
                      try clear p38
                      try clear q38
                      try clear hx38
                      try clear c39
                      try clear c39b0
                      try clear c39b1
                      try clear p1
                      try clear p11
                      try clear p17
                      try clear p2
                      try clear p3
                      try clear p38
                      try clear p5
                      try clear p6
                      try clear q1
                      try clear q11
                      try clear q17
                      try clear q3
                      try clear q38
                      try clear q5
                      obtain ⟨x7_5, rfl, HA, HK5, HB⟩ := hrel
                      cases gk with
                      | zero => exact absurd HA.out (by simp [labels_zzMatcherParts.l3])
                      | succ k5 =>
                        have H := HA.out
                        clear HA
                        simp only [labels_zzMatcherParts.l3] at H
                        by_cases c41 : x7_5 < (a0.size : Int)
                        · rw [if_pos c41] at H
                          have c41b0 : decide (x7_5 < (a0.size : Int)) = true := decide_eq_true c41
                          clear c41
                          (first | rw [c41b0] | (simp only [i64_w, i32_w]; rw [c41b0]) | skip)
                          by_cases c42 : 0 ≤ x7_5
                          · rw [if_pos c42] at H
                            have c42b0 : decide (0 ≤ x7_5) = true := decide_eq_true c42
                            clear c42
                            by_cases c43 : x7_5 < (a0.size : Int)
                            · rw [if_pos c43] at H
                              have c43b0 : decide (x7_5 < (a0.size : Int)) = true := decide_eq_true c43
                              clear c43
                              replace H := Option.bind_eq_some_iff.mp H
                              obtain ⟨t104, A450, H⟩ := H
                              replace H : (if t104 = true then (labels_zzMatcherParts.l3 k5 a0 x3_1 x4_7 x5_13 x6_19 (wrap64 (x7_5 + 1)) (a0.size : Int)) else (labels_zzMatcherParts.j9 k5 a0 x3_1 x4_7 x5_13 x6_19 x7_5 (a0.size : Int))) = some r := H
                              have A45 := Aside0.mk A450
                              clear A450
                              by_cases c46 : t104 = true
                              · subst c46
                                have H1 : (labels_zzMatcherParts.l3 k5 a0 x3_1 x4_7 x5_13 x6_19 (wrap64 (x7_5 + 1)) (a0.size : Int)) = some r := by rw [if_pos rfl] at H; exact H
                                clear H
                                have H := H1
                                clear H1
                                have H' := Aside0.mk H
                                clear H
                                have p44 : 0 ≤ (x7_5 : Int) := of_decide_eq_true (by first | (with_reducible assumption) | assumption)
                                have q44 : x7_5 < (a0.size : Int) := of_decide_eq_true (by first | (with_reducible assumption) | assumption)
                                have hx44 := bt_at a0 x7_5
                                replace p44 := eq_true p44
                                replace q44 := eq_true q44
                                go_wp2_with (first | (go_at_call 48; (with_reducible refine (labels_zzBlank.calls (bt a0 x7_5) true _ A45.out).mono ?_); rintro e w' ⟨rfl, ⟨nd, rfl⟩⟩))
                                go_roundg k5
                                case measure => have := HJ1.out; have := HJ7.out; have := HJ13.out; have := HJ19.out; have := HK5.out; omega
                                case rel => exact ⟨(wrap64 (x7_5 + 1)), (by first | rfl | (simp; done) | (simp [*]; done)), H', ⟨by have := HJ1.out; have := HJ7.out; have := HJ13.out; have := HJ19.out; have := HK5.out; omega⟩, ⟨by repeat (first | (with_reducible first | exact HB.out | apply below_alloc | apply pw_below_drewN | apply below_drew1) | exact HB.out)⟩⟩
                              · replace c46 := Bool.eq_false_iff.mpr c46
                                subst c46
                                have H1 : (labels_zzMatcherParts.j9 k5 a0 x3_1 x4_7 x5_13 x6_19 x7_5 (a0.size : Int)) = some r := by rw [if_neg (show ¬ (false = true) by decide)] at H; exact H
                                clear H
                                have H := H1
                                clear H1
                                have H' := Aside0.mk H
                                clear H
                                have p44 : 0 ≤ (x7_5 : Int) := of_decide_eq_true (by first | (with_reducible assumption) | assumption)
                                have q44 : x7_5 < (a0.size : Int) := of_decide_eq_true (by first | (with_reducible assumption) | assumption)
                                have hx44 := bt_at a0 x7_5
                                replace p44 := eq_true p44
                                replace q44 := eq_true q44
                                go_wp2_with (first | (go_at_call 48; (with_reducible refine (labels_zzBlank.calls (bt a0 x7_5) false _ A45.out).mono ?_); rintro e w' ⟨rfl, ⟨nd, rfl⟩⟩))
                                go_meet
                                case rel => exact ⟨_, (x7_5), (by first | rfl | (simp; done) | (simp [*]; done)), H', ⟨by have := HJ1.out; have := HJ7.out; have := HJ13.out; have := HJ19.out; have := HK5.out; first | omega | exact Nat.le_refl _⟩, ⟨by repeat (first | (with_reducible first | exact HB.out | apply below_alloc | apply pw_below_drewN | apply below_drew1) | exact HB.out)⟩⟩
                            · rw [if_neg c43] at H
                              exact absurd H (by simp)
                          · rw [if_neg c42] at H
                            exact absurd H (by simp)
                        · rw [if_neg c41] at H
                          have c41b0 : decide (x7_5 < (a0.size : Int)) = false := decide_eq_false c41
                          clear c41
                          (first | rw [c41b0] | (simp only [i64_w, i32_w]; rw [c41b0]) | skip)
                          have H' := Aside0.mk H
                          clear H
                          go_wp2
                          go_meet
                          case rel => exact ⟨_, (x7_5), (by first | rfl | (simp; done) | (simp [*]; done)), H', ⟨by have := HJ1.out; have := HJ7.out; have := HJ13.out; have := HJ19.out; have := HK5.out; first | omega | exact Nat.le_refl _⟩, ⟨by repeat (first | (with_reducible first | exact HB.out | apply below_alloc | apply pw_below_drewN | apply below_drew1) | exact HB.out)⟩⟩
                  case rest =>
                    clear HC40
                    try clear c1
                    try clear p1
                    try clear q1
                    try clear hx1
                    try clear c2
                    try clear p2
                    try clear c3
                    try clear c3b0
                    try clear p3
                    try clear q3
                    try clear hx3
                    try clear c4
                    try clear c4b0
                    try clear p4
                    try clear q4
                    try clear hx4
                    try clear p5
                    try clear q5
                    try clear hx5
                    try clear p6
                    try clear c7
                    try clear c9
                    try clear c9b0
                    try clear c10
                    try clear c10b0
                    try clear p11
                    try clear q11
                    try clear hx11
                    try clear c13
                    try clear c15
                    try clear c15b0
                    try clear c16
                    try clear c16b0
                    try clear p17
                    try clear q17
                    try clear hx17
                    try clear c19
                    try clear c21
                    try clear c21b0
                    try clear c21b1
                    try clear c23
                    try clear c23b0
                    try clear c24
                    try clear c24b0
                    try clear c24b1
                    try clear c25
                    try clear c25b0
                    try clear c25b1
                    try clear c26
                    try clear c26b0
                    try clear c26b1
                    try clear c27
                    try clear c27b0
                    try clear c27b1
                    try clear c28
                    try clear c28b0
                    try clear c29
                    try clear c29b0
                    try clear c30
                    try clear c30b0
                    try clear c31
                    try clear c31b0
                    try clear c31b1
                    try clear c32
                    try clear c32b0
                    try clear c33
                    try clear c33b0
                    try clear c34
                    try clear c34b0
                    try clear c35
                    try clear c36
                    try clear c36b0
                    try clear c37
                    try clear c37b0
                    try clear p38
                    try clear q38
                    try clear hx38
                    try clear c39
                    try clear c39b0
                    try clear c39b1
                    try clear c41
                    try clear c41b0
                    try clear c42
                    try clear c42b0
                    try clear c43
                    try clear c43b0
                    try clear p44
                    try clear q44
                    try clear hx44
                    try clear c46
                    try clear p1
                    try clear p11
                    try clear p17
                    try clear p2
                    try clear p3
                    try clear p38
                    try clear p44
                    try clear p5
                    try clear p6
                    try clear q1
                    try clear q11
                    try clear q17
                    try clear q3
                    try clear q38
                    try clear q44
                    try clear q5
                    obtain ⟨kq, x7_39, rfl, HA, HJ39, HB⟩ := hcut
                    cases kq with
                    | zero => exact absurd HA.out (by simp [labels_zzMatcherParts.j9])
                    | succ kj39 =>
                      have H := HA.out
                      clear HA
                      simp only [labels_zzMatcherParts.j9] at H
                      have H' := Aside0.mk H
                      clear H
                      go_wp2
                      go_loopg [8] kj39 (fun kq v8 w' => ∃ (x8_6 : Int), v8 = .int .i64 x8_6 ∧ Aside0 (labels_zzMatcherParts.l4 kq a0 x3_1 x4_7 x5_13 x6_19 x7_39 x8_6 = some r) ∧ Aside0 (kq ≤ kj39) ∧ Aside0 (Below w.heap.size w w'))
                      case atStart => exact ⟨((a0.size : Int)), (by first | rfl | (simp; done) | (simp [*]; done)), H', ⟨Nat.le_refl _⟩, ⟨by repeat (first | (with_reducible first | exact HB.out | apply below_alloc | apply pw_below_drewN | apply below_drew1) | exact HB.out)⟩⟩
                      case round =>
                        clear H'
                        try clear c1
                        try clear p1
                        try clear q1
                        try clear hx1
                        try clear c2
                        try clear p2
                        try clear c3
                        try clear c3b0
                        try clear p3
                        try clear q3
                        try clear hx3
                        try clear c4
                        try clear c4b0
                        try clear p4
                        try clear q4
                        try clear hx4
                        try clear p5
                        try clear q5
                        try clear hx5
                        try clear p6
                        try clear c7
                        try clear c9
                        try clear c9b0
                        try clear c10
                        try clear c10b0
                        try clear p11
                        try clear q11
                        try clear hx11
                        try clear c13
                        try clear c15
                        try clear c15b0
                        try clear c16
                        try clear c16b0
                        try clear p17
                        try clear q17
                        try clear hx17
                        try clear c19
                        try clear c21
                        try clear c21b0
                        try clear c21b1
                        try clear c23
                        try clear c23b0
                        try clear c24
                        try clear c24b0
                        try clear c24b1
                        try clear c25
                        try clear c25b0
                        try clear c25b1
                        try clear c26
                        try clear c26b0
                        try clear c26b1
                        try clear c27
                        try clear c27b0
                        try clear c27b1
                        try clear c28
                        try clear c28b0
                        try clear c29
                        try clear c29b0
                        try clear c30
                        try clear c30b0
                        try clear c31
                        try clear c31b0
                        try clear c31b1
                        try clear c32
                        try clear c32b0
                        try clear c33
                        try clear c33b0
                        try clear c34
                        try clear c34b0
                        try clear c35
                        try clear c36
                        try clear c36b0
                        try clear c37
                        try clear c37b0
                        try clear p38
                        try clear q38
                        try clear hx38
                        try clear c39
                        try clear c39b0
                        try clear c39b1
                        try clear c41
                        try clear c41b0
                        try clear c42
                        try clear c42b0
                        try clear c43
                        try clear c43b0
                        try clear p44
                        try clear q44
                        try clear hx44
                        try clear c46
                        try clear p1
                        try clear p11
                        try clear p17
                        try clear p2
                        try clear p3
                        try clear p38
                        try clear p4
                        try clear p44
                        try clear p5
                        try clear p6
                        try clear q1
                        try clear q11
                        try clear q17
                        try clear q3
                        try clear q38
                        try clear q4
                        try clear q44
                        try clear q5
                        obtain ⟨x8_6, rfl, HA, HK6, HB⟩ := hrel
                        cases gk with
                        | zero => exact absurd HA.out (by simp [labels_zzMatcherParts.l4])
                        | succ k6 =>
                          have H := HA.out
                          clear HA
                          simp only [labels_zzMatcherParts.l4] at H
                          by_cases c47 : x8_6 > x7_39
                          · rw [if_pos c47] at H
                            have c47b0 : decide (x7_39 < x8_6) = true := decide_eq_true c47
                            clear c47
                            obtain ⟨ji48, hji48⟩ : ∃ j_ : Int, (wrap64 (x8_6 - 1)) = j_ := ⟨_, rfl⟩
                            replace H : (if 0 ≤ (ji48) then (if (ji48) < (a0.size : Int) then ((labels_zzBlank.f (bt a0 (ji48))).bind fun t105 => (if t105 = true then (labels_zzMatcherParts.l4 k6 a0 x3_1 x4_7 x5_13 x6_19 x7_39 ji48) else (if 0 ≤ x3_1 then (if x3_1 ≤ x4_7 then (if x4_7 ≤ (a0.size : Int) then (if 0 ≤ x5_13 then (if x5_13 ≤ (wrap64 (x5_13 + x6_19)) then (if (wrap64 (x5_13 + x6_19)) ≤ (a0.size : Int) then (if 0 ≤ x7_39 then (if x7_39 ≤ x8_6 then (if x8_6 ≤ (a0.size : Int) then (some (([a0, a0.extract (x3_1 : Int).toNat (x4_7 : Int).toNat, a0.extract (x5_13 : Int).toNat ((wrap64 (x5_13 + x6_19)) : Int).toNat, a0.extract (x7_39 : Int).toNat (x8_6 : Int).toNat] : List ByteArray))) else (none)) else (none)) else (none)) else (none)) else (none)) else (none)) else (none)) else (none)) else (none)))) else (none)) else (none)) = some r := by first | (rw [hji48] at H; exact H) | (simp only [hji48] at H ⊢; exact H)
                            have hji48w : (IntKind.i64.wrap (x8_6 - 1)) = ji48 := (i64_w _).trans hji48
                            by_cases c49 : 0 ≤ (ji48)
                            · rw [if_pos c49] at H
                              have c49b0 : decide (0 ≤ (ji48)) = true := decide_eq_true c49
                              clear c49
                              by_cases c50 : (ji48) < (a0.size : Int)
                              · rw [if_pos c50] at H
                                have c50b0 : decide ((ji48) < (a0.size : Int)) = true := decide_eq_true c50
                                clear c50
                                replace H := Option.bind_eq_some_iff.mp H
                                obtain ⟨t105, A520, H⟩ := H
                                replace H : (if t105 = true then (labels_zzMatcherParts.l4 k6 a0 x3_1 x4_7 x5_13 x6_19 x7_39 ji48) else (if 0 ≤ x3_1 then (if x3_1 ≤ x4_7 then (if x4_7 ≤ (a0.size : Int) then (if 0 ≤ x5_13 then (if x5_13 ≤ (wrap64 (x5_13 + x6_19)) then (if (wrap64 (x5_13 + x6_19)) ≤ (a0.size : Int) then (if 0 ≤ x7_39 then (if x7_39 ≤ x8_6 then (if x8_6 ≤ (a0.size : Int) then (some (([a0, a0.extract (x3_1 : Int).toNat (x4_7 : Int).toNat, a0.extract (x5_13 : Int).toNat ((wrap64 (x5_13 + x6_19)) : Int).toNat, a0.extract (x7_39 : Int).toNat (x8_6 : Int).toNat] : List ByteArray))) else (none)) else (none)) else (none)) else (none)) else (none)) else (none)) else (none)) else (none)) else (none))) = some r := H
                                have A52 := Aside0.mk A520
                                clear A520
                                by_cases c53 : t105 = true
                                · subst c53
                                  have H1 : (labels_zzMatcherParts.l4 k6 a0 x3_1 x4_7 x5_13 x6_19 x7_39 ji48) = some r := by rw [if_pos rfl] at H; exact H
                                  clear H
                                  have H := H1
                                  clear H1
                                  have H' := Aside0.mk H
                                  clear H
                                  have p51 : 0 ≤ ((ji48) : Int) := of_decide_eq_true (by first | (with_reducible assumption) | assumption)
                                  have q51 : (ji48) < (a0.size : Int) := of_decide_eq_true (by first | (with_reducible assumption) | assumption)
                                  have hx51 := bt_at a0 (ji48)
                                  replace p51 := eq_true p51
                                  replace q51 := eq_true q51
                                  go_wp2_with (first | (go_at_call 48; (with_reducible refine (labels_zzBlank.calls (bt a0 (ji48)) true _ A52.out).mono ?_); rintro e w' ⟨rfl, ⟨nd, rfl⟩⟩))
                                  go_roundg k6
                                  case measure => have := HJ1.out; have := HJ7.out; have := HJ13.out; have := HJ19.out; have := HJ39.out; have := HK6.out; omega
                                  case rel => exact ⟨(ji48), (by first | rfl | (simp; done) | (simp only [← hji48] <;> (first | rfl | simp)) | (simp [*]; done)), H', ⟨by have := HJ1.out; have := HJ7.out; have := HJ13.out; have := HJ19.out; have := HJ39.out; have := HK6.out; omega⟩, ⟨by repeat (first | (with_reducible first | exact HB.out | apply below_alloc | apply pw_below_drewN | apply below_drew1) | exact HB.out)⟩⟩
                                · replace c53 := Bool.eq_false_iff.mpr c53
                                  subst c53
                                  have H1 : (if 0 ≤ x3_1 then (if x3_1 ≤ x4_7 then (if x4_7 ≤ (a0.size : Int) then (if 0 ≤ x5_13 then (if x5_13 ≤ (wrap64 (x5_13 + x6_19)) then (if (wrap64 (x5_13 + x6_19)) ≤ (a0.size : Int) then (if 0 ≤ x7_39 then (if x7_39 ≤ x8_6 then (if x8_6 ≤ (a0.size : Int) then (some (([a0, a0.extract (x3_1 : Int).toNat (x4_7 : Int).toNat, a0.extract (x5_13 : Int).toNat ((wrap64 (x5_13 + x6_19)) : Int).toNat, a0.extract (x7_39 : Int).toNat (x8_6 : Int).toNat] : List ByteArray))) else (none)) else (none)) else (none)) else (none)) else (none)) else (none)) else (none)) else (none)) else (none)) = some r := by rw [if_neg (show ¬ (false = true) by decide)] at H; exact H
                                  clear H
                                  have H := H1
                                  clear H1
                                  by_cases c54 : 0 ≤ x3_1
                                  · rw [if_pos c54] at H
                                    have c54b0 := eq_true c54
                                    have c54b1 : decide (0 ≤ x3_1) = true := decide_eq_true c54
                                    clear c54
                                    by_cases c55 : x3_1 ≤ x4_7
                                    · rw [if_pos c55] at H
                                      have c55b0 := eq_true c55
                                      have c55b1 : decide (x3_1 ≤ x4_7) = true := decide_eq_true c55
                                      clear c55
                                      by_cases c56 : x4_7 ≤ (a0.size : Int)
                                      · rw [if_pos c56] at H
                                        have c56b0 := eq_true c56
                                        have c56b1 : decide (x4_7 ≤ (a0.size : Int)) = true := decide_eq_true c56
                                        clear c56
                                        by_cases c57 : 0 ≤ x5_13
                                        · rw [if_pos c57] at H
                                          have c57b0 := eq_true c57
                                          have c57b1 : decide (0 ≤ x5_13) = true := decide_eq_true c57
                                          clear c57
                                          by_cases c58 : x5_13 ≤ (wrap64 (x5_13 + x6_19))
                                          · rw [if_pos c58] at H
                                            have c58b0 := eq_true c58
                                            have c58b1 : decide (x5_13 ≤ (wrap64 (x5_13 + x6_19))) = true := decide_eq_true c58
                                            by_cases c59 : (wrap64 (x5_13 + x6_19)) ≤ (a0.size : Int)
                                            · rw [if_pos c59] at H
                                              have c59b0 := eq_true c59
                                              have c59b1 : decide ((wrap64 (x5_13 + x6_19)) ≤ (a0.size : Int)) = true := decide_eq_true c59
                                              by_cases c60 : 0 ≤ x7_39
                                              · rw [if_pos c60] at H
                                                have c60b0 := eq_true c60
                                                have c60b1 : decide (0 ≤ x7_39) = true := decide_eq_true c60
                                                clear c60
                                                by_cases c61 : x7_39 ≤ x8_6
                                                · rw [if_pos c61] at H
                                                  have c61b0 := eq_true c61
                                                  have c61b1 : decide (x7_39 ≤ x8_6) = true := decide_eq_true c61
                                                  clear c61
                                                  by_cases c62 : x8_6 ≤ (a0.size : Int)
                                                  · rw [if_pos c62] at H
                                                    have c62b0 := eq_true c62
                                                    have c62b1 : decide (x8_6 ≤ (a0.size : Int)) = true := decide_eq_true c62
                                                    clear c62
                                                    obtain ⟨y106, hy106⟩ : ∃ y_ : List ByteArray, y_ = (([a0, a0.extract (x3_1 : Int).toNat (x4_7 : Int).toNat, a0.extract (x5_13 : Int).toNat ((wrap64 (x5_13 + x6_19)) : Int).toNat, a0.extract (x7_39 : Int).toNat (x8_6 : Int).toNat] : List ByteArray)) := ⟨_, rfl⟩
                                                    replace H : (some y106) = some r := by first | (rw [hy106]; with_reducible exact H) | (have H2_ := (Option.bind_some _ _).symm.trans H; rw [hy106]; with_reducible exact H2_) | (have H2_ := (Option.bind_some _ _).symm.trans H; with_reducible exact H2_) | with_reducible exact H | (rw [hy106]; exact H) | exact H
                                                    have Ny106 := Aside0.mk hy106
                                                    clear hy106
                                                    obtain rfl := Option.some.inj H
                                                    have p51 : 0 ≤ ((ji48) : Int) := of_decide_eq_true (by first | (with_reducible assumption) | assumption)
                                                    have q51 : (ji48) < (a0.size : Int) := of_decide_eq_true (by first | (with_reducible assumption) | assumption)
                                                    have hx51 := bt_at a0 (ji48)
                                                    replace p51 := eq_true p51
                                                    replace q51 := eq_true q51
                                                    try go_wp2_with (first | (go_at_call 48; (with_reducible refine (labels_zzBlank.calls (bt a0 (ji48)) false _ A52.out).mono ?_); rintro e w' ⟨rfl, ⟨nd, rfl⟩⟩))
                                                    (try (rw [drewN_self wr]; generalize hq_ : World.drewN wr _ = wr; have n0_ : Aside0 (Below w.heap.size w wr) := ⟨by rw [← hq_]; exact (by repeat (first | (with_reducible first | exact HB.out | apply below_alloc | apply pw_below_drewN | apply below_drew1) | exact HB.out))⟩; clear HB hq_; have HB := n0_; clear n0_))
                                                    have n0_ := Aside0.mk (below_drew1 HB.out)
                                                    clear HB
                                                    have HB := n0_
                                                    clear n0_
                                                    refine start_ (n := 17) (S := fun w' => True) (ds := []) #[false, false, false, false, false, false, false, false, false, false, false, false, false, false, false, false, false] (by kernel_rfl) rfl rfl trivial (fun hHeld => ?_); refine with_tabW labels_zzMatcherParts.tab23 labels_zzMatcherParts.bits23 (fun HT_ HW_ => ?_)
                                                    generalize wr.drew = w63 at HB hHeld ⊢
                                                    refine pure_ (i := 0) (N := some 123) (v := ?_) (a' := ?_) #[true, false, false, false, false, false, false, false, false, false, false, false, false, false, false, false, false] rfl rfl (any_of HT_.out (by kernel_rfl)) (fun _ _ _ h => h) (Or.inl ⟨by rfl, ?_⟩) ?_ ?_
                                                    rotate_left
                                                    · intro w'
                                                      go_simp
                                                      with_reducible rfl
                                                    rotate_left
                                                    · simp only [Act.put, List.setIfInBounds_toArray, List.set_cons_zero, List.set_cons_succ, i64_w, i32_w]
                                                      rfl
                                                    refine pure_ (i := 1) (N := some 124) (v := ?_) (a' := ?_) #[true, true, false, false, false, false, false, false, false, false, false, false, false, false, false, false, false] rfl rfl (any_of HT_.out (by kernel_rfl)) (fun _ _ _ h => h) (Or.inl ⟨by rfl, ?_⟩) ?_ ?_
                                                    rotate_left
                                                    · intro w'
                                                      go_simp
                                                      with_reducible rfl
                                                    rotate_left
                                                    · simp only [Act.put, List.setIfInBounds_toArray, List.set_cons_zero, List.set_cons_succ, i64_w, i32_w]
                                                      rfl
                                                    refine pure_ (i := 2) (N := some 125) (v := ?_) (a' := ?_) #[true, true, true, false, false, false, false, false, false, false, false, false, false, false, false, false, false] rfl rfl (any_of HT_.out (by kernel_rfl)) (fun _ _ _ h => h) (Or.inl ⟨by rfl, ?_⟩) ?_ ?_
                                                    rotate_left
                                                    · intro w'
                                                      go_simp
                                                      with_reducible rfl
                                                    rotate_left
                                                    · simp only [Act.put, List.setIfInBounds_toArray, List.set_cons_zero, List.set_cons_succ, i64_w, i32_w]
                                                      rfl
                                                    refine pure_ (i := 3) (N := some 126) (v := ?_) (a' := ?_) #[true, true, true, true, false, false, false, false, false, false, false, false, false, false, false, false, false] rfl rfl (any_of HT_.out (by kernel_rfl)) (fun _ _ _ h => h) (Or.inl ⟨by rfl, ?_⟩) ?_ ?_
                                                    rotate_left
                                                    · intro w'
                                                      go_simp
                                                      with_reducible rfl
                                                    rotate_left
                                                    · simp only [Act.put, List.setIfInBounds_toArray, List.set_cons_zero, List.set_cons_succ, i64_w, i32_w]
                                                      rfl
                                                    refine pure_ (i := 4) (N := some 127) (v := ?_) (a' := ?_) #[true, true, true, true, true, false, false, false, false, false, false, false, false, false, false, false, false] rfl rfl (any_of HT_.out (by kernel_rfl)) (fun _ _ _ h => h) (Or.inl ⟨by rfl, ?_⟩) ?_ ?_
                                                    rotate_left
                                                    · intro w'
                                                      go_simp
                                                      with_reducible rfl
                                                    rotate_left
                                                    · simp only [Act.put, List.setIfInBounds_toArray, List.set_cons_zero, List.set_cons_succ, i64_w, i32_w]
                                                      rfl
                                                    refine pure_ (i := 5) (N := some 128) (v := ?_) (a' := ?_) #[true, true, true, true, true, true, false, false, false, false, false, false, false, false, false, false, false] rfl rfl (any_of HT_.out (by kernel_rfl)) (fun _ _ _ h => h) (Or.inl ⟨by rfl, ?_⟩) ?_ ?_
                                                    rotate_left
                                                    · intro w'
                                                      go_simp
                                                      with_reducible rfl
                                                    rotate_left
                                                    · simp only [Act.put, List.setIfInBounds_toArray, List.set_cons_zero, List.set_cons_succ, i64_w, i32_w]
                                                      rfl
                                                    refine pure_ (i := 6) (N := some 129) (v := ?_) (a' := ?_) #[true, true, true, true, true, true, true, false, false, false, false, false, false, false, false, false, false] rfl rfl (any_of HT_.out (by kernel_rfl)) (fun _ _ _ h => h) (Or.inl ⟨by rfl, ?_⟩) ?_ ?_
                                                    rotate_left
                                                    · intro w'
                                                      go_simp
                                                      with_reducible rfl
                                                    rotate_left
                                                    · simp only [Act.put, List.setIfInBounds_toArray, List.set_cons_zero, List.set_cons_succ, i64_w, i32_w]
                                                      rfl
                                                    refine pure_ (i := 7) (N := some 130) (v := ?_) (a' := ?_) #[true, true, true, true, true, true, true, true, false, false, false, false, false, false, false, false, false] rfl rfl (any_of HT_.out (by kernel_rfl)) (fun _ _ _ h => h) (Or.inl ⟨by rfl, ?_⟩) ?_ ?_
                                                    rotate_left
                                                    · intro w'
                                                      go_simp
                                                      with_reducible rfl
                                                    rotate_left
                                                    · simp only [Act.put, List.setIfInBounds_toArray, List.set_cons_zero, List.set_cons_succ, i64_w, i32_w]
                                                      rfl
                                                    refine pure_ (i := 8) (N := some 131) (v := ?_) (a' := ?_) #[true, true, true, true, true, true, true, true, true, false, false, false, false, false, false, false, false] rfl rfl (any_of HT_.out (by kernel_rfl)) (fun _ _ _ h => h) (Or.inl ⟨by rfl, ?_⟩) ?_ ?_
                                                    rotate_left
                                                    · intro w'
                                                      go_simp
                                                      with_reducible rfl
                                                    rotate_left
                                                    · simp only [Act.put, List.setIfInBounds_toArray, List.set_cons_zero, List.set_cons_succ, i64_w, i32_w]
                                                      rfl
                                                    refine pure_ (i := 9) (N := some 132) (v := ?_) (a' := ?_) #[true, true, true, true, true, true, true, true, true, true, false, false, false, false, false, false, false] rfl rfl (any_of HT_.out (by kernel_rfl)) (fun _ _ _ h => h) (Or.inl ⟨by rfl, ?_⟩) ?_ ?_
                                                    rotate_left
                                                    · intro w'
                                                      go_simp
                                                      with_reducible rfl
                                                    rotate_left
                                                    · simp only [Act.put, List.setIfInBounds_toArray, List.set_cons_zero, List.set_cons_succ, i64_w, i32_w]
                                                      rfl
                                                    refine pure_ (i := 10) (N := some 133) (v := ?_) (a' := ?_) #[true, true, true, true, true, true, true, true, true, true, true, false, false, false, false, false, false] rfl rfl (any_of HT_.out (by kernel_rfl)) (fun _ _ _ h => h) (Or.inl ⟨by rfl, ?_⟩) ?_ ?_
                                                    rotate_left
                                                    · intro w'
                                                      go_simp
                                                      with_reducible rfl
                                                    rotate_left
                                                    · simp only [Act.put, List.setIfInBounds_toArray, List.set_cons_zero, List.set_cons_succ, i64_w, i32_w]
                                                      rfl
                                                    refine pure_ (i := 11) (N := some 134) (v := ?_) (a' := ?_) #[true, true, true, true, true, true, true, true, true, true, true, true, false, false, false, false, false] rfl rfl (any_of HT_.out (by kernel_rfl)) (fun _ _ _ h => h) (Or.inl ⟨by rfl, ?_⟩) ?_ ?_
                                                    rotate_left
                                                    · intro w'
                                                      go_simp
                                                      with_reducible rfl
                                                    rotate_left
                                                    · simp only [Act.put, List.setIfInBounds_toArray, List.set_cons_zero, List.set_cons_succ, i64_w, i32_w]
                                                      rfl
                                                    refine pure_ (i := 12) (N := some 135) (v := ?_) (a' := ?_) #[true, true, true, true, true, true, true, true, true, true, true, true, true, false, false, false, false] rfl rfl (any_of HT_.out (by kernel_rfl)) (fun _ _ _ h => h) (Or.inl ⟨by rfl, ?_⟩) ?_ ?_
                                                    rotate_left
                                                    · intro w'
                                                      go_simp
                                                      with_reducible rfl
                                                    rotate_left
                                                    · simp only [Act.put, List.setIfInBounds_toArray, List.set_cons_zero, List.set_cons_succ, i64_w, i32_w]
                                                      rfl
                                                    refine pure_ (i := 13) (N := some 136) (v := ?_) (a' := ?_) #[true, true, true, true, true, true, true, true, true, true, true, true, true, true, false, false, false] rfl rfl (any_of HT_.out (by kernel_rfl)) (fun _ _ _ h => h) (Or.inl ⟨by rfl, ?_⟩) ?_ ?_
                                                    rotate_left
                                                    · intro w'
                                                      go_simp
                                                      with_reducible rfl
                                                    rotate_left
                                                    · simp only [Act.put, List.setIfInBounds_toArray, List.set_cons_zero, List.set_cons_succ, i64_w, i32_w]
                                                      rfl
                                                    refine pure_ (i := 14) (N := some 137) (v := ?_) (a' := ?_) #[true, true, true, true, true, true, true, true, true, true, true, true, true, true, true, false, false] rfl rfl (any_of HT_.out (by kernel_rfl)) (fun _ _ _ h => h) (Or.inl ⟨by rfl, ?_⟩) ?_ ?_
                                                    rotate_left
                                                    · intro w'
                                                      go_simp
                                                      with_reducible rfl
                                                    rotate_left
                                                    · simp only [Act.put, List.setIfInBounds_toArray, List.set_cons_zero, List.set_cons_succ, i64_w, i32_w]
                                                      rfl
                                                    refine one_ (i := 15) (N := some 138) #[true, true, true, true, true, true, true, true, true, true, true, true, true, true, true, true, false] rfl rfl (one_of HT_.out (by kernel_rfl)) (by decide) (fun K hK => ?_)
                                                    refine Kd.R_lit_step Kd.string _ 9 ?hg (N := 138) ?hd (xs := ([a0, a0.extract (x3_1 : Int).toNat (x4_7 : Int).toNat, a0.extract (x5_13 : Int).toNat ((wrap64 (x5_13 + x6_19)) : Int).toNat, a0.extract (x7_39 : Int).toNat (x8_6 : Int).toNat] : List ByteArray)) (inner := [.string a0, .string (a0.extract (x3_1 : Int).toNat (x4_7 : Int).toNat), .string (a0.extract (x5_13 : Int).toNat ((wrap64 (x5_13 + x6_19)) : Int).toNat), .string (a0.extract (x7_39 : Int).toNat (x8_6 : Int).toNat)]) (ok := fun _ => True) (okp := fun _ => True) ?hr ?hp (fun _ hk => hk) trivial (Below.refl _ _) (Nat.le_refl _) (by simp) ?_; (case hd => rfl); (case hg => rfl); (case hr => first | (go_simp; done) | (go_simp; rfl)); (case hp => exact (Reps.one (show Kd.M Kd.string _ _ _ a0 [.string a0] from rfl) (Reps.one (show Kd.M Kd.string _ _ _ (a0.extract (x3_1 : Int).toNat (x4_7 : Int).toNat) [.string (a0.extract (x3_1 : Int).toNat (x4_7 : Int).toNat)] from rfl) (Reps.one (show Kd.M Kd.string _ _ _ (a0.extract (x5_13 : Int).toNat ((wrap64 (x5_13 + x6_19)) : Int).toNat) [.string (a0.extract (x5_13 : Int).toNat ((wrap64 (x5_13 + x6_19)) : Int).toNat)] from rfl) (Reps.one (show Kd.M Kd.string _ _ _ (a0.extract (x7_39 : Int).toNat (x8_6 : Int).toNat) [.string (a0.extract (x7_39 : Int).toNat (x8_6 : Int).toNat)] from rfl) (Reps.none _ _))))))
                                                    intro v107 w64 ho65 hb hg_ hnew_
                                                    clear hg_ hnew_
                                                    (first | rw [← Ny106.out] at ho65 | (simp only [Int.reduceToNat] at ho65; rw [← Ny106.out] at ho65))
                                                    have n0_ := Aside0.mk (Kd.R_lower ho65 (below_size (by repeat (first | (with_reducible first | exact HB.out | apply below_alloc | apply pw_below_drewN | apply below_drew1) | exact HB.out))))
                                                    have n1_ := Aside0.mk (below_step (by repeat (first | (with_reducible first | exact HB.out | apply below_alloc | apply pw_below_drewN | apply below_drew1) | exact HB.out)) hb)
                                                    clear HB
                                                    have HO108 := n0_
                                                    have HB := n1_
                                                    clear n0_ n1_
                                                    clear hb ho65
                                                    refine hK.out _ _ trivial (fun hHeld => ?_)
                                                    clear hK K
                                                    refine norm_ (a' := ?_) ?_ ?_
                                                    rotate_left
                                                    · show Act.put _ (some 138) _ = _
                                                      simp only [Act.put, List.setIfInBounds_toArray, List.set_cons_zero, List.set_cons_succ, i64_w, i32_w]
                                                      rfl
                                                    refine pure_ (i := 16) (N := some 2) (v := ?_) (a' := ?_) #[true, true, true, true, true, true, true, true, true, true, true, true, true, true, true, true, true] rfl rfl (any_of HT_.out (by kernel_rfl)) (fun _ _ _ h => h) (Or.inl ⟨by rfl, ?_⟩) ?_ ?_
                                                    rotate_left
                                                    · intro w'
                                                      go_simp
                                                      with_reducible rfl
                                                    rotate_left
                                                    · simp only [Act.put, List.setIfInBounds_toArray, List.set_cons_zero, List.set_cons_succ, i64_w, i32_w]
                                                      rfl
                                                    refine done_ (done_of HT_.out (by kernel_rfl)) ?_
                                                    try go_wp2
                                                    go_ret
                                                    exact ⟨_, by first | rfl | (simp [errW_none, errW_some] <;> rfl) | (simp only [← hji48]; first | rfl | (simp [errW_none, errW_some] <;> rfl)) | (simp [*, errW_none, errW_some] <;> rfl), by (with_reducible repeat (first | apply Kd.R_alloc | apply Kd.R_drewN | apply Kd.R_drew)); exact HO108.out, by repeat (first | (with_reducible first | exact HB.out | apply below_alloc | apply pw_below_drewN | apply below_drew1) | exact HB.out)⟩
                                                  · rw [if_neg c62] at H
                                                    exact absurd H (by simp)
                                                · rw [if_neg c61] at H
                                                  exact absurd H (by simp)
                                              · rw [if_neg c60] at H
                                                exact absurd H (by simp)
                                            · rw [if_neg c59] at H
                                              exact absurd H (by simp)
                                          · rw [if_neg c58] at H
                                            exact absurd H (by simp)
                                        · rw [if_neg c57] at H
                                          exact absurd H (by simp)
                                      · rw [if_neg c56] at H
                                        exact absurd H (by simp)
                                    · rw [if_neg c55] at H
                                      exact absurd H (by simp)
                                  · rw [if_neg c54] at H
                                    exact absurd H (by simp)
                              · rw [if_neg c50] at H
                                exact absurd H (by simp)
                            · rw [if_neg c49] at H
                              exact absurd H (by simp)
                          · rw [if_neg c47] at H
                            have c47b0 : decide (x7_39 < x8_6) = false := decide_eq_false c47
                            clear c47
                            by_cases c66 : 0 ≤ x3_1
                            · rw [if_pos c66] at H
                              have c66b0 := eq_true c66
                              have c66b1 : decide (0 ≤ x3_1) = true := decide_eq_true c66
                              clear c66
                              by_cases c67 : x3_1 ≤ x4_7
                              · rw [if_pos c67] at H
                                have c67b0 := eq_true c67
                                have c67b1 : decide (x3_1 ≤ x4_7) = true := decide_eq_true c67
                                clear c67
                                by_cases c68 : x4_7 ≤ (a0.size : Int)
                                · rw [if_pos c68] at H
                                  have c68b0 := eq_true c68
                                  have c68b1 : decide (x4_7 ≤ (a0.size : Int)) = true := decide_eq_true c68
                                  clear c68
                                  by_cases c69 : 0 ≤ x5_13
                                  · rw [if_pos c69] at H
                                    have c69b0 := eq_true c69
                                    have c69b1 : decide (0 ≤ x5_13) = true := decide_eq_true c69
                                    clear c69
                                    by_cases c70 : x5_13 ≤ (wrap64 (x5_13 + x6_19))
                                    · rw [if_pos c70] at H
                                      have c70b0 := eq_true c70
                                      have c70b1 : decide (x5_13 ≤ (wrap64 (x5_13 + x6_19))) = true := decide_eq_true c70
                                      by_cases c71 : (wrap64 (x5_13 + x6_19)) ≤ (a0.size : Int)
                                      · rw [if_pos c71] at H
                                        have c71b0 := eq_true c71
                                        have c71b1 : decide ((wrap64 (x5_13 + x6_19)) ≤ (a0.size : Int)) = true := decide_eq_true c71
                                        by_cases c72 : 0 ≤ x7_39
                                        · rw [if_pos c72] at H
                                          have c72b0 := eq_true c72
                                          have c72b1 : decide (0 ≤ x7_39) = true := decide_eq_true c72
                                          clear c72
                                          by_cases c73 : x7_39 ≤ x8_6
                                          · rw [if_pos c73] at H
                                            have c73b0 := eq_true c73
                                            have c73b1 : decide (x7_39 ≤ x8_6) = true := decide_eq_true c73
                                            clear c73
                                            by_cases c74 : x8_6 ≤ (a0.size : Int)
                                            · rw [if_pos c74] at H
                                              have c74b0 := eq_true c74
                                              have c74b1 : decide (x8_6 ≤ (a0.size : Int)) = true := decide_eq_true c74
                                              clear c74
                                              obtain ⟨y109, hy109⟩ : ∃ y_ : List ByteArray, y_ = (([a0, a0.extract (x3_1 : Int).toNat (x4_7 : Int).toNat, a0.extract (x5_13 : Int).toNat ((wrap64 (x5_13 + x6_19)) : Int).toNat, a0.extract (x7_39 : Int).toNat (x8_6 : Int).toNat] : List ByteArray)) := ⟨_, rfl⟩
                                              replace H : (some y109) = some r := by first | (rw [hy109]; with_reducible exact H) | (have H2_ := (Option.bind_some _ _).symm.trans H; rw [hy109]; with_reducible exact H2_) | (have H2_ := (Option.bind_some _ _).symm.trans H; with_reducible exact H2_) | with_reducible exact H | (rw [hy109]; exact H) | exact H
                                              have Ny109 := Aside0.mk hy109
                                              clear hy109
                                              obtain rfl := Option.some.inj H
                                              try go_wp2
                                              have n0_ := Aside0.mk (below_drew1 HB.out)
                                              clear HB
                                              have HB := n0_
                                              clear n0_
                                              refine start_ (n := 17) (S := fun w' => True) (ds := []) #[false, false, false, false, false, false, false, false, false, false, false, false, false, false, false, false, false] (by kernel_rfl) rfl rfl trivial (fun hHeld => ?_); refine with_tabW labels_zzMatcherParts.tab23 labels_zzMatcherParts.bits23 (fun HT_ HW_ => ?_)
                                              generalize wr.drew = w75 at HB hHeld ⊢
                                              refine pure_ (i := 0) (N := some 123) (v := ?_) (a' := ?_) #[true, false, false, false, false, false, false, false, false, false, false, false, false, false, false, false, false] rfl rfl (any_of HT_.out (by kernel_rfl)) (fun _ _ _ h => h) (Or.inl ⟨by rfl, ?_⟩) ?_ ?_
                                              rotate_left
                                              · intro w'
                                                go_simp
                                                with_reducible rfl
                                              rotate_left
                                              · simp only [Act.put, List.setIfInBounds_toArray, List.set_cons_zero, List.set_cons_succ, i64_w, i32_w]
                                                rfl
                                              refine pure_ (i := 1) (N := some 124) (v := ?_) (a' := ?_) #[true, true, false, false, false, false, false, false, false, false, false, false, false, false, false, false, false] rfl rfl (any_of HT_.out (by kernel_rfl)) (fun _ _ _ h => h) (Or.inl ⟨by rfl, ?_⟩) ?_ ?_
                                              rotate_left
                                              · intro w'
                                                go_simp
                                                with_reducible rfl
                                              rotate_left
                                              · simp only [Act.put, List.setIfInBounds_toArray, List.set_cons_zero, List.set_cons_succ, i64_w, i32_w]
                                                rfl
                                              refine pure_ (i := 2) (N := some 125) (v := ?_) (a' := ?_) #[true, true, true, false, false, false, false, false, false, false, false, false, false, false, false, false, false] rfl rfl (any_of HT_.out (by kernel_rfl)) (fun _ _ _ h => h) (Or.inl ⟨by rfl, ?_⟩) ?_ ?_
                                              rotate_left
                                              · intro w'
                                                go_simp
                                                with_reducible rfl
                                              rotate_left
                                              · simp only [Act.put, List.setIfInBounds_toArray, List.set_cons_zero, List.set_cons_succ, i64_w, i32_w]
                                                rfl
                                              refine pure_ (i := 3) (N := some 126) (v := ?_) (a' := ?_) #[true, true, true, true, false, false, false, false, false, false, false, false, false, false, false, false, false] rfl rfl (any_of HT_.out (by kernel_rfl)) (fun _ _ _ h => h) (Or.inl ⟨by rfl, ?_⟩) ?_ ?_
                                              rotate_left
                                              · intro w'
                                                go_simp
                                                with_reducible rfl
                                              rotate_left
                                              · simp only [Act.put, List.setIfInBounds_toArray, List.set_cons_zero, List.set_cons_succ, i64_w, i32_w]
                                                rfl
                                              refine pure_ (i := 4) (N := some 127) (v := ?_) (a' := ?_) #[true, true, true, true, true, false, false, false, false, false, false, false, false, false, false, false, false] rfl rfl (any_of HT_.out (by kernel_rfl)) (fun _ _ _ h => h) (Or.inl ⟨by rfl, ?_⟩) ?_ ?_
                                              rotate_left
                                              · intro w'
                                                go_simp
                                                with_reducible rfl
                                              rotate_left
                                              · simp only [Act.put, List.setIfInBounds_toArray, List.set_cons_zero, List.set_cons_succ, i64_w, i32_w]
                                                rfl
                                              refine pure_ (i := 5) (N := some 128) (v := ?_) (a' := ?_) #[true, true, true, true, true, true, false, false, false, false, false, false, false, false, false, false, false] rfl rfl (any_of HT_.out (by kernel_rfl)) (fun _ _ _ h => h) (Or.inl ⟨by rfl, ?_⟩) ?_ ?_
                                              rotate_left
                                              · intro w'
                                                go_simp
                                                with_reducible rfl
                                              rotate_left
                                              · simp only [Act.put, List.setIfInBounds_toArray, List.set_cons_zero, List.set_cons_succ, i64_w, i32_w]
                                                rfl
                                              refine pure_ (i := 6) (N := some 129) (v := ?_) (a' := ?_) #[true, true, true, true, true, true, true, false, false, false, false, false, false, false, false, false, false] rfl rfl (any_of HT_.out (by kernel_rfl)) (fun _ _ _ h => h) (Or.inl ⟨by rfl, ?_⟩) ?_ ?_
                                              rotate_left
                                              · intro w'
                                                go_simp
                                                with_reducible rfl
                                              rotate_left
                                              · simp only [Act.put, List.setIfInBounds_toArray, List.set_cons_zero, List.set_cons_succ, i64_w, i32_w]
                                                rfl
                                              refine pure_ (i := 7) (N := some 130) (v := ?_) (a' := ?_) #[true, true, true, true, true, true, true, true, false, false, false, false, false, false, false, false, false] rfl rfl (any_of HT_.out (by kernel_rfl)) (fun _ _ _ h => h) (Or.inl ⟨by rfl, ?_⟩) ?_ ?_
                                              rotate_left
                                              · intro w'
                                                go_simp
                                                with_reducible rfl
                                              rotate_left
                                              · simp only [Act.put, List.setIfInBounds_toArray, List.set_cons_zero, List.set_cons_succ, i64_w, i32_w]
                                                rfl
                                              refine pure_ (i := 8) (N := some 131) (v := ?_) (a' := ?_) #[true, true, true, true, true, true, true, true, true, false, false, false, false, false, false, false, false] rfl rfl (any_of HT_.out (by kernel_rfl)) (fun _ _ _ h => h) (Or.inl ⟨by rfl, ?_⟩) ?_ ?_
                                              rotate_left
                                              · intro w'
                                                go_simp
                                                with_reducible rfl
                                              rotate_left
                                              · simp only [Act.put, List.setIfInBounds_toArray, List.set_cons_zero, List.set_cons_succ, i64_w, i32_w]
                                                rfl
                                              refine pure_ (i := 9) (N := some 132) (v := ?_) (a' := ?_) #[true, true, true, true, true, true, true, true, true, true, false, false, false, false, false, false, false] rfl rfl (any_of HT_.out (by kernel_rfl)) (fun _ _ _ h => h) (Or.inl ⟨by rfl, ?_⟩) ?_ ?_
                                              rotate_left
                                              · intro w'
                                                go_simp
                                                with_reducible rfl
                                              rotate_left
                                              · simp only [Act.put, List.setIfInBounds_toArray, List.set_cons_zero, List.set_cons_succ, i64_w, i32_w]
                                                rfl
                                              refine pure_ (i := 10) (N := some 133) (v := ?_) (a' := ?_) #[true, true, true, true, true, true, true, true, true, true, true, false, false, false, false, false, false] rfl rfl (any_of HT_.out (by kernel_rfl)) (fun _ _ _ h => h) (Or.inl ⟨by rfl, ?_⟩) ?_ ?_
                                              rotate_left
                                              · intro w'
                                                go_simp
                                                with_reducible rfl
                                              rotate_left
                                              · simp only [Act.put, List.setIfInBounds_toArray, List.set_cons_zero, List.set_cons_succ, i64_w, i32_w]
                                                rfl
                                              refine pure_ (i := 11) (N := some 134) (v := ?_) (a' := ?_) #[true, true, true, true, true, true, true, true, true, true, true, true, false, false, false, false, false] rfl rfl (any_of HT_.out (by kernel_rfl)) (fun _ _ _ h => h) (Or.inl ⟨by rfl, ?_⟩) ?_ ?_
                                              rotate_left
                                              · intro w'
                                                go_simp
                                                with_reducible rfl
                                              rotate_left
                                              · simp only [Act.put, List.setIfInBounds_toArray, List.set_cons_zero, List.set_cons_succ, i64_w, i32_w]
                                                rfl
                                              refine pure_ (i := 12) (N := some 135) (v := ?_) (a' := ?_) #[true, true, true, true, true, true, true, true, true, true, true, true, true, false, false, false, false] rfl rfl (any_of HT_.out (by kernel_rfl)) (fun _ _ _ h => h) (Or.inl ⟨by rfl, ?_⟩) ?_ ?_
                                              rotate_left
                                              · intro w'
                                                go_simp
                                                with_reducible rfl
                                              rotate_left
                                              · simp only [Act.put, List.setIfInBounds_toArray, List.set_cons_zero, List.set_cons_succ, i64_w, i32_w]
                                                rfl
                                              refine pure_ (i := 13) (N := some 136) (v := ?_) (a' := ?_) #[true, true, true, true, true, true, true, true, true, true, true, true, true, true, false, false, false] rfl rfl (any_of HT_.out (by kernel_rfl)) (fun _ _ _ h => h) (Or.inl ⟨by rfl, ?_⟩) ?_ ?_
                                              rotate_left
                                              · intro w'
                                                go_simp
                                                with_reducible rfl
                                              rotate_left
                                              · simp only [Act.put, List.setIfInBounds_toArray, List.set_cons_zero, List.set_cons_succ, i64_w, i32_w]
                                                rfl
                                              refine pure_ (i := 14) (N := some 137) (v := ?_) (a' := ?_) #[true, true, true, true, true, true, true, true, true, true, true, true, true, true, true, false, false] rfl rfl (any_of HT_.out (by kernel_rfl)) (fun _ _ _ h => h) (Or.inl ⟨by rfl, ?_⟩) ?_ ?_
                                              rotate_left
                                              · intro w'
                                                go_simp
                                                with_reducible rfl
                                              rotate_left
                                              · simp only [Act.put, List.setIfInBounds_toArray, List.set_cons_zero, List.set_cons_succ, i64_w, i32_w]
                                                rfl
                                              refine one_ (i := 15) (N := some 138) #[true, true, true, true, true, true, true, true, true, true, true, true, true, true, true, true, false] rfl rfl (one_of HT_.out (by kernel_rfl)) (by decide) (fun K hK => ?_)
                                              refine Kd.R_lit_step Kd.string _ 9 ?hg (N := 138) ?hd (xs := ([a0, a0.extract (x3_1 : Int).toNat (x4_7 : Int).toNat, a0.extract (x5_13 : Int).toNat ((wrap64 (x5_13 + x6_19)) : Int).toNat, a0.extract (x7_39 : Int).toNat (x8_6 : Int).toNat] : List ByteArray)) (inner := [.string a0, .string (a0.extract (x3_1 : Int).toNat (x4_7 : Int).toNat), .string (a0.extract (x5_13 : Int).toNat ((wrap64 (x5_13 + x6_19)) : Int).toNat), .string (a0.extract (x7_39 : Int).toNat (x8_6 : Int).toNat)]) (ok := fun _ => True) (okp := fun _ => True) ?hr ?hp (fun _ hk => hk) trivial (Below.refl _ _) (Nat.le_refl _) (by simp) ?_; (case hd => rfl); (case hg => rfl); (case hr => first | (go_simp; done) | (go_simp; rfl)); (case hp => exact (Reps.one (show Kd.M Kd.string _ _ _ a0 [.string a0] from rfl) (Reps.one (show Kd.M Kd.string _ _ _ (a0.extract (x3_1 : Int).toNat (x4_7 : Int).toNat) [.string (a0.extract (x3_1 : Int).toNat (x4_7 : Int).toNat)] from rfl) (Reps.one (show Kd.M Kd.string _ _ _ (a0.extract (x5_13 : Int).toNat ((wrap64 (x5_13 + x6_19)) : Int).toNat) [.string (a0.extract (x5_13 : Int).toNat ((wrap64 (x5_13 + x6_19)) : Int).toNat)] from rfl) (Reps.one (show Kd.M Kd.string _ _ _ (a0.extract (x7_39 : Int).toNat (x8_6 : Int).toNat) [.string (a0.extract (x7_39 : Int).toNat (x8_6 : Int).toNat)] from rfl) (Reps.none _ _))))))
                                              intro v110 w76 ho77 hb hg_ hnew_
                                              clear hg_ hnew_
                                              (first | rw [← Ny109.out] at ho77 | (simp only [Int.reduceToNat] at ho77; rw [← Ny109.out] at ho77))
                                              have n0_ := Aside0.mk (Kd.R_lower ho77 (below_size (by repeat (first | (with_reducible first | exact HB.out | apply below_alloc | apply pw_below_drewN | apply below_drew1) | exact HB.out))))
                                              have n1_ := Aside0.mk (below_step (by repeat (first | (with_reducible first | exact HB.out | apply below_alloc | apply pw_below_drewN | apply below_drew1) | exact HB.out)) hb)
                                              clear HB
                                              have HO111 := n0_
                                              have HB := n1_
                                              clear n0_ n1_
                                              clear hb ho77
                                              refine hK.out _ _ trivial (fun hHeld => ?_)
                                              clear hK K
                                              refine norm_ (a' := ?_) ?_ ?_
                                              rotate_left
                                              · show Act.put _ (some 138) _ = _
                                                simp only [Act.put, List.setIfInBounds_toArray, List.set_cons_zero, List.set_cons_succ, i64_w, i32_w]
                                                rfl
                                              refine pure_ (i := 16) (N := some 2) (v := ?_) (a' := ?_) #[true, true, true, true, true, true, true, true, true, true, true, true, true, true, true, true, true] rfl rfl (any_of HT_.out (by kernel_rfl)) (fun _ _ _ h => h) (Or.inl ⟨by rfl, ?_⟩) ?_ ?_
                                              rotate_left
                                              · intro w'
                                                go_simp
                                                with_reducible rfl
                                              rotate_left
                                              · simp only [Act.put, List.setIfInBounds_toArray, List.set_cons_zero, List.set_cons_succ, i64_w, i32_w]
                                                rfl
                                              refine done_ (done_of HT_.out (by kernel_rfl)) ?_
                                              try go_wp2
                                              go_ret
                                              exact ⟨_, by first | rfl | (simp [errW_none, errW_some] <;> rfl) | (simp [*, errW_none, errW_some] <;> rfl), by (with_reducible repeat (first | apply Kd.R_alloc | apply Kd.R_drewN | apply Kd.R_drew)); exact HO111.out, by repeat (first | (with_reducible first | exact HB.out | apply below_alloc | apply pw_below_drewN | apply below_drew1) | exact HB.out)⟩
                                            · rw [if_neg c74] at H
                                              exact absurd H (by simp)
                                          · rw [if_neg c73] at H
                                            exact absurd H (by simp)
                                        · rw [if_neg c72] at H
                                          exact absurd H (by simp)
                                      · rw [if_neg c71] at H
                                        exact absurd H (by simp)
                                    · rw [if_neg c70] at H
                                      exact absurd H (by simp)
                                  · rw [if_neg c69] at H
                                    exact absurd H (by simp)
                                · rw [if_neg c68] at H
                                  exact absurd H (by simp)
                              · rw [if_neg c67] at H
                                exact absurd H (by simp)
                            · rw [if_neg c66] at H
                              exact absurd H (by simp)

end Go.Proofs.YtbcgcfdpblhddaaDoor.Q
