-- printed by this project's own program wip/tools/mkprint.py (the kit's print.py with hand-proved contracts put in)
import Derived.Test.YtenededepjfojaaDoorQx0
import Derived.Test.YtenededepjfojaaDoorQx1
import Derived.Test.YtenededepjfojaaDoorQx2
import Derived.Test.YtenededepjfojaaDoorQx3
import Derived.Test.YtenededepjfojaaDoorQx4
import Derived.Test.YtenededepjfojaaDoorQx5
namespace Go.Proofs.YtenededepjfojaaDoor.Q
open Go.RowKit Go.Proofs.YtenededepjfojaaDoorW.PrintWords Go.Proofs.YtenededepjfojaaDoorW.PrintLast Go.Proofs.YtenededepjfojaaDoorW.PrintMore
attribute [local go_sem] max2_int min2_int max_two min_two max_three min_three max_four min_four   -- for this text's walks alone
set_option linter.unusedVariables false
set_option linter.unusedSimpArgs false

/-! ### laws_FnMetricText: function 3 -/
mutual
def laws_FnMetricText.l0 : Nat → List (S26) → List ByteArray → ByteArray → Bool → List (S31) → Int → Int → Option (Bool)
  | 0, _, _, _, _, _, _, _ => none
  | k + 1, x0, x3, x4, x5, x24, x25, x26 => if x26 < x25 then (if 0 ≤ x26 then (if x26 < (x24.length : Int) then (if ((rd_T31 x24 x26).f0).toList = ([95, 95, 110, 97, 109, 101, 95, 95] : List UInt8) then (laws_FnMetricText.l0 k x0 x3 ((rd_T31 x24 x26).f1) true x24 x25 (wrap64 (x26 + 1))) else (if ((rd_T31 x24 x26).f0).size + 2 ≤ 9223372036854775807 then (if (((rd_T31 x24 x26).f0) ++ (⟨#[61, 34]⟩ : ByteArray)).size + ((rd_T31 x24 x26).f1).size ≤ 9223372036854775807 then (if ((((rd_T31 x24 x26).f0) ++ (⟨#[61, 34]⟩ : ByteArray)) ++ ((rd_T31 x24 x26).f1)).size + 1 ≤ 9223372036854775807 then (if x3.length < 8796093022208 then (laws_FnMetricText.l0 k x0 (x3 ++ [((((rd_T31 x24 x26).f0) ++ (⟨#[61, 34]⟩ : ByteArray)) ++ ((rd_T31 x24 x26).f1)) ++ (⟨#[34]⟩ : ByteArray)]) x4 x5 x24 x25 (wrap64 (x26 + 1))) else (none)) else (none)) else (none)) else (none))) else (none)) else (none)) else (if x5 = true then ((laws_legacy.f k x4 true).bind fun t193 => (laws_FnMetricText.j1 k x0 x3 x4 x5 (!t193))) else (laws_FnMetricText.j1 k x0 x3 x4 x5 false))
def laws_FnMetricText.j1 : Nat → List (S26) → List ByteArray → ByteArray → Bool → Bool → Option (Bool)
  | 0, _, _, _, _, _ => none
  | k + 1, x0, x3, x4, x5, x51 => if x51 = true then (some true) else (laws_FnMetricText.l1 k x0 x3 x4 x5 (x3.length : Int) 0)
def laws_FnMetricText.l1 : Nat → List (S26) → List ByteArray → ByteArray → Bool → Int → Int → Option (Bool)
  | 0, _, _, _, _, _, _ => none
  | k + 1, x0, x3, x4, x5, x53, x54 => if x54 < x53 then (laws_FnMetricText.l2 k x0 x3 x4 x5 x54 x53 x54) else (if x4.size + 1 ≤ 9223372036854775807 then ((laws_joined.f k x3 (⟨#[44, 32]⟩ : ByteArray)).bind fun t200 => (if (x4 ++ (⟨#[123]⟩ : ByteArray)).size + t200.size ≤ 9223372036854775807 then (if ((x4 ++ (⟨#[123]⟩ : ByteArray)) ++ t200).size + 1 ≤ 9223372036854775807 then (if x5 = true then (if (x3.length : Int) = 0 then ((impl_MetricText.f x0).bind fun t201 => (some (t201.toList == x4.toList))) else ((impl_MetricText.f x0).bind fun t202 => (some (t202.toList == (((x4 ++ (⟨#[123]⟩ : ByteArray)) ++ t200) ++ (⟨#[125]⟩ : ByteArray)).toList)))) else ((impl_MetricText.f x0).bind fun t203 => (some (t203.toList == (((x4 ++ (⟨#[123]⟩ : ByteArray)) ++ t200) ++ (⟨#[125]⟩ : ByteArray)).toList)))) else (none)) else (none))) else (none))
def laws_FnMetricText.l2 : Nat → List (S26) → List ByteArray → ByteArray → Bool → Int → Int → Int → Option (Bool)
  | 0, _, _, _, _, _, _, _ => none
  | k + 1, x0, x3, x4, x5, x9, x53, x54 => if x9 > 0 then (if 0 ≤ x9 then (if x9 < (x3.length : Int) then (if 0 ≤ (wrap64 (x9 - 1)) then (if (wrap64 (x9 - 1)) < (x3.length : Int) then (if (Op.bytesLess ((rdOf ByteArray.empty x3 x9).toList) ((rdOf ByteArray.empty x3 (wrap64 (x9 - 1))).toList)) = true then (laws_FnMetricText.l2 k x0 ((x3.set (x9 : Int).toNat (rdOf ByteArray.empty x3 (wrap64 (x9 - 1)))).set ((wrap64 (x9 - 1)) : Int).toNat (rdOf ByteArray.empty x3 x9)) x4 x5 (wrap64 (x9 - 1)) x53 x54) else (laws_FnMetricText.l1 k x0 x3 x4 x5 x53 (wrap64 (x54 + 1)))) else (none)) else (none)) else (none)) else (none)) else (laws_FnMetricText.l1 k x0 x3 x4 x5 x53 (wrap64 (x54 + 1)))
end
def laws_FnMetricText.f (k : Nat) (l0 : List (S26)) : Option (Bool) := (laws_zzFits1.f k l0).bind fun t176 => (if t176 = true then ((impl_MetricText.f (([(⟨(⟨#[95, 95, 110, 97, 109, 101, 95, 95]⟩ : ByteArray), (⟨#[109]⟩ : ByteArray)⟩ : S26), (⟨(⟨#[97]⟩ : ByteArray), (⟨#[98]⟩ : ByteArray)⟩ : S26)] : List (S26)))).bind fun t180 => (if t180.toList = ([109, 123, 97, 61, 34, 98, 34, 125] : List UInt8) then ((laws_simpleLabels.f k l0).bind fun t181 => (if t181 = true then ((laws_pairs.f k l0).bind fun t182 => ((spec_Set.f k t182).bind fun t185 => (laws_FnMetricText.l0 k l0 ([] : List ByteArray) (⟨#[]⟩ : ByteArray) false t185 (t185.length : Int) 0))) else (some true))) else (some false))) else (some true))
theorem laws_FnMetricText.mono_l : ∀ k, (∀ y0 y1 y2 y3 y4 y5 y6, LeO (laws_FnMetricText.l0 k y0 y1 y2 y3 y4 y5 y6) (laws_FnMetricText.l0 (k + 1) y0 y1 y2 y3 y4 y5 y6)) ∧ (∀ y0 y1 y2 y3 y4, LeO (laws_FnMetricText.j1 k y0 y1 y2 y3 y4) (laws_FnMetricText.j1 (k + 1) y0 y1 y2 y3 y4)) ∧ (∀ y0 y1 y2 y3 y4 y5, LeO (laws_FnMetricText.l1 k y0 y1 y2 y3 y4 y5) (laws_FnMetricText.l1 (k + 1) y0 y1 y2 y3 y4 y5)) ∧ (∀ y0 y1 y2 y3 y4 y5 y6, LeO (laws_FnMetricText.l2 k y0 y1 y2 y3 y4 y5 y6) (laws_FnMetricText.l2 (k + 1) y0 y1 y2 y3 y4 y5 y6))
  | 0 => ⟨fun _ _ _ _ _ _ _ r h => by simp [laws_FnMetricText.l0] at h, fun _ _ _ _ _ r h => by simp [laws_FnMetricText.j1] at h, fun _ _ _ _ _ _ r h => by simp [laws_FnMetricText.l1] at h, fun _ _ _ _ _ _ _ r h => by simp [laws_FnMetricText.l2] at h⟩
  | k + 1 => by
    obtain ⟨ih0, ih1, ih2, ih3⟩ := laws_FnMetricText.mono_l k
    refine ⟨?_, ?_, ?_, ?_⟩
    · intro y0 y1 y2 y3 y4 y5 y6
      unfold laws_FnMetricText.l0
      repeat' first
      | (with_reducible exact ih0 _ _ _ _ _ _ _)
      | (with_reducible exact ih1 _ _ _ _ _)
      | (with_reducible exact ih2 _ _ _ _ _ _)
      | (with_reducible exact ih3 _ _ _ _ _ _ _)
      | (with_reducible exact laws_joined.mono _ _ _)
      | (with_reducible exact laws_legacy.mono _ _ _)
      | (with_reducible exact laws_pairs.mono _ _)
      | (with_reducible exact laws_simpleLabels.mono _ _)
      | (with_reducible exact laws_zzFits1.mono _ _)
      | (with_reducible exact spec_Set.mono _ _)
      | (with_reducible exact LeO.refl _)
      | (with_reducible exact LeO.none _)
      | (with_reducible refine LeO.ite ?_ ?_)
      | (with_reducible refine LeO.bind ?_ (fun _ => ?_))
      | exact ih0 _ _ _ _ _ _ _
      | exact ih1 _ _ _ _ _
      | exact ih2 _ _ _ _ _ _
      | exact ih3 _ _ _ _ _ _ _
      | exact laws_joined.mono _ _ _
      | exact laws_legacy.mono _ _ _
      | exact laws_pairs.mono _ _
      | exact laws_simpleLabels.mono _ _
      | exact laws_zzFits1.mono _ _
      | exact spec_Set.mono _ _
      | exact LeO.none _
      | refine LeO.ite ?_ ?_
      | refine LeO.bind ?_ (fun _ => ?_)
    · intro y0 y1 y2 y3 y4
      unfold laws_FnMetricText.j1
      repeat' first
      | (with_reducible exact ih0 _ _ _ _ _ _ _)
      | (with_reducible exact ih1 _ _ _ _ _)
      | (with_reducible exact ih2 _ _ _ _ _ _)
      | (with_reducible exact ih3 _ _ _ _ _ _ _)
      | (with_reducible exact laws_joined.mono _ _ _)
      | (with_reducible exact laws_legacy.mono _ _ _)
      | (with_reducible exact laws_pairs.mono _ _)
      | (with_reducible exact laws_simpleLabels.mono _ _)
      | (with_reducible exact laws_zzFits1.mono _ _)
      | (with_reducible exact spec_Set.mono _ _)
      | (with_reducible exact LeO.refl _)
      | (with_reducible exact LeO.none _)
      | (with_reducible refine LeO.ite ?_ ?_)
      | (with_reducible refine LeO.bind ?_ (fun _ => ?_))
      | exact ih0 _ _ _ _ _ _ _
      | exact ih1 _ _ _ _ _
      | exact ih2 _ _ _ _ _ _
      | exact ih3 _ _ _ _ _ _ _
      | exact laws_joined.mono _ _ _
      | exact laws_legacy.mono _ _ _
      | exact laws_pairs.mono _ _
      | exact laws_simpleLabels.mono _ _
      | exact laws_zzFits1.mono _ _
      | exact spec_Set.mono _ _
      | exact LeO.none _
      | refine LeO.ite ?_ ?_
      | refine LeO.bind ?_ (fun _ => ?_)
    · intro y0 y1 y2 y3 y4 y5
      unfold laws_FnMetricText.l1
      repeat' first
      | (with_reducible exact ih0 _ _ _ _ _ _ _)
      | (with_reducible exact ih1 _ _ _ _ _)
      | (with_reducible exact ih2 _ _ _ _ _ _)
      | (with_reducible exact ih3 _ _ _ _ _ _ _)
      | (with_reducible exact laws_joined.mono _ _ _)
      | (with_reducible exact laws_legacy.mono _ _ _)
      | (with_reducible exact laws_pairs.mono _ _)
      | (with_reducible exact laws_simpleLabels.mono _ _)
      | (with_reducible exact laws_zzFits1.mono _ _)
      | (with_reducible exact spec_Set.mono _ _)
      | (with_reducible exact LeO.refl _)
      | (with_reducible exact LeO.none _)
      | (with_reducible refine LeO.ite ?_ ?_)
      | (with_reducible refine LeO.bind ?_ (fun _ => ?_))
      | exact ih0 _ _ _ _ _ _ _
      | exact ih1 _ _ _ _ _
      | exact ih2 _ _ _ _ _ _
      | exact ih3 _ _ _ _ _ _ _
      | exact laws_joined.mono _ _ _
      | exact laws_legacy.mono _ _ _
      | exact laws_pairs.mono _ _
      | exact laws_simpleLabels.mono _ _
      | exact laws_zzFits1.mono _ _
      | exact spec_Set.mono _ _
      | exact LeO.none _
      | refine LeO.ite ?_ ?_
      | refine LeO.bind ?_ (fun _ => ?_)
    · intro y0 y1 y2 y3 y4 y5 y6
      unfold laws_FnMetricText.l2
      repeat' first
      | (with_reducible exact ih0 _ _ _ _ _ _ _)
      | (with_reducible exact ih1 _ _ _ _ _)
      | (with_reducible exact ih2 _ _ _ _ _ _)
      | (with_reducible exact ih3 _ _ _ _ _ _ _)
      | (with_reducible exact laws_joined.mono _ _ _)
      | (with_reducible exact laws_legacy.mono _ _ _)
      | (with_reducible exact laws_pairs.mono _ _)
      | (with_reducible exact laws_simpleLabels.mono _ _)
      | (with_reducible exact laws_zzFits1.mono _ _)
      | (with_reducible exact spec_Set.mono _ _)
      | (with_reducible exact LeO.refl _)
      | (with_reducible exact LeO.none _)
      | (with_reducible refine LeO.ite ?_ ?_)
      | (with_reducible refine LeO.bind ?_ (fun _ => ?_))
      | exact ih0 _ _ _ _ _ _ _
      | exact ih1 _ _ _ _ _
      | exact ih2 _ _ _ _ _ _
      | exact ih3 _ _ _ _ _ _ _
      | exact laws_joined.mono _ _ _
      | exact laws_legacy.mono _ _ _
      | exact laws_pairs.mono _ _
      | exact laws_simpleLabels.mono _ _
      | exact laws_zzFits1.mono _ _
      | exact spec_Set.mono _ _
      | exact LeO.none _
      | refine LeO.ite ?_ ?_
      | refine LeO.bind ?_ (fun _ => ?_)
theorem laws_FnMetricText.mono : ∀ a0 k, LeO (laws_FnMetricText.f k a0) (laws_FnMetricText.f (k + 1) a0) := by
  intro a0 k
  obtain ⟨ih0, ih1, ih2, ih3⟩ := laws_FnMetricText.mono_l k
  unfold laws_FnMetricText.f
  repeat' first
      | (with_reducible exact ih0 _ _ _ _ _ _ _)
      | (with_reducible exact ih1 _ _ _ _ _)
      | (with_reducible exact ih2 _ _ _ _ _ _)
      | (with_reducible exact ih3 _ _ _ _ _ _ _)
      | (with_reducible exact laws_joined.mono _ _ _)
      | (with_reducible exact laws_legacy.mono _ _ _)
      | (with_reducible exact laws_pairs.mono _ _)
      | (with_reducible exact laws_simpleLabels.mono _ _)
      | (with_reducible exact laws_zzFits1.mono _ _)
      | (with_reducible exact spec_Set.mono _ _)
      | (with_reducible exact LeO.refl _)
      | (with_reducible exact LeO.none _)
      | (with_reducible refine LeO.ite ?_ ?_)
      | (with_reducible refine LeO.bind ?_ (fun _ => ?_))
      | exact ih0 _ _ _ _ _ _ _
      | exact ih1 _ _ _ _ _
      | exact ih2 _ _ _ _ _ _
      | exact ih3 _ _ _ _ _ _ _
      | exact laws_joined.mono _ _ _
      | exact laws_legacy.mono _ _ _
      | exact laws_pairs.mono _ _
      | exact laws_simpleLabels.mono _ _
      | exact laws_zzFits1.mono _ _
      | exact spec_Set.mono _ _
      | exact LeO.none _
      | refine LeO.ite ?_ ?_
      | refine LeO.bind ?_ (fun _ => ?_)
def laws_FnMetricText.T22 : Bool × List (List Nat × List Nat) := (true, [([], []), ([0], [0]), ([1], [1]), ([2], [2]), ([2], [2]), ([3, 4, 2], [2, 3, 4]), ([5, 2], [2, 5]), ([2], [2]), ([2], [2]), ([8, 2], [2, 8]), ([7, 9, 2], [2, 7, 9]), ([10, 2], [2, 10]), ([6, 11, 2], [2, 6, 11]), ([2, 12], [2, 12])])
def laws_FnMetricText.B22 : List Nat := [0, 1, 3, 7, 7, 31, 63, 7, 7, 263, 903, 1927, 4095, 8191]
theorem laws_FnMetricText.tab22 : rtab .any (opsOf Tryd.f3 22) = laws_FnMetricText.T22 := by kernel_rfl
theorem laws_FnMetricText.bits22 : waitsOk laws_FnMetricText.T22.2 laws_FnMetricText.B22 = true := by kernel_rfl
def laws_FnMetricText.T24 : Bool × List (List Nat × List Nat) := (true, [([], []), ([], []), ([], []), ([], []), ([3], [3]), ([], []), ([], []), ([6], [6]), ([5, 7], [5, 7]), ([8], [8]), ([], []), ([], []), ([10, 11], [10, 11]), ([12], [12]), ([0, 1, 0, 1, 5, 6, 7, 8, 9, 13], [0, 1]), ([14, 9, 0, 1, 5, 6, 7, 8, 9, 13], [9, 14]), ([2, 4, 0, 1, 2, 3, 4, 5, 6, 7, 8, 9, 10, 11, 12, 13, 14, 15], [2, 4]), ([16, 13, 15, 0, 1, 2, 3, 4, 5, 6, 7, 8, 9, 10, 11, 12, 13, 14, 15], [13, 16])])
def laws_FnMetricText.B24 : List Nat := [0, 0, 0, 0, 8, 0, 0, 64, 224, 480, 0, 0, 3072, 7168, 16355, 32739, 65535, 131071]
theorem laws_FnMetricText.tab24 : rtab .any (opsOf Tryd.f3 24) = laws_FnMetricText.T24 := by kernel_rfl
theorem laws_FnMetricText.bits24 : waitsOk laws_FnMetricText.T24.2 laws_FnMetricText.B24 = true := by kernel_rfl
set_option maxHeartbeats 8000000 in
set_option maxRecDepth 100000 in
theorem laws_FnMetricText.calls (k : Nat) (A0 : Option Addr) (c0 : Nat) (l0 : List (S26)) (r : Bool) (w : World) (hr0 : Kd.C k26 w A0 l0.length l0) (hc0 : l0.length ≤ c0) (hT_ : Go.Proofs.YtenededepjfojaaDoor.Door.PQ w) (h : laws_FnMetricText.f k l0 = some r) :
    Calls Tryd.prog 3 #[.slice A0 l0.length c0] w fun e w' => e = .returned (.bool r) ∧ Below w.heap.size w w' := by
  have HT_ := Aside0.mk hT_
  clear hT_
  have hu26 := Tryd.underlying26
  have hu31 := Tryd.underlying31
  have HR0 := Aside0.mk hr0
  have HC0 := Aside0.mk hc0
  clear hr0 hc0
  have HB := Aside0.mk (Below.refl w.heap.size w)
  have H : ((laws_zzFits1.f k l0).bind fun t176 => (if t176 = true then ((impl_MetricText.f (([(⟨(⟨#[95, 95, 110, 97, 109, 101, 95, 95]⟩ : ByteArray), (⟨#[109]⟩ : ByteArray)⟩ : S26), (⟨(⟨#[97]⟩ : ByteArray), (⟨#[98]⟩ : ByteArray)⟩ : S26)] : List (S26)))).bind fun t180 => (if t180.toList = ([109, 123, 97, 61, 34, 98, 34, 125] : List UInt8) then ((laws_simpleLabels.f k l0).bind fun t181 => (if t181 = true then ((laws_pairs.f k l0).bind fun t182 => ((spec_Set.f k t182).bind fun t185 => (laws_FnMetricText.l0 k l0 ([] : List ByteArray) (⟨#[]⟩ : ByteArray) false t185 (t185.length : Int) 0))) else (some true))) else (some false))) else (some true))) = some r := h
  clear h
  replace H := Option.bind_eq_some_iff.mp H
  obtain ⟨t176, A20, H⟩ := H
  replace H : (if t176 = true then ((impl_MetricText.f (([(⟨(⟨#[95, 95, 110, 97, 109, 101, 95, 95]⟩ : ByteArray), (⟨#[109]⟩ : ByteArray)⟩ : S26), (⟨(⟨#[97]⟩ : ByteArray), (⟨#[98]⟩ : ByteArray)⟩ : S26)] : List (S26)))).bind fun t180 => (if t180.toList = ([109, 123, 97, 61, 34, 98, 34, 125] : List UInt8) then ((laws_simpleLabels.f k l0).bind fun t181 => (if t181 = true then ((laws_pairs.f k l0).bind fun t182 => ((spec_Set.f k t182).bind fun t185 => (laws_FnMetricText.l0 k l0 ([] : List ByteArray) (⟨#[]⟩ : ByteArray) false t185 (t185.length : Int) 0))) else (some true))) else (some false))) else (some true)) = some r := H
  have A2 := Aside0.mk A20
  clear A20
  by_cases c3 : t176 = true
  · subst c3
    have H1 : ((impl_MetricText.f (([(⟨(⟨#[95, 95, 110, 97, 109, 101, 95, 95]⟩ : ByteArray), (⟨#[109]⟩ : ByteArray)⟩ : S26), (⟨(⟨#[97]⟩ : ByteArray), (⟨#[98]⟩ : ByteArray)⟩ : S26)] : List (S26)))).bind fun t180 => (if t180.toList = ([109, 123, 97, 61, 34, 98, 34, 125] : List UInt8) then ((laws_simpleLabels.f k l0).bind fun t181 => (if t181 = true then ((laws_pairs.f k l0).bind fun t182 => ((spec_Set.f k t182).bind fun t185 => (laws_FnMetricText.l0 k l0 ([] : List ByteArray) (⟨#[]⟩ : ByteArray) false t185 (t185.length : Int) 0))) else (some true))) else (some false))) = some r := by rw [if_pos rfl] at H; exact H
    clear H
    have H := H1
    clear H1
    obtain ⟨y177, hy177⟩ : ∃ y_ : List (S26), y_ = (([(⟨(⟨#[95, 95, 110, 97, 109, 101, 95, 95]⟩ : ByteArray), (⟨#[109]⟩ : ByteArray)⟩ : S26), (⟨(⟨#[97]⟩ : ByteArray), (⟨#[98]⟩ : ByteArray)⟩ : S26)] : List (S26))) := ⟨_, rfl⟩
    replace H : ((impl_MetricText.f y177).bind fun t180 => (if t180.toList = ([109, 123, 97, 61, 34, 98, 34, 125] : List UInt8) then ((laws_simpleLabels.f k l0).bind fun t181 => (if t181 = true then ((laws_pairs.f k l0).bind fun t182 => ((spec_Set.f k t182).bind fun t185 => (laws_FnMetricText.l0 k l0 ([] : List ByteArray) (⟨#[]⟩ : ByteArray) false t185 (t185.length : Int) 0))) else (some true))) else (some false))) = some r := by first | (rw [hy177]; with_reducible exact H) | (have H2_ := (Option.bind_some _ _).symm.trans H; rw [hy177]; with_reducible exact H2_) | (have H2_ := (Option.bind_some _ _).symm.trans H; with_reducible exact H2_) | with_reducible exact H | (rw [hy177]; exact H) | exact H
    have Ny177 := Aside0.mk hy177
    clear hy177
    replace H := Option.bind_eq_some_iff.mp H
    obtain ⟨t180, A40, H⟩ := H
    replace H : (if t180.toList = ([109, 123, 97, 61, 34, 98, 34, 125] : List UInt8) then ((laws_simpleLabels.f k l0).bind fun t181 => (if t181 = true then ((laws_pairs.f k l0).bind fun t182 => ((spec_Set.f k t182).bind fun t185 => (laws_FnMetricText.l0 k l0 ([] : List ByteArray) (⟨#[]⟩ : ByteArray) false t185 (t185.length : Int) 0))) else (some true))) else (some false)) = some r := H
    have A4 := Aside0.mk A40
    clear A40
    by_cases c5 : t180.toList = ([109, 123, 97, 61, 34, 98, 34, 125] : List UInt8)
    · rw [if_pos c5] at H
      have c5b0 : (t180.toList == ([109, 123, 97, 61, 34, 98, 34, 125] : List UInt8)) = true := beq_iff_eq.mpr c5
      have c5b1 : (t180.toList != ([109, 123, 97, 61, 34, 98, 34, 125] : List UInt8)) = false := bne_eq_false_iff_eq.mpr c5
      clear c5
      replace H := Option.bind_eq_some_iff.mp H
      obtain ⟨t181, A60, H⟩ := H
      replace H : (if t181 = true then ((laws_pairs.f k l0).bind fun t182 => ((spec_Set.f k t182).bind fun t185 => (laws_FnMetricText.l0 k l0 ([] : List ByteArray) (⟨#[]⟩ : ByteArray) false t185 (t185.length : Int) 0))) else (some true)) = some r := H
      have A6 := Aside0.mk A60
      clear A60
      by_cases c7 : t181 = true
      · subst c7
        have H1 : ((laws_pairs.f k l0).bind fun t182 => ((spec_Set.f k t182).bind fun t185 => (laws_FnMetricText.l0 k l0 ([] : List ByteArray) (⟨#[]⟩ : ByteArray) false t185 (t185.length : Int) 0))) = some r := by rw [if_pos rfl] at H; exact H
        clear H
        have H := H1
        clear H1
        replace H := Option.bind_eq_some_iff.mp H
        obtain ⟨t182, A80, H⟩ := H
        replace H : ((spec_Set.f k t182).bind fun t185 => (laws_FnMetricText.l0 k l0 ([] : List ByteArray) (⟨#[]⟩ : ByteArray) false t185 (t185.length : Int) 0)) = some r := H
        have A8 := Aside0.mk A80
        clear A80
        replace H := Option.bind_eq_some_iff.mp H
        obtain ⟨t185, A90, H⟩ := H
        replace H : (laws_FnMetricText.l0 k l0 ([] : List ByteArray) (⟨#[]⟩ : ByteArray) false t185 (t185.length : Int) 0) = some r := H
        have A9 := Aside0.mk A90
        clear A90
        have H' := Aside0.mk H
        clear H
        go_enter Tryd.func3, Tryd.ntmps3
        go_wp2_with (first | ((with_reducible refine gate_callee (f := 6) rfl ?_); refine goesL_ (some 12) rfl rfl Tryd.func6 (by kernel_rfl) rfl #[.slice A0 l0.length c0] rfl (by (try simp only [List.map_toArray, List.map_cons, List.map_nil]); first | done | rfl | (simp only [List.length_drop, List.length_take]; rfl)) ?_; (with_reducible refine (laws_zzFits1.calls k _ _ l0 true _ ?side1 ?side2 A2.out).mono ?_); (case side1 => repeat (first | exact HR0.out | (with_reducible refine Kd.C_alloc ?_ _) | (with_reducible refine Kd.C_drewN ?_ _) | (with_reducible refine Kd.C_drew ?_))); (case side2 => exact HC0.out); rintro e w10 ⟨rfl, hb⟩; refine ⟨_, rfl, ?_⟩; have n0_ := Aside0.mk (below_step (by repeat (first | (with_reducible first | exact HB.out | apply below_alloc | apply pw_below_drewN | apply below_drew1) | exact HB.out)) hb); clear HB; have HB := n0_; clear n0_; (try clear hb); (try clear hb2); (try clear hk); (try clear hi)) | ((with_reducible refine gate_dst (N := 16) rfl ?_); (try (refine gate_guard (by rfl) ?_; dsimp only)); refine Kd.R_lit k26 _ 26 ?hg (N := 16) ?hd (xs := ([(⟨(⟨#[95, 95, 110, 97, 109, 101, 95, 95]⟩ : ByteArray), (⟨#[109]⟩ : ByteArray)⟩ : S26), (⟨(⟨#[97]⟩ : ByteArray), (⟨#[98]⟩ : ByteArray)⟩ : S26)] : List (S26))) (inner := [.string (⟨#[95, 95, 110, 97, 109, 101, 95, 95]⟩ : ByteArray), .string (⟨#[109]⟩ : ByteArray), .string (⟨#[97]⟩ : ByteArray), .string (⟨#[98]⟩ : ByteArray)]) (ok := fun _ => True) (okp := fun _ => True) ?hr ?hp (fun _ hk => hk) trivial (Below.refl _ _) (Nat.le_refl _) (by simp) ?_; (case hd => rfl); (case hg => rfl); (case hr => first | (go_simp; done) | (go_simp; rfl)); (case hp => exact (Reps.c2 (show Kd.M k26 _ _ _ (⟨(⟨#[95, 95, 110, 97, 109, 101, 95, 95]⟩ : ByteArray), (⟨#[109]⟩ : ByteArray)⟩ : S26) [.string (⟨#[95, 95, 110, 97, 109, 101, 95, 95]⟩ : ByteArray), .string (⟨#[109]⟩ : ByteArray)] from (k26_mkM _ _ _ (⟨(⟨#[95, 95, 110, 97, 109, 101, 95, 95]⟩ : ByteArray), (⟨#[109]⟩ : ByteArray)⟩ : S26) )) (Reps.c2 (show Kd.M k26 _ _ _ (⟨(⟨#[97]⟩ : ByteArray), (⟨#[98]⟩ : ByteArray)⟩ : S26) [.string (⟨#[97]⟩ : ByteArray), .string (⟨#[98]⟩ : ByteArray)] from (k26_mkM _ _ _ (⟨(⟨#[97]⟩ : ByteArray), (⟨#[98]⟩ : ByteArray)⟩ : S26) )) (Reps.none _ _)))); intro v178 w11 ho12 hb hg_ hnew_; clear hg_ hnew_; (first | rw [← Ny177.out] at ho12 | (simp only [Int.reduceToNat] at ho12; rw [← Ny177.out] at ho12)); have n0_ := Aside0.mk (Kd.R_lower ho12 (below_size (by repeat (first | (with_reducible first | exact HB.out | apply below_alloc | apply pw_below_drewN | apply below_drew1) | exact HB.out)))); have n1_ := Aside0.mk (below_step (by repeat (first | (with_reducible first | exact HB.out | apply below_alloc | apply pw_below_drewN | apply below_drew1) | exact HB.out)) hb); clear HB; have HO179 := n0_; have HB := n1_; clear n0_ n1_; clear hb ho12; obtain ⟨Ao13, co13, eo13⟩ := Kd.R_slice HO179.out; subst eo13) | ((with_reducible refine gate_callee (f := 7) rfl ?_); refine goesL_ (some 17) rfl rfl Tryd.func7 (by kernel_rfl) rfl #[.slice Ao13 y177.length co13] rfl (by (try simp only [List.map_toArray, List.map_cons, List.map_nil]); first | done | rfl | (simp only [List.length_drop, List.length_take]; rfl)) ?_; (with_reducible refine (impl_MetricText.calls _ _ y177 t180 _ ?side1 ?side2 ?side3 A4.out).mono ?_); (case side1 => repeat (first | exact (Kd.R_reads' HO179.out).2.2 | (with_reducible refine Kd.C_alloc ?_ _) | (with_reducible refine Kd.C_drewN ?_ _) | (with_reducible refine Kd.C_drew ?_))); (case side2 => exact (Kd.R_reads' HO179.out).2.1); (case side3 => exact Go.Proofs.YtenededepjfojaaDoor.Door.PQ.below HT_.out (by repeat (first | (with_reducible first | exact HB.out | apply below_alloc | apply pw_below_drewN | apply below_drew1) | exact HB.out))); rintro e w14 ⟨rfl, hb⟩; refine ⟨_, rfl, ?_⟩; have n0_ := Aside0.mk (Kd.R_below (by (with_reducible repeat (first | apply Kd.R_alloc | apply Kd.R_drewN | apply Kd.R_drew)); exact HO179.out) hb); have n1_ := Aside0.mk (below_step (by repeat (first | (with_reducible first | exact HB.out | apply below_alloc | apply pw_below_drewN | apply below_drew1) | exact HB.out)) hb); clear HO179; clear HB; have HO179 := n0_; have HB := n1_; clear n0_ n1_; (try clear hb); (try clear hb2); (try clear hk); (try clear hi)) | ((with_reducible refine gate_callee (f := 8) rfl ?_); refine goesL_ (some 20) rfl rfl Tryd.func8 (by kernel_rfl) rfl #[.slice A0 l0.length c0] rfl (by (try simp only [List.map_toArray, List.map_cons, List.map_nil]); first | done | rfl | (simp only [List.length_drop, List.length_take]; rfl)) ?_; (with_reducible refine (laws_simpleLabels.calls k _ _ l0 true _ ?side1 ?side2 A6.out).mono ?_); (case side1 => repeat (first | exact (Kd.C_below HR0.out HB.out) | (with_reducible refine Kd.C_alloc ?_ _) | (with_reducible refine Kd.C_drewN ?_ _) | (with_reducible refine Kd.C_drew ?_))); (case side2 => exact HC0.out); rintro e w15 ⟨rfl, hb⟩; refine ⟨_, rfl, ?_⟩; have n0_ := Aside0.mk (Kd.R_below (by (with_reducible repeat (first | apply Kd.R_alloc | apply Kd.R_drewN | apply Kd.R_drew)); exact HO179.out) hb); have n1_ := Aside0.mk (below_step (by repeat (first | (with_reducible first | exact HB.out | apply below_alloc | apply pw_below_drewN | apply below_drew1) | exact HB.out)) hb); clear HO179; clear HB; have HO179 := n0_; have HB := n1_; clear n0_ n1_; (try clear hb); (try clear hb2); (try clear hk); (try clear hi)) | ((with_reducible refine gate_callee (f := 10) rfl ?_); refine goesL_ (some 23) rfl rfl Tryd.func10 (by kernel_rfl) rfl #[.slice A0 l0.length c0] rfl (by (try simp only [List.map_toArray, List.map_cons, List.map_nil]); first | done | rfl | (simp only [List.length_drop, List.length_take]; rfl)) ?_; (with_reducible refine (laws_pairs.calls k _ _ l0 t182 _ ?side1 ?side2 A8.out).mono ?_); (case side1 => repeat (first | exact (Kd.C_below HR0.out HB.out) | (with_reducible refine Kd.C_alloc ?_ _) | (with_reducible refine Kd.C_drewN ?_ _) | (with_reducible refine Kd.C_drew ?_))); (case side2 => exact HC0.out); rintro e w16 ⟨v183, rfl, ho0, hb⟩; refine ⟨_, rfl, ?_⟩; have n0_ := Aside0.mk (Kd.R_below (by (with_reducible repeat (first | apply Kd.R_alloc | apply Kd.R_drewN | apply Kd.R_drew)); exact HO179.out) hb); have n1_ := Aside0.mk (Kd.R_lower ho0 (below_size (by repeat (first | (with_reducible first | exact HB.out | apply below_alloc | apply pw_below_drewN | apply below_drew1) | exact HB.out)))); have n2_ := Aside0.mk (below_step (by repeat (first | (with_reducible first | exact HB.out | apply below_alloc | apply pw_below_drewN | apply below_drew1) | exact HB.out)) hb); clear HO179; clear HB; have HO179 := n0_; have HO184 := n1_; have HB := n2_; clear n0_ n1_ n2_; (try clear hb); (try clear hb2); (try clear hk); (try clear hi); (try clear ho0); obtain ⟨Ao17, co17, eo17⟩ := Kd.R_slice HO184.out; subst eo17) | ((with_reducible refine gate_callee (f := 9) rfl ?_); refine goesL_ (some 24) rfl rfl Tryd.func9 (by kernel_rfl) rfl #[.slice Ao17 t182.length co17] rfl (by (try simp only [List.map_toArray, List.map_cons, List.map_nil]); first | done | rfl | (simp only [List.length_drop, List.length_take]; rfl)) ?_; (with_reducible refine (spec_Set.calls k _ _ t182 t185 _ ?side1 ?side2 A9.out).mono ?_); (case side1 => repeat (first | exact (Kd.R_reads' HO184.out).2.2 | (with_reducible refine Kd.C_alloc ?_ _) | (with_reducible refine Kd.C_drewN ?_ _) | (with_reducible refine Kd.C_drew ?_))); (case side2 => exact (Kd.R_reads' HO184.out).2.1); rintro e w18 ⟨v186, rfl, ho0, hb⟩; refine ⟨_, rfl, ?_⟩; have n0_ := Aside0.mk (Kd.R_below (by (with_reducible repeat (first | apply Kd.R_alloc | apply Kd.R_drewN | apply Kd.R_drew)); exact HO179.out) hb); have n1_ := Aside0.mk (Kd.R_elder' (by (with_reducible repeat (first | apply Kd.R_alloc | apply Kd.R_drewN | apply Kd.R_drew)); exact HO184.out) (Kd.R_base ho0) hb); have n2_ := Aside0.mk (Kd.R_lower (Kd.R_new' ho0 (Kd.R_lt (by (with_reducible repeat (first | apply Kd.R_alloc | apply Kd.R_drewN | apply Kd.R_drew)); exact HO184.out))) (below_size (by repeat (first | (with_reducible first | exact HB.out | apply below_alloc | apply pw_below_drewN | apply below_drew1) | exact HB.out)))); have n3_ := Aside0.mk (below_step (by repeat (first | (with_reducible first | exact HB.out | apply below_alloc | apply pw_below_drewN | apply below_drew1) | exact HB.out)) hb); clear HO179; clear HO184; clear HB; have HO179 := n0_; have HO184 := n1_; have HO187 := n2_; have HB := n3_; clear n0_ n1_ n2_ n3_; (try clear hb); (try clear hb2); (try clear hk); (try clear hi); (try clear ho0); obtain ⟨Ao19, co19, eo19⟩ := Kd.R_slice HO187.out; subst eo19))
        go_loopg [3, 4, 5, 26] k (fun kq v3 v4 v5 v26 w' => ∃ (x3_1 : List ByteArray) (x4_1 : ByteArray) (x5_1 : Bool) (x26_1 : Int), v4 = .string x4_1 ∧ v5 = .bool x5_1 ∧ v26 = .int .i64 x26_1 ∧ Aside0 (laws_FnMetricText.l0 kq l0 x3_1 x4_1 x5_1 t185 (t185.length : Int) x26_1 = some r) ∧ Aside0 (kq ≤ k) ∧ Aside0 (Kd.R Kd.string 9 w' w.heap.size (fun _ => True) v3 x3_1) ∧ Aside0 (Kd.R k31 31 w' w.heap.size (fun _ => True) (.slice Ao19 t185.length co19) t185) ∧ Aside0 (Below w.heap.size w w'))
        case atStart => exact ⟨(([] : List ByteArray)), ((⟨#[]⟩ : ByteArray)), (false), (0), (by first | rfl | (simp; done) | (simp [*]; done)), (by first | rfl | (simp; done) | (simp [*]; done)), (by first | rfl | (simp; done) | (simp [*]; done)), H', ⟨Nat.le_refl _⟩, ⟨by first | exact Kd.R_nil _ _ _ _ _ | exact Kd.N_nil _ _ _ _ _ | exact Kd.V_nil _ _ _ _ _ | exact Kd.Q_nil _ _ _ _ _ | exact Kd.S_nil _ _ _ _ _⟩, ⟨by (with_reducible repeat (first | apply Kd.R_alloc | apply Kd.R_drewN | apply Kd.R_drew)); exact Kd.R_mono HO187.out (fun _ hk => trivial)⟩, ⟨by repeat (first | (with_reducible first | exact HB.out | apply below_alloc | apply pw_below_drewN | apply below_drew1) | exact HB.out)⟩⟩
        case round =>
          clear H'
          try clear c1
          try clear c2
          try clear p2
          try clear c3
          try clear c5
          try clear c5b0
          try clear c5b1
          try clear c6
          try clear c7
          try clear c8
          try clear c9
          try clear c10
          obtain ⟨x3_1, x4_1, x5_1, x26_1, rfl, rfl, rfl, HA, HK1, HO_3, HO_24, HB⟩ := hrel
          cases gk with
          | zero => exact absurd HA.out (by simp [laws_FnMetricText.l0])
          | succ k1 =>
            have H := HA.out
            clear HA
            simp only [laws_FnMetricText.l0] at H
            by_cases c20 : x26_1 < (t185.length : Int)
            · rw [if_pos c20] at H
              have c20b0 : decide (x26_1 < (t185.length : Int)) = true := decide_eq_true c20
              clear c20
              by_cases c21 : 0 ≤ x26_1
              · rw [if_pos c21] at H
                have c21b0 : decide (0 ≤ x26_1) = true := decide_eq_true c21
                clear c21
                by_cases c22 : x26_1 < (t185.length : Int)
                · rw [if_pos c22] at H
                  have c22b0 : decide (x26_1 < (t185.length : Int)) = true := decide_eq_true c22
                  clear c22
                  by_cases c23 : ((rd_T31 t185 x26_1).f0).toList = ([95, 95, 110, 97, 109, 101, 95, 95] : List UInt8)
                  · rw [if_pos c23] at H
                    have c23b0 : (((rd_T31 t185 x26_1).f0).toList == ([95, 95, 110, 97, 109, 101, 95, 95] : List UInt8)) = true := beq_iff_eq.mpr c23
                    have c23b1 : (((rd_T31 t185 x26_1).f0).toList != ([95, 95, 110, 97, 109, 101, 95, 95] : List UInt8)) = false := bne_eq_false_iff_eq.mpr c23
                    clear c23
                    have H' := Aside0.mk H
                    clear H
                    have p188 : 0 ≤ (x26_1 : Int) := of_decide_eq_true (by first | (with_reducible assumption) | assumption)
                    have q188 : x26_1 < (t185.length : Int) := of_decide_eq_true (by first | (with_reducible assumption) | assumption)
                    obtain ⟨ad188, e188, hx188_0, hx188_1⟩ := at_T31 (Kd.R_reads' HO_24.out).2.2 x26_1 p188 q188
                    cases e188
                    replace p188 := eq_true p188
                    replace q188 := eq_true q188
                    go_wp2_with (first | ((with_reducible refine gate_dst (N := 7) rfl ?_); (try (refine gate_guard (by rfl) ?_; dsimp only)); refine box_event ?hg (N := 7) ?hd (cs := #[.string (⟨#[]⟩ : ByteArray), .string (⟨#[]⟩ : ByteArray)]) (t := 31) ?hr ?_; (case hd => rfl); (case hg => rfl); (case hr => first | (go_simp; done) | (go_simp; rfl)); intro gb189 hg w24 hbox hb; have n0_ := Aside0.mk (Kd.R_below (by (with_reducible repeat (first | apply Kd.R_alloc | apply Kd.R_drewN | apply Kd.R_drew)); exact HO_3.out) hb); have n1_ := Aside0.mk (Kd.R_below (Kd.R_elderB (by (with_reducible repeat (first | apply Kd.R_alloc | apply Kd.R_drewN | apply Kd.R_drew)); exact HO_24.out) gb189 (Nat.le_of_eq hg.symm)) hb); have n2_ := Aside0.mk (below_step (by repeat (first | (with_reducible first | exact HB.out | apply below_alloc | apply pw_below_drewN | apply below_drew1) | exact HB.out)) hb); have n3_ := Aside0.mk (hbox); have n4_ := Aside0.mk ((by rw [hg]; exact (below_size (by repeat (first | (with_reducible first | exact HB.out | apply below_alloc | apply pw_below_drewN | apply below_drew1) | exact HB.out))) : w.heap.size ≤ gb189)); have n5_ := Aside0.mk ((by rw [hg]; exact (below_size (by repeat (first | (with_reducible first | exact HB.out | apply below_alloc | apply pw_below_drewN | apply below_drew1) | exact HB.out))) : w.heap.size ≤ gb189)); clear HO_3; clear HO_24; clear HB; have HO_3 := n0_; have HO_24 := n1_; have HB := n2_; have BK189 := n3_; have GW189 := n4_; have GE189 := n5_; clear n0_ n1_ n2_ n3_ n4_ n5_; clear hb hbox hg; have hcz25_0 : w24.cell? ⟨gb189, 0, none⟩ = some (.string (⟨#[]⟩ : ByteArray)) := (blk_cell BK189.out 0).trans rfl; have hcz25_1 : w24.cell? ⟨gb189, 1, none⟩ = some (.string (⟨#[]⟩ : ByteArray)) := (blk_cell BK189.out 1).trans rfl; have hfz25_0 := blk_frozen BK189.out 0; have hfz25_1 := blk_frozen BK189.out 1))
                    go_roundg k1
                    case measure => have := HK1.out; omega
                    case rel => exact ⟨(x3_1), ((rd_T31 t185 x26_1).f1), (true), (wrap64 (x26_1 + 1)), (by first | rfl | (simp; done) | (simp [*]; done)), (by first | rfl | (simp; done) | (simp [*]; done)), (by first | rfl | (simp; done) | (simp [*]; done)), H', ⟨by have := HK1.out; omega⟩, ⟨by (with_reducible repeat (first | apply Kd.R_alloc | apply Kd.R_drewN | apply Kd.R_drew)); exact Kd.R_mono (Kd.R_far (p := ⟨gb189, 1, none⟩) (Kd.R_far (p := ⟨gb189, 0, none⟩) (Kd.R_types HO_3.out BK189.out (by decide)) (fun _ hk => hk.2) (.string ((rd_T31 t185 x26_1).f0))) (fun _ hk => hk.2) (.string ((rd_T31 t185 x26_1).f1))) (fun _ hk => trivial)⟩, ⟨by (with_reducible repeat (first | apply Kd.R_alloc | apply Kd.R_drewN | apply Kd.R_drew)); exact Kd.R_mono (Kd.R_far (p := ⟨gb189, 1, none⟩) (Kd.R_far (p := ⟨gb189, 0, none⟩) (Kd.R_mono HO_24.out (fun k_ hk => (⟨hk, hk.2⟩ : _ ∧ k_ ≠ gb189))) (fun _ hk => hk.2) (.string ((rd_T31 t185 x26_1).f0))) (fun _ hk => hk.2) (.string ((rd_T31 t185 x26_1).f1))) (fun _ hk => trivial)⟩, ⟨by repeat (first | (with_reducible first | exact HB.out | apply below_alloc | apply pw_below_drewN | apply below_drew1 | refine below_set ?_ GE189.out) | exact HB.out)⟩⟩
                  · rw [if_neg c23] at H
                    have c23b0 : (((rd_T31 t185 x26_1).f0).toList == ([95, 95, 110, 97, 109, 101, 95, 95] : List UInt8)) = false := beq_eq_false_iff_ne.mpr c23
                    have c23b1 : (((rd_T31 t185 x26_1).f0).toList != ([95, 95, 110, 97, 109, 101, 95, 95] : List UInt8)) = true := bne_iff_ne.mpr c23
                    by_cases c26 : ((rd_T31 t185 x26_1).f0).size + 2 ≤ 9223372036854775807
                    · rw [if_pos c26] at H
                      have c26b0 := eq_true c26
                      have c26b1 : decide (((rd_T31 t185 x26_1).f0).size + 2 ≤ 9223372036854775807) = true := decide_eq_true c26
                      try have c26b2 : (9223372036854775807 < ((rd_T31 t185 x26_1).f0).size + 2) = False := eq_false (Nat.not_lt.2 c26)
                      by_cases c27 : (((rd_T31 t185 x26_1).f0) ++ (⟨#[61, 34]⟩ : ByteArray)).size + ((rd_T31 t185 x26_1).f1).size ≤ 9223372036854775807
                      · rw [if_pos c27] at H
                        have c27b0 := eq_true c27
                        have c27b1 : decide ((((rd_T31 t185 x26_1).f0) ++ (⟨#[61, 34]⟩ : ByteArray)).size + ((rd_T31 t185 x26_1).f1).size ≤ 9223372036854775807) = true := decide_eq_true c27
                        try have c27b2 : (9223372036854775807 < (((rd_T31 t185 x26_1).f0) ++ (⟨#[61, 34]⟩ : ByteArray)).size + ((rd_T31 t185 x26_1).f1).size) = False := eq_false (Nat.not_lt.2 c27)
                        try have c27b3 := c27b2
                        try simp only [ByteArray.size_append, show (⟨#[61, 34]⟩ : ByteArray).size = 2 from rfl] at c27b3
                        by_cases c28 : ((((rd_T31 t185 x26_1).f0) ++ (⟨#[61, 34]⟩ : ByteArray)) ++ ((rd_T31 t185 x26_1).f1)).size + 1 ≤ 9223372036854775807
                        · rw [if_pos c28] at H
                          have c28b0 := eq_true c28
                          have c28b1 : decide (((((rd_T31 t185 x26_1).f0) ++ (⟨#[61, 34]⟩ : ByteArray)) ++ ((rd_T31 t185 x26_1).f1)).size + 1 ≤ 9223372036854775807) = true := decide_eq_true c28
                          try have c28b2 : (9223372036854775807 < ((((rd_T31 t185 x26_1).f0) ++ (⟨#[61, 34]⟩ : ByteArray)) ++ ((rd_T31 t185 x26_1).f1)).size + 1) = False := eq_false (Nat.not_lt.2 c28)
                          try have c28b3 := c28b2
                          try simp only [ByteArray.size_append, show (⟨#[61, 34]⟩ : ByteArray).size = 2 from rfl] at c28b3
                          by_cases c29 : x3_1.length < 8796093022208
                          · rw [if_pos c29] at H
                            have LMc29 := Aside0.mk c29
                            clear c29
                            obtain ⟨y190, hy190⟩ : ∃ y_ : List ByteArray, y_ = (x3_1 ++ [((((rd_T31 t185 x26_1).f0) ++ (⟨#[61, 34]⟩ : ByteArray)) ++ ((rd_T31 t185 x26_1).f1)) ++ (⟨#[34]⟩ : ByteArray)]) := ⟨_, rfl⟩
                            replace H : (laws_FnMetricText.l0 k1 l0 y190 x4_1 x5_1 t185 (t185.length : Int) (wrap64 (x26_1 + 1))) = some r := by first | (rw [hy190]; with_reducible exact H) | (have H2_ := (Option.bind_some _ _).symm.trans H; rw [hy190]; with_reducible exact H2_) | (have H2_ := (Option.bind_some _ _).symm.trans H; with_reducible exact H2_) | with_reducible exact H | (rw [hy190]; exact H) | exact H
                            have Ny190 := Aside0.mk hy190
                            clear hy190
                            have H' := Aside0.mk H
                            clear H
                            have p188 : 0 ≤ (x26_1 : Int) := of_decide_eq_true (by first | (with_reducible assumption) | assumption)
                            have q188 : x26_1 < (t185.length : Int) := of_decide_eq_true (by first | (with_reducible assumption) | assumption)
                            obtain ⟨ad188, e188, hx188_0, hx188_1⟩ := at_T31 (Kd.R_reads' HO_24.out).2.2 x26_1 p188 q188
                            cases e188
                            replace p188 := eq_true p188
                            replace q188 := eq_true q188
                            go_wp2_with (first | ((with_reducible refine gate_dst (N := 7) rfl ?_); (try (refine gate_guard (by rfl) ?_; dsimp only)); refine box_event ?hg (N := 7) ?hd (cs := #[.string (⟨#[]⟩ : ByteArray), .string (⟨#[]⟩ : ByteArray)]) (t := 31) ?hr ?_; (case hd => rfl); (case hg => rfl); (case hr => first | (go_simp; done) | (go_simp; rfl)); intro gb189 hg w30 hbox hb; have n0_ := Aside0.mk (Kd.R_below (by (with_reducible repeat (first | apply Kd.R_alloc | apply Kd.R_drewN | apply Kd.R_drew)); exact HO_3.out) hb); have n1_ := Aside0.mk (Kd.R_below (Kd.R_elderB (by (with_reducible repeat (first | apply Kd.R_alloc | apply Kd.R_drewN | apply Kd.R_drew)); exact HO_24.out) gb189 (Nat.le_of_eq hg.symm)) hb); have n2_ := Aside0.mk (below_step (by repeat (first | (with_reducible first | exact HB.out | apply below_alloc | apply pw_below_drewN | apply below_drew1) | exact HB.out)) hb); have n3_ := Aside0.mk (hbox); have n4_ := Aside0.mk ((by rw [hg]; exact (below_size (by repeat (first | (with_reducible first | exact HB.out | apply below_alloc | apply pw_below_drewN | apply below_drew1) | exact HB.out))) : w.heap.size ≤ gb189)); have n5_ := Aside0.mk ((by rw [hg]; exact (below_size (by repeat (first | (with_reducible first | exact HB.out | apply below_alloc | apply pw_below_drewN | apply below_drew1) | exact HB.out))) : w.heap.size ≤ gb189)); clear HO_3; clear HO_24; clear HB; have HO_3 := n0_; have HO_24 := n1_; have HB := n2_; have BK189 := n3_; have GW189 := n4_; have GE189 := n5_; clear n0_ n1_ n2_ n3_ n4_ n5_; clear hb hbox hg; have hcz31_0 : w30.cell? ⟨gb189, 0, none⟩ = some (.string (⟨#[]⟩ : ByteArray)) := (blk_cell BK189.out 0).trans rfl; have hcz31_1 : w30.cell? ⟨gb189, 1, none⟩ = some (.string (⟨#[]⟩ : ByteArray)) := (blk_cell BK189.out 1).trans rfl; have hfz31_0 := blk_frozen BK189.out 0; have hfz31_1 := blk_frozen BK189.out 1) | ((with_reducible refine gate_builtin (b := .append) (xs := #[.tmp 35, .tmp 43]) rfl ?_); (try (refine gate_guard (by rfl) ?_; dsimp only)); at_builtin; refine Kd.R_append Kd.string (w0 := w) w.heap.size rfl (.tmp 35) (.tmp 43) 27 9 (.string ⟨#[]⟩) 16 rfl Tryd.underlying27 info9 rfl (by decide) (by omega) u3 x3_1 (((((rd_T31 t185 x26_1).f0) ++ (⟨#[61, 34]⟩ : ByteArray)) ++ ((rd_T31 t185 x26_1).f1)) ++ (⟨#[34]⟩ : ByteArray)) [.string (((((rd_T31 t185 x26_1).f0) ++ (⟨#[61, 34]⟩ : ByteArray)) ++ ((rd_T31 t185 x26_1).f1)) ++ (⟨#[34]⟩ : ByteArray))] (fun _ => True) (fun _ => False) rfl (by first | (go_simp; done) | (go_simp; rfl)) ?aP (fun _ hk => hk.elim) ?aF ?aO ?aB ?aS ?aL ?_; (case aP => exact rfl); (case aB => exact (by repeat (first | (with_reducible first | exact HB.out | apply below_alloc | apply pw_below_drewN | apply below_drew1 | refine below_set ?_ GE189.out) | exact HB.out))); (case aF => exact (fun _ _ => trivial)); (case aO => exact (by (with_reducible repeat (first | apply Kd.R_alloc | apply Kd.R_drewN | apply Kd.R_drew)); exact Kd.R_mono (Kd.R_far (p := ⟨gb189, 1, none⟩) (Kd.R_far (p := ⟨gb189, 0, none⟩) (Kd.R_types HO_3.out BK189.out (by decide)) (fun _ hk => hk.2) (.string ((rd_T31 t185 x26_1).f0))) (fun _ hk => hk.2) (.string ((rd_T31 t185 x26_1).f1))) (fun _ hk => trivial))); (case aS => exact (below_size (by repeat (first | (with_reducible first | exact HB.out | apply below_alloc | apply pw_below_drewN | apply below_drew1 | refine below_set ?_ GE189.out) | exact HB.out)))); (case aL => have := LMc29.out; first | omega | exact this | exact Nat.le_of_lt this); intro v191 w32 ho hb hg hat; rw [← Ny190.out] at ho; have n0_ := Aside0.mk (Kd.R_over' (by (with_reducible repeat (first | apply Kd.R_alloc | apply Kd.R_drewN | apply Kd.R_drew)); exact (Kd.R_mono (Kd.R_far (p := ⟨gb189, 1, none⟩) (Kd.R_far (p := ⟨gb189, 0, none⟩) (Kd.R_mono HO_24.out (fun k_ hk => (⟨hk, hk.2⟩ : _ ∧ k_ ≠ gb189))) (fun _ hk => hk.2) (.string ((rd_T31 t185 x26_1).f0))) (fun _ hk => hk.2) (.string ((rd_T31 t185 x26_1).f1))) (fun _ h_ => h_.1))) (Kd.R_typed (by (with_reducible repeat (first | apply Kd.R_alloc | apply Kd.R_drewN | apply Kd.R_drew)); exact (Kd.R_mono (Kd.R_far (p := ⟨gb189, 1, none⟩) (Kd.R_far (p := ⟨gb189, 0, none⟩) (Kd.R_types HO_3.out BK189.out (by decide)) (fun _ hk => hk.2) (.string ((rd_T31 t185 x26_1).f0))) (fun _ hk => hk.2) (.string ((rd_T31 t185 x26_1).f1))) (fun _ h_ => h_.1)))) (by decide) hg); have n1_ := Aside0.mk (blk_grown (g := gb189) (o := .cells #[.string ((rd_T31 t185 x26_1).f0), .string ((rd_T31 t185 x26_1).f1)] 31 (0, 0)) (by (with_reducible repeat (first | refine blk_drewN ?_ _ | refine blk_drew ?_ | refine blk_alloc ?_ _)); refine blk_put (cs := #[.string ((rd_T31 t185 x26_1).f0), .string (⟨#[]⟩ : ByteArray)]) ?_ 1 _ rfl; (with_reducible repeat (first | refine blk_drewN ?_ _ | refine blk_drew ?_ | refine blk_alloc ?_ _)); refine blk_put (cs := #[.string (⟨#[]⟩ : ByteArray), .string (⟨#[]⟩ : ByteArray)]) ?_ 0 _ rfl; (with_reducible repeat (first | refine blk_drewN ?_ _ | refine blk_drew ?_ | refine blk_alloc ?_ _)); exact BK189.out) hg (Kd.R_ne HO_3.out BK189.out (by decide))); have n2_ := Aside0.mk (hb); have n3_ := Aside0.mk (ho); clear HO_24; clear BK189; clear HB; clear HO_3; have HO_24 := n0_; have BK189 := n1_; have HB := n2_; have HO192 := n3_; clear n0_ n1_ n2_ n3_; clear ho hb hg hat))
                            go_roundg k1
                            case measure => have := HK1.out; omega
                            case rel => exact ⟨(y190), (x4_1), (x5_1), (wrap64 (x26_1 + 1)), (by first | rfl | (simp; done) | (simp [*]; done)), (by first | rfl | (simp; done) | (simp [*]; done)), (by first | rfl | (simp; done) | (simp [*]; done)), H', ⟨by have := HK1.out; omega⟩, ⟨by (with_reducible repeat (first | apply Kd.R_alloc | apply Kd.R_drewN | apply Kd.R_drew)); exact HO192.out⟩, ⟨by (with_reducible repeat (first | apply Kd.R_alloc | apply Kd.R_drewN | apply Kd.R_drew)); exact Kd.R_mono HO_24.out (fun _ hk => trivial)⟩, ⟨by repeat (first | (with_reducible first | exact HB.out | apply below_alloc | apply pw_below_drewN | apply below_drew1 | refine below_set ?_ GE189.out) | exact HB.out)⟩⟩
                          · rw [if_neg c29] at H
                            exact absurd H (by simp)
                        · rw [if_neg c28] at H
                          exact absurd H (by simp)
                      · rw [if_neg c27] at H
                        exact absurd H (by simp)
                    · rw [if_neg c26] at H
                      exact absurd H (by simp)
                · rw [if_neg c22] at H
                  exact absurd H (by simp)
              · rw [if_neg c21] at H
                exact absurd H (by simp)
            · rw [if_neg c20] at H
              have c20b0 : decide (x26_1 < (t185.length : Int)) = false := decide_eq_false c20
              clear c20
              have HC33 := Aside0.mk H
              clear H
              go_upto_region 16 with (fail)
              go_cut [51] (fun v51 wc => ∃ (kq : Nat) (x51_32 : Bool), v51 = .bool x51_32 ∧ Aside0 (laws_FnMetricText.j1 kq l0 x3_1 x4_1 x5_1 x51_32 = some r) ∧ Aside0 (kq ≤ k1) ∧ Aside0 (Kd.R Kd.string 9 wc w.heap.size (fun _ => True) u3 x3_1) ∧ Aside0 (Below w.heap.size w wc))
              case first =>
                have H := HC33.out
                clear HC33
                by_cases c34 : x5_1 = true
                · subst c34
                  have H1 : ((laws_legacy.f k1 x4_1 true).bind fun t193 => (laws_FnMetricText.j1 k1 l0 x3_1 x4_1 true (!t193))) = some r := by rw [if_pos rfl] at H; exact H
                  clear H
                  have H := H1
                  clear H1
                  replace H := Option.bind_eq_some_iff.mp H
                  obtain ⟨t193, A350, H⟩ := H
                  replace H : (laws_FnMetricText.j1 k1 l0 x3_1 x4_1 true (!t193)) = some r := H
                  have A35 := Aside0.mk A350
                  clear A350
                  have H' := Aside0.mk H
                  clear H
                  go_wp2_with (first | (go_at_call 11; (with_reducible refine (laws_legacy.calls k1 x4_1 true t193 _ A35.out).mono ?_); rintro e w' ⟨rfl, ⟨nd, rfl⟩⟩))
                  go_meet
                  case rel => exact ⟨_, (!t193), (by first | rfl | (simp; done) | (simp [*]; done)), H', ⟨by have := HK1.out; first | omega | exact Nat.le_refl _⟩, ⟨by (with_reducible repeat (first | apply Kd.R_alloc | apply Kd.R_drewN | apply Kd.R_drew)); exact HO_3.out⟩, ⟨by repeat (first | (with_reducible first | exact HB.out | apply below_alloc | apply pw_below_drewN | apply below_drew1) | exact HB.out)⟩⟩
                · replace c34 := Bool.eq_false_iff.mpr c34
                  subst c34
                  have H1 : (laws_FnMetricText.j1 k1 l0 x3_1 x4_1 false false) = some r := by rw [if_neg (show ¬ (false = true) by decide)] at H; exact H
                  clear H
                  have H := H1
                  clear H1
                  have H' := Aside0.mk H
                  clear H
                  go_wp2
                  go_meet
                  case rel => exact ⟨_, (false), (by first | rfl | (simp; done) | (simp [*]; done)), H', ⟨by have := HK1.out; first | omega | exact Nat.le_refl _⟩, ⟨by (with_reducible repeat (first | apply Kd.R_alloc | apply Kd.R_drewN | apply Kd.R_drew)); exact HO_3.out⟩, ⟨by repeat (first | (with_reducible first | exact HB.out | apply below_alloc | apply pw_below_drewN | apply below_drew1) | exact HB.out)⟩⟩
              case rest =>
                clear HC33
                try clear c1
                try clear p1
                try clear q1
                try clear hx1
                try clear c2
                try clear p2
                try clear c3
                try clear c5
                try clear c5b0
                try clear c5b1
                try clear c6
                try clear p6
                try clear c7
                try clear c8
                try clear c9
                try clear c10
                try clear p18
                try clear q18
                try clear hx18
                try clear c20
                try clear c20b0
                try clear c21
                try clear c21b0
                try clear c22
                try clear c22b0
                try clear c23
                try clear c23b0
                try clear c23b1
                try clear c26
                try clear c26b0
                try clear c26b1
                try clear c26b2
                try clear c27
                try clear c27b0
                try clear c27b1
                try clear c27b2
                try clear c28
                try clear c28b0
                try clear c28b1
                try clear c28b2
                try clear c29
                try clear c34
                try clear hcz25_0
                try clear hcz25_1
                try clear hcz31_0
                try clear hcz31_1
                try clear hfz25_0
                try clear hfz25_1
                try clear hfz31_0
                try clear hfz31_1
                try clear hx188_0
                try clear hx188_1
                try clear p188
                try clear p2
                try clear q188
                obtain ⟨kq, x51_32, rfl, HA, HJ32, HO_3, HB⟩ := hcut
                cases kq with
                | zero => exact absurd HA.out (by simp [laws_FnMetricText.j1])
                | succ kj32 =>
                  have H := HA.out
                  clear HA
                  simp only [laws_FnMetricText.j1] at H
                  by_cases c36 : x51_32 = true
                  · subst c36
                    have H1 : (some true) = some r := by rw [if_pos rfl] at H; exact H
                    clear H
                    have H := H1
                    clear H1
                    obtain rfl := Option.some.inj H
                    go_wp2
                    go_ret
                    exact ⟨by first | rfl | (simp [errW_none, errW_some] <;> rfl) | (simp [*, errW_none, errW_some] <;> rfl), by repeat (first | (with_reducible first | exact HB.out | apply below_alloc | apply pw_below_drewN | apply below_drew1) | exact HB.out)⟩
                  · replace c36 := Bool.eq_false_iff.mpr c36
                    subst c36
                    have H1 : (laws_FnMetricText.l1 kj32 l0 x3_1 x4_1 x5_1 (x3_1.length : Int) 0) = some r := by rw [if_neg (show ¬ (false = true) by decide)] at H; exact H
                    clear H
                    have H := H1
                    clear H1
                    have H' := Aside0.mk H
                    clear H
                    obtain ⟨Ao37, co37, eo37⟩ := Kd.R_slice HO_3.out
                    subst eo37
                    go_wp2
                    go_loopg [54] kj32 (fun kq v54 w' => ∃ (x3_3 : List ByteArray) (x54_3 : Int), v54 = .int .i64 x54_3 ∧ Aside0 (laws_FnMetricText.l1 kq l0 x3_3 x4_1 x5_1 (x3_1.length : Int) x54_3 = some r) ∧ Aside0 (kq ≤ kj32) ∧ Aside0 (Kd.R Kd.string 9 w' w.heap.size (fun _ => True) (.slice Ao37 x3_1.length co37) x3_3) ∧ Aside0 (Below w.heap.size w w'))
                    case atStart => exact ⟨(x3_1), (0), (by first | rfl | (simp; done) | (simp [*]; done)), H', ⟨Nat.le_refl _⟩, ⟨by (with_reducible repeat (first | apply Kd.R_alloc | apply Kd.R_drewN | apply Kd.R_drew)); exact HO_3.out⟩, ⟨by repeat (first | (with_reducible first | exact HB.out | apply below_alloc | apply pw_below_drewN | apply below_drew1) | exact HB.out)⟩⟩
                    case round =>
                      clear H'
                      try clear c1
                      try clear p1
                      try clear q1
                      try clear hx1
                      try clear c2
                      try clear p2
                      try clear c3
                      try clear c5
                      try clear c5b0
                      try clear c5b1
                      try clear c6
                      try clear p6
                      try clear c7
                      try clear c8
                      try clear c9
                      try clear c10
                      try clear p18
                      try clear q18
                      try clear hx18
                      try clear c20
                      try clear c20b0
                      try clear c21
                      try clear c21b0
                      try clear c22
                      try clear c22b0
                      try clear c23
                      try clear c23b0
                      try clear c23b1
                      try clear c26
                      try clear c26b0
                      try clear c26b1
                      try clear c26b2
                      try clear c27
                      try clear c27b0
                      try clear c27b1
                      try clear c27b2
                      try clear c28
                      try clear c28b0
                      try clear c28b1
                      try clear c28b2
                      try clear c29
                      try clear c34
                      try clear c36
                      try clear hcz25_0
                      try clear hcz25_1
                      try clear hcz31_0
                      try clear hcz31_1
                      try clear hfz25_0
                      try clear hfz25_1
                      try clear hfz31_0
                      try clear hfz31_1
                      try clear hx188_0
                      try clear hx188_1
                      try clear p1
                      try clear p18
                      try clear p188
                      try clear p2
                      try clear p6
                      try clear q1
                      try clear q18
                      try clear q188
                      obtain ⟨x3_3, x54_3, rfl, HA, HK3, HO_3, HB⟩ := hrel
                      have hl3_3 := (Kd.R_reads' HO_3.out).1
                      rw [hl3_3] at HO_3
                      (try simp only [hl3_3])
                      cases gk with
                      | zero => exact absurd HA.out (by simp [laws_FnMetricText.l1])
                      | succ k3 =>
                        have H := HA.out
                        clear HA
                        simp only [laws_FnMetricText.l1] at H
                        by_cases c38 : x54_3 < (x3_1.length : Int)
                        · rw [if_pos c38] at H
                          have c38b0 : decide (x54_3 < (x3_1.length : Int)) = true := decide_eq_true c38
                          try simp only [hl3_3] at c38b0
                          clear c38
                          have H' := Aside0.mk H
                          clear H
                          go_wp2
                          go_loopg [9] k3 (fun kq v9 w' => ∃ (x3_4 : List ByteArray) (x9_4 : Int), v9 = .int .i64 x9_4 ∧ Aside0 (laws_FnMetricText.l2 kq l0 x3_4 x4_1 x5_1 x9_4 (x3_1.length : Int) x54_3 = some r) ∧ Aside0 (kq ≤ k3) ∧ Aside0 (Kd.R Kd.string 9 w' w.heap.size (fun _ => True) (.slice Ao37 x3_3.length co37) x3_4) ∧ Aside0 (Below w.heap.size w w'))
                          case atStart => exact ⟨(x3_3), (x54_3), (by first | rfl | (simp; done) | (simp [*]; done)), H', ⟨Nat.le_refl _⟩, ⟨by (try simp only [hl3_3]); (with_reducible repeat (first | apply Kd.R_alloc | apply Kd.R_drewN | apply Kd.R_drew)); exact HO_3.out⟩, ⟨by repeat (first | (with_reducible first | exact HB.out | apply below_alloc | apply pw_below_drewN | apply below_drew1) | exact HB.out)⟩⟩
                          case round =>
                            clear H'
                            try clear c1
                            try clear p1
                            try clear q1
                            try clear hx1
                            try clear c2
                            try clear p2
                            try clear c3
                            try clear c5
                            try clear c5b0
                            try clear c5b1
                            try clear c6
                            try clear p6
                            try clear c7
                            try clear c8
                            try clear c9
                            try clear c10
                            try clear p18
                            try clear q18
                            try clear hx18
                            try clear c20
                            try clear c20b0
                            try clear c21
                            try clear c21b0
                            try clear c22
                            try clear c22b0
                            try clear c23
                            try clear c23b0
                            try clear c23b1
                            try clear c26
                            try clear c26b0
                            try clear c26b1
                            try clear c26b2
                            try clear c27
                            try clear c27b0
                            try clear c27b1
                            try clear c27b2
                            try clear c28
                            try clear c28b0
                            try clear c28b1
                            try clear c28b2
                            try clear c29
                            try clear c34
                            try clear c36
                            try clear c38
                            try clear c38b0
                            try clear hcz25_0
                            try clear hcz25_1
                            try clear hcz31_0
                            try clear hcz31_1
                            try clear hfz25_0
                            try clear hfz25_1
                            try clear hfz31_0
                            try clear hfz31_1
                            try clear hx188_0
                            try clear hx188_1
                            try clear p1
                            try clear p18
                            try clear p188
                            try clear p2
                            try clear p6
                            try clear q1
                            try clear q18
                            try clear q188
                            obtain ⟨x3_4, x9_4, rfl, HA, HK4, HO_3, HB⟩ := hrel
                            have hl3_4 := (Kd.R_reads' HO_3.out).1
                            rw [hl3_4] at HO_3
                            (try simp only [hl3_4])
                            cases gk with
                            | zero => exact absurd HA.out (by simp [laws_FnMetricText.l2])
                            | succ k4 =>
                              have H := HA.out
                              clear HA
                              simp only [laws_FnMetricText.l2] at H
                              by_cases c39 : x9_4 > 0
                              · rw [if_pos c39] at H
                                have c39b0 : decide (0 < x9_4) = true := decide_eq_true c39
                                clear c39
                                by_cases c40 : 0 ≤ x9_4
                                · rw [if_pos c40] at H
                                  have c40b0 : decide (0 ≤ x9_4) = true := decide_eq_true c40
                                  clear c40
                                  by_cases c41 : x9_4 < (x3_4.length : Int)
                                  · rw [if_pos c41] at H
                                    have c41b0 : decide (x9_4 < (x3_4.length : Int)) = true := decide_eq_true c41
                                    try simp only [hl3_3] at c41b0
                                    try simp only [hl3_4] at c41b0
                                    clear c41
                                    obtain ⟨ji42, hji42⟩ : ∃ j_ : Int, (wrap64 (x9_4 - 1)) = j_ := ⟨_, rfl⟩
                                    replace H : (if 0 ≤ (ji42) then (if (ji42) < (x3_4.length : Int) then (if (Op.bytesLess ((rdOf ByteArray.empty x3_4 x9_4).toList) ((rdOf ByteArray.empty x3_4 (ji42)).toList)) = true then (laws_FnMetricText.l2 k4 l0 ((x3_4.set (x9_4 : Int).toNat (rdOf ByteArray.empty x3_4 (ji42))).set ((ji42) : Int).toNat (rdOf ByteArray.empty x3_4 x9_4)) x4_1 x5_1 ji42 (x3_1.length : Int) x54_3) else (laws_FnMetricText.l1 k4 l0 x3_4 x4_1 x5_1 (x3_1.length : Int) (wrap64 (x54_3 + 1)))) else (none)) else (none)) = some r := by first | (rw [hji42] at H; exact H) | (simp only [hji42] at H ⊢; exact H)
                                    have hji42w : (IntKind.i64.wrap (x9_4 - 1)) = ji42 := (i64_w _).trans hji42
                                    by_cases c43 : 0 ≤ (ji42)
                                    · rw [if_pos c43] at H
                                      have c43b0 : decide (0 ≤ (ji42)) = true := decide_eq_true c43
                                      clear c43
                                      by_cases c44 : (ji42) < (x3_4.length : Int)
                                      · rw [if_pos c44] at H
                                        have c44b0 : decide ((ji42) < (x3_4.length : Int)) = true := decide_eq_true c44
                                        clear c44
                                        by_cases c45 : (Op.bytesLess ((rdOf ByteArray.empty x3_4 x9_4).toList) ((rdOf ByteArray.empty x3_4 (ji42)).toList)) = true
                                        · rw [if_pos c45] at H
                                          have c45b0 : (Op.bytesLess ((rdOf ByteArray.empty x3_4 x9_4).toList) ((rdOf ByteArray.empty x3_4 (ji42)).toList)) = true := c45
                                          clear c45
                                          obtain ⟨y198, hy198⟩ : ∃ y_ : List ByteArray, y_ = (x3_4.set (x9_4 : Int).toNat (rdOf ByteArray.empty x3_4 (ji42))) := ⟨_, rfl⟩
                                          replace H : (laws_FnMetricText.l2 k4 l0 (y198.set ((ji42) : Int).toNat (rdOf ByteArray.empty x3_4 x9_4)) x4_1 x5_1 ji42 (x3_1.length : Int) x54_3) = some r := by first | (rw [hy198]; with_reducible exact H) | (have H2_ := (Option.bind_some _ _).symm.trans H; rw [hy198]; with_reducible exact H2_) | (have H2_ := (Option.bind_some _ _).symm.trans H; with_reducible exact H2_) | with_reducible exact H | (rw [hy198]; exact H) | exact H
                                          have Ny198 := Aside0.mk hy198
                                          clear hy198
                                          obtain ⟨y199, hy199⟩ : ∃ y_ : List ByteArray, y_ = (y198.set ((ji42) : Int).toNat (rdOf ByteArray.empty x3_4 x9_4)) := ⟨_, rfl⟩
                                          replace H : (laws_FnMetricText.l2 k4 l0 y199 x4_1 x5_1 ji42 (x3_1.length : Int) x54_3) = some r := by first | (rw [hy199]; with_reducible exact H) | (have H2_ := (Option.bind_some _ _).symm.trans H; rw [hy199]; with_reducible exact H2_) | (have H2_ := (Option.bind_some _ _).symm.trans H; with_reducible exact H2_) | with_reducible exact H | (rw [hy199]; exact H) | exact H
                                          have Ny199 := Aside0.mk hy199
                                          clear hy199
                                          have H' := Aside0.mk H
                                          clear H
                                          try go_wp2
                                          have n0_ := Aside0.mk (Kd.R_drew HO_3.out)
                                          have n1_ := Aside0.mk (below_drew1 HB.out)
                                          clear HO_3
                                          clear HB
                                          have HO_3 := n0_
                                          have HB := n1_
                                          clear n0_ n1_
                                          have p194 : 0 ≤ (x9_4 : Int) := of_decide_eq_true (by first | (with_reducible assumption) | assumption)
                                          have q194 : x9_4 < (x3_4.length : Int) := of_decide_eq_true (by first | (with_reducible assumption) | assumption)
                                          obtain ⟨ad194, e194, hx194_0⟩ := Kd.at_string (Kd.R_reads' HO_3.out).2.2 x9_4 p194 q194
                                          cases e194
                                          replace p194 := eq_true p194
                                          replace q194 := eq_true q194
                                          have p195 : 0 ≤ ((ji42) : Int) := of_decide_eq_true (by first | (with_reducible assumption) | assumption)
                                          have q195 : (ji42) < (x3_4.length : Int) := of_decide_eq_true (by first | (with_reducible assumption) | assumption)
                                          obtain ⟨ad195, e195, hx195_0⟩ := Kd.at_string (Kd.R_reads' HO_3.out).2.2 (ji42) p195 q195
                                          obtain rfl : ad194 = ad195 := (by injection e195)
                                          replace p195 := eq_true p195
                                          replace q195 := eq_true q195
                                          refine start_ (n := 14) (S := fun w' => w'.cell? (ad194.add (x9_4).toNat) = some (.string (rdOf ByteArray.empty x3_4 x9_4)) ∧ w'.cell? (ad194.add ((ji42)).toNat) = some (.string (rdOf ByteArray.empty x3_4 (ji42)))) (ds := []) #[false, false, false, false, false, false, false, false, false, false, false, false, false, false] (by kernel_rfl) rfl rfl ⟨hx194_0, hx195_0⟩ (fun hHeld => ?_); refine with_tabW laws_FnMetricText.tab22 laws_FnMetricText.bits22 (fun HT_ HW_ => ?_)
                                          generalize wr.drew = w48 at HO_3 HB hx194_0 hx195_0 hHeld ⊢
                                          refine pure_ (i := 0) (N := some 58) (v := ?_) (a' := ?_) #[true, false, false, false, false, false, false, false, false, false, false, false, false, false] rfl rfl (any_of HT_.out (by kernel_rfl)) (fun _ _ _ h => h) (Or.inl ⟨by rfl, ?_⟩) ?_ ?_
                                          rotate_left
                                          · intro w'
                                            go_simp
                                            with_reducible rfl
                                          rotate_left
                                          · simp only [Act.put, List.setIfInBounds_toArray, List.set_cons_zero, List.set_cons_succ, i64_w, i32_w]
                                            rfl
                                          refine pure_ (i := 1) (N := some 59) (v := ?_) (a' := ?_) #[true, true, false, false, false, false, false, false, false, false, false, false, false, false] rfl rfl (any_of HT_.out (by kernel_rfl)) (fun _ _ _ h => h) (Or.inl ⟨by rfl, ?_⟩) ?_ ?_
                                          rotate_left
                                          · intro w'
                                            go_simp
                                            with_reducible rfl
                                          rotate_left
                                          · simp only [Act.put, List.setIfInBounds_toArray, List.set_cons_zero, List.set_cons_succ, i64_w, i32_w]
                                            rfl
                                          refine pure_ (i := 2) (N := some 60) (v := ?_) (a' := ?_) #[true, true, true, false, false, false, false, false, false, false, false, false, false, false] rfl rfl (any_of HT_.out (by kernel_rfl)) (fun _ _ _ h => h) (Or.inl ⟨by rfl, ?_⟩) ?_ ?_
                                          rotate_left
                                          · intro w'
                                            go_simp
                                            with_reducible rfl
                                          rotate_left
                                          · simp only [Act.put, List.setIfInBounds_toArray, List.set_cons_zero, List.set_cons_succ, i64_w, i32_w]
                                            rfl
                                          refine pure_ (i := 3) (N := some 61) (v := ?_) (a' := ?_) #[true, true, true, true, false, false, false, false, false, false, false, false, false, false] rfl rfl (any_of HT_.out (by kernel_rfl)) (fun _ _ _ h => h) (Or.inl ⟨by rfl, ?_⟩) ?_ ?_
                                          rotate_left
                                          · intro w'
                                            go_simp
                                            with_reducible rfl
                                          rotate_left
                                          · simp only [Act.put, List.setIfInBounds_toArray, List.set_cons_zero, List.set_cons_succ, i64_w, i32_w]
                                            rfl
                                          refine pure_ (i := 4) (N := some 62) (v := ?_) (a' := ?_) #[true, true, true, true, true, false, false, false, false, false, false, false, false, false] rfl rfl (any_of HT_.out (by kernel_rfl)) (fun _ _ _ h => h) (Or.inl ⟨by rfl, ?_⟩) ?_ ?_
                                          rotate_left
                                          · intro w'
                                            go_simp
                                            with_reducible rfl
                                          rotate_left
                                          · simp only [Act.put, List.setIfInBounds_toArray, List.set_cons_zero, List.set_cons_succ, i64_w, i32_w]
                                            rfl
                                          refine pure_ (i := 5) (N := some 63) (v := ?_) (a' := ?_) #[true, true, true, true, true, true, false, false, false, false, false, false, false, false] rfl rfl (any_of HT_.out (by kernel_rfl)) (fun _ _ _ h => h) (Or.inl ⟨by rfl, ?_⟩) ?_ ?_
                                          rotate_left
                                          · intro w'
                                            go_simp
                                            with_reducible rfl
                                          rotate_left
                                          · simp only [Act.put, List.setIfInBounds_toArray, List.set_cons_zero, List.set_cons_succ, i64_w, i32_w]
                                            rfl
                                          refine pure_ (i := 7) (N := some 65) (v := ?_) (a' := ?_) #[true, true, true, true, true, true, false, true, false, false, false, false, false, false] rfl rfl (any_of HT_.out (by kernel_rfl)) (fun _ _ _ h => h) (Or.inl ⟨by rfl, ?_⟩) ?_ ?_
                                          rotate_left
                                          · intro w'
                                            go_simp
                                            with_reducible rfl
                                          rotate_left
                                          · simp only [Act.put, List.setIfInBounds_toArray, List.set_cons_zero, List.set_cons_succ, i64_w, i32_w]
                                            rfl
                                          refine pure_ (i := 8) (N := some 66) (v := ?_) (a' := ?_) #[true, true, true, true, true, true, false, true, true, false, false, false, false, false] rfl rfl (any_of HT_.out (by kernel_rfl)) (fun _ _ _ h => h) (Or.inl ⟨by rfl, ?_⟩) ?_ ?_
                                          rotate_left
                                          · intro w'
                                            go_simp
                                            with_reducible rfl
                                          rotate_left
                                          · simp only [Act.put, List.setIfInBounds_toArray, List.set_cons_zero, List.set_cons_succ, i64_w, i32_w]
                                            rfl
                                          refine pure_ (i := 9) (N := some 67) (v := ?_) (a' := ?_) #[true, true, true, true, true, true, false, true, true, true, false, false, false, false] rfl rfl (any_of HT_.out (by kernel_rfl)) (fun _ _ _ h => h) (Or.inl ⟨by rfl, ?_⟩) ?_ ?_
                                          rotate_left
                                          · intro w'
                                            go_simp
                                            with_reducible rfl
                                          rotate_left
                                          · simp only [Act.put, List.setIfInBounds_toArray, List.set_cons_zero, List.set_cons_succ, i64_w, i32_w]
                                            rfl
                                          refine pure_ (i := 10) (N := some 68) (v := ?_) (a' := ?_) #[true, true, true, true, true, true, false, true, true, true, true, false, false, false] rfl rfl (any_of HT_.out (by kernel_rfl)) (fun _ _ _ h => h) (Or.inl ⟨by rfl, ?_⟩) ?_ ?_
                                          rotate_left
                                          · intro w'
                                            go_simp
                                            with_reducible rfl
                                          rotate_left
                                          · simp only [Act.put, List.setIfInBounds_toArray, List.set_cons_zero, List.set_cons_succ, i64_w, i32_w]
                                            rfl
                                          refine take_ (i := 6) (N := some 64) (v := ?_) (a' := ?_) #[true, true, true, true, true, true, true, true, true, true, true, false, false, false] rfl rfl (take_ofW HT_.out HW_.out (by kernel_rfl)) (fun _ _ _ h => h) (Or.inl ⟨by rfl, ?_⟩) hHeld ?_ ?_
                                          rotate_left
                                          · rintro w' ⟨s0, s1⟩
                                            go_simp
                                            with_reducible rfl
                                          rotate_left
                                          · simp only [Act.put, List.setIfInBounds_toArray, List.set_cons_zero, List.set_cons_succ, i64_w, i32_w]
                                            rfl
                                          refine take_ (i := 11) (N := some 69) (v := ?_) (a' := ?_) #[true, true, true, true, true, true, true, true, true, true, true, true, false, false] rfl rfl (take_ofW HT_.out HW_.out (by kernel_rfl)) (fun _ _ _ h => h) (Or.inl ⟨by rfl, ?_⟩) hHeld ?_ ?_
                                          rotate_left
                                          · rintro w' ⟨s0, s1⟩
                                            go_simp
                                            with_reducible rfl
                                          rotate_left
                                          · simp only [Act.put, List.setIfInBounds_toArray, List.set_cons_zero, List.set_cons_succ, i64_w, i32_w]
                                            rfl
                                          refine pure_ (i := 12) (N := some 70) (v := ?_) (a' := ?_) #[true, true, true, true, true, true, true, true, true, true, true, true, true, false] rfl rfl (any_of HT_.out (by kernel_rfl)) (fun _ _ _ h => h) (Or.inl ⟨by rfl, ?_⟩) ?_ ?_
                                          rotate_left
                                          · intro w'
                                            go_simp
                                            with_reducible rfl
                                          rotate_left
                                          · simp only [Act.put, List.setIfInBounds_toArray, List.set_cons_zero, List.set_cons_succ, i64_w, i32_w]
                                            rfl
                                          refine pure_ (i := 13) (N := some 71) (v := ?_) (a' := ?_) #[true, true, true, true, true, true, true, true, true, true, true, true, true, true] rfl rfl (any_of HT_.out (by kernel_rfl)) (fun _ _ _ h => h) (Or.inl ⟨by rfl, ?_⟩) ?_ ?_
                                          rotate_left
                                          · intro w'
                                            go_simp
                                            with_reducible rfl
                                          rotate_left
                                          · simp only [Act.put, List.setIfInBounds_toArray, List.set_cons_zero, List.set_cons_succ, i64_w, i32_w]
                                            rfl
                                          refine done_ (done_of HT_.out (by kernel_rfl)) ?_
                                          try go_wp2
                                          have n0_ := Aside0.mk (Kd.R_drew HO_3.out)
                                          have n1_ := Aside0.mk (below_drew1 HB.out)
                                          clear HO_3
                                          clear HB
                                          have HO_3 := n0_
                                          have HB := n1_
                                          clear n0_ n1_
                                          have p196 : 0 ≤ ((ji42) : Int) := of_decide_eq_true (by first | (with_reducible assumption) | assumption)
                                          have q196 : (ji42) < (x3_4.length : Int) := of_decide_eq_true (by first | (with_reducible assumption) | assumption)
                                          obtain ⟨ad196, e196, hx196_0⟩ := Kd.at_string (Kd.R_reads' HO_3.out).2.2 (ji42) p196 q196
                                          obtain rfl : ad194 = ad196 := (by injection e196)
                                          replace p196 := eq_true p196
                                          replace q196 := eq_true q196
                                          have p197 : 0 ≤ (x9_4 : Int) := of_decide_eq_true (by first | (with_reducible assumption) | assumption)
                                          have q197 : x9_4 < (x3_4.length : Int) := of_decide_eq_true (by first | (with_reducible assumption) | assumption)
                                          obtain ⟨ad197, e197, hx197_0⟩ := Kd.at_string (Kd.R_reads' HO_3.out).2.2 x9_4 p197 q197
                                          obtain rfl : ad194 = ad197 := (by injection e197)
                                          replace p197 := eq_true p197
                                          replace q197 := eq_true q197
                                          have p46 : 0 ≤ (x9_4 : Int) := of_decide_eq_true (by first | (with_reducible assumption) | assumption)
                                          have q46 : (x9_4 : Int) < ((x3_4.length : Int) : Int) := of_decide_eq_true (by first | (with_reducible assumption) | assumption)
                                          obtain ⟨go46, co46, eo46, gb46, gl46, cl46, HG46⟩ := Kd.R_form HO_3.out (by omega)
                                          (first | cases eo46 | (injection eo46 with ea_ en_ ec_; (first | subst ea_ | (injection ea_ with ea_; subst ea_)); subst ec_; clear en_))
                                          have GB46 := Aside0.mk gb46
                                          have GG46 := Aside0.mk HG46
                                          clear gb46 gl46 HG46
                                          (first | simp only [add_plain] at hx194_0 | skip)
                                          (first | simp only [add_plain] at hx195_0 | skip)
                                          (first | simp only [add_plain] at hx196_0 | skip)
                                          (first | simp only [add_plain] at hx197_0 | skip)
                                          obtain ⟨hx46_0, hf46_0⟩ := Kd.R_celln (⟨#[]⟩ : ByteArray) HO_3.out (x9_4 : Int) p46 q46
                                          replace p46 := eq_true p46
                                          replace q46 := eq_true q46
                                          have HP50 := Kd.R_putn HO_3.out (x9_4 : Int) (rdOf ByteArray.empty x3_4 (ji42))
                                          rw [← Ny198.out] at HP50
                                          have HQ50 := Aside0.mk HP50
                                          clear HP50
                                          have p47 : 0 ≤ ((ji42) : Int) := of_decide_eq_true (by first | (with_reducible assumption) | assumption)
                                          have q47 : ((ji42) : Int) < ((x3_4.length : Int) : Int) := of_decide_eq_true (by first | (with_reducible assumption) | assumption)
                                          obtain ⟨hx47_0, hf47_0⟩ := Kd.R_celln (⟨#[]⟩ : ByteArray) HQ50.out ((ji42) : Int) p47 q47
                                          replace p47 := eq_true p47
                                          replace q47 := eq_true q47
                                          have HP51 := Kd.R_putn HQ50.out ((ji42) : Int) (rdOf ByteArray.empty x3_4 x9_4)
                                          rw [← Ny199.out] at HP51
                                          have HQ51 := Aside0.mk HP51
                                          clear HP51
                                          refine start_ (n := 18) (S := fun w' => w'.cell? ⟨go46, ((ji42)).toNat, none⟩ = some (.string (rdOf ByteArray.empty x3_4 (ji42))) ∧ w'.cell? ⟨go46, (x9_4).toNat, none⟩ = some (.string (rdOf ByteArray.empty x3_4 x9_4))) (ds := [15, 17]) #[false, false, false, false, false, false, false, false, false, false, false, false, false, false, false, false, false, false] (by kernel_rfl) rfl rfl ⟨hx196_0, hx197_0⟩ (fun hHeld => ?_); refine with_tabW laws_FnMetricText.tab24 laws_FnMetricText.bits24 (fun HT_ HW_ => ?_)
                                          generalize w48.drew = w49 at HO_3 HB GG46 HQ50 HQ51 hf46_0 hf47_0 hx194_0 hx195_0 hx196_0 hx197_0 hx46_0 hx47_0 hHeld ⊢
                                          refine pure_ (i := 0) (N := some 74) (v := ?_) (a' := ?_) #[true, false, false, false, false, false, false, false, false, false, false, false, false, false, false, false, false, false] rfl rfl (any_of HT_.out (by kernel_rfl)) (fun _ _ _ h => h) (Or.inl ⟨by rfl, ?_⟩) ?_ ?_
                                          rotate_left
                                          · intro w'
                                            go_simp
                                            with_reducible rfl
                                          rotate_left
                                          · simp only [Act.put, List.setIfInBounds_toArray, List.set_cons_zero, List.set_cons_succ, i64_w, i32_w]
                                            rfl
                                          refine pure_ (i := 1) (N := some 75) (v := ?_) (a' := ?_) #[true, true, false, false, false, false, false, false, false, false, false, false, false, false, false, false, false, false] rfl rfl (any_of HT_.out (by kernel_rfl)) (fun _ _ _ h => h) (Or.inl ⟨by rfl, ?_⟩) ?_ ?_
                                          rotate_left
                                          · intro w'
                                            go_simp
                                            with_reducible rfl
                                          rotate_left
                                          · simp only [Act.put, List.setIfInBounds_toArray, List.set_cons_zero, List.set_cons_succ, i64_w, i32_w]
                                            rfl
                                          refine pure_ (i := 2) (N := some 76) (v := ?_) (a' := ?_) #[true, true, true, false, false, false, false, false, false, false, false, false, false, false, false, false, false, false] rfl rfl (any_of HT_.out (by kernel_rfl)) (fun _ _ _ h => h) (Or.inl ⟨by rfl, ?_⟩) ?_ ?_
                                          rotate_left
                                          · intro w'
                                            go_simp
                                            with_reducible rfl
                                          rotate_left
                                          · simp only [Act.put, List.setIfInBounds_toArray, List.set_cons_zero, List.set_cons_succ, i64_w, i32_w]
                                            rfl
                                          refine pure_ (i := 3) (N := some 77) (v := ?_) (a' := ?_) #[true, true, true, true, false, false, false, false, false, false, false, false, false, false, false, false, false, false] rfl rfl (any_of HT_.out (by kernel_rfl)) (fun _ _ _ h => h) (Or.inl ⟨by rfl, ?_⟩) ?_ ?_
                                          rotate_left
                                          · intro w'
                                            go_simp
                                            with_reducible rfl
                                          rotate_left
                                          · simp only [Act.put, List.setIfInBounds_toArray, List.set_cons_zero, List.set_cons_succ, i64_w, i32_w]
                                            rfl
                                          refine pure_ (i := 4) (N := some 78) (v := ?_) (a' := ?_) #[true, true, true, true, true, false, false, false, false, false, false, false, false, false, false, false, false, false] rfl rfl (any_of HT_.out (by kernel_rfl)) (fun _ _ _ h => h) (Or.inl ⟨by rfl, ?_⟩) ?_ ?_
                                          rotate_left
                                          · intro w'
                                            go_simp
                                            with_reducible rfl
                                          rotate_left
                                          · simp only [Act.put, List.setIfInBounds_toArray, List.set_cons_zero, List.set_cons_succ, i64_w, i32_w]
                                            rfl
                                          refine pure_ (i := 5) (N := some 79) (v := ?_) (a' := ?_) #[true, true, true, true, true, true, false, false, false, false, false, false, false, false, false, false, false, false] rfl rfl (any_of HT_.out (by kernel_rfl)) (fun _ _ _ h => h) (Or.inl ⟨by rfl, ?_⟩) ?_ ?_
                                          rotate_left
                                          · intro w'
                                            go_simp
                                            with_reducible rfl
                                          rotate_left
                                          · simp only [Act.put, List.setIfInBounds_toArray, List.set_cons_zero, List.set_cons_succ, i64_w, i32_w]
                                            rfl
                                          refine pure_ (i := 6) (N := some 80) (v := ?_) (a' := ?_) #[true, true, true, true, true, true, true, false, false, false, false, false, false, false, false, false, false, false] rfl rfl (any_of HT_.out (by kernel_rfl)) (fun _ _ _ h => h) (Or.inl ⟨by rfl, ?_⟩) ?_ ?_
                                          rotate_left
                                          · intro w'
                                            go_simp
                                            with_reducible rfl
                                          rotate_left
                                          · simp only [Act.put, List.setIfInBounds_toArray, List.set_cons_zero, List.set_cons_succ, i64_w, i32_w]
                                            rfl
                                          refine pure_ (i := 7) (N := some 81) (v := ?_) (a' := ?_) #[true, true, true, true, true, true, true, true, false, false, false, false, false, false, false, false, false, false] rfl rfl (any_of HT_.out (by kernel_rfl)) (fun _ _ _ h => h) (Or.inl ⟨by rfl, ?_⟩) ?_ ?_
                                          rotate_left
                                          · intro w'
                                            go_simp
                                            with_reducible rfl
                                          rotate_left
                                          · simp only [Act.put, List.setIfInBounds_toArray, List.set_cons_zero, List.set_cons_succ, i64_w, i32_w]
                                            rfl
                                          refine pure_ (i := 8) (N := some 82) (v := ?_) (a' := ?_) #[true, true, true, true, true, true, true, true, true, false, false, false, false, false, false, false, false, false] rfl rfl (any_of HT_.out (by kernel_rfl)) (fun _ _ _ h => h) (Or.inl ⟨by rfl, ?_⟩) ?_ ?_
                                          rotate_left
                                          · intro w'
                                            go_simp
                                            with_reducible rfl
                                          rotate_left
                                          · simp only [Act.put, List.setIfInBounds_toArray, List.set_cons_zero, List.set_cons_succ, i64_w, i32_w]
                                            rfl
                                          refine pure_ (i := 10) (N := some 84) (v := ?_) (a' := ?_) #[true, true, true, true, true, true, true, true, true, false, true, false, false, false, false, false, false, false] rfl rfl (any_of HT_.out (by kernel_rfl)) (fun _ _ _ h => h) (Or.inl ⟨by rfl, ?_⟩) ?_ ?_
                                          rotate_left
                                          · intro w'
                                            go_simp
                                            with_reducible rfl
                                          rotate_left
                                          · simp only [Act.put, List.setIfInBounds_toArray, List.set_cons_zero, List.set_cons_succ, i64_w, i32_w]
                                            rfl
                                          refine pure_ (i := 11) (N := some 85) (v := ?_) (a' := ?_) #[true, true, true, true, true, true, true, true, true, false, true, true, false, false, false, false, false, false] rfl rfl (any_of HT_.out (by kernel_rfl)) (fun _ _ _ h => h) (Or.inl ⟨by rfl, ?_⟩) ?_ ?_
                                          rotate_left
                                          · intro w'
                                            go_simp
                                            with_reducible rfl
                                          rotate_left
                                          · simp only [Act.put, List.setIfInBounds_toArray, List.set_cons_zero, List.set_cons_succ, i64_w, i32_w]
                                            rfl
                                          refine pure_ (i := 12) (N := some 86) (v := ?_) (a' := ?_) #[true, true, true, true, true, true, true, true, true, false, true, true, true, false, false, false, false, false] rfl rfl (any_of HT_.out (by kernel_rfl)) (fun _ _ _ h => h) (Or.inl ⟨by rfl, ?_⟩) ?_ ?_
                                          rotate_left
                                          · intro w'
                                            go_simp
                                            with_reducible rfl
                                          rotate_left
                                          · simp only [Act.put, List.setIfInBounds_toArray, List.set_cons_zero, List.set_cons_succ, i64_w, i32_w]
                                            rfl
                                          refine take_ (i := 9) (N := some 83) (v := ?_) (a' := ?_) #[true, true, true, true, true, true, true, true, true, true, true, true, true, false, false, false, false, false] rfl rfl (take_ofW HT_.out HW_.out (by kernel_rfl)) (fun _ _ _ h => h) (Or.inl ⟨by rfl, ?_⟩) hHeld ?_ ?_
                                          rotate_left
                                          · rintro w' ⟨s0, s1⟩
                                            go_simp
                                            with_reducible rfl
                                          rotate_left
                                          · simp only [Act.put, List.setIfInBounds_toArray, List.set_cons_zero, List.set_cons_succ, i64_w, i32_w]
                                            rfl
                                          refine take_ (i := 13) (N := some 87) (v := ?_) (a' := ?_) #[true, true, true, true, true, true, true, true, true, true, true, true, true, true, false, false, false, false] rfl rfl (take_ofW HT_.out HW_.out (by kernel_rfl)) (fun _ _ _ h => h) (Or.inl ⟨by rfl, ?_⟩) hHeld ?_ ?_
                                          rotate_left
                                          · rintro w' ⟨s0, s1⟩
                                            go_simp
                                            with_reducible rfl
                                          rotate_left
                                          · simp only [Act.put, List.setIfInBounds_toArray, List.set_cons_zero, List.set_cons_succ, i64_w, i32_w]
                                            rfl
                                          refine pure_ (i := 14) (N := some 88) (v := ?_) (a' := ?_) #[true, true, true, true, true, true, true, true, true, true, true, true, true, true, true, false, false, false] rfl rfl (any_of HT_.out (by kernel_rfl)) (fun _ _ _ h => h) (Or.inl ⟨by rfl, ?_⟩) ?_ ?_
                                          rotate_left
                                          · intro w'
                                            go_simp
                                            with_reducible rfl
                                          rotate_left
                                          · simp only [Act.put, List.setIfInBounds_toArray, List.set_cons_zero, List.set_cons_succ, i64_w, i32_w]
                                            rfl
                                          refine last_ (i := 15) (N := none) #[true, true, true, true, true, true, true, true, true, true, true, true, true, true, true, true, false, false] rfl rfl (one_of HT_.out (by kernel_rfl)) (by decide) (fun K hK => ?_)
                                          refine skip_ (w1 := ?_) (by rfl) rfl ?_ ?_
                                          rotate_left
                                          · go_simp
                                            rfl
                                          refine hK.out _ _ ?_
                                          clear hK K
                                          refine pure_ (i := 16) (N := some 89) (v := ?_) (a' := ?_) #[true, true, true, true, true, true, true, true, true, true, true, true, true, true, true, true, true, false] rfl rfl (any_of HT_.out (by kernel_rfl)) (fun _ _ _ h => h) (Or.inl ⟨by rfl, ?_⟩) ?_ ?_
                                          rotate_left
                                          · intro w'
                                            go_simp
                                            with_reducible rfl
                                          rotate_left
                                          · simp only [Act.put, List.setIfInBounds_toArray, List.set_cons_zero, List.set_cons_succ, i64_w, i32_w]
                                            rfl
                                          refine last_ (i := 17) (N := none) #[true, true, true, true, true, true, true, true, true, true, true, true, true, true, true, true, true, true] rfl rfl (one_of HT_.out (by kernel_rfl)) (by decide) (fun K hK => ?_)
                                          refine skip_ (w1 := ?_) (by rfl) rfl ?_ ?_
                                          rotate_left
                                          · go_simp
                                            rfl
                                          refine hK.out _ _ ?_
                                          clear hK K
                                          refine done_ (done_of HT_.out (by kernel_rfl)) ?_
                                          try go_wp2
                                          (try simp only [← hl3_4])
                                          go_roundg k4
                                          case measure => have := HK1.out; have := HJ32.out; have := HK3.out; have := HK4.out; omega
                                          case rel => exact ⟨(y199), (ji42), (by first | rfl | (simp; done) | (simp only [← hji42] <;> (first | rfl | simp)) | (simp [*]; done)), H', ⟨by have := HK1.out; have := HJ32.out; have := HK3.out; have := HK4.out; omega⟩, ⟨by (try simp only [hl3_3]); (try simp only [hl3_4]); (with_reducible repeat (first | apply Kd.R_alloc | apply Kd.R_drewN | apply Kd.R_drew)); exact HQ51.out⟩, ⟨by repeat (first | (with_reducible first | exact HB.out | apply below_alloc | apply pw_below_drewN | apply below_drew1 | refine below_set ?_ GB46.out | refine below_set ?_ GB46.out) | exact HB.out)⟩⟩
                                        · rw [if_neg c45] at H
                                          have c45b0 : (Op.bytesLess ((rdOf ByteArray.empty x3_4 x9_4).toList) ((rdOf ByteArray.empty x3_4 (ji42)).toList)) = false := by simpa using c45
                                          clear c45
                                          have H' := Aside0.mk H
                                          clear H
                                          try go_wp2
                                          have n0_ := Aside0.mk (Kd.R_drew HO_3.out)
                                          have n1_ := Aside0.mk (below_drew1 HB.out)
                                          clear HO_3
                                          clear HB
                                          have HO_3 := n0_
                                          have HB := n1_
                                          clear n0_ n1_
                                          have p194 : 0 ≤ (x9_4 : Int) := of_decide_eq_true (by first | (with_reducible assumption) | assumption)
                                          have q194 : x9_4 < (x3_4.length : Int) := of_decide_eq_true (by first | (with_reducible assumption) | assumption)
                                          obtain ⟨ad194, e194, hx194_0⟩ := Kd.at_string (Kd.R_reads' HO_3.out).2.2 x9_4 p194 q194
                                          cases e194
                                          replace p194 := eq_true p194
                                          replace q194 := eq_true q194
                                          have p195 : 0 ≤ ((ji42) : Int) := of_decide_eq_true (by first | (with_reducible assumption) | assumption)
                                          have q195 : (ji42) < (x3_4.length : Int) := of_decide_eq_true (by first | (with_reducible assumption) | assumption)
                                          obtain ⟨ad195, e195, hx195_0⟩ := Kd.at_string (Kd.R_reads' HO_3.out).2.2 (ji42) p195 q195
                                          obtain rfl : ad194 = ad195 := (by injection e195)
                                          replace p195 := eq_true p195
                                          replace q195 := eq_true q195
                                          refine start_ (n := 14) (S := fun w' => w'.cell? (ad194.add (x9_4).toNat) = some (.string (rdOf ByteArray.empty x3_4 x9_4)) ∧ w'.cell? (ad194.add ((ji42)).toNat) = some (.string (rdOf ByteArray.empty x3_4 (ji42)))) (ds := []) #[false, false, false, false, false, false, false, false, false, false, false, false, false, false] (by kernel_rfl) rfl rfl ⟨hx194_0, hx195_0⟩ (fun hHeld => ?_); refine with_tabW laws_FnMetricText.tab22 laws_FnMetricText.bits22 (fun HT_ HW_ => ?_)
                                          generalize wr.drew = w52 at HO_3 HB hx194_0 hx195_0 hHeld ⊢
                                          refine pure_ (i := 0) (N := some 58) (v := ?_) (a' := ?_) #[true, false, false, false, false, false, false, false, false, false, false, false, false, false] rfl rfl (any_of HT_.out (by kernel_rfl)) (fun _ _ _ h => h) (Or.inl ⟨by rfl, ?_⟩) ?_ ?_
                                          rotate_left
                                          · intro w'
                                            go_simp
                                            with_reducible rfl
                                          rotate_left
                                          · simp only [Act.put, List.setIfInBounds_toArray, List.set_cons_zero, List.set_cons_succ, i64_w, i32_w]
                                            rfl
                                          refine pure_ (i := 1) (N := some 59) (v := ?_) (a' := ?_) #[true, true, false, false, false, false, false, false, false, false, false, false, false, false] rfl rfl (any_of HT_.out (by kernel_rfl)) (fun _ _ _ h => h) (Or.inl ⟨by rfl, ?_⟩) ?_ ?_
                                          rotate_left
                                          · intro w'
                                            go_simp
                                            with_reducible rfl
                                          rotate_left
                                          · simp only [Act.put, List.setIfInBounds_toArray, List.set_cons_zero, List.set_cons_succ, i64_w, i32_w]
                                            rfl
                                          refine pure_ (i := 2) (N := some 60) (v := ?_) (a' := ?_) #[true, true, true, false, false, false, false, false, false, false, false, false, false, false] rfl rfl (any_of HT_.out (by kernel_rfl)) (fun _ _ _ h => h) (Or.inl ⟨by rfl, ?_⟩) ?_ ?_
                                          rotate_left
                                          · intro w'
                                            go_simp
                                            with_reducible rfl
                                          rotate_left
                                          · simp only [Act.put, List.setIfInBounds_toArray, List.set_cons_zero, List.set_cons_succ, i64_w, i32_w]
                                            rfl
                                          refine pure_ (i := 3) (N := some 61) (v := ?_) (a' := ?_) #[true, true, true, true, false, false, false, false, false, false, false, false, false, false] rfl rfl (any_of HT_.out (by kernel_rfl)) (fun _ _ _ h => h) (Or.inl ⟨by rfl, ?_⟩) ?_ ?_
                                          rotate_left
                                          · intro w'
                                            go_simp
                                            with_reducible rfl
                                          rotate_left
                                          · simp only [Act.put, List.setIfInBounds_toArray, List.set_cons_zero, List.set_cons_succ, i64_w, i32_w]
                                            rfl
                                          refine pure_ (i := 4) (N := some 62) (v := ?_) (a' := ?_) #[true, true, true, true, true, false, false, false, false, false, false, false, false, false] rfl rfl (any_of HT_.out (by kernel_rfl)) (fun _ _ _ h => h) (Or.inl ⟨by rfl, ?_⟩) ?_ ?_
                                          rotate_left
                                          · intro w'
                                            go_simp
                                            with_reducible rfl
                                          rotate_left
                                          · simp only [Act.put, List.setIfInBounds_toArray, List.set_cons_zero, List.set_cons_succ, i64_w, i32_w]
                                            rfl
                                          refine pure_ (i := 5) (N := some 63) (v := ?_) (a' := ?_) #[true, true, true, true, true, true, false, false, false, false, false, false, false, false] rfl rfl (any_of HT_.out (by kernel_rfl)) (fun _ _ _ h => h) (Or.inl ⟨by rfl, ?_⟩) ?_ ?_
                                          rotate_left
                                          · intro w'
                                            go_simp
                                            with_reducible rfl
                                          rotate_left
                                          · simp only [Act.put, List.setIfInBounds_toArray, List.set_cons_zero, List.set_cons_succ, i64_w, i32_w]
                                            rfl
                                          refine pure_ (i := 7) (N := some 65) (v := ?_) (a' := ?_) #[true, true, true, true, true, true, false, true, false, false, false, false, false, false] rfl rfl (any_of HT_.out (by kernel_rfl)) (fun _ _ _ h => h) (Or.inl ⟨by rfl, ?_⟩) ?_ ?_
                                          rotate_left
                                          · intro w'
                                            go_simp
                                            with_reducible rfl
                                          rotate_left
                                          · simp only [Act.put, List.setIfInBounds_toArray, List.set_cons_zero, List.set_cons_succ, i64_w, i32_w]
                                            rfl
                                          refine pure_ (i := 8) (N := some 66) (v := ?_) (a' := ?_) #[true, true, true, true, true, true, false, true, true, false, false, false, false, false] rfl rfl (any_of HT_.out (by kernel_rfl)) (fun _ _ _ h => h) (Or.inl ⟨by rfl, ?_⟩) ?_ ?_
                                          rotate_left
                                          · intro w'
                                            go_simp
                                            with_reducible rfl
                                          rotate_left
                                          · simp only [Act.put, List.setIfInBounds_toArray, List.set_cons_zero, List.set_cons_succ, i64_w, i32_w]
                                            rfl
                                          refine pure_ (i := 9) (N := some 67) (v := ?_) (a' := ?_) #[true, true, true, true, true, true, false, true, true, true, false, false, false, false] rfl rfl (any_of HT_.out (by kernel_rfl)) (fun _ _ _ h => h) (Or.inl ⟨by rfl, ?_⟩) ?_ ?_
                                          rotate_left
                                          · intro w'
                                            go_simp
                                            with_reducible rfl
                                          rotate_left
                                          · simp only [Act.put, List.setIfInBounds_toArray, List.set_cons_zero, List.set_cons_succ, i64_w, i32_w]
                                            rfl
                                          refine pure_ (i := 10) (N := some 68) (v := ?_) (a' := ?_) #[true, true, true, true, true, true, false, true, true, true, true, false, false, false] rfl rfl (any_of HT_.out (by kernel_rfl)) (fun _ _ _ h => h) (Or.inl ⟨by rfl, ?_⟩) ?_ ?_
                                          rotate_left
                                          · intro w'
                                            go_simp
                                            with_reducible rfl
                                          rotate_left
                                          · simp only [Act.put, List.setIfInBounds_toArray, List.set_cons_zero, List.set_cons_succ, i64_w, i32_w]
                                            rfl
                                          refine take_ (i := 6) (N := some 64) (v := ?_) (a' := ?_) #[true, true, true, true, true, true, true, true, true, true, true, false, false, false] rfl rfl (take_ofW HT_.out HW_.out (by kernel_rfl)) (fun _ _ _ h => h) (Or.inl ⟨by rfl, ?_⟩) hHeld ?_ ?_
                                          rotate_left
                                          · rintro w' ⟨s0, s1⟩
                                            go_simp
                                            with_reducible rfl
                                          rotate_left
                                          · simp only [Act.put, List.setIfInBounds_toArray, List.set_cons_zero, List.set_cons_succ, i64_w, i32_w]
                                            rfl
                                          refine take_ (i := 11) (N := some 69) (v := ?_) (a' := ?_) #[true, true, true, true, true, true, true, true, true, true, true, true, false, false] rfl rfl (take_ofW HT_.out HW_.out (by kernel_rfl)) (fun _ _ _ h => h) (Or.inl ⟨by rfl, ?_⟩) hHeld ?_ ?_
                                          rotate_left
                                          · rintro w' ⟨s0, s1⟩
                                            go_simp
                                            with_reducible rfl
                                          rotate_left
                                          · simp only [Act.put, List.setIfInBounds_toArray, List.set_cons_zero, List.set_cons_succ, i64_w, i32_w]
                                            rfl
                                          refine pure_ (i := 12) (N := some 70) (v := ?_) (a' := ?_) #[true, true, true, true, true, true, true, true, true, true, true, true, true, false] rfl rfl (any_of HT_.out (by kernel_rfl)) (fun _ _ _ h => h) (Or.inl ⟨by rfl, ?_⟩) ?_ ?_
                                          rotate_left
                                          · intro w'
                                            go_simp
                                            with_reducible rfl
                                          rotate_left
                                          · simp only [Act.put, List.setIfInBounds_toArray, List.set_cons_zero, List.set_cons_succ, i64_w, i32_w]
                                            rfl
                                          refine pure_ (i := 13) (N := some 71) (v := ?_) (a' := ?_) #[true, true, true, true, true, true, true, true, true, true, true, true, true, true] rfl rfl (any_of HT_.out (by kernel_rfl)) (fun _ _ _ h => h) (Or.inl ⟨by rfl, ?_⟩) ?_ ?_
                                          rotate_left
                                          · intro w'
                                            go_simp
                                            with_reducible rfl
                                          rotate_left
                                          · simp only [Act.put, List.setIfInBounds_toArray, List.set_cons_zero, List.set_cons_succ, i64_w, i32_w]
                                            rfl
                                          refine done_ (done_of HT_.out (by kernel_rfl)) ?_
                                          try go_wp2
                                          (try simp only [← hl3_3, ← hl3_4])
                                          go_roundg k4
                                          case measure => have := HK1.out; have := HJ32.out; have := HK3.out; have := HK4.out; omega
                                          case rel => exact ⟨(x3_4), (wrap64 (x54_3 + 1)), (by first | rfl | (simp; done) | (simp [*]; done)), H', ⟨by have := HK1.out; have := HJ32.out; have := HK3.out; have := HK4.out; omega⟩, ⟨by (try simp only [hl3_3]); (try simp only [hl3_4]); (with_reducible repeat (first | apply Kd.R_alloc | apply Kd.R_drewN | apply Kd.R_drew)); exact HO_3.out⟩, ⟨by repeat (first | (with_reducible first | exact HB.out | apply below_alloc | apply pw_below_drewN | apply below_drew1) | exact HB.out)⟩⟩
                                      · rw [if_neg c44] at H
                                        exact absurd H (by simp)
                                    · rw [if_neg c43] at H
                                      exact absurd H (by simp)
                                  · rw [if_neg c41] at H
                                    exact absurd H (by simp)
                                · rw [if_neg c40] at H
                                  exact absurd H (by simp)
                              · rw [if_neg c39] at H
                                have c39b0 : decide (0 < x9_4) = false := decide_eq_false c39
                                clear c39
                                have H' := Aside0.mk H
                                clear H
                                try go_wp2
                                have n0_ := Aside0.mk (Kd.R_drew HO_3.out)
                                have n1_ := Aside0.mk (below_drew1 HB.out)
                                clear HO_3
                                clear HB
                                have HO_3 := n0_
                                have HB := n1_
                                clear n0_ n1_
                                refine start_ (n := 14) (S := fun w' => True) (ds := []) #[false, false, false, false, false, false, false, false, false, false, false, false, false, false] (by kernel_rfl) rfl rfl trivial (fun hHeld => ?_); refine with_tabW laws_FnMetricText.tab22 laws_FnMetricText.bits22 (fun HT_ HW_ => ?_)
                                generalize wr.drew = w53 at HO_3 HB hHeld ⊢
                                refine pure_ (i := 0) (N := some 58) (v := ?_) (a' := ?_) #[true, false, false, false, false, false, false, false, false, false, false, false, false, false] rfl rfl (any_of HT_.out (by kernel_rfl)) (fun _ _ _ h => h) (Or.inl ⟨by rfl, ?_⟩) ?_ ?_
                                rotate_left
                                · intro w'
                                  go_simp
                                  with_reducible rfl
                                rotate_left
                                · simp only [Act.put, List.setIfInBounds_toArray, List.set_cons_zero, List.set_cons_succ, i64_w, i32_w]
                                  rfl
                                refine pure_ (i := 1) (N := some 59) (v := ?_) (a' := ?_) #[true, true, false, false, false, false, false, false, false, false, false, false, false, false] rfl rfl (any_of HT_.out (by kernel_rfl)) (fun _ _ _ h => h) (Or.inl ⟨by rfl, ?_⟩) ?_ ?_
                                rotate_left
                                · intro w'
                                  go_simp
                                  with_reducible rfl
                                rotate_left
                                · simp only [Act.put, List.setIfInBounds_toArray, List.set_cons_zero, List.set_cons_succ, i64_w, i32_w]
                                  rfl
                                refine pure_ (i := 2) (N := some 60) (v := ?_) (a' := ?_) #[true, true, true, false, false, false, false, false, false, false, false, false, false, false] rfl rfl (any_of HT_.out (by kernel_rfl)) (fun _ _ _ h => h) (Or.inl ⟨by rfl, ?_⟩) ?_ ?_
                                rotate_left
                                · intro w'
                                  go_simp
                                  with_reducible rfl
                                rotate_left
                                · simp only [Act.put, List.setIfInBounds_toArray, List.set_cons_zero, List.set_cons_succ, i64_w, i32_w]
                                  rfl
                                refine pure_ (i := 3) (N := some 61) (v := undef) (a' := ?_) #[true, true, true, true, false, false, false, false, false, false, false, false, false, false] rfl rfl (any_of HT_.out (by kernel_rfl)) (fun _ _ _ h => h) (Or.inr ⟨by rfl, rfl⟩) ?_ ?_
                                rotate_left
                                · simp only [Act.put, List.setIfInBounds_toArray, List.set_cons_zero, List.set_cons_succ, i64_w, i32_w]
                                  rfl
                                refine pure_ (i := 4) (N := some 62) (v := undef) (a' := ?_) #[true, true, true, true, true, false, false, false, false, false, false, false, false, false] rfl rfl (any_of HT_.out (by kernel_rfl)) (fun _ _ _ h => h) (Or.inr ⟨by rfl, rfl⟩) ?_ ?_
                                rotate_left
                                · simp only [Act.put, List.setIfInBounds_toArray, List.set_cons_zero, List.set_cons_succ, i64_w, i32_w]
                                  rfl
                                refine pure_ (i := 5) (N := some 63) (v := undef) (a' := ?_) #[true, true, true, true, true, true, false, false, false, false, false, false, false, false] rfl rfl (any_of HT_.out (by kernel_rfl)) (fun _ _ _ h => h) (Or.inr ⟨by rfl, rfl⟩) ?_ ?_
                                rotate_left
                                · simp only [Act.put, List.setIfInBounds_toArray, List.set_cons_zero, List.set_cons_succ, i64_w, i32_w]
                                  rfl
                                refine pure_ (i := 6) (N := some 64) (v := undef) (a' := ?_) #[true, true, true, true, true, true, true, false, false, false, false, false, false, false] rfl rfl (any_of HT_.out (by kernel_rfl)) (fun _ _ _ h => h) (Or.inr ⟨by rfl, rfl⟩) ?_ ?_
                                rotate_left
                                · simp only [Act.put, List.setIfInBounds_toArray, List.set_cons_zero, List.set_cons_succ, i64_w, i32_w]
                                  rfl
                                refine pure_ (i := 7) (N := some 65) (v := undef) (a' := ?_) #[true, true, true, true, true, true, true, true, false, false, false, false, false, false] rfl rfl (any_of HT_.out (by kernel_rfl)) (fun _ _ _ h => h) (Or.inr ⟨by rfl, rfl⟩) ?_ ?_
                                rotate_left
                                · simp only [Act.put, List.setIfInBounds_toArray, List.set_cons_zero, List.set_cons_succ, i64_w, i32_w]
                                  rfl
                                refine pure_ (i := 8) (N := some 66) (v := undef) (a' := ?_) #[true, true, true, true, true, true, true, true, true, false, false, false, false, false] rfl rfl (any_of HT_.out (by kernel_rfl)) (fun _ _ _ h => h) (Or.inr ⟨by rfl, rfl⟩) ?_ ?_
                                rotate_left
                                · simp only [Act.put, List.setIfInBounds_toArray, List.set_cons_zero, List.set_cons_succ, i64_w, i32_w]
                                  rfl
                                refine pure_ (i := 9) (N := some 67) (v := undef) (a' := ?_) #[true, true, true, true, true, true, true, true, true, true, false, false, false, false] rfl rfl (any_of HT_.out (by kernel_rfl)) (fun _ _ _ h => h) (Or.inr ⟨by rfl, rfl⟩) ?_ ?_
                                rotate_left
                                · simp only [Act.put, List.setIfInBounds_toArray, List.set_cons_zero, List.set_cons_succ, i64_w, i32_w]
                                  rfl
                                refine pure_ (i := 10) (N := some 68) (v := undef) (a' := ?_) #[true, true, true, true, true, true, true, true, true, true, true, false, false, false] rfl rfl (any_of HT_.out (by kernel_rfl)) (fun _ _ _ h => h) (Or.inr ⟨by rfl, rfl⟩) ?_ ?_
                                rotate_left
                                · simp only [Act.put, List.setIfInBounds_toArray, List.set_cons_zero, List.set_cons_succ, i64_w, i32_w]
                                  rfl
                                refine pure_ (i := 11) (N := some 69) (v := undef) (a' := ?_) #[true, true, true, true, true, true, true, true, true, true, true, true, false, false] rfl rfl (any_of HT_.out (by kernel_rfl)) (fun _ _ _ h => h) (Or.inr ⟨by rfl, rfl⟩) ?_ ?_
                                rotate_left
                                · simp only [Act.put, List.setIfInBounds_toArray, List.set_cons_zero, List.set_cons_succ, i64_w, i32_w]
                                  rfl
                                refine pure_ (i := 12) (N := some 70) (v := undef) (a' := ?_) #[true, true, true, true, true, true, true, true, true, true, true, true, true, false] rfl rfl (any_of HT_.out (by kernel_rfl)) (fun _ _ _ h => h) (Or.inr ⟨by rfl, rfl⟩) ?_ ?_
                                rotate_left
                                · simp only [Act.put, List.setIfInBounds_toArray, List.set_cons_zero, List.set_cons_succ, i64_w, i32_w]
                                  rfl
                                refine pure_ (i := 13) (N := some 71) (v := ?_) (a' := ?_) #[true, true, true, true, true, true, true, true, true, true, true, true, true, true] rfl rfl (any_of HT_.out (by kernel_rfl)) (fun _ _ _ h => h) (Or.inl ⟨by rfl, ?_⟩) ?_ ?_
                                rotate_left
                                · intro w'
                                  go_simp
                                  with_reducible rfl
                                rotate_left
                                · simp only [Act.put, List.setIfInBounds_toArray, List.set_cons_zero, List.set_cons_succ, i64_w, i32_w]
                                  rfl
                                refine done_ (done_of HT_.out (by kernel_rfl)) ?_
                                try go_wp2
                                (try simp only [← hl3_3, ← hl3_4])
                                go_roundg k4
                                case measure => have := HK1.out; have := HJ32.out; have := HK3.out; have := HK4.out; omega
                                case rel => exact ⟨(x3_4), (wrap64 (x54_3 + 1)), (by first | rfl | (simp; done) | (simp [*]; done)), H', ⟨by have := HK1.out; have := HJ32.out; have := HK3.out; have := HK4.out; omega⟩, ⟨by (try simp only [hl3_3]); (try simp only [hl3_4]); (with_reducible repeat (first | apply Kd.R_alloc | apply Kd.R_drewN | apply Kd.R_drew)); exact HO_3.out⟩, ⟨by repeat (first | (with_reducible first | exact HB.out | apply below_alloc | apply pw_below_drewN | apply below_drew1) | exact HB.out)⟩⟩
                        · rw [if_neg c38] at H
                          have c38b0 : decide (x54_3 < (x3_1.length : Int)) = false := decide_eq_false c38
                          try simp only [hl3_3] at c38b0
                          try simp only [hl3_4] at c38b0
                          clear c38
                          by_cases c54 : x4_1.size + 1 ≤ 9223372036854775807
                          · rw [if_pos c54] at H
                            have c54b0 := eq_true c54
                            have c54b1 : decide (x4_1.size + 1 ≤ 9223372036854775807) = true := decide_eq_true c54
                            try have c54b2 : (9223372036854775807 < x4_1.size + 1) = False := eq_false (Nat.not_lt.2 c54)
                            replace H := Option.bind_eq_some_iff.mp H
                            obtain ⟨t200, A550, H⟩ := H
                            replace H : (if (x4_1 ++ (⟨#[123]⟩ : ByteArray)).size + t200.size ≤ 9223372036854775807 then (if ((x4_1 ++ (⟨#[123]⟩ : ByteArray)) ++ t200).size + 1 ≤ 9223372036854775807 then (if x5_1 = true then (if (x3_3.length : Int) = 0 then ((impl_MetricText.f l0).bind fun t201 => (some (t201.toList == x4_1.toList))) else ((impl_MetricText.f l0).bind fun t202 => (some (t202.toList == (((x4_1 ++ (⟨#[123]⟩ : ByteArray)) ++ t200) ++ (⟨#[125]⟩ : ByteArray)).toList)))) else ((impl_MetricText.f l0).bind fun t203 => (some (t203.toList == (((x4_1 ++ (⟨#[123]⟩ : ByteArray)) ++ t200) ++ (⟨#[125]⟩ : ByteArray)).toList)))) else (none)) else (none)) = some r := H
                            have A55 := Aside0.mk A550
                            clear A550
                            by_cases c56 : (x4_1 ++ (⟨#[123]⟩ : ByteArray)).size + t200.size ≤ 9223372036854775807
                            · rw [if_pos c56] at H
                              have c56b0 := eq_true c56
                              have c56b1 : decide ((x4_1 ++ (⟨#[123]⟩ : ByteArray)).size + t200.size ≤ 9223372036854775807) = true := decide_eq_true c56
                              try have c56b2 : (9223372036854775807 < (x4_1 ++ (⟨#[123]⟩ : ByteArray)).size + t200.size) = False := eq_false (Nat.not_lt.2 c56)
                              try have c56b3 := c56b2
                              try simp only [ByteArray.size_append, show (⟨#[123]⟩ : ByteArray).size = 1 from rfl] at c56b3
                              by_cases c57 : ((x4_1 ++ (⟨#[123]⟩ : ByteArray)) ++ t200).size + 1 ≤ 9223372036854775807
                              · rw [if_pos c57] at H
                                have c57b0 := eq_true c57
                                have c57b1 : decide (((x4_1 ++ (⟨#[123]⟩ : ByteArray)) ++ t200).size + 1 ≤ 9223372036854775807) = true := decide_eq_true c57
                                try have c57b2 : (9223372036854775807 < ((x4_1 ++ (⟨#[123]⟩ : ByteArray)) ++ t200).size + 1) = False := eq_false (Nat.not_lt.2 c57)
                                try have c57b3 := c57b2
                                try simp only [ByteArray.size_append, show (⟨#[123]⟩ : ByteArray).size = 1 from rfl] at c57b3
                                by_cases c58 : x5_1 = true
                                · subst c58
                                  have H1 : (if (x3_3.length : Int) = 0 then ((impl_MetricText.f l0).bind fun t201 => (some (t201.toList == x4_1.toList))) else ((impl_MetricText.f l0).bind fun t202 => (some (t202.toList == (((x4_1 ++ (⟨#[123]⟩ : ByteArray)) ++ t200) ++ (⟨#[125]⟩ : ByteArray)).toList)))) = some r := by rw [if_pos rfl] at H; exact H
                                  clear H
                                  have H := H1
                                  clear H1
                                  by_cases c59 : (x3_3.length : Int) = 0
                                  · rw [if_pos c59] at H
                                    have c59b0 : ((x3_3.length : Int) == 0) = true := beq_iff_eq.mpr c59
                                    have c59b1 : ((x3_3.length : Int) != 0) = false := bne_eq_false_iff_eq.mpr c59
                                    clear c59
                                    replace H := Option.bind_eq_some_iff.mp H
                                    obtain ⟨t201, A600, H⟩ := H
                                    replace H : (some (t201.toList == x4_1.toList)) = some r := H
                                    have A60 := Aside0.mk A600
                                    clear A600
                                    obtain rfl := Option.some.inj H
                                    go_wp2_with (first | ((with_reducible refine gate_callee (f := 12) rfl ?_); refine goesL_ (some 94) rfl rfl Tryd.func12 (by kernel_rfl) rfl #[.slice Ao37 x3_3.length co37, .string (⟨#[44, 32]⟩ : ByteArray)] rfl (by (try simp only [List.map_toArray, List.map_cons, List.map_nil]); first | done | rfl | (simp only [List.length_drop, List.length_take]; rfl)) ?_; (with_reducible refine (laws_joined.calls k3 _ _ x3_3 (⟨#[44, 32]⟩ : ByteArray) t200 _ ?side1 ?side2 A55.out).mono ?_); (case side1 => repeat (first | exact (Kd.R_reads' HO_3.out).2.2 | (with_reducible refine Kd.C_alloc ?_ _) | (with_reducible refine Kd.C_drewN ?_ _) | (with_reducible refine Kd.C_drew ?_))); (case side2 => exact (Kd.R_reads' HO_3.out).2.1); rintro e w' ⟨rfl, ⟨nd, rfl⟩⟩; refine ⟨_, rfl, ?_⟩) | ((with_reducible refine gate_callee (f := 7) rfl ?_); refine goesL_ (some 105) rfl rfl Tryd.func7 (by kernel_rfl) rfl #[.slice A0 l0.length c0] rfl (by (try simp only [List.map_toArray, List.map_cons, List.map_nil]); first | done | rfl | (simp only [List.length_drop, List.length_take]; rfl)) ?_; (with_reducible refine (impl_MetricText.calls _ _ l0 t201 _ ?side1 ?side2 ?side3 A60.out).mono ?_); (case side1 => repeat (first | exact (Kd.C_below HR0.out (by repeat (first | (with_reducible first | exact HB.out | apply below_alloc | apply pw_below_drewN | apply below_drew1) | exact HB.out))) | (with_reducible refine Kd.C_alloc ?_ _) | (with_reducible refine Kd.C_drewN ?_ _) | (with_reducible refine Kd.C_drew ?_))); (case side2 => exact HC0.out); (case side3 => exact Go.Proofs.YtenededepjfojaaDoor.Door.PQ.below HT_.out (by repeat (first | (with_reducible first | exact HB.out | apply below_alloc | apply pw_below_drewN | apply below_drew1) | exact HB.out))); rintro e w61 ⟨rfl, hb⟩; refine ⟨_, rfl, ?_⟩; have n0_ := Aside0.mk (Kd.R_below (by (with_reducible repeat (first | apply Kd.R_alloc | apply Kd.R_drewN | apply Kd.R_drew)); exact HO_3.out) hb); have n1_ := Aside0.mk (below_step (by repeat (first | (with_reducible first | exact HB.out | apply below_alloc | apply pw_below_drewN | apply below_drew1) | exact HB.out)) hb); clear HO_3; clear HB; have HO_3 := n0_; have HB := n1_; clear n0_ n1_; (try clear hb); (try clear hb2); (try clear hk); (try clear hi)))
                                    go_ret
                                    exact ⟨by first | rfl | (simp [errW_none, errW_some] <;> rfl) | (simp [*, errW_none, errW_some] <;> rfl), by repeat (first | (with_reducible first | exact HB.out | apply below_alloc | apply pw_below_drewN | apply below_drew1) | exact HB.out)⟩
                                  · rw [if_neg c59] at H
                                    have c59b0 : ((x3_3.length : Int) == 0) = false := beq_eq_false_iff_ne.mpr c59
                                    have c59b1 : ((x3_3.length : Int) != 0) = true := bne_iff_ne.mpr c59
                                    have c59b2 : ¬ (x3_3 = []) := fun h_ => c59 (by rw [h_]; rfl)
                                    replace H := Option.bind_eq_some_iff.mp H
                                    obtain ⟨t202, A620, H⟩ := H
                                    replace H : (some (t202.toList == (((x4_1 ++ (⟨#[123]⟩ : ByteArray)) ++ t200) ++ (⟨#[125]⟩ : ByteArray)).toList)) = some r := H
                                    have A62 := Aside0.mk A620
                                    clear A620
                                    obtain rfl := Option.some.inj H
                                    go_wp2_with (first | ((with_reducible refine gate_callee (f := 12) rfl ?_); refine goesL_ (some 94) rfl rfl Tryd.func12 (by kernel_rfl) rfl #[.slice Ao37 x3_3.length co37, .string (⟨#[44, 32]⟩ : ByteArray)] rfl (by (try simp only [List.map_toArray, List.map_cons, List.map_nil]); first | done | rfl | (simp only [List.length_drop, List.length_take]; rfl)) ?_; (with_reducible refine (laws_joined.calls k3 _ _ x3_3 (⟨#[44, 32]⟩ : ByteArray) t200 _ ?side1 ?side2 A55.out).mono ?_); (case side1 => repeat (first | exact (Kd.R_reads' HO_3.out).2.2 | (with_reducible refine Kd.C_alloc ?_ _) | (with_reducible refine Kd.C_drewN ?_ _) | (with_reducible refine Kd.C_drew ?_))); (case side2 => exact (Kd.R_reads' HO_3.out).2.1); rintro e w' ⟨rfl, ⟨nd, rfl⟩⟩; refine ⟨_, rfl, ?_⟩) | ((with_reducible refine gate_callee (f := 7) rfl ?_); refine goesL_ (some 105) rfl rfl Tryd.func7 (by kernel_rfl) rfl #[.slice A0 l0.length c0] rfl (by (try simp only [List.map_toArray, List.map_cons, List.map_nil]); first | done | rfl | (simp only [List.length_drop, List.length_take]; rfl)) ?_; (with_reducible refine (impl_MetricText.calls _ _ l0 t202 _ ?side1 ?side2 ?side3 A62.out).mono ?_); (case side1 => repeat (first | exact (Kd.C_below HR0.out (by repeat (first | (with_reducible first | exact HB.out | apply below_alloc | apply pw_below_drewN | apply below_drew1) | exact HB.out))) | (with_reducible refine Kd.C_alloc ?_ _) | (with_reducible refine Kd.C_drewN ?_ _) | (with_reducible refine Kd.C_drew ?_))); (case side2 => exact HC0.out); (case side3 => exact Go.Proofs.YtenededepjfojaaDoor.Door.PQ.below HT_.out (by repeat (first | (with_reducible first | exact HB.out | apply below_alloc | apply pw_below_drewN | apply below_drew1) | exact HB.out))); rintro e w63 ⟨rfl, hb⟩; refine ⟨_, rfl, ?_⟩; have n0_ := Aside0.mk (Kd.R_below (by (with_reducible repeat (first | apply Kd.R_alloc | apply Kd.R_drewN | apply Kd.R_drew)); exact HO_3.out) hb); have n1_ := Aside0.mk (below_step (by repeat (first | (with_reducible first | exact HB.out | apply below_alloc | apply pw_below_drewN | apply below_drew1) | exact HB.out)) hb); clear HO_3; clear HB; have HO_3 := n0_; have HB := n1_; clear n0_ n1_; (try clear hb); (try clear hb2); (try clear hk); (try clear hi)))
                                    go_ret
                                    exact ⟨by first | rfl | (simp [errW_none, errW_some] <;> rfl) | (simp [*, errW_none, errW_some] <;> rfl), by repeat (first | (with_reducible first | exact HB.out | apply below_alloc | apply pw_below_drewN | apply below_drew1) | exact HB.out)⟩
                                · replace c58 := Bool.eq_false_iff.mpr c58
                                  subst c58
                                  have H1 : ((impl_MetricText.f l0).bind fun t203 => (some (t203.toList == (((x4_1 ++ (⟨#[123]⟩ : ByteArray)) ++ t200) ++ (⟨#[125]⟩ : ByteArray)).toList))) = some r := by rw [if_neg (show ¬ (false = true) by decide)] at H; exact H
                                  clear H
                                  have H := H1
                                  clear H1
                                  replace H := Option.bind_eq_some_iff.mp H
                                  obtain ⟨t203, A640, H⟩ := H
                                  replace H : (some (t203.toList == (((x4_1 ++ (⟨#[123]⟩ : ByteArray)) ++ t200) ++ (⟨#[125]⟩ : ByteArray)).toList)) = some r := H
                                  have A64 := Aside0.mk A640
                                  clear A640
                                  obtain rfl := Option.some.inj H
                                  go_wp2_with (first | ((with_reducible refine gate_callee (f := 12) rfl ?_); refine goesL_ (some 94) rfl rfl Tryd.func12 (by kernel_rfl) rfl #[.slice Ao37 x3_3.length co37, .string (⟨#[44, 32]⟩ : ByteArray)] rfl (by (try simp only [List.map_toArray, List.map_cons, List.map_nil]); first | done | rfl | (simp only [List.length_drop, List.length_take]; rfl)) ?_; (with_reducible refine (laws_joined.calls k3 _ _ x3_3 (⟨#[44, 32]⟩ : ByteArray) t200 _ ?side1 ?side2 A55.out).mono ?_); (case side1 => repeat (first | exact (Kd.R_reads' HO_3.out).2.2 | (with_reducible refine Kd.C_alloc ?_ _) | (with_reducible refine Kd.C_drewN ?_ _) | (with_reducible refine Kd.C_drew ?_))); (case side2 => exact (Kd.R_reads' HO_3.out).2.1); rintro e w' ⟨rfl, ⟨nd, rfl⟩⟩; refine ⟨_, rfl, ?_⟩) | ((with_reducible refine gate_callee (f := 7) rfl ?_); refine goesL_ (some 105) rfl rfl Tryd.func7 (by kernel_rfl) rfl #[.slice A0 l0.length c0] rfl (by (try simp only [List.map_toArray, List.map_cons, List.map_nil]); first | done | rfl | (simp only [List.length_drop, List.length_take]; rfl)) ?_; (with_reducible refine (impl_MetricText.calls _ _ l0 t203 _ ?side1 ?side2 ?side3 A64.out).mono ?_); (case side1 => repeat (first | exact (Kd.C_below HR0.out (by repeat (first | (with_reducible first | exact HB.out | apply below_alloc | apply pw_below_drewN | apply below_drew1) | exact HB.out))) | (with_reducible refine Kd.C_alloc ?_ _) | (with_reducible refine Kd.C_drewN ?_ _) | (with_reducible refine Kd.C_drew ?_))); (case side2 => exact HC0.out); (case side3 => exact Go.Proofs.YtenededepjfojaaDoor.Door.PQ.below HT_.out (by repeat (first | (with_reducible first | exact HB.out | apply below_alloc | apply pw_below_drewN | apply below_drew1) | exact HB.out))); rintro e w65 ⟨rfl, hb⟩; refine ⟨_, rfl, ?_⟩; have n0_ := Aside0.mk (Kd.R_below (by (with_reducible repeat (first | apply Kd.R_alloc | apply Kd.R_drewN | apply Kd.R_drew)); exact HO_3.out) hb); have n1_ := Aside0.mk (below_step (by repeat (first | (with_reducible first | exact HB.out | apply below_alloc | apply pw_below_drewN | apply below_drew1) | exact HB.out)) hb); clear HO_3; clear HB; have HO_3 := n0_; have HB := n1_; clear n0_ n1_; (try clear hb); (try clear hb2); (try clear hk); (try clear hi)))
                                  go_ret
                                  exact ⟨by first | rfl | (simp [errW_none, errW_some] <;> rfl) | (simp [*, errW_none, errW_some] <;> rfl), by repeat (first | (with_reducible first | exact HB.out | apply below_alloc | apply pw_below_drewN | apply below_drew1) | exact HB.out)⟩
                              · rw [if_neg c57] at H
                                exact absurd H (by simp)
                            · rw [if_neg c56] at H
                              exact absurd H (by simp)
                          · rw [if_neg c54] at H
                            exact absurd H (by simp)
      · replace c7 := Bool.eq_false_iff.mpr c7
        subst c7
        have H1 : (some true) = some r := by rw [if_neg (show ¬ (false = true) by decide)] at H; exact H
        clear H
        have H := H1
        clear H1
        obtain rfl := Option.some.inj H
        go_enter Tryd.func3, Tryd.ntmps3
        go_wp2_with (first | ((with_reducible refine gate_callee (f := 6) rfl ?_); refine goesL_ (some 12) rfl rfl Tryd.func6 (by kernel_rfl) rfl #[.slice A0 l0.length c0] rfl (by (try simp only [List.map_toArray, List.map_cons, List.map_nil]); first | done | rfl | (simp only [List.length_drop, List.length_take]; rfl)) ?_; (with_reducible refine (laws_zzFits1.calls k _ _ l0 true _ ?side1 ?side2 A2.out).mono ?_); (case side1 => repeat (first | exact HR0.out | (with_reducible refine Kd.C_alloc ?_ _) | (with_reducible refine Kd.C_drewN ?_ _) | (with_reducible refine Kd.C_drew ?_))); (case side2 => exact HC0.out); rintro e w66 ⟨rfl, hb⟩; refine ⟨_, rfl, ?_⟩; have n0_ := Aside0.mk (below_step (by repeat (first | (with_reducible first | exact HB.out | apply below_alloc | apply pw_below_drewN | apply below_drew1) | exact HB.out)) hb); clear HB; have HB := n0_; clear n0_; (try clear hb); (try clear hb2); (try clear hk); (try clear hi)) | ((with_reducible refine gate_dst (N := 16) rfl ?_); (try (refine gate_guard (by rfl) ?_; dsimp only)); refine Kd.R_lit k26 _ 26 ?hg (N := 16) ?hd (xs := ([(⟨(⟨#[95, 95, 110, 97, 109, 101, 95, 95]⟩ : ByteArray), (⟨#[109]⟩ : ByteArray)⟩ : S26), (⟨(⟨#[97]⟩ : ByteArray), (⟨#[98]⟩ : ByteArray)⟩ : S26)] : List (S26))) (inner := [.string (⟨#[95, 95, 110, 97, 109, 101, 95, 95]⟩ : ByteArray), .string (⟨#[109]⟩ : ByteArray), .string (⟨#[97]⟩ : ByteArray), .string (⟨#[98]⟩ : ByteArray)]) (ok := fun _ => True) (okp := fun _ => True) ?hr ?hp (fun _ hk => hk) trivial (Below.refl _ _) (Nat.le_refl _) (by simp) ?_; (case hd => rfl); (case hg => rfl); (case hr => first | (go_simp; done) | (go_simp; rfl)); (case hp => exact (Reps.c2 (show Kd.M k26 _ _ _ (⟨(⟨#[95, 95, 110, 97, 109, 101, 95, 95]⟩ : ByteArray), (⟨#[109]⟩ : ByteArray)⟩ : S26) [.string (⟨#[95, 95, 110, 97, 109, 101, 95, 95]⟩ : ByteArray), .string (⟨#[109]⟩ : ByteArray)] from (k26_mkM _ _ _ (⟨(⟨#[95, 95, 110, 97, 109, 101, 95, 95]⟩ : ByteArray), (⟨#[109]⟩ : ByteArray)⟩ : S26) )) (Reps.c2 (show Kd.M k26 _ _ _ (⟨(⟨#[97]⟩ : ByteArray), (⟨#[98]⟩ : ByteArray)⟩ : S26) [.string (⟨#[97]⟩ : ByteArray), .string (⟨#[98]⟩ : ByteArray)] from (k26_mkM _ _ _ (⟨(⟨#[97]⟩ : ByteArray), (⟨#[98]⟩ : ByteArray)⟩ : S26) )) (Reps.none _ _)))); intro v178 w67 ho68 hb hg_ hnew_; clear hg_ hnew_; (first | rw [← Ny177.out] at ho68 | (simp only [Int.reduceToNat] at ho68; rw [← Ny177.out] at ho68)); have n0_ := Aside0.mk (Kd.R_lower ho68 (below_size (by repeat (first | (with_reducible first | exact HB.out | apply below_alloc | apply pw_below_drewN | apply below_drew1) | exact HB.out)))); have n1_ := Aside0.mk (below_step (by repeat (first | (with_reducible first | exact HB.out | apply below_alloc | apply pw_below_drewN | apply below_drew1) | exact HB.out)) hb); clear HB; have HO179 := n0_; have HB := n1_; clear n0_ n1_; clear hb ho68; obtain ⟨Ao69, co69, eo69⟩ := Kd.R_slice HO179.out; subst eo69) | ((with_reducible refine gate_callee (f := 7) rfl ?_); refine goesL_ (some 17) rfl rfl Tryd.func7 (by kernel_rfl) rfl #[.slice Ao69 y177.length co69] rfl (by (try simp only [List.map_toArray, List.map_cons, List.map_nil]); first | done | rfl | (simp only [List.length_drop, List.length_take]; rfl)) ?_; (with_reducible refine (impl_MetricText.calls _ _ y177 t180 _ ?side1 ?side2 ?side3 A4.out).mono ?_); (case side1 => repeat (first | exact (Kd.R_reads' HO179.out).2.2 | (with_reducible refine Kd.C_alloc ?_ _) | (with_reducible refine Kd.C_drewN ?_ _) | (with_reducible refine Kd.C_drew ?_))); (case side2 => exact (Kd.R_reads' HO179.out).2.1); (case side3 => exact Go.Proofs.YtenededepjfojaaDoor.Door.PQ.below HT_.out (by repeat (first | (with_reducible first | exact HB.out | apply below_alloc | apply pw_below_drewN | apply below_drew1) | exact HB.out))); rintro e w70 ⟨rfl, hb⟩; refine ⟨_, rfl, ?_⟩; have n0_ := Aside0.mk (Kd.R_below (by (with_reducible repeat (first | apply Kd.R_alloc | apply Kd.R_drewN | apply Kd.R_drew)); exact HO179.out) hb); have n1_ := Aside0.mk (below_step (by repeat (first | (with_reducible first | exact HB.out | apply below_alloc | apply pw_below_drewN | apply below_drew1) | exact HB.out)) hb); clear HO179; clear HB; have HO179 := n0_; have HB := n1_; clear n0_ n1_; (try clear hb); (try clear hb2); (try clear hk); (try clear hi)) | ((with_reducible refine gate_callee (f := 8) rfl ?_); refine goesL_ (some 20) rfl rfl Tryd.func8 (by kernel_rfl) rfl #[.slice A0 l0.length c0] rfl (by (try simp only [List.map_toArray, List.map_cons, List.map_nil]); first | done | rfl | (simp only [List.length_drop, List.length_take]; rfl)) ?_; (with_reducible refine (laws_simpleLabels.calls k _ _ l0 false _ ?side1 ?side2 A6.out).mono ?_); (case side1 => repeat (first | exact (Kd.C_below HR0.out HB.out) | (with_reducible refine Kd.C_alloc ?_ _) | (with_reducible refine Kd.C_drewN ?_ _) | (with_reducible refine Kd.C_drew ?_))); (case side2 => exact HC0.out); rintro e w71 ⟨rfl, hb⟩; refine ⟨_, rfl, ?_⟩; have n0_ := Aside0.mk (Kd.R_below (by (with_reducible repeat (first | apply Kd.R_alloc | apply Kd.R_drewN | apply Kd.R_drew)); exact HO179.out) hb); have n1_ := Aside0.mk (below_step (by repeat (first | (with_reducible first | exact HB.out | apply below_alloc | apply pw_below_drewN | apply below_drew1) | exact HB.out)) hb); clear HO179; clear HB; have HO179 := n0_; have HB := n1_; clear n0_ n1_; (try clear hb); (try clear hb2); (try clear hk); (try clear hi)))
        go_ret
        exact ⟨by first | rfl | (simp [errW_none, errW_some] <;> rfl) | (simp [*, errW_none, errW_some] <;> rfl), by repeat (first | (with_reducible first | exact HB.out | apply below_alloc | apply pw_below_drewN | apply below_drew1) | exact HB.out)⟩
    · rw [if_neg c5] at H
      have c5b0 : (t180.toList == ([109, 123, 97, 61, 34, 98, 34, 125] : List UInt8)) = false := beq_eq_false_iff_ne.mpr c5
      have c5b1 : (t180.toList != ([109, 123, 97, 61, 34, 98, 34, 125] : List UInt8)) = true := bne_iff_ne.mpr c5
      obtain rfl := Option.some.inj H
      go_enter Tryd.func3, Tryd.ntmps3
      go_wp2_with (first | ((with_reducible refine gate_callee (f := 6) rfl ?_); refine goesL_ (some 12) rfl rfl Tryd.func6 (by kernel_rfl) rfl #[.slice A0 l0.length c0] rfl (by (try simp only [List.map_toArray, List.map_cons, List.map_nil]); first | done | rfl | (simp only [List.length_drop, List.length_take]; rfl)) ?_; (with_reducible refine (laws_zzFits1.calls k _ _ l0 true _ ?side1 ?side2 A2.out).mono ?_); (case side1 => repeat (first | exact HR0.out | (with_reducible refine Kd.C_alloc ?_ _) | (with_reducible refine Kd.C_drewN ?_ _) | (with_reducible refine Kd.C_drew ?_))); (case side2 => exact HC0.out); rintro e w72 ⟨rfl, hb⟩; refine ⟨_, rfl, ?_⟩; have n0_ := Aside0.mk (below_step (by repeat (first | (with_reducible first | exact HB.out | apply below_alloc | apply pw_below_drewN | apply below_drew1) | exact HB.out)) hb); clear HB; have HB := n0_; clear n0_; (try clear hb); (try clear hb2); (try clear hk); (try clear hi)) | ((with_reducible refine gate_dst (N := 16) rfl ?_); (try (refine gate_guard (by rfl) ?_; dsimp only)); refine Kd.R_lit k26 _ 26 ?hg (N := 16) ?hd (xs := ([(⟨(⟨#[95, 95, 110, 97, 109, 101, 95, 95]⟩ : ByteArray), (⟨#[109]⟩ : ByteArray)⟩ : S26), (⟨(⟨#[97]⟩ : ByteArray), (⟨#[98]⟩ : ByteArray)⟩ : S26)] : List (S26))) (inner := [.string (⟨#[95, 95, 110, 97, 109, 101, 95, 95]⟩ : ByteArray), .string (⟨#[109]⟩ : ByteArray), .string (⟨#[97]⟩ : ByteArray), .string (⟨#[98]⟩ : ByteArray)]) (ok := fun _ => True) (okp := fun _ => True) ?hr ?hp (fun _ hk => hk) trivial (Below.refl _ _) (Nat.le_refl _) (by simp) ?_; (case hd => rfl); (case hg => rfl); (case hr => first | (go_simp; done) | (go_simp; rfl)); (case hp => exact (Reps.c2 (show Kd.M k26 _ _ _ (⟨(⟨#[95, 95, 110, 97, 109, 101, 95, 95]⟩ : ByteArray), (⟨#[109]⟩ : ByteArray)⟩ : S26) [.string (⟨#[95, 95, 110, 97, 109, 101, 95, 95]⟩ : ByteArray), .string (⟨#[109]⟩ : ByteArray)] from (k26_mkM _ _ _ (⟨(⟨#[95, 95, 110, 97, 109, 101, 95, 95]⟩ : ByteArray), (⟨#[109]⟩ : ByteArray)⟩ : S26) )) (Reps.c2 (show Kd.M k26 _ _ _ (⟨(⟨#[97]⟩ : ByteArray), (⟨#[98]⟩ : ByteArray)⟩ : S26) [.string (⟨#[97]⟩ : ByteArray), .string (⟨#[98]⟩ : ByteArray)] from (k26_mkM _ _ _ (⟨(⟨#[97]⟩ : ByteArray), (⟨#[98]⟩ : ByteArray)⟩ : S26) )) (Reps.none _ _)))); intro v178 w73 ho74 hb hg_ hnew_; clear hg_ hnew_; (first | rw [← Ny177.out] at ho74 | (simp only [Int.reduceToNat] at ho74; rw [← Ny177.out] at ho74)); have n0_ := Aside0.mk (Kd.R_lower ho74 (below_size (by repeat (first | (with_reducible first | exact HB.out | apply below_alloc | apply pw_below_drewN | apply below_drew1) | exact HB.out)))); have n1_ := Aside0.mk (below_step (by repeat (first | (with_reducible first | exact HB.out | apply below_alloc | apply pw_below_drewN | apply below_drew1) | exact HB.out)) hb); clear HB; have HO179 := n0_; have HB := n1_; clear n0_ n1_; clear hb ho74; obtain ⟨Ao75, co75, eo75⟩ := Kd.R_slice HO179.out; subst eo75) | ((with_reducible refine gate_callee (f := 7) rfl ?_); refine goesL_ (some 17) rfl rfl Tryd.func7 (by kernel_rfl) rfl #[.slice Ao75 y177.length co75] rfl (by (try simp only [List.map_toArray, List.map_cons, List.map_nil]); first | done | rfl | (simp only [List.length_drop, List.length_take]; rfl)) ?_; (with_reducible refine (impl_MetricText.calls _ _ y177 t180 _ ?side1 ?side2 ?side3 A4.out).mono ?_); (case side1 => repeat (first | exact (Kd.R_reads' HO179.out).2.2 | (with_reducible refine Kd.C_alloc ?_ _) | (with_reducible refine Kd.C_drewN ?_ _) | (with_reducible refine Kd.C_drew ?_))); (case side2 => exact (Kd.R_reads' HO179.out).2.1); (case side3 => exact Go.Proofs.YtenededepjfojaaDoor.Door.PQ.below HT_.out (by repeat (first | (with_reducible first | exact HB.out | apply below_alloc | apply pw_below_drewN | apply below_drew1) | exact HB.out))); rintro e w76 ⟨rfl, hb⟩; refine ⟨_, rfl, ?_⟩; have n0_ := Aside0.mk (Kd.R_below (by (with_reducible repeat (first | apply Kd.R_alloc | apply Kd.R_drewN | apply Kd.R_drew)); exact HO179.out) hb); have n1_ := Aside0.mk (below_step (by repeat (first | (with_reducible first | exact HB.out | apply below_alloc | apply pw_below_drewN | apply below_drew1) | exact HB.out)) hb); clear HO179; clear HB; have HO179 := n0_; have HB := n1_; clear n0_ n1_; (try clear hb); (try clear hb2); (try clear hk); (try clear hi)))
      go_ret
      exact ⟨by first | rfl | (simp [errW_none, errW_some] <;> rfl) | (simp [*, errW_none, errW_some] <;> rfl), by repeat (first | (with_reducible first | exact HB.out | apply below_alloc | apply pw_below_drewN | apply below_drew1) | exact HB.out)⟩
  · replace c3 := Bool.eq_false_iff.mpr c3
    subst c3
    have H1 : (some true) = some r := by rw [if_neg (show ¬ (false = true) by decide)] at H; exact H
    clear H
    have H := H1
    clear H1
    obtain rfl := Option.some.inj H
    go_enter Tryd.func3, Tryd.ntmps3
    go_wp2_with (first | ((with_reducible refine gate_callee (f := 6) rfl ?_); refine goesL_ (some 12) rfl rfl Tryd.func6 (by kernel_rfl) rfl #[.slice A0 l0.length c0] rfl (by (try simp only [List.map_toArray, List.map_cons, List.map_nil]); first | done | rfl | (simp only [List.length_drop, List.length_take]; rfl)) ?_; (with_reducible refine (laws_zzFits1.calls k _ _ l0 false _ ?side1 ?side2 A2.out).mono ?_); (case side1 => repeat (first | exact HR0.out | (with_reducible refine Kd.C_alloc ?_ _) | (with_reducible refine Kd.C_drewN ?_ _) | (with_reducible refine Kd.C_drew ?_))); (case side2 => exact HC0.out); rintro e w77 ⟨rfl, hb⟩; refine ⟨_, rfl, ?_⟩; have n0_ := Aside0.mk (below_step (by repeat (first | (with_reducible first | exact HB.out | apply below_alloc | apply pw_below_drewN | apply below_drew1) | exact HB.out)) hb); clear HB; have HB := n0_; clear n0_; (try clear hb); (try clear hb2); (try clear hk); (try clear hi)))
    go_ret
    exact ⟨by first | rfl | (simp [errW_none, errW_some] <;> rfl) | (simp [*, errW_none, errW_some] <;> rfl), by repeat (first | (with_reducible first | exact HB.out | apply below_alloc | apply pw_below_drewN | apply below_drew1) | exact HB.out)⟩

/-- THE ONE PURE STATEMENT of laws_FnMetricText: yours. -/
def laws_FnMetricText.Pure : Prop := ∀ (l0 : List (S26)), (l0.length ≤ maxLen ∧ ∀ y ∈ l0, okS26 y) → ∃ k, laws_FnMetricText.f k l0 = some true

end Go.Proofs.YtenededepjfojaaDoor.Q
