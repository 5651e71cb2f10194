-- printed by this project's own program wip/tools/mkprint.py (the kit's print.py with hand-proved contracts put in)
import Derived.Test.YtenededepjfojaaDoorQx0
import Derived.Test.YtenededepjfojaaDoorQx6
import Derived.Test.YtenededepjfojaaDoorQx9
namespace Go.Proofs.YtenededepjfojaaDoor.Q
open Go.RowKit Go.Proofs.YtenededepjfojaaDoorW.PrintWords Go.Proofs.YtenededepjfojaaDoorW.PrintLast Go.Proofs.YtenededepjfojaaDoorW.PrintMore
attribute [local go_sem] max2_int min2_int max_two min_two max_three min_three max_four min_four   -- for this text's walks alone
set_option linter.unusedVariables false
set_option linter.unusedSimpArgs false

/-! ### spec_MetricText: function 14 -/
mutual
def spec_MetricText.l0 : Nat → List (S31) → List ByteArray → List (S31) → Int → Int → Option (ByteArray × Int)
  | 0, _, _, _, _, _ => none
  | k + 1, x0, x4, x13, x14, x15 => if x15 < x14 then (if 0 ≤ x15 then (if x15 < (x13.length : Int) then ((spec_Quoted.f k ((rd_T31 x13 x15).f1)).bind fun bt239 => (if bt239.2 = 1 then (spec_MetricText.j1 k x0 x4 bt239.1 x13 x14 x15 false ((rd_T31 x13 x15).f0) ((rd_T31 x13 x15).f1)) else (spec_MetricText.j1 k x0 x4 bt239.1 x13 x14 x15 (((rd_T31 x13 x15).f0).toList != ([95, 95, 110, 97, 109, 101, 95, 95] : List UInt8)) ((rd_T31 x13 x15).f0) ((rd_T31 x13 x15).f1)))) else (none)) else (none)) else ((spec_Value.f k x0 (⟨#[95, 95, 110, 97, 109, 101, 95, 95]⟩ : ByteArray)).bind fun t288 => (if (x4.length : Int) = 0 then ((spec_Has.f k x0 (⟨#[95, 95, 110, 97, 109, 101, 95, 95]⟩ : ByteArray)).bind fun t289 => (if t289 = true then (some (t288, 1)) else (if t288.size + 1 ≤ 9223372036854775807 then ((spec_Joined.f k x4 (⟨#[44, 32]⟩ : ByteArray)).bind fun t290 => (if (t288 ++ (⟨#[123]⟩ : ByteArray)).size + t290.size ≤ 9223372036854775807 then (if ((t288 ++ (⟨#[123]⟩ : ByteArray)) ++ t290).size + 1 ≤ 9223372036854775807 then (some (((t288 ++ (⟨#[123]⟩ : ByteArray)) ++ t290) ++ (⟨#[125]⟩ : ByteArray), 1)) else (none)) else (none))) else (none)))) else (if t288.size + 1 ≤ 9223372036854775807 then ((spec_Joined.f k x4 (⟨#[44, 32]⟩ : ByteArray)).bind fun t291 => (if (t288 ++ (⟨#[123]⟩ : ByteArray)).size + t291.size ≤ 9223372036854775807 then (if ((t288 ++ (⟨#[123]⟩ : ByteArray)) ++ t291).size + 1 ≤ 9223372036854775807 then (some (((t288 ++ (⟨#[123]⟩ : ByteArray)) ++ t291) ++ (⟨#[125]⟩ : ByteArray), 1)) else (none)) else (none))) else (none))))
def spec_MetricText.j1 : Nat → List (S31) → List ByteArray → ByteArray → List (S31) → Int → Int → Bool → ByteArray → ByteArray → Option (ByteArray × Int)
  | 0, _, _, _, _, _, _, _, _, _ => none
  | k + 1, x0, x4, x7, x13, x14, x15, x31, x239000, x239001 => if x31 = true then (some ((⟨#[]⟩ : ByteArray), 2)) else (if x239000.toList = ([95, 95, 110, 97, 109, 101, 95, 95] : List UInt8) then (spec_MetricText.l0 k x0 x4 x13 x14 (wrap64 (x15 + 1))) else (if x239000.size + 1 ≤ 9223372036854775807 then (if (x239000 ++ (⟨#[61]⟩ : ByteArray)).size + x7.size ≤ 9223372036854775807 then (spec_MetricText.l1 k x0 x4 ((x239000 ++ (⟨#[61]⟩ : ByteArray)) ++ x7) 0 x13 x14 x15) else (none)) else (none)))
def spec_MetricText.l1 : Nat → List (S31) → List ByteArray → ByteArray → Int → List (S31) → Int → Int → Option (ByteArray × Int)
  | 0, _, _, _, _, _, _, _ => none
  | k + 1, x0, x4, x9, x10, x13, x14, x15 => if x10 < (x4.length : Int) then (if 0 ≤ x10 then (if (Op.bytesLess ((rdOf ByteArray.empty x4 x10).toList) x9.toList) = true then (spec_MetricText.l1 k x0 x4 x9 (wrap64 (x10 + 1)) x13 x14 x15) else ((some (([] : List ByteArray) : List ByteArray)).bind fun y242 => (if x10 ≤ (x4.length : Int) then ((some (x4.take (x10 : Int).toNat : List ByteArray)).bind fun y245 => (if y242.length + y245.length < 8796093022208 then ((some (y242 ++ y245 : List ByteArray)).bind fun y249 => ((some (([x9] : List ByteArray) : List ByteArray)).bind fun y252 => (if y249.length + y252.length < 8796093022208 then ((some (y249 ++ y252 : List ByteArray)).bind fun y255 => ((some (x4.drop (x10 : Int).toNat : List ByteArray)).bind fun y258 => (if y255.length + y258.length < 8796093022208 then (spec_MetricText.l0 k x0 (y255 ++ y258) x13 x14 (wrap64 (x15 + 1))) else (none)))) else (none)))) else (none))) else (none)))) else (none)) else ((some (([] : List ByteArray) : List ByteArray)).bind fun y265 => (if 0 ≤ x10 then (if x10 ≤ (x4.length : Int) then ((some (x4.take (x10 : Int).toNat : List ByteArray)).bind fun y268 => (if y265.length + y268.length < 8796093022208 then ((some (y265 ++ y268 : List ByteArray)).bind fun y272 => ((some (([x9] : List ByteArray) : List ByteArray)).bind fun y275 => (if y272.length + y275.length < 8796093022208 then ((some (y272 ++ y275 : List ByteArray)).bind fun y278 => ((some (x4.drop (x10 : Int).toNat : List ByteArray)).bind fun y281 => (if y278.length + y281.length < 8796093022208 then (spec_MetricText.l0 k x0 (y278 ++ y281) x13 x14 (wrap64 (x15 + 1))) else (none)))) else (none)))) else (none))) else (none)) else (none)))
end
def spec_MetricText.f (k : Nat) (l0 : List (S31)) : Option (ByteArray × Int) := (spec_Set.f k l0).bind fun t234 => (spec_MetricText.l0 k l0 ([] : List ByteArray) t234 (t234.length : Int) 0)
theorem spec_MetricText.mono_l : ∀ k, (∀ y0 y1 y2 y3 y4, LeO (spec_MetricText.l0 k y0 y1 y2 y3 y4) (spec_MetricText.l0 (k + 1) y0 y1 y2 y3 y4)) ∧ (∀ y0 y1 y2 y3 y4 y5 y6 y7 y8, LeO (spec_MetricText.j1 k y0 y1 y2 y3 y4 y5 y6 y7 y8) (spec_MetricText.j1 (k + 1) y0 y1 y2 y3 y4 y5 y6 y7 y8)) ∧ (∀ y0 y1 y2 y3 y4 y5 y6, LeO (spec_MetricText.l1 k y0 y1 y2 y3 y4 y5 y6) (spec_MetricText.l1 (k + 1) y0 y1 y2 y3 y4 y5 y6))
  | 0 => ⟨fun _ _ _ _ _ r h => by simp [spec_MetricText.l0] at h, fun _ _ _ _ _ _ _ _ _ r h => by simp [spec_MetricText.j1] at h, fun _ _ _ _ _ _ _ r h => by simp [spec_MetricText.l1] at h⟩
  | k + 1 => by
    obtain ⟨ih0, ih1, ih2⟩ := spec_MetricText.mono_l k
    refine ⟨?_, ?_, ?_⟩
    · intro y0 y1 y2 y3 y4
      unfold spec_MetricText.l0
      repeat' first
      | (with_reducible exact ih0 _ _ _ _ _)
      | (with_reducible exact ih1 _ _ _ _ _ _ _ _ _)
      | (with_reducible exact ih2 _ _ _ _ _ _ _)
      | (with_reducible exact spec_Has.mono _ _ _)
      | (with_reducible exact spec_Joined.mono _ _ _)
      | (with_reducible exact spec_Quoted.mono _ _)
      | (with_reducible exact spec_Set.mono _ _)
      | (with_reducible exact spec_Value.mono _ _ _)
      | (with_reducible exact LeO.refl _)
      | (with_reducible exact LeO.none _)
      | (with_reducible refine LeO.ite ?_ ?_)
      | (with_reducible refine LeO.bind ?_ (fun _ => ?_))
      | exact ih0 _ _ _ _ _
      | exact ih1 _ _ _ _ _ _ _ _ _
      | exact ih2 _ _ _ _ _ _ _
      | exact spec_Has.mono _ _ _
      | exact spec_Joined.mono _ _ _
      | exact spec_Quoted.mono _ _
      | exact spec_Set.mono _ _
      | exact spec_Value.mono _ _ _
      | exact LeO.none _
      | refine LeO.ite ?_ ?_
      | refine LeO.bind ?_ (fun _ => ?_)
    · intro y0 y1 y2 y3 y4 y5 y6 y7 y8
      unfold spec_MetricText.j1
      repeat' first
      | (with_reducible exact ih0 _ _ _ _ _)
      | (with_reducible exact ih1 _ _ _ _ _ _ _ _ _)
      | (with_reducible exact ih2 _ _ _ _ _ _ _)
      | (with_reducible exact spec_Has.mono _ _ _)
      | (with_reducible exact spec_Joined.mono _ _ _)
      | (with_reducible exact spec_Quoted.mono _ _)
      | (with_reducible exact spec_Set.mono _ _)
      | (with_reducible exact spec_Value.mono _ _ _)
      | (with_reducible exact LeO.refl _)
      | (with_reducible exact LeO.none _)
      | (with_reducible refine LeO.ite ?_ ?_)
      | (with_reducible refine LeO.bind ?_ (fun _ => ?_))
      | exact ih0 _ _ _ _ _
      | exact ih1 _ _ _ _ _ _ _ _ _
      | exact ih2 _ _ _ _ _ _ _
      | exact spec_Has.mono _ _ _
      | exact spec_Joined.mono _ _ _
      | exact spec_Quoted.mono _ _
      | exact spec_Set.mono _ _
      | exact spec_Value.mono _ _ _
      | exact LeO.none _
      | refine LeO.ite ?_ ?_
      | refine LeO.bind ?_ (fun _ => ?_)
    · intro y0 y1 y2 y3 y4 y5 y6
      unfold spec_MetricText.l1
      repeat' first
      | (with_reducible exact ih0 _ _ _ _ _)
      | (with_reducible exact ih1 _ _ _ _ _ _ _ _ _)
      | (with_reducible exact ih2 _ _ _ _ _ _ _)
      | (with_reducible exact spec_Has.mono _ _ _)
      | (with_reducible exact spec_Joined.mono _ _ _)
      | (with_reducible exact spec_Quoted.mono _ _)
      | (with_reducible exact spec_Set.mono _ _)
      | (with_reducible exact spec_Value.mono _ _ _)
      | (with_reducible exact LeO.refl _)
      | (with_reducible exact LeO.none _)
      | (with_reducible refine LeO.ite ?_ ?_)
      | (with_reducible refine LeO.bind ?_ (fun _ => ?_))
      | exact ih0 _ _ _ _ _
      | exact ih1 _ _ _ _ _ _ _ _ _
      | exact ih2 _ _ _ _ _ _ _
      | exact spec_Has.mono _ _ _
      | exact spec_Joined.mono _ _ _
      | exact spec_Quoted.mono _ _
      | exact spec_Set.mono _ _
      | exact spec_Value.mono _ _ _
      | exact LeO.none _
      | refine LeO.ite ?_ ?_
      | refine LeO.bind ?_ (fun _ => ?_)
theorem spec_MetricText.mono : ∀ a0 k, LeO (spec_MetricText.f k a0) (spec_MetricText.f (k + 1) a0) := by
  intro a0 k
  obtain ⟨ih0, ih1, ih2⟩ := spec_MetricText.mono_l k
  unfold spec_MetricText.f
  repeat' first
      | (with_reducible exact ih0 _ _ _ _ _)
      | (with_reducible exact ih1 _ _ _ _ _ _ _ _ _)
      | (with_reducible exact ih2 _ _ _ _ _ _ _)
      | (with_reducible exact spec_Has.mono _ _ _)
      | (with_reducible exact spec_Joined.mono _ _ _)
      | (with_reducible exact spec_Quoted.mono _ _)
      | (with_reducible exact spec_Set.mono _ _)
      | (with_reducible exact spec_Value.mono _ _ _)
      | (with_reducible exact LeO.refl _)
      | (with_reducible exact LeO.none _)
      | (with_reducible refine LeO.ite ?_ ?_)
      | (with_reducible refine LeO.bind ?_ (fun _ => ?_))
      | exact ih0 _ _ _ _ _
      | exact ih1 _ _ _ _ _ _ _ _ _
      | exact ih2 _ _ _ _ _ _ _
      | exact spec_Has.mono _ _ _
      | exact spec_Joined.mono _ _ _
      | exact spec_Quoted.mono _ _
      | exact spec_Set.mono _ _
      | exact spec_Value.mono _ _ _
      | exact LeO.none _
      | refine LeO.ite ?_ ?_
      | refine LeO.bind ?_ (fun _ => ?_)
def spec_MetricText.T12 : Bool × List (List Nat × List Nat) := (true, [([], []), ([], []), ([], []), ([1, 2], [1, 2]), ([0, 3], [0, 3]), ([], []), ([5], [5]), ([4, 6, 4], [4, 6]), ([], []), ([], []), ([8, 9], [8, 9]), ([7, 10, 7], [7, 10]), ([11, 11, 0, 1, 2, 3, 4, 5, 6, 7, 8, 9, 10, 11], [1, 8, 11])])
def spec_MetricText.B12 : List Nat := [0, 0, 0, 6, 15, 0, 32, 127, 0, 0, 768, 2047, 4095]
theorem spec_MetricText.tab12 : rtab .any (opsOf Tryd.f14 12) = spec_MetricText.T12 := by kernel_rfl
theorem spec_MetricText.bits12 : waitsOk spec_MetricText.T12.2 spec_MetricText.B12 = true := by kernel_rfl
set_option maxHeartbeats 8000000 in
set_option maxRecDepth 100000 in
theorem spec_MetricText.calls (k : Nat) (A0 : Option Addr) (c0 : Nat) (l0 : List (S31)) (r1 : ByteArray) (r2 : Int) (w : World) (hr0 : Kd.C k31 w A0 l0.length l0) (hc0 : l0.length ≤ c0) (h : spec_MetricText.f k l0 = some (r1, r2)) :
    Calls Tryd.prog 14 #[.slice A0 l0.length c0] w fun e w' => e = .returned (.tuple #[.string r1, .int .i64 r2]) ∧ Below w.heap.size w w' := by
  have hu31 := Tryd.underlying31
  have HR0 := Aside0.mk hr0
  have HC0 := Aside0.mk hc0
  clear hr0 hc0
  have HB := Aside0.mk (Below.refl w.heap.size w)
  have H : ((spec_Set.f k l0).bind fun t234 => (spec_MetricText.l0 k l0 ([] : List ByteArray) t234 (t234.length : Int) 0)) = some (r1, r2) := h
  clear h
  replace H := Option.bind_eq_some_iff.mp H
  obtain ⟨t234, A20, H⟩ := H
  replace H : (spec_MetricText.l0 k l0 ([] : List ByteArray) t234 (t234.length : Int) 0) = some (r1, r2) := H
  have A2 := Aside0.mk A20
  clear A20
  have H' := Aside0.mk H
  clear H
  go_enter Tryd.func14, Tryd.ntmps14
  go_wp2_with (first | ((with_reducible refine gate_callee (f := 9) rfl ?_); refine goesL_ (some 13) rfl rfl Tryd.func9 (by kernel_rfl) rfl #[.slice A0 l0.length c0] rfl (by (try simp only [List.map_toArray, List.map_cons, List.map_nil]); first | done | rfl | (simp only [List.length_drop, List.length_take]; rfl)) ?_; (with_reducible refine (spec_Set.calls k _ _ l0 t234 _ ?side1 ?side2 A2.out).mono ?_); (case side1 => repeat (first | exact HR0.out | (with_reducible refine Kd.C_alloc ?_ _) | (with_reducible refine Kd.C_drewN ?_ _) | (with_reducible refine Kd.C_drew ?_))); (case side2 => exact HC0.out); rintro e w3 ⟨v235, rfl, ho0, hb⟩; refine ⟨_, rfl, ?_⟩; have n0_ := Aside0.mk (Kd.R_lower ho0 (below_size (by repeat (first | (with_reducible first | exact HB.out | apply below_alloc | apply pw_below_drewN | apply below_drew1) | exact HB.out)))); have n1_ := Aside0.mk (below_step (by repeat (first | (with_reducible first | exact HB.out | apply below_alloc | apply pw_below_drewN | apply below_drew1) | exact HB.out)) hb); clear HB; have HO236 := n0_; have HB := n1_; clear n0_ n1_; (try clear hb); (try clear hb2); (try clear hk); (try clear hi); (try clear ho0); obtain ⟨Ao4, co4, eo4⟩ := Kd.R_slice HO236.out; subst eo4))
  go_loopg [4, 15] k (fun kq v4 v15 w' => ∃ (x4_1 : List ByteArray) (x15_1 : Int), v15 = .int .i64 x15_1 ∧ Aside0 (spec_MetricText.l0 kq l0 x4_1 t234 (t234.length : Int) x15_1 = some (r1, r2)) ∧ Aside0 (kq ≤ k) ∧ Aside0 (Kd.R Kd.string 9 w' w.heap.size (fun _ => True) v4 x4_1) ∧ Aside0 (Kd.R k31 31 w' w.heap.size (fun _ => True) (.slice Ao4 t234.length co4) t234) ∧ Aside0 (Below w.heap.size w w'))
  case atStart => exact ⟨(([] : List ByteArray)), (0), (by first | rfl | (simp; done) | (simp [*]; done)), H', ⟨Nat.le_refl _⟩, ⟨by first | exact Kd.R_nil _ _ _ _ _ | exact Kd.N_nil _ _ _ _ _ | exact Kd.V_nil _ _ _ _ _ | exact Kd.Q_nil _ _ _ _ _ | exact Kd.S_nil _ _ _ _ _⟩, ⟨by (with_reducible repeat (first | apply Kd.R_alloc | apply Kd.R_drewN | apply Kd.R_drew)); exact HO236.out⟩, ⟨by repeat (first | (with_reducible first | exact HB.out | apply below_alloc | apply pw_below_drewN | apply below_drew1) | exact HB.out)⟩⟩
  case round =>
    clear H'
    try clear c1
    try clear p2
    obtain ⟨x4_1, x15_1, rfl, HA, HK1, HO_4, HO_13, HB⟩ := hrel
    cases gk with
    | zero => exact absurd HA.out (by simp [spec_MetricText.l0])
    | succ k1 =>
      have H := HA.out
      clear HA
      simp only [spec_MetricText.l0] at H
      by_cases c5 : x15_1 < (t234.length : Int)
      · rw [if_pos c5] at H
        have c5b0 : decide (x15_1 < (t234.length : Int)) = true := decide_eq_true c5
        clear c5
        by_cases c6 : 0 ≤ x15_1
        · rw [if_pos c6] at H
          have c6b0 : decide (0 ≤ x15_1) = true := decide_eq_true c6
          clear c6
          by_cases c7 : x15_1 < (t234.length : Int)
          · rw [if_pos c7] at H
            have c7b0 : decide (x15_1 < (t234.length : Int)) = true := decide_eq_true c7
            clear c7
            replace H := Option.bind_eq_some_iff.mp H
            obtain ⟨⟨t239, t240⟩, A80, H⟩ := H
            replace H : (if t240 = 1 then (spec_MetricText.j1 k1 l0 x4_1 t239 t234 (t234.length : Int) x15_1 false ((rd_T31 t234 x15_1).f0) ((rd_T31 t234 x15_1).f1)) else (spec_MetricText.j1 k1 l0 x4_1 t239 t234 (t234.length : Int) x15_1 (((rd_T31 t234 x15_1).f0).toList != ([95, 95, 110, 97, 109, 101, 95, 95] : List UInt8)) ((rd_T31 t234 x15_1).f0) ((rd_T31 t234 x15_1).f1))) = some (r1, r2) := H
            have A8 := Aside0.mk A80
            clear A80
            have HC9 := Aside0.mk H
            clear H
            have p237 : 0 ≤ (x15_1 : Int) := of_decide_eq_true (by first | (with_reducible assumption) | assumption)
            have q237 : x15_1 < (t234.length : Int) := of_decide_eq_true (by first | (with_reducible assumption) | assumption)
            obtain ⟨ad237, e237, hx237_0, hx237_1⟩ := at_T31 (Kd.R_reads' HO_13.out).2.2 x15_1 p237 q237
            cases e237
            replace p237 := eq_true p237
            replace q237 := eq_true q237
            go_upto_region 6 with (first | ((with_reducible refine gate_dst (N := 6) rfl ?_); refine box_event ?hg (N := 6) ?hd (cs := #[.string (⟨#[]⟩ : ByteArray), .string (⟨#[]⟩ : ByteArray)]) (t := 31) ?hr ?_; (case hd => rfl); (case hg => rfl); (case hr => first | (go_simp; done) | (go_simp; rfl)); intro gb238 hg w10 hbox hb; have n0_ := Aside0.mk (Kd.R_below (by (with_reducible repeat (first | apply Kd.R_alloc | apply Kd.R_drewN | apply Kd.R_drew)); exact HO_4.out) hb); have n1_ := Aside0.mk (Kd.R_below (Kd.R_elderB (by (with_reducible repeat (first | apply Kd.R_alloc | apply Kd.R_drewN | apply Kd.R_drew)); exact HO_13.out) gb238 (Nat.le_of_eq hg.symm)) hb); have n2_ := Aside0.mk (below_step (by repeat (first | (with_reducible first | exact HB.out | apply below_alloc | apply pw_below_drewN | apply below_drew1) | exact HB.out)) hb); have n3_ := Aside0.mk (hbox); have n4_ := Aside0.mk ((by rw [hg]; exact (below_size (by repeat (first | (with_reducible first | exact HB.out | apply below_alloc | apply pw_below_drewN | apply below_drew1) | exact HB.out))) : w.heap.size ≤ gb238)); have n5_ := Aside0.mk ((by rw [hg]; exact (below_size (by repeat (first | (with_reducible first | exact HB.out | apply below_alloc | apply pw_below_drewN | apply below_drew1) | exact HB.out))) : w.heap.size ≤ gb238)); clear HO_4; clear HO_13; clear HB; have HO_4 := n0_; have HO_13 := n1_; have HB := n2_; have BK238 := n3_; have GW238 := n4_; have GE238 := n5_; clear n0_ n1_ n2_ n3_ n4_ n5_; clear hb hbox hg; have hcz11_0 : w10.cell? ⟨gb238, 0, none⟩ = some (.string (⟨#[]⟩ : ByteArray)) := (blk_cell BK238.out 0).trans rfl; have hcz11_1 : w10.cell? ⟨gb238, 1, none⟩ = some (.string (⟨#[]⟩ : ByteArray)) := (blk_cell BK238.out 1).trans rfl; have hfz11_0 := blk_frozen BK238.out 0; have hfz11_1 := blk_frozen BK238.out 1) | ((with_reducible refine gate_callee (f := 19) rfl ?_); refine goesL_ (some 22) rfl rfl Tryd.func19 (by kernel_rfl) rfl #[.string ((rd_T31 t234 x15_1).f1)] rfl (by (try simp only [List.map_toArray, List.map_cons, List.map_nil]); first | done | rfl | (simp only [List.length_drop, List.length_take]; rfl)) ?_; (with_reducible refine (spec_Quoted.calls k1 ((rd_T31 t234 x15_1).f1) t239 t240 _ A8.out).mono ?_); rintro e w12 ⟨rfl, hb⟩; refine ⟨_, rfl, ?_⟩; have n0_ := Aside0.mk (Kd.R_below (by (with_reducible repeat (first | apply Kd.R_alloc | apply Kd.R_drewN | apply Kd.R_drew)); exact (Kd.R_mono (Kd.R_far (p := ⟨gb238, 1, none⟩) (Kd.R_far (p := ⟨gb238, 0, none⟩) (Kd.R_types HO_4.out BK238.out (by decide)) (fun _ hk => hk.2) (.string ((rd_T31 t234 x15_1).f0))) (fun _ hk => hk.2) (.string ((rd_T31 t234 x15_1).f1))) (fun _ h_ => h_.1))) hb); have n1_ := Aside0.mk (Kd.R_below (by (with_reducible repeat (first | apply Kd.R_alloc | apply Kd.R_drewN | apply Kd.R_drew)); exact (Kd.R_mono (Kd.R_far (p := ⟨gb238, 1, none⟩) (Kd.R_far (p := ⟨gb238, 0, none⟩) (Kd.R_mono HO_13.out (fun k_ hk => (⟨hk, hk.2⟩ : _ ∧ k_ ≠ gb238))) (fun _ hk => hk.2) (.string ((rd_T31 t234 x15_1).f0))) (fun _ hk => hk.2) (.string ((rd_T31 t234 x15_1).f1))) (fun _ h_ => h_.1))) hb); have n2_ := Aside0.mk (blk_below (g := gb238) (o := .cells #[.string ((rd_T31 t234 x15_1).f0), .string ((rd_T31 t234 x15_1).f1)] 31 (0, 0)) (by (with_reducible repeat (first | refine blk_drewN ?_ _ | refine blk_drew ?_ | refine blk_alloc ?_ _)); refine blk_put (cs := #[.string ((rd_T31 t234 x15_1).f0), .string (⟨#[]⟩ : ByteArray)]) ?_ 1 _ rfl; (with_reducible repeat (first | refine blk_drewN ?_ _ | refine blk_drew ?_ | refine blk_alloc ?_ _)); refine blk_put (cs := #[.string (⟨#[]⟩ : ByteArray), .string (⟨#[]⟩ : ByteArray)]) ?_ 0 _ rfl; (with_reducible repeat (first | refine blk_drewN ?_ _ | refine blk_drew ?_ | refine blk_alloc ?_ _)); exact BK238.out) hb); have n3_ := Aside0.mk (below_step (by repeat (first | (with_reducible first | exact HB.out | apply below_alloc | apply pw_below_drewN | apply below_drew1 | refine below_set ?_ GE238.out) | exact HB.out)) hb); clear HO_4; clear HO_13; clear BK238; clear HB; have HO_4 := n0_; have HO_13 := n1_; have BK238 := n2_; have HB := n3_; clear n0_ n1_ n2_ n3_; (try clear hb); (try clear hb2); (try clear hk); (try clear hi)))
            (try simp only [Act.put, List.setIfInBounds_toArray, List.set_cons_zero, List.set_cons_succ])
            go_cut [31] (fun v31 wc => ∃ (kq : Nat) (x31_8 : Bool), v31 = .bool x31_8 ∧ Aside0 (spec_MetricText.j1 kq l0 x4_1 t239 t234 (t234.length : Int) x15_1 x31_8 ((rd_T31 t234 x15_1).f0) ((rd_T31 t234 x15_1).f1) = some (r1, r2)) ∧ Aside0 (kq ≤ k1) ∧ Aside0 (Kd.R Kd.string 9 wc w.heap.size (fun _ => True) u4 x4_1) ∧ Aside0 (Kd.R k31 31 wc w.heap.size (fun k_ => k_ ≠ gb238) (.slice (some ad237) t234.length co4) t234) ∧ Aside0 (wc.heap[gb238]? = some (.cells #[.string ((rd_T31 t234 x15_1).f0), .string ((rd_T31 t234 x15_1).f1)] 31 (0, 0))) ∧ Aside0 (Below w.heap.size w wc))
            case first =>
              have H := HC9.out
              clear HC9
              by_cases c13 : t240 = 1
              · rw [if_pos c13] at H
                have c13b0 : (t240 == 1) = true := beq_iff_eq.mpr c13
                have c13b1 : (t240 != 1) = false := bne_eq_false_iff_eq.mpr c13
                clear c13
                (first | rw [c13b0] | (simp only [i64_w, i32_w]; rw [c13b0]) | skip)
                have H' := Aside0.mk H
                clear H
                go_wp2
                go_meet
                case rel => exact ⟨_, (false), (by first | rfl | (simp; done) | (simp [*]; done)), H', ⟨by have := HK1.out; first | omega | exact Nat.le_refl _⟩, ⟨by (with_reducible repeat (first | apply Kd.R_alloc | apply Kd.R_drewN | apply Kd.R_drew)); exact HO_4.out⟩, ⟨by (with_reducible repeat (first | apply Kd.R_alloc | apply Kd.R_drewN | apply Kd.R_drew)); exact Kd.R_mono HO_13.out (fun _ hk => hk.2)⟩, ⟨by (with_reducible repeat (first | refine blk_drewN ?_ _ | refine blk_drew ?_ | refine blk_alloc ?_ _)); exact BK238.out⟩, ⟨by repeat (first | (with_reducible first | exact HB.out | apply below_alloc | apply pw_below_drewN | apply below_drew1 | refine below_set ?_ GE238.out) | exact HB.out)⟩⟩
              · rw [if_neg c13] at H
                have c13b0 : (t240 == 1) = false := beq_eq_false_iff_ne.mpr c13
                have c13b1 : (t240 != 1) = true := bne_iff_ne.mpr c13
                (first | rw [c13b0] | (simp only [i64_w, i32_w]; rw [c13b0]) | skip)
                have H' := Aside0.mk H
                clear H
                have hcz14_0 : w12.cell? ⟨gb238, 0, none⟩ = some (.string ((rd_T31 t234 x15_1).f0)) := (blk_cell BK238.out 0).trans rfl
                have hcz14_1 : w12.cell? ⟨gb238, 1, none⟩ = some (.string ((rd_T31 t234 x15_1).f1)) := (blk_cell BK238.out 1).trans rfl
                have hfz14_0 := blk_frozen BK238.out 0
                have hfz14_1 := blk_frozen BK238.out 1
                go_wp2
                go_meet
                case rel => exact ⟨_, ((((rd_T31 t234 x15_1).f0).toList != ([95, 95, 110, 97, 109, 101, 95, 95] : List UInt8))), (by first | rfl | (simp; done) | (simp [*]; done)), H', ⟨by have := HK1.out; first | omega | exact Nat.le_refl _⟩, ⟨by (with_reducible repeat (first | apply Kd.R_alloc | apply Kd.R_drewN | apply Kd.R_drew)); exact HO_4.out⟩, ⟨by (with_reducible repeat (first | apply Kd.R_alloc | apply Kd.R_drewN | apply Kd.R_drew)); exact Kd.R_mono HO_13.out (fun _ hk => hk.2)⟩, ⟨by (with_reducible repeat (first | refine blk_drewN ?_ _ | refine blk_drew ?_ | refine blk_alloc ?_ _)); exact BK238.out⟩, ⟨by repeat (first | (with_reducible first | exact HB.out | apply below_alloc | apply pw_below_drewN | apply below_drew1 | refine below_set ?_ GE238.out) | exact HB.out)⟩⟩
            case rest =>
              clear HC9
              try clear c1
              try clear p2
              try clear q2
              try clear hx2
              try clear c5
              try clear c5b0
              try clear c6
              try clear c6b0
              try clear c7
              try clear c7b0
              try clear c9
              try clear c13
              try clear c13b0
              try clear c13b1
              try clear c14
              try clear hcz11_0
              try clear hcz11_1
              try clear hcz14_0
              try clear hcz14_1
              try clear hfz11_0
              try clear hfz11_1
              try clear hfz14_0
              try clear hfz14_1
              try clear hx237_0
              try clear hx237_1
              try clear p2
              try clear p237
              try clear q237
              obtain ⟨kq, x31_8, rfl, HA, HJ8, HO_4, HO_13, BK238, HB⟩ := hcut
              cases kq with
              | zero => exact absurd HA.out (by simp [spec_MetricText.j1])
              | succ kj8 =>
                have H := HA.out
                clear HA
                simp only [spec_MetricText.j1] at H
                by_cases c15 : x31_8 = true
                · subst c15
                  have H1 : (some ((⟨#[]⟩ : ByteArray), 2)) = some (r1, r2) := by rw [if_pos rfl] at H; exact H
                  clear H
                  have H := H1
                  clear H1
                  simp only [Option.some.injEq, Prod.mk.injEq] at H
                  obtain ⟨rfl, rfl⟩ := H
                  go_wp2
                  go_ret2
                  exact ⟨by first | rfl | (simp [errW_none, errW_some] <;> rfl) | (simp [*, errW_none, errW_some] <;> rfl), by repeat (first | (with_reducible first | exact HB.out | apply below_alloc | apply pw_below_drewN | apply below_drew1 | refine below_set ?_ GE238.out) | exact HB.out)⟩
                · replace c15 := Bool.eq_false_iff.mpr c15
                  subst c15
                  have H1 : (if ((rd_T31 t234 x15_1).f0).toList = ([95, 95, 110, 97, 109, 101, 95, 95] : List UInt8) then (spec_MetricText.l0 kj8 l0 x4_1 t234 (t234.length : Int) (wrap64 (x15_1 + 1))) else (if ((rd_T31 t234 x15_1).f0).size + 1 ≤ 9223372036854775807 then (if (((rd_T31 t234 x15_1).f0) ++ (⟨#[61]⟩ : ByteArray)).size + t239.size ≤ 9223372036854775807 then (spec_MetricText.l1 kj8 l0 x4_1 ((((rd_T31 t234 x15_1).f0) ++ (⟨#[61]⟩ : ByteArray)) ++ t239) 0 t234 (t234.length : Int) x15_1) else (none)) else (none))) = some (r1, r2) := by rw [if_neg (show ¬ (false = true) by decide)] at H; exact H
                  clear H
                  have H := H1
                  clear H1
                  by_cases c16 : ((rd_T31 t234 x15_1).f0).toList = ([95, 95, 110, 97, 109, 101, 95, 95] : List UInt8)
                  · rw [if_pos c16] at H
                    have c16b0 : (((rd_T31 t234 x15_1).f0).toList == ([95, 95, 110, 97, 109, 101, 95, 95] : List UInt8)) = true := beq_iff_eq.mpr c16
                    have c16b1 : (((rd_T31 t234 x15_1).f0).toList != ([95, 95, 110, 97, 109, 101, 95, 95] : List UInt8)) = false := bne_eq_false_iff_eq.mpr c16
                    clear c16
                    have H' := Aside0.mk H
                    clear H
                    have hcz17_0 : wc.cell? ⟨gb238, 0, none⟩ = some (.string ((rd_T31 t234 x15_1).f0)) := (blk_cell BK238.out 0).trans rfl
                    have hcz17_1 : wc.cell? ⟨gb238, 1, none⟩ = some (.string ((rd_T31 t234 x15_1).f1)) := (blk_cell BK238.out 1).trans rfl
                    have hfz17_0 := blk_frozen BK238.out 0
                    have hfz17_1 := blk_frozen BK238.out 1
                    go_wp2
                    go_roundg kj8
                    case measure => have := HK1.out; have := HJ8.out; omega
                    case rel => exact ⟨(x4_1), (wrap64 (x15_1 + 1)), (by first | rfl | (simp; done) | (simp [*]; done)), H', ⟨by have := HK1.out; have := HJ8.out; omega⟩, ⟨by (with_reducible repeat (first | apply Kd.R_alloc | apply Kd.R_drewN | apply Kd.R_drew)); exact HO_4.out⟩, ⟨by (with_reducible repeat (first | apply Kd.R_alloc | apply Kd.R_drewN | apply Kd.R_drew)); exact Kd.R_mono HO_13.out (fun _ hk => trivial)⟩, ⟨by repeat (first | (with_reducible first | exact HB.out | apply below_alloc | apply pw_below_drewN | apply below_drew1 | refine below_set ?_ GE238.out) | exact HB.out)⟩⟩
                  · rw [if_neg c16] at H
                    have c16b0 : (((rd_T31 t234 x15_1).f0).toList == ([95, 95, 110, 97, 109, 101, 95, 95] : List UInt8)) = false := beq_eq_false_iff_ne.mpr c16
                    have c16b1 : (((rd_T31 t234 x15_1).f0).toList != ([95, 95, 110, 97, 109, 101, 95, 95] : List UInt8)) = true := bne_iff_ne.mpr c16
                    by_cases c18 : ((rd_T31 t234 x15_1).f0).size + 1 ≤ 9223372036854775807
                    · rw [if_pos c18] at H
                      have c18b0 := eq_true c18
                      have c18b1 : decide (((rd_T31 t234 x15_1).f0).size + 1 ≤ 9223372036854775807) = true := decide_eq_true c18
                      try have c18b2 : (9223372036854775807 < ((rd_T31 t234 x15_1).f0).size + 1) = False := eq_false (Nat.not_lt.2 c18)
                      by_cases c19 : (((rd_T31 t234 x15_1).f0) ++ (⟨#[61]⟩ : ByteArray)).size + t239.size ≤ 9223372036854775807
                      · rw [if_pos c19] at H
                        have c19b0 := eq_true c19
                        have c19b1 : decide ((((rd_T31 t234 x15_1).f0) ++ (⟨#[61]⟩ : ByteArray)).size + t239.size ≤ 9223372036854775807) = true := decide_eq_true c19
                        try have c19b2 : (9223372036854775807 < (((rd_T31 t234 x15_1).f0) ++ (⟨#[61]⟩ : ByteArray)).size + t239.size) = False := eq_false (Nat.not_lt.2 c19)
                        try have c19b3 := c19b2
                        try simp only [ByteArray.size_append, show (⟨#[61]⟩ : ByteArray).size = 1 from rfl] at c19b3
                        have H' := Aside0.mk H
                        clear H
                        have hcz20_0 : wc.cell? ⟨gb238, 0, none⟩ = some (.string ((rd_T31 t234 x15_1).f0)) := (blk_cell BK238.out 0).trans rfl
                        have hcz20_1 : wc.cell? ⟨gb238, 1, none⟩ = some (.string ((rd_T31 t234 x15_1).f1)) := (blk_cell BK238.out 1).trans rfl
                        have hfz20_0 := blk_frozen BK238.out 0
                        have hfz20_1 := blk_frozen BK238.out 1
                        go_wp2
                        go_loopg [10] kj8 (fun kq v10 w' => ∃ (x10_3 : Int), v10 = .int .i64 x10_3 ∧ Aside0 (spec_MetricText.l1 kq l0 x4_1 ((((rd_T31 t234 x15_1).f0) ++ (⟨#[61]⟩ : ByteArray)) ++ t239) x10_3 t234 (t234.length : Int) x15_1 = some (r1, r2)) ∧ Aside0 (kq ≤ kj8) ∧ Aside0 (Kd.R Kd.string 9 w' w.heap.size (fun _ => True) u4 x4_1) ∧ Aside0 (Kd.R k31 31 w' w.heap.size (fun k_ => k_ ≠ gb238) (.slice (some ad237) t234.length co4) t234) ∧ Aside0 (w'.heap[gb238]? = some (.cells #[.string ((rd_T31 t234 x15_1).f0), .string ((rd_T31 t234 x15_1).f1)] 31 (0, 0))) ∧ Aside0 (Below w.heap.size w w'))
                        case atStart => exact ⟨(0), (by first | rfl | (simp; done) | (simp [*]; done)), H', ⟨Nat.le_refl _⟩, ⟨by (with_reducible repeat (first | apply Kd.R_alloc | apply Kd.R_drewN | apply Kd.R_drew)); exact HO_4.out⟩, ⟨by (with_reducible repeat (first | apply Kd.R_alloc | apply Kd.R_drewN | apply Kd.R_drew)); exact HO_13.out⟩, ⟨by (with_reducible repeat (first | refine blk_drewN ?_ _ | refine blk_drew ?_ | refine blk_alloc ?_ _)); exact BK238.out⟩, ⟨by repeat (first | (with_reducible first | exact HB.out | apply below_alloc | apply pw_below_drewN | apply below_drew1 | refine below_set ?_ GE238.out) | exact HB.out)⟩⟩
                        case round =>
                          clear H'
                          try clear c1
                          try clear p2
                          try clear q2
                          try clear hx2
                          try clear c5
                          try clear c5b0
                          try clear c6
                          try clear c6b0
                          try clear p6
                          try clear c7
                          try clear c7b0
                          try clear c9
                          try clear c13
                          try clear c13b0
                          try clear c13b1
                          try clear c14
                          try clear c15
                          try clear c16
                          try clear c16b0
                          try clear c16b1
                          try clear c18
                          try clear c18b0
                          try clear c18b1
                          try clear c18b2
                          try clear c19
                          try clear c19b0
                          try clear c19b1
                          try clear c19b2
                          try clear hcz11_0
                          try clear hcz11_1
                          try clear hcz14_0
                          try clear hcz14_1
                          try clear hcz17_0
                          try clear hcz17_1
                          try clear hcz20_0
                          try clear hcz20_1
                          try clear hfz11_0
                          try clear hfz11_1
                          try clear hfz14_0
                          try clear hfz14_1
                          try clear hfz17_0
                          try clear hfz17_1
                          try clear hfz20_0
                          try clear hfz20_1
                          try clear hx237_0
                          try clear hx237_1
                          try clear p2
                          try clear p237
                          try clear q2
                          try clear q237
                          obtain ⟨x10_3, rfl, HA, HK3, HO_4, HO_13, BK238, HB⟩ := hrel
                          cases gk with
                          | zero => exact absurd HA.out (by simp [spec_MetricText.l1])
                          | succ k3 =>
                            have H := HA.out
                            clear HA
                            simp only [spec_MetricText.l1] at H
                            by_cases c21 : x10_3 < (x4_1.length : Int)
                            · rw [if_pos c21] at H
                              have c21b0 : decide (x10_3 < (x4_1.length : Int)) = true := decide_eq_true c21
                              clear c21
                              by_cases c22 : 0 ≤ x10_3
                              · rw [if_pos c22] at H
                                have c22b0 : decide (0 ≤ x10_3) = true := decide_eq_true c22
                                clear c22
                                by_cases c23 : (Op.bytesLess ((rdOf ByteArray.empty x4_1 x10_3).toList) ((((rd_T31 t234 x15_1).f0) ++ (⟨#[61]⟩ : ByteArray)) ++ t239).toList) = true
                                · rw [if_pos c23] at H
                                  have c23b0 : (Op.bytesLess ((rdOf ByteArray.empty x4_1 x10_3).toList) ((((rd_T31 t234 x15_1).f0) ++ (⟨#[61]⟩ : ByteArray)) ++ t239).toList) = true := c23
                                  clear c23
                                  have H' := Aside0.mk H
                                  clear H
                                  obtain ⟨Ao24, co24, eo24⟩ := Kd.R_slice HO_4.out
                                  subst eo24
                                  have p241 : 0 ≤ (x10_3 : Int) := of_decide_eq_true (by first | (with_reducible assumption) | assumption)
                                  have q241 : x10_3 < (x4_1.length : Int) := of_decide_eq_true (by first | (with_reducible assumption) | assumption)
                                  obtain ⟨ad241, e241, hx241_0⟩ := Kd.at_string (Kd.R_reads' HO_4.out).2.2 x10_3 p241 q241
                                  cases e241
                                  replace p241 := eq_true p241
                                  replace q241 := eq_true q241
                                  go_wp2
                                  go_roundg k3
                                  case measure => have := HK1.out; have := HJ8.out; have := HK3.out; omega
                                  case rel => exact ⟨(wrap64 (x10_3 + 1)), (by first | rfl | (simp; done) | (simp [*]; done)), H', ⟨by have := HK1.out; have := HJ8.out; have := HK3.out; omega⟩, ⟨by (with_reducible repeat (first | apply Kd.R_alloc | apply Kd.R_drewN | apply Kd.R_drew)); exact HO_4.out⟩, ⟨by (with_reducible repeat (first | apply Kd.R_alloc | apply Kd.R_drewN | apply Kd.R_drew)); exact HO_13.out⟩, ⟨by (with_reducible repeat (first | refine blk_drewN ?_ _ | refine blk_drew ?_ | refine blk_alloc ?_ _)); exact BK238.out⟩, ⟨by repeat (first | (with_reducible first | exact HB.out | apply below_alloc | apply pw_below_drewN | apply below_drew1 | refine below_set ?_ GE238.out) | exact HB.out)⟩⟩
                                · rw [if_neg c23] at H
                                  have c23b0 : (Op.bytesLess ((rdOf ByteArray.empty x4_1 x10_3).toList) ((((rd_T31 t234 x15_1).f0) ++ (⟨#[61]⟩ : ByteArray)) ++ t239).toList) = false := by simpa using c23
                                  clear c23
                                  obtain ⟨y242, hy242⟩ : ∃ y_ : List ByteArray, y_ = (([] : List ByteArray)) := ⟨_, rfl⟩
                                  replace H : (if x10_3 ≤ (x4_1.length : Int) then ((some (x4_1.take (x10_3 : Int).toNat : List ByteArray)).bind fun y245 => (if y242.length + y245.length < 8796093022208 then ((some (y242 ++ y245 : List ByteArray)).bind fun y249 => ((some (([((((rd_T31 t234 x15_1).f0) ++ (⟨#[61]⟩ : ByteArray)) ++ t239)] : List ByteArray) : List ByteArray)).bind fun y252 => (if y249.length + y252.length < 8796093022208 then ((some (y249 ++ y252 : List ByteArray)).bind fun y255 => ((some (x4_1.drop (x10_3 : Int).toNat : List ByteArray)).bind fun y258 => (if y255.length + y258.length < 8796093022208 then (spec_MetricText.l0 k3 l0 (y255 ++ y258) t234 (t234.length : Int) (wrap64 (x15_1 + 1))) else (none)))) else (none)))) else (none))) else (none)) = some (r1, r2) := by first | (rw [hy242]; with_reducible exact H) | (have H2_ := (Option.bind_some _ _).symm.trans H; rw [hy242]; with_reducible exact H2_) | (have H2_ := (Option.bind_some _ _).symm.trans H; with_reducible exact H2_) | with_reducible exact H | (rw [hy242]; exact H) | exact H
                                  have Ny242 := Aside0.mk hy242
                                  clear hy242
                                  have c25b0 := eq_true (of_decide_eq_true (by first | (with_reducible assumption) | assumption) : 0 ≤ x10_3)
                                  by_cases c26 : x10_3 ≤ (x4_1.length : Int)
                                  · rw [if_pos c26] at H
                                    have c26b0 := eq_true c26
                                    have c26b1 : decide (x10_3 ≤ (x4_1.length : Int)) = true := decide_eq_true c26
                                    clear c26
                                    obtain ⟨y245, hy245⟩ : ∃ y_ : List ByteArray, y_ = (x4_1.take (x10_3 : Int).toNat) := ⟨_, rfl⟩
                                    replace H : (if y242.length + y245.length < 8796093022208 then ((some (y242 ++ y245 : List ByteArray)).bind fun y249 => ((some (([((((rd_T31 t234 x15_1).f0) ++ (⟨#[61]⟩ : ByteArray)) ++ t239)] : List ByteArray) : List ByteArray)).bind fun y252 => (if y249.length + y252.length < 8796093022208 then ((some (y249 ++ y252 : List ByteArray)).bind fun y255 => ((some (x4_1.drop (x10_3 : Int).toNat : List ByteArray)).bind fun y258 => (if y255.length + y258.length < 8796093022208 then (spec_MetricText.l0 k3 l0 (y255 ++ y258) t234 (t234.length : Int) (wrap64 (x15_1 + 1))) else (none)))) else (none)))) else (none)) = some (r1, r2) := by first | (rw [hy245]; with_reducible exact H) | (have H2_ := (Option.bind_some _ _).symm.trans H; rw [hy245]; with_reducible exact H2_) | (have H2_ := (Option.bind_some _ _).symm.trans H; with_reducible exact H2_) | with_reducible exact H | (rw [hy245]; exact H) | exact H
                                    have Ny245 := Aside0.mk hy245
                                    clear hy245
                                    by_cases c27 : y242.length + y245.length < 8796093022208
                                    · rw [if_pos c27] at H
                                      have LMc27 := Aside0.mk c27
                                      clear c27
                                      obtain ⟨y249, hy249⟩ : ∃ y_ : List ByteArray, y_ = (y242 ++ y245) := ⟨_, rfl⟩
                                      replace H : ((some (([((((rd_T31 t234 x15_1).f0) ++ (⟨#[61]⟩ : ByteArray)) ++ t239)] : List ByteArray) : List ByteArray)).bind fun y252 => (if y249.length + y252.length < 8796093022208 then ((some (y249 ++ y252 : List ByteArray)).bind fun y255 => ((some (x4_1.drop (x10_3 : Int).toNat : List ByteArray)).bind fun y258 => (if y255.length + y258.length < 8796093022208 then (spec_MetricText.l0 k3 l0 (y255 ++ y258) t234 (t234.length : Int) (wrap64 (x15_1 + 1))) else (none)))) else (none))) = some (r1, r2) := by first | (rw [hy249]; with_reducible exact H) | (have H2_ := (Option.bind_some _ _).symm.trans H; rw [hy249]; with_reducible exact H2_) | (have H2_ := (Option.bind_some _ _).symm.trans H; with_reducible exact H2_) | with_reducible exact H | (rw [hy249]; exact H) | exact H
                                      have Ny249 := Aside0.mk hy249
                                      clear hy249
                                      obtain ⟨y252, hy252⟩ : ∃ y_ : List ByteArray, y_ = (([((((rd_T31 t234 x15_1).f0) ++ (⟨#[61]⟩ : ByteArray)) ++ t239)] : List ByteArray)) := ⟨_, rfl⟩
                                      replace H : (if y249.length + y252.length < 8796093022208 then ((some (y249 ++ y252 : List ByteArray)).bind fun y255 => ((some (x4_1.drop (x10_3 : Int).toNat : List ByteArray)).bind fun y258 => (if y255.length + y258.length < 8796093022208 then (spec_MetricText.l0 k3 l0 (y255 ++ y258) t234 (t234.length : Int) (wrap64 (x15_1 + 1))) else (none)))) else (none)) = some (r1, r2) := by first | (rw [hy252]; with_reducible exact H) | (have H2_ := (Option.bind_some _ _).symm.trans H; rw [hy252]; with_reducible exact H2_) | (have H2_ := (Option.bind_some _ _).symm.trans H; with_reducible exact H2_) | with_reducible exact H | (rw [hy252]; exact H) | exact H
                                      have Ny252 := Aside0.mk hy252
                                      clear hy252
                                      by_cases c28 : y249.length + y252.length < 8796093022208
                                      · rw [if_pos c28] at H
                                        have LMc28 := Aside0.mk c28
                                        clear c28
                                        obtain ⟨y255, hy255⟩ : ∃ y_ : List ByteArray, y_ = (y249 ++ y252) := ⟨_, rfl⟩
                                        replace H : ((some (x4_1.drop (x10_3 : Int).toNat : List ByteArray)).bind fun y258 => (if y255.length + y258.length < 8796093022208 then (spec_MetricText.l0 k3 l0 (y255 ++ y258) t234 (t234.length : Int) (wrap64 (x15_1 + 1))) else (none))) = some (r1, r2) := by first | (rw [hy255]; with_reducible exact H) | (have H2_ := (Option.bind_some _ _).symm.trans H; rw [hy255]; with_reducible exact H2_) | (have H2_ := (Option.bind_some _ _).symm.trans H; with_reducible exact H2_) | with_reducible exact H | (rw [hy255]; exact H) | exact H
                                        have Ny255 := Aside0.mk hy255
                                        clear hy255
                                        have c29b0 := eq_true (of_decide_eq_true (by first | (with_reducible assumption) | assumption) : 0 ≤ x10_3)
                                        have c30b0 := eq_true (of_decide_eq_true (by first | (with_reducible assumption) | assumption) : x10_3 ≤ (x4_1.length : Int))
                                        obtain ⟨y258, hy258⟩ : ∃ y_ : List ByteArray, y_ = (x4_1.drop (x10_3 : Int).toNat) := ⟨_, rfl⟩
                                        replace H : (if y255.length + y258.length < 8796093022208 then (spec_MetricText.l0 k3 l0 (y255 ++ y258) t234 (t234.length : Int) (wrap64 (x15_1 + 1))) else (none)) = some (r1, r2) := by first | (rw [hy258]; with_reducible exact H) | (have H2_ := (Option.bind_some _ _).symm.trans H; rw [hy258]; with_reducible exact H2_) | (have H2_ := (Option.bind_some _ _).symm.trans H; with_reducible exact H2_) | with_reducible exact H | (rw [hy258]; exact H) | exact H
                                        have Ny258 := Aside0.mk hy258
                                        clear hy258
                                        by_cases c31 : y255.length + y258.length < 8796093022208
                                        · rw [if_pos c31] at H
                                          have LMc31 := Aside0.mk c31
                                          clear c31
                                          obtain ⟨y262, hy262⟩ : ∃ y_ : List ByteArray, y_ = (y255 ++ y258) := ⟨_, rfl⟩
                                          replace H : (spec_MetricText.l0 k3 l0 y262 t234 (t234.length : Int) (wrap64 (x15_1 + 1))) = some (r1, r2) := by first | (rw [hy262]; with_reducible exact H) | (have H2_ := (Option.bind_some _ _).symm.trans H; rw [hy262]; with_reducible exact H2_) | (have H2_ := (Option.bind_some _ _).symm.trans H; with_reducible exact H2_) | with_reducible exact H | (rw [hy262]; exact H) | exact H
                                          have Ny262 := Aside0.mk hy262
                                          clear hy262
                                          have H' := Aside0.mk H
                                          clear H
                                          obtain ⟨Ao32, co32, eo32⟩ := Kd.R_slice HO_4.out
                                          subst eo32
                                          have p241 : 0 ≤ (x10_3 : Int) := of_decide_eq_true (by first | (with_reducible assumption) | assumption)
                                          have q241 : x10_3 < (x4_1.length : Int) := of_decide_eq_true (by first | (with_reducible assumption) | assumption)
                                          obtain ⟨ad241, e241, hx241_0⟩ := Kd.at_string (Kd.R_reads' HO_4.out).2.2 x10_3 p241 q241
                                          cases e241
                                          replace p241 := eq_true p241
                                          replace q241 := eq_true q241
                                          try go_wp2
                                          have n0_ := Aside0.mk (Kd.R_drew HO_4.out)
                                          have n1_ := Aside0.mk (Kd.R_drew HO_13.out)
                                          have n2_ := Aside0.mk (blk_drew BK238.out)
                                          have n3_ := Aside0.mk (below_drew1 HB.out)
                                          clear HO_4
                                          clear HO_13
                                          clear BK238
                                          clear HB
                                          have HO_4 := n0_
                                          have HO_13 := n1_
                                          have BK238 := n2_
                                          have HB := n3_
                                          clear n0_ n1_ n2_ n3_
                                          have q34 : (x10_3 : Int) ≤ ((x4_1.length : Int) : Int) := of_decide_eq_true (by first | (with_reducible assumption) | assumption)
                                          obtain ⟨i034, hi034, _, hsz34, _⟩ := info_parts info9
                                          have hroom34 : x4_1.length ≤ co32 := (Kd.R_reads' HO_4.out).2.1
                                          have hC34 : Kd.C Kd.string _ (some ad241) x4_1.length x4_1 := (Kd.R_reads' HO_4.out).2.2
                                          have hcut34 := cut_to (P := Tryd.prog) 27 9 .i64 Tryd.underlying27 hi034 (some ad241) x4_1.length co32 x10_3 (of_decide_eq_true (by first | (with_reducible assumption) | assumption)) q34 hroom34
                                          have hr34 := Kd.C_take (m := (x10_3 : Int).toNat) hC34 (by omega)
                                          have hy34 : y245.length = (x10_3 : Int).toNat := (by rw [Ny245.out, List.length_take]; omega)
                                          rw [← Ny245.out] at hr34
                                          rw [← hy34] at hcut34
                                          have HR248 := Aside0.mk hr34
                                          have HC248 := Aside0.mk (show y245.length ≤ co32 from by omega)
                                          clear hr34 hC34 hroom34 hi034 hsz34
                                          have KY34 := Aside0.mk hy34
                                          clear hy34
                                          have KL34 := Aside0.mk (show (x10_3 : Int).toNat ≤ x4_1.length from by omega)
                                          replace q34 := eq_true q34
                                          have q35 : (x10_3 : Int) ≤ ((x4_1.length : Int) : Int) := of_decide_eq_true (by first | (with_reducible assumption) | assumption)
                                          obtain ⟨i035, hi035, _, hsz35, _⟩ := info_parts info9
                                          have hroom35 : x4_1.length ≤ co32 := (Kd.R_reads' HO_4.out).2.1
                                          have hC35 : Kd.C Kd.string _ (some ad241) x4_1.length x4_1 := (Kd.R_reads' HO_4.out).2.2
                                          have q035 : (0 : Int) ≤ (x10_3 : Int) := of_decide_eq_true (by first | (with_reducible assumption) | assumption)
                                          have hcut35 := cut_from (P := Tryd.prog) 27 9 .i64 Tryd.underlying27 hi035 1 hsz35 (some ad241) x4_1.length co32 x10_3 q035 q35
                                          have hr35 := Kd.C_drop (m := (x10_3 : Int).toNat) (c := co32) hC35 (by omega) hroom35
                                          obtain ⟨A35, hA35⟩ : ∃ A1, A1 = (if co32 = (x10_3 : Int).toNat then (some ad241) else ((some ad241) : Option Addr).map (·.add ((x10_3 : Int).toNat * 1))) := ⟨_, rfl⟩
                                          obtain ⟨c35, hc35⟩ : ∃ c1, c1 = co32 - (x10_3 : Int).toNat := ⟨_, rfl⟩
                                          have hy35 : y258.length = x4_1.length - (x10_3 : Int).toNat := (by rw [Ny258.out, List.length_drop] <;> omega)
                                          rw [show (x4_1).drop (x10_3 : Int).toNat = y258 from Ny258.out.symm] at hr35
                                          replace hr35 : Kd.C Kd.string _ A35 y258.length y258 := (by rw [hA35]; exact hr35)
                                          rw [← hy35, ← hA35, ← hc35] at hcut35
                                          have HR261 := Aside0.mk hr35
                                          have HC261 := Aside0.mk (show y258.length ≤ c35 from by rw [hy35, hc35]; exact Nat.sub_le_sub_right hroom35 _)
                                          clear hr35 hC35 hroom35 hi035 hsz35 hc35
                                          have KY35 := Aside0.mk hy35
                                          have KA35 := Aside0.mk hA35
                                          clear hy35 hA35
                                          have KL35 := Aside0.mk (show (x10_3 : Int).toNat ≤ x4_1.length from by omega)
                                          replace q35 := eq_true q35
                                          refine start_ (n := 13) (S := fun w' => True) (ds := []) #[false, false, false, false, false, false, false, false, false, false, false, false, false] (by kernel_rfl) rfl rfl trivial (fun hHeld => ?_); refine with_tabW spec_MetricText.tab12 spec_MetricText.bits12 (fun HT_ HW_ => ?_)
                                          generalize wr.drew = w33 at HO_4 HO_13 BK238 HB HR248 HR261 hHeld ⊢
                                          refine pure_ (i := 1) (N := some 55) (v := ?_) (a' := ?_) #[false, true, false, false, false, false, false, false, false, false, false, false, false] rfl rfl (any_of HT_.out (by kernel_rfl)) (fun _ _ _ h => h) (Or.inl ⟨by rfl, ?_⟩) ?_ ?_
                                          rotate_left
                                          · intro w'
                                            go_simp
                                            with_reducible rfl
                                          rotate_left
                                          · simp only [Act.put, List.setIfInBounds_toArray, List.set_cons_zero, List.set_cons_succ, i64_w, i32_w]
                                            rfl
                                          refine pure_ (i := 2) (N := some 56) (v := ?_) (a' := ?_) #[false, true, true, false, false, false, false, false, false, false, false, false, false] rfl rfl (any_of HT_.out (by kernel_rfl)) (fun _ _ _ h => h) (Or.inl ⟨by rfl, ?_⟩) ?_ ?_
                                          rotate_left
                                          · intro w'
                                            go_simp
                                            with_reducible rfl
                                          rotate_left
                                          · simp only [Act.put, List.setIfInBounds_toArray, List.set_cons_zero, List.set_cons_succ, i64_w, i32_w]
                                            rfl
                                          refine pure_ (i := 3) (N := some 57) (v := ?_) (a' := ?_) #[false, true, true, true, false, false, false, false, false, false, false, false, false] rfl rfl (any_of HT_.out (by kernel_rfl)) (fun _ _ _ h => h) (Or.inl ⟨by rfl, ?_⟩) ?_ ?_
                                          rotate_left
                                          · intro w'
                                            go_simp
                                            with_reducible rfl
                                          rotate_left
                                          · simp only [Act.put, List.setIfInBounds_toArray, List.set_cons_zero, List.set_cons_succ, i64_w, i32_w]
                                            rfl
                                          refine pure_ (i := 5) (N := some 59) (v := ?_) (a' := ?_) #[false, true, true, true, false, true, false, false, false, false, false, false, false] rfl rfl (any_of HT_.out (by kernel_rfl)) (fun _ _ _ h => h) (Or.inl ⟨by rfl, ?_⟩) ?_ ?_
                                          rotate_left
                                          · intro w'
                                            go_simp
                                            with_reducible rfl
                                          rotate_left
                                          · simp only [Act.put, List.setIfInBounds_toArray, List.set_cons_zero, List.set_cons_succ, i64_w, i32_w]
                                            rfl
                                          refine pure_ (i := 8) (N := some 62) (v := ?_) (a' := ?_) #[false, true, true, true, false, true, false, false, true, false, false, false, false] rfl rfl (any_of HT_.out (by kernel_rfl)) (fun _ _ _ h => h) (Or.inl ⟨by rfl, ?_⟩) ?_ ?_
                                          rotate_left
                                          · intro w'
                                            go_simp
                                            with_reducible rfl
                                          rotate_left
                                          · simp only [Act.put, List.setIfInBounds_toArray, List.set_cons_zero, List.set_cons_succ, i64_w, i32_w]
                                            rfl
                                          refine pure_ (i := 9) (N := some 63) (v := ?_) (a' := ?_) #[false, true, true, true, false, true, false, false, true, true, false, false, false] rfl rfl (any_of HT_.out (by kernel_rfl)) (fun _ _ _ h => h) (Or.inl ⟨by rfl, ?_⟩) ?_ ?_
                                          rotate_left
                                          · intro w'
                                            go_simp
                                            with_reducible rfl
                                          rotate_left
                                          · simp only [Act.put, List.setIfInBounds_toArray, List.set_cons_zero, List.set_cons_succ, i64_w, i32_w]
                                            rfl
                                          refine pure_ (i := 10) (N := some 64) (v := ?_) (a' := ?_) #[false, true, true, true, false, true, false, false, true, true, true, false, false] rfl rfl (any_of HT_.out (by kernel_rfl)) (fun _ _ _ h => h) (Or.inl ⟨by rfl, ?_⟩) ?_ ?_
                                          rotate_left
                                          · intro w'
                                            go_simp
                                            with_reducible rfl
                                          rotate_left
                                          · simp only [Act.put, List.setIfInBounds_toArray, List.set_cons_zero, List.set_cons_succ, i64_w, i32_w]
                                            rfl
                                          refine join_ (σ := Value × Value × Value) 3 #[true, true, true, true, true, true, true, false, true, true, true, false, false] (fun s_ => [(54, s_.1), (58, s_.2.1), (60, s_.2.2)]) (fun s_ w' => (Kd.R Kd.string 9 w' w.heap.size (fun k_ => some k_ ≠ (s_.2.2 : Value).ownBlock ∧ some k_ ≠ (.slice (some ad241) x4_1.length co32 : Value).ownBlock) s_.2.1 y249) ∧ (Kd.R Kd.string 9 w' w.heap.size (fun k_ => some k_ ≠ (s_.2.1 : Value).ownBlock ∧ some k_ ≠ (.slice (some ad241) x4_1.length co32 : Value).ownBlock) s_.2.2 y252) ∧ (Kd.R k31 31 w' w.heap.size (fun k_ => k_ ≠ gb238) (.slice (some ad237) t234.length co4) t234) ∧ (Kd.R Kd.string 9 w' w.heap.size (fun k_ => some k_ ≠ (s_.2.1 : Value).ownBlock ∧ some k_ ≠ (s_.2.2 : Value).ownBlock) (.slice (some ad241) x4_1.length co32) x4_1) ∧ (w'.heap[gb238]? = some (.cells #[.string ((rd_T31 t234 x15_1).f0), .string ((rd_T31 t234 x15_1).f1)] 31 (0, 0))) ∧ (Below w.heap.size w w')) ?_ ?_
                                          rotate_left
                                          · intro hCont
                                            refine two_ (i := 0) (j := 6) (Ni := some 54) (Nj := some 60) #[true, true, true, true, false, true, false, false, true, true, true, false, false] #[false, true, true, true, false, true, true, false, true, true, true, false, false] rfl rfl rfl rfl (two_of HT_.out (by kernel_rfl)) (by decide) (by decide) (fun K hK => ?_) (fun K hK => ?_)
                                            · skip
                                              refine Kd.R_lit_step Kd.string _ 9 ?hg (N := 54) ?hd (xs := ([] : List ByteArray)) (inner := []) (ok := fun _ => True) (okp := fun _ => True) ?hr ?hp (fun _ hk => hk) trivial (Below.refl _ _) (Nat.le_refl _) (by simp) ?_; (case hd => rfl); (case hg => rfl); (case hr => first | (go_simp; done) | (go_simp; rfl)); (case hp => exact (Reps.none _ _))
                                              intro v243 w36 ho37 hb hg_ hnew_
                                              clear hg_ hnew_
                                              (first | rw [← Ny242.out] at ho37 | (simp only [Int.reduceToNat] at ho37; rw [← Ny242.out] at ho37))
                                              have n0_ := Aside0.mk (Kd.R_elder' (by (with_reducible repeat (first | apply Kd.R_alloc | apply Kd.R_drewN | apply Kd.R_drew)); exact HO_4.out) (Kd.R_base ho37) hb)
                                              have n1_ := Aside0.mk (Kd.R_below (by (with_reducible repeat (first | apply Kd.R_alloc | apply Kd.R_drewN | apply Kd.R_drew)); exact HO_13.out) hb)
                                              have n2_ := Aside0.mk (Kd.R_lower (Kd.R_new' ho37 (Kd.R_lt (by (with_reducible repeat (first | apply Kd.R_alloc | apply Kd.R_drewN | apply Kd.R_drew)); exact HO_4.out))) (below_size (by repeat (first | (with_reducible first | exact HB.out | apply below_alloc | apply pw_below_drewN | apply below_drew1 | refine below_set ?_ GE238.out) | exact HB.out))))
                                              have n3_ := Aside0.mk (blk_below (g := gb238) (o := .cells #[.string ((rd_T31 t234 x15_1).f0), .string ((rd_T31 t234 x15_1).f1)] 31 (0, 0)) (by (with_reducible repeat (first | refine blk_drewN ?_ _ | refine blk_drew ?_ | refine blk_alloc ?_ _)); exact BK238.out) hb)
                                              have n4_ := Aside0.mk (Kd.C_below (by repeat (first | (with_reducible exact HR248.out) | (with_reducible refine Kd.C_alloc ?_ _) | (with_reducible refine Kd.C_drewN ?_ _) | (with_reducible refine Kd.C_drew ?_) | exact HR248.out)) hb)
                                              have n5_ := Aside0.mk (Kd.C_below (by repeat (first | (with_reducible exact HR261.out) | (with_reducible refine Kd.C_alloc ?_ _) | (with_reducible refine Kd.C_drewN ?_ _) | (with_reducible refine Kd.C_drew ?_) | exact HR261.out)) hb)
                                              have n6_ := Aside0.mk (below_step (by repeat (first | (with_reducible first | exact HB.out | apply below_alloc | apply pw_below_drewN | apply below_drew1 | refine below_set ?_ GE238.out) | exact HB.out)) hb)
                                              clear HO_4
                                              clear HO_13
                                              clear BK238
                                              clear HR248
                                              clear HR261
                                              clear HB
                                              have HO_4 := n0_
                                              have HO_13 := n1_
                                              have HO244 := n2_
                                              have BK238 := n3_
                                              have HR248 := n4_
                                              have HR261 := n5_
                                              have HB := n6_
                                              clear n0_ n1_ n2_ n3_ n4_ n5_ n6_
                                              clear hb ho37
                                              refine hK.out _ _ trivial (fun hHeld => ?_)
                                              clear hK K
                                              refine norm_ (a' := ?_) ?_ ?_
                                              rotate_left
                                              · show Act.put _ (some 54) _ = _
                                                simp only [Act.put, List.setIfInBounds_toArray, List.set_cons_zero, List.set_cons_succ, i64_w, i32_w]
                                                rfl
                                              refine two_ (i := 4) (j := 6) (Ni := some 58) (Nj := some 60) #[true, true, true, true, true, true, false, false, true, true, true, false, false] #[true, true, true, true, false, true, true, false, true, true, true, false, false] rfl rfl rfl rfl (two_of HT_.out (by kernel_rfl)) (by decide) (by decide) (fun K hK => ?_) (fun K hK => ?_)
                                              · skip
                                                refine Kd.R_append_rows_step Kd.string (w0 := w) w.heap.size (by rfl) (.tmp 54) (.tmp 57) 27 9 (.string ⟨#[]⟩) 16 rfl Tryd.underlying27 info9 rfl (by decide) (by omega) v243 y242 y245 _ _ _ (fun k_ => some k_ ≠ (.slice (some ad241) x4_1.length co32 : Value).ownBlock) (fun _ => False) rfl rfl ?aO ?aR (fun _ _ h => h) (fun _ h => h.elim) ?aF ?aB ?aS ?aL ?_
                                                (case aR => repeat (first | exact (by repeat (first | (with_reducible exact HR248.out) | (with_reducible refine Kd.C_alloc ?_ _) | (with_reducible refine Kd.C_drewN ?_ _) | (with_reducible refine Kd.C_drew ?_) | exact HR248.out)) | (with_reducible refine Kd.C_alloc ?_ _) | (with_reducible refine Kd.C_drewN ?_ _) | (with_reducible refine Kd.C_drew ?_)))
                                                (case aB => exact (by repeat (first | (with_reducible first | exact HB.out | apply below_alloc | apply pw_below_drewN | apply below_drew1 | refine below_set ?_ GE238.out) | exact HB.out)))
                                                (case aF => exact (fun k_ hk => Kd.fresh' (Kd.R_lt (by (with_reducible repeat (first | apply Kd.R_alloc | apply Kd.R_drewN | apply Kd.R_drew)); exact HO_4.out)) k_ hk))
                                                (case aO => exact (by (with_reducible repeat (first | apply Kd.R_alloc | apply Kd.R_drewN | apply Kd.R_drew)); exact Kd.R_mono HO244.out (fun _ hk => hk.2)))
                                                (case aS => exact (below_size (by repeat (first | (with_reducible first | exact HB.out | apply below_alloc | apply pw_below_drewN | apply below_drew1 | refine below_set ?_ GE238.out) | exact HB.out))))
                                                (case aL => have := LMc27.out; first | omega | exact this | exact Nat.le_of_lt this)
                                                intro v250 w38 ho hb hg hat
                                                rw [← Ny249.out] at ho
                                                have n0_ := Aside0.mk (Kd.R_after (ok := (fun _ => True)) (by (with_reducible repeat (first | apply Kd.R_alloc | apply Kd.R_drewN | apply Kd.R_drew)); exact HO_4.out) hg hat)
                                                have n1_ := Aside0.mk (Kd.R_over' (by (with_reducible repeat (first | apply Kd.R_alloc | apply Kd.R_drewN | apply Kd.R_drew)); exact HO_13.out) (Kd.R_typed (by (with_reducible repeat (first | apply Kd.R_alloc | apply Kd.R_drewN | apply Kd.R_drew)); exact HO244.out)) (by decide) hg)
                                                have n2_ := Aside0.mk (blk_grown (g := gb238) (o := .cells #[.string ((rd_T31 t234 x15_1).f0), .string ((rd_T31 t234 x15_1).f1)] 31 (0, 0)) (by (with_reducible repeat (first | refine blk_drewN ?_ _ | refine blk_drew ?_ | refine blk_alloc ?_ _)); exact BK238.out) hg (Kd.R_ne HO244.out BK238.out (by decide)))
                                                have n3_ := Aside0.mk (hb)
                                                have n4_ := Aside0.mk ((show Kd.C Kd.string w38 (some ad241) y245.length y245 from by rw [Ny245.out]; exact Kd.C_take (m := (x10_3 : Int).toNat) ((Kd.R_reads' (Kd.R_after (ok := (fun _ => True)) (by (with_reducible repeat (first | apply Kd.R_alloc | apply Kd.R_drewN | apply Kd.R_drew)); exact HO_4.out) hg hat)).2.2) KL34.out))
                                                have n5_ := Aside0.mk ((show Kd.C Kd.string w38 A35 y258.length y258 from by rw [Ny258.out, KA35.out]; exact Kd.C_drop (m := (x10_3 : Int).toNat) (c := co32) ((Kd.R_reads' (Kd.R_after (ok := (fun _ => True)) (by (with_reducible repeat (first | apply Kd.R_alloc | apply Kd.R_drewN | apply Kd.R_drew)); exact HO_4.out) hg hat)).2.2) KL35.out ((Kd.R_reads' (Kd.R_after (ok := (fun _ => True)) (by (with_reducible repeat (first | apply Kd.R_alloc | apply Kd.R_drewN | apply Kd.R_drew)); exact HO_4.out) hg hat)).2.1)))
                                                have n6_ := Aside0.mk (ho)
                                                clear HO_4
                                                clear HO_13
                                                clear BK238
                                                clear HB
                                                clear HR248
                                                clear HR261
                                                clear HO244
                                                have HO_4 := n0_
                                                have HO_13 := n1_
                                                have BK238 := n2_
                                                have HB := n3_
                                                have HR248 := n4_
                                                have HR261 := n5_
                                                have HO251 := n6_
                                                clear n0_ n1_ n2_ n3_ n4_ n5_ n6_
                                                clear ho hb hg hat
                                                refine hK.out _ _ trivial (fun hHeld => ?_)
                                                clear hK K
                                                refine norm_ (a' := ?_) ?_ ?_
                                                rotate_left
                                                · show Act.put _ (some 58) _ = _
                                                  simp only [Act.put, List.setIfInBounds_toArray, List.set_cons_zero, List.set_cons_succ, i64_w, i32_w]
                                                  rfl
                                                refine one_ (i := 6) (N := some 60) #[true, true, true, true, true, true, true, false, true, true, true, false, false] rfl rfl (one_of HT_.out (by kernel_rfl)) (by decide) (fun K hK => ?_)
                                                refine Kd.R_lit_step Kd.string _ 9 ?hg (N := 60) ?hd (xs := ([((((rd_T31 t234 x15_1).f0) ++ (⟨#[61]⟩ : ByteArray)) ++ t239)] : List ByteArray)) (inner := [.string ((((rd_T31 t234 x15_1).f0) ++ (⟨#[61]⟩ : ByteArray)) ++ t239)]) (ok := fun _ => True) (okp := fun _ => True) ?hr ?hp (fun _ hk => hk) trivial (Below.refl _ _) (Nat.le_refl _) (by simp) ?_; (case hd => rfl); (case hg => rfl); (case hr => first | (go_simp; done) | (go_simp; rfl)); (case hp => exact (Reps.one (show Kd.M Kd.string _ _ _ ((((rd_T31 t234 x15_1).f0) ++ (⟨#[61]⟩ : ByteArray)) ++ t239) [.string ((((rd_T31 t234 x15_1).f0) ++ (⟨#[61]⟩ : ByteArray)) ++ t239)] from rfl) (Reps.none _ _)))
                                                intro v253 w39 ho40 hb hg_ hnew_
                                                clear hg_ hnew_
                                                (first | rw [← Ny252.out] at ho40 | (simp only [Int.reduceToNat] at ho40; rw [← Ny252.out] at ho40))
                                                have n0_ := Aside0.mk (Kd.R_elder' (by (with_reducible repeat (first | apply Kd.R_alloc | apply Kd.R_drewN | apply Kd.R_drew)); exact HO_4.out) (Kd.R_base ho40) hb)
                                                have n1_ := Aside0.mk (Kd.R_below (by (with_reducible repeat (first | apply Kd.R_alloc | apply Kd.R_drewN | apply Kd.R_drew)); exact HO_13.out) hb)
                                                have n2_ := Aside0.mk (Kd.R_elder' (by (with_reducible repeat (first | apply Kd.R_alloc | apply Kd.R_drewN | apply Kd.R_drew)); exact HO251.out) (Kd.R_base ho40) hb)
                                                have n3_ := Aside0.mk (Kd.R_lower (Kd.R_new' (Kd.R_new' ho40 (Kd.R_lt (by (with_reducible repeat (first | apply Kd.R_alloc | apply Kd.R_drewN | apply Kd.R_drew)); exact HO_4.out))) (Kd.R_lt (by (with_reducible repeat (first | apply Kd.R_alloc | apply Kd.R_drewN | apply Kd.R_drew)); exact HO251.out))) (below_size (by repeat (first | (with_reducible first | exact HB.out | apply below_alloc | apply pw_below_drewN | apply below_drew1 | refine below_set ?_ GE238.out) | exact HB.out))))
                                                have n4_ := Aside0.mk (blk_below (g := gb238) (o := .cells #[.string ((rd_T31 t234 x15_1).f0), .string ((rd_T31 t234 x15_1).f1)] 31 (0, 0)) (by (with_reducible repeat (first | refine blk_drewN ?_ _ | refine blk_drew ?_ | refine blk_alloc ?_ _)); exact BK238.out) hb)
                                                have n5_ := Aside0.mk (Kd.C_below (by repeat (first | (with_reducible exact HR248.out) | (with_reducible refine Kd.C_alloc ?_ _) | (with_reducible refine Kd.C_drewN ?_ _) | (with_reducible refine Kd.C_drew ?_) | exact HR248.out)) hb)
                                                have n6_ := Aside0.mk (Kd.C_below (by repeat (first | (with_reducible exact HR261.out) | (with_reducible refine Kd.C_alloc ?_ _) | (with_reducible refine Kd.C_drewN ?_ _) | (with_reducible refine Kd.C_drew ?_) | exact HR261.out)) hb)
                                                have n7_ := Aside0.mk (below_step (by repeat (first | (with_reducible first | exact HB.out | apply below_alloc | apply pw_below_drewN | apply below_drew1 | refine below_set ?_ GE238.out) | exact HB.out)) hb)
                                                clear HO_4
                                                clear HO_13
                                                clear HO251
                                                clear BK238
                                                clear HR248
                                                clear HR261
                                                clear HB
                                                have HO_4 := n0_
                                                have HO_13 := n1_
                                                have HO251 := n2_
                                                have HO254 := n3_
                                                have BK238 := n4_
                                                have HR248 := n5_
                                                have HR261 := n6_
                                                have HB := n7_
                                                clear n0_ n1_ n2_ n3_ n4_ n5_ n6_ n7_
                                                clear hb ho40
                                                refine hK.out _ _ trivial (fun hHeld => ?_)
                                                clear hK K
                                                refine norm_ (a' := ?_) ?_ ?_
                                                rotate_left
                                                · show Act.put _ (some 60) _ = _
                                                  simp only [Act.put, List.setIfInBounds_toArray, List.set_cons_zero, List.set_cons_succ, i64_w, i32_w]
                                                  rfl
                                                exact norm_ (by simp only [putAll, Act.put, List.setIfInBounds_toArray, List.set_cons_zero, List.set_cons_succ]) (hCont (v243, v250, v253) _ ⟨(by (with_reducible repeat (first | apply Kd.R_alloc | apply Kd.R_drewN | apply Kd.R_drew)); exact Kd.R_mono HO251.out (fun _ hk => ⟨hk.2, hk.1⟩)), (by (with_reducible repeat (first | apply Kd.R_alloc | apply Kd.R_drewN | apply Kd.R_drew)); exact Kd.R_mono HO254.out (fun _ hk => ⟨hk.2, hk.1.2⟩)), (by (with_reducible repeat (first | apply Kd.R_alloc | apply Kd.R_drewN | apply Kd.R_drew)); exact HO_13.out), (by (with_reducible repeat (first | apply Kd.R_alloc | apply Kd.R_drewN | apply Kd.R_drew)); exact Kd.R_mono HO_4.out (fun _ hk => ⟨hk.1.2, hk.2⟩)), (by (with_reducible repeat (first | refine blk_drewN ?_ _ | refine blk_drew ?_ | refine blk_alloc ?_ _)); exact BK238.out), (by repeat (first | (with_reducible first | exact HB.out | apply below_alloc | apply pw_below_drewN | apply below_drew1 | refine below_set ?_ GE238.out) | exact HB.out))⟩)
                                              · skip
                                                refine Kd.R_lit_step Kd.string _ 9 ?hg (N := 60) ?hd (xs := ([((((rd_T31 t234 x15_1).f0) ++ (⟨#[61]⟩ : ByteArray)) ++ t239)] : List ByteArray)) (inner := [.string ((((rd_T31 t234 x15_1).f0) ++ (⟨#[61]⟩ : ByteArray)) ++ t239)]) (ok := fun _ => True) (okp := fun _ => True) ?hr ?hp (fun _ hk => hk) trivial (Below.refl _ _) (Nat.le_refl _) (by simp) ?_; (case hd => rfl); (case hg => rfl); (case hr => first | (go_simp; done) | (go_simp; rfl)); (case hp => exact (Reps.one (show Kd.M Kd.string _ _ _ ((((rd_T31 t234 x15_1).f0) ++ (⟨#[61]⟩ : ByteArray)) ++ t239) [.string ((((rd_T31 t234 x15_1).f0) ++ (⟨#[61]⟩ : ByteArray)) ++ t239)] from rfl) (Reps.none _ _)))
                                                intro v253 w38 ho39 hb hg_ hnew_
                                                clear hg_ hnew_
                                                (first | rw [← Ny252.out] at ho39 | (simp only [Int.reduceToNat] at ho39; rw [← Ny252.out] at ho39))
                                                have n0_ := Aside0.mk (Kd.R_elder' (by (with_reducible repeat (first | apply Kd.R_alloc | apply Kd.R_drewN | apply Kd.R_drew)); exact HO_4.out) (Kd.R_base ho39) hb)
                                                have n1_ := Aside0.mk (Kd.R_below (by (with_reducible repeat (first | apply Kd.R_alloc | apply Kd.R_drewN | apply Kd.R_drew)); exact HO_13.out) hb)
                                                have n2_ := Aside0.mk (Kd.R_elder' (by (with_reducible repeat (first | apply Kd.R_alloc | apply Kd.R_drewN | apply Kd.R_drew)); exact HO244.out) (Kd.R_base ho39) hb)
                                                have n3_ := Aside0.mk (Kd.R_lower (Kd.R_new' (Kd.R_new' ho39 (Kd.R_lt (by (with_reducible repeat (first | apply Kd.R_alloc | apply Kd.R_drewN | apply Kd.R_drew)); exact HO_4.out))) (Kd.R_lt (by (with_reducible repeat (first | apply Kd.R_alloc | apply Kd.R_drewN | apply Kd.R_drew)); exact HO244.out))) (below_size (by repeat (first | (with_reducible first | exact HB.out | apply below_alloc | apply pw_below_drewN | apply below_drew1 | refine below_set ?_ GE238.out) | exact HB.out))))
                                                have n4_ := Aside0.mk (blk_below (g := gb238) (o := .cells #[.string ((rd_T31 t234 x15_1).f0), .string ((rd_T31 t234 x15_1).f1)] 31 (0, 0)) (by (with_reducible repeat (first | refine blk_drewN ?_ _ | refine blk_drew ?_ | refine blk_alloc ?_ _)); exact BK238.out) hb)
                                                have n5_ := Aside0.mk (Kd.C_below (by repeat (first | (with_reducible exact HR248.out) | (with_reducible refine Kd.C_alloc ?_ _) | (with_reducible refine Kd.C_drewN ?_ _) | (with_reducible refine Kd.C_drew ?_) | exact HR248.out)) hb)
                                                have n6_ := Aside0.mk (Kd.C_below (by repeat (first | (with_reducible exact HR261.out) | (with_reducible refine Kd.C_alloc ?_ _) | (with_reducible refine Kd.C_drewN ?_ _) | (with_reducible refine Kd.C_drew ?_) | exact HR261.out)) hb)
                                                have n7_ := Aside0.mk (below_step (by repeat (first | (with_reducible first | exact HB.out | apply below_alloc | apply pw_below_drewN | apply below_drew1 | refine below_set ?_ GE238.out) | exact HB.out)) hb)
                                                clear HO_4
                                                clear HO_13
                                                clear HO244
                                                clear BK238
                                                clear HR248
                                                clear HR261
                                                clear HB
                                                have HO_4 := n0_
                                                have HO_13 := n1_
                                                have HO244 := n2_
                                                have HO254 := n3_
                                                have BK238 := n4_
                                                have HR248 := n5_
                                                have HR261 := n6_
                                                have HB := n7_
                                                clear n0_ n1_ n2_ n3_ n4_ n5_ n6_ n7_
                                                clear hb ho39
                                                refine hK.out _ _ trivial (fun hHeld => ?_)
                                                clear hK K
                                                refine norm_ (a' := ?_) ?_ ?_
                                                rotate_left
                                                · show Act.put _ (some 60) _ = _
                                                  simp only [Act.put, List.setIfInBounds_toArray, List.set_cons_zero, List.set_cons_succ, i64_w, i32_w]
                                                  rfl
                                                refine one_ (i := 4) (N := some 58) #[true, true, true, true, true, true, true, false, true, true, true, false, false] rfl rfl (one_of HT_.out (by kernel_rfl)) (by decide) (fun K hK => ?_)
                                                refine Kd.R_append_rows_step Kd.string (w0 := w) w.heap.size (by rfl) (.tmp 54) (.tmp 57) 27 9 (.string ⟨#[]⟩) 16 rfl Tryd.underlying27 info9 rfl (by decide) (by omega) v243 y242 y245 _ _ _ (fun k_ => some k_ ≠ (.slice (some ad241) x4_1.length co32 : Value).ownBlock ∧ some k_ ≠ (v253 : Value).ownBlock) (fun _ => False) rfl rfl ?aO ?aR (fun _ _ h => h) (fun _ h => h.elim) ?aF ?aB ?aS ?aL ?_
                                                (case aR => repeat (first | exact (by repeat (first | (with_reducible exact HR248.out) | (with_reducible refine Kd.C_alloc ?_ _) | (with_reducible refine Kd.C_drewN ?_ _) | (with_reducible refine Kd.C_drew ?_) | exact HR248.out)) | (with_reducible refine Kd.C_alloc ?_ _) | (with_reducible refine Kd.C_drewN ?_ _) | (with_reducible refine Kd.C_drew ?_)))
                                                (case aB => exact (by repeat (first | (with_reducible first | exact HB.out | apply below_alloc | apply pw_below_drewN | apply below_drew1 | refine below_set ?_ GE238.out) | exact HB.out)))
                                                (case aF => exact (fun k_ hk => ⟨Kd.fresh' (Kd.R_lt (by (with_reducible repeat (first | apply Kd.R_alloc | apply Kd.R_drewN | apply Kd.R_drew)); exact HO_4.out)) k_ hk, Kd.fresh' (Kd.R_lt (by (with_reducible repeat (first | apply Kd.R_alloc | apply Kd.R_drewN | apply Kd.R_drew)); exact HO254.out)) k_ hk⟩))
                                                (case aO => exact (by (with_reducible repeat (first | apply Kd.R_alloc | apply Kd.R_drewN | apply Kd.R_drew)); exact Kd.R_mono HO244.out (fun _ hk => ⟨hk.1.2, hk.2⟩)))
                                                (case aS => exact (below_size (by repeat (first | (with_reducible first | exact HB.out | apply below_alloc | apply pw_below_drewN | apply below_drew1 | refine below_set ?_ GE238.out) | exact HB.out))))
                                                (case aL => have := LMc27.out; first | omega | exact this | exact Nat.le_of_lt this)
                                                intro v250 w40 ho hb hg hat
                                                rw [← Ny249.out] at ho
                                                have n0_ := Aside0.mk (Kd.R_after (ok := (fun k_ => some k_ ≠ (v253 : Value).ownBlock)) (by (with_reducible repeat (first | apply Kd.R_alloc | apply Kd.R_drewN | apply Kd.R_drew)); exact Kd.R_mono HO_4.out (fun _ hk => ⟨hk.2, hk.1.2⟩)) hg hat)
                                                have n1_ := Aside0.mk (Kd.R_over' (by (with_reducible repeat (first | apply Kd.R_alloc | apply Kd.R_drewN | apply Kd.R_drew)); exact HO_13.out) (Kd.R_typed (by (with_reducible repeat (first | apply Kd.R_alloc | apply Kd.R_drewN | apply Kd.R_drew)); exact HO244.out)) (by decide) hg)
                                                have n2_ := Aside0.mk (blk_grown (g := gb238) (o := .cells #[.string ((rd_T31 t234 x15_1).f0), .string ((rd_T31 t234 x15_1).f1)] 31 (0, 0)) (by (with_reducible repeat (first | refine blk_drewN ?_ _ | refine blk_drew ?_ | refine blk_alloc ?_ _)); exact BK238.out) hg (Kd.R_ne HO244.out BK238.out (by decide)))
                                                have n3_ := Aside0.mk (Kd.R_after (ok := (fun k_ => some k_ ≠ (.slice (some ad241) x4_1.length co32 : Value).ownBlock)) (by (with_reducible repeat (first | apply Kd.R_alloc | apply Kd.R_drewN | apply Kd.R_drew)); exact Kd.R_mono HO254.out (fun _ hk => ⟨hk.1.2, hk.2⟩)) hg hat)
                                                have n4_ := Aside0.mk (hb)
                                                have n5_ := Aside0.mk ((show Kd.C Kd.string w40 (some ad241) y245.length y245 from by rw [Ny245.out]; exact Kd.C_take (m := (x10_3 : Int).toNat) ((Kd.R_reads' (Kd.R_after (ok := (fun k_ => some k_ ≠ (v253 : Value).ownBlock)) (by (with_reducible repeat (first | apply Kd.R_alloc | apply Kd.R_drewN | apply Kd.R_drew)); exact Kd.R_mono HO_4.out (fun _ hk => ⟨hk.2, hk.1.2⟩)) hg hat)).2.2) KL34.out))
                                                have n6_ := Aside0.mk ((show Kd.C Kd.string w40 A35 y258.length y258 from by rw [Ny258.out, KA35.out]; exact Kd.C_drop (m := (x10_3 : Int).toNat) (c := co32) ((Kd.R_reads' (Kd.R_after (ok := (fun k_ => some k_ ≠ (v253 : Value).ownBlock)) (by (with_reducible repeat (first | apply Kd.R_alloc | apply Kd.R_drewN | apply Kd.R_drew)); exact Kd.R_mono HO_4.out (fun _ hk => ⟨hk.2, hk.1.2⟩)) hg hat)).2.2) KL35.out ((Kd.R_reads' (Kd.R_after (ok := (fun k_ => some k_ ≠ (v253 : Value).ownBlock)) (by (with_reducible repeat (first | apply Kd.R_alloc | apply Kd.R_drewN | apply Kd.R_drew)); exact Kd.R_mono HO_4.out (fun _ hk => ⟨hk.2, hk.1.2⟩)) hg hat)).2.1)))
                                                have n7_ := Aside0.mk (ho)
                                                clear HO_4
                                                clear HO_13
                                                clear BK238
                                                clear HO254
                                                clear HB
                                                clear HR248
                                                clear HR261
                                                clear HO244
                                                have HO_4 := n0_
                                                have HO_13 := n1_
                                                have BK238 := n2_
                                                have HO254 := n3_
                                                have HB := n4_
                                                have HR248 := n5_
                                                have HR261 := n6_
                                                have HO251 := n7_
                                                clear n0_ n1_ n2_ n3_ n4_ n5_ n6_ n7_
                                                clear ho hb hg hat
                                                refine hK.out _ _ trivial (fun hHeld => ?_)
                                                clear hK K
                                                refine norm_ (a' := ?_) ?_ ?_
                                                rotate_left
                                                · show Act.put _ (some 58) _ = _
                                                  simp only [Act.put, List.setIfInBounds_toArray, List.set_cons_zero, List.set_cons_succ, i64_w, i32_w]
                                                  rfl
                                                exact norm_ (by simp only [putAll, Act.put, List.setIfInBounds_toArray, List.set_cons_zero, List.set_cons_succ]) (hCont (v243, v250, v253) _ ⟨(by (with_reducible repeat (first | apply Kd.R_alloc | apply Kd.R_drewN | apply Kd.R_drew)); exact Kd.R_mono HO251.out (fun _ hk => ⟨hk.2, hk.1⟩)), (by (with_reducible repeat (first | apply Kd.R_alloc | apply Kd.R_drewN | apply Kd.R_drew)); exact Kd.R_mono HO254.out (fun _ hk => ⟨hk.2, hk.1⟩)), (by (with_reducible repeat (first | apply Kd.R_alloc | apply Kd.R_drewN | apply Kd.R_drew)); exact HO_13.out), (by (with_reducible repeat (first | apply Kd.R_alloc | apply Kd.R_drewN | apply Kd.R_drew)); exact Kd.R_mono HO_4.out (fun _ hk => ⟨hk.2, hk.1⟩)), (by (with_reducible repeat (first | refine blk_drewN ?_ _ | refine blk_drew ?_ | refine blk_alloc ?_ _)); exact BK238.out), (by repeat (first | (with_reducible first | exact HB.out | apply below_alloc | apply pw_below_drewN | apply below_drew1 | refine below_set ?_ GE238.out) | exact HB.out))⟩)
                                            · skip
                                              refine Kd.R_lit_step Kd.string _ 9 ?hg (N := 60) ?hd (xs := ([((((rd_T31 t234 x15_1).f0) ++ (⟨#[61]⟩ : ByteArray)) ++ t239)] : List ByteArray)) (inner := [.string ((((rd_T31 t234 x15_1).f0) ++ (⟨#[61]⟩ : ByteArray)) ++ t239)]) (ok := fun _ => True) (okp := fun _ => True) ?hr ?hp (fun _ hk => hk) trivial (Below.refl _ _) (Nat.le_refl _) (by simp) ?_; (case hd => rfl); (case hg => rfl); (case hr => first | (go_simp; done) | (go_simp; rfl)); (case hp => exact (Reps.one (show Kd.M Kd.string _ _ _ ((((rd_T31 t234 x15_1).f0) ++ (⟨#[61]⟩ : ByteArray)) ++ t239) [.string ((((rd_T31 t234 x15_1).f0) ++ (⟨#[61]⟩ : ByteArray)) ++ t239)] from rfl) (Reps.none _ _)))
                                              intro v253 w36 ho37 hb hg_ hnew_
                                              clear hg_ hnew_
                                              (first | rw [← Ny252.out] at ho37 | (simp only [Int.reduceToNat] at ho37; rw [← Ny252.out] at ho37))
                                              have n0_ := Aside0.mk (Kd.R_elder' (by (with_reducible repeat (first | apply Kd.R_alloc | apply Kd.R_drewN | apply Kd.R_drew)); exact HO_4.out) (Kd.R_base ho37) hb)
                                              have n1_ := Aside0.mk (Kd.R_below (by (with_reducible repeat (first | apply Kd.R_alloc | apply Kd.R_drewN | apply Kd.R_drew)); exact HO_13.out) hb)
                                              have n2_ := Aside0.mk (Kd.R_lower (Kd.R_new' ho37 (Kd.R_lt (by (with_reducible repeat (first | apply Kd.R_alloc | apply Kd.R_drewN | apply Kd.R_drew)); exact HO_4.out))) (below_size (by repeat (first | (with_reducible first | exact HB.out | apply below_alloc | apply pw_below_drewN | apply below_drew1 | refine below_set ?_ GE238.out) | exact HB.out))))
                                              have n3_ := Aside0.mk (blk_below (g := gb238) (o := .cells #[.string ((rd_T31 t234 x15_1).f0), .string ((rd_T31 t234 x15_1).f1)] 31 (0, 0)) (by (with_reducible repeat (first | refine blk_drewN ?_ _ | refine blk_drew ?_ | refine blk_alloc ?_ _)); exact BK238.out) hb)
                                              have n4_ := Aside0.mk (Kd.C_below (by repeat (first | (with_reducible exact HR248.out) | (with_reducible refine Kd.C_alloc ?_ _) | (with_reducible refine Kd.C_drewN ?_ _) | (with_reducible refine Kd.C_drew ?_) | exact HR248.out)) hb)
                                              have n5_ := Aside0.mk (Kd.C_below (by repeat (first | (with_reducible exact HR261.out) | (with_reducible refine Kd.C_alloc ?_ _) | (with_reducible refine Kd.C_drewN ?_ _) | (with_reducible refine Kd.C_drew ?_) | exact HR261.out)) hb)
                                              have n6_ := Aside0.mk (below_step (by repeat (first | (with_reducible first | exact HB.out | apply below_alloc | apply pw_below_drewN | apply below_drew1 | refine below_set ?_ GE238.out) | exact HB.out)) hb)
                                              clear HO_4
                                              clear HO_13
                                              clear BK238
                                              clear HR248
                                              clear HR261
                                              clear HB
                                              have HO_4 := n0_
                                              have HO_13 := n1_
                                              have HO254 := n2_
                                              have BK238 := n3_
                                              have HR248 := n4_
                                              have HR261 := n5_
                                              have HB := n6_
                                              clear n0_ n1_ n2_ n3_ n4_ n5_ n6_
                                              clear hb ho37
                                              refine hK.out _ _ trivial (fun hHeld => ?_)
                                              clear hK K
                                              refine norm_ (a' := ?_) ?_ ?_
                                              rotate_left
                                              · show Act.put _ (some 60) _ = _
                                                simp only [Act.put, List.setIfInBounds_toArray, List.set_cons_zero, List.set_cons_succ, i64_w, i32_w]
                                                rfl
                                              refine one_ (i := 0) (N := some 54) #[true, true, true, true, false, true, true, false, true, true, true, false, false] rfl rfl (one_of HT_.out (by kernel_rfl)) (by decide) (fun K hK => ?_)
                                              refine Kd.R_lit_step Kd.string _ 9 ?hg (N := 54) ?hd (xs := ([] : List ByteArray)) (inner := []) (ok := fun _ => True) (okp := fun _ => True) ?hr ?hp (fun _ hk => hk) trivial (Below.refl _ _) (Nat.le_refl _) (by simp) ?_; (case hd => rfl); (case hg => rfl); (case hr => first | (go_simp; done) | (go_simp; rfl)); (case hp => exact (Reps.none _ _))
                                              intro v243 w38 ho39 hb hg_ hnew_
                                              clear hg_ hnew_
                                              (first | rw [← Ny242.out] at ho39 | (simp only [Int.reduceToNat] at ho39; rw [← Ny242.out] at ho39))
                                              have n0_ := Aside0.mk (Kd.R_elder' (by (with_reducible repeat (first | apply Kd.R_alloc | apply Kd.R_drewN | apply Kd.R_drew)); exact HO_4.out) (Kd.R_base ho39) hb)
                                              have n1_ := Aside0.mk (Kd.R_below (by (with_reducible repeat (first | apply Kd.R_alloc | apply Kd.R_drewN | apply Kd.R_drew)); exact HO_13.out) hb)
                                              have n2_ := Aside0.mk (Kd.R_elder' (by (with_reducible repeat (first | apply Kd.R_alloc | apply Kd.R_drewN | apply Kd.R_drew)); exact HO254.out) (Kd.R_base ho39) hb)
                                              have n3_ := Aside0.mk (Kd.R_lower (Kd.R_new' (Kd.R_new' ho39 (Kd.R_lt (by (with_reducible repeat (first | apply Kd.R_alloc | apply Kd.R_drewN | apply Kd.R_drew)); exact HO_4.out))) (Kd.R_lt (by (with_reducible repeat (first | apply Kd.R_alloc | apply Kd.R_drewN | apply Kd.R_drew)); exact HO254.out))) (below_size (by repeat (first | (with_reducible first | exact HB.out | apply below_alloc | apply pw_below_drewN | apply below_drew1 | refine below_set ?_ GE238.out) | exact HB.out))))
                                              have n4_ := Aside0.mk (blk_below (g := gb238) (o := .cells #[.string ((rd_T31 t234 x15_1).f0), .string ((rd_T31 t234 x15_1).f1)] 31 (0, 0)) (by (with_reducible repeat (first | refine blk_drewN ?_ _ | refine blk_drew ?_ | refine blk_alloc ?_ _)); exact BK238.out) hb)
                                              have n5_ := Aside0.mk (Kd.C_below (by repeat (first | (with_reducible exact HR248.out) | (with_reducible refine Kd.C_alloc ?_ _) | (with_reducible refine Kd.C_drewN ?_ _) | (with_reducible refine Kd.C_drew ?_) | exact HR248.out)) hb)
                                              have n6_ := Aside0.mk (Kd.C_below (by repeat (first | (with_reducible exact HR261.out) | (with_reducible refine Kd.C_alloc ?_ _) | (with_reducible refine Kd.C_drewN ?_ _) | (with_reducible refine Kd.C_drew ?_) | exact HR261.out)) hb)
                                              have n7_ := Aside0.mk (below_step (by repeat (first | (with_reducible first | exact HB.out | apply below_alloc | apply pw_below_drewN | apply below_drew1 | refine below_set ?_ GE238.out) | exact HB.out)) hb)
                                              clear HO_4
                                              clear HO_13
                                              clear HO254
                                              clear BK238
                                              clear HR248
                                              clear HR261
                                              clear HB
                                              have HO_4 := n0_
                                              have HO_13 := n1_
                                              have HO254 := n2_
                                              have HO244 := n3_
                                              have BK238 := n4_
                                              have HR248 := n5_
                                              have HR261 := n6_
                                              have HB := n7_
                                              clear n0_ n1_ n2_ n3_ n4_ n5_ n6_ n7_
                                              clear hb ho39
                                              refine hK.out _ _ trivial (fun hHeld => ?_)
                                              clear hK K
                                              refine norm_ (a' := ?_) ?_ ?_
                                              rotate_left
                                              · show Act.put _ (some 54) _ = _
                                                simp only [Act.put, List.setIfInBounds_toArray, List.set_cons_zero, List.set_cons_succ, i64_w, i32_w]
                                                rfl
                                              refine one_ (i := 4) (N := some 58) #[true, true, true, true, true, true, true, false, true, true, true, false, false] rfl rfl (one_of HT_.out (by kernel_rfl)) (by decide) (fun K hK => ?_)
                                              refine Kd.R_append_rows_step Kd.string (w0 := w) w.heap.size (by rfl) (.tmp 54) (.tmp 57) 27 9 (.string ⟨#[]⟩) 16 rfl Tryd.underlying27 info9 rfl (by decide) (by omega) v243 y242 y245 _ _ _ (fun k_ => some k_ ≠ (.slice (some ad241) x4_1.length co32 : Value).ownBlock ∧ some k_ ≠ (v253 : Value).ownBlock) (fun _ => False) rfl rfl ?aO ?aR (fun _ _ h => h) (fun _ h => h.elim) ?aF ?aB ?aS ?aL ?_
                                              (case aR => repeat (first | exact (by repeat (first | (with_reducible exact HR248.out) | (with_reducible refine Kd.C_alloc ?_ _) | (with_reducible refine Kd.C_drewN ?_ _) | (with_reducible refine Kd.C_drew ?_) | exact HR248.out)) | (with_reducible refine Kd.C_alloc ?_ _) | (with_reducible refine Kd.C_drewN ?_ _) | (with_reducible refine Kd.C_drew ?_)))
                                              (case aB => exact (by repeat (first | (with_reducible first | exact HB.out | apply below_alloc | apply pw_below_drewN | apply below_drew1 | refine below_set ?_ GE238.out) | exact HB.out)))
                                              (case aF => exact (fun k_ hk => ⟨Kd.fresh' (Kd.R_lt (by (with_reducible repeat (first | apply Kd.R_alloc | apply Kd.R_drewN | apply Kd.R_drew)); exact HO_4.out)) k_ hk, Kd.fresh' (Kd.R_lt (by (with_reducible repeat (first | apply Kd.R_alloc | apply Kd.R_drewN | apply Kd.R_drew)); exact HO254.out)) k_ hk⟩))
                                              (case aO => exact (by (with_reducible repeat (first | apply Kd.R_alloc | apply Kd.R_drewN | apply Kd.R_drew)); exact Kd.R_mono HO244.out (fun _ hk => ⟨hk.1.2, hk.2⟩)))
                                              (case aS => exact (below_size (by repeat (first | (with_reducible first | exact HB.out | apply below_alloc | apply pw_below_drewN | apply below_drew1 | refine below_set ?_ GE238.out) | exact HB.out))))
                                              (case aL => have := LMc27.out; first | omega | exact this | exact Nat.le_of_lt this)
                                              intro v250 w40 ho hb hg hat
                                              rw [← Ny249.out] at ho
                                              have n0_ := Aside0.mk (Kd.R_after (ok := (fun k_ => some k_ ≠ (v253 : Value).ownBlock)) (by (with_reducible repeat (first | apply Kd.R_alloc | apply Kd.R_drewN | apply Kd.R_drew)); exact Kd.R_mono HO_4.out (fun _ hk => ⟨hk.1.2, hk.2⟩)) hg hat)
                                              have n1_ := Aside0.mk (Kd.R_over' (by (with_reducible repeat (first | apply Kd.R_alloc | apply Kd.R_drewN | apply Kd.R_drew)); exact HO_13.out) (Kd.R_typed (by (with_reducible repeat (first | apply Kd.R_alloc | apply Kd.R_drewN | apply Kd.R_drew)); exact HO244.out)) (by decide) hg)
                                              have n2_ := Aside0.mk (blk_grown (g := gb238) (o := .cells #[.string ((rd_T31 t234 x15_1).f0), .string ((rd_T31 t234 x15_1).f1)] 31 (0, 0)) (by (with_reducible repeat (first | refine blk_drewN ?_ _ | refine blk_drew ?_ | refine blk_alloc ?_ _)); exact BK238.out) hg (Kd.R_ne HO244.out BK238.out (by decide)))
                                              have n3_ := Aside0.mk (Kd.R_after (ok := (fun k_ => some k_ ≠ (.slice (some ad241) x4_1.length co32 : Value).ownBlock)) (by (with_reducible repeat (first | apply Kd.R_alloc | apply Kd.R_drewN | apply Kd.R_drew)); exact Kd.R_mono HO254.out (fun _ hk => ⟨hk.1.2, hk.2⟩)) hg hat)
                                              have n4_ := Aside0.mk (hb)
                                              have n5_ := Aside0.mk ((show Kd.C Kd.string w40 (some ad241) y245.length y245 from by rw [Ny245.out]; exact Kd.C_take (m := (x10_3 : Int).toNat) ((Kd.R_reads' (Kd.R_after (ok := (fun k_ => some k_ ≠ (v253 : Value).ownBlock)) (by (with_reducible repeat (first | apply Kd.R_alloc | apply Kd.R_drewN | apply Kd.R_drew)); exact Kd.R_mono HO_4.out (fun _ hk => ⟨hk.1.2, hk.2⟩)) hg hat)).2.2) KL34.out))
                                              have n6_ := Aside0.mk ((show Kd.C Kd.string w40 A35 y258.length y258 from by rw [Ny258.out, KA35.out]; exact Kd.C_drop (m := (x10_3 : Int).toNat) (c := co32) ((Kd.R_reads' (Kd.R_after (ok := (fun k_ => some k_ ≠ (v253 : Value).ownBlock)) (by (with_reducible repeat (first | apply Kd.R_alloc | apply Kd.R_drewN | apply Kd.R_drew)); exact Kd.R_mono HO_4.out (fun _ hk => ⟨hk.1.2, hk.2⟩)) hg hat)).2.2) KL35.out ((Kd.R_reads' (Kd.R_after (ok := (fun k_ => some k_ ≠ (v253 : Value).ownBlock)) (by (with_reducible repeat (first | apply Kd.R_alloc | apply Kd.R_drewN | apply Kd.R_drew)); exact Kd.R_mono HO_4.out (fun _ hk => ⟨hk.1.2, hk.2⟩)) hg hat)).2.1)))
                                              have n7_ := Aside0.mk (ho)
                                              clear HO_4
                                              clear HO_13
                                              clear BK238
                                              clear HO254
                                              clear HB
                                              clear HR248
                                              clear HR261
                                              clear HO244
                                              have HO_4 := n0_
                                              have HO_13 := n1_
                                              have BK238 := n2_
                                              have HO254 := n3_
                                              have HB := n4_
                                              have HR248 := n5_
                                              have HR261 := n6_
                                              have HO251 := n7_
                                              clear n0_ n1_ n2_ n3_ n4_ n5_ n6_ n7_
                                              clear ho hb hg hat
                                              refine hK.out _ _ trivial (fun hHeld => ?_)
                                              clear hK K
                                              refine norm_ (a' := ?_) ?_ ?_
                                              rotate_left
                                              · show Act.put _ (some 58) _ = _
                                                simp only [Act.put, List.setIfInBounds_toArray, List.set_cons_zero, List.set_cons_succ, i64_w, i32_w]
                                                rfl
                                              exact norm_ (by simp only [putAll, Act.put, List.setIfInBounds_toArray, List.set_cons_zero, List.set_cons_succ]) (hCont (v243, v250, v253) _ ⟨(by (with_reducible repeat (first | apply Kd.R_alloc | apply Kd.R_drewN | apply Kd.R_drew)); exact Kd.R_mono HO251.out (fun _ hk => ⟨hk.2, hk.1⟩)), (by (with_reducible repeat (first | apply Kd.R_alloc | apply Kd.R_drewN | apply Kd.R_drew)); exact Kd.R_mono HO254.out (fun _ hk => ⟨hk.2, hk.1⟩)), (by (with_reducible repeat (first | apply Kd.R_alloc | apply Kd.R_drewN | apply Kd.R_drew)); exact HO_13.out), (by (with_reducible repeat (first | apply Kd.R_alloc | apply Kd.R_drewN | apply Kd.R_drew)); exact Kd.R_mono HO_4.out (fun _ hk => ⟨hk.2, hk.1⟩)), (by (with_reducible repeat (first | refine blk_drewN ?_ _ | refine blk_drew ?_ | refine blk_alloc ?_ _)); exact BK238.out), (by repeat (first | (with_reducible first | exact HB.out | apply below_alloc | apply pw_below_drewN | apply below_drew1 | refine below_set ?_ GE238.out) | exact HB.out))⟩)
                                          rintro ⟨v243, v250, v253⟩ w41 ⟨h0_, h1_, h2_, h3_, h4_, h5_⟩
                                          have n0_ : Aside0 (Kd.R Kd.string 9 w41 w.heap.size (fun k_ => some k_ ≠ (v253 : Value).ownBlock ∧ some k_ ≠ (.slice (some ad241) x4_1.length co32 : Value).ownBlock) v250 y249) := ⟨h0_⟩
                                          have n1_ : Aside0 (Kd.R Kd.string 9 w41 w.heap.size (fun k_ => some k_ ≠ (v250 : Value).ownBlock ∧ some k_ ≠ (.slice (some ad241) x4_1.length co32 : Value).ownBlock) v253 y252) := ⟨h1_⟩
                                          have n2_ : Aside0 (Kd.R k31 31 w41 w.heap.size (fun k_ => k_ ≠ gb238) (.slice (some ad237) t234.length co4) t234) := ⟨h2_⟩
                                          have n3_ : Aside0 (Kd.R Kd.string 9 w41 w.heap.size (fun k_ => some k_ ≠ (v250 : Value).ownBlock ∧ some k_ ≠ (v253 : Value).ownBlock) (.slice (some ad241) x4_1.length co32) x4_1) := ⟨h3_⟩
                                          have n4_ : Aside0 (w41.heap[gb238]? = some (.cells #[.string ((rd_T31 t234 x15_1).f0), .string ((rd_T31 t234 x15_1).f1)] 31 (0, 0))) := ⟨h4_⟩
                                          have n5_ : Aside0 (Below w.heap.size w w41) := ⟨h5_⟩
                                          clear HO_4
                                          clear HO_13
                                          clear BK238
                                          clear HB
                                          clear h0_ h1_ h2_ h3_ h4_ h5_
                                          have HO251 := n0_
                                          have HO254 := n1_
                                          have HO_13 := n2_
                                          have HO_4 := n3_
                                          have BK238 := n4_
                                          have HB := n5_
                                          clear n0_ n1_ n2_ n3_ n4_ n5_
                                          have hHeld := trivial
                                          have HR248 := Aside0.mk (show Kd.C Kd.string w41 (some ad241) y245.length y245 from by rw [Ny245.out]; exact Kd.C_take (m := (x10_3 : Int).toNat) ((Kd.R_reads' (HO_4.out)).2.2) KL34.out)
                                          have HR261 := Aside0.mk (show Kd.C Kd.string w41 A35 y258.length y258 from by rw [Ny258.out, KA35.out]; exact Kd.C_drop (m := (x10_3 : Int).toNat) (c := co32) ((Kd.R_reads' (HO_4.out)).2.2) KL35.out ((Kd.R_reads' (HO_4.out)).2.1))
                                          obtain ⟨Ao43, co43, eo43⟩ := Kd.R_slice HO254.out
                                          (first | subst eo43 | (injection eo43 with f1_ f2_ f3_; have f4_ := f1_.symm; have f5_ := f3_.symm; clear f1_ f2_ f3_; subst f4_; subst f5_))
                                          refine norm_ (a' := ?_) ?_ ?_
                                          rotate_left
                                          · simp only [putAll, Act.put, List.setIfInBounds_toArray, List.set_cons_zero, List.set_cons_succ]
                                            rfl
                                          refine one_ (i := 7) (N := some 61) #[true, true, true, true, true, true, true, true, true, true, true, false, false] rfl rfl (one_of HT_.out (by kernel_rfl)) (by decide) (fun K hK => ?_)
                                          refine Kd.R_append_rows_step Kd.string (w0 := w) w.heap.size (by rfl) (.tmp 58) (.tmp 60) 27 9 (.string ⟨#[]⟩) 16 rfl Tryd.underlying27 info9 rfl (by decide) (by omega) v250 y249 y252 _ _ _ (fun k_ => some k_ ≠ (.slice (some ad241) x4_1.length co32 : Value).ownBlock ∧ some k_ ≠ (.slice Ao43 y252.length co43 : Value).ownBlock) (fun _ => False) rfl rfl ?aO ?aR (fun _ _ h => h) (fun _ h => h.elim) ?aF ?aB ?aS ?aL ?_
                                          (case aR => repeat (first | exact (Kd.R_reads' HO254.out).2.2 | (with_reducible refine Kd.C_alloc ?_ _) | (with_reducible refine Kd.C_drewN ?_ _) | (with_reducible refine Kd.C_drew ?_)))
                                          (case aB => exact (by repeat (first | (with_reducible first | exact HB.out | apply below_alloc | apply pw_below_drewN | apply below_drew1 | refine below_set ?_ GE238.out) | exact HB.out)))
                                          (case aF => exact (fun k_ hk => ⟨Kd.fresh' (Kd.R_lt (by (with_reducible repeat (first | apply Kd.R_alloc | apply Kd.R_drewN | apply Kd.R_drew)); exact HO_4.out)) k_ hk, Kd.fresh' (Kd.R_lt (by (with_reducible repeat (first | apply Kd.R_alloc | apply Kd.R_drewN | apply Kd.R_drew)); exact HO254.out)) k_ hk⟩))
                                          (case aO => exact (by (with_reducible repeat (first | apply Kd.R_alloc | apply Kd.R_drewN | apply Kd.R_drew)); exact Kd.R_mono HO251.out (fun _ hk => ⟨hk.2, hk.1⟩)))
                                          (case aS => exact (below_size (by repeat (first | (with_reducible first | exact HB.out | apply below_alloc | apply pw_below_drewN | apply below_drew1 | refine below_set ?_ GE238.out) | exact HB.out))))
                                          (case aL => have := LMc28.out; first | omega | exact this | exact Nat.le_of_lt this)
                                          intro v256 w42 ho hb hg hat
                                          rw [← Ny255.out] at ho
                                          have n0_ := Aside0.mk (Kd.R_after (ok := (fun k_ => some k_ ≠ (.slice Ao43 y252.length co43 : Value).ownBlock)) (by (with_reducible repeat (first | apply Kd.R_alloc | apply Kd.R_drewN | apply Kd.R_drew)); exact Kd.R_mono HO_4.out (fun _ hk => ⟨hk.2, hk.1⟩)) hg hat)
                                          have n1_ := Aside0.mk (Kd.R_over' (by (with_reducible repeat (first | apply Kd.R_alloc | apply Kd.R_drewN | apply Kd.R_drew)); exact HO_13.out) (Kd.R_typed (by (with_reducible repeat (first | apply Kd.R_alloc | apply Kd.R_drewN | apply Kd.R_drew)); exact HO251.out)) (by decide) hg)
                                          have n2_ := Aside0.mk (blk_grown (g := gb238) (o := .cells #[.string ((rd_T31 t234 x15_1).f0), .string ((rd_T31 t234 x15_1).f1)] 31 (0, 0)) (by (with_reducible repeat (first | refine blk_drewN ?_ _ | refine blk_drew ?_ | refine blk_alloc ?_ _)); exact BK238.out) hg (Kd.R_ne HO251.out BK238.out (by decide)))
                                          have n3_ := Aside0.mk (Kd.R_after (ok := (fun k_ => some k_ ≠ (.slice (some ad241) x4_1.length co32 : Value).ownBlock)) (by (with_reducible repeat (first | apply Kd.R_alloc | apply Kd.R_drewN | apply Kd.R_drew)); exact Kd.R_mono HO254.out (fun _ hk => ⟨hk.2, hk.1⟩)) hg hat)
                                          have n4_ := Aside0.mk (hb)
                                          have n5_ := Aside0.mk ((show Kd.C Kd.string w42 (some ad241) y245.length y245 from by rw [Ny245.out]; exact Kd.C_take (m := (x10_3 : Int).toNat) ((Kd.R_reads' (Kd.R_after (ok := (fun k_ => some k_ ≠ (.slice Ao43 y252.length co43 : Value).ownBlock)) (by (with_reducible repeat (first | apply Kd.R_alloc | apply Kd.R_drewN | apply Kd.R_drew)); exact Kd.R_mono HO_4.out (fun _ hk => ⟨hk.2, hk.1⟩)) hg hat)).2.2) KL34.out))
                                          have n6_ := Aside0.mk ((show Kd.C Kd.string w42 A35 y258.length y258 from by rw [Ny258.out, KA35.out]; exact Kd.C_drop (m := (x10_3 : Int).toNat) (c := co32) ((Kd.R_reads' (Kd.R_after (ok := (fun k_ => some k_ ≠ (.slice Ao43 y252.length co43 : Value).ownBlock)) (by (with_reducible repeat (first | apply Kd.R_alloc | apply Kd.R_drewN | apply Kd.R_drew)); exact Kd.R_mono HO_4.out (fun _ hk => ⟨hk.2, hk.1⟩)) hg hat)).2.2) KL35.out ((Kd.R_reads' (Kd.R_after (ok := (fun k_ => some k_ ≠ (.slice Ao43 y252.length co43 : Value).ownBlock)) (by (with_reducible repeat (first | apply Kd.R_alloc | apply Kd.R_drewN | apply Kd.R_drew)); exact Kd.R_mono HO_4.out (fun _ hk => ⟨hk.2, hk.1⟩)) hg hat)).2.1)))
                                          have n7_ := Aside0.mk (ho)
                                          clear HO_4
                                          clear HO_13
                                          clear BK238
                                          clear HO254
                                          clear HB
                                          clear HR248
                                          clear HR261
                                          clear HO251
                                          have HO_4 := n0_
                                          have HO_13 := n1_
                                          have BK238 := n2_
                                          have HO254 := n3_
                                          have HB := n4_
                                          have HR248 := n5_
                                          have HR261 := n6_
                                          have HO257 := n7_
                                          clear n0_ n1_ n2_ n3_ n4_ n5_ n6_ n7_
                                          clear ho hb hg hat
                                          refine hK.out _ _ trivial (fun hHeld => ?_)
                                          clear hK K
                                          refine norm_ (a' := ?_) ?_ ?_
                                          rotate_left
                                          · show Act.put _ (some 61) _ = _
                                            simp only [Act.put, List.setIfInBounds_toArray, List.set_cons_zero, List.set_cons_succ, i64_w, i32_w]
                                            rfl
                                          refine one_ (i := 11) (N := some 65) #[true, true, true, true, true, true, true, true, true, true, true, true, false] rfl rfl (one_of HT_.out (by kernel_rfl)) (by decide) (fun K hK => ?_)
                                          refine Kd.R_append_rows_step Kd.string (w0 := w) w.heap.size (by rfl) (.tmp 61) (.tmp 64) 27 9 (.string ⟨#[]⟩) 16 rfl Tryd.underlying27 info9 rfl (by decide) (by omega) v256 y255 y258 _ _ _ (fun k_ => some k_ ≠ (.slice (some ad241) x4_1.length co32 : Value).ownBlock ∧ some k_ ≠ (.slice Ao43 y252.length co43 : Value).ownBlock) (fun _ => False) rfl rfl ?aO ?aR (fun _ _ h => h) (fun _ h => h.elim) ?aF ?aB ?aS ?aL ?_
                                          (case aR => repeat (first | exact (by repeat (first | (with_reducible exact HR261.out) | (with_reducible refine Kd.C_alloc ?_ _) | (with_reducible refine Kd.C_drewN ?_ _) | (with_reducible refine Kd.C_drew ?_) | exact HR261.out)) | (with_reducible refine Kd.C_alloc ?_ _) | (with_reducible refine Kd.C_drewN ?_ _) | (with_reducible refine Kd.C_drew ?_)))
                                          (case aB => exact (by repeat (first | (with_reducible first | exact HB.out | apply below_alloc | apply pw_below_drewN | apply below_drew1 | refine below_set ?_ GE238.out) | exact HB.out)))
                                          (case aF => exact (fun k_ hk => ⟨Kd.fresh' (Kd.R_lt (by (with_reducible repeat (first | apply Kd.R_alloc | apply Kd.R_drewN | apply Kd.R_drew)); exact HO_4.out)) k_ hk, Kd.fresh' (Kd.R_lt (by (with_reducible repeat (first | apply Kd.R_alloc | apply Kd.R_drewN | apply Kd.R_drew)); exact HO254.out)) k_ hk⟩))
                                          (case aO => exact (by (with_reducible repeat (first | apply Kd.R_alloc | apply Kd.R_drewN | apply Kd.R_drew)); exact HO257.out))
                                          (case aS => exact (below_size (by repeat (first | (with_reducible first | exact HB.out | apply below_alloc | apply pw_below_drewN | apply below_drew1 | refine below_set ?_ GE238.out) | exact HB.out))))
                                          (case aL => have := LMc31.out; first | omega | exact this | exact Nat.le_of_lt this)
                                          intro v263 w44 ho hb hg hat
                                          rw [← Ny262.out] at ho
                                          have n0_ := Aside0.mk (Kd.R_after (ok := (fun k_ => some k_ ≠ (.slice Ao43 y252.length co43 : Value).ownBlock)) (by (with_reducible repeat (first | apply Kd.R_alloc | apply Kd.R_drewN | apply Kd.R_drew)); exact HO_4.out) hg hat)
                                          have n1_ := Aside0.mk (Kd.R_over' (by (with_reducible repeat (first | apply Kd.R_alloc | apply Kd.R_drewN | apply Kd.R_drew)); exact HO_13.out) (Kd.R_typed (by (with_reducible repeat (first | apply Kd.R_alloc | apply Kd.R_drewN | apply Kd.R_drew)); exact HO257.out)) (by decide) hg)
                                          have n2_ := Aside0.mk (blk_grown (g := gb238) (o := .cells #[.string ((rd_T31 t234 x15_1).f0), .string ((rd_T31 t234 x15_1).f1)] 31 (0, 0)) (by (with_reducible repeat (first | refine blk_drewN ?_ _ | refine blk_drew ?_ | refine blk_alloc ?_ _)); exact BK238.out) hg (Kd.R_ne HO257.out BK238.out (by decide)))
                                          have n3_ := Aside0.mk (Kd.R_after (ok := (fun k_ => some k_ ≠ (.slice (some ad241) x4_1.length co32 : Value).ownBlock)) (by (with_reducible repeat (first | apply Kd.R_alloc | apply Kd.R_drewN | apply Kd.R_drew)); exact HO254.out) hg hat)
                                          have n4_ := Aside0.mk (hb)
                                          have n5_ := Aside0.mk ((show Kd.C Kd.string w44 (some ad241) y245.length y245 from by rw [Ny245.out]; exact Kd.C_take (m := (x10_3 : Int).toNat) ((Kd.R_reads' (Kd.R_after (ok := (fun k_ => some k_ ≠ (.slice Ao43 y252.length co43 : Value).ownBlock)) (by (with_reducible repeat (first | apply Kd.R_alloc | apply Kd.R_drewN | apply Kd.R_drew)); exact HO_4.out) hg hat)).2.2) KL34.out))
                                          have n6_ := Aside0.mk ((show Kd.C Kd.string w44 A35 y258.length y258 from by rw [Ny258.out, KA35.out]; exact Kd.C_drop (m := (x10_3 : Int).toNat) (c := co32) ((Kd.R_reads' (Kd.R_after (ok := (fun k_ => some k_ ≠ (.slice Ao43 y252.length co43 : Value).ownBlock)) (by (with_reducible repeat (first | apply Kd.R_alloc | apply Kd.R_drewN | apply Kd.R_drew)); exact HO_4.out) hg hat)).2.2) KL35.out ((Kd.R_reads' (Kd.R_after (ok := (fun k_ => some k_ ≠ (.slice Ao43 y252.length co43 : Value).ownBlock)) (by (with_reducible repeat (first | apply Kd.R_alloc | apply Kd.R_drewN | apply Kd.R_drew)); exact HO_4.out) hg hat)).2.1)))
                                          have n7_ := Aside0.mk (ho)
                                          clear HO_4
                                          clear HO_13
                                          clear BK238
                                          clear HO254
                                          clear HB
                                          clear HR248
                                          clear HR261
                                          clear HO257
                                          have HO_4 := n0_
                                          have HO_13 := n1_
                                          have BK238 := n2_
                                          have HO254 := n3_
                                          have HB := n4_
                                          have HR248 := n5_
                                          have HR261 := n6_
                                          have HO264 := n7_
                                          clear n0_ n1_ n2_ n3_ n4_ n5_ n6_ n7_
                                          clear ho hb hg hat
                                          refine hK.out _ _ trivial (fun hHeld => ?_)
                                          clear hK K
                                          refine norm_ (a' := ?_) ?_ ?_
                                          rotate_left
                                          · show Act.put _ (some 65) _ = _
                                            simp only [Act.put, List.setIfInBounds_toArray, List.set_cons_zero, List.set_cons_succ, i64_w, i32_w]
                                            rfl
                                          refine pure_ (i := 12) (N := some 4) (v := ?_) (a' := ?_) #[true, true, true, true, true, true, true, true, true, true, true, true, true] rfl rfl (any_of HT_.out (by kernel_rfl)) (fun _ _ _ h => h) (Or.inl ⟨by rfl, ?_⟩) ?_ ?_
                                          rotate_left
                                          · intro w'
                                            go_simp
                                            with_reducible rfl
                                          rotate_left
                                          · simp only [Act.put, List.setIfInBounds_toArray, List.set_cons_zero, List.set_cons_succ, i64_w, i32_w]
                                            rfl
                                          refine done_ (done_of HT_.out (by kernel_rfl)) ?_
                                          try go_wp2
                                          go_roundg k3
                                          case measure => have := HK1.out; have := HJ8.out; have := HK3.out; omega
                                          case rel => exact ⟨(y262), (wrap64 (x15_1 + 1)), (by first | rfl | (simp; done) | (simp [*]; done)), H', ⟨by have := HK1.out; have := HJ8.out; have := HK3.out; omega⟩, ⟨by (with_reducible repeat (first | apply Kd.R_alloc | apply Kd.R_drewN | apply Kd.R_drew)); exact Kd.R_mono HO264.out (fun _ hk => trivial)⟩, ⟨by (with_reducible repeat (first | apply Kd.R_alloc | apply Kd.R_drewN | apply Kd.R_drew)); exact Kd.R_mono HO_13.out (fun _ hk => trivial)⟩, ⟨by repeat (first | (with_reducible first | exact HB.out | apply below_alloc | apply pw_below_drewN | apply below_drew1 | refine below_set ?_ GE238.out) | exact HB.out)⟩⟩
                                        · rw [if_neg c31] at H
                                          exact absurd H (by simp)
                                      · rw [if_neg c28] at H
                                        exact absurd H (by simp)
                                    · rw [if_neg c27] at H
                                      exact absurd H (by simp)
                                  · rw [if_neg c26] at H
                                    exact absurd H (by simp)
                              · rw [if_neg c22] at H
                                exact absurd H (by simp)
                            · rw [if_neg c21] at H
                              have c21b0 : decide (x10_3 < (x4_1.length : Int)) = false := decide_eq_false c21
                              clear c21
                              obtain ⟨y265, hy265⟩ : ∃ y_ : List ByteArray, y_ = (([] : List ByteArray)) := ⟨_, rfl⟩
                              replace H : (if 0 ≤ x10_3 then (if x10_3 ≤ (x4_1.length : Int) then ((some (x4_1.take (x10_3 : Int).toNat : List ByteArray)).bind fun y268 => (if y265.length + y268.length < 8796093022208 then ((some (y265 ++ y268 : List ByteArray)).bind fun y272 => ((some (([((((rd_T31 t234 x15_1).f0) ++ (⟨#[61]⟩ : ByteArray)) ++ t239)] : List ByteArray) : List ByteArray)).bind fun y275 => (if y272.length + y275.length < 8796093022208 then ((some (y272 ++ y275 : List ByteArray)).bind fun y278 => ((some (x4_1.drop (x10_3 : Int).toNat : List ByteArray)).bind fun y281 => (if y278.length + y281.length < 8796093022208 then (spec_MetricText.l0 k3 l0 (y278 ++ y281) t234 (t234.length : Int) (wrap64 (x15_1 + 1))) else (none)))) else (none)))) else (none))) else (none)) else (none)) = some (r1, r2) := by first | (rw [hy265]; with_reducible exact H) | (have H2_ := (Option.bind_some _ _).symm.trans H; rw [hy265]; with_reducible exact H2_) | (have H2_ := (Option.bind_some _ _).symm.trans H; with_reducible exact H2_) | with_reducible exact H | (rw [hy265]; exact H) | exact H
                              have Ny265 := Aside0.mk hy265
                              clear hy265
                              by_cases c45 : 0 ≤ x10_3
                              · rw [if_pos c45] at H
                                have c45b0 := eq_true c45
                                have c45b1 : decide (0 ≤ x10_3) = true := decide_eq_true c45
                                clear c45
                                by_cases c46 : x10_3 ≤ (x4_1.length : Int)
                                · rw [if_pos c46] at H
                                  have c46b0 := eq_true c46
                                  have c46b1 : decide (x10_3 ≤ (x4_1.length : Int)) = true := decide_eq_true c46
                                  clear c46
                                  obtain ⟨y268, hy268⟩ : ∃ y_ : List ByteArray, y_ = (x4_1.take (x10_3 : Int).toNat) := ⟨_, rfl⟩
                                  replace H : (if y265.length + y268.length < 8796093022208 then ((some (y265 ++ y268 : List ByteArray)).bind fun y272 => ((some (([((((rd_T31 t234 x15_1).f0) ++ (⟨#[61]⟩ : ByteArray)) ++ t239)] : List ByteArray) : List ByteArray)).bind fun y275 => (if y272.length + y275.length < 8796093022208 then ((some (y272 ++ y275 : List ByteArray)).bind fun y278 => ((some (x4_1.drop (x10_3 : Int).toNat : List ByteArray)).bind fun y281 => (if y278.length + y281.length < 8796093022208 then (spec_MetricText.l0 k3 l0 (y278 ++ y281) t234 (t234.length : Int) (wrap64 (x15_1 + 1))) else (none)))) else (none)))) else (none)) = some (r1, r2) := by first | (rw [hy268]; with_reducible exact H) | (have H2_ := (Option.bind_some _ _).symm.trans H; rw [hy268]; with_reducible exact H2_) | (have H2_ := (Option.bind_some _ _).symm.trans H; with_reducible exact H2_) | with_reducible exact H | (rw [hy268]; exact H) | exact H
                                  have Ny268 := Aside0.mk hy268
                                  clear hy268
                                  by_cases c47 : y265.length + y268.length < 8796093022208
                                  · rw [if_pos c47] at H
                                    have LMc47 := Aside0.mk c47
                                    clear c47
                                    obtain ⟨y272, hy272⟩ : ∃ y_ : List ByteArray, y_ = (y265 ++ y268) := ⟨_, rfl⟩
                                    replace H : ((some (([((((rd_T31 t234 x15_1).f0) ++ (⟨#[61]⟩ : ByteArray)) ++ t239)] : List ByteArray) : List ByteArray)).bind fun y275 => (if y272.length + y275.length < 8796093022208 then ((some (y272 ++ y275 : List ByteArray)).bind fun y278 => ((some (x4_1.drop (x10_3 : Int).toNat : List ByteArray)).bind fun y281 => (if y278.length + y281.length < 8796093022208 then (spec_MetricText.l0 k3 l0 (y278 ++ y281) t234 (t234.length : Int) (wrap64 (x15_1 + 1))) else (none)))) else (none))) = some (r1, r2) := by first | (rw [hy272]; with_reducible exact H) | (have H2_ := (Option.bind_some _ _).symm.trans H; rw [hy272]; with_reducible exact H2_) | (have H2_ := (Option.bind_some _ _).symm.trans H; with_reducible exact H2_) | with_reducible exact H | (rw [hy272]; exact H) | exact H
                                    have Ny272 := Aside0.mk hy272
                                    clear hy272
                                    obtain ⟨y275, hy275⟩ : ∃ y_ : List ByteArray, y_ = (([((((rd_T31 t234 x15_1).f0) ++ (⟨#[61]⟩ : ByteArray)) ++ t239)] : List ByteArray)) := ⟨_, rfl⟩
                                    replace H : (if y272.length + y275.length < 8796093022208 then ((some (y272 ++ y275 : List ByteArray)).bind fun y278 => ((some (x4_1.drop (x10_3 : Int).toNat : List ByteArray)).bind fun y281 => (if y278.length + y281.length < 8796093022208 then (spec_MetricText.l0 k3 l0 (y278 ++ y281) t234 (t234.length : Int) (wrap64 (x15_1 + 1))) else (none)))) else (none)) = some (r1, r2) := by first | (rw [hy275]; with_reducible exact H) | (have H2_ := (Option.bind_some _ _).symm.trans H; rw [hy275]; with_reducible exact H2_) | (have H2_ := (Option.bind_some _ _).symm.trans H; with_reducible exact H2_) | with_reducible exact H | (rw [hy275]; exact H) | exact H
                                    have Ny275 := Aside0.mk hy275
                                    clear hy275
                                    by_cases c48 : y272.length + y275.length < 8796093022208
                                    · rw [if_pos c48] at H
                                      have LMc48 := Aside0.mk c48
                                      clear c48
                                      obtain ⟨y278, hy278⟩ : ∃ y_ : List ByteArray, y_ = (y272 ++ y275) := ⟨_, rfl⟩
                                      replace H : ((some (x4_1.drop (x10_3 : Int).toNat : List ByteArray)).bind fun y281 => (if y278.length + y281.length < 8796093022208 then (spec_MetricText.l0 k3 l0 (y278 ++ y281) t234 (t234.length : Int) (wrap64 (x15_1 + 1))) else (none))) = some (r1, r2) := by first | (rw [hy278]; with_reducible exact H) | (have H2_ := (Option.bind_some _ _).symm.trans H; rw [hy278]; with_reducible exact H2_) | (have H2_ := (Option.bind_some _ _).symm.trans H; with_reducible exact H2_) | with_reducible exact H | (rw [hy278]; exact H) | exact H
                                      have Ny278 := Aside0.mk hy278
                                      clear hy278
                                      have c49b0 := eq_true (of_decide_eq_true (by first | (with_reducible assumption) | assumption) : 0 ≤ x10_3)
                                      have c50b0 := eq_true (of_decide_eq_true (by first | (with_reducible assumption) | assumption) : x10_3 ≤ (x4_1.length : Int))
                                      obtain ⟨y281, hy281⟩ : ∃ y_ : List ByteArray, y_ = (x4_1.drop (x10_3 : Int).toNat) := ⟨_, rfl⟩
                                      replace H : (if y278.length + y281.length < 8796093022208 then (spec_MetricText.l0 k3 l0 (y278 ++ y281) t234 (t234.length : Int) (wrap64 (x15_1 + 1))) else (none)) = some (r1, r2) := by first | (rw [hy281]; with_reducible exact H) | (have H2_ := (Option.bind_some _ _).symm.trans H; rw [hy281]; with_reducible exact H2_) | (have H2_ := (Option.bind_some _ _).symm.trans H; with_reducible exact H2_) | with_reducible exact H | (rw [hy281]; exact H) | exact H
                                      have Ny281 := Aside0.mk hy281
                                      clear hy281
                                      by_cases c51 : y278.length + y281.length < 8796093022208
                                      · rw [if_pos c51] at H
                                        have LMc51 := Aside0.mk c51
                                        clear c51
                                        obtain ⟨y285, hy285⟩ : ∃ y_ : List ByteArray, y_ = (y278 ++ y281) := ⟨_, rfl⟩
                                        replace H : (spec_MetricText.l0 k3 l0 y285 t234 (t234.length : Int) (wrap64 (x15_1 + 1))) = some (r1, r2) := by first | (rw [hy285]; with_reducible exact H) | (have H2_ := (Option.bind_some _ _).symm.trans H; rw [hy285]; with_reducible exact H2_) | (have H2_ := (Option.bind_some _ _).symm.trans H; with_reducible exact H2_) | with_reducible exact H | (rw [hy285]; exact H) | exact H
                                        have Ny285 := Aside0.mk hy285
                                        clear hy285
                                        have H' := Aside0.mk H
                                        clear H
                                        obtain ⟨Ao52, co52, eo52⟩ := Kd.R_slice HO_4.out
                                        subst eo52
                                        try go_wp2
                                        have n0_ := Aside0.mk (Kd.R_drew HO_4.out)
                                        have n1_ := Aside0.mk (Kd.R_drew HO_13.out)
                                        have n2_ := Aside0.mk (blk_drew BK238.out)
                                        have n3_ := Aside0.mk (below_drew1 HB.out)
                                        clear HO_4
                                        clear HO_13
                                        clear BK238
                                        clear HB
                                        have HO_4 := n0_
                                        have HO_13 := n1_
                                        have BK238 := n2_
                                        have HB := n3_
                                        clear n0_ n1_ n2_ n3_
                                        have q54 : (x10_3 : Int) ≤ ((x4_1.length : Int) : Int) := of_decide_eq_true (by first | (with_reducible assumption) | assumption)
                                        obtain ⟨i054, hi054, _, hsz54, _⟩ := info_parts info9
                                        have hroom54 : x4_1.length ≤ co52 := (Kd.R_reads' HO_4.out).2.1
                                        have hC54 : Kd.C Kd.string _ Ao52 x4_1.length x4_1 := (Kd.R_reads' HO_4.out).2.2
                                        have hcut54 := cut_to (P := Tryd.prog) 27 9 .i64 Tryd.underlying27 hi054 Ao52 x4_1.length co52 x10_3 (of_decide_eq_true (by first | (with_reducible assumption) | assumption)) q54 hroom54
                                        have hr54 := Kd.C_take (m := (x10_3 : Int).toNat) hC54 (by omega)
                                        have hy54 : y268.length = (x10_3 : Int).toNat := (by rw [Ny268.out, List.length_take]; omega)
                                        rw [← Ny268.out] at hr54
                                        rw [← hy54] at hcut54
                                        have HR271 := Aside0.mk hr54
                                        have HC271 := Aside0.mk (show y268.length ≤ co52 from by omega)
                                        clear hr54 hC54 hroom54 hi054 hsz54
                                        have KY54 := Aside0.mk hy54
                                        clear hy54
                                        have KL54 := Aside0.mk (show (x10_3 : Int).toNat ≤ x4_1.length from by omega)
                                        replace q54 := eq_true q54
                                        have q55 : (x10_3 : Int) ≤ ((x4_1.length : Int) : Int) := of_decide_eq_true (by first | (with_reducible assumption) | assumption)
                                        obtain ⟨i055, hi055, _, hsz55, _⟩ := info_parts info9
                                        have hroom55 : x4_1.length ≤ co52 := (Kd.R_reads' HO_4.out).2.1
                                        have hC55 : Kd.C Kd.string _ Ao52 x4_1.length x4_1 := (Kd.R_reads' HO_4.out).2.2
                                        have q055 : (0 : Int) ≤ (x10_3 : Int) := of_decide_eq_true (by first | (with_reducible assumption) | assumption)
                                        have hcut55 := cut_from (P := Tryd.prog) 27 9 .i64 Tryd.underlying27 hi055 1 hsz55 Ao52 x4_1.length co52 x10_3 q055 q55
                                        have hr55 := Kd.C_drop (m := (x10_3 : Int).toNat) (c := co52) hC55 (by omega) hroom55
                                        obtain ⟨A55, hA55⟩ : ∃ A1, A1 = (if co52 = (x10_3 : Int).toNat then Ao52 else (Ao52 : Option Addr).map (·.add ((x10_3 : Int).toNat * 1))) := ⟨_, rfl⟩
                                        obtain ⟨c55, hc55⟩ : ∃ c1, c1 = co52 - (x10_3 : Int).toNat := ⟨_, rfl⟩
                                        have hy55 : y281.length = x4_1.length - (x10_3 : Int).toNat := (by rw [Ny281.out, List.length_drop] <;> omega)
                                        rw [show (x4_1).drop (x10_3 : Int).toNat = y281 from Ny281.out.symm] at hr55
                                        replace hr55 : Kd.C Kd.string _ A55 y281.length y281 := (by rw [hA55]; exact hr55)
                                        rw [← hy55, ← hA55, ← hc55] at hcut55
                                        have HR284 := Aside0.mk hr55
                                        have HC284 := Aside0.mk (show y281.length ≤ c55 from by rw [hy55, hc55]; exact Nat.sub_le_sub_right hroom55 _)
                                        clear hr55 hC55 hroom55 hi055 hsz55 hc55
                                        have KY55 := Aside0.mk hy55
                                        have KA55 := Aside0.mk hA55
                                        clear hy55 hA55
                                        have KL55 := Aside0.mk (show (x10_3 : Int).toNat ≤ x4_1.length from by omega)
                                        replace q55 := eq_true q55
                                        refine start_ (n := 13) (S := fun w' => True) (ds := []) #[false, false, false, false, false, false, false, false, false, false, false, false, false] (by kernel_rfl) rfl rfl trivial (fun hHeld => ?_); refine with_tabW spec_MetricText.tab12 spec_MetricText.bits12 (fun HT_ HW_ => ?_)
                                        generalize wr.drew = w53 at HO_4 HO_13 BK238 HB HR271 HR284 hHeld ⊢
                                        refine pure_ (i := 1) (N := some 55) (v := ?_) (a' := ?_) #[false, true, false, false, false, false, false, false, false, false, false, false, false] rfl rfl (any_of HT_.out (by kernel_rfl)) (fun _ _ _ h => h) (Or.inl ⟨by rfl, ?_⟩) ?_ ?_
                                        rotate_left
                                        · intro w'
                                          go_simp
                                          with_reducible rfl
                                        rotate_left
                                        · simp only [Act.put, List.setIfInBounds_toArray, List.set_cons_zero, List.set_cons_succ, i64_w, i32_w]
                                          rfl
                                        refine pure_ (i := 2) (N := some 56) (v := ?_) (a' := ?_) #[false, true, true, false, false, false, false, false, false, false, false, false, false] rfl rfl (any_of HT_.out (by kernel_rfl)) (fun _ _ _ h => h) (Or.inl ⟨by rfl, ?_⟩) ?_ ?_
                                        rotate_left
                                        · intro w'
                                          go_simp
                                          with_reducible rfl
                                        rotate_left
                                        · simp only [Act.put, List.setIfInBounds_toArray, List.set_cons_zero, List.set_cons_succ, i64_w, i32_w]
                                          rfl
                                        refine pure_ (i := 3) (N := some 57) (v := ?_) (a' := ?_) #[false, true, true, true, false, false, false, false, false, false, false, false, false] rfl rfl (any_of HT_.out (by kernel_rfl)) (fun _ _ _ h => h) (Or.inl ⟨by rfl, ?_⟩) ?_ ?_
                                        rotate_left
                                        · intro w'
                                          go_simp
                                          with_reducible rfl
                                        rotate_left
                                        · simp only [Act.put, List.setIfInBounds_toArray, List.set_cons_zero, List.set_cons_succ, i64_w, i32_w]
                                          rfl
                                        refine pure_ (i := 5) (N := some 59) (v := ?_) (a' := ?_) #[false, true, true, true, false, true, false, false, false, false, false, false, false] rfl rfl (any_of HT_.out (by kernel_rfl)) (fun _ _ _ h => h) (Or.inl ⟨by rfl, ?_⟩) ?_ ?_
                                        rotate_left
                                        · intro w'
                                          go_simp
                                          with_reducible rfl
                                        rotate_left
                                        · simp only [Act.put, List.setIfInBounds_toArray, List.set_cons_zero, List.set_cons_succ, i64_w, i32_w]
                                          rfl
                                        refine pure_ (i := 8) (N := some 62) (v := ?_) (a' := ?_) #[false, true, true, true, false, true, false, false, true, false, false, false, false] rfl rfl (any_of HT_.out (by kernel_rfl)) (fun _ _ _ h => h) (Or.inl ⟨by rfl, ?_⟩) ?_ ?_
                                        rotate_left
                                        · intro w'
                                          go_simp
                                          with_reducible rfl
                                        rotate_left
                                        · simp only [Act.put, List.setIfInBounds_toArray, List.set_cons_zero, List.set_cons_succ, i64_w, i32_w]
                                          rfl
                                        refine pure_ (i := 9) (N := some 63) (v := ?_) (a' := ?_) #[false, true, true, true, false, true, false, false, true, true, false, false, false] rfl rfl (any_of HT_.out (by kernel_rfl)) (fun _ _ _ h => h) (Or.inl ⟨by rfl, ?_⟩) ?_ ?_
                                        rotate_left
                                        · intro w'
                                          go_simp
                                          with_reducible rfl
                                        rotate_left
                                        · simp only [Act.put, List.setIfInBounds_toArray, List.set_cons_zero, List.set_cons_succ, i64_w, i32_w]
                                          rfl
                                        refine pure_ (i := 10) (N := some 64) (v := ?_) (a' := ?_) #[false, true, true, true, false, true, false, false, true, true, true, false, false] rfl rfl (any_of HT_.out (by kernel_rfl)) (fun _ _ _ h => h) (Or.inl ⟨by rfl, ?_⟩) ?_ ?_
                                        rotate_left
                                        · intro w'
                                          go_simp
                                          with_reducible rfl
                                        rotate_left
                                        · simp only [Act.put, List.setIfInBounds_toArray, List.set_cons_zero, List.set_cons_succ, i64_w, i32_w]
                                          rfl
                                        refine join_ (σ := Value × Value × Value) 3 #[true, true, true, true, true, true, true, false, true, true, true, false, false] (fun s_ => [(54, s_.1), (58, s_.2.1), (60, s_.2.2)]) (fun s_ w' => (Kd.R Kd.string 9 w' w.heap.size (fun k_ => some k_ ≠ (s_.2.2 : Value).ownBlock ∧ some k_ ≠ (.slice Ao52 x4_1.length co52 : Value).ownBlock) s_.2.1 y272) ∧ (Kd.R Kd.string 9 w' w.heap.size (fun k_ => some k_ ≠ (s_.2.1 : Value).ownBlock ∧ some k_ ≠ (.slice Ao52 x4_1.length co52 : Value).ownBlock) s_.2.2 y275) ∧ (Kd.R k31 31 w' w.heap.size (fun k_ => k_ ≠ gb238) (.slice (some ad237) t234.length co4) t234) ∧ (Kd.R Kd.string 9 w' w.heap.size (fun k_ => some k_ ≠ (s_.2.1 : Value).ownBlock ∧ some k_ ≠ (s_.2.2 : Value).ownBlock) (.slice Ao52 x4_1.length co52) x4_1) ∧ (w'.heap[gb238]? = some (.cells #[.string ((rd_T31 t234 x15_1).f0), .string ((rd_T31 t234 x15_1).f1)] 31 (0, 0))) ∧ (Below w.heap.size w w')) ?_ ?_
                                        rotate_left
                                        · intro hCont
                                          refine two_ (i := 0) (j := 6) (Ni := some 54) (Nj := some 60) #[true, true, true, true, false, true, false, false, true, true, true, false, false] #[false, true, true, true, false, true, true, false, true, true, true, false, false] rfl rfl rfl rfl (two_of HT_.out (by kernel_rfl)) (by decide) (by decide) (fun K hK => ?_) (fun K hK => ?_)
                                          · skip
                                            refine Kd.R_lit_step Kd.string _ 9 ?hg (N := 54) ?hd (xs := ([] : List ByteArray)) (inner := []) (ok := fun _ => True) (okp := fun _ => True) ?hr ?hp (fun _ hk => hk) trivial (Below.refl _ _) (Nat.le_refl _) (by simp) ?_; (case hd => rfl); (case hg => rfl); (case hr => first | (go_simp; done) | (go_simp; rfl)); (case hp => exact (Reps.none _ _))
                                            intro v266 w56 ho57 hb hg_ hnew_
                                            clear hg_ hnew_
                                            (first | rw [← Ny265.out] at ho57 | (simp only [Int.reduceToNat] at ho57; rw [← Ny265.out] at ho57))
                                            have n0_ := Aside0.mk (Kd.R_elder' (by (with_reducible repeat (first | apply Kd.R_alloc | apply Kd.R_drewN | apply Kd.R_drew)); exact HO_4.out) (Kd.R_base ho57) hb)
                                            have n1_ := Aside0.mk (Kd.R_below (by (with_reducible repeat (first | apply Kd.R_alloc | apply Kd.R_drewN | apply Kd.R_drew)); exact HO_13.out) hb)
                                            have n2_ := Aside0.mk (Kd.R_lower (Kd.R_new' ho57 (Kd.R_lt (by (with_reducible repeat (first | apply Kd.R_alloc | apply Kd.R_drewN | apply Kd.R_drew)); exact HO_4.out))) (below_size (by repeat (first | (with_reducible first | exact HB.out | apply below_alloc | apply pw_below_drewN | apply below_drew1 | refine below_set ?_ GE238.out) | exact HB.out))))
                                            have n3_ := Aside0.mk (blk_below (g := gb238) (o := .cells #[.string ((rd_T31 t234 x15_1).f0), .string ((rd_T31 t234 x15_1).f1)] 31 (0, 0)) (by (with_reducible repeat (first | refine blk_drewN ?_ _ | refine blk_drew ?_ | refine blk_alloc ?_ _)); exact BK238.out) hb)
                                            have n4_ := Aside0.mk (Kd.C_below (by repeat (first | (with_reducible exact HR271.out) | (with_reducible refine Kd.C_alloc ?_ _) | (with_reducible refine Kd.C_drewN ?_ _) | (with_reducible refine Kd.C_drew ?_) | exact HR271.out)) hb)
                                            have n5_ := Aside0.mk (Kd.C_below (by repeat (first | (with_reducible exact HR284.out) | (with_reducible refine Kd.C_alloc ?_ _) | (with_reducible refine Kd.C_drewN ?_ _) | (with_reducible refine Kd.C_drew ?_) | exact HR284.out)) hb)
                                            have n6_ := Aside0.mk (below_step (by repeat (first | (with_reducible first | exact HB.out | apply below_alloc | apply pw_below_drewN | apply below_drew1 | refine below_set ?_ GE238.out) | exact HB.out)) hb)
                                            clear HO_4
                                            clear HO_13
                                            clear BK238
                                            clear HR271
                                            clear HR284
                                            clear HB
                                            have HO_4 := n0_
                                            have HO_13 := n1_
                                            have HO267 := n2_
                                            have BK238 := n3_
                                            have HR271 := n4_
                                            have HR284 := n5_
                                            have HB := n6_
                                            clear n0_ n1_ n2_ n3_ n4_ n5_ n6_
                                            clear hb ho57
                                            refine hK.out _ _ trivial (fun hHeld => ?_)
                                            clear hK K
                                            refine norm_ (a' := ?_) ?_ ?_
                                            rotate_left
                                            · show Act.put _ (some 54) _ = _
                                              simp only [Act.put, List.setIfInBounds_toArray, List.set_cons_zero, List.set_cons_succ, i64_w, i32_w]
                                              rfl
                                            refine two_ (i := 4) (j := 6) (Ni := some 58) (Nj := some 60) #[true, true, true, true, true, true, false, false, true, true, true, false, false] #[true, true, true, true, false, true, true, false, true, true, true, false, false] rfl rfl rfl rfl (two_of HT_.out (by kernel_rfl)) (by decide) (by decide) (fun K hK => ?_) (fun K hK => ?_)
                                            · skip
                                              refine Kd.R_append_rows_step Kd.string (w0 := w) w.heap.size (by rfl) (.tmp 54) (.tmp 57) 27 9 (.string ⟨#[]⟩) 16 rfl Tryd.underlying27 info9 rfl (by decide) (by omega) v266 y265 y268 _ _ _ (fun k_ => some k_ ≠ (.slice Ao52 x4_1.length co52 : Value).ownBlock) (fun _ => False) rfl rfl ?aO ?aR (fun _ _ h => h) (fun _ h => h.elim) ?aF ?aB ?aS ?aL ?_
                                              (case aR => repeat (first | exact (by repeat (first | (with_reducible exact HR271.out) | (with_reducible refine Kd.C_alloc ?_ _) | (with_reducible refine Kd.C_drewN ?_ _) | (with_reducible refine Kd.C_drew ?_) | exact HR271.out)) | (with_reducible refine Kd.C_alloc ?_ _) | (with_reducible refine Kd.C_drewN ?_ _) | (with_reducible refine Kd.C_drew ?_)))
                                              (case aB => exact (by repeat (first | (with_reducible first | exact HB.out | apply below_alloc | apply pw_below_drewN | apply below_drew1 | refine below_set ?_ GE238.out) | exact HB.out)))
                                              (case aF => exact (fun k_ hk => Kd.fresh' (Kd.R_lt (by (with_reducible repeat (first | apply Kd.R_alloc | apply Kd.R_drewN | apply Kd.R_drew)); exact HO_4.out)) k_ hk))
                                              (case aO => exact (by (with_reducible repeat (first | apply Kd.R_alloc | apply Kd.R_drewN | apply Kd.R_drew)); exact Kd.R_mono HO267.out (fun _ hk => hk.2)))
                                              (case aS => exact (below_size (by repeat (first | (with_reducible first | exact HB.out | apply below_alloc | apply pw_below_drewN | apply below_drew1 | refine below_set ?_ GE238.out) | exact HB.out))))
                                              (case aL => have := LMc47.out; first | omega | exact this | exact Nat.le_of_lt this)
                                              intro v273 w58 ho hb hg hat
                                              rw [← Ny272.out] at ho
                                              have n0_ := Aside0.mk (Kd.R_after (ok := (fun _ => True)) (by (with_reducible repeat (first | apply Kd.R_alloc | apply Kd.R_drewN | apply Kd.R_drew)); exact HO_4.out) hg hat)
                                              have n1_ := Aside0.mk (Kd.R_over' (by (with_reducible repeat (first | apply Kd.R_alloc | apply Kd.R_drewN | apply Kd.R_drew)); exact HO_13.out) (Kd.R_typed (by (with_reducible repeat (first | apply Kd.R_alloc | apply Kd.R_drewN | apply Kd.R_drew)); exact HO267.out)) (by decide) hg)
                                              have n2_ := Aside0.mk (blk_grown (g := gb238) (o := .cells #[.string ((rd_T31 t234 x15_1).f0), .string ((rd_T31 t234 x15_1).f1)] 31 (0, 0)) (by (with_reducible repeat (first | refine blk_drewN ?_ _ | refine blk_drew ?_ | refine blk_alloc ?_ _)); exact BK238.out) hg (Kd.R_ne HO267.out BK238.out (by decide)))
                                              have n3_ := Aside0.mk (hb)
                                              have n4_ := Aside0.mk ((show Kd.C Kd.string w58 Ao52 y268.length y268 from by rw [Ny268.out]; exact Kd.C_take (m := (x10_3 : Int).toNat) ((Kd.R_reads' (Kd.R_after (ok := (fun _ => True)) (by (with_reducible repeat (first | apply Kd.R_alloc | apply Kd.R_drewN | apply Kd.R_drew)); exact HO_4.out) hg hat)).2.2) KL54.out))
                                              have n5_ := Aside0.mk ((show Kd.C Kd.string w58 A55 y281.length y281 from by rw [Ny281.out, KA55.out]; exact Kd.C_drop (m := (x10_3 : Int).toNat) (c := co52) ((Kd.R_reads' (Kd.R_after (ok := (fun _ => True)) (by (with_reducible repeat (first | apply Kd.R_alloc | apply Kd.R_drewN | apply Kd.R_drew)); exact HO_4.out) hg hat)).2.2) KL55.out ((Kd.R_reads' (Kd.R_after (ok := (fun _ => True)) (by (with_reducible repeat (first | apply Kd.R_alloc | apply Kd.R_drewN | apply Kd.R_drew)); exact HO_4.out) hg hat)).2.1)))
                                              have n6_ := Aside0.mk (ho)
                                              clear HO_4
                                              clear HO_13
                                              clear BK238
                                              clear HB
                                              clear HR271
                                              clear HR284
                                              clear HO267
                                              have HO_4 := n0_
                                              have HO_13 := n1_
                                              have BK238 := n2_
                                              have HB := n3_
                                              have HR271 := n4_
                                              have HR284 := n5_
                                              have HO274 := n6_
                                              clear n0_ n1_ n2_ n3_ n4_ n5_ n6_
                                              clear ho hb hg hat
                                              refine hK.out _ _ trivial (fun hHeld => ?_)
                                              clear hK K
                                              refine norm_ (a' := ?_) ?_ ?_
                                              rotate_left
                                              · show Act.put _ (some 58) _ = _
                                                simp only [Act.put, List.setIfInBounds_toArray, List.set_cons_zero, List.set_cons_succ, i64_w, i32_w]
                                                rfl
                                              refine one_ (i := 6) (N := some 60) #[true, true, true, true, true, true, true, false, true, true, true, false, false] rfl rfl (one_of HT_.out (by kernel_rfl)) (by decide) (fun K hK => ?_)
                                              refine Kd.R_lit_step Kd.string _ 9 ?hg (N := 60) ?hd (xs := ([((((rd_T31 t234 x15_1).f0) ++ (⟨#[61]⟩ : ByteArray)) ++ t239)] : List ByteArray)) (inner := [.string ((((rd_T31 t234 x15_1).f0) ++ (⟨#[61]⟩ : ByteArray)) ++ t239)]) (ok := fun _ => True) (okp := fun _ => True) ?hr ?hp (fun _ hk => hk) trivial (Below.refl _ _) (Nat.le_refl _) (by simp) ?_; (case hd => rfl); (case hg => rfl); (case hr => first | (go_simp; done) | (go_simp; rfl)); (case hp => exact (Reps.one (show Kd.M Kd.string _ _ _ ((((rd_T31 t234 x15_1).f0) ++ (⟨#[61]⟩ : ByteArray)) ++ t239) [.string ((((rd_T31 t234 x15_1).f0) ++ (⟨#[61]⟩ : ByteArray)) ++ t239)] from rfl) (Reps.none _ _)))
                                              intro v276 w59 ho60 hb hg_ hnew_
                                              clear hg_ hnew_
                                              (first | rw [← Ny275.out] at ho60 | (simp only [Int.reduceToNat] at ho60; rw [← Ny275.out] at ho60))
                                              have n0_ := Aside0.mk (Kd.R_elder' (by (with_reducible repeat (first | apply Kd.R_alloc | apply Kd.R_drewN | apply Kd.R_drew)); exact HO_4.out) (Kd.R_base ho60) hb)
                                              have n1_ := Aside0.mk (Kd.R_below (by (with_reducible repeat (first | apply Kd.R_alloc | apply Kd.R_drewN | apply Kd.R_drew)); exact HO_13.out) hb)
                                              have n2_ := Aside0.mk (Kd.R_elder' (by (with_reducible repeat (first | apply Kd.R_alloc | apply Kd.R_drewN | apply Kd.R_drew)); exact HO274.out) (Kd.R_base ho60) hb)
                                              have n3_ := Aside0.mk (Kd.R_lower (Kd.R_new' (Kd.R_new' ho60 (Kd.R_lt (by (with_reducible repeat (first | apply Kd.R_alloc | apply Kd.R_drewN | apply Kd.R_drew)); exact HO_4.out))) (Kd.R_lt (by (with_reducible repeat (first | apply Kd.R_alloc | apply Kd.R_drewN | apply Kd.R_drew)); exact HO274.out))) (below_size (by repeat (first | (with_reducible first | exact HB.out | apply below_alloc | apply pw_below_drewN | apply below_drew1 | refine below_set ?_ GE238.out) | exact HB.out))))
                                              have n4_ := Aside0.mk (blk_below (g := gb238) (o := .cells #[.string ((rd_T31 t234 x15_1).f0), .string ((rd_T31 t234 x15_1).f1)] 31 (0, 0)) (by (with_reducible repeat (first | refine blk_drewN ?_ _ | refine blk_drew ?_ | refine blk_alloc ?_ _)); exact BK238.out) hb)
                                              have n5_ := Aside0.mk (Kd.C_below (by repeat (first | (with_reducible exact HR271.out) | (with_reducible refine Kd.C_alloc ?_ _) | (with_reducible refine Kd.C_drewN ?_ _) | (with_reducible refine Kd.C_drew ?_) | exact HR271.out)) hb)
                                              have n6_ := Aside0.mk (Kd.C_below (by repeat (first | (with_reducible exact HR284.out) | (with_reducible refine Kd.C_alloc ?_ _) | (with_reducible refine Kd.C_drewN ?_ _) | (with_reducible refine Kd.C_drew ?_) | exact HR284.out)) hb)
                                              have n7_ := Aside0.mk (below_step (by repeat (first | (with_reducible first | exact HB.out | apply below_alloc | apply pw_below_drewN | apply below_drew1 | refine below_set ?_ GE238.out) | exact HB.out)) hb)
                                              clear HO_4
                                              clear HO_13
                                              clear HO274
                                              clear BK238
                                              clear HR271
                                              clear HR284
                                              clear HB
                                              have HO_4 := n0_
                                              have HO_13 := n1_
                                              have HO274 := n2_
                                              have HO277 := n3_
                                              have BK238 := n4_
                                              have HR271 := n5_
                                              have HR284 := n6_
                                              have HB := n7_
                                              clear n0_ n1_ n2_ n3_ n4_ n5_ n6_ n7_
                                              clear hb ho60
                                              refine hK.out _ _ trivial (fun hHeld => ?_)
                                              clear hK K
                                              refine norm_ (a' := ?_) ?_ ?_
                                              rotate_left
                                              · show Act.put _ (some 60) _ = _
                                                simp only [Act.put, List.setIfInBounds_toArray, List.set_cons_zero, List.set_cons_succ, i64_w, i32_w]
                                                rfl
                                              exact norm_ (by simp only [putAll, Act.put, List.setIfInBounds_toArray, List.set_cons_zero, List.set_cons_succ]) (hCont (v266, v273, v276) _ ⟨(by (with_reducible repeat (first | apply Kd.R_alloc | apply Kd.R_drewN | apply Kd.R_drew)); exact Kd.R_mono HO274.out (fun _ hk => ⟨hk.2, hk.1⟩)), (by (with_reducible repeat (first | apply Kd.R_alloc | apply Kd.R_drewN | apply Kd.R_drew)); exact Kd.R_mono HO277.out (fun _ hk => ⟨hk.2, hk.1.2⟩)), (by (with_reducible repeat (first | apply Kd.R_alloc | apply Kd.R_drewN | apply Kd.R_drew)); exact HO_13.out), (by (with_reducible repeat (first | apply Kd.R_alloc | apply Kd.R_drewN | apply Kd.R_drew)); exact Kd.R_mono HO_4.out (fun _ hk => ⟨hk.1.2, hk.2⟩)), (by (with_reducible repeat (first | refine blk_drewN ?_ _ | refine blk_drew ?_ | refine blk_alloc ?_ _)); exact BK238.out), (by repeat (first | (with_reducible first | exact HB.out | apply below_alloc | apply pw_below_drewN | apply below_drew1 | refine below_set ?_ GE238.out) | exact HB.out))⟩)
                                            · skip
                                              refine Kd.R_lit_step Kd.string _ 9 ?hg (N := 60) ?hd (xs := ([((((rd_T31 t234 x15_1).f0) ++ (⟨#[61]⟩ : ByteArray)) ++ t239)] : List ByteArray)) (inner := [.string ((((rd_T31 t234 x15_1).f0) ++ (⟨#[61]⟩ : ByteArray)) ++ t239)]) (ok := fun _ => True) (okp := fun _ => True) ?hr ?hp (fun _ hk => hk) trivial (Below.refl _ _) (Nat.le_refl _) (by simp) ?_; (case hd => rfl); (case hg => rfl); (case hr => first | (go_simp; done) | (go_simp; rfl)); (case hp => exact (Reps.one (show Kd.M Kd.string _ _ _ ((((rd_T31 t234 x15_1).f0) ++ (⟨#[61]⟩ : ByteArray)) ++ t239) [.string ((((rd_T31 t234 x15_1).f0) ++ (⟨#[61]⟩ : ByteArray)) ++ t239)] from rfl) (Reps.none _ _)))
                                              intro v276 w58 ho59 hb hg_ hnew_
                                              clear hg_ hnew_
                                              (first | rw [← Ny275.out] at ho59 | (simp only [Int.reduceToNat] at ho59; rw [← Ny275.out] at ho59))
                                              have n0_ := Aside0.mk (Kd.R_elder' (by (with_reducible repeat (first | apply Kd.R_alloc | apply Kd.R_drewN | apply Kd.R_drew)); exact HO_4.out) (Kd.R_base ho59) hb)
                                              have n1_ := Aside0.mk (Kd.R_below (by (with_reducible repeat (first | apply Kd.R_alloc | apply Kd.R_drewN | apply Kd.R_drew)); exact HO_13.out) hb)
                                              have n2_ := Aside0.mk (Kd.R_elder' (by (with_reducible repeat (first | apply Kd.R_alloc | apply Kd.R_drewN | apply Kd.R_drew)); exact HO267.out) (Kd.R_base ho59) hb)
                                              have n3_ := Aside0.mk (Kd.R_lower (Kd.R_new' (Kd.R_new' ho59 (Kd.R_lt (by (with_reducible repeat (first | apply Kd.R_alloc | apply Kd.R_drewN | apply Kd.R_drew)); exact HO_4.out))) (Kd.R_lt (by (with_reducible repeat (first | apply Kd.R_alloc | apply Kd.R_drewN | apply Kd.R_drew)); exact HO267.out))) (below_size (by repeat (first | (with_reducible first | exact HB.out | apply below_alloc | apply pw_below_drewN | apply below_drew1 | refine below_set ?_ GE238.out) | exact HB.out))))
                                              have n4_ := Aside0.mk (blk_below (g := gb238) (o := .cells #[.string ((rd_T31 t234 x15_1).f0), .string ((rd_T31 t234 x15_1).f1)] 31 (0, 0)) (by (with_reducible repeat (first | refine blk_drewN ?_ _ | refine blk_drew ?_ | refine blk_alloc ?_ _)); exact BK238.out) hb)
                                              have n5_ := Aside0.mk (Kd.C_below (by repeat (first | (with_reducible exact HR271.out) | (with_reducible refine Kd.C_alloc ?_ _) | (with_reducible refine Kd.C_drewN ?_ _) | (with_reducible refine Kd.C_drew ?_) | exact HR271.out)) hb)
                                              have n6_ := Aside0.mk (Kd.C_below (by repeat (first | (with_reducible exact HR284.out) | (with_reducible refine Kd.C_alloc ?_ _) | (with_reducible refine Kd.C_drewN ?_ _) | (with_reducible refine Kd.C_drew ?_) | exact HR284.out)) hb)
                                              have n7_ := Aside0.mk (below_step (by repeat (first | (with_reducible first | exact HB.out | apply below_alloc | apply pw_below_drewN | apply below_drew1 | refine below_set ?_ GE238.out) | exact HB.out)) hb)
                                              clear HO_4
                                              clear HO_13
                                              clear HO267
                                              clear BK238
                                              clear HR271
                                              clear HR284
                                              clear HB
                                              have HO_4 := n0_
                                              have HO_13 := n1_
                                              have HO267 := n2_
                                              have HO277 := n3_
                                              have BK238 := n4_
                                              have HR271 := n5_
                                              have HR284 := n6_
                                              have HB := n7_
                                              clear n0_ n1_ n2_ n3_ n4_ n5_ n6_ n7_
                                              clear hb ho59
                                              refine hK.out _ _ trivial (fun hHeld => ?_)
                                              clear hK K
                                              refine norm_ (a' := ?_) ?_ ?_
                                              rotate_left
                                              · show Act.put _ (some 60) _ = _
                                                simp only [Act.put, List.setIfInBounds_toArray, List.set_cons_zero, List.set_cons_succ, i64_w, i32_w]
                                                rfl
                                              refine one_ (i := 4) (N := some 58) #[true, true, true, true, true, true, true, false, true, true, true, false, false] rfl rfl (one_of HT_.out (by kernel_rfl)) (by decide) (fun K hK => ?_)
                                              refine Kd.R_append_rows_step Kd.string (w0 := w) w.heap.size (by rfl) (.tmp 54) (.tmp 57) 27 9 (.string ⟨#[]⟩) 16 rfl Tryd.underlying27 info9 rfl (by decide) (by omega) v266 y265 y268 _ _ _ (fun k_ => some k_ ≠ (.slice Ao52 x4_1.length co52 : Value).ownBlock ∧ some k_ ≠ (v276 : Value).ownBlock) (fun _ => False) rfl rfl ?aO ?aR (fun _ _ h => h) (fun _ h => h.elim) ?aF ?aB ?aS ?aL ?_
                                              (case aR => repeat (first | exact (by repeat (first | (with_reducible exact HR271.out) | (with_reducible refine Kd.C_alloc ?_ _) | (with_reducible refine Kd.C_drewN ?_ _) | (with_reducible refine Kd.C_drew ?_) | exact HR271.out)) | (with_reducible refine Kd.C_alloc ?_ _) | (with_reducible refine Kd.C_drewN ?_ _) | (with_reducible refine Kd.C_drew ?_)))
                                              (case aB => exact (by repeat (first | (with_reducible first | exact HB.out | apply below_alloc | apply pw_below_drewN | apply below_drew1 | refine below_set ?_ GE238.out) | exact HB.out)))
                                              (case aF => exact (fun k_ hk => ⟨Kd.fresh' (Kd.R_lt (by (with_reducible repeat (first | apply Kd.R_alloc | apply Kd.R_drewN | apply Kd.R_drew)); exact HO_4.out)) k_ hk, Kd.fresh' (Kd.R_lt (by (with_reducible repeat (first | apply Kd.R_alloc | apply Kd.R_drewN | apply Kd.R_drew)); exact HO277.out)) k_ hk⟩))
                                              (case aO => exact (by (with_reducible repeat (first | apply Kd.R_alloc | apply Kd.R_drewN | apply Kd.R_drew)); exact Kd.R_mono HO267.out (fun _ hk => ⟨hk.1.2, hk.2⟩)))
                                              (case aS => exact (below_size (by repeat (first | (with_reducible first | exact HB.out | apply below_alloc | apply pw_below_drewN | apply below_drew1 | refine below_set ?_ GE238.out) | exact HB.out))))
                                              (case aL => have := LMc47.out; first | omega | exact this | exact Nat.le_of_lt this)
                                              intro v273 w60 ho hb hg hat
                                              rw [← Ny272.out] at ho
                                              have n0_ := Aside0.mk (Kd.R_after (ok := (fun k_ => some k_ ≠ (v276 : Value).ownBlock)) (by (with_reducible repeat (first | apply Kd.R_alloc | apply Kd.R_drewN | apply Kd.R_drew)); exact Kd.R_mono HO_4.out (fun _ hk => ⟨hk.2, hk.1.2⟩)) hg hat)
                                              have n1_ := Aside0.mk (Kd.R_over' (by (with_reducible repeat (first | apply Kd.R_alloc | apply Kd.R_drewN | apply Kd.R_drew)); exact HO_13.out) (Kd.R_typed (by (with_reducible repeat (first | apply Kd.R_alloc | apply Kd.R_drewN | apply Kd.R_drew)); exact HO267.out)) (by decide) hg)
                                              have n2_ := Aside0.mk (blk_grown (g := gb238) (o := .cells #[.string ((rd_T31 t234 x15_1).f0), .string ((rd_T31 t234 x15_1).f1)] 31 (0, 0)) (by (with_reducible repeat (first | refine blk_drewN ?_ _ | refine blk_drew ?_ | refine blk_alloc ?_ _)); exact BK238.out) hg (Kd.R_ne HO267.out BK238.out (by decide)))
                                              have n3_ := Aside0.mk (Kd.R_after (ok := (fun k_ => some k_ ≠ (.slice Ao52 x4_1.length co52 : Value).ownBlock)) (by (with_reducible repeat (first | apply Kd.R_alloc | apply Kd.R_drewN | apply Kd.R_drew)); exact Kd.R_mono HO277.out (fun _ hk => ⟨hk.1.2, hk.2⟩)) hg hat)
                                              have n4_ := Aside0.mk (hb)
                                              have n5_ := Aside0.mk ((show Kd.C Kd.string w60 Ao52 y268.length y268 from by rw [Ny268.out]; exact Kd.C_take (m := (x10_3 : Int).toNat) ((Kd.R_reads' (Kd.R_after (ok := (fun k_ => some k_ ≠ (v276 : Value).ownBlock)) (by (with_reducible repeat (first | apply Kd.R_alloc | apply Kd.R_drewN | apply Kd.R_drew)); exact Kd.R_mono HO_4.out (fun _ hk => ⟨hk.2, hk.1.2⟩)) hg hat)).2.2) KL54.out))
                                              have n6_ := Aside0.mk ((show Kd.C Kd.string w60 A55 y281.length y281 from by rw [Ny281.out, KA55.out]; exact Kd.C_drop (m := (x10_3 : Int).toNat) (c := co52) ((Kd.R_reads' (Kd.R_after (ok := (fun k_ => some k_ ≠ (v276 : Value).ownBlock)) (by (with_reducible repeat (first | apply Kd.R_alloc | apply Kd.R_drewN | apply Kd.R_drew)); exact Kd.R_mono HO_4.out (fun _ hk => ⟨hk.2, hk.1.2⟩)) hg hat)).2.2) KL55.out ((Kd.R_reads' (Kd.R_after (ok := (fun k_ => some k_ ≠ (v276 : Value).ownBlock)) (by (with_reducible repeat (first | apply Kd.R_alloc | apply Kd.R_drewN | apply Kd.R_drew)); exact Kd.R_mono HO_4.out (fun _ hk => ⟨hk.2, hk.1.2⟩)) hg hat)).2.1)))
                                              have n7_ := Aside0.mk (ho)
                                              clear HO_4
                                              clear HO_13
                                              clear BK238
                                              clear HO277
                                              clear HB
                                              clear HR271
                                              clear HR284
                                              clear HO267
                                              have HO_4 := n0_
                                              have HO_13 := n1_
                                              have BK238 := n2_
                                              have HO277 := n3_
                                              have HB := n4_
                                              have HR271 := n5_
                                              have HR284 := n6_
                                              have HO274 := n7_
                                              clear n0_ n1_ n2_ n3_ n4_ n5_ n6_ n7_
                                              clear ho hb hg hat
                                              refine hK.out _ _ trivial (fun hHeld => ?_)
                                              clear hK K
                                              refine norm_ (a' := ?_) ?_ ?_
                                              rotate_left
                                              · show Act.put _ (some 58) _ = _
                                                simp only [Act.put, List.setIfInBounds_toArray, List.set_cons_zero, List.set_cons_succ, i64_w, i32_w]
                                                rfl
                                              exact norm_ (by simp only [putAll, Act.put, List.setIfInBounds_toArray, List.set_cons_zero, List.set_cons_succ]) (hCont (v266, v273, v276) _ ⟨(by (with_reducible repeat (first | apply Kd.R_alloc | apply Kd.R_drewN | apply Kd.R_drew)); exact Kd.R_mono HO274.out (fun _ hk => ⟨hk.2, hk.1⟩)), (by (with_reducible repeat (first | apply Kd.R_alloc | apply Kd.R_drewN | apply Kd.R_drew)); exact Kd.R_mono HO277.out (fun _ hk => ⟨hk.2, hk.1⟩)), (by (with_reducible repeat (first | apply Kd.R_alloc | apply Kd.R_drewN | apply Kd.R_drew)); exact HO_13.out), (by (with_reducible repeat (first | apply Kd.R_alloc | apply Kd.R_drewN | apply Kd.R_drew)); exact Kd.R_mono HO_4.out (fun _ hk => ⟨hk.2, hk.1⟩)), (by (with_reducible repeat (first | refine blk_drewN ?_ _ | refine blk_drew ?_ | refine blk_alloc ?_ _)); exact BK238.out), (by repeat (first | (with_reducible first | exact HB.out | apply below_alloc | apply pw_below_drewN | apply below_drew1 | refine below_set ?_ GE238.out) | exact HB.out))⟩)
                                          · skip
                                            refine Kd.R_lit_step Kd.string _ 9 ?hg (N := 60) ?hd (xs := ([((((rd_T31 t234 x15_1).f0) ++ (⟨#[61]⟩ : ByteArray)) ++ t239)] : List ByteArray)) (inner := [.string ((((rd_T31 t234 x15_1).f0) ++ (⟨#[61]⟩ : ByteArray)) ++ t239)]) (ok := fun _ => True) (okp := fun _ => True) ?hr ?hp (fun _ hk => hk) trivial (Below.refl _ _) (Nat.le_refl _) (by simp) ?_; (case hd => rfl); (case hg => rfl); (case hr => first | (go_simp; done) | (go_simp; rfl)); (case hp => exact (Reps.one (show Kd.M Kd.string _ _ _ ((((rd_T31 t234 x15_1).f0) ++ (⟨#[61]⟩ : ByteArray)) ++ t239) [.string ((((rd_T31 t234 x15_1).f0) ++ (⟨#[61]⟩ : ByteArray)) ++ t239)] from rfl) (Reps.none _ _)))
                                            intro v276 w56 ho57 hb hg_ hnew_
                                            clear hg_ hnew_
                                            (first | rw [← Ny275.out] at ho57 | (simp only [Int.reduceToNat] at ho57; rw [← Ny275.out] at ho57))
                                            have n0_ := Aside0.mk (Kd.R_elder' (by (with_reducible repeat (first | apply Kd.R_alloc | apply Kd.R_drewN | apply Kd.R_drew)); exact HO_4.out) (Kd.R_base ho57) hb)
                                            have n1_ := Aside0.mk (Kd.R_below (by (with_reducible repeat (first | apply Kd.R_alloc | apply Kd.R_drewN | apply Kd.R_drew)); exact HO_13.out) hb)
                                            have n2_ := Aside0.mk (Kd.R_lower (Kd.R_new' ho57 (Kd.R_lt (by (with_reducible repeat (first | apply Kd.R_alloc | apply Kd.R_drewN | apply Kd.R_drew)); exact HO_4.out))) (below_size (by repeat (first | (with_reducible first | exact HB.out | apply below_alloc | apply pw_below_drewN | apply below_drew1 | refine below_set ?_ GE238.out) | exact HB.out))))
                                            have n3_ := Aside0.mk (blk_below (g := gb238) (o := .cells #[.string ((rd_T31 t234 x15_1).f0), .string ((rd_T31 t234 x15_1).f1)] 31 (0, 0)) (by (with_reducible repeat (first | refine blk_drewN ?_ _ | refine blk_drew ?_ | refine blk_alloc ?_ _)); exact BK238.out) hb)
                                            have n4_ := Aside0.mk (Kd.C_below (by repeat (first | (with_reducible exact HR271.out) | (with_reducible refine Kd.C_alloc ?_ _) | (with_reducible refine Kd.C_drewN ?_ _) | (with_reducible refine Kd.C_drew ?_) | exact HR271.out)) hb)
                                            have n5_ := Aside0.mk (Kd.C_below (by repeat (first | (with_reducible exact HR284.out) | (with_reducible refine Kd.C_alloc ?_ _) | (with_reducible refine Kd.C_drewN ?_ _) | (with_reducible refine Kd.C_drew ?_) | exact HR284.out)) hb)
                                            have n6_ := Aside0.mk (below_step (by repeat (first | (with_reducible first | exact HB.out | apply below_alloc | apply pw_below_drewN | apply below_drew1 | refine below_set ?_ GE238.out) | exact HB.out)) hb)
                                            clear HO_4
                                            clear HO_13
                                            clear BK238
                                            clear HR271
                                            clear HR284
                                            clear HB
                                            have HO_4 := n0_
                                            have HO_13 := n1_
                                            have HO277 := n2_
                                            have BK238 := n3_
                                            have HR271 := n4_
                                            have HR284 := n5_
                                            have HB := n6_
                                            clear n0_ n1_ n2_ n3_ n4_ n5_ n6_
                                            clear hb ho57
                                            refine hK.out _ _ trivial (fun hHeld => ?_)
                                            clear hK K
                                            refine norm_ (a' := ?_) ?_ ?_
                                            rotate_left
                                            · show Act.put _ (some 60) _ = _
                                              simp only [Act.put, List.setIfInBounds_toArray, List.set_cons_zero, List.set_cons_succ, i64_w, i32_w]
                                              rfl
                                            refine one_ (i := 0) (N := some 54) #[true, true, true, true, false, true, true, false, true, true, true, false, false] rfl rfl (one_of HT_.out (by kernel_rfl)) (by decide) (fun K hK => ?_)
                                            refine Kd.R_lit_step Kd.string _ 9 ?hg (N := 54) ?hd (xs := ([] : List ByteArray)) (inner := []) (ok := fun _ => True) (okp := fun _ => True) ?hr ?hp (fun _ hk => hk) trivial (Below.refl _ _) (Nat.le_refl _) (by simp) ?_; (case hd => rfl); (case hg => rfl); (case hr => first | (go_simp; done) | (go_simp; rfl)); (case hp => exact (Reps.none _ _))
                                            intro v266 w58 ho59 hb hg_ hnew_
                                            clear hg_ hnew_
                                            (first | rw [← Ny265.out] at ho59 | (simp only [Int.reduceToNat] at ho59; rw [← Ny265.out] at ho59))
                                            have n0_ := Aside0.mk (Kd.R_elder' (by (with_reducible repeat (first | apply Kd.R_alloc | apply Kd.R_drewN | apply Kd.R_drew)); exact HO_4.out) (Kd.R_base ho59) hb)
                                            have n1_ := Aside0.mk (Kd.R_below (by (with_reducible repeat (first | apply Kd.R_alloc | apply Kd.R_drewN | apply Kd.R_drew)); exact HO_13.out) hb)
                                            have n2_ := Aside0.mk (Kd.R_elder' (by (with_reducible repeat (first | apply Kd.R_alloc | apply Kd.R_drewN | apply Kd.R_drew)); exact HO277.out) (Kd.R_base ho59) hb)
                                            have n3_ := Aside0.mk (Kd.R_lower (Kd.R_new' (Kd.R_new' ho59 (Kd.R_lt (by (with_reducible repeat (first | apply Kd.R_alloc | apply Kd.R_drewN | apply Kd.R_drew)); exact HO_4.out))) (Kd.R_lt (by (with_reducible repeat (first | apply Kd.R_alloc | apply Kd.R_drewN | apply Kd.R_drew)); exact HO277.out))) (below_size (by repeat (first | (with_reducible first | exact HB.out | apply below_alloc | apply pw_below_drewN | apply below_drew1 | refine below_set ?_ GE238.out) | exact HB.out))))
                                            have n4_ := Aside0.mk (blk_below (g := gb238) (o := .cells #[.string ((rd_T31 t234 x15_1).f0), .string ((rd_T31 t234 x15_1).f1)] 31 (0, 0)) (by (with_reducible repeat (first | refine blk_drewN ?_ _ | refine blk_drew ?_ | refine blk_alloc ?_ _)); exact BK238.out) hb)
                                            have n5_ := Aside0.mk (Kd.C_below (by repeat (first | (with_reducible exact HR271.out) | (with_reducible refine Kd.C_alloc ?_ _) | (with_reducible refine Kd.C_drewN ?_ _) | (with_reducible refine Kd.C_drew ?_) | exact HR271.out)) hb)
                                            have n6_ := Aside0.mk (Kd.C_below (by repeat (first | (with_reducible exact HR284.out) | (with_reducible refine Kd.C_alloc ?_ _) | (with_reducible refine Kd.C_drewN ?_ _) | (with_reducible refine Kd.C_drew ?_) | exact HR284.out)) hb)
                                            have n7_ := Aside0.mk (below_step (by repeat (first | (with_reducible first | exact HB.out | apply below_alloc | apply pw_below_drewN | apply below_drew1 | refine below_set ?_ GE238.out) | exact HB.out)) hb)
                                            clear HO_4
                                            clear HO_13
                                            clear HO277
                                            clear BK238
                                            clear HR271
                                            clear HR284
                                            clear HB
                                            have HO_4 := n0_
                                            have HO_13 := n1_
                                            have HO277 := n2_
                                            have HO267 := n3_
                                            have BK238 := n4_
                                            have HR271 := n5_
                                            have HR284 := n6_
                                            have HB := n7_
                                            clear n0_ n1_ n2_ n3_ n4_ n5_ n6_ n7_
                                            clear hb ho59
                                            refine hK.out _ _ trivial (fun hHeld => ?_)
                                            clear hK K
                                            refine norm_ (a' := ?_) ?_ ?_
                                            rotate_left
                                            · show Act.put _ (some 54) _ = _
                                              simp only [Act.put, List.setIfInBounds_toArray, List.set_cons_zero, List.set_cons_succ, i64_w, i32_w]
                                              rfl
                                            refine one_ (i := 4) (N := some 58) #[true, true, true, true, true, true, true, false, true, true, true, false, false] rfl rfl (one_of HT_.out (by kernel_rfl)) (by decide) (fun K hK => ?_)
                                            refine Kd.R_append_rows_step Kd.string (w0 := w) w.heap.size (by rfl) (.tmp 54) (.tmp 57) 27 9 (.string ⟨#[]⟩) 16 rfl Tryd.underlying27 info9 rfl (by decide) (by omega) v266 y265 y268 _ _ _ (fun k_ => some k_ ≠ (.slice Ao52 x4_1.length co52 : Value).ownBlock ∧ some k_ ≠ (v276 : Value).ownBlock) (fun _ => False) rfl rfl ?aO ?aR (fun _ _ h => h) (fun _ h => h.elim) ?aF ?aB ?aS ?aL ?_
                                            (case aR => repeat (first | exact (by repeat (first | (with_reducible exact HR271.out) | (with_reducible refine Kd.C_alloc ?_ _) | (with_reducible refine Kd.C_drewN ?_ _) | (with_reducible refine Kd.C_drew ?_) | exact HR271.out)) | (with_reducible refine Kd.C_alloc ?_ _) | (with_reducible refine Kd.C_drewN ?_ _) | (with_reducible refine Kd.C_drew ?_)))
                                            (case aB => exact (by repeat (first | (with_reducible first | exact HB.out | apply below_alloc | apply pw_below_drewN | apply below_drew1 | refine below_set ?_ GE238.out) | exact HB.out)))
                                            (case aF => exact (fun k_ hk => ⟨Kd.fresh' (Kd.R_lt (by (with_reducible repeat (first | apply Kd.R_alloc | apply Kd.R_drewN | apply Kd.R_drew)); exact HO_4.out)) k_ hk, Kd.fresh' (Kd.R_lt (by (with_reducible repeat (first | apply Kd.R_alloc | apply Kd.R_drewN | apply Kd.R_drew)); exact HO277.out)) k_ hk⟩))
                                            (case aO => exact (by (with_reducible repeat (first | apply Kd.R_alloc | apply Kd.R_drewN | apply Kd.R_drew)); exact Kd.R_mono HO267.out (fun _ hk => ⟨hk.1.2, hk.2⟩)))
                                            (case aS => exact (below_size (by repeat (first | (with_reducible first | exact HB.out | apply below_alloc | apply pw_below_drewN | apply below_drew1 | refine below_set ?_ GE238.out) | exact HB.out))))
                                            (case aL => have := LMc47.out; first | omega | exact this | exact Nat.le_of_lt this)
                                            intro v273 w60 ho hb hg hat
                                            rw [← Ny272.out] at ho
                                            have n0_ := Aside0.mk (Kd.R_after (ok := (fun k_ => some k_ ≠ (v276 : Value).ownBlock)) (by (with_reducible repeat (first | apply Kd.R_alloc | apply Kd.R_drewN | apply Kd.R_drew)); exact Kd.R_mono HO_4.out (fun _ hk => ⟨hk.1.2, hk.2⟩)) hg hat)
                                            have n1_ := Aside0.mk (Kd.R_over' (by (with_reducible repeat (first | apply Kd.R_alloc | apply Kd.R_drewN | apply Kd.R_drew)); exact HO_13.out) (Kd.R_typed (by (with_reducible repeat (first | apply Kd.R_alloc | apply Kd.R_drewN | apply Kd.R_drew)); exact HO267.out)) (by decide) hg)
                                            have n2_ := Aside0.mk (blk_grown (g := gb238) (o := .cells #[.string ((rd_T31 t234 x15_1).f0), .string ((rd_T31 t234 x15_1).f1)] 31 (0, 0)) (by (with_reducible repeat (first | refine blk_drewN ?_ _ | refine blk_drew ?_ | refine blk_alloc ?_ _)); exact BK238.out) hg (Kd.R_ne HO267.out BK238.out (by decide)))
                                            have n3_ := Aside0.mk (Kd.R_after (ok := (fun k_ => some k_ ≠ (.slice Ao52 x4_1.length co52 : Value).ownBlock)) (by (with_reducible repeat (first | apply Kd.R_alloc | apply Kd.R_drewN | apply Kd.R_drew)); exact Kd.R_mono HO277.out (fun _ hk => ⟨hk.1.2, hk.2⟩)) hg hat)
                                            have n4_ := Aside0.mk (hb)
                                            have n5_ := Aside0.mk ((show Kd.C Kd.string w60 Ao52 y268.length y268 from by rw [Ny268.out]; exact Kd.C_take (m := (x10_3 : Int).toNat) ((Kd.R_reads' (Kd.R_after (ok := (fun k_ => some k_ ≠ (v276 : Value).ownBlock)) (by (with_reducible repeat (first | apply Kd.R_alloc | apply Kd.R_drewN | apply Kd.R_drew)); exact Kd.R_mono HO_4.out (fun _ hk => ⟨hk.1.2, hk.2⟩)) hg hat)).2.2) KL54.out))
                                            have n6_ := Aside0.mk ((show Kd.C Kd.string w60 A55 y281.length y281 from by rw [Ny281.out, KA55.out]; exact Kd.C_drop (m := (x10_3 : Int).toNat) (c := co52) ((Kd.R_reads' (Kd.R_after (ok := (fun k_ => some k_ ≠ (v276 : Value).ownBlock)) (by (with_reducible repeat (first | apply Kd.R_alloc | apply Kd.R_drewN | apply Kd.R_drew)); exact Kd.R_mono HO_4.out (fun _ hk => ⟨hk.1.2, hk.2⟩)) hg hat)).2.2) KL55.out ((Kd.R_reads' (Kd.R_after (ok := (fun k_ => some k_ ≠ (v276 : Value).ownBlock)) (by (with_reducible repeat (first | apply Kd.R_alloc | apply Kd.R_drewN | apply Kd.R_drew)); exact Kd.R_mono HO_4.out (fun _ hk => ⟨hk.1.2, hk.2⟩)) hg hat)).2.1)))
                                            have n7_ := Aside0.mk (ho)
                                            clear HO_4
                                            clear HO_13
                                            clear BK238
                                            clear HO277
                                            clear HB
                                            clear HR271
                                            clear HR284
                                            clear HO267
                                            have HO_4 := n0_
                                            have HO_13 := n1_
                                            have BK238 := n2_
                                            have HO277 := n3_
                                            have HB := n4_
                                            have HR271 := n5_
                                            have HR284 := n6_
                                            have HO274 := n7_
                                            clear n0_ n1_ n2_ n3_ n4_ n5_ n6_ n7_
                                            clear ho hb hg hat
                                            refine hK.out _ _ trivial (fun hHeld => ?_)
                                            clear hK K
                                            refine norm_ (a' := ?_) ?_ ?_
                                            rotate_left
                                            · show Act.put _ (some 58) _ = _
                                              simp only [Act.put, List.setIfInBounds_toArray, List.set_cons_zero, List.set_cons_succ, i64_w, i32_w]
                                              rfl
                                            exact norm_ (by simp only [putAll, Act.put, List.setIfInBounds_toArray, List.set_cons_zero, List.set_cons_succ]) (hCont (v266, v273, v276) _ ⟨(by (with_reducible repeat (first | apply Kd.R_alloc | apply Kd.R_drewN | apply Kd.R_drew)); exact Kd.R_mono HO274.out (fun _ hk => ⟨hk.2, hk.1⟩)), (by (with_reducible repeat (first | apply Kd.R_alloc | apply Kd.R_drewN | apply Kd.R_drew)); exact Kd.R_mono HO277.out (fun _ hk => ⟨hk.2, hk.1⟩)), (by (with_reducible repeat (first | apply Kd.R_alloc | apply Kd.R_drewN | apply Kd.R_drew)); exact HO_13.out), (by (with_reducible repeat (first | apply Kd.R_alloc | apply Kd.R_drewN | apply Kd.R_drew)); exact Kd.R_mono HO_4.out (fun _ hk => ⟨hk.2, hk.1⟩)), (by (with_reducible repeat (first | refine blk_drewN ?_ _ | refine blk_drew ?_ | refine blk_alloc ?_ _)); exact BK238.out), (by repeat (first | (with_reducible first | exact HB.out | apply below_alloc | apply pw_below_drewN | apply below_drew1 | refine below_set ?_ GE238.out) | exact HB.out))⟩)
                                        rintro ⟨v266, v273, v276⟩ w61 ⟨h0_, h1_, h2_, h3_, h4_, h5_⟩
                                        have n0_ : Aside0 (Kd.R Kd.string 9 w61 w.heap.size (fun k_ => some k_ ≠ (v276 : Value).ownBlock ∧ some k_ ≠ (.slice Ao52 x4_1.length co52 : Value).ownBlock) v273 y272) := ⟨h0_⟩
                                        have n1_ : Aside0 (Kd.R Kd.string 9 w61 w.heap.size (fun k_ => some k_ ≠ (v273 : Value).ownBlock ∧ some k_ ≠ (.slice Ao52 x4_1.length co52 : Value).ownBlock) v276 y275) := ⟨h1_⟩
                                        have n2_ : Aside0 (Kd.R k31 31 w61 w.heap.size (fun k_ => k_ ≠ gb238) (.slice (some ad237) t234.length co4) t234) := ⟨h2_⟩
                                        have n3_ : Aside0 (Kd.R Kd.string 9 w61 w.heap.size (fun k_ => some k_ ≠ (v273 : Value).ownBlock ∧ some k_ ≠ (v276 : Value).ownBlock) (.slice Ao52 x4_1.length co52) x4_1) := ⟨h3_⟩
                                        have n4_ : Aside0 (w61.heap[gb238]? = some (.cells #[.string ((rd_T31 t234 x15_1).f0), .string ((rd_T31 t234 x15_1).f1)] 31 (0, 0))) := ⟨h4_⟩
                                        have n5_ : Aside0 (Below w.heap.size w w61) := ⟨h5_⟩
                                        clear HO_4
                                        clear HO_13
                                        clear BK238
                                        clear HB
                                        clear h0_ h1_ h2_ h3_ h4_ h5_
                                        have HO274 := n0_
                                        have HO277 := n1_
                                        have HO_13 := n2_
                                        have HO_4 := n3_
                                        have BK238 := n4_
                                        have HB := n5_
                                        clear n0_ n1_ n2_ n3_ n4_ n5_
                                        have hHeld := trivial
                                        have HR271 := Aside0.mk (show Kd.C Kd.string w61 Ao52 y268.length y268 from by rw [Ny268.out]; exact Kd.C_take (m := (x10_3 : Int).toNat) ((Kd.R_reads' (HO_4.out)).2.2) KL54.out)
                                        have HR284 := Aside0.mk (show Kd.C Kd.string w61 A55 y281.length y281 from by rw [Ny281.out, KA55.out]; exact Kd.C_drop (m := (x10_3 : Int).toNat) (c := co52) ((Kd.R_reads' (HO_4.out)).2.2) KL55.out ((Kd.R_reads' (HO_4.out)).2.1))
                                        obtain ⟨Ao63, co63, eo63⟩ := Kd.R_slice HO277.out
                                        (first | subst eo63 | (injection eo63 with f1_ f2_ f3_; have f4_ := f1_.symm; have f5_ := f3_.symm; clear f1_ f2_ f3_; subst f4_; subst f5_))
                                        refine norm_ (a' := ?_) ?_ ?_
                                        rotate_left
                                        · simp only [putAll, Act.put, List.setIfInBounds_toArray, List.set_cons_zero, List.set_cons_succ]
                                          rfl
                                        refine one_ (i := 7) (N := some 61) #[true, true, true, true, true, true, true, true, true, true, true, false, false] rfl rfl (one_of HT_.out (by kernel_rfl)) (by decide) (fun K hK => ?_)
                                        refine Kd.R_append_rows_step Kd.string (w0 := w) w.heap.size (by rfl) (.tmp 58) (.tmp 60) 27 9 (.string ⟨#[]⟩) 16 rfl Tryd.underlying27 info9 rfl (by decide) (by omega) v273 y272 y275 _ _ _ (fun k_ => some k_ ≠ (.slice Ao52 x4_1.length co52 : Value).ownBlock ∧ some k_ ≠ (.slice Ao63 y275.length co63 : Value).ownBlock) (fun _ => False) rfl rfl ?aO ?aR (fun _ _ h => h) (fun _ h => h.elim) ?aF ?aB ?aS ?aL ?_
                                        (case aR => repeat (first | exact (Kd.R_reads' HO277.out).2.2 | (with_reducible refine Kd.C_alloc ?_ _) | (with_reducible refine Kd.C_drewN ?_ _) | (with_reducible refine Kd.C_drew ?_)))
                                        (case aB => exact (by repeat (first | (with_reducible first | exact HB.out | apply below_alloc | apply pw_below_drewN | apply below_drew1 | refine below_set ?_ GE238.out) | exact HB.out)))
                                        (case aF => exact (fun k_ hk => ⟨Kd.fresh' (Kd.R_lt (by (with_reducible repeat (first | apply Kd.R_alloc | apply Kd.R_drewN | apply Kd.R_drew)); exact HO_4.out)) k_ hk, Kd.fresh' (Kd.R_lt (by (with_reducible repeat (first | apply Kd.R_alloc | apply Kd.R_drewN | apply Kd.R_drew)); exact HO277.out)) k_ hk⟩))
                                        (case aO => exact (by (with_reducible repeat (first | apply Kd.R_alloc | apply Kd.R_drewN | apply Kd.R_drew)); exact Kd.R_mono HO274.out (fun _ hk => ⟨hk.2, hk.1⟩)))
                                        (case aS => exact (below_size (by repeat (first | (with_reducible first | exact HB.out | apply below_alloc | apply pw_below_drewN | apply below_drew1 | refine below_set ?_ GE238.out) | exact HB.out))))
                                        (case aL => have := LMc48.out; first | omega | exact this | exact Nat.le_of_lt this)
                                        intro v279 w62 ho hb hg hat
                                        rw [← Ny278.out] at ho
                                        have n0_ := Aside0.mk (Kd.R_after (ok := (fun k_ => some k_ ≠ (.slice Ao63 y275.length co63 : Value).ownBlock)) (by (with_reducible repeat (first | apply Kd.R_alloc | apply Kd.R_drewN | apply Kd.R_drew)); exact Kd.R_mono HO_4.out (fun _ hk => ⟨hk.2, hk.1⟩)) hg hat)
                                        have n1_ := Aside0.mk (Kd.R_over' (by (with_reducible repeat (first | apply Kd.R_alloc | apply Kd.R_drewN | apply Kd.R_drew)); exact HO_13.out) (Kd.R_typed (by (with_reducible repeat (first | apply Kd.R_alloc | apply Kd.R_drewN | apply Kd.R_drew)); exact HO274.out)) (by decide) hg)
                                        have n2_ := Aside0.mk (blk_grown (g := gb238) (o := .cells #[.string ((rd_T31 t234 x15_1).f0), .string ((rd_T31 t234 x15_1).f1)] 31 (0, 0)) (by (with_reducible repeat (first | refine blk_drewN ?_ _ | refine blk_drew ?_ | refine blk_alloc ?_ _)); exact BK238.out) hg (Kd.R_ne HO274.out BK238.out (by decide)))
                                        have n3_ := Aside0.mk (Kd.R_after (ok := (fun k_ => some k_ ≠ (.slice Ao52 x4_1.length co52 : Value).ownBlock)) (by (with_reducible repeat (first | apply Kd.R_alloc | apply Kd.R_drewN | apply Kd.R_drew)); exact Kd.R_mono HO277.out (fun _ hk => ⟨hk.2, hk.1⟩)) hg hat)
                                        have n4_ := Aside0.mk (hb)
                                        have n5_ := Aside0.mk ((show Kd.C Kd.string w62 Ao52 y268.length y268 from by rw [Ny268.out]; exact Kd.C_take (m := (x10_3 : Int).toNat) ((Kd.R_reads' (Kd.R_after (ok := (fun k_ => some k_ ≠ (.slice Ao63 y275.length co63 : Value).ownBlock)) (by (with_reducible repeat (first | apply Kd.R_alloc | apply Kd.R_drewN | apply Kd.R_drew)); exact Kd.R_mono HO_4.out (fun _ hk => ⟨hk.2, hk.1⟩)) hg hat)).2.2) KL54.out))
                                        have n6_ := Aside0.mk ((show Kd.C Kd.string w62 A55 y281.length y281 from by rw [Ny281.out, KA55.out]; exact Kd.C_drop (m := (x10_3 : Int).toNat) (c := co52) ((Kd.R_reads' (Kd.R_after (ok := (fun k_ => some k_ ≠ (.slice Ao63 y275.length co63 : Value).ownBlock)) (by (with_reducible repeat (first | apply Kd.R_alloc | apply Kd.R_drewN | apply Kd.R_drew)); exact Kd.R_mono HO_4.out (fun _ hk => ⟨hk.2, hk.1⟩)) hg hat)).2.2) KL55.out ((Kd.R_reads' (Kd.R_after (ok := (fun k_ => some k_ ≠ (.slice Ao63 y275.length co63 : Value).ownBlock)) (by (with_reducible repeat (first | apply Kd.R_alloc | apply Kd.R_drewN | apply Kd.R_drew)); exact Kd.R_mono HO_4.out (fun _ hk => ⟨hk.2, hk.1⟩)) hg hat)).2.1)))
                                        have n7_ := Aside0.mk (ho)
                                        clear HO_4
                                        clear HO_13
                                        clear BK238
                                        clear HO277
                                        clear HB
                                        clear HR271
                                        clear HR284
                                        clear HO274
                                        have HO_4 := n0_
                                        have HO_13 := n1_
                                        have BK238 := n2_
                                        have HO277 := n3_
                                        have HB := n4_
                                        have HR271 := n5_
                                        have HR284 := n6_
                                        have HO280 := n7_
                                        clear n0_ n1_ n2_ n3_ n4_ n5_ n6_ n7_
                                        clear ho hb hg hat
                                        refine hK.out _ _ trivial (fun hHeld => ?_)
                                        clear hK K
                                        refine norm_ (a' := ?_) ?_ ?_
                                        rotate_left
                                        · show Act.put _ (some 61) _ = _
                                          simp only [Act.put, List.setIfInBounds_toArray, List.set_cons_zero, List.set_cons_succ, i64_w, i32_w]
                                          rfl
                                        refine one_ (i := 11) (N := some 65) #[true, true, true, true, true, true, true, true, true, true, true, true, false] rfl rfl (one_of HT_.out (by kernel_rfl)) (by decide) (fun K hK => ?_)
                                        refine Kd.R_append_rows_step Kd.string (w0 := w) w.heap.size (by rfl) (.tmp 61) (.tmp 64) 27 9 (.string ⟨#[]⟩) 16 rfl Tryd.underlying27 info9 rfl (by decide) (by omega) v279 y278 y281 _ _ _ (fun k_ => some k_ ≠ (.slice Ao52 x4_1.length co52 : Value).ownBlock ∧ some k_ ≠ (.slice Ao63 y275.length co63 : Value).ownBlock) (fun _ => False) rfl rfl ?aO ?aR (fun _ _ h => h) (fun _ h => h.elim) ?aF ?aB ?aS ?aL ?_
                                        (case aR => repeat (first | exact (by repeat (first | (with_reducible exact HR284.out) | (with_reducible refine Kd.C_alloc ?_ _) | (with_reducible refine Kd.C_drewN ?_ _) | (with_reducible refine Kd.C_drew ?_) | exact HR284.out)) | (with_reducible refine Kd.C_alloc ?_ _) | (with_reducible refine Kd.C_drewN ?_ _) | (with_reducible refine Kd.C_drew ?_)))
                                        (case aB => exact (by repeat (first | (with_reducible first | exact HB.out | apply below_alloc | apply pw_below_drewN | apply below_drew1 | refine below_set ?_ GE238.out) | exact HB.out)))
                                        (case aF => exact (fun k_ hk => ⟨Kd.fresh' (Kd.R_lt (by (with_reducible repeat (first | apply Kd.R_alloc | apply Kd.R_drewN | apply Kd.R_drew)); exact HO_4.out)) k_ hk, Kd.fresh' (Kd.R_lt (by (with_reducible repeat (first | apply Kd.R_alloc | apply Kd.R_drewN | apply Kd.R_drew)); exact HO277.out)) k_ hk⟩))
                                        (case aO => exact (by (with_reducible repeat (first | apply Kd.R_alloc | apply Kd.R_drewN | apply Kd.R_drew)); exact HO280.out))
                                        (case aS => exact (below_size (by repeat (first | (with_reducible first | exact HB.out | apply below_alloc | apply pw_below_drewN | apply below_drew1 | refine below_set ?_ GE238.out) | exact HB.out))))
                                        (case aL => have := LMc51.out; first | omega | exact this | exact Nat.le_of_lt this)
                                        intro v286 w64 ho hb hg hat
                                        rw [← Ny285.out] at ho
                                        have n0_ := Aside0.mk (Kd.R_after (ok := (fun k_ => some k_ ≠ (.slice Ao63 y275.length co63 : Value).ownBlock)) (by (with_reducible repeat (first | apply Kd.R_alloc | apply Kd.R_drewN | apply Kd.R_drew)); exact HO_4.out) hg hat)
                                        have n1_ := Aside0.mk (Kd.R_over' (by (with_reducible repeat (first | apply Kd.R_alloc | apply Kd.R_drewN | apply Kd.R_drew)); exact HO_13.out) (Kd.R_typed (by (with_reducible repeat (first | apply Kd.R_alloc | apply Kd.R_drewN | apply Kd.R_drew)); exact HO280.out)) (by decide) hg)
                                        have n2_ := Aside0.mk (blk_grown (g := gb238) (o := .cells #[.string ((rd_T31 t234 x15_1).f0), .string ((rd_T31 t234 x15_1).f1)] 31 (0, 0)) (by (with_reducible repeat (first | refine blk_drewN ?_ _ | refine blk_drew ?_ | refine blk_alloc ?_ _)); exact BK238.out) hg (Kd.R_ne HO280.out BK238.out (by decide)))
                                        have n3_ := Aside0.mk (Kd.R_after (ok := (fun k_ => some k_ ≠ (.slice Ao52 x4_1.length co52 : Value).ownBlock)) (by (with_reducible repeat (first | apply Kd.R_alloc | apply Kd.R_drewN | apply Kd.R_drew)); exact HO277.out) hg hat)
                                        have n4_ := Aside0.mk (hb)
                                        have n5_ := Aside0.mk ((show Kd.C Kd.string w64 Ao52 y268.length y268 from by rw [Ny268.out]; exact Kd.C_take (m := (x10_3 : Int).toNat) ((Kd.R_reads' (Kd.R_after (ok := (fun k_ => some k_ ≠ (.slice Ao63 y275.length co63 : Value).ownBlock)) (by (with_reducible repeat (first | apply Kd.R_alloc | apply Kd.R_drewN | apply Kd.R_drew)); exact HO_4.out) hg hat)).2.2) KL54.out))
                                        have n6_ := Aside0.mk ((show Kd.C Kd.string w64 A55 y281.length y281 from by rw [Ny281.out, KA55.out]; exact Kd.C_drop (m := (x10_3 : Int).toNat) (c := co52) ((Kd.R_reads' (Kd.R_after (ok := (fun k_ => some k_ ≠ (.slice Ao63 y275.length co63 : Value).ownBlock)) (by (with_reducible repeat (first | apply Kd.R_alloc | apply Kd.R_drewN | apply Kd.R_drew)); exact HO_4.out) hg hat)).2.2) KL55.out ((Kd.R_reads' (Kd.R_after (ok := (fun k_ => some k_ ≠ (.slice Ao63 y275.length co63 : Value).ownBlock)) (by (with_reducible repeat (first | apply Kd.R_alloc | apply Kd.R_drewN | apply Kd.R_drew)); exact HO_4.out) hg hat)).2.1)))
                                        have n7_ := Aside0.mk (ho)
                                        clear HO_4
                                        clear HO_13
                                        clear BK238
                                        clear HO277
                                        clear HB
                                        clear HR271
                                        clear HR284
                                        clear HO280
                                        have HO_4 := n0_
                                        have HO_13 := n1_
                                        have BK238 := n2_
                                        have HO277 := n3_
                                        have HB := n4_
                                        have HR271 := n5_
                                        have HR284 := n6_
                                        have HO287 := n7_
                                        clear n0_ n1_ n2_ n3_ n4_ n5_ n6_ n7_
                                        clear ho hb hg hat
                                        refine hK.out _ _ trivial (fun hHeld => ?_)
                                        clear hK K
                                        refine norm_ (a' := ?_) ?_ ?_
                                        rotate_left
                                        · show Act.put _ (some 65) _ = _
                                          simp only [Act.put, List.setIfInBounds_toArray, List.set_cons_zero, List.set_cons_succ, i64_w, i32_w]
                                          rfl
                                        refine pure_ (i := 12) (N := some 4) (v := ?_) (a' := ?_) #[true, true, true, true, true, true, true, true, true, true, true, true, true] rfl rfl (any_of HT_.out (by kernel_rfl)) (fun _ _ _ h => h) (Or.inl ⟨by rfl, ?_⟩) ?_ ?_
                                        rotate_left
                                        · intro w'
                                          go_simp
                                          with_reducible rfl
                                        rotate_left
                                        · simp only [Act.put, List.setIfInBounds_toArray, List.set_cons_zero, List.set_cons_succ, i64_w, i32_w]
                                          rfl
                                        refine done_ (done_of HT_.out (by kernel_rfl)) ?_
                                        try go_wp2
                                        go_roundg k3
                                        case measure => have := HK1.out; have := HJ8.out; have := HK3.out; omega
                                        case rel => exact ⟨(y285), (wrap64 (x15_1 + 1)), (by first | rfl | (simp; done) | (simp [*]; done)), H', ⟨by have := HK1.out; have := HJ8.out; have := HK3.out; omega⟩, ⟨by (with_reducible repeat (first | apply Kd.R_alloc | apply Kd.R_drewN | apply Kd.R_drew)); exact Kd.R_mono HO287.out (fun _ hk => trivial)⟩, ⟨by (with_reducible repeat (first | apply Kd.R_alloc | apply Kd.R_drewN | apply Kd.R_drew)); exact Kd.R_mono HO_13.out (fun _ hk => trivial)⟩, ⟨by repeat (first | (with_reducible first | exact HB.out | apply below_alloc | apply pw_below_drewN | apply below_drew1 | refine below_set ?_ GE238.out) | exact HB.out)⟩⟩
                                      · rw [if_neg c51] at H
                                        exact absurd H (by simp)
                                    · rw [if_neg c48] at H
                                      exact absurd H (by simp)
                                  · rw [if_neg c47] at H
                                    exact absurd H (by simp)
                                · rw [if_neg c46] at H
                                  exact absurd H (by simp)
                              · rw [if_neg c45] at H
                                exact absurd H (by simp)
                      · rw [if_neg c19] at H
                        exact absurd H (by simp)
                    · rw [if_neg c18] at H
                      exact absurd H (by simp)
          · rw [if_neg c7] at H
            exact absurd H (by simp)
        · rw [if_neg c6] at H
          exact absurd H (by simp)
      · rw [if_neg c5] at H
        have c5b0 : decide (x15_1 < (t234.length : Int)) = false := decide_eq_false c5
        clear c5
        replace H := Option.bind_eq_some_iff.mp H
        obtain ⟨t288, A650, H⟩ := H
        replace H : (if (x4_1.length : Int) = 0 then ((spec_Has.f k1 l0 (⟨#[95, 95, 110, 97, 109, 101, 95, 95]⟩ : ByteArray)).bind fun t289 => (if t289 = true then (some (t288, 1)) else (if t288.size + 1 ≤ 9223372036854775807 then ((spec_Joined.f k1 x4_1 (⟨#[44, 32]⟩ : ByteArray)).bind fun t290 => (if (t288 ++ (⟨#[123]⟩ : ByteArray)).size + t290.size ≤ 9223372036854775807 then (if ((t288 ++ (⟨#[123]⟩ : ByteArray)) ++ t290).size + 1 ≤ 9223372036854775807 then (some (((t288 ++ (⟨#[123]⟩ : ByteArray)) ++ t290) ++ (⟨#[125]⟩ : ByteArray), 1)) else (none)) else (none))) else (none)))) else (if t288.size + 1 ≤ 9223372036854775807 then ((spec_Joined.f k1 x4_1 (⟨#[44, 32]⟩ : ByteArray)).bind fun t291 => (if (t288 ++ (⟨#[123]⟩ : ByteArray)).size + t291.size ≤ 9223372036854775807 then (if ((t288 ++ (⟨#[123]⟩ : ByteArray)) ++ t291).size + 1 ≤ 9223372036854775807 then (some (((t288 ++ (⟨#[123]⟩ : ByteArray)) ++ t291) ++ (⟨#[125]⟩ : ByteArray), 1)) else (none)) else (none))) else (none))) = some (r1, r2) := H
        have A65 := Aside0.mk A650
        clear A650
        by_cases c66 : (x4_1.length : Int) = 0
        · rw [if_pos c66] at H
          have c66b0 : ((x4_1.length : Int) == 0) = true := beq_iff_eq.mpr c66
          have c66b1 : ((x4_1.length : Int) != 0) = false := bne_eq_false_iff_eq.mpr c66
          clear c66
          replace H := Option.bind_eq_some_iff.mp H
          obtain ⟨t289, A670, H⟩ := H
          replace H : (if t289 = true then (some (t288, 1)) else (if t288.size + 1 ≤ 9223372036854775807 then ((spec_Joined.f k1 x4_1 (⟨#[44, 32]⟩ : ByteArray)).bind fun t290 => (if (t288 ++ (⟨#[123]⟩ : ByteArray)).size + t290.size ≤ 9223372036854775807 then (if ((t288 ++ (⟨#[123]⟩ : ByteArray)) ++ t290).size + 1 ≤ 9223372036854775807 then (some (((t288 ++ (⟨#[123]⟩ : ByteArray)) ++ t290) ++ (⟨#[125]⟩ : ByteArray), 1)) else (none)) else (none))) else (none))) = some (r1, r2) := H
          have A67 := Aside0.mk A670
          clear A670
          by_cases c68 : t289 = true
          · subst c68
            have H1 : (some (t288, 1)) = some (r1, r2) := by rw [if_pos rfl] at H; exact H
            clear H
            have H := H1
            clear H1
            simp only [Option.some.injEq, Prod.mk.injEq] at H
            obtain ⟨rfl, rfl⟩ := H
            go_wp2_with (first | ((with_reducible refine gate_callee (f := 20) rfl ?_); refine goesL_ (some 68) rfl rfl Tryd.func20 (by kernel_rfl) rfl #[.slice A0 l0.length c0, .string (⟨#[95, 95, 110, 97, 109, 101, 95, 95]⟩ : ByteArray)] rfl (by (try simp only [List.map_toArray, List.map_cons, List.map_nil]); first | done | rfl | (simp only [List.length_drop, List.length_take]; rfl)) ?_; (with_reducible refine (spec_Value.calls k1 _ _ l0 (⟨#[95, 95, 110, 97, 109, 101, 95, 95]⟩ : ByteArray) t288 _ ?side1 ?side2 A65.out).mono ?_); (case side1 => repeat (first | exact (Kd.C_below HR0.out HB.out) | (with_reducible refine Kd.C_alloc ?_ _) | (with_reducible refine Kd.C_drewN ?_ _) | (with_reducible refine Kd.C_drew ?_))); (case side2 => exact HC0.out); rintro e w' ⟨rfl, ⟨nd, rfl⟩⟩; refine ⟨_, rfl, ?_⟩; obtain ⟨Ao69, co69, eo69⟩ := Kd.R_slice HO_4.out; subst eo69) | (go_at_call 21; (with_reducible refine (spec_Has.calls k1 _ _ l0 (⟨#[95, 95, 110, 97, 109, 101, 95, 95]⟩ : ByteArray) true _ ?side1 ?side2 A67.out).mono ?_); (case side1 => repeat (first | exact (Kd.C_below HR0.out (by repeat (first | (with_reducible first | exact HB.out | apply below_alloc | apply pw_below_drewN | apply below_drew1) | exact HB.out))) | (with_reducible refine Kd.C_alloc ?_ _) | (with_reducible refine Kd.C_drewN ?_ _) | (with_reducible refine Kd.C_drew ?_))); (case side2 => exact HC0.out); rintro e w' ⟨rfl, ⟨nd, rfl⟩⟩))
            go_ret2
            exact ⟨by first | rfl | (simp [errW_none, errW_some] <;> rfl) | (simp [*, errW_none, errW_some] <;> rfl), by repeat (first | (with_reducible first | exact HB.out | apply below_alloc | apply pw_below_drewN | apply below_drew1) | exact HB.out)⟩
          · replace c68 := Bool.eq_false_iff.mpr c68
            subst c68
            have H1 : (if t288.size + 1 ≤ 9223372036854775807 then ((spec_Joined.f k1 x4_1 (⟨#[44, 32]⟩ : ByteArray)).bind fun t290 => (if (t288 ++ (⟨#[123]⟩ : ByteArray)).size + t290.size ≤ 9223372036854775807 then (if ((t288 ++ (⟨#[123]⟩ : ByteArray)) ++ t290).size + 1 ≤ 9223372036854775807 then (some (((t288 ++ (⟨#[123]⟩ : ByteArray)) ++ t290) ++ (⟨#[125]⟩ : ByteArray), 1)) else (none)) else (none))) else (none)) = some (r1, r2) := by rw [if_neg (show ¬ (false = true) by decide)] at H; exact H
            clear H
            have H := H1
            clear H1
            by_cases c70 : t288.size + 1 ≤ 9223372036854775807
            · rw [if_pos c70] at H
              have c70b0 := eq_true c70
              have c70b1 : decide (t288.size + 1 ≤ 9223372036854775807) = true := decide_eq_true c70
              try have c70b2 : (9223372036854775807 < t288.size + 1) = False := eq_false (Nat.not_lt.2 c70)
              replace H := Option.bind_eq_some_iff.mp H
              obtain ⟨t290, A710, H⟩ := H
              replace H : (if (t288 ++ (⟨#[123]⟩ : ByteArray)).size + t290.size ≤ 9223372036854775807 then (if ((t288 ++ (⟨#[123]⟩ : ByteArray)) ++ t290).size + 1 ≤ 9223372036854775807 then (some (((t288 ++ (⟨#[123]⟩ : ByteArray)) ++ t290) ++ (⟨#[125]⟩ : ByteArray), 1)) else (none)) else (none)) = some (r1, r2) := H
              have A71 := Aside0.mk A710
              clear A710
              by_cases c72 : (t288 ++ (⟨#[123]⟩ : ByteArray)).size + t290.size ≤ 9223372036854775807
              · rw [if_pos c72] at H
                have c72b0 := eq_true c72
                have c72b1 : decide ((t288 ++ (⟨#[123]⟩ : ByteArray)).size + t290.size ≤ 9223372036854775807) = true := decide_eq_true c72
                try have c72b2 : (9223372036854775807 < (t288 ++ (⟨#[123]⟩ : ByteArray)).size + t290.size) = False := eq_false (Nat.not_lt.2 c72)
                try have c72b3 := c72b2
                try simp only [ByteArray.size_append, show (⟨#[123]⟩ : ByteArray).size = 1 from rfl] at c72b3
                by_cases c73 : ((t288 ++ (⟨#[123]⟩ : ByteArray)) ++ t290).size + 1 ≤ 9223372036854775807
                · rw [if_pos c73] at H
                  have c73b0 := eq_true c73
                  have c73b1 : decide (((t288 ++ (⟨#[123]⟩ : ByteArray)) ++ t290).size + 1 ≤ 9223372036854775807) = true := decide_eq_true c73
                  try have c73b2 : (9223372036854775807 < ((t288 ++ (⟨#[123]⟩ : ByteArray)) ++ t290).size + 1) = False := eq_false (Nat.not_lt.2 c73)
                  try have c73b3 := c73b2
                  try simp only [ByteArray.size_append, show (⟨#[123]⟩ : ByteArray).size = 1 from rfl] at c73b3
                  simp only [Option.some.injEq, Prod.mk.injEq] at H
                  obtain ⟨rfl, rfl⟩ := H
                  go_wp2_with (first | ((with_reducible refine gate_callee (f := 20) rfl ?_); refine goesL_ (some 68) rfl rfl Tryd.func20 (by kernel_rfl) rfl #[.slice A0 l0.length c0, .string (⟨#[95, 95, 110, 97, 109, 101, 95, 95]⟩ : ByteArray)] rfl (by (try simp only [List.map_toArray, List.map_cons, List.map_nil]); first | done | rfl | (simp only [List.length_drop, List.length_take]; rfl)) ?_; (with_reducible refine (spec_Value.calls k1 _ _ l0 (⟨#[95, 95, 110, 97, 109, 101, 95, 95]⟩ : ByteArray) t288 _ ?side1 ?side2 A65.out).mono ?_); (case side1 => repeat (first | exact (Kd.C_below HR0.out HB.out) | (with_reducible refine Kd.C_alloc ?_ _) | (with_reducible refine Kd.C_drewN ?_ _) | (with_reducible refine Kd.C_drew ?_))); (case side2 => exact HC0.out); rintro e w' ⟨rfl, ⟨nd, rfl⟩⟩; refine ⟨_, rfl, ?_⟩; obtain ⟨Ao74, co74, eo74⟩ := Kd.R_slice HO_4.out; subst eo74) | (go_at_call 21; (with_reducible refine (spec_Has.calls k1 _ _ l0 (⟨#[95, 95, 110, 97, 109, 101, 95, 95]⟩ : ByteArray) false _ ?side1 ?side2 A67.out).mono ?_); (case side1 => repeat (first | exact (Kd.C_below HR0.out (by repeat (first | (with_reducible first | exact HB.out | apply below_alloc | apply pw_below_drewN | apply below_drew1) | exact HB.out))) | (with_reducible refine Kd.C_alloc ?_ _) | (with_reducible refine Kd.C_drewN ?_ _) | (with_reducible refine Kd.C_drew ?_))); (case side2 => exact HC0.out); rintro e w' ⟨rfl, ⟨nd, rfl⟩⟩) | ((with_reducible refine gate_callee (f := 22) rfl ?_); refine goesL_ (some 80) rfl rfl Tryd.func22 (by kernel_rfl) rfl #[.slice Ao74 x4_1.length co74, .string (⟨#[44, 32]⟩ : ByteArray)] rfl (by (try simp only [List.map_toArray, List.map_cons, List.map_nil]); first | done | rfl | (simp only [List.length_drop, List.length_take]; rfl)) ?_; (with_reducible refine (spec_Joined.calls k1 _ _ x4_1 (⟨#[44, 32]⟩ : ByteArray) t290 _ ?side1 ?side2 A71.out).mono ?_); (case side1 => repeat (first | exact (Kd.R_reads' HO_4.out).2.2 | (with_reducible refine Kd.C_alloc ?_ _) | (with_reducible refine Kd.C_drewN ?_ _) | (with_reducible refine Kd.C_drew ?_))); (case side2 => exact (Kd.R_reads' HO_4.out).2.1); rintro e w' ⟨rfl, ⟨nd, rfl⟩⟩; refine ⟨_, rfl, ?_⟩))
                  go_ret2
                  exact ⟨by first | rfl | (simp [errW_none, errW_some] <;> rfl) | (simp [*, errW_none, errW_some] <;> rfl), by repeat (first | (with_reducible first | exact HB.out | apply below_alloc | apply pw_below_drewN | apply below_drew1) | exact HB.out)⟩
                · rw [if_neg c73] at H
                  exact absurd H (by simp)
              · rw [if_neg c72] at H
                exact absurd H (by simp)
            · rw [if_neg c70] at H
              exact absurd H (by simp)
        · rw [if_neg c66] at H
          have c66b0 : ((x4_1.length : Int) == 0) = false := beq_eq_false_iff_ne.mpr c66
          have c66b1 : ((x4_1.length : Int) != 0) = true := bne_iff_ne.mpr c66
          have c66b2 : ¬ (x4_1 = []) := fun h_ => c66 (by rw [h_]; rfl)
          by_cases c75 : t288.size + 1 ≤ 9223372036854775807
          · rw [if_pos c75] at H
            have c75b0 := eq_true c75
            have c75b1 : decide (t288.size + 1 ≤ 9223372036854775807) = true := decide_eq_true c75
            try have c75b2 : (9223372036854775807 < t288.size + 1) = False := eq_false (Nat.not_lt.2 c75)
            replace H := Option.bind_eq_some_iff.mp H
            obtain ⟨t291, A760, H⟩ := H
            replace H : (if (t288 ++ (⟨#[123]⟩ : ByteArray)).size + t291.size ≤ 9223372036854775807 then (if ((t288 ++ (⟨#[123]⟩ : ByteArray)) ++ t291).size + 1 ≤ 9223372036854775807 then (some (((t288 ++ (⟨#[123]⟩ : ByteArray)) ++ t291) ++ (⟨#[125]⟩ : ByteArray), 1)) else (none)) else (none)) = some (r1, r2) := H
            have A76 := Aside0.mk A760
            clear A760
            by_cases c77 : (t288 ++ (⟨#[123]⟩ : ByteArray)).size + t291.size ≤ 9223372036854775807
            · rw [if_pos c77] at H
              have c77b0 := eq_true c77
              have c77b1 : decide ((t288 ++ (⟨#[123]⟩ : ByteArray)).size + t291.size ≤ 9223372036854775807) = true := decide_eq_true c77
              try have c77b2 : (9223372036854775807 < (t288 ++ (⟨#[123]⟩ : ByteArray)).size + t291.size) = False := eq_false (Nat.not_lt.2 c77)
              try have c77b3 := c77b2
              try simp only [ByteArray.size_append, show (⟨#[123]⟩ : ByteArray).size = 1 from rfl] at c77b3
              by_cases c78 : ((t288 ++ (⟨#[123]⟩ : ByteArray)) ++ t291).size + 1 ≤ 9223372036854775807
              · rw [if_pos c78] at H
                have c78b0 := eq_true c78
                have c78b1 : decide (((t288 ++ (⟨#[123]⟩ : ByteArray)) ++ t291).size + 1 ≤ 9223372036854775807) = true := decide_eq_true c78
                try have c78b2 : (9223372036854775807 < ((t288 ++ (⟨#[123]⟩ : ByteArray)) ++ t291).size + 1) = False := eq_false (Nat.not_lt.2 c78)
                try have c78b3 := c78b2
                try simp only [ByteArray.size_append, show (⟨#[123]⟩ : ByteArray).size = 1 from rfl] at c78b3
                simp only [Option.some.injEq, Prod.mk.injEq] at H
                obtain ⟨rfl, rfl⟩ := H
                go_wp2_with (first | ((with_reducible refine gate_callee (f := 20) rfl ?_); refine goesL_ (some 68) rfl rfl Tryd.func20 (by kernel_rfl) rfl #[.slice A0 l0.length c0, .string (⟨#[95, 95, 110, 97, 109, 101, 95, 95]⟩ : ByteArray)] rfl (by (try simp only [List.map_toArray, List.map_cons, List.map_nil]); first | done | rfl | (simp only [List.length_drop, List.length_take]; rfl)) ?_; (with_reducible refine (spec_Value.calls k1 _ _ l0 (⟨#[95, 95, 110, 97, 109, 101, 95, 95]⟩ : ByteArray) t288 _ ?side1 ?side2 A65.out).mono ?_); (case side1 => repeat (first | exact (Kd.C_below HR0.out HB.out) | (with_reducible refine Kd.C_alloc ?_ _) | (with_reducible refine Kd.C_drewN ?_ _) | (with_reducible refine Kd.C_drew ?_))); (case side2 => exact HC0.out); rintro e w' ⟨rfl, ⟨nd, rfl⟩⟩; refine ⟨_, rfl, ?_⟩; obtain ⟨Ao79, co79, eo79⟩ := Kd.R_slice HO_4.out; subst eo79) | ((with_reducible refine gate_callee (f := 22) rfl ?_); refine goesL_ (some 80) rfl rfl Tryd.func22 (by kernel_rfl) rfl #[.slice Ao79 x4_1.length co79, .string (⟨#[44, 32]⟩ : ByteArray)] rfl (by (try simp only [List.map_toArray, List.map_cons, List.map_nil]); first | done | rfl | (simp only [List.length_drop, List.length_take]; rfl)) ?_; (with_reducible refine (spec_Joined.calls k1 _ _ x4_1 (⟨#[44, 32]⟩ : ByteArray) t291 _ ?side1 ?side2 A76.out).mono ?_); (case side1 => repeat (first | exact (Kd.R_reads' HO_4.out).2.2 | (with_reducible refine Kd.C_alloc ?_ _) | (with_reducible refine Kd.C_drewN ?_ _) | (with_reducible refine Kd.C_drew ?_))); (case side2 => exact (Kd.R_reads' HO_4.out).2.1); rintro e w' ⟨rfl, ⟨nd, rfl⟩⟩; refine ⟨_, rfl, ?_⟩))
                go_ret2
                exact ⟨by first | rfl | (simp [errW_none, errW_some] <;> rfl) | (simp [*, errW_none, errW_some] <;> rfl), by repeat (first | (with_reducible first | exact HB.out | apply below_alloc | apply pw_below_drewN | apply below_drew1) | exact HB.out)⟩
              · rw [if_neg c78] at H
                exact absurd H (by simp)
            · rw [if_neg c77] at H
              exact absurd H (by simp)
          · rw [if_neg c75] at H
            exact absurd H (by simp)

end Go.Proofs.YtenededepjfojaaDoor.Q
