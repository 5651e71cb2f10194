-- printed by this project's own program wip/tools/mkprint.py (the kit's print.py with hand-proved contracts put in)
import Derived.Test.YtcneoonhdfblaaaQx0
import Derived.Test.YtcneoonhdfblaaaQx1
import Derived.Test.YtcneoonhdfblaaaQx2
import Derived.Test.YtcneoonhdfblaaaQx3
import Derived.Test.YtcneoonhdfblaaaQx4
import Derived.Test.YtcneoonhdfblaaaQx5
import Derived.Test.YtcneoonhdfblaaaQx6
import Derived.Test.YtcneoonhdfblaaaQx7
namespace Go.Proofs.Ytcneoonhdfblaaa.Q
open Go.RowKit Go.Proofs.YtcneoonhdfblaaaW.PrintWords Go.Proofs.YtcneoonhdfblaaaW.PrintLast Go.Proofs.YtcneoonhdfblaaaW.PrintMore
attribute [local go_sem] max2_int min2_int max_two min_two max_three min_three max_four min_four   -- for this text's walks alone
set_option linter.unusedVariables false
set_option linter.unusedSimpArgs false

/-! ### laws_FnSignatures: function 4 -/
mutual
def laws_FnSignatures.j0 : Nat → List (S32) → List Bool → Bool → Option (Bool)
  | 0, _, _, _ => none
  | k + 1, x0, x1, x19 => if x19 = true then (some true) else ((impl_Signature.f (([(⟨(⟨#[97]⟩ : ByteArray), (⟨#[]⟩ : ByteArray)⟩ : S32)] : List (S32)))).bind fun t195 => ((impl_Signature.f ([] : List (S32))).bind fun t196 => (if t195 = t196 then (some false) else ((laws_much.f x0).bind fun t197 => (if t197 = true then (some true) else ((laws_pairs.f k x0).bind fun t198 => ((spec_Set.f k t198).bind fun t201 => (laws_FnSignatures.l0 k x0 x1 ([] : List (S32)) ([] : List (S32)) ([] : List ByteArray) t201 (t201.length : Int) 0))))))))
def laws_FnSignatures.l0 : Nat → List (S32) → List Bool → List (S32) → List (S32) → List ByteArray → List (S37) → Int → Int → Option (Bool)
  | 0, _, _, _, _, _, _, _, _ => none
  | k + 1, x0, x1, x5, x6, x7, x29, x30, x31 => if x31 < x30 then (if 0 ≤ x31 then (if x31 < (x29.length : Int) then (if (x1.length : Int) > 0 then (if (x1.length : Int) = 0 then (none) else (if 0 ≤ (Int.tmod x31 (x1.length : Int)) then (if (Int.tmod x31 (x1.length : Int)) < (x1.length : Int) then (if rdOf false x1 (Int.tmod x31 (x1.length : Int)) = true then ((some (([(⟨(rd_T37 x29 x31).f0, (rd_T37 x29 x31).f1⟩ : S32)] : List (S32)) : List (S32))).bind fun y207 => (if x5.length + y207.length < 4398046511104 then ((some (([(rd_T37 x29 x31).f0] : List ByteArray) : List ByteArray)).bind fun y213 => (if y213.length + x7.length < 8796093022208 then (laws_FnSignatures.l0 k x0 x1 (x5 ++ y207) x6 (y213 ++ x7) x29 x30 (wrap64 (x31 + 1))) else (none))) else (none))) else ((some (([(⟨(rd_T37 x29 x31).f0, (rd_T37 x29 x31).f1⟩ : S32)] : List (S32)) : List (S32))).bind fun y219 => (if x6.length + y219.length < 4398046511104 then (laws_FnSignatures.l0 k x0 x1 x5 (x6 ++ y219) x7 x29 x30 (wrap64 (x31 + 1))) else (none)))) else (none)) else (none))) else ((some (([(⟨(rd_T37 x29 x31).f0, (rd_T37 x29 x31).f1⟩ : S32)] : List (S32)) : List (S32))).bind fun y225 => (if x6.length + y225.length < 4398046511104 then (laws_FnSignatures.l0 k x0 x1 x5 (x6 ++ y225) x7 x29 x30 (wrap64 (x31 + 1))) else (none)))) else (none)) else (none)) else ((laws_pairs.f k x0).bind fun t231 => ((spec_SignatureFor.f k t231 x7).bind fun bt234 => ((impl_SignatureFor.f x0 x7).bind fun t236 => ((impl_Signature.f x5).bind fun t237 => (if t236 = t237 then (if bt234.2 = 1 then ((impl_Signature.f x5).bind fun t238 => (if t238 = bt234.1 then ((impl_SignatureWithout.f x0 x7).bind fun t239 => ((impl_Signature.f x6).bind fun t240 => (some (t239 == t240)))) else (some false))) else ((impl_SignatureWithout.f x0 x7).bind fun t241 => ((impl_Signature.f x6).bind fun t242 => (some (t241 == t242))))) else (some false))))))
end
def laws_FnSignatures.f (k : Nat) (l0 : List (S32)) (l1 : List Bool) : Option (Bool) := (laws_zzFits1.f k l0).bind fun t191 => (if t191 = true then (laws_FnSignatures.j0 k l0 l1 (decide ((l1.length : Int) > 2147483647))) else (laws_FnSignatures.j0 k l0 l1 true))
theorem laws_FnSignatures.mono_l : ∀ k, (∀ y0 y1 y2, LeO (laws_FnSignatures.j0 k y0 y1 y2) (laws_FnSignatures.j0 (k + 1) y0 y1 y2)) ∧ (∀ y0 y1 y2 y3 y4 y5 y6 y7, LeO (laws_FnSignatures.l0 k y0 y1 y2 y3 y4 y5 y6 y7) (laws_FnSignatures.l0 (k + 1) y0 y1 y2 y3 y4 y5 y6 y7))
  | 0 => ⟨fun _ _ _ r h => by simp [laws_FnSignatures.j0] at h, fun _ _ _ _ _ _ _ _ r h => by simp [laws_FnSignatures.l0] at h⟩
  | k + 1 => by
    obtain ⟨ih0, ih1⟩ := laws_FnSignatures.mono_l k
    refine ⟨?_, ?_⟩
    · intro y0 y1 y2
      unfold laws_FnSignatures.j0
      repeat' first
      | (with_reducible exact ih0 _ _ _)
      | (with_reducible exact ih1 _ _ _ _ _ _ _ _)
      | (with_reducible exact laws_pairs.mono _ _)
      | (with_reducible exact laws_zzFits1.mono _ _)
      | (with_reducible exact spec_Set.mono _ _)
      | (with_reducible exact spec_SignatureFor.mono _ _ _)
      | (with_reducible exact LeO.refl _)
      | (with_reducible exact LeO.none _)
      | (with_reducible refine LeO.ite ?_ ?_)
      | (with_reducible refine LeO.bind ?_ (fun _ => ?_))
      | exact ih0 _ _ _
      | exact ih1 _ _ _ _ _ _ _ _
      | exact laws_pairs.mono _ _
      | exact laws_zzFits1.mono _ _
      | exact spec_Set.mono _ _
      | exact spec_SignatureFor.mono _ _ _
      | exact LeO.none _
      | refine LeO.ite ?_ ?_
      | refine LeO.bind ?_ (fun _ => ?_)
    · intro y0 y1 y2 y3 y4 y5 y6 y7
      unfold laws_FnSignatures.l0
      repeat' first
      | (with_reducible exact ih0 _ _ _)
      | (with_reducible exact ih1 _ _ _ _ _ _ _ _)
      | (with_reducible exact laws_pairs.mono _ _)
      | (with_reducible exact laws_zzFits1.mono _ _)
      | (with_reducible exact spec_Set.mono _ _)
      | (with_reducible exact spec_SignatureFor.mono _ _ _)
      | (with_reducible exact LeO.refl _)
      | (with_reducible exact LeO.none _)
      | (with_reducible refine LeO.ite ?_ ?_)
      | (with_reducible refine LeO.bind ?_ (fun _ => ?_))
      | exact ih0 _ _ _
      | exact ih1 _ _ _ _ _ _ _ _
      | exact laws_pairs.mono _ _
      | exact laws_zzFits1.mono _ _
      | exact spec_Set.mono _ _
      | exact spec_SignatureFor.mono _ _ _
      | exact LeO.none _
      | refine LeO.ite ?_ ?_
      | refine LeO.bind ?_ (fun _ => ?_)
theorem laws_FnSignatures.mono : ∀ a0 a1 k, LeO (laws_FnSignatures.f k a0 a1) (laws_FnSignatures.f (k + 1) a0 a1) := by
  intro a0 a1 k
  obtain ⟨ih0, ih1⟩ := laws_FnSignatures.mono_l k
  unfold laws_FnSignatures.f
  repeat' first
      | (with_reducible exact ih0 _ _ _)
      | (with_reducible exact ih1 _ _ _ _ _ _ _ _)
      | (with_reducible exact laws_pairs.mono _ _)
      | (with_reducible exact laws_zzFits1.mono _ _)
      | (with_reducible exact spec_Set.mono _ _)
      | (with_reducible exact spec_SignatureFor.mono _ _ _)
      | (with_reducible exact LeO.refl _)
      | (with_reducible exact LeO.none _)
      | (with_reducible refine LeO.ite ?_ ?_)
      | (with_reducible refine LeO.bind ?_ (fun _ => ?_))
      | exact ih0 _ _ _
      | exact ih1 _ _ _ _ _ _ _ _
      | exact laws_pairs.mono _ _
      | exact laws_zzFits1.mono _ _
      | exact spec_Set.mono _ _
      | exact spec_SignatureFor.mono _ _ _
      | exact LeO.none _
      | refine LeO.ite ?_ ?_
      | refine LeO.bind ?_ (fun _ => ?_)
def laws_FnSignatures.T13 : Bool × List (List Nat × List Nat) := (true, [([], []), ([], []), ([1], [1]), ([0, 2], [0, 2]), ([], []), ([4], [4]), ([5], [5]), ([], []), ([6, 7, 3], [6, 7]), ([3, 8, 0, 1, 2, 3], [0, 3]), ([8, 9, 0, 1, 2, 3, 4, 5, 6, 7, 8, 9], [7, 8])])
def laws_FnSignatures.B13 : List Nat := [0, 0, 2, 7, 0, 16, 48, 0, 255, 511, 1023]
theorem laws_FnSignatures.tab13 : rtab .any (opsOf Try.f4 13) = laws_FnSignatures.T13 := by kernel_rfl
theorem laws_FnSignatures.bits13 : waitsOk laws_FnSignatures.T13.2 laws_FnSignatures.B13 = true := by kernel_rfl
set_option maxHeartbeats 8000000 in
set_option maxRecDepth 100000 in
theorem laws_FnSignatures.calls (k : Nat) (A0 : Option Addr) (c0 : Nat) (l0 : List (S32)) (A1 : Option Addr) (c1 : Nat) (l1 : List Bool) (r : Bool) (w : World) (hr0 : Kd.C k32 w A0 l0.length l0) (hc0 : l0.length ≤ c0) (hr1 : Kd.C Kd.bool w A1 l1.length l1) (hc1 : l1.length ≤ c1) (h : laws_FnSignatures.f k l0 l1 = some r) :
    Calls Try.prog 4 #[.slice A0 l0.length c0, .slice A1 l1.length c1] w fun e w' => e = .returned (.bool r) ∧ Below w.heap.size w w' := by
  have hu32 := Try.underlying32
  have hu37 := Try.underlying37
  have HR0 := Aside0.mk hr0
  have HC0 := Aside0.mk hc0
  clear hr0 hc0
  have HR1 := Aside0.mk hr1
  have HC1 := Aside0.mk hc1
  clear hr1 hc1
  have HB := Aside0.mk (Below.refl w.heap.size w)
  have H : ((laws_zzFits1.f k l0).bind fun t191 => (if t191 = true then (laws_FnSignatures.j0 k l0 l1 (decide ((l1.length : Int) > 2147483647))) else (laws_FnSignatures.j0 k l0 l1 true))) = some r := h
  clear h
  have HC3 := Aside0.mk H
  clear H
  go_enter Try.func4, Try.ntmps4
  go_upto_region 1 with (fail)
  go_cut [19] (fun v19 wc => ∃ (kq : Nat) (x19_2 : Bool), v19 = .bool x19_2 ∧ Aside0 (laws_FnSignatures.j0 kq l0 l1 x19_2 = some r) ∧ Aside0 (kq ≤ k) ∧ Aside0 (Below w.heap.size w wc))
  case first =>
    have H := HC3.out
    clear HC3
    replace H := Option.bind_eq_some_iff.mp H
    obtain ⟨t191, A40, H⟩ := H
    replace H : (if t191 = true then (laws_FnSignatures.j0 k l0 l1 (decide ((l1.length : Int) > 2147483647))) else (laws_FnSignatures.j0 k l0 l1 true)) = some r := H
    have A4 := Aside0.mk A40
    clear A40
    by_cases c5 : t191 = true
    · subst c5
      have H1 : (laws_FnSignatures.j0 k l0 l1 (decide ((l1.length : Int) > 2147483647))) = some r := by rw [if_pos rfl] at H; exact H
      clear H
      have H := H1
      clear H1
      have H' := Aside0.mk H
      clear H
      go_wp2_with (first | ((with_reducible refine gate_callee (f := 10) rfl ?_); refine goesL_ (some 13) rfl rfl Try.func10 (by kernel_rfl) rfl #[.slice A0 l0.length c0] rfl (by (try simp only [List.map_toArray, List.map_cons, List.map_nil]); first | done | rfl | (simp only [List.length_drop, List.length_take]; rfl)) ?_; (with_reducible refine (laws_zzFits1.calls k _ _ l0 true _ ?side1 ?side2 A4.out).mono ?_); (case side1 => repeat (first | exact (Kd.C_below HR0.out HB.out) | (with_reducible refine Kd.C_alloc ?_ _) | (with_reducible refine Kd.C_drewN ?_ _) | (with_reducible refine Kd.C_drew ?_))); (case side2 => exact HC0.out); rintro e w6 ⟨rfl, hb⟩; refine ⟨_, rfl, ?_⟩; have n0_ := Aside0.mk (below_step (by repeat (first | (with_reducible first | exact HB.out | apply below_alloc | apply pw_below_drewN | apply below_drew1) | exact HB.out)) hb); clear HB; have HB := n0_; clear n0_; (try clear hb); (try clear hb2); (try clear hk); (try clear hi)))
      go_meet
      case rel => exact ⟨_, (decide ((l1.length : Int) > 2147483647)), (by first | rfl | (simp; done) | (simp [*]; done)), H', ⟨by first | omega | exact Nat.le_refl _⟩, ⟨by repeat (first | (with_reducible first | exact HB.out | apply below_alloc | apply pw_below_drewN | apply below_drew1) | exact HB.out)⟩⟩
    · replace c5 := Bool.eq_false_iff.mpr c5
      subst c5
      have H1 : (laws_FnSignatures.j0 k l0 l1 true) = some r := by rw [if_neg (show ¬ (false = true) by decide)] at H; exact H
      clear H
      have H := H1
      clear H1
      have H' := Aside0.mk H
      clear H
      go_wp2_with (first | ((with_reducible refine gate_callee (f := 10) rfl ?_); refine goesL_ (some 13) rfl rfl Try.func10 (by kernel_rfl) rfl #[.slice A0 l0.length c0] rfl (by (try simp only [List.map_toArray, List.map_cons, List.map_nil]); first | done | rfl | (simp only [List.length_drop, List.length_take]; rfl)) ?_; (with_reducible refine (laws_zzFits1.calls k _ _ l0 false _ ?side1 ?side2 A4.out).mono ?_); (case side1 => repeat (first | exact (Kd.C_below HR0.out HB.out) | (with_reducible refine Kd.C_alloc ?_ _) | (with_reducible refine Kd.C_drewN ?_ _) | (with_reducible refine Kd.C_drew ?_))); (case side2 => exact HC0.out); rintro e w7 ⟨rfl, hb⟩; refine ⟨_, rfl, ?_⟩; have n0_ := Aside0.mk (below_step (by repeat (first | (with_reducible first | exact HB.out | apply below_alloc | apply pw_below_drewN | apply below_drew1) | exact HB.out)) hb); clear HB; have HB := n0_; clear n0_; (try clear hb); (try clear hb2); (try clear hk); (try clear hi)))
      go_meet
      case rel => exact ⟨_, (true), (by first | rfl | (simp; done) | (simp [*]; done)), H', ⟨by first | omega | exact Nat.le_refl _⟩, ⟨by repeat (first | (with_reducible first | exact HB.out | apply below_alloc | apply pw_below_drewN | apply below_drew1) | exact HB.out)⟩⟩
  case rest =>
    clear HC3
    try clear c1
    try clear p2
    try clear c4
    try clear c5
    obtain ⟨kq, x19_2, rfl, HA, HJ2, HB⟩ := hcut
    cases kq with
    | zero => exact absurd HA.out (by simp [laws_FnSignatures.j0])
    | succ kj2 =>
      have H := HA.out
      clear HA
      simp only [laws_FnSignatures.j0] at H
      by_cases c8 : x19_2 = true
      · subst c8
        have H1 : (some true) = some r := by rw [if_pos rfl] at H; exact H
        clear H
        have H := H1
        clear H1
        obtain rfl := Option.some.inj H
        go_wp2
        go_ret
        exact ⟨by first | rfl | (simp [errW_none, errW_some] <;> rfl) | (simp [*, errW_none, errW_some] <;> rfl), by repeat (first | (with_reducible first | exact HB.out | apply below_alloc | apply pw_below_drewN | apply below_drew1) | exact HB.out)⟩
      · replace c8 := Bool.eq_false_iff.mpr c8
        subst c8
        have H1 : ((impl_Signature.f (([(⟨(⟨#[97]⟩ : ByteArray), (⟨#[]⟩ : ByteArray)⟩ : S32)] : List (S32)))).bind fun t195 => ((impl_Signature.f ([] : List (S32))).bind fun t196 => (if t195 = t196 then (some false) else ((laws_much.f l0).bind fun t197 => (if t197 = true then (some true) else ((laws_pairs.f kj2 l0).bind fun t198 => ((spec_Set.f kj2 t198).bind fun t201 => (laws_FnSignatures.l0 kj2 l0 l1 ([] : List (S32)) ([] : List (S32)) ([] : List ByteArray) t201 (t201.length : Int) 0)))))))) = some r := by rw [if_neg (show ¬ (false = true) by decide)] at H; exact H
        clear H
        have H := H1
        clear H1
        obtain ⟨y192, hy192⟩ : ∃ y_ : List (S32), y_ = (([(⟨(⟨#[97]⟩ : ByteArray), (⟨#[]⟩ : ByteArray)⟩ : S32)] : List (S32))) := ⟨_, rfl⟩
        replace H : ((impl_Signature.f y192).bind fun t195 => ((impl_Signature.f ([] : List (S32))).bind fun t196 => (if t195 = t196 then (some false) else ((laws_much.f l0).bind fun t197 => (if t197 = true then (some true) else ((laws_pairs.f kj2 l0).bind fun t198 => ((spec_Set.f kj2 t198).bind fun t201 => (laws_FnSignatures.l0 kj2 l0 l1 ([] : List (S32)) ([] : List (S32)) ([] : List ByteArray) t201 (t201.length : Int) 0)))))))) = some r := by first | (rw [hy192]; with_reducible exact H) | (have H2_ := (Option.bind_some _ _).symm.trans H; rw [hy192]; with_reducible exact H2_) | (have H2_ := (Option.bind_some _ _).symm.trans H; with_reducible exact H2_) | with_reducible exact H | (rw [hy192]; exact H) | exact H
        have Ny192 := Aside0.mk hy192
        clear hy192
        replace H := Option.bind_eq_some_iff.mp H
        obtain ⟨t195, A90, H⟩ := H
        replace H : ((impl_Signature.f ([] : List (S32))).bind fun t196 => (if t195 = t196 then (some false) else ((laws_much.f l0).bind fun t197 => (if t197 = true then (some true) else ((laws_pairs.f kj2 l0).bind fun t198 => ((spec_Set.f kj2 t198).bind fun t201 => (laws_FnSignatures.l0 kj2 l0 l1 ([] : List (S32)) ([] : List (S32)) ([] : List ByteArray) t201 (t201.length : Int) 0))))))) = some r := H
        have A9 := Aside0.mk A90
        clear A90
        replace H := Option.bind_eq_some_iff.mp H
        obtain ⟨t196, A100, H⟩ := H
        replace H : (if t195 = t196 then (some false) else ((laws_much.f l0).bind fun t197 => (if t197 = true then (some true) else ((laws_pairs.f kj2 l0).bind fun t198 => ((spec_Set.f kj2 t198).bind fun t201 => (laws_FnSignatures.l0 kj2 l0 l1 ([] : List (S32)) ([] : List (S32)) ([] : List ByteArray) t201 (t201.length : Int) 0)))))) = some r := H
        have A10 := Aside0.mk A100
        clear A100
        by_cases c11 : t195 = t196
        · rw [if_pos c11] at H
          have c11b0 : (t195 == t196) = true := beq_iff_eq.mpr c11
          have c11b1 : (t195 != t196) = false := bne_eq_false_iff_eq.mpr c11
          clear c11
          obtain rfl := Option.some.inj H
          go_wp2_with (first | ((with_reducible refine gate_dst (N := 21) rfl ?_); (try (refine gate_guard (by rfl) ?_; dsimp only)); refine Kd.R_lit k32 _ 32 ?hg (N := 21) ?hd (xs := ([(⟨(⟨#[97]⟩ : ByteArray), (⟨#[]⟩ : ByteArray)⟩ : S32)] : List (S32))) (inner := [.string (⟨#[97]⟩ : ByteArray), .string (⟨#[]⟩ : ByteArray)]) (ok := fun _ => True) (okp := fun _ => True) ?hr ?hp (fun _ hk => hk) trivial (Below.refl _ _) (Nat.le_refl _) (by simp) ?_; (case hd => rfl); (case hg => rfl); (case hr => first | (go_simp; done) | (go_simp; rfl)); (case hp => exact (Reps.c2 (show Kd.M k32 _ _ _ (⟨(⟨#[97]⟩ : ByteArray), (⟨#[]⟩ : ByteArray)⟩ : S32) [.string (⟨#[97]⟩ : ByteArray), .string (⟨#[]⟩ : ByteArray)] from (k32_mkM _ _ _ (⟨(⟨#[97]⟩ : ByteArray), (⟨#[]⟩ : ByteArray)⟩ : S32) )) (Reps.none _ _))); intro v193 w12 ho13 hb hg_ hnew_; clear hg_ hnew_; (first | rw [← Ny192.out] at ho13 | (simp only [Int.reduceToNat] at ho13; rw [← Ny192.out] at ho13)); have n0_ := Aside0.mk (Kd.R_lower ho13 (below_size (by repeat (first | (with_reducible first | exact HB.out | apply below_alloc | apply pw_below_drewN | apply below_drew1) | exact HB.out)))); have n1_ := Aside0.mk (below_step (by repeat (first | (with_reducible first | exact HB.out | apply below_alloc | apply pw_below_drewN | apply below_drew1) | exact HB.out)) hb); clear HB; have HO194 := n0_; have HB := n1_; clear n0_ n1_; clear hb ho13; obtain ⟨Ao14, co14, eo14⟩ := Kd.R_slice HO194.out; subst eo14) | ((with_reducible refine gate_callee (f := 11) rfl ?_); refine goesL_ (some 22) rfl rfl Try.func11 (by kernel_rfl) rfl #[.slice Ao14 y192.length co14] rfl (by (try simp only [List.map_toArray, List.map_cons, List.map_nil]); first | done | rfl | (simp only [List.length_drop, List.length_take]; rfl)) ?_; (with_reducible refine (impl_Signature.calls _ _ y192 t195 _ ?side1 ?side2 A9.out).mono ?_); (case side1 => repeat (first | exact (Kd.R_reads' HO194.out).2.2 | (with_reducible refine Kd.C_alloc ?_ _) | (with_reducible refine Kd.C_drewN ?_ _) | (with_reducible refine Kd.C_drew ?_))); (case side2 => exact (Kd.R_reads' HO194.out).2.1); rintro e w15 ⟨rfl, hb⟩; refine ⟨_, rfl, ?_⟩; have n0_ := Aside0.mk (Kd.R_below (by (with_reducible repeat (first | apply Kd.R_alloc | apply Kd.R_drewN | apply Kd.R_drew)); exact HO194.out) hb); have n1_ := Aside0.mk (below_step (by repeat (first | (with_reducible first | exact HB.out | apply below_alloc | apply pw_below_drewN | apply below_drew1) | exact HB.out)) hb); clear HO194; clear HB; have HO194 := n0_; have HB := n1_; clear n0_ n1_; (try clear hb); (try clear hb2); (try clear hk); (try clear hi)) | ((with_reducible refine gate_callee (f := 11) rfl ?_); refine goesL_ (some 23) rfl rfl Try.func11 (by kernel_rfl) rfl #[.slice none 0 0] rfl (by (try simp only [List.map_toArray, List.map_cons, List.map_nil]); first | done | rfl | (simp only [List.length_drop, List.length_take]; rfl)) ?_; (refine (impl_Signature.calls _ _ ([] : List (S32)) t196 _ ?side1 ?side2 A10.out).mono ?_); (case side1 => exact Kd.C_nil _ _); (case side2 => exact Nat.le_refl _); rintro e w16 ⟨rfl, hb⟩; refine ⟨_, rfl, ?_⟩; have n0_ := Aside0.mk (Kd.R_below (by (with_reducible repeat (first | apply Kd.R_alloc | apply Kd.R_drewN | apply Kd.R_drew)); exact HO194.out) hb); have n1_ := Aside0.mk (below_step (by repeat (first | (with_reducible first | exact HB.out | apply below_alloc | apply pw_below_drewN | apply below_drew1) | exact HB.out)) hb); clear HO194; clear HB; have HO194 := n0_; have HB := n1_; clear n0_ n1_; (try clear hb); (try clear hb2); (try clear hk); (try clear hi)))
          go_ret
          exact ⟨by first | rfl | (simp [errW_none, errW_some] <;> rfl) | (simp [*, errW_none, errW_some] <;> rfl), by repeat (first | (with_reducible first | exact HB.out | apply below_alloc | apply pw_below_drewN | apply below_drew1) | exact HB.out)⟩
        · rw [if_neg c11] at H
          have c11b0 : (t195 == t196) = false := beq_eq_false_iff_ne.mpr c11
          have c11b1 : (t195 != t196) = true := bne_iff_ne.mpr c11
          replace H := Option.bind_eq_some_iff.mp H
          obtain ⟨t197, A170, H⟩ := H
          replace H : (if t197 = true then (some true) else ((laws_pairs.f kj2 l0).bind fun t198 => ((spec_Set.f kj2 t198).bind fun t201 => (laws_FnSignatures.l0 kj2 l0 l1 ([] : List (S32)) ([] : List (S32)) ([] : List ByteArray) t201 (t201.length : Int) 0)))) = some r := H
          have A17 := Aside0.mk A170
          clear A170
          by_cases c18 : t197 = true
          · subst c18
            have H1 : (some true) = some r := by rw [if_pos rfl] at H; exact H
            clear H
            have H := H1
            clear H1
            obtain rfl := Option.some.inj H
            go_wp2_with (first | ((with_reducible refine gate_dst (N := 21) rfl ?_); (try (refine gate_guard (by rfl) ?_; dsimp only)); refine Kd.R_lit k32 _ 32 ?hg (N := 21) ?hd (xs := ([(⟨(⟨#[97]⟩ : ByteArray), (⟨#[]⟩ : ByteArray)⟩ : S32)] : List (S32))) (inner := [.string (⟨#[97]⟩ : ByteArray), .string (⟨#[]⟩ : ByteArray)]) (ok := fun _ => True) (okp := fun _ => True) ?hr ?hp (fun _ hk => hk) trivial (Below.refl _ _) (Nat.le_refl _) (by simp) ?_; (case hd => rfl); (case hg => rfl); (case hr => first | (go_simp; done) | (go_simp; rfl)); (case hp => exact (Reps.c2 (show Kd.M k32 _ _ _ (⟨(⟨#[97]⟩ : ByteArray), (⟨#[]⟩ : ByteArray)⟩ : S32) [.string (⟨#[97]⟩ : ByteArray), .string (⟨#[]⟩ : ByteArray)] from (k32_mkM _ _ _ (⟨(⟨#[97]⟩ : ByteArray), (⟨#[]⟩ : ByteArray)⟩ : S32) )) (Reps.none _ _))); intro v193 w19 ho20 hb hg_ hnew_; clear hg_ hnew_; (first | rw [← Ny192.out] at ho20 | (simp only [Int.reduceToNat] at ho20; rw [← Ny192.out] at ho20)); have n0_ := Aside0.mk (Kd.R_lower ho20 (below_size (by repeat (first | (with_reducible first | exact HB.out | apply below_alloc | apply pw_below_drewN | apply below_drew1) | exact HB.out)))); have n1_ := Aside0.mk (below_step (by repeat (first | (with_reducible first | exact HB.out | apply below_alloc | apply pw_below_drewN | apply below_drew1) | exact HB.out)) hb); clear HB; have HO194 := n0_; have HB := n1_; clear n0_ n1_; clear hb ho20; obtain ⟨Ao21, co21, eo21⟩ := Kd.R_slice HO194.out; subst eo21) | ((with_reducible refine gate_callee (f := 11) rfl ?_); refine goesL_ (some 22) rfl rfl Try.func11 (by kernel_rfl) rfl #[.slice Ao21 y192.length co21] rfl (by (try simp only [List.map_toArray, List.map_cons, List.map_nil]); first | done | rfl | (simp only [List.length_drop, List.length_take]; rfl)) ?_; (with_reducible refine (impl_Signature.calls _ _ y192 t195 _ ?side1 ?side2 A9.out).mono ?_); (case side1 => repeat (first | exact (Kd.R_reads' HO194.out).2.2 | (with_reducible refine Kd.C_alloc ?_ _) | (with_reducible refine Kd.C_drewN ?_ _) | (with_reducible refine Kd.C_drew ?_))); (case side2 => exact (Kd.R_reads' HO194.out).2.1); rintro e w22 ⟨rfl, hb⟩; refine ⟨_, rfl, ?_⟩; have n0_ := Aside0.mk (Kd.R_below (by (with_reducible repeat (first | apply Kd.R_alloc | apply Kd.R_drewN | apply Kd.R_drew)); exact HO194.out) hb); have n1_ := Aside0.mk (below_step (by repeat (first | (with_reducible first | exact HB.out | apply below_alloc | apply pw_below_drewN | apply below_drew1) | exact HB.out)) hb); clear HO194; clear HB; have HO194 := n0_; have HB := n1_; clear n0_ n1_; (try clear hb); (try clear hb2); (try clear hk); (try clear hi)) | ((with_reducible refine gate_callee (f := 11) rfl ?_); refine goesL_ (some 23) rfl rfl Try.func11 (by kernel_rfl) rfl #[.slice none 0 0] rfl (by (try simp only [List.map_toArray, List.map_cons, List.map_nil]); first | done | rfl | (simp only [List.length_drop, List.length_take]; rfl)) ?_; (refine (impl_Signature.calls _ _ ([] : List (S32)) t196 _ ?side1 ?side2 A10.out).mono ?_); (case side1 => exact Kd.C_nil _ _); (case side2 => exact Nat.le_refl _); rintro e w23 ⟨rfl, hb⟩; refine ⟨_, rfl, ?_⟩; have n0_ := Aside0.mk (Kd.R_below (by (with_reducible repeat (first | apply Kd.R_alloc | apply Kd.R_drewN | apply Kd.R_drew)); exact HO194.out) hb); have n1_ := Aside0.mk (below_step (by repeat (first | (with_reducible first | exact HB.out | apply below_alloc | apply pw_below_drewN | apply below_drew1) | exact HB.out)) hb); clear HO194; clear HB; have HO194 := n0_; have HB := n1_; clear n0_ n1_; (try clear hb); (try clear hb2); (try clear hk); (try clear hi)) | ((with_reducible refine gate_callee (f := 12) rfl ?_); refine goesL_ (some 26) rfl rfl Try.func12 (by kernel_rfl) rfl #[.slice A0 l0.length c0] rfl (by (try simp only [List.map_toArray, List.map_cons, List.map_nil]); first | done | rfl | (simp only [List.length_drop, List.length_take]; rfl)) ?_; (with_reducible refine (laws_much.calls _ _ l0 true _ ?side1 ?side2 A17.out).mono ?_); (case side1 => repeat (first | exact (Kd.C_below HR0.out HB.out) | (with_reducible refine Kd.C_alloc ?_ _) | (with_reducible refine Kd.C_drewN ?_ _) | (with_reducible refine Kd.C_drew ?_))); (case side2 => exact HC0.out); rintro e w' ⟨rfl, ⟨nd, rfl⟩⟩; refine ⟨_, rfl, ?_⟩))
            go_ret
            exact ⟨by first | rfl | (simp [errW_none, errW_some] <;> rfl) | (simp [*, errW_none, errW_some] <;> rfl), by repeat (first | (with_reducible first | exact HB.out | apply below_alloc | apply pw_below_drewN | apply below_drew1) | exact HB.out)⟩
          · replace c18 := Bool.eq_false_iff.mpr c18
            subst c18
            have H1 : ((laws_pairs.f kj2 l0).bind fun t198 => ((spec_Set.f kj2 t198).bind fun t201 => (laws_FnSignatures.l0 kj2 l0 l1 ([] : List (S32)) ([] : List (S32)) ([] : List ByteArray) t201 (t201.length : Int) 0))) = some r := by rw [if_neg (show ¬ (false = true) by decide)] at H; exact H
            clear H
            have H := H1
            clear H1
            replace H := Option.bind_eq_some_iff.mp H
            obtain ⟨t198, A240, H⟩ := H
            replace H : ((spec_Set.f kj2 t198).bind fun t201 => (laws_FnSignatures.l0 kj2 l0 l1 ([] : List (S32)) ([] : List (S32)) ([] : List ByteArray) t201 (t201.length : Int) 0)) = some r := H
            have A24 := Aside0.mk A240
            clear A240
            replace H := Option.bind_eq_some_iff.mp H
            obtain ⟨t201, A250, H⟩ := H
            replace H : (laws_FnSignatures.l0 kj2 l0 l1 ([] : List (S32)) ([] : List (S32)) ([] : List ByteArray) t201 (t201.length : Int) 0) = some r := H
            have A25 := Aside0.mk A250
            clear A250
            have H' := Aside0.mk H
            clear H
            go_wp2_with (first | ((with_reducible refine gate_dst (N := 21) rfl ?_); (try (refine gate_guard (by rfl) ?_; dsimp only)); refine Kd.R_lit k32 _ 32 ?hg (N := 21) ?hd (xs := ([(⟨(⟨#[97]⟩ : ByteArray), (⟨#[]⟩ : ByteArray)⟩ : S32)] : List (S32))) (inner := [.string (⟨#[97]⟩ : ByteArray), .string (⟨#[]⟩ : ByteArray)]) (ok := fun _ => True) (okp := fun _ => True) ?hr ?hp (fun _ hk => hk) trivial (Below.refl _ _) (Nat.le_refl _) (by simp) ?_; (case hd => rfl); (case hg => rfl); (case hr => first | (go_simp; done) | (go_simp; rfl)); (case hp => exact (Reps.c2 (show Kd.M k32 _ _ _ (⟨(⟨#[97]⟩ : ByteArray), (⟨#[]⟩ : ByteArray)⟩ : S32) [.string (⟨#[97]⟩ : ByteArray), .string (⟨#[]⟩ : ByteArray)] from (k32_mkM _ _ _ (⟨(⟨#[97]⟩ : ByteArray), (⟨#[]⟩ : ByteArray)⟩ : S32) )) (Reps.none _ _))); intro v193 w26 ho27 hb hg_ hnew_; clear hg_ hnew_; (first | rw [← Ny192.out] at ho27 | (simp only [Int.reduceToNat] at ho27; rw [← Ny192.out] at ho27)); have n0_ := Aside0.mk (Kd.R_lower ho27 (below_size (by repeat (first | (with_reducible first | exact HB.out | apply below_alloc | apply pw_below_drewN | apply below_drew1) | exact HB.out)))); have n1_ := Aside0.mk (below_step (by repeat (first | (with_reducible first | exact HB.out | apply below_alloc | apply pw_below_drewN | apply below_drew1) | exact HB.out)) hb); clear HB; have HO194 := n0_; have HB := n1_; clear n0_ n1_; clear hb ho27; obtain ⟨Ao28, co28, eo28⟩ := Kd.R_slice HO194.out; subst eo28) | ((with_reducible refine gate_callee (f := 11) rfl ?_); refine goesL_ (some 22) rfl rfl Try.func11 (by kernel_rfl) rfl #[.slice Ao28 y192.length co28] rfl (by (try simp only [List.map_toArray, List.map_cons, List.map_nil]); first | done | rfl | (simp only [List.length_drop, List.length_take]; rfl)) ?_; (with_reducible refine (impl_Signature.calls _ _ y192 t195 _ ?side1 ?side2 A9.out).mono ?_); (case side1 => repeat (first | exact (Kd.R_reads' HO194.out).2.2 | (with_reducible refine Kd.C_alloc ?_ _) | (with_reducible refine Kd.C_drewN ?_ _) | (with_reducible refine Kd.C_drew ?_))); (case side2 => exact (Kd.R_reads' HO194.out).2.1); rintro e w29 ⟨rfl, hb⟩; refine ⟨_, rfl, ?_⟩; have n0_ := Aside0.mk (Kd.R_below (by (with_reducible repeat (first | apply Kd.R_alloc | apply Kd.R_drewN | apply Kd.R_drew)); exact HO194.out) hb); have n1_ := Aside0.mk (below_step (by repeat (first | (with_reducible first | exact HB.out | apply below_alloc | apply pw_below_drewN | apply below_drew1) | exact HB.out)) hb); clear HO194; clear HB; have HO194 := n0_; have HB := n1_; clear n0_ n1_; (try clear hb); (try clear hb2); (try clear hk); (try clear hi)) | ((with_reducible refine gate_callee (f := 11) rfl ?_); refine goesL_ (some 23) rfl rfl Try.func11 (by kernel_rfl) rfl #[.slice none 0 0] rfl (by (try simp only [List.map_toArray, List.map_cons, List.map_nil]); first | done | rfl | (simp only [List.length_drop, List.length_take]; rfl)) ?_; (refine (impl_Signature.calls _ _ ([] : List (S32)) t196 _ ?side1 ?side2 A10.out).mono ?_); (case side1 => exact Kd.C_nil _ _); (case side2 => exact Nat.le_refl _); rintro e w30 ⟨rfl, hb⟩; refine ⟨_, rfl, ?_⟩; have n0_ := Aside0.mk (Kd.R_below (by (with_reducible repeat (first | apply Kd.R_alloc | apply Kd.R_drewN | apply Kd.R_drew)); exact HO194.out) hb); have n1_ := Aside0.mk (below_step (by repeat (first | (with_reducible first | exact HB.out | apply below_alloc | apply pw_below_drewN | apply below_drew1) | exact HB.out)) hb); clear HO194; clear HB; have HO194 := n0_; have HB := n1_; clear n0_ n1_; (try clear hb); (try clear hb2); (try clear hk); (try clear hi)) | ((with_reducible refine gate_callee (f := 12) rfl ?_); refine goesL_ (some 26) rfl rfl Try.func12 (by kernel_rfl) rfl #[.slice A0 l0.length c0] rfl (by (try simp only [List.map_toArray, List.map_cons, List.map_nil]); first | done | rfl | (simp only [List.length_drop, List.length_take]; rfl)) ?_; (with_reducible refine (laws_much.calls _ _ l0 false _ ?side1 ?side2 A17.out).mono ?_); (case side1 => repeat (first | exact (Kd.C_below HR0.out HB.out) | (with_reducible refine Kd.C_alloc ?_ _) | (with_reducible refine Kd.C_drewN ?_ _) | (with_reducible refine Kd.C_drew ?_))); (case side2 => exact HC0.out); rintro e w' ⟨rfl, ⟨nd, rfl⟩⟩; refine ⟨_, rfl, ?_⟩) | ((with_reducible refine gate_callee (f := 14) rfl ?_); refine goesL_ (some 28) rfl rfl Try.func14 (by kernel_rfl) rfl #[.slice A0 l0.length c0] rfl (by (try simp only [List.map_toArray, List.map_cons, List.map_nil]); first | done | rfl | (simp only [List.length_drop, List.length_take]; rfl)) ?_; (with_reducible refine (laws_pairs.calls kj2 _ _ l0 t198 _ ?side1 ?side2 A24.out).mono ?_); (case side1 => repeat (first | exact (Kd.C_below HR0.out (by repeat (first | (with_reducible first | exact HB.out | apply below_alloc | apply pw_below_drewN | apply below_drew1) | exact HB.out))) | (with_reducible refine Kd.C_alloc ?_ _) | (with_reducible refine Kd.C_drewN ?_ _) | (with_reducible refine Kd.C_drew ?_))); (case side2 => exact HC0.out); rintro e w31 ⟨v199, rfl, ho0, hb⟩; refine ⟨_, rfl, ?_⟩; have n0_ := Aside0.mk (Kd.R_below (by (with_reducible repeat (first | apply Kd.R_alloc | apply Kd.R_drewN | apply Kd.R_drew)); exact HO194.out) hb); have n1_ := Aside0.mk (Kd.R_lower ho0 (below_size (by repeat (first | (with_reducible first | exact HB.out | apply below_alloc | apply pw_below_drewN | apply below_drew1) | exact HB.out)))); have n2_ := Aside0.mk (below_step (by repeat (first | (with_reducible first | exact HB.out | apply below_alloc | apply pw_below_drewN | apply below_drew1) | exact HB.out)) hb); clear HO194; clear HB; have HO194 := n0_; have HO200 := n1_; have HB := n2_; clear n0_ n1_ n2_; (try clear hb); (try clear hb2); (try clear hk); (try clear hi); (try clear ho0); obtain ⟨Ao32, co32, eo32⟩ := Kd.R_slice HO200.out; subst eo32) | ((with_reducible refine gate_callee (f := 13) rfl ?_); refine goesL_ (some 29) rfl rfl Try.func13 (by kernel_rfl) rfl #[.slice Ao32 t198.length co32] rfl (by (try simp only [List.map_toArray, List.map_cons, List.map_nil]); first | done | rfl | (simp only [List.length_drop, List.length_take]; rfl)) ?_; (with_reducible refine (spec_Set.calls kj2 _ _ t198 t201 _ ?side1 ?side2 A25.out).mono ?_); (case side1 => repeat (first | exact (Kd.R_reads' HO200.out).2.2 | (with_reducible refine Kd.C_alloc ?_ _) | (with_reducible refine Kd.C_drewN ?_ _) | (with_reducible refine Kd.C_drew ?_))); (case side2 => exact (Kd.R_reads' HO200.out).2.1); rintro e w33 ⟨v202, rfl, ho0, hb⟩; refine ⟨_, rfl, ?_⟩; have n0_ := Aside0.mk (Kd.R_below (by (with_reducible repeat (first | apply Kd.R_alloc | apply Kd.R_drewN | apply Kd.R_drew)); exact HO194.out) hb); have n1_ := Aside0.mk (Kd.R_elder' (by (with_reducible repeat (first | apply Kd.R_alloc | apply Kd.R_drewN | apply Kd.R_drew)); exact HO200.out) (Kd.R_base ho0) hb); have n2_ := Aside0.mk (Kd.R_lower (Kd.R_new' ho0 (Kd.R_lt (by (with_reducible repeat (first | apply Kd.R_alloc | apply Kd.R_drewN | apply Kd.R_drew)); exact HO200.out))) (below_size (by repeat (first | (with_reducible first | exact HB.out | apply below_alloc | apply pw_below_drewN | apply below_drew1) | exact HB.out)))); have n3_ := Aside0.mk (below_step (by repeat (first | (with_reducible first | exact HB.out | apply below_alloc | apply pw_below_drewN | apply below_drew1) | exact HB.out)) hb); clear HO194; clear HO200; clear HB; have HO194 := n0_; have HO200 := n1_; have HO203 := n2_; have HB := n3_; clear n0_ n1_ n2_ n3_; (try clear hb); (try clear hb2); (try clear hk); (try clear hi); (try clear ho0); obtain ⟨Ao34, co34, eo34⟩ := Kd.R_slice HO203.out; subst eo34))
            go_loopg [5, 6, 7, 31] kj2 (fun kq v5 v6 v7 v31 w' => ∃ (x5_2 : List (S32)) (x6_2 : List (S32)) (x7_2 : List ByteArray) (x31_2 : Int), v31 = .int .i64 x31_2 ∧ Aside0 (laws_FnSignatures.l0 kq l0 l1 x5_2 x6_2 x7_2 t201 (t201.length : Int) x31_2 = some r) ∧ Aside0 (kq ≤ kj2) ∧ Aside0 (Kd.R k32 32 w' w.heap.size (fun k_ => some k_ ≠ (v6 : Value).ownBlock) v5 x5_2) ∧ Aside0 (Kd.R k32 32 w' w.heap.size (fun k_ => some k_ ≠ (v5 : Value).ownBlock) v6 x6_2) ∧ Aside0 (Kd.R Kd.string 9 w' w.heap.size (fun _ => True) v7 x7_2) ∧ Aside0 (Kd.R k37 37 w' w.heap.size (fun _ => True) (.slice Ao34 t201.length co34) t201) ∧ Aside0 (Below w.heap.size w w'))
            case atStart => exact ⟨(([] : List (S32))), (([] : List (S32))), (([] : List ByteArray)), (0), (by first | rfl | (simp; done) | (simp [*]; done)), H', ⟨Nat.le_refl _⟩, ⟨by first | exact Kd.R_nil _ _ _ _ _ | exact Kd.N_nil _ _ _ _ _ | exact Kd.V_nil _ _ _ _ _ | exact Kd.Q_nil _ _ _ _ _ | exact Kd.S_nil _ _ _ _ _⟩, ⟨by first | exact Kd.R_nil _ _ _ _ _ | exact Kd.N_nil _ _ _ _ _ | exact Kd.V_nil _ _ _ _ _ | exact Kd.Q_nil _ _ _ _ _ | exact Kd.S_nil _ _ _ _ _⟩, ⟨by first | exact Kd.R_nil _ _ _ _ _ | exact Kd.N_nil _ _ _ _ _ | exact Kd.V_nil _ _ _ _ _ | exact Kd.Q_nil _ _ _ _ _ | exact Kd.S_nil _ _ _ _ _⟩, ⟨by (with_reducible repeat (first | apply Kd.R_alloc | apply Kd.R_drewN | apply Kd.R_drew)); exact Kd.R_mono HO203.out (fun _ hk => trivial)⟩, ⟨by repeat (first | (with_reducible first | exact HB.out | apply below_alloc | apply pw_below_drewN | apply below_drew1) | exact HB.out)⟩⟩
            case round =>
              clear H'
              try clear c1
              try clear c2
              try clear p2
              try clear c4
              try clear c5
              try clear c8
              try clear c10
              try clear c11
              try clear c11b0
              try clear c11b1
              try clear c12
              try clear c13
              try clear c14
              try clear c18
              try clear p2
              obtain ⟨x5_2, x6_2, x7_2, x31_2, rfl, HA, HK2, HO_5, HO_6, HO_7, HO_29, HB⟩ := hrel
              cases gk with
              | zero => exact absurd HA.out (by simp [laws_FnSignatures.l0])
              | succ k2 =>
                have H := HA.out
                clear HA
                simp only [laws_FnSignatures.l0] at H
                by_cases c35 : x31_2 < (t201.length : Int)
                · rw [if_pos c35] at H
                  have c35b0 : decide (x31_2 < (t201.length : Int)) = true := decide_eq_true c35
                  clear c35
                  by_cases c36 : 0 ≤ x31_2
                  · rw [if_pos c36] at H
                    have c36b0 : decide (0 ≤ x31_2) = true := decide_eq_true c36
                    clear c36
                    by_cases c37 : x31_2 < (t201.length : Int)
                    · rw [if_pos c37] at H
                      have c37b0 : decide (x31_2 < (t201.length : Int)) = true := decide_eq_true c37
                      clear c37
                      by_cases c38 : (l1.length : Int) > 0
                      · rw [if_pos c38] at H
                        have c38b0 : decide (0 < (l1.length : Int)) = true := decide_eq_true c38
                        have c38b1 : decide (0 < l1.length) = true := decide_eq_true (by omega)
                        clear c38
                        by_cases c39 : (l1.length : Int) = 0
                        · rw [if_pos c39] at H
                          exact absurd H (by simp)
                        · rw [if_neg c39] at H
                          have c39b0 : ((l1.length : Int) == 0) = false := beq_eq_false_iff_ne.mpr c39
                          have c39b1 : ((l1.length : Int) != 0) = true := bne_iff_ne.mpr c39
                          have c39b2 : ¬ (l1 = []) := fun h_ => c39 (by rw [h_]; rfl)
                          obtain ⟨ji40, hji40⟩ : ∃ j_ : Int, (Int.tmod x31_2 (l1.length : Int)) = j_ := ⟨_, rfl⟩
                          replace H : (if 0 ≤ (ji40) then (if (ji40) < (l1.length : Int) then (if rdOf false l1 (ji40) = true then ((some (([(⟨(rd_T37 t201 x31_2).f0, (rd_T37 t201 x31_2).f1⟩ : S32)] : List (S32)) : List (S32))).bind fun y207 => (if x5_2.length + y207.length < 4398046511104 then ((some (([(rd_T37 t201 x31_2).f0] : List ByteArray) : List ByteArray)).bind fun y213 => (if y213.length + x7_2.length < 8796093022208 then (laws_FnSignatures.l0 k2 l0 l1 (x5_2 ++ y207) x6_2 (y213 ++ x7_2) t201 (t201.length : Int) (wrap64 (x31_2 + 1))) else (none))) else (none))) else ((some (([(⟨(rd_T37 t201 x31_2).f0, (rd_T37 t201 x31_2).f1⟩ : S32)] : List (S32)) : List (S32))).bind fun y219 => (if x6_2.length + y219.length < 4398046511104 then (laws_FnSignatures.l0 k2 l0 l1 x5_2 (x6_2 ++ y219) x7_2 t201 (t201.length : Int) (wrap64 (x31_2 + 1))) else (none)))) else (none)) else (none)) = some r := by first | (rw [hji40] at H; exact H) | (simp only [hji40] at H ⊢; exact H)
                          by_cases c41 : 0 ≤ (ji40)
                          · rw [if_pos c41] at H
                            have c41b0 : decide (0 ≤ (ji40)) = true := decide_eq_true c41
                            clear c41
                            by_cases c42 : (ji40) < (l1.length : Int)
                            · rw [if_pos c42] at H
                              have c42b0 : decide ((ji40) < (l1.length : Int)) = true := decide_eq_true c42
                              clear c42
                              obtain ⟨bq43, hbq43⟩ : ∃ b_ : Bool, b_ = (rdOf false l1 (ji40)) := ⟨_, rfl⟩
                              replace H : (if bq43 = true then ((some (([(⟨(rd_T37 t201 x31_2).f0, (rd_T37 t201 x31_2).f1⟩ : S32)] : List (S32)) : List (S32))).bind fun y207 => (if x5_2.length + y207.length < 4398046511104 then ((some (([(rd_T37 t201 x31_2).f0] : List ByteArray) : List ByteArray)).bind fun y213 => (if y213.length + x7_2.length < 8796093022208 then (laws_FnSignatures.l0 k2 l0 l1 (x5_2 ++ y207) x6_2 (y213 ++ x7_2) t201 (t201.length : Int) (wrap64 (x31_2 + 1))) else (none))) else (none))) else ((some (([(⟨(rd_T37 t201 x31_2).f0, (rd_T37 t201 x31_2).f1⟩ : S32)] : List (S32)) : List (S32))).bind fun y219 => (if x6_2.length + y219.length < 4398046511104 then (laws_FnSignatures.l0 k2 l0 l1 x5_2 (x6_2 ++ y219) x7_2 t201 (t201.length : Int) (wrap64 (x31_2 + 1))) else (none)))) = some r := by rw [← hbq43] at H; exact H
                              have Nbq43 := Aside0.mk hbq43
                              clear hbq43
                              by_cases c44 : bq43 = true
                              · subst c44
                                have H1 : ((some (([(⟨(rd_T37 t201 x31_2).f0, (rd_T37 t201 x31_2).f1⟩ : S32)] : List (S32)) : List (S32))).bind fun y207 => (if x5_2.length + y207.length < 4398046511104 then ((some (([(rd_T37 t201 x31_2).f0] : List ByteArray) : List ByteArray)).bind fun y213 => (if y213.length + x7_2.length < 8796093022208 then (laws_FnSignatures.l0 k2 l0 l1 (x5_2 ++ y207) x6_2 (y213 ++ x7_2) t201 (t201.length : Int) (wrap64 (x31_2 + 1))) else (none))) else (none))) = some r := by rw [if_pos rfl] at H; exact H
                                clear H
                                have H := H1
                                clear H1
                                obtain ⟨y207, hy207⟩ : ∃ y_ : List (S32), y_ = (([(⟨(rd_T37 t201 x31_2).f0, (rd_T37 t201 x31_2).f1⟩ : S32)] : List (S32))) := ⟨_, rfl⟩
                                replace H : (if x5_2.length + y207.length < 4398046511104 then ((some (([(rd_T37 t201 x31_2).f0] : List ByteArray) : List ByteArray)).bind fun y213 => (if y213.length + x7_2.length < 8796093022208 then (laws_FnSignatures.l0 k2 l0 l1 (x5_2 ++ y207) x6_2 (y213 ++ x7_2) t201 (t201.length : Int) (wrap64 (x31_2 + 1))) else (none))) else (none)) = some r := by first | (rw [hy207]; with_reducible exact H) | (have H2_ := (Option.bind_some _ _).symm.trans H; rw [hy207]; with_reducible exact H2_) | (have H2_ := (Option.bind_some _ _).symm.trans H; with_reducible exact H2_) | with_reducible exact H | (rw [hy207]; exact H) | exact H
                                have Ny207 := Aside0.mk hy207
                                clear hy207
                                by_cases c45 : x5_2.length + y207.length < 4398046511104
                                · rw [if_pos c45] at H
                                  have LMc45 := Aside0.mk c45
                                  clear c45
                                  obtain ⟨y210, hy210⟩ : ∃ y_ : List (S32), y_ = (x5_2 ++ y207) := ⟨_, rfl⟩
                                  replace H : ((some (([(rd_T37 t201 x31_2).f0] : List ByteArray) : List ByteArray)).bind fun y213 => (if y213.length + x7_2.length < 8796093022208 then (laws_FnSignatures.l0 k2 l0 l1 y210 x6_2 (y213 ++ x7_2) t201 (t201.length : Int) (wrap64 (x31_2 + 1))) else (none))) = some r := by first | (rw [hy210]; with_reducible exact H) | (have H2_ := (Option.bind_some _ _).symm.trans H; rw [hy210]; with_reducible exact H2_) | (have H2_ := (Option.bind_some _ _).symm.trans H; with_reducible exact H2_) | with_reducible exact H | (rw [hy210]; exact H) | exact H
                                  have Ny210 := Aside0.mk hy210
                                  clear hy210
                                  obtain ⟨y213, hy213⟩ : ∃ y_ : List ByteArray, y_ = (([(rd_T37 t201 x31_2).f0] : List ByteArray)) := ⟨_, rfl⟩
                                  replace H : (if y213.length + x7_2.length < 8796093022208 then (laws_FnSignatures.l0 k2 l0 l1 y210 x6_2 (y213 ++ x7_2) t201 (t201.length : Int) (wrap64 (x31_2 + 1))) else (none)) = some r := by first | (rw [hy213]; with_reducible exact H) | (have H2_ := (Option.bind_some _ _).symm.trans H; rw [hy213]; with_reducible exact H2_) | (have H2_ := (Option.bind_some _ _).symm.trans H; with_reducible exact H2_) | with_reducible exact H | (rw [hy213]; exact H) | exact H
                                  have Ny213 := Aside0.mk hy213
                                  clear hy213
                                  by_cases c46 : y213.length + x7_2.length < 8796093022208
                                  · rw [if_pos c46] at H
                                    have LMc46 := Aside0.mk c46
                                    clear c46
                                    obtain ⟨y216, hy216⟩ : ∃ y_ : List ByteArray, y_ = (y213 ++ x7_2) := ⟨_, rfl⟩
                                    replace H : (laws_FnSignatures.l0 k2 l0 l1 y210 x6_2 y216 t201 (t201.length : Int) (wrap64 (x31_2 + 1))) = some r := by first | (rw [hy216]; with_reducible exact H) | (have H2_ := (Option.bind_some _ _).symm.trans H; rw [hy216]; with_reducible exact H2_) | (have H2_ := (Option.bind_some _ _).symm.trans H; with_reducible exact H2_) | with_reducible exact H | (rw [hy216]; exact H) | exact H
                                    have Ny216 := Aside0.mk hy216
                                    clear hy216
                                    have H' := Aside0.mk H
                                    clear H
                                    have p204 : 0 ≤ (x31_2 : Int) := of_decide_eq_true (by first | (with_reducible assumption) | assumption)
                                    have q204 : x31_2 < (t201.length : Int) := of_decide_eq_true (by first | (with_reducible assumption) | assumption)
                                    obtain ⟨ad204, e204, hx204_0, hx204_1⟩ := at_T37 (Kd.R_reads' HO_29.out).2.2 x31_2 p204 q204
                                    cases e204
                                    replace p204 := eq_true p204
                                    replace q204 := eq_true q204
                                    try go_wp2_with (first | ((with_reducible refine gate_dst (N := 9) rfl ?_); (try (refine gate_guard (by rfl) ?_; dsimp only)); refine box_event ?hg (N := 9) ?hd (cs := #[.string (⟨#[]⟩ : ByteArray), .string (⟨#[]⟩ : ByteArray)]) (t := 37) ?hr ?_; (case hd => rfl); (case hg => rfl); (case hr => first | (go_simp; done) | (go_simp; rfl)); intro gb205 hg w47 hbox hb; have n0_ := Aside0.mk (Kd.R_below (by (with_reducible repeat (first | apply Kd.R_alloc | apply Kd.R_drewN | apply Kd.R_drew)); exact HO_5.out) hb); have n1_ := Aside0.mk (Kd.R_below (by (with_reducible repeat (first | apply Kd.R_alloc | apply Kd.R_drewN | apply Kd.R_drew)); exact HO_6.out) hb); have n2_ := Aside0.mk (Kd.R_below (by (with_reducible repeat (first | apply Kd.R_alloc | apply Kd.R_drewN | apply Kd.R_drew)); exact HO_7.out) hb); have n3_ := Aside0.mk (Kd.R_below (Kd.R_elderB (by (with_reducible repeat (first | apply Kd.R_alloc | apply Kd.R_drewN | apply Kd.R_drew)); exact HO_29.out) gb205 (Nat.le_of_eq hg.symm)) hb); have n4_ := Aside0.mk (below_step (by repeat (first | (with_reducible first | exact HB.out | apply below_alloc | apply pw_below_drewN | apply below_drew1) | exact HB.out)) hb); have n5_ := Aside0.mk (hbox); have n6_ := Aside0.mk ((by rw [hg]; exact (below_size (by repeat (first | (with_reducible first | exact HB.out | apply below_alloc | apply pw_below_drewN | apply below_drew1) | exact HB.out))) : w.heap.size ≤ gb205)); have n7_ := Aside0.mk ((by rw [hg]; exact (below_size (by repeat (first | (with_reducible first | exact HB.out | apply below_alloc | apply pw_below_drewN | apply below_drew1) | exact HB.out))) : w.heap.size ≤ gb205)); clear HO_5; clear HO_6; clear HO_7; clear HO_29; clear HB; have HO_5 := n0_; have HO_6 := n1_; have HO_7 := n2_; have HO_29 := n3_; have HB := n4_; have BK205 := n5_; have GW205 := n6_; have GE205 := n7_; clear n0_ n1_ n2_ n3_ n4_ n5_ n6_ n7_; clear hb hbox hg; have hcz48_0 : w47.cell? ⟨gb205, 0, none⟩ = some (.string (⟨#[]⟩ : ByteArray)) := (blk_cell BK205.out 0).trans rfl; have hcz48_1 : w47.cell? ⟨gb205, 1, none⟩ = some (.string (⟨#[]⟩ : ByteArray)) := (blk_cell BK205.out 1).trans rfl; have hfz48_0 := blk_frozen BK205.out 0; have hfz48_1 := blk_frozen BK205.out 1; have p206 : 0 ≤ ((ji40) : Int) := of_decide_eq_true (by first | (with_reducible assumption) | assumption); have q206 : (ji40) < (l1.length : Int) := of_decide_eq_true (by first | (with_reducible assumption) | assumption); obtain ⟨ad206, e206, hx206_0⟩ := Kd.at_bool HR1.out (ji40) p206 q206; (try rw [← Nbq43.out] at hx206_0); cases e206; have hn206_0 : ad206.block ≠ gb205 := Nat.ne_of_lt (Nat.lt_of_lt_of_le (by have := World.block_lt_of_cell? _ _ hx206_0; first | rwa [add_block] at this | exact this) GW205.out); have hn206_1 : ad206.block ≠ gb205 := Nat.ne_of_lt (Nat.lt_of_lt_of_le (by have := World.block_lt_of_cell? _ _ hx206_0; first | rwa [add_block] at this | exact this) GW205.out); replace hx206_0 := (HB.out.cell (World.block_lt_of_cell? w _ hx206_0)).trans hx206_0; replace hx206_0 := (cell_far (p := ⟨gb205, 0, none⟩) (by first | (rw [add_block]; exact hn206_0) | (show (Addr.add _ _).block ≠ _; rw [add_block]; exact hn206_0) | exact hn206_0) (.string ((rd_T37 t201 x31_2).f0))).trans hx206_0; replace hx206_0 := (cell_far (p := ⟨gb205, 1, none⟩) (by first | (rw [add_block]; exact hn206_1) | (show (Addr.add _ _).block ≠ _; rw [add_block]; exact hn206_1) | exact hn206_1) (.string ((rd_T37 t201 x31_2).f1))).trans hx206_0; clear hn206_0; clear hn206_1; replace p206 := eq_true p206; replace q206 := eq_true q206; obtain ⟨Ao49, co49, eo49⟩ := Kd.R_slice HO_5.out; subst eo49; obtain ⟨Ao50, co50, eo50⟩ := Kd.R_slice HO_7.out; subst eo50))
                                    have n0_ : Aside0 (Kd.R k32 32 ((w47.setCell ⟨gb205, 0, none⟩ (.string ((rd_T37 t201 x31_2).f0))).setCell ⟨gb205, 1, none⟩ (.string ((rd_T37 t201 x31_2).f1))) w.heap.size (fun k_ => some k_ ≠ (u6 : Value).ownBlock) (.slice Ao49 x5_2.length co49) x5_2) := ⟨by (with_reducible repeat (first | apply Kd.R_alloc | apply Kd.R_drewN | apply Kd.R_drew)); exact Kd.R_mono (Kd.R_far (p := ⟨gb205, 1, none⟩) (Kd.R_far (p := ⟨gb205, 0, none⟩) (Kd.R_types HO_5.out BK205.out (by decide)) (fun _ hk => hk.2) (.string ((rd_T37 t201 x31_2).f0))) (fun _ hk => hk.2) (.string ((rd_T37 t201 x31_2).f1))) (fun _ hk => hk.1)⟩
                                    have n1_ : Aside0 (Kd.R k32 32 ((w47.setCell ⟨gb205, 0, none⟩ (.string ((rd_T37 t201 x31_2).f0))).setCell ⟨gb205, 1, none⟩ (.string ((rd_T37 t201 x31_2).f1))) w.heap.size (fun k_ => some k_ ≠ (.slice Ao49 x5_2.length co49 : Value).ownBlock) u6 x6_2) := ⟨by (with_reducible repeat (first | apply Kd.R_alloc | apply Kd.R_drewN | apply Kd.R_drew)); exact Kd.R_mono (Kd.R_far (p := ⟨gb205, 1, none⟩) (Kd.R_far (p := ⟨gb205, 0, none⟩) (Kd.R_types HO_6.out BK205.out (by decide)) (fun _ hk => hk.2) (.string ((rd_T37 t201 x31_2).f0))) (fun _ hk => hk.2) (.string ((rd_T37 t201 x31_2).f1))) (fun _ hk => hk.1)⟩
                                    have n2_ : Aside0 (Kd.R Kd.string 9 ((w47.setCell ⟨gb205, 0, none⟩ (.string ((rd_T37 t201 x31_2).f0))).setCell ⟨gb205, 1, none⟩ (.string ((rd_T37 t201 x31_2).f1))) w.heap.size (fun _ => True) (.slice Ao50 x7_2.length co50) x7_2) := ⟨by (with_reducible repeat (first | apply Kd.R_alloc | apply Kd.R_drewN | apply Kd.R_drew)); exact Kd.R_mono (Kd.R_far (p := ⟨gb205, 1, none⟩) (Kd.R_far (p := ⟨gb205, 0, none⟩) (Kd.R_types HO_7.out BK205.out (by decide)) (fun _ hk => hk.2) (.string ((rd_T37 t201 x31_2).f0))) (fun _ hk => hk.2) (.string ((rd_T37 t201 x31_2).f1))) (fun _ hk => trivial)⟩
                                    have n3_ : Aside0 (Kd.R k37 37 ((w47.setCell ⟨gb205, 0, none⟩ (.string ((rd_T37 t201 x31_2).f0))).setCell ⟨gb205, 1, none⟩ (.string ((rd_T37 t201 x31_2).f1))) w.heap.size (fun k_ => k_ ≠ gb205) (.slice (some ad204) t201.length co34) t201) := ⟨by (with_reducible repeat (first | apply Kd.R_alloc | apply Kd.R_drewN | apply Kd.R_drew)); exact Kd.R_mono (Kd.R_far (p := ⟨gb205, 1, none⟩) (Kd.R_far (p := ⟨gb205, 0, none⟩) (Kd.R_mono HO_29.out (fun k_ hk => (⟨hk, hk.2⟩ : _ ∧ k_ ≠ gb205))) (fun _ hk => hk.2) (.string ((rd_T37 t201 x31_2).f0))) (fun _ hk => hk.2) (.string ((rd_T37 t201 x31_2).f1))) (fun _ hk => hk.1.2)⟩
                                    have n4_ : Aside0 (((w47.setCell ⟨gb205, 0, none⟩ (.string ((rd_T37 t201 x31_2).f0))).setCell ⟨gb205, 1, none⟩ (.string ((rd_T37 t201 x31_2).f1))).heap[gb205]? = some (.cells #[.string ((rd_T37 t201 x31_2).f0), .string ((rd_T37 t201 x31_2).f1)] 37 (0, 0))) := ⟨by (with_reducible repeat (first | refine blk_drewN ?_ _ | refine blk_drew ?_ | refine blk_alloc ?_ _)); refine blk_put (cs := #[.string ((rd_T37 t201 x31_2).f0), .string (⟨#[]⟩ : ByteArray)]) ?_ 1 _ rfl; (with_reducible repeat (first | refine blk_drewN ?_ _ | refine blk_drew ?_ | refine blk_alloc ?_ _)); refine blk_put (cs := #[.string (⟨#[]⟩ : ByteArray), .string (⟨#[]⟩ : ByteArray)]) ?_ 0 _ rfl; (with_reducible repeat (first | refine blk_drewN ?_ _ | refine blk_drew ?_ | refine blk_alloc ?_ _)); exact BK205.out⟩
                                    have n5_ : Aside0 (Below w.heap.size w ((w47.setCell ⟨gb205, 0, none⟩ (.string ((rd_T37 t201 x31_2).f0))).setCell ⟨gb205, 1, none⟩ (.string ((rd_T37 t201 x31_2).f1)))) := ⟨by repeat (first | (with_reducible first | exact HB.out | apply below_alloc | apply pw_below_drewN | apply below_drew1 | refine below_set ?_ GE205.out) | exact HB.out)⟩
                                    (try clear HO_5)
                                    (try clear HO_6)
                                    (try clear HO_7)
                                    (try clear HO_29)
                                    (try clear BK205)
                                    (try clear HB)
                                    generalize ((w47.setCell ⟨gb205, 0, none⟩ (.string ((rd_T37 t201 x31_2).f0))).setCell ⟨gb205, 1, none⟩ (.string ((rd_T37 t201 x31_2).f1))) = w51 at n0_ n1_ n2_ n3_ n4_ n5_ ⊢
                                    have HO_5 := n0_
                                    have HO_6 := n1_
                                    have HO_7 := n2_
                                    have HO_29 := n3_
                                    have BK205 := n4_
                                    have HB := n5_
                                    clear n0_ n1_ n2_ n3_ n4_ n5_
                                    have n0_ := Aside0.mk (Kd.R_drew HO_5.out)
                                    have n1_ := Aside0.mk (Kd.R_drew HO_6.out)
                                    have n2_ := Aside0.mk (Kd.R_drew HO_7.out)
                                    have n3_ := Aside0.mk (Kd.R_drew HO_29.out)
                                    have n4_ := Aside0.mk (blk_drew BK205.out)
                                    have n5_ := Aside0.mk (below_drew1 HB.out)
                                    clear HO_5
                                    clear HO_6
                                    clear HO_7
                                    clear HO_29
                                    clear BK205
                                    clear HB
                                    have HO_5 := n0_
                                    have HO_6 := n1_
                                    have HO_7 := n2_
                                    have HO_29 := n3_
                                    have BK205 := n4_
                                    have HB := n5_
                                    clear n0_ n1_ n2_ n3_ n4_ n5_
                                    refine start_ (n := 11) (S := fun w' => w'.cell? ⟨gb205, 0, none⟩ = some (.string ((rd_T37 t201 x31_2).f0)) ∧ w'.cell? ⟨gb205, 1, none⟩ = some (.string ((rd_T37 t201 x31_2).f1))) (ds := []) #[false, false, false, false, false, false, false, false, false, false, false] (by kernel_rfl) rfl rfl ⟨(blk_cell BK205.out 0).trans rfl, (blk_cell BK205.out 1).trans rfl⟩ (fun hHeld => ?_); refine with_tabW laws_FnSignatures.tab13 laws_FnSignatures.bits13 (fun HT_ HW_ => ?_)
                                    generalize w51.drew = w52 at HO_5 HO_6 HO_7 HO_29 BK205 HB hHeld ⊢
                                    refine pure_ (i := 0) (N := some 48) (v := ?_) (a' := ?_) #[true, false, false, false, false, false, false, false, false, false, false] rfl rfl (any_of HT_.out (by kernel_rfl)) (fun _ _ _ h => h) (Or.inl ⟨by rfl, ?_⟩) ?_ ?_
                                    rotate_left
                                    · intro w'
                                      go_simp
                                      with_reducible rfl
                                    rotate_left
                                    · simp only [Act.put, List.setIfInBounds_toArray, List.set_cons_zero, List.set_cons_succ, i64_w, i32_w]
                                      rfl
                                    refine pure_ (i := 4) (N := some 52) (v := ?_) (a' := ?_) #[true, false, false, false, true, false, false, false, false, false, false] rfl rfl (any_of HT_.out (by kernel_rfl)) (fun _ _ _ h => h) (Or.inl ⟨by rfl, ?_⟩) ?_ ?_
                                    rotate_left
                                    · intro w'
                                      go_simp
                                      with_reducible rfl
                                    rotate_left
                                    · simp only [Act.put, List.setIfInBounds_toArray, List.set_cons_zero, List.set_cons_succ, i64_w, i32_w]
                                      rfl
                                    refine pure_ (i := 7) (N := some 55) (v := ?_) (a' := ?_) #[true, false, false, false, true, false, false, true, false, false, false] rfl rfl (any_of HT_.out (by kernel_rfl)) (fun _ _ _ h => h) (Or.inl ⟨by rfl, ?_⟩) ?_ ?_
                                    rotate_left
                                    · intro w'
                                      go_simp
                                      with_reducible rfl
                                    rotate_left
                                    · simp only [Act.put, List.setIfInBounds_toArray, List.set_cons_zero, List.set_cons_succ, i64_w, i32_w]
                                      rfl
                                    refine take_ (i := 1) (N := some 49) (v := ?_) (a' := ?_) #[true, true, false, false, true, false, false, true, false, false, false] rfl rfl (take_ofW HT_.out HW_.out (by kernel_rfl)) (fun _ _ _ h => h) (Or.inl ⟨by rfl, ?_⟩) hHeld ?_ ?_
                                    rotate_left
                                    · rintro w' ⟨s0, s1⟩
                                      go_simp
                                      with_reducible rfl
                                    rotate_left
                                    · simp only [Act.put, List.setIfInBounds_toArray, List.set_cons_zero, List.set_cons_succ, i64_w, i32_w]
                                      rfl
                                    refine take_ (i := 5) (N := some 53) (v := ?_) (a' := ?_) #[true, true, false, false, true, true, false, true, false, false, false] rfl rfl (take_ofW HT_.out HW_.out (by kernel_rfl)) (fun _ _ _ h => h) (Or.inl ⟨by rfl, ?_⟩) hHeld ?_ ?_
                                    rotate_left
                                    · rintro w' ⟨s0, s1⟩
                                      go_simp
                                      with_reducible rfl
                                    rotate_left
                                    · simp only [Act.put, List.setIfInBounds_toArray, List.set_cons_zero, List.set_cons_succ, i64_w, i32_w]
                                      rfl
                                    refine join_ (σ := Value × Value × Value) 3 #[true, true, true, true, true, true, true, true, false, false, false] (fun s_ => [(50, s_.1), (51, s_.2.1), (54, s_.2.2)]) (fun s_ w' => (w'.cell? ⟨gb205, 0, none⟩ = some (.string ((rd_T37 t201 x31_2).f0)) ∧ w'.cell? ⟨gb205, 1, none⟩ = some (.string ((rd_T37 t201 x31_2).f1))) ∧ (Kd.R k32 32 w' w.heap.size (fun k_ => some k_ ≠ (s_.2.1 : Value).ownBlock ∧ some k_ ≠ (u6 : Value).ownBlock) s_.1 y207) ∧ (Kd.R k32 32 w' w.heap.size (fun k_ => some k_ ≠ (s_.1 : Value).ownBlock ∧ some k_ ≠ (u6 : Value).ownBlock) s_.2.1 y210) ∧ (Kd.R Kd.string 9 w' w.heap.size (fun k_ => some k_ ≠ (.slice Ao50 x7_2.length co50 : Value).ownBlock) s_.2.2 y213) ∧ (Kd.R k37 37 w' w.heap.size (fun k_ => k_ ≠ gb205) (.slice (some ad204) t201.length co34) t201) ∧ (Kd.R k32 32 w' w.heap.size (fun k_ => some k_ ≠ (s_.1 : Value).ownBlock ∧ some k_ ≠ (s_.2.1 : Value).ownBlock) u6 x6_2) ∧ (Kd.R Kd.string 9 w' w.heap.size (fun k_ => some k_ ≠ (s_.2.2 : Value).ownBlock) (.slice Ao50 x7_2.length co50) x7_2) ∧ (w'.heap[gb205]? = some (.cells #[.string ((rd_T37 t201 x31_2).f0), .string ((rd_T37 t201 x31_2).f1)] 37 (0, 0))) ∧ (Below w.heap.size w w')) ?_ ?_
                                    rotate_left
                                    · intro hCont
                                      refine two_ (i := 2) (j := 6) (Ni := some 50) (Nj := some 54) #[true, true, true, false, true, true, false, true, false, false, false] #[true, true, false, false, true, true, true, true, false, false, false] rfl rfl rfl rfl (two_of HT_.out (by kernel_rfl)) (by decide) (by decide) (fun K hK => ?_) (fun K hK => ?_)
                                      · skip
                                        refine Kd.R_lit_step k32 _ 32 ?hg (N := 50) ?hd (xs := ([(⟨(rd_T37 t201 x31_2).f0, (rd_T37 t201 x31_2).f1⟩ : S32)] : List (S32))) (inner := [.string ((rd_T37 t201 x31_2).f0), .string ((rd_T37 t201 x31_2).f1)]) (ok := fun _ => True) (okp := fun _ => True) ?hr ?hp (fun _ hk => hk) trivial (Below.refl _ _) (Nat.le_refl _) (by simp) ?_; (case hd => rfl); (case hg => rfl); (case hr => first | (go_simp; done) | (go_simp; rfl)); (case hp => exact (Reps.c2 (show Kd.M k32 _ _ _ (⟨(rd_T37 t201 x31_2).f0, (rd_T37 t201 x31_2).f1⟩ : S32) [.string ((rd_T37 t201 x31_2).f0), .string ((rd_T37 t201 x31_2).f1)] from (k32_mkM _ _ _ (⟨(rd_T37 t201 x31_2).f0, (rd_T37 t201 x31_2).f1⟩ : S32) )) (Reps.none _ _)))
                                        intro v208 w53 ho54 hb hg_ hnew_
                                        clear hg_ hnew_
                                        (first | rw [← Ny207.out] at ho54 | (simp only [Int.reduceToNat] at ho54; rw [← Ny207.out] at ho54))
                                        have n0_ := Aside0.mk (Kd.R_elder' (by (with_reducible repeat (first | apply Kd.R_alloc | apply Kd.R_drewN | apply Kd.R_drew)); exact HO_5.out) (Kd.R_base ho54) hb)
                                        have n1_ := Aside0.mk (Kd.R_elder' (by (with_reducible repeat (first | apply Kd.R_alloc | apply Kd.R_drewN | apply Kd.R_drew)); exact HO_6.out) (Kd.R_base ho54) hb)
                                        have n2_ := Aside0.mk (Kd.R_below (by (with_reducible repeat (first | apply Kd.R_alloc | apply Kd.R_drewN | apply Kd.R_drew)); exact HO_7.out) hb)
                                        have n3_ := Aside0.mk (Kd.R_below (by (with_reducible repeat (first | apply Kd.R_alloc | apply Kd.R_drewN | apply Kd.R_drew)); exact HO_29.out) hb)
                                        have n4_ := Aside0.mk (Kd.R_lower (Kd.R_new' (Kd.R_new' ho54 (Kd.R_lt (by (with_reducible repeat (first | apply Kd.R_alloc | apply Kd.R_drewN | apply Kd.R_drew)); exact HO_5.out))) (Kd.R_lt (by (with_reducible repeat (first | apply Kd.R_alloc | apply Kd.R_drewN | apply Kd.R_drew)); exact HO_6.out))) (below_size (by repeat (first | (with_reducible first | exact HB.out | apply below_alloc | apply pw_below_drewN | apply below_drew1 | refine below_set ?_ GE205.out) | exact HB.out))))
                                        have n5_ := Aside0.mk (blk_below (g := gb205) (o := .cells #[.string ((rd_T37 t201 x31_2).f0), .string ((rd_T37 t201 x31_2).f1)] 37 (0, 0)) (by (with_reducible repeat (first | refine blk_drewN ?_ _ | refine blk_drew ?_ | refine blk_alloc ?_ _)); exact BK205.out) hb)
                                        have n6_ := Aside0.mk (below_step (by repeat (first | (with_reducible first | exact HB.out | apply below_alloc | apply pw_below_drewN | apply below_drew1 | refine below_set ?_ GE205.out) | exact HB.out)) hb)
                                        clear HO_5
                                        clear HO_6
                                        clear HO_7
                                        clear HO_29
                                        clear BK205
                                        clear HB
                                        have HO_5 := n0_
                                        have HO_6 := n1_
                                        have HO_7 := n2_
                                        have HO_29 := n3_
                                        have HO209 := n4_
                                        have BK205 := n5_
                                        have HB := n6_
                                        clear n0_ n1_ n2_ n3_ n4_ n5_ n6_
                                        clear hb ho54
                                        obtain ⟨Ao56, co56, eo56⟩ := Kd.R_slice HO209.out
                                        (first | subst eo56 | (injection eo56 with f1_ f2_ f3_; have f4_ := f1_.symm; have f5_ := f3_.symm; clear f1_ f2_ f3_; subst f4_; subst f5_))
                                        refine hK.out _ _ ⟨(blk_cell BK205.out 0).trans rfl, (blk_cell BK205.out 1).trans rfl⟩ (fun hHeld => ?_)
                                        clear hK K
                                        refine norm_ (a' := ?_) ?_ ?_
                                        rotate_left
                                        · show Act.put _ (some 50) _ = _
                                          simp only [Act.put, List.setIfInBounds_toArray, List.set_cons_zero, List.set_cons_succ, i64_w, i32_w]
                                          rfl
                                        refine two_ (i := 3) (j := 6) (Ni := some 51) (Nj := some 54) #[true, true, true, true, true, true, false, true, false, false, false] #[true, true, true, false, true, true, true, true, false, false, false] rfl rfl rfl rfl (two_of HT_.out (by kernel_rfl)) (by decide) (by decide) (fun K hK => ?_) (fun K hK => ?_)
                                        · skip
                                          refine Kd.R_append_rows_step k32 (w0 := w) w.heap.size (by rfl) (.tmp 48) (.tmp 50) 27 32 (.agg #[(.string ⟨#[]⟩), (.string ⟨#[]⟩)]) 32 rfl Try.underlying27 info32 rfl (by decide) (by omega) (.slice Ao49 x5_2.length co49) x5_2 y207 _ _ _ (fun k_ => some k_ ≠ (u6 : Value).ownBlock ∧ some k_ ≠ (.slice Ao56 y207.length co56 : Value).ownBlock) (fun _ => False) rfl rfl ?aO ?aR (fun _ _ h => h) (fun _ h => h.elim) ?aF ?aB ?aS ?aL ?_
                                          (case aR => repeat (first | exact (Kd.R_reads' HO209.out).2.2 | (with_reducible refine Kd.C_alloc ?_ _) | (with_reducible refine Kd.C_drewN ?_ _) | (with_reducible refine Kd.C_drew ?_)))
                                          (case aB => exact (by repeat (first | (with_reducible first | exact HB.out | apply below_alloc | apply pw_below_drewN | apply below_drew1 | refine below_set ?_ GE205.out) | exact HB.out)))
                                          (case aF => exact (fun k_ hk => ⟨Kd.fresh' (Kd.R_lt (by (with_reducible repeat (first | apply Kd.R_alloc | apply Kd.R_drewN | apply Kd.R_drew)); exact HO_6.out)) k_ hk, Kd.fresh' (Kd.R_lt (by (with_reducible repeat (first | apply Kd.R_alloc | apply Kd.R_drewN | apply Kd.R_drew)); exact HO209.out)) k_ hk⟩))
                                          (case aO => exact (by (with_reducible repeat (first | apply Kd.R_alloc | apply Kd.R_drewN | apply Kd.R_drew)); exact HO_5.out))
                                          (case aS => exact (below_size (by repeat (first | (with_reducible first | exact HB.out | apply below_alloc | apply pw_below_drewN | apply below_drew1 | refine below_set ?_ GE205.out) | exact HB.out))))
                                          (case aL => have := LMc45.out; first | omega | exact this | exact Nat.le_of_lt this)
                                          intro v211 w55 ho hb hg hat
                                          rw [← Ny210.out] at ho
                                          have n0_ := Aside0.mk (Kd.R_after (ok := (fun k_ => some k_ ≠ (.slice Ao56 y207.length co56 : Value).ownBlock)) (by (with_reducible repeat (first | apply Kd.R_alloc | apply Kd.R_drewN | apply Kd.R_drew)); exact Kd.R_mono HO_6.out (fun _ hk => ⟨hk.2, hk.1⟩)) hg hat)
                                          have n1_ := Aside0.mk (Kd.R_over' (by (with_reducible repeat (first | apply Kd.R_alloc | apply Kd.R_drewN | apply Kd.R_drew)); exact HO_7.out) (Kd.R_typed (by (with_reducible repeat (first | apply Kd.R_alloc | apply Kd.R_drewN | apply Kd.R_drew)); exact HO_5.out)) (by decide) hg)
                                          have n2_ := Aside0.mk (Kd.R_over' (by (with_reducible repeat (first | apply Kd.R_alloc | apply Kd.R_drewN | apply Kd.R_drew)); exact HO_29.out) (Kd.R_typed (by (with_reducible repeat (first | apply Kd.R_alloc | apply Kd.R_drewN | apply Kd.R_drew)); exact HO_5.out)) (by decide) hg)
                                          have n3_ := Aside0.mk (blk_grown (g := gb205) (o := .cells #[.string ((rd_T37 t201 x31_2).f0), .string ((rd_T37 t201 x31_2).f1)] 37 (0, 0)) (by (with_reducible repeat (first | refine blk_drewN ?_ _ | refine blk_drew ?_ | refine blk_alloc ?_ _)); exact BK205.out) hg (Kd.R_ne HO_5.out BK205.out (by decide)))
                                          have n4_ := Aside0.mk (Kd.R_after (ok := (fun k_ => some k_ ≠ (u6 : Value).ownBlock)) (by (with_reducible repeat (first | apply Kd.R_alloc | apply Kd.R_drewN | apply Kd.R_drew)); exact Kd.R_mono HO209.out (fun _ hk => ⟨hk.2, hk.1.2⟩)) hg hat)
                                          have n5_ := Aside0.mk (hb)
                                          have n6_ := Aside0.mk (ho)
                                          clear HO_6
                                          clear HO_7
                                          clear HO_29
                                          clear BK205
                                          clear HO209
                                          clear HB
                                          clear HO_5
                                          have HO_6 := n0_
                                          have HO_7 := n1_
                                          have HO_29 := n2_
                                          have BK205 := n3_
                                          have HO209 := n4_
                                          have HB := n5_
                                          have HO212 := n6_
                                          clear n0_ n1_ n2_ n3_ n4_ n5_ n6_
                                          clear ho hb hg hat
                                          refine hK.out _ _ ⟨(blk_cell BK205.out 0).trans rfl, (blk_cell BK205.out 1).trans rfl⟩ (fun hHeld => ?_)
                                          clear hK K
                                          refine norm_ (a' := ?_) ?_ ?_
                                          rotate_left
                                          · show Act.put _ (some 51) _ = _
                                            simp only [Act.put, List.setIfInBounds_toArray, List.set_cons_zero, List.set_cons_succ, i64_w, i32_w]
                                            rfl
                                          refine one_ (i := 6) (N := some 54) #[true, true, true, true, true, true, true, true, false, false, false] rfl rfl (one_of HT_.out (by kernel_rfl)) (by decide) (fun K hK => ?_)
                                          refine Kd.R_lit_step Kd.string _ 9 ?hg (N := 54) ?hd (xs := ([(rd_T37 t201 x31_2).f0] : List ByteArray)) (inner := [.string ((rd_T37 t201 x31_2).f0)]) (ok := fun _ => True) (okp := fun _ => True) ?hr ?hp (fun _ hk => hk) trivial (Below.refl _ _) (Nat.le_refl _) (by simp) ?_; (case hd => rfl); (case hg => rfl); (case hr => first | (go_simp; done) | (go_simp; rfl)); (case hp => exact (Reps.one (show Kd.M Kd.string _ _ _ ((rd_T37 t201 x31_2).f0) [.string ((rd_T37 t201 x31_2).f0)] from rfl) (Reps.none _ _)))
                                          intro v214 w57 ho58 hb hg_ hnew_
                                          clear hg_ hnew_
                                          (first | rw [← Ny213.out] at ho58 | (simp only [Int.reduceToNat] at ho58; rw [← Ny213.out] at ho58))
                                          have n0_ := Aside0.mk (Kd.R_below (by (with_reducible repeat (first | apply Kd.R_alloc | apply Kd.R_drewN | apply Kd.R_drew)); exact HO_6.out) hb)
                                          have n1_ := Aside0.mk (Kd.R_elder' (by (with_reducible repeat (first | apply Kd.R_alloc | apply Kd.R_drewN | apply Kd.R_drew)); exact HO_7.out) (Kd.R_base ho58) hb)
                                          have n2_ := Aside0.mk (Kd.R_below (by (with_reducible repeat (first | apply Kd.R_alloc | apply Kd.R_drewN | apply Kd.R_drew)); exact HO_29.out) hb)
                                          have n3_ := Aside0.mk (Kd.R_below (by (with_reducible repeat (first | apply Kd.R_alloc | apply Kd.R_drewN | apply Kd.R_drew)); exact HO209.out) hb)
                                          have n4_ := Aside0.mk (Kd.R_below (by (with_reducible repeat (first | apply Kd.R_alloc | apply Kd.R_drewN | apply Kd.R_drew)); exact HO212.out) hb)
                                          have n5_ := Aside0.mk (Kd.R_lower (Kd.R_new' ho58 (Kd.R_lt (by (with_reducible repeat (first | apply Kd.R_alloc | apply Kd.R_drewN | apply Kd.R_drew)); exact HO_7.out))) (below_size (by repeat (first | (with_reducible first | exact HB.out | apply below_alloc | apply pw_below_drewN | apply below_drew1 | refine below_set ?_ GE205.out) | exact HB.out))))
                                          have n6_ := Aside0.mk (blk_below (g := gb205) (o := .cells #[.string ((rd_T37 t201 x31_2).f0), .string ((rd_T37 t201 x31_2).f1)] 37 (0, 0)) (by (with_reducible repeat (first | refine blk_drewN ?_ _ | refine blk_drew ?_ | refine blk_alloc ?_ _)); exact BK205.out) hb)
                                          have n7_ := Aside0.mk (below_step (by repeat (first | (with_reducible first | exact HB.out | apply below_alloc | apply pw_below_drewN | apply below_drew1 | refine below_set ?_ GE205.out) | exact HB.out)) hb)
                                          clear HO_6
                                          clear HO_7
                                          clear HO_29
                                          clear HO209
                                          clear HO212
                                          clear BK205
                                          clear HB
                                          have HO_6 := n0_
                                          have HO_7 := n1_
                                          have HO_29 := n2_
                                          have HO209 := n3_
                                          have HO212 := n4_
                                          have HO215 := n5_
                                          have BK205 := n6_
                                          have HB := n7_
                                          clear n0_ n1_ n2_ n3_ n4_ n5_ n6_ n7_
                                          clear hb ho58
                                          refine hK.out _ _ ⟨(blk_cell BK205.out 0).trans rfl, (blk_cell BK205.out 1).trans rfl⟩ (fun hHeld => ?_)
                                          clear hK K
                                          refine norm_ (a' := ?_) ?_ ?_
                                          rotate_left
                                          · show Act.put _ (some 54) _ = _
                                            simp only [Act.put, List.setIfInBounds_toArray, List.set_cons_zero, List.set_cons_succ, i64_w, i32_w]
                                            rfl
                                          exact norm_ (by simp only [putAll, Act.put, List.setIfInBounds_toArray, List.set_cons_zero, List.set_cons_succ]) (hCont (.slice Ao56 y207.length co56, v211, v214) _ ⟨hHeld, (by (with_reducible repeat (first | apply Kd.R_alloc | apply Kd.R_drewN | apply Kd.R_drew)); exact Kd.R_mono HO209.out (fun _ hk => ⟨hk.2, hk.1⟩)), (by (with_reducible repeat (first | apply Kd.R_alloc | apply Kd.R_drewN | apply Kd.R_drew)); exact Kd.R_mono HO212.out (fun _ hk => ⟨hk.2, hk.1⟩)), (by (with_reducible repeat (first | apply Kd.R_alloc | apply Kd.R_drewN | apply Kd.R_drew)); exact Kd.R_mono HO215.out (fun _ hk => hk.2)), (by (with_reducible repeat (first | apply Kd.R_alloc | apply Kd.R_drewN | apply Kd.R_drew)); exact HO_29.out), (by (with_reducible repeat (first | apply Kd.R_alloc | apply Kd.R_drewN | apply Kd.R_drew)); exact HO_6.out), (by (with_reducible repeat (first | apply Kd.R_alloc | apply Kd.R_drewN | apply Kd.R_drew)); exact Kd.R_mono HO_7.out (fun _ hk => hk.2)), (by (with_reducible repeat (first | refine blk_drewN ?_ _ | refine blk_drew ?_ | refine blk_alloc ?_ _)); exact BK205.out), (by repeat (first | (with_reducible first | exact HB.out | apply below_alloc | apply pw_below_drewN | apply below_drew1 | refine below_set ?_ GE205.out) | exact HB.out))⟩)
                                        · skip
                                          refine Kd.R_lit_step Kd.string _ 9 ?hg (N := 54) ?hd (xs := ([(rd_T37 t201 x31_2).f0] : List ByteArray)) (inner := [.string ((rd_T37 t201 x31_2).f0)]) (ok := fun _ => True) (okp := fun _ => True) ?hr ?hp (fun _ hk => hk) trivial (Below.refl _ _) (Nat.le_refl _) (by simp) ?_; (case hd => rfl); (case hg => rfl); (case hr => first | (go_simp; done) | (go_simp; rfl)); (case hp => exact (Reps.one (show Kd.M Kd.string _ _ _ ((rd_T37 t201 x31_2).f0) [.string ((rd_T37 t201 x31_2).f0)] from rfl) (Reps.none _ _)))
                                          intro v214 w55 ho56 hb hg_ hnew_
                                          clear hg_ hnew_
                                          (first | rw [← Ny213.out] at ho56 | (simp only [Int.reduceToNat] at ho56; rw [← Ny213.out] at ho56))
                                          have n0_ := Aside0.mk (Kd.R_below (by (with_reducible repeat (first | apply Kd.R_alloc | apply Kd.R_drewN | apply Kd.R_drew)); exact HO_5.out) hb)
                                          have n1_ := Aside0.mk (Kd.R_below (by (with_reducible repeat (first | apply Kd.R_alloc | apply Kd.R_drewN | apply Kd.R_drew)); exact HO_6.out) hb)
                                          have n2_ := Aside0.mk (Kd.R_elder' (by (with_reducible repeat (first | apply Kd.R_alloc | apply Kd.R_drewN | apply Kd.R_drew)); exact HO_7.out) (Kd.R_base ho56) hb)
                                          have n3_ := Aside0.mk (Kd.R_below (by (with_reducible repeat (first | apply Kd.R_alloc | apply Kd.R_drewN | apply Kd.R_drew)); exact HO_29.out) hb)
                                          have n4_ := Aside0.mk (Kd.R_below (by (with_reducible repeat (first | apply Kd.R_alloc | apply Kd.R_drewN | apply Kd.R_drew)); exact HO209.out) hb)
                                          have n5_ := Aside0.mk (Kd.R_lower (Kd.R_new' ho56 (Kd.R_lt (by (with_reducible repeat (first | apply Kd.R_alloc | apply Kd.R_drewN | apply Kd.R_drew)); exact HO_7.out))) (below_size (by repeat (first | (with_reducible first | exact HB.out | apply below_alloc | apply pw_below_drewN | apply below_drew1 | refine below_set ?_ GE205.out) | exact HB.out))))
                                          have n6_ := Aside0.mk (blk_below (g := gb205) (o := .cells #[.string ((rd_T37 t201 x31_2).f0), .string ((rd_T37 t201 x31_2).f1)] 37 (0, 0)) (by (with_reducible repeat (first | refine blk_drewN ?_ _ | refine blk_drew ?_ | refine blk_alloc ?_ _)); exact BK205.out) hb)
                                          have n7_ := Aside0.mk (below_step (by repeat (first | (with_reducible first | exact HB.out | apply below_alloc | apply pw_below_drewN | apply below_drew1 | refine below_set ?_ GE205.out) | exact HB.out)) hb)
                                          clear HO_5
                                          clear HO_6
                                          clear HO_7
                                          clear HO_29
                                          clear HO209
                                          clear BK205
                                          clear HB
                                          have HO_5 := n0_
                                          have HO_6 := n1_
                                          have HO_7 := n2_
                                          have HO_29 := n3_
                                          have HO209 := n4_
                                          have HO215 := n5_
                                          have BK205 := n6_
                                          have HB := n7_
                                          clear n0_ n1_ n2_ n3_ n4_ n5_ n6_ n7_
                                          clear hb ho56
                                          obtain ⟨Ao58, co58, eo58⟩ := Kd.R_slice HO209.out
                                          (first | subst eo58 | (injection eo58 with f1_ f2_ f3_; have f4_ := f1_.symm; have f5_ := f3_.symm; clear f1_ f2_ f3_; subst f4_; subst f5_))
                                          refine hK.out _ _ ⟨(blk_cell BK205.out 0).trans rfl, (blk_cell BK205.out 1).trans rfl⟩ (fun hHeld => ?_)
                                          clear hK K
                                          refine norm_ (a' := ?_) ?_ ?_
                                          rotate_left
                                          · show Act.put _ (some 54) _ = _
                                            simp only [Act.put, List.setIfInBounds_toArray, List.set_cons_zero, List.set_cons_succ, i64_w, i32_w]
                                            rfl
                                          refine one_ (i := 3) (N := some 51) #[true, true, true, true, true, true, true, true, false, false, false] rfl rfl (one_of HT_.out (by kernel_rfl)) (by decide) (fun K hK => ?_)
                                          refine Kd.R_append_rows_step k32 (w0 := w) w.heap.size (by rfl) (.tmp 48) (.tmp 50) 27 32 (.agg #[(.string ⟨#[]⟩), (.string ⟨#[]⟩)]) 32 rfl Try.underlying27 info32 rfl (by decide) (by omega) (.slice Ao49 x5_2.length co49) x5_2 y207 _ _ _ (fun k_ => some k_ ≠ (u6 : Value).ownBlock ∧ some k_ ≠ (.slice Ao58 y207.length co58 : Value).ownBlock) (fun _ => False) rfl rfl ?aO ?aR (fun _ _ h => h) (fun _ h => h.elim) ?aF ?aB ?aS ?aL ?_
                                          (case aR => repeat (first | exact (Kd.R_reads' HO209.out).2.2 | (with_reducible refine Kd.C_alloc ?_ _) | (with_reducible refine Kd.C_drewN ?_ _) | (with_reducible refine Kd.C_drew ?_)))
                                          (case aB => exact (by repeat (first | (with_reducible first | exact HB.out | apply below_alloc | apply pw_below_drewN | apply below_drew1 | refine below_set ?_ GE205.out) | exact HB.out)))
                                          (case aF => exact (fun k_ hk => ⟨Kd.fresh' (Kd.R_lt (by (with_reducible repeat (first | apply Kd.R_alloc | apply Kd.R_drewN | apply Kd.R_drew)); exact HO_6.out)) k_ hk, Kd.fresh' (Kd.R_lt (by (with_reducible repeat (first | apply Kd.R_alloc | apply Kd.R_drewN | apply Kd.R_drew)); exact HO209.out)) k_ hk⟩))
                                          (case aO => exact (by (with_reducible repeat (first | apply Kd.R_alloc | apply Kd.R_drewN | apply Kd.R_drew)); exact HO_5.out))
                                          (case aS => exact (below_size (by repeat (first | (with_reducible first | exact HB.out | apply below_alloc | apply pw_below_drewN | apply below_drew1 | refine below_set ?_ GE205.out) | exact HB.out))))
                                          (case aL => have := LMc45.out; first | omega | exact this | exact Nat.le_of_lt this)
                                          intro v211 w57 ho hb hg hat
                                          rw [← Ny210.out] at ho
                                          have n0_ := Aside0.mk (Kd.R_after (ok := (fun k_ => some k_ ≠ (.slice Ao58 y207.length co58 : Value).ownBlock)) (by (with_reducible repeat (first | apply Kd.R_alloc | apply Kd.R_drewN | apply Kd.R_drew)); exact Kd.R_mono HO_6.out (fun _ hk => ⟨hk.2, hk.1⟩)) hg hat)
                                          have n1_ := Aside0.mk (Kd.R_over' (by (with_reducible repeat (first | apply Kd.R_alloc | apply Kd.R_drewN | apply Kd.R_drew)); exact HO_7.out) (Kd.R_typed (by (with_reducible repeat (first | apply Kd.R_alloc | apply Kd.R_drewN | apply Kd.R_drew)); exact HO_5.out)) (by decide) hg)
                                          have n2_ := Aside0.mk (Kd.R_over' (by (with_reducible repeat (first | apply Kd.R_alloc | apply Kd.R_drewN | apply Kd.R_drew)); exact HO_29.out) (Kd.R_typed (by (with_reducible repeat (first | apply Kd.R_alloc | apply Kd.R_drewN | apply Kd.R_drew)); exact HO_5.out)) (by decide) hg)
                                          have n3_ := Aside0.mk (blk_grown (g := gb205) (o := .cells #[.string ((rd_T37 t201 x31_2).f0), .string ((rd_T37 t201 x31_2).f1)] 37 (0, 0)) (by (with_reducible repeat (first | refine blk_drewN ?_ _ | refine blk_drew ?_ | refine blk_alloc ?_ _)); exact BK205.out) hg (Kd.R_ne HO_5.out BK205.out (by decide)))
                                          have n4_ := Aside0.mk (Kd.R_after (ok := (fun k_ => some k_ ≠ (u6 : Value).ownBlock)) (by (with_reducible repeat (first | apply Kd.R_alloc | apply Kd.R_drewN | apply Kd.R_drew)); exact Kd.R_mono HO209.out (fun _ hk => ⟨hk.2, hk.1.2⟩)) hg hat)
                                          have n5_ := Aside0.mk (Kd.R_over' (by (with_reducible repeat (first | apply Kd.R_alloc | apply Kd.R_drewN | apply Kd.R_drew)); exact HO215.out) (Kd.R_typed (by (with_reducible repeat (first | apply Kd.R_alloc | apply Kd.R_drewN | apply Kd.R_drew)); exact HO_5.out)) (by decide) hg)
                                          have n6_ := Aside0.mk (hb)
                                          have n7_ := Aside0.mk (ho)
                                          clear HO_6
                                          clear HO_7
                                          clear HO_29
                                          clear BK205
                                          clear HO209
                                          clear HO215
                                          clear HB
                                          clear HO_5
                                          have HO_6 := n0_
                                          have HO_7 := n1_
                                          have HO_29 := n2_
                                          have BK205 := n3_
                                          have HO209 := n4_
                                          have HO215 := n5_
                                          have HB := n6_
                                          have HO212 := n7_
                                          clear n0_ n1_ n2_ n3_ n4_ n5_ n6_ n7_
                                          clear ho hb hg hat
                                          refine hK.out _ _ ⟨(blk_cell BK205.out 0).trans rfl, (blk_cell BK205.out 1).trans rfl⟩ (fun hHeld => ?_)
                                          clear hK K
                                          refine norm_ (a' := ?_) ?_ ?_
                                          rotate_left
                                          · show Act.put _ (some 51) _ = _
                                            simp only [Act.put, List.setIfInBounds_toArray, List.set_cons_zero, List.set_cons_succ, i64_w, i32_w]
                                            rfl
                                          exact norm_ (by simp only [putAll, Act.put, List.setIfInBounds_toArray, List.set_cons_zero, List.set_cons_succ]) (hCont (.slice Ao58 y207.length co58, v211, v214) _ ⟨hHeld, (by (with_reducible repeat (first | apply Kd.R_alloc | apply Kd.R_drewN | apply Kd.R_drew)); exact Kd.R_mono HO209.out (fun _ hk => ⟨hk.2, hk.1⟩)), (by (with_reducible repeat (first | apply Kd.R_alloc | apply Kd.R_drewN | apply Kd.R_drew)); exact Kd.R_mono HO212.out (fun _ hk => ⟨hk.2, hk.1⟩)), (by (with_reducible repeat (first | apply Kd.R_alloc | apply Kd.R_drewN | apply Kd.R_drew)); exact Kd.R_mono HO215.out (fun _ hk => hk.2)), (by (with_reducible repeat (first | apply Kd.R_alloc | apply Kd.R_drewN | apply Kd.R_drew)); exact HO_29.out), (by (with_reducible repeat (first | apply Kd.R_alloc | apply Kd.R_drewN | apply Kd.R_drew)); exact HO_6.out), (by (with_reducible repeat (first | apply Kd.R_alloc | apply Kd.R_drewN | apply Kd.R_drew)); exact Kd.R_mono HO_7.out (fun _ hk => hk.2)), (by (with_reducible repeat (first | refine blk_drewN ?_ _ | refine blk_drew ?_ | refine blk_alloc ?_ _)); exact BK205.out), (by repeat (first | (with_reducible first | exact HB.out | apply below_alloc | apply pw_below_drewN | apply below_drew1 | refine below_set ?_ GE205.out) | exact HB.out))⟩)
                                      · skip
                                        refine Kd.R_lit_step Kd.string _ 9 ?hg (N := 54) ?hd (xs := ([(rd_T37 t201 x31_2).f0] : List ByteArray)) (inner := [.string ((rd_T37 t201 x31_2).f0)]) (ok := fun _ => True) (okp := fun _ => True) ?hr ?hp (fun _ hk => hk) trivial (Below.refl _ _) (Nat.le_refl _) (by simp) ?_; (case hd => rfl); (case hg => rfl); (case hr => first | (go_simp; done) | (go_simp; rfl)); (case hp => exact (Reps.one (show Kd.M Kd.string _ _ _ ((rd_T37 t201 x31_2).f0) [.string ((rd_T37 t201 x31_2).f0)] from rfl) (Reps.none _ _)))
                                        intro v214 w53 ho54 hb hg_ hnew_
                                        clear hg_ hnew_
                                        (first | rw [← Ny213.out] at ho54 | (simp only [Int.reduceToNat] at ho54; rw [← Ny213.out] at ho54))
                                        have n0_ := Aside0.mk (Kd.R_below (by (with_reducible repeat (first | apply Kd.R_alloc | apply Kd.R_drewN | apply Kd.R_drew)); exact HO_5.out) hb)
                                        have n1_ := Aside0.mk (Kd.R_below (by (with_reducible repeat (first | apply Kd.R_alloc | apply Kd.R_drewN | apply Kd.R_drew)); exact HO_6.out) hb)
                                        have n2_ := Aside0.mk (Kd.R_elder' (by (with_reducible repeat (first | apply Kd.R_alloc | apply Kd.R_drewN | apply Kd.R_drew)); exact HO_7.out) (Kd.R_base ho54) hb)
                                        have n3_ := Aside0.mk (Kd.R_below (by (with_reducible repeat (first | apply Kd.R_alloc | apply Kd.R_drewN | apply Kd.R_drew)); exact HO_29.out) hb)
                                        have n4_ := Aside0.mk (Kd.R_lower (Kd.R_new' ho54 (Kd.R_lt (by (with_reducible repeat (first | apply Kd.R_alloc | apply Kd.R_drewN | apply Kd.R_drew)); exact HO_7.out))) (below_size (by repeat (first | (with_reducible first | exact HB.out | apply below_alloc | apply pw_below_drewN | apply below_drew1 | refine below_set ?_ GE205.out) | exact HB.out))))
                                        have n5_ := Aside0.mk (blk_below (g := gb205) (o := .cells #[.string ((rd_T37 t201 x31_2).f0), .string ((rd_T37 t201 x31_2).f1)] 37 (0, 0)) (by (with_reducible repeat (first | refine blk_drewN ?_ _ | refine blk_drew ?_ | refine blk_alloc ?_ _)); exact BK205.out) hb)
                                        have n6_ := Aside0.mk (below_step (by repeat (first | (with_reducible first | exact HB.out | apply below_alloc | apply pw_below_drewN | apply below_drew1 | refine below_set ?_ GE205.out) | exact HB.out)) hb)
                                        clear HO_5
                                        clear HO_6
                                        clear HO_7
                                        clear HO_29
                                        clear BK205
                                        clear HB
                                        have HO_5 := n0_
                                        have HO_6 := n1_
                                        have HO_7 := n2_
                                        have HO_29 := n3_
                                        have HO215 := n4_
                                        have BK205 := n5_
                                        have HB := n6_
                                        clear n0_ n1_ n2_ n3_ n4_ n5_ n6_
                                        clear hb ho54
                                        refine hK.out _ _ ⟨(blk_cell BK205.out 0).trans rfl, (blk_cell BK205.out 1).trans rfl⟩ (fun hHeld => ?_)
                                        clear hK K
                                        refine norm_ (a' := ?_) ?_ ?_
                                        rotate_left
                                        · show Act.put _ (some 54) _ = _
                                          simp only [Act.put, List.setIfInBounds_toArray, List.set_cons_zero, List.set_cons_succ, i64_w, i32_w]
                                          rfl
                                        refine one_ (i := 2) (N := some 50) #[true, true, true, false, true, true, true, true, false, false, false] rfl rfl (one_of HT_.out (by kernel_rfl)) (by decide) (fun K hK => ?_)
                                        refine Kd.R_lit_step k32 _ 32 ?hg (N := 50) ?hd (xs := ([(⟨(rd_T37 t201 x31_2).f0, (rd_T37 t201 x31_2).f1⟩ : S32)] : List (S32))) (inner := [.string ((rd_T37 t201 x31_2).f0), .string ((rd_T37 t201 x31_2).f1)]) (ok := fun _ => True) (okp := fun _ => True) ?hr ?hp (fun _ hk => hk) trivial (Below.refl _ _) (Nat.le_refl _) (by simp) ?_; (case hd => rfl); (case hg => rfl); (case hr => first | (go_simp; done) | (go_simp; rfl)); (case hp => exact (Reps.c2 (show Kd.M k32 _ _ _ (⟨(rd_T37 t201 x31_2).f0, (rd_T37 t201 x31_2).f1⟩ : S32) [.string ((rd_T37 t201 x31_2).f0), .string ((rd_T37 t201 x31_2).f1)] from (k32_mkM _ _ _ (⟨(rd_T37 t201 x31_2).f0, (rd_T37 t201 x31_2).f1⟩ : S32) )) (Reps.none _ _)))
                                        intro v208 w55 ho56 hb hg_ hnew_
                                        clear hg_ hnew_
                                        (first | rw [← Ny207.out] at ho56 | (simp only [Int.reduceToNat] at ho56; rw [← Ny207.out] at ho56))
                                        have n0_ := Aside0.mk (Kd.R_elder' (by (with_reducible repeat (first | apply Kd.R_alloc | apply Kd.R_drewN | apply Kd.R_drew)); exact HO_5.out) (Kd.R_base ho56) hb)
                                        have n1_ := Aside0.mk (Kd.R_elder' (by (with_reducible repeat (first | apply Kd.R_alloc | apply Kd.R_drewN | apply Kd.R_drew)); exact HO_6.out) (Kd.R_base ho56) hb)
                                        have n2_ := Aside0.mk (Kd.R_below (by (with_reducible repeat (first | apply Kd.R_alloc | apply Kd.R_drewN | apply Kd.R_drew)); exact HO_7.out) hb)
                                        have n3_ := Aside0.mk (Kd.R_below (by (with_reducible repeat (first | apply Kd.R_alloc | apply Kd.R_drewN | apply Kd.R_drew)); exact HO_29.out) hb)
                                        have n4_ := Aside0.mk (Kd.R_below (by (with_reducible repeat (first | apply Kd.R_alloc | apply Kd.R_drewN | apply Kd.R_drew)); exact HO215.out) hb)
                                        have n5_ := Aside0.mk (Kd.R_lower (Kd.R_new' (Kd.R_new' ho56 (Kd.R_lt (by (with_reducible repeat (first | apply Kd.R_alloc | apply Kd.R_drewN | apply Kd.R_drew)); exact HO_5.out))) (Kd.R_lt (by (with_reducible repeat (first | apply Kd.R_alloc | apply Kd.R_drewN | apply Kd.R_drew)); exact HO_6.out))) (below_size (by repeat (first | (with_reducible first | exact HB.out | apply below_alloc | apply pw_below_drewN | apply below_drew1 | refine below_set ?_ GE205.out) | exact HB.out))))
                                        have n6_ := Aside0.mk (blk_below (g := gb205) (o := .cells #[.string ((rd_T37 t201 x31_2).f0), .string ((rd_T37 t201 x31_2).f1)] 37 (0, 0)) (by (with_reducible repeat (first | refine blk_drewN ?_ _ | refine blk_drew ?_ | refine blk_alloc ?_ _)); exact BK205.out) hb)
                                        have n7_ := Aside0.mk (below_step (by repeat (first | (with_reducible first | exact HB.out | apply below_alloc | apply pw_below_drewN | apply below_drew1 | refine below_set ?_ GE205.out) | exact HB.out)) hb)
                                        clear HO_5
                                        clear HO_6
                                        clear HO_7
                                        clear HO_29
                                        clear HO215
                                        clear BK205
                                        clear HB
                                        have HO_5 := n0_
                                        have HO_6 := n1_
                                        have HO_7 := n2_
                                        have HO_29 := n3_
                                        have HO215 := n4_
                                        have HO209 := n5_
                                        have BK205 := n6_
                                        have HB := n7_
                                        clear n0_ n1_ n2_ n3_ n4_ n5_ n6_ n7_
                                        clear hb ho56
                                        obtain ⟨Ao58, co58, eo58⟩ := Kd.R_slice HO209.out
                                        (first | subst eo58 | (injection eo58 with f1_ f2_ f3_; have f4_ := f1_.symm; have f5_ := f3_.symm; clear f1_ f2_ f3_; subst f4_; subst f5_))
                                        refine hK.out _ _ ⟨(blk_cell BK205.out 0).trans rfl, (blk_cell BK205.out 1).trans rfl⟩ (fun hHeld => ?_)
                                        clear hK K
                                        refine norm_ (a' := ?_) ?_ ?_
                                        rotate_left
                                        · show Act.put _ (some 50) _ = _
                                          simp only [Act.put, List.setIfInBounds_toArray, List.set_cons_zero, List.set_cons_succ, i64_w, i32_w]
                                          rfl
                                        refine one_ (i := 3) (N := some 51) #[true, true, true, true, true, true, true, true, false, false, false] rfl rfl (one_of HT_.out (by kernel_rfl)) (by decide) (fun K hK => ?_)
                                        refine Kd.R_append_rows_step k32 (w0 := w) w.heap.size (by rfl) (.tmp 48) (.tmp 50) 27 32 (.agg #[(.string ⟨#[]⟩), (.string ⟨#[]⟩)]) 32 rfl Try.underlying27 info32 rfl (by decide) (by omega) (.slice Ao49 x5_2.length co49) x5_2 y207 _ _ _ (fun k_ => some k_ ≠ (u6 : Value).ownBlock ∧ some k_ ≠ (.slice Ao58 y207.length co58 : Value).ownBlock) (fun _ => False) rfl rfl ?aO ?aR (fun _ _ h => h) (fun _ h => h.elim) ?aF ?aB ?aS ?aL ?_
                                        (case aR => repeat (first | exact (Kd.R_reads' HO209.out).2.2 | (with_reducible refine Kd.C_alloc ?_ _) | (with_reducible refine Kd.C_drewN ?_ _) | (with_reducible refine Kd.C_drew ?_)))
                                        (case aB => exact (by repeat (first | (with_reducible first | exact HB.out | apply below_alloc | apply pw_below_drewN | apply below_drew1 | refine below_set ?_ GE205.out) | exact HB.out)))
                                        (case aF => exact (fun k_ hk => ⟨Kd.fresh' (Kd.R_lt (by (with_reducible repeat (first | apply Kd.R_alloc | apply Kd.R_drewN | apply Kd.R_drew)); exact HO_6.out)) k_ hk, Kd.fresh' (Kd.R_lt (by (with_reducible repeat (first | apply Kd.R_alloc | apply Kd.R_drewN | apply Kd.R_drew)); exact HO209.out)) k_ hk⟩))
                                        (case aO => exact (by (with_reducible repeat (first | apply Kd.R_alloc | apply Kd.R_drewN | apply Kd.R_drew)); exact HO_5.out))
                                        (case aS => exact (below_size (by repeat (first | (with_reducible first | exact HB.out | apply below_alloc | apply pw_below_drewN | apply below_drew1 | refine below_set ?_ GE205.out) | exact HB.out))))
                                        (case aL => have := LMc45.out; first | omega | exact this | exact Nat.le_of_lt this)
                                        intro v211 w57 ho hb hg hat
                                        rw [← Ny210.out] at ho
                                        have n0_ := Aside0.mk (Kd.R_after (ok := (fun k_ => some k_ ≠ (.slice Ao58 y207.length co58 : Value).ownBlock)) (by (with_reducible repeat (first | apply Kd.R_alloc | apply Kd.R_drewN | apply Kd.R_drew)); exact Kd.R_mono HO_6.out (fun _ hk => ⟨hk.2, hk.1⟩)) hg hat)
                                        have n1_ := Aside0.mk (Kd.R_over' (by (with_reducible repeat (first | apply Kd.R_alloc | apply Kd.R_drewN | apply Kd.R_drew)); exact HO_7.out) (Kd.R_typed (by (with_reducible repeat (first | apply Kd.R_alloc | apply Kd.R_drewN | apply Kd.R_drew)); exact HO_5.out)) (by decide) hg)
                                        have n2_ := Aside0.mk (Kd.R_over' (by (with_reducible repeat (first | apply Kd.R_alloc | apply Kd.R_drewN | apply Kd.R_drew)); exact HO_29.out) (Kd.R_typed (by (with_reducible repeat (first | apply Kd.R_alloc | apply Kd.R_drewN | apply Kd.R_drew)); exact HO_5.out)) (by decide) hg)
                                        have n3_ := Aside0.mk (blk_grown (g := gb205) (o := .cells #[.string ((rd_T37 t201 x31_2).f0), .string ((rd_T37 t201 x31_2).f1)] 37 (0, 0)) (by (with_reducible repeat (first | refine blk_drewN ?_ _ | refine blk_drew ?_ | refine blk_alloc ?_ _)); exact BK205.out) hg (Kd.R_ne HO_5.out BK205.out (by decide)))
                                        have n4_ := Aside0.mk (Kd.R_over' (by (with_reducible repeat (first | apply Kd.R_alloc | apply Kd.R_drewN | apply Kd.R_drew)); exact HO215.out) (Kd.R_typed (by (with_reducible repeat (first | apply Kd.R_alloc | apply Kd.R_drewN | apply Kd.R_drew)); exact HO_5.out)) (by decide) hg)
                                        have n5_ := Aside0.mk (Kd.R_after (ok := (fun k_ => some k_ ≠ (u6 : Value).ownBlock)) (by (with_reducible repeat (first | apply Kd.R_alloc | apply Kd.R_drewN | apply Kd.R_drew)); exact Kd.R_mono HO209.out (fun _ hk => ⟨hk.2, hk.1.2⟩)) hg hat)
                                        have n6_ := Aside0.mk (hb)
                                        have n7_ := Aside0.mk (ho)
                                        clear HO_6
                                        clear HO_7
                                        clear HO_29
                                        clear BK205
                                        clear HO215
                                        clear HO209
                                        clear HB
                                        clear HO_5
                                        have HO_6 := n0_
                                        have HO_7 := n1_
                                        have HO_29 := n2_
                                        have BK205 := n3_
                                        have HO215 := n4_
                                        have HO209 := n5_
                                        have HB := n6_
                                        have HO212 := n7_
                                        clear n0_ n1_ n2_ n3_ n4_ n5_ n6_ n7_
                                        clear ho hb hg hat
                                        refine hK.out _ _ ⟨(blk_cell BK205.out 0).trans rfl, (blk_cell BK205.out 1).trans rfl⟩ (fun hHeld => ?_)
                                        clear hK K
                                        refine norm_ (a' := ?_) ?_ ?_
                                        rotate_left
                                        · show Act.put _ (some 51) _ = _
                                          simp only [Act.put, List.setIfInBounds_toArray, List.set_cons_zero, List.set_cons_succ, i64_w, i32_w]
                                          rfl
                                        exact norm_ (by simp only [putAll, Act.put, List.setIfInBounds_toArray, List.set_cons_zero, List.set_cons_succ]) (hCont (.slice Ao58 y207.length co58, v211, v214) _ ⟨hHeld, (by (with_reducible repeat (first | apply Kd.R_alloc | apply Kd.R_drewN | apply Kd.R_drew)); exact Kd.R_mono HO209.out (fun _ hk => ⟨hk.2, hk.1⟩)), (by (with_reducible repeat (first | apply Kd.R_alloc | apply Kd.R_drewN | apply Kd.R_drew)); exact Kd.R_mono HO212.out (fun _ hk => ⟨hk.2, hk.1⟩)), (by (with_reducible repeat (first | apply Kd.R_alloc | apply Kd.R_drewN | apply Kd.R_drew)); exact Kd.R_mono HO215.out (fun _ hk => hk.2)), (by (with_reducible repeat (first | apply Kd.R_alloc | apply Kd.R_drewN | apply Kd.R_drew)); exact HO_29.out), (by (with_reducible repeat (first | apply Kd.R_alloc | apply Kd.R_drewN | apply Kd.R_drew)); exact HO_6.out), (by (with_reducible repeat (first | apply Kd.R_alloc | apply Kd.R_drewN | apply Kd.R_drew)); exact Kd.R_mono HO_7.out (fun _ hk => hk.2)), (by (with_reducible repeat (first | refine blk_drewN ?_ _ | refine blk_drew ?_ | refine blk_alloc ?_ _)); exact BK205.out), (by repeat (first | (with_reducible first | exact HB.out | apply below_alloc | apply pw_below_drewN | apply below_drew1 | refine below_set ?_ GE205.out) | exact HB.out))⟩)
                                    rintro ⟨v208, v211, v214⟩ w59 ⟨hS_, h0_, h1_, h2_, h3_, h4_, h5_, h6_, h7_⟩
                                    have n0_ : Aside0 (Kd.R k32 32 w59 w.heap.size (fun k_ => some k_ ≠ (v211 : Value).ownBlock ∧ some k_ ≠ (u6 : Value).ownBlock) v208 y207) := ⟨h0_⟩
                                    have n1_ : Aside0 (Kd.R k32 32 w59 w.heap.size (fun k_ => some k_ ≠ (v208 : Value).ownBlock ∧ some k_ ≠ (u6 : Value).ownBlock) v211 y210) := ⟨h1_⟩
                                    have n2_ : Aside0 (Kd.R Kd.string 9 w59 w.heap.size (fun k_ => some k_ ≠ (.slice Ao50 x7_2.length co50 : Value).ownBlock) v214 y213) := ⟨h2_⟩
                                    have n3_ : Aside0 (Kd.R k37 37 w59 w.heap.size (fun k_ => k_ ≠ gb205) (.slice (some ad204) t201.length co34) t201) := ⟨h3_⟩
                                    have n4_ : Aside0 (Kd.R k32 32 w59 w.heap.size (fun k_ => some k_ ≠ (v208 : Value).ownBlock ∧ some k_ ≠ (v211 : Value).ownBlock) u6 x6_2) := ⟨h4_⟩
                                    have n5_ : Aside0 (Kd.R Kd.string 9 w59 w.heap.size (fun k_ => some k_ ≠ (v214 : Value).ownBlock) (.slice Ao50 x7_2.length co50) x7_2) := ⟨h5_⟩
                                    have n6_ : Aside0 (w59.heap[gb205]? = some (.cells #[.string ((rd_T37 t201 x31_2).f0), .string ((rd_T37 t201 x31_2).f1)] 37 (0, 0))) := ⟨h6_⟩
                                    have n7_ : Aside0 (Below w.heap.size w w59) := ⟨h7_⟩
                                    clear HO_5
                                    clear HO_6
                                    clear HO_7
                                    clear HO_29
                                    clear BK205
                                    clear HB
                                    clear h0_ h1_ h2_ h3_ h4_ h5_ h6_ h7_
                                    have HO209 := n0_
                                    have HO212 := n1_
                                    have HO215 := n2_
                                    have HO_29 := n3_
                                    have HO_6 := n4_
                                    have HO_7 := n5_
                                    have BK205 := n6_
                                    have HB := n7_
                                    clear n0_ n1_ n2_ n3_ n4_ n5_ n6_ n7_
                                    have hHeld : w59.cell? ⟨gb205, 0, none⟩ = some (.string ((rd_T37 t201 x31_2).f0)) ∧ w59.cell? ⟨gb205, 1, none⟩ = some (.string ((rd_T37 t201 x31_2).f1)) := hS_
                                    refine norm_ (a' := ?_) ?_ ?_
                                    rotate_left
                                    · simp only [putAll, Act.put, List.setIfInBounds_toArray, List.set_cons_zero, List.set_cons_succ]
                                      rfl
                                    refine one_ (i := 8) (N := some 56) #[true, true, true, true, true, true, true, true, true, false, false] rfl rfl (one_of HT_.out (by kernel_rfl)) (by decide) (fun K hK => ?_)
                                    refine Kd.R_append_rows_step Kd.string (w0 := w) w.heap.size (by rfl) (.tmp 54) (.tmp 55) 33 9 (.string ⟨#[]⟩) 16 rfl Try.underlying33 info9 rfl (by decide) (by omega) v214 y213 x7_2 _ _ _ (fun k_ => some k_ ≠ (.slice Ao50 x7_2.length co50 : Value).ownBlock) (fun _ => False) rfl rfl ?aO ?aR (fun _ _ h => h) (fun _ h => h.elim) ?aF ?aB ?aS ?aL ?_
                                    (case aR => repeat (first | exact (Kd.R_reads' HO_7.out).2.2 | (with_reducible refine Kd.C_alloc ?_ _) | (with_reducible refine Kd.C_drewN ?_ _) | (with_reducible refine Kd.C_drew ?_)))
                                    (case aB => exact (by repeat (first | (with_reducible first | exact HB.out | apply below_alloc | apply pw_below_drewN | apply below_drew1 | refine below_set ?_ GE205.out) | exact HB.out)))
                                    (case aF => exact (fun k_ hk => Kd.fresh' (Kd.R_lt (by (with_reducible repeat (first | apply Kd.R_alloc | apply Kd.R_drewN | apply Kd.R_drew)); exact HO_7.out)) k_ hk))
                                    (case aO => exact (by (with_reducible repeat (first | apply Kd.R_alloc | apply Kd.R_drewN | apply Kd.R_drew)); exact HO215.out))
                                    (case aS => exact (below_size (by repeat (first | (with_reducible first | exact HB.out | apply below_alloc | apply pw_below_drewN | apply below_drew1 | refine below_set ?_ GE205.out) | exact HB.out))))
                                    (case aL => have := LMc46.out; first | omega | exact this | exact Nat.le_of_lt this)
                                    intro v217 w60 ho hb hg hat
                                    rw [← Ny216.out] at ho
                                    have n0_ := Aside0.mk (Kd.R_over' (by (with_reducible repeat (first | apply Kd.R_alloc | apply Kd.R_drewN | apply Kd.R_drew)); exact HO_6.out) (Kd.R_typed (by (with_reducible repeat (first | apply Kd.R_alloc | apply Kd.R_drewN | apply Kd.R_drew)); exact HO215.out)) (by decide) hg)
                                    have n1_ := Aside0.mk (Kd.R_after (ok := (fun _ => True)) (by (with_reducible repeat (first | apply Kd.R_alloc | apply Kd.R_drewN | apply Kd.R_drew)); exact Kd.R_mono HO_7.out (fun _ hk => ⟨trivial, hk⟩)) hg hat)
                                    have n2_ := Aside0.mk (Kd.R_over' (by (with_reducible repeat (first | apply Kd.R_alloc | apply Kd.R_drewN | apply Kd.R_drew)); exact HO_29.out) (Kd.R_typed (by (with_reducible repeat (first | apply Kd.R_alloc | apply Kd.R_drewN | apply Kd.R_drew)); exact HO215.out)) (by decide) hg)
                                    have n3_ := Aside0.mk (blk_grown (g := gb205) (o := .cells #[.string ((rd_T37 t201 x31_2).f0), .string ((rd_T37 t201 x31_2).f1)] 37 (0, 0)) (by (with_reducible repeat (first | refine blk_drewN ?_ _ | refine blk_drew ?_ | refine blk_alloc ?_ _)); exact BK205.out) hg (Kd.R_ne HO215.out BK205.out (by decide)))
                                    have n4_ := Aside0.mk (Kd.R_over' (by (with_reducible repeat (first | apply Kd.R_alloc | apply Kd.R_drewN | apply Kd.R_drew)); exact HO209.out) (Kd.R_typed (by (with_reducible repeat (first | apply Kd.R_alloc | apply Kd.R_drewN | apply Kd.R_drew)); exact HO215.out)) (by decide) hg)
                                    have n5_ := Aside0.mk (Kd.R_over' (by (with_reducible repeat (first | apply Kd.R_alloc | apply Kd.R_drewN | apply Kd.R_drew)); exact HO212.out) (Kd.R_typed (by (with_reducible repeat (first | apply Kd.R_alloc | apply Kd.R_drewN | apply Kd.R_drew)); exact HO215.out)) (by decide) hg)
                                    have n6_ := Aside0.mk (hb)
                                    have n7_ := Aside0.mk (ho)
                                    clear HO_6
                                    clear HO_7
                                    clear HO_29
                                    clear BK205
                                    clear HO209
                                    clear HO212
                                    clear HB
                                    clear HO215
                                    have HO_6 := n0_
                                    have HO_7 := n1_
                                    have HO_29 := n2_
                                    have BK205 := n3_
                                    have HO209 := n4_
                                    have HO212 := n5_
                                    have HB := n6_
                                    have HO218 := n7_
                                    clear n0_ n1_ n2_ n3_ n4_ n5_ n6_ n7_
                                    clear ho hb hg hat
                                    refine hK.out _ _ ⟨(blk_cell BK205.out 0).trans rfl, (blk_cell BK205.out 1).trans rfl⟩ (fun hHeld => ?_)
                                    clear hK K
                                    refine norm_ (a' := ?_) ?_ ?_
                                    rotate_left
                                    · show Act.put _ (some 56) _ = _
                                      simp only [Act.put, List.setIfInBounds_toArray, List.set_cons_zero, List.set_cons_succ, i64_w, i32_w]
                                      rfl
                                    refine pure_ (i := 9) (N := some 5) (v := ?_) (a' := ?_) #[true, true, true, true, true, true, true, true, true, true, false] rfl rfl (any_of HT_.out (by kernel_rfl)) (fun _ _ _ h => h) (Or.inl ⟨by rfl, ?_⟩) ?_ ?_
                                    rotate_left
                                    · intro w'
                                      go_simp
                                      with_reducible rfl
                                    rotate_left
                                    · simp only [Act.put, List.setIfInBounds_toArray, List.set_cons_zero, List.set_cons_succ, i64_w, i32_w]
                                      rfl
                                    refine pure_ (i := 10) (N := some 7) (v := ?_) (a' := ?_) #[true, true, true, true, true, true, true, true, true, true, true] rfl rfl (any_of HT_.out (by kernel_rfl)) (fun _ _ _ h => h) (Or.inl ⟨by rfl, ?_⟩) ?_ ?_
                                    rotate_left
                                    · intro w'
                                      go_simp
                                      with_reducible rfl
                                    rotate_left
                                    · simp only [Act.put, List.setIfInBounds_toArray, List.set_cons_zero, List.set_cons_succ, i64_w, i32_w]
                                      rfl
                                    refine done_ (done_of HT_.out (by kernel_rfl)) ?_
                                    try go_wp2
                                    go_roundg k2
                                    case measure => have := HJ2.out; have := HK2.out; omega
                                    case rel => exact ⟨(y210), (x6_2), (y216), (wrap64 (x31_2 + 1)), (by first | rfl | (simp; done) | (simp [*]; done)), H', ⟨by have := HJ2.out; have := HK2.out; omega⟩, ⟨by (with_reducible repeat (first | apply Kd.R_alloc | apply Kd.R_drewN | apply Kd.R_drew)); exact Kd.R_mono HO212.out (fun _ hk => hk.2)⟩, ⟨by (with_reducible repeat (first | apply Kd.R_alloc | apply Kd.R_drewN | apply Kd.R_drew)); exact Kd.R_mono HO_6.out (fun _ hk => hk.2)⟩, ⟨by (with_reducible repeat (first | apply Kd.R_alloc | apply Kd.R_drewN | apply Kd.R_drew)); exact Kd.R_mono HO218.out (fun _ hk => trivial)⟩, ⟨by (with_reducible repeat (first | apply Kd.R_alloc | apply Kd.R_drewN | apply Kd.R_drew)); exact Kd.R_mono HO_29.out (fun _ hk => trivial)⟩, ⟨by repeat (first | (with_reducible first | exact HB.out | apply below_alloc | apply pw_below_drewN | apply below_drew1 | refine below_set ?_ GE205.out) | exact HB.out)⟩⟩
                                  · rw [if_neg c46] at H
                                    exact absurd H (by simp)
                                · rw [if_neg c45] at H
                                  exact absurd H (by simp)
                              · replace c44 := Bool.eq_false_iff.mpr c44
                                subst c44
                                have H1 : ((some (([(⟨(rd_T37 t201 x31_2).f0, (rd_T37 t201 x31_2).f1⟩ : S32)] : List (S32)) : List (S32))).bind fun y219 => (if x6_2.length + y219.length < 4398046511104 then (laws_FnSignatures.l0 k2 l0 l1 x5_2 (x6_2 ++ y219) x7_2 t201 (t201.length : Int) (wrap64 (x31_2 + 1))) else (none))) = some r := by rw [if_neg (show ¬ (false = true) by decide)] at H; exact H
                                clear H
                                have H := H1
                                clear H1
                                obtain ⟨y219, hy219⟩ : ∃ y_ : List (S32), y_ = (([(⟨(rd_T37 t201 x31_2).f0, (rd_T37 t201 x31_2).f1⟩ : S32)] : List (S32))) := ⟨_, rfl⟩
                                replace H : (if x6_2.length + y219.length < 4398046511104 then (laws_FnSignatures.l0 k2 l0 l1 x5_2 (x6_2 ++ y219) x7_2 t201 (t201.length : Int) (wrap64 (x31_2 + 1))) else (none)) = some r := by first | (rw [hy219]; with_reducible exact H) | (have H2_ := (Option.bind_some _ _).symm.trans H; rw [hy219]; with_reducible exact H2_) | (have H2_ := (Option.bind_some _ _).symm.trans H; with_reducible exact H2_) | with_reducible exact H | (rw [hy219]; exact H) | exact H
                                have Ny219 := Aside0.mk hy219
                                clear hy219
                                by_cases c61 : x6_2.length + y219.length < 4398046511104
                                · rw [if_pos c61] at H
                                  have LMc61 := Aside0.mk c61
                                  clear c61
                                  obtain ⟨y222, hy222⟩ : ∃ y_ : List (S32), y_ = (x6_2 ++ y219) := ⟨_, rfl⟩
                                  replace H : (laws_FnSignatures.l0 k2 l0 l1 x5_2 y222 x7_2 t201 (t201.length : Int) (wrap64 (x31_2 + 1))) = some r := by first | (rw [hy222]; with_reducible exact H) | (have H2_ := (Option.bind_some _ _).symm.trans H; rw [hy222]; with_reducible exact H2_) | (have H2_ := (Option.bind_some _ _).symm.trans H; with_reducible exact H2_) | with_reducible exact H | (rw [hy222]; exact H) | exact H
                                  have Ny222 := Aside0.mk hy222
                                  clear hy222
                                  have H' := Aside0.mk H
                                  clear H
                                  have p204 : 0 ≤ (x31_2 : Int) := of_decide_eq_true (by first | (with_reducible assumption) | assumption)
                                  have q204 : x31_2 < (t201.length : Int) := of_decide_eq_true (by first | (with_reducible assumption) | assumption)
                                  obtain ⟨ad204, e204, hx204_0, hx204_1⟩ := at_T37 (Kd.R_reads' HO_29.out).2.2 x31_2 p204 q204
                                  cases e204
                                  replace p204 := eq_true p204
                                  replace q204 := eq_true q204
                                  go_wp2_with (first | ((with_reducible refine gate_dst (N := 9) rfl ?_); (try (refine gate_guard (by rfl) ?_; dsimp only)); refine box_event ?hg (N := 9) ?hd (cs := #[.string (⟨#[]⟩ : ByteArray), .string (⟨#[]⟩ : ByteArray)]) (t := 37) ?hr ?_; (case hd => rfl); (case hg => rfl); (case hr => first | (go_simp; done) | (go_simp; rfl)); intro gb205 hg w62 hbox hb; have n0_ := Aside0.mk (Kd.R_below (by (with_reducible repeat (first | apply Kd.R_alloc | apply Kd.R_drewN | apply Kd.R_drew)); exact HO_5.out) hb); have n1_ := Aside0.mk (Kd.R_below (by (with_reducible repeat (first | apply Kd.R_alloc | apply Kd.R_drewN | apply Kd.R_drew)); exact HO_6.out) hb); have n2_ := Aside0.mk (Kd.R_below (by (with_reducible repeat (first | apply Kd.R_alloc | apply Kd.R_drewN | apply Kd.R_drew)); exact HO_7.out) hb); have n3_ := Aside0.mk (Kd.R_below (Kd.R_elderB (by (with_reducible repeat (first | apply Kd.R_alloc | apply Kd.R_drewN | apply Kd.R_drew)); exact HO_29.out) gb205 (Nat.le_of_eq hg.symm)) hb); have n4_ := Aside0.mk (below_step (by repeat (first | (with_reducible first | exact HB.out | apply below_alloc | apply pw_below_drewN | apply below_drew1) | exact HB.out)) hb); have n5_ := Aside0.mk (hbox); have n6_ := Aside0.mk ((by rw [hg]; exact (below_size (by repeat (first | (with_reducible first | exact HB.out | apply below_alloc | apply pw_below_drewN | apply below_drew1) | exact HB.out))) : w.heap.size ≤ gb205)); have n7_ := Aside0.mk ((by rw [hg]; exact (below_size (by repeat (first | (with_reducible first | exact HB.out | apply below_alloc | apply pw_below_drewN | apply below_drew1) | exact HB.out))) : w.heap.size ≤ gb205)); clear HO_5; clear HO_6; clear HO_7; clear HO_29; clear HB; have HO_5 := n0_; have HO_6 := n1_; have HO_7 := n2_; have HO_29 := n3_; have HB := n4_; have BK205 := n5_; have GW205 := n6_; have GE205 := n7_; clear n0_ n1_ n2_ n3_ n4_ n5_ n6_ n7_; clear hb hbox hg; have hcz63_0 : w62.cell? ⟨gb205, 0, none⟩ = some (.string (⟨#[]⟩ : ByteArray)) := (blk_cell BK205.out 0).trans rfl; have hcz63_1 : w62.cell? ⟨gb205, 1, none⟩ = some (.string (⟨#[]⟩ : ByteArray)) := (blk_cell BK205.out 1).trans rfl; have hfz63_0 := blk_frozen BK205.out 0; have hfz63_1 := blk_frozen BK205.out 1; have p206 : 0 ≤ ((ji40) : Int) := of_decide_eq_true (by first | (with_reducible assumption) | assumption); have q206 : (ji40) < (l1.length : Int) := of_decide_eq_true (by first | (with_reducible assumption) | assumption); obtain ⟨ad206, e206, hx206_0⟩ := Kd.at_bool HR1.out (ji40) p206 q206; (try rw [← Nbq43.out] at hx206_0); cases e206; have hn206_0 : ad206.block ≠ gb205 := Nat.ne_of_lt (Nat.lt_of_lt_of_le (by have := World.block_lt_of_cell? _ _ hx206_0; first | rwa [add_block] at this | exact this) GW205.out); have hn206_1 : ad206.block ≠ gb205 := Nat.ne_of_lt (Nat.lt_of_lt_of_le (by have := World.block_lt_of_cell? _ _ hx206_0; first | rwa [add_block] at this | exact this) GW205.out); replace hx206_0 := (HB.out.cell (World.block_lt_of_cell? w _ hx206_0)).trans hx206_0; replace hx206_0 := (cell_far (p := ⟨gb205, 0, none⟩) (by first | (rw [add_block]; exact hn206_0) | (show (Addr.add _ _).block ≠ _; rw [add_block]; exact hn206_0) | exact hn206_0) (.string ((rd_T37 t201 x31_2).f0))).trans hx206_0; replace hx206_0 := (cell_far (p := ⟨gb205, 1, none⟩) (by first | (rw [add_block]; exact hn206_1) | (show (Addr.add _ _).block ≠ _; rw [add_block]; exact hn206_1) | exact hn206_1) (.string ((rd_T37 t201 x31_2).f1))).trans hx206_0; clear hn206_0; clear hn206_1; replace p206 := eq_true p206; replace q206 := eq_true q206) | ((with_reducible refine gate_dst (N := 59) rfl ?_); (try (refine gate_guard (by rfl) ?_; dsimp only)); refine Kd.R_lit k32 _ 32 ?hg (N := 59) ?hd (xs := ([(⟨(rd_T37 t201 x31_2).f0, (rd_T37 t201 x31_2).f1⟩ : S32)] : List (S32))) (inner := [.string ((rd_T37 t201 x31_2).f0), .string ((rd_T37 t201 x31_2).f1)]) (ok := fun _ => True) (okp := fun _ => True) ?hr ?hp (fun _ hk => hk) trivial (Below.refl _ _) (Nat.le_refl _) (by simp) ?_; (case hd => rfl); (case hg => rfl); (case hr => first | (go_simp; done) | (go_simp; rfl)); (case hp => exact (Reps.c2 (show Kd.M k32 _ _ _ (⟨(rd_T37 t201 x31_2).f0, (rd_T37 t201 x31_2).f1⟩ : S32) [.string ((rd_T37 t201 x31_2).f0), .string ((rd_T37 t201 x31_2).f1)] from (k32_mkM _ _ _ (⟨(rd_T37 t201 x31_2).f0, (rd_T37 t201 x31_2).f1⟩ : S32) )) (Reps.none _ _))); intro v220 w64 ho65 hb hg_ hnew_; clear hg_ hnew_; (first | rw [← Ny219.out] at ho65 | (simp only [Int.reduceToNat] at ho65; rw [← Ny219.out] at ho65)); have n0_ := Aside0.mk (Kd.R_elder' (by (with_reducible repeat (first | apply Kd.R_alloc | apply Kd.R_drewN | apply Kd.R_drew)); exact (Kd.R_mono (Kd.R_far (p := ⟨gb205, 1, none⟩) (Kd.R_far (p := ⟨gb205, 0, none⟩) (Kd.R_types HO_5.out BK205.out (by decide)) (fun _ hk => hk.2) (.string ((rd_T37 t201 x31_2).f0))) (fun _ hk => hk.2) (.string ((rd_T37 t201 x31_2).f1))) (fun _ h_ => h_.1))) (Kd.R_base ho65) hb); have n1_ := Aside0.mk (Kd.R_elder' (by (with_reducible repeat (first | apply Kd.R_alloc | apply Kd.R_drewN | apply Kd.R_drew)); exact (Kd.R_mono (Kd.R_far (p := ⟨gb205, 1, none⟩) (Kd.R_far (p := ⟨gb205, 0, none⟩) (Kd.R_types HO_6.out BK205.out (by decide)) (fun _ hk => hk.2) (.string ((rd_T37 t201 x31_2).f0))) (fun _ hk => hk.2) (.string ((rd_T37 t201 x31_2).f1))) (fun _ h_ => h_.1))) (Kd.R_base ho65) hb); have n2_ := Aside0.mk (Kd.R_below (by (with_reducible repeat (first | apply Kd.R_alloc | apply Kd.R_drewN | apply Kd.R_drew)); exact (Kd.R_mono (Kd.R_far (p := ⟨gb205, 1, none⟩) (Kd.R_far (p := ⟨gb205, 0, none⟩) (Kd.R_types HO_7.out BK205.out (by decide)) (fun _ hk => hk.2) (.string ((rd_T37 t201 x31_2).f0))) (fun _ hk => hk.2) (.string ((rd_T37 t201 x31_2).f1))) (fun _ h_ => h_.1))) hb); have n3_ := Aside0.mk (Kd.R_below (by (with_reducible repeat (first | apply Kd.R_alloc | apply Kd.R_drewN | apply Kd.R_drew)); exact (Kd.R_mono (Kd.R_far (p := ⟨gb205, 1, none⟩) (Kd.R_far (p := ⟨gb205, 0, none⟩) (Kd.R_mono HO_29.out (fun k_ hk => (⟨hk, hk.2⟩ : _ ∧ k_ ≠ gb205))) (fun _ hk => hk.2) (.string ((rd_T37 t201 x31_2).f0))) (fun _ hk => hk.2) (.string ((rd_T37 t201 x31_2).f1))) (fun _ h_ => h_.1))) hb); have n4_ := Aside0.mk (Kd.R_lower (Kd.R_new' (Kd.R_new' ho65 (Kd.R_lt (by (with_reducible repeat (first | apply Kd.R_alloc | apply Kd.R_drewN | apply Kd.R_drew)); exact (Kd.R_mono (Kd.R_far (p := ⟨gb205, 1, none⟩) (Kd.R_far (p := ⟨gb205, 0, none⟩) (Kd.R_types HO_5.out BK205.out (by decide)) (fun _ hk => hk.2) (.string ((rd_T37 t201 x31_2).f0))) (fun _ hk => hk.2) (.string ((rd_T37 t201 x31_2).f1))) (fun _ h_ => h_.1))))) (Kd.R_lt (by (with_reducible repeat (first | apply Kd.R_alloc | apply Kd.R_drewN | apply Kd.R_drew)); exact (Kd.R_mono (Kd.R_far (p := ⟨gb205, 1, none⟩) (Kd.R_far (p := ⟨gb205, 0, none⟩) (Kd.R_types HO_6.out BK205.out (by decide)) (fun _ hk => hk.2) (.string ((rd_T37 t201 x31_2).f0))) (fun _ hk => hk.2) (.string ((rd_T37 t201 x31_2).f1))) (fun _ h_ => h_.1))))) (below_size (by repeat (first | (with_reducible first | exact HB.out | apply below_alloc | apply pw_below_drewN | apply below_drew1 | refine below_set ?_ GE205.out) | exact HB.out)))); have n5_ := Aside0.mk (blk_below (g := gb205) (o := .cells #[.string ((rd_T37 t201 x31_2).f0), .string ((rd_T37 t201 x31_2).f1)] 37 (0, 0)) (by (with_reducible repeat (first | refine blk_drewN ?_ _ | refine blk_drew ?_ | refine blk_alloc ?_ _)); refine blk_put (cs := #[.string ((rd_T37 t201 x31_2).f0), .string (⟨#[]⟩ : ByteArray)]) ?_ 1 _ rfl; (with_reducible repeat (first | refine blk_drewN ?_ _ | refine blk_drew ?_ | refine blk_alloc ?_ _)); refine blk_put (cs := #[.string (⟨#[]⟩ : ByteArray), .string (⟨#[]⟩ : ByteArray)]) ?_ 0 _ rfl; (with_reducible repeat (first | refine blk_drewN ?_ _ | refine blk_drew ?_ | refine blk_alloc ?_ _)); exact BK205.out) hb); have n6_ := Aside0.mk (below_step (by repeat (first | (with_reducible first | exact HB.out | apply below_alloc | apply pw_below_drewN | apply below_drew1 | refine below_set ?_ GE205.out) | exact HB.out)) hb); clear HO_5; clear HO_6; clear HO_7; clear HO_29; clear BK205; clear HB; have HO_5 := n0_; have HO_6 := n1_; have HO_7 := n2_; have HO_29 := n3_; have HO221 := n4_; have BK205 := n5_; have HB := n6_; clear n0_ n1_ n2_ n3_ n4_ n5_ n6_; clear hb ho65; obtain ⟨Ao67, co67, eo67⟩ := Kd.R_slice HO221.out; subst eo67) | ((with_reducible refine gate_builtin (b := .append) (xs := #[.tmp 57, .tmp 59]) rfl ?_); (try (refine gate_guard (by rfl) ?_; dsimp only)); at_builtin; refine Kd.R_append_rows k32 (w0 := w) w.heap.size rfl (.tmp 57) (.tmp 59) 27 32 (.agg #[(.string ⟨#[]⟩), (.string ⟨#[]⟩)]) 32 rfl Try.underlying27 info32 rfl (by decide) (by omega) u6 x6_2 y219 _ _ _ (fun k_ => some k_ ≠ (u5 : Value).ownBlock ∧ some k_ ≠ (.slice Ao67 y219.length co67 : Value).ownBlock) (fun _ => False) rfl rfl ?aO ?aR (fun _ _ h => h) (fun _ h => h.elim) ?aF ?aB ?aS ?aL ?_; (case aR => repeat (first | exact (Kd.R_reads' HO221.out).2.2 | (with_reducible refine Kd.C_alloc ?_ _) | (with_reducible refine Kd.C_drewN ?_ _) | (with_reducible refine Kd.C_drew ?_))); (case aB => exact (by repeat (first | (with_reducible first | exact HB.out | apply below_alloc | apply pw_below_drewN | apply below_drew1 | refine below_set ?_ GE205.out) | exact HB.out))); (case aF => exact (fun k_ hk => ⟨Kd.fresh' (Kd.R_lt (by (with_reducible repeat (first | apply Kd.R_alloc | apply Kd.R_drewN | apply Kd.R_drew)); exact HO_5.out)) k_ hk, Kd.fresh' (Kd.R_lt (by (with_reducible repeat (first | apply Kd.R_alloc | apply Kd.R_drewN | apply Kd.R_drew)); exact HO221.out)) k_ hk⟩)); (case aO => exact (by (with_reducible repeat (first | apply Kd.R_alloc | apply Kd.R_drewN | apply Kd.R_drew)); exact HO_6.out)); (case aS => exact (below_size (by repeat (first | (with_reducible first | exact HB.out | apply below_alloc | apply pw_below_drewN | apply below_drew1 | refine below_set ?_ GE205.out) | exact HB.out)))); (case aL => have := LMc61.out; first | omega | exact this | exact Nat.le_of_lt this); intro v223 w66 ho hb hg hat; rw [← Ny222.out] at ho; have n0_ := Aside0.mk (Kd.R_after (ok := (fun k_ => some k_ ≠ (.slice Ao67 y219.length co67 : Value).ownBlock)) (by (with_reducible repeat (first | apply Kd.R_alloc | apply Kd.R_drewN | apply Kd.R_drew)); exact Kd.R_mono HO_5.out (fun _ hk => ⟨hk.2, hk.1⟩)) hg hat); have n1_ := Aside0.mk (Kd.R_over' (by (with_reducible repeat (first | apply Kd.R_alloc | apply Kd.R_drewN | apply Kd.R_drew)); exact HO_7.out) (Kd.R_typed (by (with_reducible repeat (first | apply Kd.R_alloc | apply Kd.R_drewN | apply Kd.R_drew)); exact HO_6.out)) (by decide) hg); have n2_ := Aside0.mk (Kd.R_over' (by (with_reducible repeat (first | apply Kd.R_alloc | apply Kd.R_drewN | apply Kd.R_drew)); exact HO_29.out) (Kd.R_typed (by (with_reducible repeat (first | apply Kd.R_alloc | apply Kd.R_drewN | apply Kd.R_drew)); exact HO_6.out)) (by decide) hg); have n3_ := Aside0.mk (blk_grown (g := gb205) (o := .cells #[.string ((rd_T37 t201 x31_2).f0), .string ((rd_T37 t201 x31_2).f1)] 37 (0, 0)) (by (with_reducible repeat (first | refine blk_drewN ?_ _ | refine blk_drew ?_ | refine blk_alloc ?_ _)); exact BK205.out) hg (Kd.R_ne HO_6.out BK205.out (by decide))); have n4_ := Aside0.mk (Kd.R_after (ok := (fun k_ => some k_ ≠ (u5 : Value).ownBlock)) (by (with_reducible repeat (first | apply Kd.R_alloc | apply Kd.R_drewN | apply Kd.R_drew)); exact Kd.R_mono HO221.out (fun _ hk => ⟨hk.1.2, hk.2⟩)) hg hat); have n5_ := Aside0.mk (hb); have n6_ := Aside0.mk (ho); clear HO_5; clear HO_7; clear HO_29; clear BK205; clear HO221; clear HB; clear HO_6; have HO_5 := n0_; have HO_7 := n1_; have HO_29 := n2_; have BK205 := n3_; have HO221 := n4_; have HB := n5_; have HO224 := n6_; clear n0_ n1_ n2_ n3_ n4_ n5_ n6_; clear ho hb hg hat))
                                  go_roundg k2
                                  case measure => have := HJ2.out; have := HK2.out; omega
                                  case rel => exact ⟨(x5_2), (y222), (x7_2), (wrap64 (x31_2 + 1)), (by first | rfl | (simp; done) | (simp [*]; done)), H', ⟨by have := HJ2.out; have := HK2.out; omega⟩, ⟨by (with_reducible repeat (first | apply Kd.R_alloc | apply Kd.R_drewN | apply Kd.R_drew)); exact Kd.R_mono HO_5.out (fun _ hk => hk.2)⟩, ⟨by (with_reducible repeat (first | apply Kd.R_alloc | apply Kd.R_drewN | apply Kd.R_drew)); exact Kd.R_mono HO224.out (fun _ hk => hk.1)⟩, ⟨by (with_reducible repeat (first | apply Kd.R_alloc | apply Kd.R_drewN | apply Kd.R_drew)); exact HO_7.out⟩, ⟨by (with_reducible repeat (first | apply Kd.R_alloc | apply Kd.R_drewN | apply Kd.R_drew)); exact Kd.R_mono HO_29.out (fun _ hk => trivial)⟩, ⟨by repeat (first | (with_reducible first | exact HB.out | apply below_alloc | apply pw_below_drewN | apply below_drew1 | refine below_set ?_ GE205.out) | exact HB.out)⟩⟩
                                · rw [if_neg c61] at H
                                  exact absurd H (by simp)
                            · rw [if_neg c42] at H
                              exact absurd H (by simp)
                          · rw [if_neg c41] at H
                            exact absurd H (by simp)
                      · rw [if_neg c38] at H
                        have c38b0 : decide (0 < (l1.length : Int)) = false := decide_eq_false c38
                        have c38b1 : decide (0 < l1.length) = false := decide_eq_false (by omega)
                        clear c38
                        obtain ⟨y225, hy225⟩ : ∃ y_ : List (S32), y_ = (([(⟨(rd_T37 t201 x31_2).f0, (rd_T37 t201 x31_2).f1⟩ : S32)] : List (S32))) := ⟨_, rfl⟩
                        replace H : (if x6_2.length + y225.length < 4398046511104 then (laws_FnSignatures.l0 k2 l0 l1 x5_2 (x6_2 ++ y225) x7_2 t201 (t201.length : Int) (wrap64 (x31_2 + 1))) else (none)) = some r := by first | (rw [hy225]; with_reducible exact H) | (have H2_ := (Option.bind_some _ _).symm.trans H; rw [hy225]; with_reducible exact H2_) | (have H2_ := (Option.bind_some _ _).symm.trans H; with_reducible exact H2_) | with_reducible exact H | (rw [hy225]; exact H) | exact H
                        have Ny225 := Aside0.mk hy225
                        clear hy225
                        by_cases c68 : x6_2.length + y225.length < 4398046511104
                        · rw [if_pos c68] at H
                          have LMc68 := Aside0.mk c68
                          clear c68
                          obtain ⟨y228, hy228⟩ : ∃ y_ : List (S32), y_ = (x6_2 ++ y225) := ⟨_, rfl⟩
                          replace H : (laws_FnSignatures.l0 k2 l0 l1 x5_2 y228 x7_2 t201 (t201.length : Int) (wrap64 (x31_2 + 1))) = some r := by first | (rw [hy228]; with_reducible exact H) | (have H2_ := (Option.bind_some _ _).symm.trans H; rw [hy228]; with_reducible exact H2_) | (have H2_ := (Option.bind_some _ _).symm.trans H; with_reducible exact H2_) | with_reducible exact H | (rw [hy228]; exact H) | exact H
                          have Ny228 := Aside0.mk hy228
                          clear hy228
                          have H' := Aside0.mk H
                          clear H
                          have p204 : 0 ≤ (x31_2 : Int) := of_decide_eq_true (by first | (with_reducible assumption) | assumption)
                          have q204 : x31_2 < (t201.length : Int) := of_decide_eq_true (by first | (with_reducible assumption) | assumption)
                          obtain ⟨ad204, e204, hx204_0, hx204_1⟩ := at_T37 (Kd.R_reads' HO_29.out).2.2 x31_2 p204 q204
                          cases e204
                          replace p204 := eq_true p204
                          replace q204 := eq_true q204
                          go_wp2_with (first | ((with_reducible refine gate_dst (N := 9) rfl ?_); (try (refine gate_guard (by rfl) ?_; dsimp only)); refine box_event ?hg (N := 9) ?hd (cs := #[.string (⟨#[]⟩ : ByteArray), .string (⟨#[]⟩ : ByteArray)]) (t := 37) ?hr ?_; (case hd => rfl); (case hg => rfl); (case hr => first | (go_simp; done) | (go_simp; rfl)); intro gb205 hg w69 hbox hb; have n0_ := Aside0.mk (Kd.R_below (by (with_reducible repeat (first | apply Kd.R_alloc | apply Kd.R_drewN | apply Kd.R_drew)); exact HO_5.out) hb); have n1_ := Aside0.mk (Kd.R_below (by (with_reducible repeat (first | apply Kd.R_alloc | apply Kd.R_drewN | apply Kd.R_drew)); exact HO_6.out) hb); have n2_ := Aside0.mk (Kd.R_below (by (with_reducible repeat (first | apply Kd.R_alloc | apply Kd.R_drewN | apply Kd.R_drew)); exact HO_7.out) hb); have n3_ := Aside0.mk (Kd.R_below (Kd.R_elderB (by (with_reducible repeat (first | apply Kd.R_alloc | apply Kd.R_drewN | apply Kd.R_drew)); exact HO_29.out) gb205 (Nat.le_of_eq hg.symm)) hb); have n4_ := Aside0.mk (below_step (by repeat (first | (with_reducible first | exact HB.out | apply below_alloc | apply pw_below_drewN | apply below_drew1) | exact HB.out)) hb); have n5_ := Aside0.mk (hbox); have n6_ := Aside0.mk ((by rw [hg]; exact (below_size (by repeat (first | (with_reducible first | exact HB.out | apply below_alloc | apply pw_below_drewN | apply below_drew1) | exact HB.out))) : w.heap.size ≤ gb205)); have n7_ := Aside0.mk ((by rw [hg]; exact (below_size (by repeat (first | (with_reducible first | exact HB.out | apply below_alloc | apply pw_below_drewN | apply below_drew1) | exact HB.out))) : w.heap.size ≤ gb205)); clear HO_5; clear HO_6; clear HO_7; clear HO_29; clear HB; have HO_5 := n0_; have HO_6 := n1_; have HO_7 := n2_; have HO_29 := n3_; have HB := n4_; have BK205 := n5_; have GW205 := n6_; have GE205 := n7_; clear n0_ n1_ n2_ n3_ n4_ n5_ n6_ n7_; clear hb hbox hg; have hcz70_0 : w69.cell? ⟨gb205, 0, none⟩ = some (.string (⟨#[]⟩ : ByteArray)) := (blk_cell BK205.out 0).trans rfl; have hcz70_1 : w69.cell? ⟨gb205, 1, none⟩ = some (.string (⟨#[]⟩ : ByteArray)) := (blk_cell BK205.out 1).trans rfl; have hfz70_0 := blk_frozen BK205.out 0; have hfz70_1 := blk_frozen BK205.out 1) | ((with_reducible refine gate_dst (N := 59) rfl ?_); (try (refine gate_guard (by rfl) ?_; dsimp only)); refine Kd.R_lit k32 _ 32 ?hg (N := 59) ?hd (xs := ([(⟨(rd_T37 t201 x31_2).f0, (rd_T37 t201 x31_2).f1⟩ : S32)] : List (S32))) (inner := [.string ((rd_T37 t201 x31_2).f0), .string ((rd_T37 t201 x31_2).f1)]) (ok := fun _ => True) (okp := fun _ => True) ?hr ?hp (fun _ hk => hk) trivial (Below.refl _ _) (Nat.le_refl _) (by simp) ?_; (case hd => rfl); (case hg => rfl); (case hr => first | (go_simp; done) | (go_simp; rfl)); (case hp => exact (Reps.c2 (show Kd.M k32 _ _ _ (⟨(rd_T37 t201 x31_2).f0, (rd_T37 t201 x31_2).f1⟩ : S32) [.string ((rd_T37 t201 x31_2).f0), .string ((rd_T37 t201 x31_2).f1)] from (k32_mkM _ _ _ (⟨(rd_T37 t201 x31_2).f0, (rd_T37 t201 x31_2).f1⟩ : S32) )) (Reps.none _ _))); intro v226 w71 ho72 hb hg_ hnew_; clear hg_ hnew_; (first | rw [← Ny225.out] at ho72 | (simp only [Int.reduceToNat] at ho72; rw [← Ny225.out] at ho72)); have n0_ := Aside0.mk (Kd.R_elder' (by (with_reducible repeat (first | apply Kd.R_alloc | apply Kd.R_drewN | apply Kd.R_drew)); exact (Kd.R_mono (Kd.R_far (p := ⟨gb205, 1, none⟩) (Kd.R_far (p := ⟨gb205, 0, none⟩) (Kd.R_types HO_5.out BK205.out (by decide)) (fun _ hk => hk.2) (.string ((rd_T37 t201 x31_2).f0))) (fun _ hk => hk.2) (.string ((rd_T37 t201 x31_2).f1))) (fun _ h_ => h_.1))) (Kd.R_base ho72) hb); have n1_ := Aside0.mk (Kd.R_elder' (by (with_reducible repeat (first | apply Kd.R_alloc | apply Kd.R_drewN | apply Kd.R_drew)); exact (Kd.R_mono (Kd.R_far (p := ⟨gb205, 1, none⟩) (Kd.R_far (p := ⟨gb205, 0, none⟩) (Kd.R_types HO_6.out BK205.out (by decide)) (fun _ hk => hk.2) (.string ((rd_T37 t201 x31_2).f0))) (fun _ hk => hk.2) (.string ((rd_T37 t201 x31_2).f1))) (fun _ h_ => h_.1))) (Kd.R_base ho72) hb); have n2_ := Aside0.mk (Kd.R_below (by (with_reducible repeat (first | apply Kd.R_alloc | apply Kd.R_drewN | apply Kd.R_drew)); exact (Kd.R_mono (Kd.R_far (p := ⟨gb205, 1, none⟩) (Kd.R_far (p := ⟨gb205, 0, none⟩) (Kd.R_types HO_7.out BK205.out (by decide)) (fun _ hk => hk.2) (.string ((rd_T37 t201 x31_2).f0))) (fun _ hk => hk.2) (.string ((rd_T37 t201 x31_2).f1))) (fun _ h_ => h_.1))) hb); have n3_ := Aside0.mk (Kd.R_below (by (with_reducible repeat (first | apply Kd.R_alloc | apply Kd.R_drewN | apply Kd.R_drew)); exact (Kd.R_mono (Kd.R_far (p := ⟨gb205, 1, none⟩) (Kd.R_far (p := ⟨gb205, 0, none⟩) (Kd.R_mono HO_29.out (fun k_ hk => (⟨hk, hk.2⟩ : _ ∧ k_ ≠ gb205))) (fun _ hk => hk.2) (.string ((rd_T37 t201 x31_2).f0))) (fun _ hk => hk.2) (.string ((rd_T37 t201 x31_2).f1))) (fun _ h_ => h_.1))) hb); have n4_ := Aside0.mk (Kd.R_lower (Kd.R_new' (Kd.R_new' ho72 (Kd.R_lt (by (with_reducible repeat (first | apply Kd.R_alloc | apply Kd.R_drewN | apply Kd.R_drew)); exact (Kd.R_mono (Kd.R_far (p := ⟨gb205, 1, none⟩) (Kd.R_far (p := ⟨gb205, 0, none⟩) (Kd.R_types HO_5.out BK205.out (by decide)) (fun _ hk => hk.2) (.string ((rd_T37 t201 x31_2).f0))) (fun _ hk => hk.2) (.string ((rd_T37 t201 x31_2).f1))) (fun _ h_ => h_.1))))) (Kd.R_lt (by (with_reducible repeat (first | apply Kd.R_alloc | apply Kd.R_drewN | apply Kd.R_drew)); exact (Kd.R_mono (Kd.R_far (p := ⟨gb205, 1, none⟩) (Kd.R_far (p := ⟨gb205, 0, none⟩) (Kd.R_types HO_6.out BK205.out (by decide)) (fun _ hk => hk.2) (.string ((rd_T37 t201 x31_2).f0))) (fun _ hk => hk.2) (.string ((rd_T37 t201 x31_2).f1))) (fun _ h_ => h_.1))))) (below_size (by repeat (first | (with_reducible first | exact HB.out | apply below_alloc | apply pw_below_drewN | apply below_drew1 | refine below_set ?_ GE205.out) | exact HB.out)))); have n5_ := Aside0.mk (blk_below (g := gb205) (o := .cells #[.string ((rd_T37 t201 x31_2).f0), .string ((rd_T37 t201 x31_2).f1)] 37 (0, 0)) (by (with_reducible repeat (first | refine blk_drewN ?_ _ | refine blk_drew ?_ | refine blk_alloc ?_ _)); refine blk_put (cs := #[.string ((rd_T37 t201 x31_2).f0), .string (⟨#[]⟩ : ByteArray)]) ?_ 1 _ rfl; (with_reducible repeat (first | refine blk_drewN ?_ _ | refine blk_drew ?_ | refine blk_alloc ?_ _)); refine blk_put (cs := #[.string (⟨#[]⟩ : ByteArray), .string (⟨#[]⟩ : ByteArray)]) ?_ 0 _ rfl; (with_reducible repeat (first | refine blk_drewN ?_ _ | refine blk_drew ?_ | refine blk_alloc ?_ _)); exact BK205.out) hb); have n6_ := Aside0.mk (below_step (by repeat (first | (with_reducible first | exact HB.out | apply below_alloc | apply pw_below_drewN | apply below_drew1 | refine below_set ?_ GE205.out) | exact HB.out)) hb); clear HO_5; clear HO_6; clear HO_7; clear HO_29; clear BK205; clear HB; have HO_5 := n0_; have HO_6 := n1_; have HO_7 := n2_; have HO_29 := n3_; have HO227 := n4_; have BK205 := n5_; have HB := n6_; clear n0_ n1_ n2_ n3_ n4_ n5_ n6_; clear hb ho72; obtain ⟨Ao74, co74, eo74⟩ := Kd.R_slice HO227.out; subst eo74) | ((with_reducible refine gate_builtin (b := .append) (xs := #[.tmp 57, .tmp 59]) rfl ?_); (try (refine gate_guard (by rfl) ?_; dsimp only)); at_builtin; refine Kd.R_append_rows k32 (w0 := w) w.heap.size rfl (.tmp 57) (.tmp 59) 27 32 (.agg #[(.string ⟨#[]⟩), (.string ⟨#[]⟩)]) 32 rfl Try.underlying27 info32 rfl (by decide) (by omega) u6 x6_2 y225 _ _ _ (fun k_ => some k_ ≠ (u5 : Value).ownBlock ∧ some k_ ≠ (.slice Ao74 y225.length co74 : Value).ownBlock) (fun _ => False) rfl rfl ?aO ?aR (fun _ _ h => h) (fun _ h => h.elim) ?aF ?aB ?aS ?aL ?_; (case aR => repeat (first | exact (Kd.R_reads' HO227.out).2.2 | (with_reducible refine Kd.C_alloc ?_ _) | (with_reducible refine Kd.C_drewN ?_ _) | (with_reducible refine Kd.C_drew ?_))); (case aB => exact (by repeat (first | (with_reducible first | exact HB.out | apply below_alloc | apply pw_below_drewN | apply below_drew1 | refine below_set ?_ GE205.out) | exact HB.out))); (case aF => exact (fun k_ hk => ⟨Kd.fresh' (Kd.R_lt (by (with_reducible repeat (first | apply Kd.R_alloc | apply Kd.R_drewN | apply Kd.R_drew)); exact HO_5.out)) k_ hk, Kd.fresh' (Kd.R_lt (by (with_reducible repeat (first | apply Kd.R_alloc | apply Kd.R_drewN | apply Kd.R_drew)); exact HO227.out)) k_ hk⟩)); (case aO => exact (by (with_reducible repeat (first | apply Kd.R_alloc | apply Kd.R_drewN | apply Kd.R_drew)); exact HO_6.out)); (case aS => exact (below_size (by repeat (first | (with_reducible first | exact HB.out | apply below_alloc | apply pw_below_drewN | apply below_drew1 | refine below_set ?_ GE205.out) | exact HB.out)))); (case aL => have := LMc68.out; first | omega | exact this | exact Nat.le_of_lt this); intro v229 w73 ho hb hg hat; rw [← Ny228.out] at ho; have n0_ := Aside0.mk (Kd.R_after (ok := (fun k_ => some k_ ≠ (.slice Ao74 y225.length co74 : Value).ownBlock)) (by (with_reducible repeat (first | apply Kd.R_alloc | apply Kd.R_drewN | apply Kd.R_drew)); exact Kd.R_mono HO_5.out (fun _ hk => ⟨hk.2, hk.1⟩)) hg hat); have n1_ := Aside0.mk (Kd.R_over' (by (with_reducible repeat (first | apply Kd.R_alloc | apply Kd.R_drewN | apply Kd.R_drew)); exact HO_7.out) (Kd.R_typed (by (with_reducible repeat (first | apply Kd.R_alloc | apply Kd.R_drewN | apply Kd.R_drew)); exact HO_6.out)) (by decide) hg); have n2_ := Aside0.mk (Kd.R_over' (by (with_reducible repeat (first | apply Kd.R_alloc | apply Kd.R_drewN | apply Kd.R_drew)); exact HO_29.out) (Kd.R_typed (by (with_reducible repeat (first | apply Kd.R_alloc | apply Kd.R_drewN | apply Kd.R_drew)); exact HO_6.out)) (by decide) hg); have n3_ := Aside0.mk (blk_grown (g := gb205) (o := .cells #[.string ((rd_T37 t201 x31_2).f0), .string ((rd_T37 t201 x31_2).f1)] 37 (0, 0)) (by (with_reducible repeat (first | refine blk_drewN ?_ _ | refine blk_drew ?_ | refine blk_alloc ?_ _)); exact BK205.out) hg (Kd.R_ne HO_6.out BK205.out (by decide))); have n4_ := Aside0.mk (Kd.R_after (ok := (fun k_ => some k_ ≠ (u5 : Value).ownBlock)) (by (with_reducible repeat (first | apply Kd.R_alloc | apply Kd.R_drewN | apply Kd.R_drew)); exact Kd.R_mono HO227.out (fun _ hk => ⟨hk.1.2, hk.2⟩)) hg hat); have n5_ := Aside0.mk (hb); have n6_ := Aside0.mk (ho); clear HO_5; clear HO_7; clear HO_29; clear BK205; clear HO227; clear HB; clear HO_6; have HO_5 := n0_; have HO_7 := n1_; have HO_29 := n2_; have BK205 := n3_; have HO227 := n4_; have HB := n5_; have HO230 := n6_; clear n0_ n1_ n2_ n3_ n4_ n5_ n6_; clear ho hb hg hat))
                          go_roundg k2
                          case measure => have := HJ2.out; have := HK2.out; omega
                          case rel => exact ⟨(x5_2), (y228), (x7_2), (wrap64 (x31_2 + 1)), (by first | rfl | (simp; done) | (simp [*]; done)), H', ⟨by have := HJ2.out; have := HK2.out; omega⟩, ⟨by (with_reducible repeat (first | apply Kd.R_alloc | apply Kd.R_drewN | apply Kd.R_drew)); exact Kd.R_mono HO_5.out (fun _ hk => hk.2)⟩, ⟨by (with_reducible repeat (first | apply Kd.R_alloc | apply Kd.R_drewN | apply Kd.R_drew)); exact Kd.R_mono HO230.out (fun _ hk => hk.1)⟩, ⟨by (with_reducible repeat (first | apply Kd.R_alloc | apply Kd.R_drewN | apply Kd.R_drew)); exact HO_7.out⟩, ⟨by (with_reducible repeat (first | apply Kd.R_alloc | apply Kd.R_drewN | apply Kd.R_drew)); exact Kd.R_mono HO_29.out (fun _ hk => trivial)⟩, ⟨by repeat (first | (with_reducible first | exact HB.out | apply below_alloc | apply pw_below_drewN | apply below_drew1 | refine below_set ?_ GE205.out) | exact HB.out)⟩⟩
                        · rw [if_neg c68] at H
                          exact absurd H (by simp)
                    · rw [if_neg c37] at H
                      exact absurd H (by simp)
                  · rw [if_neg c36] at H
                    exact absurd H (by simp)
                · rw [if_neg c35] at H
                  have c35b0 : decide (x31_2 < (t201.length : Int)) = false := decide_eq_false c35
                  clear c35
                  replace H := Option.bind_eq_some_iff.mp H
                  obtain ⟨t231, A750, H⟩ := H
                  replace H : ((spec_SignatureFor.f k2 t231 x7_2).bind fun bt234 => ((impl_SignatureFor.f l0 x7_2).bind fun t236 => ((impl_Signature.f x5_2).bind fun t237 => (if t236 = t237 then (if bt234.2 = 1 then ((impl_Signature.f x5_2).bind fun t238 => (if t238 = bt234.1 then ((impl_SignatureWithout.f l0 x7_2).bind fun t239 => ((impl_Signature.f x6_2).bind fun t240 => (some (t239 == t240)))) else (some false))) else ((impl_SignatureWithout.f l0 x7_2).bind fun t241 => ((impl_Signature.f x6_2).bind fun t242 => (some (t241 == t242))))) else (some false))))) = some r := H
                  have A75 := Aside0.mk A750
                  clear A750
                  replace H := Option.bind_eq_some_iff.mp H
                  obtain ⟨⟨t234, t235⟩, A760, H⟩ := H
                  replace H : ((impl_SignatureFor.f l0 x7_2).bind fun t236 => ((impl_Signature.f x5_2).bind fun t237 => (if t236 = t237 then (if t235 = 1 then ((impl_Signature.f x5_2).bind fun t238 => (if t238 = t234 then ((impl_SignatureWithout.f l0 x7_2).bind fun t239 => ((impl_Signature.f x6_2).bind fun t240 => (some (t239 == t240)))) else (some false))) else ((impl_SignatureWithout.f l0 x7_2).bind fun t241 => ((impl_Signature.f x6_2).bind fun t242 => (some (t241 == t242))))) else (some false)))) = some r := H
                  have A76 := Aside0.mk A760
                  clear A760
                  replace H := Option.bind_eq_some_iff.mp H
                  obtain ⟨t236, A770, H⟩ := H
                  replace H : ((impl_Signature.f x5_2).bind fun t237 => (if t236 = t237 then (if t235 = 1 then ((impl_Signature.f x5_2).bind fun t238 => (if t238 = t234 then ((impl_SignatureWithout.f l0 x7_2).bind fun t239 => ((impl_Signature.f x6_2).bind fun t240 => (some (t239 == t240)))) else (some false))) else ((impl_SignatureWithout.f l0 x7_2).bind fun t241 => ((impl_Signature.f x6_2).bind fun t242 => (some (t241 == t242))))) else (some false))) = some r := H
                  have A77 := Aside0.mk A770
                  clear A770
                  replace H := Option.bind_eq_some_iff.mp H
                  obtain ⟨t237, A780, H⟩ := H
                  replace H : (if t236 = t237 then (if t235 = 1 then ((impl_Signature.f x5_2).bind fun t238 => (if t238 = t234 then ((impl_SignatureWithout.f l0 x7_2).bind fun t239 => ((impl_Signature.f x6_2).bind fun t240 => (some (t239 == t240)))) else (some false))) else ((impl_SignatureWithout.f l0 x7_2).bind fun t241 => ((impl_Signature.f x6_2).bind fun t242 => (some (t241 == t242))))) else (some false)) = some r := H
                  have A78 := Aside0.mk A780
                  clear A780
                  by_cases c79 : t236 = t237
                  · rw [if_pos c79] at H
                    have c79b0 : (t236 == t237) = true := beq_iff_eq.mpr c79
                    have c79b1 : (t236 != t237) = false := bne_eq_false_iff_eq.mpr c79
                    clear c79
                    by_cases c80 : t235 = 1
                    · rw [if_pos c80] at H
                      have c80b0 : (t235 == 1) = true := beq_iff_eq.mpr c80
                      have c80b1 : (t235 != 1) = false := bne_eq_false_iff_eq.mpr c80
                      clear c80
                      replace H := Option.bind_eq_some_iff.mp H
                      obtain ⟨t238, A810, H⟩ := H
                      replace H : (if t238 = t234 then ((impl_SignatureWithout.f l0 x7_2).bind fun t239 => ((impl_Signature.f x6_2).bind fun t240 => (some (t239 == t240)))) else (some false)) = some r := H
                      have A81 := Aside0.mk A810
                      clear A810
                      by_cases c82 : t238 = t234
                      · rw [if_pos c82] at H
                        have c82b0 : (t238 == t234) = true := beq_iff_eq.mpr c82
                        have c82b1 : (t238 != t234) = false := bne_eq_false_iff_eq.mpr c82
                        clear c82
                        replace H := Option.bind_eq_some_iff.mp H
                        obtain ⟨t239, A830, H⟩ := H
                        replace H : ((impl_Signature.f x6_2).bind fun t240 => (some (t239 == t240))) = some r := H
                        have A83 := Aside0.mk A830
                        clear A830
                        replace H := Option.bind_eq_some_iff.mp H
                        obtain ⟨t240, A840, H⟩ := H
                        replace H : (some (t239 == t240)) = some r := H
                        have A84 := Aside0.mk A840
                        clear A840
                        obtain rfl := Option.some.inj H
                        go_wp2_with (first | ((with_reducible refine gate_callee (f := 14) rfl ?_); refine goesL_ (some 64) rfl rfl Try.func14 (by kernel_rfl) rfl #[.slice A0 l0.length c0] rfl (by (try simp only [List.map_toArray, List.map_cons, List.map_nil]); first | done | rfl | (simp only [List.length_drop, List.length_take]; rfl)) ?_; (with_reducible refine (laws_pairs.calls k2 _ _ l0 t231 _ ?side1 ?side2 A75.out).mono ?_); (case side1 => repeat (first | exact (Kd.C_below HR0.out HB.out) | (with_reducible refine Kd.C_alloc ?_ _) | (with_reducible refine Kd.C_drewN ?_ _) | (with_reducible refine Kd.C_drew ?_))); (case side2 => exact HC0.out); rintro e w85 ⟨v232, rfl, ho0, hb⟩; refine ⟨_, rfl, ?_⟩; have n0_ := Aside0.mk (Kd.R_below (by (with_reducible repeat (first | apply Kd.R_alloc | apply Kd.R_drewN | apply Kd.R_drew)); exact HO_5.out) hb); have n1_ := Aside0.mk (Kd.R_below (by (with_reducible repeat (first | apply Kd.R_alloc | apply Kd.R_drewN | apply Kd.R_drew)); exact HO_6.out) hb); have n2_ := Aside0.mk (Kd.R_below (by (with_reducible repeat (first | apply Kd.R_alloc | apply Kd.R_drewN | apply Kd.R_drew)); exact HO_7.out) hb); have n3_ := Aside0.mk (Kd.R_elder' (by (with_reducible repeat (first | apply Kd.R_alloc | apply Kd.R_drewN | apply Kd.R_drew)); exact HO_29.out) (Kd.R_base ho0) hb); have n4_ := Aside0.mk (Kd.R_lower (Kd.R_new' ho0 (Kd.R_lt (by (with_reducible repeat (first | apply Kd.R_alloc | apply Kd.R_drewN | apply Kd.R_drew)); exact HO_29.out))) (below_size (by repeat (first | (with_reducible first | exact HB.out | apply below_alloc | apply pw_below_drewN | apply below_drew1) | exact HB.out)))); have n5_ := Aside0.mk (below_step (by repeat (first | (with_reducible first | exact HB.out | apply below_alloc | apply pw_below_drewN | apply below_drew1) | exact HB.out)) hb); clear HO_5; clear HO_6; clear HO_7; clear HO_29; clear HB; have HO_5 := n0_; have HO_6 := n1_; have HO_7 := n2_; have HO_29 := n3_; have HO233 := n4_; have HB := n5_; clear n0_ n1_ n2_ n3_ n4_ n5_; (try clear hb); (try clear hb2); (try clear hk); (try clear hi); (try clear ho0); obtain ⟨Ao86, co86, eo86⟩ := Kd.R_slice HO233.out; subst eo86; obtain ⟨Ao87, co87, eo87⟩ := Kd.R_slice HO_7.out; subst eo87) | ((with_reducible refine gate_callee (f := 15) rfl ?_); refine goesL_ (some 66) rfl rfl Try.func15 (by kernel_rfl) rfl #[.slice Ao86 t231.length co86, .slice Ao87 x7_2.length co87] rfl (by (try simp only [List.map_toArray, List.map_cons, List.map_nil]); first | done | rfl | (simp only [List.length_drop, List.length_take]; rfl)) ?_; (with_reducible refine (spec_SignatureFor.calls k2 _ _ t231 _ _ x7_2 t234 t235 _ ?side1 ?side2 ?side3 ?side4 A76.out).mono ?_); (case side1 => repeat (first | exact (Kd.R_reads' HO233.out).2.2 | (with_reducible refine Kd.C_alloc ?_ _) | (with_reducible refine Kd.C_drewN ?_ _) | (with_reducible refine Kd.C_drew ?_))); (case side2 => exact (Kd.R_reads' HO233.out).2.1); (case side3 => repeat (first | exact (Kd.R_reads' HO_7.out).2.2 | (with_reducible refine Kd.C_alloc ?_ _) | (with_reducible refine Kd.C_drewN ?_ _) | (with_reducible refine Kd.C_drew ?_))); (case side4 => exact (Kd.R_reads' HO_7.out).2.1); rintro e w88 ⟨rfl, hb⟩; refine ⟨_, rfl, ?_⟩; have n0_ := Aside0.mk (Kd.R_below (by (with_reducible repeat (first | apply Kd.R_alloc | apply Kd.R_drewN | apply Kd.R_drew)); exact HO_5.out) hb); have n1_ := Aside0.mk (Kd.R_below (by (with_reducible repeat (first | apply Kd.R_alloc | apply Kd.R_drewN | apply Kd.R_drew)); exact HO_6.out) hb); have n2_ := Aside0.mk (Kd.R_below (by (with_reducible repeat (first | apply Kd.R_alloc | apply Kd.R_drewN | apply Kd.R_drew)); exact HO_7.out) hb); have n3_ := Aside0.mk (Kd.R_below (by (with_reducible repeat (first | apply Kd.R_alloc | apply Kd.R_drewN | apply Kd.R_drew)); exact HO_29.out) hb); have n4_ := Aside0.mk (Kd.R_below (by (with_reducible repeat (first | apply Kd.R_alloc | apply Kd.R_drewN | apply Kd.R_drew)); exact HO233.out) hb); have n5_ := Aside0.mk (below_step (by repeat (first | (with_reducible first | exact HB.out | apply below_alloc | apply pw_below_drewN | apply below_drew1) | exact HB.out)) hb); clear HO_5; clear HO_6; clear HO_7; clear HO_29; clear HO233; clear HB; have HO_5 := n0_; have HO_6 := n1_; have HO_7 := n2_; have HO_29 := n3_; have HO233 := n4_; have HB := n5_; clear n0_ n1_ n2_ n3_ n4_ n5_; (try clear hb); (try clear hb2); (try clear hk); (try clear hi)) | ((with_reducible refine gate_callee (f := 16) rfl ?_); refine goesL_ (some 71) rfl rfl Try.func16 (by kernel_rfl) rfl #[.slice A0 l0.length c0, .slice Ao87 x7_2.length co87] rfl (by (try simp only [List.map_toArray, List.map_cons, List.map_nil]); first | done | rfl | (simp only [List.length_drop, List.length_take]; rfl)) ?_; (with_reducible refine (impl_SignatureFor.calls _ _ l0 _ _ x7_2 t236 _ ?side1 ?side2 ?side3 ?side4 A77.out).mono ?_); (case side1 => repeat (first | exact (Kd.C_below HR0.out HB.out) | (with_reducible refine Kd.C_alloc ?_ _) | (with_reducible refine Kd.C_drewN ?_ _) | (with_reducible refine Kd.C_drew ?_))); (case side2 => exact HC0.out); (case side3 => repeat (first | exact (Kd.R_reads' HO_7.out).2.2 | (with_reducible refine Kd.C_alloc ?_ _) | (with_reducible refine Kd.C_drewN ?_ _) | (with_reducible refine Kd.C_drew ?_))); (case side4 => exact (Kd.R_reads' HO_7.out).2.1); rintro e w89 ⟨rfl, hb⟩; refine ⟨_, rfl, ?_⟩; have n0_ := Aside0.mk (Kd.R_below (by (with_reducible repeat (first | apply Kd.R_alloc | apply Kd.R_drewN | apply Kd.R_drew)); exact HO_5.out) hb); have n1_ := Aside0.mk (Kd.R_below (by (with_reducible repeat (first | apply Kd.R_alloc | apply Kd.R_drewN | apply Kd.R_drew)); exact HO_6.out) hb); have n2_ := Aside0.mk (Kd.R_below (by (with_reducible repeat (first | apply Kd.R_alloc | apply Kd.R_drewN | apply Kd.R_drew)); exact HO_7.out) hb); have n3_ := Aside0.mk (Kd.R_below (by (with_reducible repeat (first | apply Kd.R_alloc | apply Kd.R_drewN | apply Kd.R_drew)); exact HO_29.out) hb); have n4_ := Aside0.mk (Kd.R_below (by (with_reducible repeat (first | apply Kd.R_alloc | apply Kd.R_drewN | apply Kd.R_drew)); exact HO233.out) hb); have n5_ := Aside0.mk (below_step (by repeat (first | (with_reducible first | exact HB.out | apply below_alloc | apply pw_below_drewN | apply below_drew1) | exact HB.out)) hb); clear HO_5; clear HO_6; clear HO_7; clear HO_29; clear HO233; clear HB; have HO_5 := n0_; have HO_6 := n1_; have HO_7 := n2_; have HO_29 := n3_; have HO233 := n4_; have HB := n5_; clear n0_ n1_ n2_ n3_ n4_ n5_; (try clear hb); (try clear hb2); (try clear hk); (try clear hi); obtain ⟨Ao90, co90, eo90⟩ := Kd.R_slice HO_5.out; subst eo90) | ((with_reducible refine gate_callee (f := 11) rfl ?_); refine goesL_ (some 73) rfl rfl Try.func11 (by kernel_rfl) rfl #[.slice Ao90 x5_2.length co90] rfl (by (try simp only [List.map_toArray, List.map_cons, List.map_nil]); first | done | rfl | (simp only [List.length_drop, List.length_take]; rfl)) ?_; (with_reducible refine (impl_Signature.calls _ _ x5_2 t237 _ ?side1 ?side2 A78.out).mono ?_); (case side1 => repeat (first | exact (Kd.R_reads' HO_5.out).2.2 | (with_reducible refine Kd.C_alloc ?_ _) | (with_reducible refine Kd.C_drewN ?_ _) | (with_reducible refine Kd.C_drew ?_))); (case side2 => exact (Kd.R_reads' HO_5.out).2.1); rintro e w91 ⟨rfl, hb⟩; refine ⟨_, rfl, ?_⟩; have n0_ := Aside0.mk (Kd.R_below (by (with_reducible repeat (first | apply Kd.R_alloc | apply Kd.R_drewN | apply Kd.R_drew)); exact HO_5.out) hb); have n1_ := Aside0.mk (Kd.R_below (by (with_reducible repeat (first | apply Kd.R_alloc | apply Kd.R_drewN | apply Kd.R_drew)); exact HO_6.out) hb); have n2_ := Aside0.mk (Kd.R_below (by (with_reducible repeat (first | apply Kd.R_alloc | apply Kd.R_drewN | apply Kd.R_drew)); exact HO_7.out) hb); have n3_ := Aside0.mk (Kd.R_below (by (with_reducible repeat (first | apply Kd.R_alloc | apply Kd.R_drewN | apply Kd.R_drew)); exact HO_29.out) hb); have n4_ := Aside0.mk (Kd.R_below (by (with_reducible repeat (first | apply Kd.R_alloc | apply Kd.R_drewN | apply Kd.R_drew)); exact HO233.out) hb); have n5_ := Aside0.mk (below_step (by repeat (first | (with_reducible first | exact HB.out | apply below_alloc | apply pw_below_drewN | apply below_drew1) | exact HB.out)) hb); clear HO_5; clear HO_6; clear HO_7; clear HO_29; clear HO233; clear HB; have HO_5 := n0_; have HO_6 := n1_; have HO_7 := n2_; have HO_29 := n3_; have HO233 := n4_; have HB := n5_; clear n0_ n1_ n2_ n3_ n4_ n5_; (try clear hb); (try clear hb2); (try clear hk); (try clear hi)) | (go_at_call 11; (with_reducible refine (impl_Signature.calls _ _ x5_2 t238 _ ?side1 ?side2 A81.out).mono ?_); (case side1 => repeat (first | exact (Kd.R_reads' HO_5.out).2.2 | (with_reducible refine Kd.C_alloc ?_ _) | (with_reducible refine Kd.C_drewN ?_ _) | (with_reducible refine Kd.C_drew ?_))); (case side2 => exact (Kd.R_reads' HO_5.out).2.1); rintro e w92 ⟨rfl, hb⟩; have n0_ := Aside0.mk (Kd.R_below (by (with_reducible repeat (first | apply Kd.R_alloc | apply Kd.R_drewN | apply Kd.R_drew)); exact HO_5.out) hb); have n1_ := Aside0.mk (Kd.R_below (by (with_reducible repeat (first | apply Kd.R_alloc | apply Kd.R_drewN | apply Kd.R_drew)); exact HO_6.out) hb); have n2_ := Aside0.mk (Kd.R_below (by (with_reducible repeat (first | apply Kd.R_alloc | apply Kd.R_drewN | apply Kd.R_drew)); exact HO_7.out) hb); have n3_ := Aside0.mk (Kd.R_below (by (with_reducible repeat (first | apply Kd.R_alloc | apply Kd.R_drewN | apply Kd.R_drew)); exact HO_29.out) hb); have n4_ := Aside0.mk (Kd.R_below (by (with_reducible repeat (first | apply Kd.R_alloc | apply Kd.R_drewN | apply Kd.R_drew)); exact HO233.out) hb); have n5_ := Aside0.mk (below_step (by repeat (first | (with_reducible first | exact HB.out | apply below_alloc | apply pw_below_drewN | apply below_drew1) | exact HB.out)) hb); clear HO_5; clear HO_6; clear HO_7; clear HO_29; clear HO233; clear HB; have HO_5 := n0_; have HO_6 := n1_; have HO_7 := n2_; have HO_29 := n3_; have HO233 := n4_; have HB := n5_; clear n0_ n1_ n2_ n3_ n4_ n5_; (try clear hb); (try clear hb2); (try clear hk); (try clear hi)) | (go_at_call 17; (with_reducible refine (impl_SignatureWithout.calls _ _ l0 _ _ x7_2 t239 _ ?side1 ?side2 ?side3 ?side4 A83.out).mono ?_); (case side1 => repeat (first | exact (Kd.C_below HR0.out HB.out) | (with_reducible refine Kd.C_alloc ?_ _) | (with_reducible refine Kd.C_drewN ?_ _) | (with_reducible refine Kd.C_drew ?_))); (case side2 => exact HC0.out); (case side3 => repeat (first | exact (Kd.R_reads' HO_7.out).2.2 | (with_reducible refine Kd.C_alloc ?_ _) | (with_reducible refine Kd.C_drewN ?_ _) | (with_reducible refine Kd.C_drew ?_))); (case side4 => exact (Kd.R_reads' HO_7.out).2.1); rintro e w93 ⟨rfl, hb⟩; have n0_ := Aside0.mk (Kd.R_below (by (with_reducible repeat (first | apply Kd.R_alloc | apply Kd.R_drewN | apply Kd.R_drew)); exact HO_5.out) hb); have n1_ := Aside0.mk (Kd.R_below (by (with_reducible repeat (first | apply Kd.R_alloc | apply Kd.R_drewN | apply Kd.R_drew)); exact HO_6.out) hb); have n2_ := Aside0.mk (Kd.R_below (by (with_reducible repeat (first | apply Kd.R_alloc | apply Kd.R_drewN | apply Kd.R_drew)); exact HO_7.out) hb); have n3_ := Aside0.mk (Kd.R_below (by (with_reducible repeat (first | apply Kd.R_alloc | apply Kd.R_drewN | apply Kd.R_drew)); exact HO_29.out) hb); have n4_ := Aside0.mk (Kd.R_below (by (with_reducible repeat (first | apply Kd.R_alloc | apply Kd.R_drewN | apply Kd.R_drew)); exact HO233.out) hb); have n5_ := Aside0.mk (below_step (by repeat (first | (with_reducible first | exact HB.out | apply below_alloc | apply pw_below_drewN | apply below_drew1) | exact HB.out)) hb); clear HO_5; clear HO_6; clear HO_7; clear HO_29; clear HO233; clear HB; have HO_5 := n0_; have HO_6 := n1_; have HO_7 := n2_; have HO_29 := n3_; have HO233 := n4_; have HB := n5_; clear n0_ n1_ n2_ n3_ n4_ n5_; (try clear hb); (try clear hb2); (try clear hk); (try clear hi); obtain ⟨Ao94, co94, eo94⟩ := Kd.R_slice HO_6.out; subst eo94) | (go_at_call 11; (with_reducible refine (impl_Signature.calls _ _ x6_2 t240 _ ?side1 ?side2 A84.out).mono ?_); (case side1 => repeat (first | exact (Kd.R_reads' HO_6.out).2.2 | (with_reducible refine Kd.C_alloc ?_ _) | (with_reducible refine Kd.C_drewN ?_ _) | (with_reducible refine Kd.C_drew ?_))); (case side2 => exact (Kd.R_reads' HO_6.out).2.1); rintro e w95 ⟨rfl, hb⟩; have n0_ := Aside0.mk (Kd.R_below (by (with_reducible repeat (first | apply Kd.R_alloc | apply Kd.R_drewN | apply Kd.R_drew)); exact HO_5.out) hb); have n1_ := Aside0.mk (Kd.R_below (by (with_reducible repeat (first | apply Kd.R_alloc | apply Kd.R_drewN | apply Kd.R_drew)); exact HO_6.out) hb); have n2_ := Aside0.mk (Kd.R_below (by (with_reducible repeat (first | apply Kd.R_alloc | apply Kd.R_drewN | apply Kd.R_drew)); exact HO_7.out) hb); have n3_ := Aside0.mk (Kd.R_below (by (with_reducible repeat (first | apply Kd.R_alloc | apply Kd.R_drewN | apply Kd.R_drew)); exact HO_29.out) hb); have n4_ := Aside0.mk (Kd.R_below (by (with_reducible repeat (first | apply Kd.R_alloc | apply Kd.R_drewN | apply Kd.R_drew)); exact HO233.out) hb); have n5_ := Aside0.mk (below_step (by repeat (first | (with_reducible first | exact HB.out | apply below_alloc | apply pw_below_drewN | apply below_drew1) | exact HB.out)) hb); clear HO_5; clear HO_6; clear HO_7; clear HO_29; clear HO233; clear HB; have HO_5 := n0_; have HO_6 := n1_; have HO_7 := n2_; have HO_29 := n3_; have HO233 := n4_; have HB := n5_; clear n0_ n1_ n2_ n3_ n4_ n5_; (try clear hb); (try clear hb2); (try clear hk); (try clear hi)))
                        go_ret
                        exact ⟨by first | rfl | (simp [errW_none, errW_some] <;> rfl) | (simp [*, errW_none, errW_some] <;> rfl), by repeat (first | (with_reducible first | exact HB.out | apply below_alloc | apply pw_below_drewN | apply below_drew1) | exact HB.out)⟩
                      · rw [if_neg c82] at H
                        have c82b0 : (t238 == t234) = false := beq_eq_false_iff_ne.mpr c82
                        have c82b1 : (t238 != t234) = true := bne_iff_ne.mpr c82
                        obtain rfl := Option.some.inj H
                        go_wp2_with (first | ((with_reducible refine gate_callee (f := 14) rfl ?_); refine goesL_ (some 64) rfl rfl Try.func14 (by kernel_rfl) rfl #[.slice A0 l0.length c0] rfl (by (try simp only [List.map_toArray, List.map_cons, List.map_nil]); first | done | rfl | (simp only [List.length_drop, List.length_take]; rfl)) ?_; (with_reducible refine (laws_pairs.calls k2 _ _ l0 t231 _ ?side1 ?side2 A75.out).mono ?_); (case side1 => repeat (first | exact (Kd.C_below HR0.out HB.out) | (with_reducible refine Kd.C_alloc ?_ _) | (with_reducible refine Kd.C_drewN ?_ _) | (with_reducible refine Kd.C_drew ?_))); (case side2 => exact HC0.out); rintro e w96 ⟨v232, rfl, ho0, hb⟩; refine ⟨_, rfl, ?_⟩; have n0_ := Aside0.mk (Kd.R_below (by (with_reducible repeat (first | apply Kd.R_alloc | apply Kd.R_drewN | apply Kd.R_drew)); exact HO_5.out) hb); have n1_ := Aside0.mk (Kd.R_below (by (with_reducible repeat (first | apply Kd.R_alloc | apply Kd.R_drewN | apply Kd.R_drew)); exact HO_6.out) hb); have n2_ := Aside0.mk (Kd.R_below (by (with_reducible repeat (first | apply Kd.R_alloc | apply Kd.R_drewN | apply Kd.R_drew)); exact HO_7.out) hb); have n3_ := Aside0.mk (Kd.R_elder' (by (with_reducible repeat (first | apply Kd.R_alloc | apply Kd.R_drewN | apply Kd.R_drew)); exact HO_29.out) (Kd.R_base ho0) hb); have n4_ := Aside0.mk (Kd.R_lower (Kd.R_new' ho0 (Kd.R_lt (by (with_reducible repeat (first | apply Kd.R_alloc | apply Kd.R_drewN | apply Kd.R_drew)); exact HO_29.out))) (below_size (by repeat (first | (with_reducible first | exact HB.out | apply below_alloc | apply pw_below_drewN | apply below_drew1) | exact HB.out)))); have n5_ := Aside0.mk (below_step (by repeat (first | (with_reducible first | exact HB.out | apply below_alloc | apply pw_below_drewN | apply below_drew1) | exact HB.out)) hb); clear HO_5; clear HO_6; clear HO_7; clear HO_29; clear HB; have HO_5 := n0_; have HO_6 := n1_; have HO_7 := n2_; have HO_29 := n3_; have HO233 := n4_; have HB := n5_; clear n0_ n1_ n2_ n3_ n4_ n5_; (try clear hb); (try clear hb2); (try clear hk); (try clear hi); (try clear ho0); obtain ⟨Ao97, co97, eo97⟩ := Kd.R_slice HO233.out; subst eo97; obtain ⟨Ao98, co98, eo98⟩ := Kd.R_slice HO_7.out; subst eo98) | ((with_reducible refine gate_callee (f := 15) rfl ?_); refine goesL_ (some 66) rfl rfl Try.func15 (by kernel_rfl) rfl #[.slice Ao97 t231.length co97, .slice Ao98 x7_2.length co98] rfl (by (try simp only [List.map_toArray, List.map_cons, List.map_nil]); first | done | rfl | (simp only [List.length_drop, List.length_take]; rfl)) ?_; (with_reducible refine (spec_SignatureFor.calls k2 _ _ t231 _ _ x7_2 t234 t235 _ ?side1 ?side2 ?side3 ?side4 A76.out).mono ?_); (case side1 => repeat (first | exact (Kd.R_reads' HO233.out).2.2 | (with_reducible refine Kd.C_alloc ?_ _) | (with_reducible refine Kd.C_drewN ?_ _) | (with_reducible refine Kd.C_drew ?_))); (case side2 => exact (Kd.R_reads' HO233.out).2.1); (case side3 => repeat (first | exact (Kd.R_reads' HO_7.out).2.2 | (with_reducible refine Kd.C_alloc ?_ _) | (with_reducible refine Kd.C_drewN ?_ _) | (with_reducible refine Kd.C_drew ?_))); (case side4 => exact (Kd.R_reads' HO_7.out).2.1); rintro e w99 ⟨rfl, hb⟩; refine ⟨_, rfl, ?_⟩; have n0_ := Aside0.mk (Kd.R_below (by (with_reducible repeat (first | apply Kd.R_alloc | apply Kd.R_drewN | apply Kd.R_drew)); exact HO_5.out) hb); have n1_ := Aside0.mk (Kd.R_below (by (with_reducible repeat (first | apply Kd.R_alloc | apply Kd.R_drewN | apply Kd.R_drew)); exact HO_6.out) hb); have n2_ := Aside0.mk (Kd.R_below (by (with_reducible repeat (first | apply Kd.R_alloc | apply Kd.R_drewN | apply Kd.R_drew)); exact HO_7.out) hb); have n3_ := Aside0.mk (Kd.R_below (by (with_reducible repeat (first | apply Kd.R_alloc | apply Kd.R_drewN | apply Kd.R_drew)); exact HO_29.out) hb); have n4_ := Aside0.mk (Kd.R_below (by (with_reducible repeat (first | apply Kd.R_alloc | apply Kd.R_drewN | apply Kd.R_drew)); exact HO233.out) hb); have n5_ := Aside0.mk (below_step (by repeat (first | (with_reducible first | exact HB.out | apply below_alloc | apply pw_below_drewN | apply below_drew1) | exact HB.out)) hb); clear HO_5; clear HO_6; clear HO_7; clear HO_29; clear HO233; clear HB; have HO_5 := n0_; have HO_6 := n1_; have HO_7 := n2_; have HO_29 := n3_; have HO233 := n4_; have HB := n5_; clear n0_ n1_ n2_ n3_ n4_ n5_; (try clear hb); (try clear hb2); (try clear hk); (try clear hi)) | ((with_reducible refine gate_callee (f := 16) rfl ?_); refine goesL_ (some 71) rfl rfl Try.func16 (by kernel_rfl) rfl #[.slice A0 l0.length c0, .slice Ao98 x7_2.length co98] rfl (by (try simp only [List.map_toArray, List.map_cons, List.map_nil]); first | done | rfl | (simp only [List.length_drop, List.length_take]; rfl)) ?_; (with_reducible refine (impl_SignatureFor.calls _ _ l0 _ _ x7_2 t236 _ ?side1 ?side2 ?side3 ?side4 A77.out).mono ?_); (case side1 => repeat (first | exact (Kd.C_below HR0.out HB.out) | (with_reducible refine Kd.C_alloc ?_ _) | (with_reducible refine Kd.C_drewN ?_ _) | (with_reducible refine Kd.C_drew ?_))); (case side2 => exact HC0.out); (case side3 => repeat (first | exact (Kd.R_reads' HO_7.out).2.2 | (with_reducible refine Kd.C_alloc ?_ _) | (with_reducible refine Kd.C_drewN ?_ _) | (with_reducible refine Kd.C_drew ?_))); (case side4 => exact (Kd.R_reads' HO_7.out).2.1); rintro e w100 ⟨rfl, hb⟩; refine ⟨_, rfl, ?_⟩; have n0_ := Aside0.mk (Kd.R_below (by (with_reducible repeat (first | apply Kd.R_alloc | apply Kd.R_drewN | apply Kd.R_drew)); exact HO_5.out) hb); have n1_ := Aside0.mk (Kd.R_below (by (with_reducible repeat (first | apply Kd.R_alloc | apply Kd.R_drewN | apply Kd.R_drew)); exact HO_6.out) hb); have n2_ := Aside0.mk (Kd.R_below (by (with_reducible repeat (first | apply Kd.R_alloc | apply Kd.R_drewN | apply Kd.R_drew)); exact HO_7.out) hb); have n3_ := Aside0.mk (Kd.R_below (by (with_reducible repeat (first | apply Kd.R_alloc | apply Kd.R_drewN | apply Kd.R_drew)); exact HO_29.out) hb); have n4_ := Aside0.mk (Kd.R_below (by (with_reducible repeat (first | apply Kd.R_alloc | apply Kd.R_drewN | apply Kd.R_drew)); exact HO233.out) hb); have n5_ := Aside0.mk (below_step (by repeat (first | (with_reducible first | exact HB.out | apply below_alloc | apply pw_below_drewN | apply below_drew1) | exact HB.out)) hb); clear HO_5; clear HO_6; clear HO_7; clear HO_29; clear HO233; clear HB; have HO_5 := n0_; have HO_6 := n1_; have HO_7 := n2_; have HO_29 := n3_; have HO233 := n4_; have HB := n5_; clear n0_ n1_ n2_ n3_ n4_ n5_; (try clear hb); (try clear hb2); (try clear hk); (try clear hi); obtain ⟨Ao101, co101, eo101⟩ := Kd.R_slice HO_5.out; subst eo101) | ((with_reducible refine gate_callee (f := 11) rfl ?_); refine goesL_ (some 73) rfl rfl Try.func11 (by kernel_rfl) rfl #[.slice Ao101 x5_2.length co101] rfl (by (try simp only [List.map_toArray, List.map_cons, List.map_nil]); first | done | rfl | (simp only [List.length_drop, List.length_take]; rfl)) ?_; (with_reducible refine (impl_Signature.calls _ _ x5_2 t237 _ ?side1 ?side2 A78.out).mono ?_); (case side1 => repeat (first | exact (Kd.R_reads' HO_5.out).2.2 | (with_reducible refine Kd.C_alloc ?_ _) | (with_reducible refine Kd.C_drewN ?_ _) | (with_reducible refine Kd.C_drew ?_))); (case side2 => exact (Kd.R_reads' HO_5.out).2.1); rintro e w102 ⟨rfl, hb⟩; refine ⟨_, rfl, ?_⟩; have n0_ := Aside0.mk (Kd.R_below (by (with_reducible repeat (first | apply Kd.R_alloc | apply Kd.R_drewN | apply Kd.R_drew)); exact HO_5.out) hb); have n1_ := Aside0.mk (Kd.R_below (by (with_reducible repeat (first | apply Kd.R_alloc | apply Kd.R_drewN | apply Kd.R_drew)); exact HO_6.out) hb); have n2_ := Aside0.mk (Kd.R_below (by (with_reducible repeat (first | apply Kd.R_alloc | apply Kd.R_drewN | apply Kd.R_drew)); exact HO_7.out) hb); have n3_ := Aside0.mk (Kd.R_below (by (with_reducible repeat (first | apply Kd.R_alloc | apply Kd.R_drewN | apply Kd.R_drew)); exact HO_29.out) hb); have n4_ := Aside0.mk (Kd.R_below (by (with_reducible repeat (first | apply Kd.R_alloc | apply Kd.R_drewN | apply Kd.R_drew)); exact HO233.out) hb); have n5_ := Aside0.mk (below_step (by repeat (first | (with_reducible first | exact HB.out | apply below_alloc | apply pw_below_drewN | apply below_drew1) | exact HB.out)) hb); clear HO_5; clear HO_6; clear HO_7; clear HO_29; clear HO233; clear HB; have HO_5 := n0_; have HO_6 := n1_; have HO_7 := n2_; have HO_29 := n3_; have HO233 := n4_; have HB := n5_; clear n0_ n1_ n2_ n3_ n4_ n5_; (try clear hb); (try clear hb2); (try clear hk); (try clear hi)) | (go_at_call 11; (with_reducible refine (impl_Signature.calls _ _ x5_2 t238 _ ?side1 ?side2 A81.out).mono ?_); (case side1 => repeat (first | exact (Kd.R_reads' HO_5.out).2.2 | (with_reducible refine Kd.C_alloc ?_ _) | (with_reducible refine Kd.C_drewN ?_ _) | (with_reducible refine Kd.C_drew ?_))); (case side2 => exact (Kd.R_reads' HO_5.out).2.1); rintro e w103 ⟨rfl, hb⟩; have n0_ := Aside0.mk (Kd.R_below (by (with_reducible repeat (first | apply Kd.R_alloc | apply Kd.R_drewN | apply Kd.R_drew)); exact HO_5.out) hb); have n1_ := Aside0.mk (Kd.R_below (by (with_reducible repeat (first | apply Kd.R_alloc | apply Kd.R_drewN | apply Kd.R_drew)); exact HO_6.out) hb); have n2_ := Aside0.mk (Kd.R_below (by (with_reducible repeat (first | apply Kd.R_alloc | apply Kd.R_drewN | apply Kd.R_drew)); exact HO_7.out) hb); have n3_ := Aside0.mk (Kd.R_below (by (with_reducible repeat (first | apply Kd.R_alloc | apply Kd.R_drewN | apply Kd.R_drew)); exact HO_29.out) hb); have n4_ := Aside0.mk (Kd.R_below (by (with_reducible repeat (first | apply Kd.R_alloc | apply Kd.R_drewN | apply Kd.R_drew)); exact HO233.out) hb); have n5_ := Aside0.mk (below_step (by repeat (first | (with_reducible first | exact HB.out | apply below_alloc | apply pw_below_drewN | apply below_drew1) | exact HB.out)) hb); clear HO_5; clear HO_6; clear HO_7; clear HO_29; clear HO233; clear HB; have HO_5 := n0_; have HO_6 := n1_; have HO_7 := n2_; have HO_29 := n3_; have HO233 := n4_; have HB := n5_; clear n0_ n1_ n2_ n3_ n4_ n5_; (try clear hb); (try clear hb2); (try clear hk); (try clear hi)))
                        go_ret
                        exact ⟨by first | rfl | (simp [errW_none, errW_some] <;> rfl) | (simp [*, errW_none, errW_some] <;> rfl), by repeat (first | (with_reducible first | exact HB.out | apply below_alloc | apply pw_below_drewN | apply below_drew1) | exact HB.out)⟩
                    · rw [if_neg c80] at H
                      have c80b0 : (t235 == 1) = false := beq_eq_false_iff_ne.mpr c80
                      have c80b1 : (t235 != 1) = true := bne_iff_ne.mpr c80
                      replace H := Option.bind_eq_some_iff.mp H
                      obtain ⟨t241, A1040, H⟩ := H
                      replace H : ((impl_Signature.f x6_2).bind fun t242 => (some (t241 == t242))) = some r := H
                      have A104 := Aside0.mk A1040
                      clear A1040
                      replace H := Option.bind_eq_some_iff.mp H
                      obtain ⟨t242, A1050, H⟩ := H
                      replace H : (some (t241 == t242)) = some r := H
                      have A105 := Aside0.mk A1050
                      clear A1050
                      obtain rfl := Option.some.inj H
                      go_wp2_with (first | ((with_reducible refine gate_callee (f := 14) rfl ?_); refine goesL_ (some 64) rfl rfl Try.func14 (by kernel_rfl) rfl #[.slice A0 l0.length c0] rfl (by (try simp only [List.map_toArray, List.map_cons, List.map_nil]); first | done | rfl | (simp only [List.length_drop, List.length_take]; rfl)) ?_; (with_reducible refine (laws_pairs.calls k2 _ _ l0 t231 _ ?side1 ?side2 A75.out).mono ?_); (case side1 => repeat (first | exact (Kd.C_below HR0.out HB.out) | (with_reducible refine Kd.C_alloc ?_ _) | (with_reducible refine Kd.C_drewN ?_ _) | (with_reducible refine Kd.C_drew ?_))); (case side2 => exact HC0.out); rintro e w106 ⟨v232, rfl, ho0, hb⟩; refine ⟨_, rfl, ?_⟩; have n0_ := Aside0.mk (Kd.R_below (by (with_reducible repeat (first | apply Kd.R_alloc | apply Kd.R_drewN | apply Kd.R_drew)); exact HO_5.out) hb); have n1_ := Aside0.mk (Kd.R_below (by (with_reducible repeat (first | apply Kd.R_alloc | apply Kd.R_drewN | apply Kd.R_drew)); exact HO_6.out) hb); have n2_ := Aside0.mk (Kd.R_below (by (with_reducible repeat (first | apply Kd.R_alloc | apply Kd.R_drewN | apply Kd.R_drew)); exact HO_7.out) hb); have n3_ := Aside0.mk (Kd.R_elder' (by (with_reducible repeat (first | apply Kd.R_alloc | apply Kd.R_drewN | apply Kd.R_drew)); exact HO_29.out) (Kd.R_base ho0) hb); have n4_ := Aside0.mk (Kd.R_lower (Kd.R_new' ho0 (Kd.R_lt (by (with_reducible repeat (first | apply Kd.R_alloc | apply Kd.R_drewN | apply Kd.R_drew)); exact HO_29.out))) (below_size (by repeat (first | (with_reducible first | exact HB.out | apply below_alloc | apply pw_below_drewN | apply below_drew1) | exact HB.out)))); have n5_ := Aside0.mk (below_step (by repeat (first | (with_reducible first | exact HB.out | apply below_alloc | apply pw_below_drewN | apply below_drew1) | exact HB.out)) hb); clear HO_5; clear HO_6; clear HO_7; clear HO_29; clear HB; have HO_5 := n0_; have HO_6 := n1_; have HO_7 := n2_; have HO_29 := n3_; have HO233 := n4_; have HB := n5_; clear n0_ n1_ n2_ n3_ n4_ n5_; (try clear hb); (try clear hb2); (try clear hk); (try clear hi); (try clear ho0); obtain ⟨Ao107, co107, eo107⟩ := Kd.R_slice HO233.out; subst eo107; obtain ⟨Ao108, co108, eo108⟩ := Kd.R_slice HO_7.out; subst eo108) | ((with_reducible refine gate_callee (f := 15) rfl ?_); refine goesL_ (some 66) rfl rfl Try.func15 (by kernel_rfl) rfl #[.slice Ao107 t231.length co107, .slice Ao108 x7_2.length co108] rfl (by (try simp only [List.map_toArray, List.map_cons, List.map_nil]); first | done | rfl | (simp only [List.length_drop, List.length_take]; rfl)) ?_; (with_reducible refine (spec_SignatureFor.calls k2 _ _ t231 _ _ x7_2 t234 t235 _ ?side1 ?side2 ?side3 ?side4 A76.out).mono ?_); (case side1 => repeat (first | exact (Kd.R_reads' HO233.out).2.2 | (with_reducible refine Kd.C_alloc ?_ _) | (with_reducible refine Kd.C_drewN ?_ _) | (with_reducible refine Kd.C_drew ?_))); (case side2 => exact (Kd.R_reads' HO233.out).2.1); (case side3 => repeat (first | exact (Kd.R_reads' HO_7.out).2.2 | (with_reducible refine Kd.C_alloc ?_ _) | (with_reducible refine Kd.C_drewN ?_ _) | (with_reducible refine Kd.C_drew ?_))); (case side4 => exact (Kd.R_reads' HO_7.out).2.1); rintro e w109 ⟨rfl, hb⟩; refine ⟨_, rfl, ?_⟩; have n0_ := Aside0.mk (Kd.R_below (by (with_reducible repeat (first | apply Kd.R_alloc | apply Kd.R_drewN | apply Kd.R_drew)); exact HO_5.out) hb); have n1_ := Aside0.mk (Kd.R_below (by (with_reducible repeat (first | apply Kd.R_alloc | apply Kd.R_drewN | apply Kd.R_drew)); exact HO_6.out) hb); have n2_ := Aside0.mk (Kd.R_below (by (with_reducible repeat (first | apply Kd.R_alloc | apply Kd.R_drewN | apply Kd.R_drew)); exact HO_7.out) hb); have n3_ := Aside0.mk (Kd.R_below (by (with_reducible repeat (first | apply Kd.R_alloc | apply Kd.R_drewN | apply Kd.R_drew)); exact HO_29.out) hb); have n4_ := Aside0.mk (Kd.R_below (by (with_reducible repeat (first | apply Kd.R_alloc | apply Kd.R_drewN | apply Kd.R_drew)); exact HO233.out) hb); have n5_ := Aside0.mk (below_step (by repeat (first | (with_reducible first | exact HB.out | apply below_alloc | apply pw_below_drewN | apply below_drew1) | exact HB.out)) hb); clear HO_5; clear HO_6; clear HO_7; clear HO_29; clear HO233; clear HB; have HO_5 := n0_; have HO_6 := n1_; have HO_7 := n2_; have HO_29 := n3_; have HO233 := n4_; have HB := n5_; clear n0_ n1_ n2_ n3_ n4_ n5_; (try clear hb); (try clear hb2); (try clear hk); (try clear hi)) | ((with_reducible refine gate_callee (f := 16) rfl ?_); refine goesL_ (some 71) rfl rfl Try.func16 (by kernel_rfl) rfl #[.slice A0 l0.length c0, .slice Ao108 x7_2.length co108] rfl (by (try simp only [List.map_toArray, List.map_cons, List.map_nil]); first | done | rfl | (simp only [List.length_drop, List.length_take]; rfl)) ?_; (with_reducible refine (impl_SignatureFor.calls _ _ l0 _ _ x7_2 t236 _ ?side1 ?side2 ?side3 ?side4 A77.out).mono ?_); (case side1 => repeat (first | exact (Kd.C_below HR0.out HB.out) | (with_reducible refine Kd.C_alloc ?_ _) | (with_reducible refine Kd.C_drewN ?_ _) | (with_reducible refine Kd.C_drew ?_))); (case side2 => exact HC0.out); (case side3 => repeat (first | exact (Kd.R_reads' HO_7.out).2.2 | (with_reducible refine Kd.C_alloc ?_ _) | (with_reducible refine Kd.C_drewN ?_ _) | (with_reducible refine Kd.C_drew ?_))); (case side4 => exact (Kd.R_reads' HO_7.out).2.1); rintro e w110 ⟨rfl, hb⟩; refine ⟨_, rfl, ?_⟩; have n0_ := Aside0.mk (Kd.R_below (by (with_reducible repeat (first | apply Kd.R_alloc | apply Kd.R_drewN | apply Kd.R_drew)); exact HO_5.out) hb); have n1_ := Aside0.mk (Kd.R_below (by (with_reducible repeat (first | apply Kd.R_alloc | apply Kd.R_drewN | apply Kd.R_drew)); exact HO_6.out) hb); have n2_ := Aside0.mk (Kd.R_below (by (with_reducible repeat (first | apply Kd.R_alloc | apply Kd.R_drewN | apply Kd.R_drew)); exact HO_7.out) hb); have n3_ := Aside0.mk (Kd.R_below (by (with_reducible repeat (first | apply Kd.R_alloc | apply Kd.R_drewN | apply Kd.R_drew)); exact HO_29.out) hb); have n4_ := Aside0.mk (Kd.R_below (by (with_reducible repeat (first | apply Kd.R_alloc | apply Kd.R_drewN | apply Kd.R_drew)); exact HO233.out) hb); have n5_ := Aside0.mk (below_step (by repeat (first | (with_reducible first | exact HB.out | apply below_alloc | apply pw_below_drewN | apply below_drew1) | exact HB.out)) hb); clear HO_5; clear HO_6; clear HO_7; clear HO_29; clear HO233; clear HB; have HO_5 := n0_; have HO_6 := n1_; have HO_7 := n2_; have HO_29 := n3_; have HO233 := n4_; have HB := n5_; clear n0_ n1_ n2_ n3_ n4_ n5_; (try clear hb); (try clear hb2); (try clear hk); (try clear hi); obtain ⟨Ao111, co111, eo111⟩ := Kd.R_slice HO_5.out; subst eo111) | ((with_reducible refine gate_callee (f := 11) rfl ?_); refine goesL_ (some 73) rfl rfl Try.func11 (by kernel_rfl) rfl #[.slice Ao111 x5_2.length co111] rfl (by (try simp only [List.map_toArray, List.map_cons, List.map_nil]); first | done | rfl | (simp only [List.length_drop, List.length_take]; rfl)) ?_; (with_reducible refine (impl_Signature.calls _ _ x5_2 t237 _ ?side1 ?side2 A78.out).mono ?_); (case side1 => repeat (first | exact (Kd.R_reads' HO_5.out).2.2 | (with_reducible refine Kd.C_alloc ?_ _) | (with_reducible refine Kd.C_drewN ?_ _) | (with_reducible refine Kd.C_drew ?_))); (case side2 => exact (Kd.R_reads' HO_5.out).2.1); rintro e w112 ⟨rfl, hb⟩; refine ⟨_, rfl, ?_⟩; have n0_ := Aside0.mk (Kd.R_below (by (with_reducible repeat (first | apply Kd.R_alloc | apply Kd.R_drewN | apply Kd.R_drew)); exact HO_5.out) hb); have n1_ := Aside0.mk (Kd.R_below (by (with_reducible repeat (first | apply Kd.R_alloc | apply Kd.R_drewN | apply Kd.R_drew)); exact HO_6.out) hb); have n2_ := Aside0.mk (Kd.R_below (by (with_reducible repeat (first | apply Kd.R_alloc | apply Kd.R_drewN | apply Kd.R_drew)); exact HO_7.out) hb); have n3_ := Aside0.mk (Kd.R_below (by (with_reducible repeat (first | apply Kd.R_alloc | apply Kd.R_drewN | apply Kd.R_drew)); exact HO_29.out) hb); have n4_ := Aside0.mk (Kd.R_below (by (with_reducible repeat (first | apply Kd.R_alloc | apply Kd.R_drewN | apply Kd.R_drew)); exact HO233.out) hb); have n5_ := Aside0.mk (below_step (by repeat (first | (with_reducible first | exact HB.out | apply below_alloc | apply pw_below_drewN | apply below_drew1) | exact HB.out)) hb); clear HO_5; clear HO_6; clear HO_7; clear HO_29; clear HO233; clear HB; have HO_5 := n0_; have HO_6 := n1_; have HO_7 := n2_; have HO_29 := n3_; have HO233 := n4_; have HB := n5_; clear n0_ n1_ n2_ n3_ n4_ n5_; (try clear hb); (try clear hb2); (try clear hk); (try clear hi)) | (go_at_call 17; (with_reducible refine (impl_SignatureWithout.calls _ _ l0 _ _ x7_2 t241 _ ?side1 ?side2 ?side3 ?side4 A104.out).mono ?_); (case side1 => repeat (first | exact (Kd.C_below HR0.out HB.out) | (with_reducible refine Kd.C_alloc ?_ _) | (with_reducible refine Kd.C_drewN ?_ _) | (with_reducible refine Kd.C_drew ?_))); (case side2 => exact HC0.out); (case side3 => repeat (first | exact (Kd.R_reads' HO_7.out).2.2 | (with_reducible refine Kd.C_alloc ?_ _) | (with_reducible refine Kd.C_drewN ?_ _) | (with_reducible refine Kd.C_drew ?_))); (case side4 => exact (Kd.R_reads' HO_7.out).2.1); rintro e w113 ⟨rfl, hb⟩; have n0_ := Aside0.mk (Kd.R_below (by (with_reducible repeat (first | apply Kd.R_alloc | apply Kd.R_drewN | apply Kd.R_drew)); exact HO_5.out) hb); have n1_ := Aside0.mk (Kd.R_below (by (with_reducible repeat (first | apply Kd.R_alloc | apply Kd.R_drewN | apply Kd.R_drew)); exact HO_6.out) hb); have n2_ := Aside0.mk (Kd.R_below (by (with_reducible repeat (first | apply Kd.R_alloc | apply Kd.R_drewN | apply Kd.R_drew)); exact HO_7.out) hb); have n3_ := Aside0.mk (Kd.R_below (by (with_reducible repeat (first | apply Kd.R_alloc | apply Kd.R_drewN | apply Kd.R_drew)); exact HO_29.out) hb); have n4_ := Aside0.mk (Kd.R_below (by (with_reducible repeat (first | apply Kd.R_alloc | apply Kd.R_drewN | apply Kd.R_drew)); exact HO233.out) hb); have n5_ := Aside0.mk (below_step (by repeat (first | (with_reducible first | exact HB.out | apply below_alloc | apply pw_below_drewN | apply below_drew1) | exact HB.out)) hb); clear HO_5; clear HO_6; clear HO_7; clear HO_29; clear HO233; clear HB; have HO_5 := n0_; have HO_6 := n1_; have HO_7 := n2_; have HO_29 := n3_; have HO233 := n4_; have HB := n5_; clear n0_ n1_ n2_ n3_ n4_ n5_; (try clear hb); (try clear hb2); (try clear hk); (try clear hi); obtain ⟨Ao114, co114, eo114⟩ := Kd.R_slice HO_6.out; subst eo114) | (go_at_call 11; (with_reducible refine (impl_Signature.calls _ _ x6_2 t242 _ ?side1 ?side2 A105.out).mono ?_); (case side1 => repeat (first | exact (Kd.R_reads' HO_6.out).2.2 | (with_reducible refine Kd.C_alloc ?_ _) | (with_reducible refine Kd.C_drewN ?_ _) | (with_reducible refine Kd.C_drew ?_))); (case side2 => exact (Kd.R_reads' HO_6.out).2.1); rintro e w115 ⟨rfl, hb⟩; have n0_ := Aside0.mk (Kd.R_below (by (with_reducible repeat (first | apply Kd.R_alloc | apply Kd.R_drewN | apply Kd.R_drew)); exact HO_5.out) hb); have n1_ := Aside0.mk (Kd.R_below (by (with_reducible repeat (first | apply Kd.R_alloc | apply Kd.R_drewN | apply Kd.R_drew)); exact HO_6.out) hb); have n2_ := Aside0.mk (Kd.R_below (by (with_reducible repeat (first | apply Kd.R_alloc | apply Kd.R_drewN | apply Kd.R_drew)); exact HO_7.out) hb); have n3_ := Aside0.mk (Kd.R_below (by (with_reducible repeat (first | apply Kd.R_alloc | apply Kd.R_drewN | apply Kd.R_drew)); exact HO_29.out) hb); have n4_ := Aside0.mk (Kd.R_below (by (with_reducible repeat (first | apply Kd.R_alloc | apply Kd.R_drewN | apply Kd.R_drew)); exact HO233.out) hb); have n5_ := Aside0.mk (below_step (by repeat (first | (with_reducible first | exact HB.out | apply below_alloc | apply pw_below_drewN | apply below_drew1) | exact HB.out)) hb); clear HO_5; clear HO_6; clear HO_7; clear HO_29; clear HO233; clear HB; have HO_5 := n0_; have HO_6 := n1_; have HO_7 := n2_; have HO_29 := n3_; have HO233 := n4_; have HB := n5_; clear n0_ n1_ n2_ n3_ n4_ n5_; (try clear hb); (try clear hb2); (try clear hk); (try clear hi)))
                      go_ret
                      exact ⟨by first | rfl | (simp [errW_none, errW_some] <;> rfl) | (simp [*, errW_none, errW_some] <;> rfl), by repeat (first | (with_reducible first | exact HB.out | apply below_alloc | apply pw_below_drewN | apply below_drew1) | exact HB.out)⟩
                  · rw [if_neg c79] at H
                    have c79b0 : (t236 == t237) = false := beq_eq_false_iff_ne.mpr c79
                    have c79b1 : (t236 != t237) = true := bne_iff_ne.mpr c79
                    obtain rfl := Option.some.inj H
                    go_wp2_with (first | ((with_reducible refine gate_callee (f := 14) rfl ?_); refine goesL_ (some 64) rfl rfl Try.func14 (by kernel_rfl) rfl #[.slice A0 l0.length c0] rfl (by (try simp only [List.map_toArray, List.map_cons, List.map_nil]); first | done | rfl | (simp only [List.length_drop, List.length_take]; rfl)) ?_; (with_reducible refine (laws_pairs.calls k2 _ _ l0 t231 _ ?side1 ?side2 A75.out).mono ?_); (case side1 => repeat (first | exact (Kd.C_below HR0.out HB.out) | (with_reducible refine Kd.C_alloc ?_ _) | (with_reducible refine Kd.C_drewN ?_ _) | (with_reducible refine Kd.C_drew ?_))); (case side2 => exact HC0.out); rintro e w116 ⟨v232, rfl, ho0, hb⟩; refine ⟨_, rfl, ?_⟩; have n0_ := Aside0.mk (Kd.R_below (by (with_reducible repeat (first | apply Kd.R_alloc | apply Kd.R_drewN | apply Kd.R_drew)); exact HO_5.out) hb); have n1_ := Aside0.mk (Kd.R_below (by (with_reducible repeat (first | apply Kd.R_alloc | apply Kd.R_drewN | apply Kd.R_drew)); exact HO_6.out) hb); have n2_ := Aside0.mk (Kd.R_below (by (with_reducible repeat (first | apply Kd.R_alloc | apply Kd.R_drewN | apply Kd.R_drew)); exact HO_7.out) hb); have n3_ := Aside0.mk (Kd.R_elder' (by (with_reducible repeat (first | apply Kd.R_alloc | apply Kd.R_drewN | apply Kd.R_drew)); exact HO_29.out) (Kd.R_base ho0) hb); have n4_ := Aside0.mk (Kd.R_lower (Kd.R_new' ho0 (Kd.R_lt (by (with_reducible repeat (first | apply Kd.R_alloc | apply Kd.R_drewN | apply Kd.R_drew)); exact HO_29.out))) (below_size (by repeat (first | (with_reducible first | exact HB.out | apply below_alloc | apply pw_below_drewN | apply below_drew1) | exact HB.out)))); have n5_ := Aside0.mk (below_step (by repeat (first | (with_reducible first | exact HB.out | apply below_alloc | apply pw_below_drewN | apply below_drew1) | exact HB.out)) hb); clear HO_5; clear HO_6; clear HO_7; clear HO_29; clear HB; have HO_5 := n0_; have HO_6 := n1_; have HO_7 := n2_; have HO_29 := n3_; have HO233 := n4_; have HB := n5_; clear n0_ n1_ n2_ n3_ n4_ n5_; (try clear hb); (try clear hb2); (try clear hk); (try clear hi); (try clear ho0); obtain ⟨Ao117, co117, eo117⟩ := Kd.R_slice HO233.out; subst eo117; obtain ⟨Ao118, co118, eo118⟩ := Kd.R_slice HO_7.out; subst eo118) | ((with_reducible refine gate_callee (f := 15) rfl ?_); refine goesL_ (some 66) rfl rfl Try.func15 (by kernel_rfl) rfl #[.slice Ao117 t231.length co117, .slice Ao118 x7_2.length co118] rfl (by (try simp only [List.map_toArray, List.map_cons, List.map_nil]); first | done | rfl | (simp only [List.length_drop, List.length_take]; rfl)) ?_; (with_reducible refine (spec_SignatureFor.calls k2 _ _ t231 _ _ x7_2 t234 t235 _ ?side1 ?side2 ?side3 ?side4 A76.out).mono ?_); (case side1 => repeat (first | exact (Kd.R_reads' HO233.out).2.2 | (with_reducible refine Kd.C_alloc ?_ _) | (with_reducible refine Kd.C_drewN ?_ _) | (with_reducible refine Kd.C_drew ?_))); (case side2 => exact (Kd.R_reads' HO233.out).2.1); (case side3 => repeat (first | exact (Kd.R_reads' HO_7.out).2.2 | (with_reducible refine Kd.C_alloc ?_ _) | (with_reducible refine Kd.C_drewN ?_ _) | (with_reducible refine Kd.C_drew ?_))); (case side4 => exact (Kd.R_reads' HO_7.out).2.1); rintro e w119 ⟨rfl, hb⟩; refine ⟨_, rfl, ?_⟩; have n0_ := Aside0.mk (Kd.R_below (by (with_reducible repeat (first | apply Kd.R_alloc | apply Kd.R_drewN | apply Kd.R_drew)); exact HO_5.out) hb); have n1_ := Aside0.mk (Kd.R_below (by (with_reducible repeat (first | apply Kd.R_alloc | apply Kd.R_drewN | apply Kd.R_drew)); exact HO_6.out) hb); have n2_ := Aside0.mk (Kd.R_below (by (with_reducible repeat (first | apply Kd.R_alloc | apply Kd.R_drewN | apply Kd.R_drew)); exact HO_7.out) hb); have n3_ := Aside0.mk (Kd.R_below (by (with_reducible repeat (first | apply Kd.R_alloc | apply Kd.R_drewN | apply Kd.R_drew)); exact HO_29.out) hb); have n4_ := Aside0.mk (Kd.R_below (by (with_reducible repeat (first | apply Kd.R_alloc | apply Kd.R_drewN | apply Kd.R_drew)); exact HO233.out) hb); have n5_ := Aside0.mk (below_step (by repeat (first | (with_reducible first | exact HB.out | apply below_alloc | apply pw_below_drewN | apply below_drew1) | exact HB.out)) hb); clear HO_5; clear HO_6; clear HO_7; clear HO_29; clear HO233; clear HB; have HO_5 := n0_; have HO_6 := n1_; have HO_7 := n2_; have HO_29 := n3_; have HO233 := n4_; have HB := n5_; clear n0_ n1_ n2_ n3_ n4_ n5_; (try clear hb); (try clear hb2); (try clear hk); (try clear hi)) | ((with_reducible refine gate_callee (f := 16) rfl ?_); refine goesL_ (some 71) rfl rfl Try.func16 (by kernel_rfl) rfl #[.slice A0 l0.length c0, .slice Ao118 x7_2.length co118] rfl (by (try simp only [List.map_toArray, List.map_cons, List.map_nil]); first | done | rfl | (simp only [List.length_drop, List.length_take]; rfl)) ?_; (with_reducible refine (impl_SignatureFor.calls _ _ l0 _ _ x7_2 t236 _ ?side1 ?side2 ?side3 ?side4 A77.out).mono ?_); (case side1 => repeat (first | exact (Kd.C_below HR0.out HB.out) | (with_reducible refine Kd.C_alloc ?_ _) | (with_reducible refine Kd.C_drewN ?_ _) | (with_reducible refine Kd.C_drew ?_))); (case side2 => exact HC0.out); (case side3 => repeat (first | exact (Kd.R_reads' HO_7.out).2.2 | (with_reducible refine Kd.C_alloc ?_ _) | (with_reducible refine Kd.C_drewN ?_ _) | (with_reducible refine Kd.C_drew ?_))); (case side4 => exact (Kd.R_reads' HO_7.out).2.1); rintro e w120 ⟨rfl, hb⟩; refine ⟨_, rfl, ?_⟩; have n0_ := Aside0.mk (Kd.R_below (by (with_reducible repeat (first | apply Kd.R_alloc | apply Kd.R_drewN | apply Kd.R_drew)); exact HO_5.out) hb); have n1_ := Aside0.mk (Kd.R_below (by (with_reducible repeat (first | apply Kd.R_alloc | apply Kd.R_drewN | apply Kd.R_drew)); exact HO_6.out) hb); have n2_ := Aside0.mk (Kd.R_below (by (with_reducible repeat (first | apply Kd.R_alloc | apply Kd.R_drewN | apply Kd.R_drew)); exact HO_7.out) hb); have n3_ := Aside0.mk (Kd.R_below (by (with_reducible repeat (first | apply Kd.R_alloc | apply Kd.R_drewN | apply Kd.R_drew)); exact HO_29.out) hb); have n4_ := Aside0.mk (Kd.R_below (by (with_reducible repeat (first | apply Kd.R_alloc | apply Kd.R_drewN | apply Kd.R_drew)); exact HO233.out) hb); have n5_ := Aside0.mk (below_step (by repeat (first | (with_reducible first | exact HB.out | apply below_alloc | apply pw_below_drewN | apply below_drew1) | exact HB.out)) hb); clear HO_5; clear HO_6; clear HO_7; clear HO_29; clear HO233; clear HB; have HO_5 := n0_; have HO_6 := n1_; have HO_7 := n2_; have HO_29 := n3_; have HO233 := n4_; have HB := n5_; clear n0_ n1_ n2_ n3_ n4_ n5_; (try clear hb); (try clear hb2); (try clear hk); (try clear hi); obtain ⟨Ao121, co121, eo121⟩ := Kd.R_slice HO_5.out; subst eo121) | ((with_reducible refine gate_callee (f := 11) rfl ?_); refine goesL_ (some 73) rfl rfl Try.func11 (by kernel_rfl) rfl #[.slice Ao121 x5_2.length co121] rfl (by (try simp only [List.map_toArray, List.map_cons, List.map_nil]); first | done | rfl | (simp only [List.length_drop, List.length_take]; rfl)) ?_; (with_reducible refine (impl_Signature.calls _ _ x5_2 t237 _ ?side1 ?side2 A78.out).mono ?_); (case side1 => repeat (first | exact (Kd.R_reads' HO_5.out).2.2 | (with_reducible refine Kd.C_alloc ?_ _) | (with_reducible refine Kd.C_drewN ?_ _) | (with_reducible refine Kd.C_drew ?_))); (case side2 => exact (Kd.R_reads' HO_5.out).2.1); rintro e w122 ⟨rfl, hb⟩; refine ⟨_, rfl, ?_⟩; have n0_ := Aside0.mk (Kd.R_below (by (with_reducible repeat (first | apply Kd.R_alloc | apply Kd.R_drewN | apply Kd.R_drew)); exact HO_5.out) hb); have n1_ := Aside0.mk (Kd.R_below (by (with_reducible repeat (first | apply Kd.R_alloc | apply Kd.R_drewN | apply Kd.R_drew)); exact HO_6.out) hb); have n2_ := Aside0.mk (Kd.R_below (by (with_reducible repeat (first | apply Kd.R_alloc | apply Kd.R_drewN | apply Kd.R_drew)); exact HO_7.out) hb); have n3_ := Aside0.mk (Kd.R_below (by (with_reducible repeat (first | apply Kd.R_alloc | apply Kd.R_drewN | apply Kd.R_drew)); exact HO_29.out) hb); have n4_ := Aside0.mk (Kd.R_below (by (with_reducible repeat (first | apply Kd.R_alloc | apply Kd.R_drewN | apply Kd.R_drew)); exact HO233.out) hb); have n5_ := Aside0.mk (below_step (by repeat (first | (with_reducible first | exact HB.out | apply below_alloc | apply pw_below_drewN | apply below_drew1) | exact HB.out)) hb); clear HO_5; clear HO_6; clear HO_7; clear HO_29; clear HO233; clear HB; have HO_5 := n0_; have HO_6 := n1_; have HO_7 := n2_; have HO_29 := n3_; have HO233 := n4_; have HB := n5_; clear n0_ n1_ n2_ n3_ n4_ n5_; (try clear hb); (try clear hb2); (try clear hk); (try clear hi)))
                    go_ret
                    exact ⟨by first | rfl | (simp [errW_none, errW_some] <;> rfl) | (simp [*, errW_none, errW_some] <;> rfl), by repeat (first | (with_reducible first | exact HB.out | apply below_alloc | apply pw_below_drewN | apply below_drew1) | exact HB.out)⟩

/-- THE ONE PURE STATEMENT of laws_FnSignatures: yours. -/
def laws_FnSignatures.Pure : Prop := ∀ (l0 : List (S32)) (l1 : List Bool), (l0.length ≤ maxLen ∧ ∀ y ∈ l0, okS32 y) → (l1.length ≤ maxLen ∧ ∀ y ∈ l1, True) → ∃ k, laws_FnSignatures.f k l0 l1 = some true

end Go.Proofs.Ytcneoonhdfblaaa.Q
