/- The walk of FnReadSigned at a world whose two errors' variables hold something. -/
import Derived.Test.YtdookfmcphmlgaaDoorSigned
import Derived.Test.YtdookfmcphmlgaaDoorErrs
import Derived.Test.YtdookfmcphmlgaaDoorQx1
namespace Go.Proofs.YtdookfmcphmlgaaDoor.Door
open Go.RowKit Go.Shelf Go.Lib Go.Proofs.YtdookfmcphmlgaaDoor.Q Go.Proofs.YtdookfmcphmlgaaDoor.Pure Go.Proofs.YtdookfmcphmlgaaDoorW.PrintWords Go.Proofs.YtdookfmcphmlgaaDoorW.PrintLast
set_option linter.unusedVariables false
set_option linter.unusedSimpArgs false
theorem lawsLong (s : ByteArray) (w : World) :
    Calls Tryd.prog 6 #[.string s] w fun e w' => e = .returned (.bool (decide ((s.size : Int) > 65536))) ∧ Below w.heap.size w w' :=
  (laws_long.calls s _ w rfl).mono fun e w' ⟨h, hd⟩ => ⟨h, hd.below⟩
theorem readS_1h : readS [45, 49, 104] = some (-3600000000000) := by decide +kernel
theorem law_FnReadSigned (s : ByteArray) (w : World) (hE : Errs w) :
    Calls Tryd.prog 3 #[.string s] w fun e w' => e = .returned (.bool true) ∧ Below w.heap.size w w' := by
  by_cases hs : (s.size : Int) > 2147483647
  · have d : decide ((s.size : Int) > 2147483647) = true := decide_eq_true hs
    go_enter Tryd.func3, Tryd.ntmps3
    go_wp2
    go_ret
    exact ⟨rfl, Below.refl _ _⟩
  have d : decide ((s.size : Int) > 2147483647) = false := decide_eq_false hs
  have hs' : s.size ≤ 2147483647 := by omega
  have HE := Aside0.mk hE
  have HS := Aside0.mk hs'
  clear hE
  by_cases hm : ∃ r, s.data.toList = 45 :: r
  · obtain ⟨r, hr⟩ := hm
    have hne : ¬ s.data.toList = [] := by rw [hr]; simp
    have b0 : (s.toList == []) = false := by rw [Lib.toList_data]; simpa using hne
    have b0' : (s.toList != []) = true := by rw [Lib.toList_data]; simpa using hne
    have hz0 : 0 < s.size := by rw [← size_length, hr]; simp
    have hz0' : (0 : Int) < (s.size : Int) := by omega
    have hz1 : (1 : Int) ≤ (s.size : Int) := by omega
    have hn : ((s[0]'hz0).toNat : Int) = 45 := by rw [byte_at s 0 hz0, hr]; rfl
    have he : (((s[0]'hz0).toNat : Int) == 45) = true := by simpa using hn
    have hx : (s.extract 1 s.size).data.toList = r := by rw [ext_drop, hr]; rfl
    have hxs : (s.extract 1 s.size).size ≤ 2147483647 := by rw [ByteArray.size_extract]; omega
    have HD1 := Aside0.mk (fun (W : World) (hE : Errs W) => impl_ReadDuration (s.extract 1 s.size) W hxs hE)
    have e1 : readD (s.extract 1 s.size).data.toList = readD r := by rw [hx]
    have e2 : readS s.data.toList = (parseDur r).map fun d => -(d : Int) := by rw [hr]; rfl
    have e3 : readD s.data.toList = none := by rw [hr]; unfold readD; rw [parse_minus]; rfl
    have E1 := Aside0.mk e1
    have E2 := Aside0.mk e2
    have E3 := Aside0.mk e3
    clear hne hr hn hx hxs e1 e2 e3
    go_enter Tryd.func3, Tryd.ntmps3
    go_wp2_with fail
    refine (impl_ReadSigned ⟨#[45, 49, 104]⟩ w (by decide) HE.out).mono ?_
    rintro e w1 ⟨rfl, hb⟩
    have HB1 := Aside0.mk hb
    have HE1 := Aside0.mk (HE.out.below hb)
    clear hb
    rw [show readS (⟨#[45, 49, 104]⟩ : ByteArray).data.toList = some (-3600000000000) from readS_1h]
    unfold resV
    go_wp2_with fail
    refine (lawsLong s w1).mono ?_
    rintro e w2 ⟨rfl, hb⟩
    have HB2 := Aside0.mk (below_step HB1.out hb)
    have HE2 := Aside0.mk (HE1.out.below hb)
    clear hb HB1 HE1
    by_cases hl : (s.size : Int) > 65536
    · rw [decide_eq_true hl]
      go_wp2
      go_ret
      exact ⟨rfl, HB2.out⟩
    rw [decide_eq_false hl]
    go_wp2_with fail
    refine (HD1.out w2 HE2.out).mono ?_
    rintro e w3 ⟨rfl, hb⟩
    have HB3 := Aside0.mk (below_step HB2.out hb)
    have HE3 := Aside0.mk (HE2.out.below hb)
    clear hb HB2 HE2
    rw [E1.out]
    unfold readD
    cases hv : parseDur r with
    | some v =>
      have hvb := parse_le hv
      have HV := Aside0.mk hv
      clear hv
      simp only [Option.map_some]
      unfold resV
      go_wp2_with fail
      refine (impl_ReadSigned s w3 HS.out HE3.out).mono ?_
      rintro e w4 ⟨rfl, hb⟩
      have HB4 := Aside0.mk (below_step HB3.out hb)
      have HE4 := Aside0.mk (HE3.out.below hb)
      clear hb HB3 HE3
      rw [E2.out, HV.out]
      simp only [Option.map_some]
      unfold resV
      go_wp2_with fail
      refine (impl_ReadDuration s w4 HS.out HE4.out).mono ?_
      rintro e w5 ⟨rfl, hb⟩
      have HB5 := Aside0.mk (below_step HB4.out hb)
      clear hb HB4 HE4
      rw [E3.out]
      unfold resV
      go_wp2
      go_ret
      exact ⟨rfl, HB5.out⟩
    | none =>
      have HV := Aside0.mk hv
      clear hv
      simp only [Option.map_none]
      unfold resV
      go_wp2_with fail
      refine (impl_ReadSigned s w3 HS.out HE3.out).mono ?_
      rintro e w4 ⟨rfl, hb⟩
      have HB4 := Aside0.mk (below_step HB3.out hb)
      have HE4 := Aside0.mk (HE3.out.below hb)
      clear hb HB3 HE3
      rw [E2.out, HV.out]
      simp only [Option.map_none]
      unfold resV
      go_wp2_with fail
      refine (impl_ReadDuration s w4 HS.out HE4.out).mono ?_
      rintro e w5 ⟨rfl, hb⟩
      have HB5 := Aside0.mk (below_step HB4.out hb)
      clear hb HB4 HE4
      rw [E3.out]
      unfold resV
      go_wp2
      go_ret
      exact ⟨rfl, HB5.out⟩
  · have e2 : readS s.data.toList = readD s.data.toList := by
      cases hl : s.data.toList with
      | nil => rfl
      | cons b r =>
        unfold readS
        split
        · rename_i heq; injection heq with h1 h2; subst h1; exact absurd ⟨r, hl⟩ hm
        · rfl
    have E2 := Aside0.mk e2
    have hb0 : ∀ h : 0 < s.size, ¬ ((s[0]'h).toNat : Int) = 45 := fun h hn => by
      have h45 : s[0]'h = 45 := UInt8.toNat_inj.1 (by have : (45 : UInt8).toNat = 45 := rfl; omega)
      rw [byte_at s 0 h] at h45
      cases hl : s.data.toList with
      | nil => rw [hl] at h45; cases h45
      | cons b r =>
        rw [hl] at h45
        exact hm ⟨r, by rw [hl]; exact congrArg (· :: r) h45⟩
    clear e2 hm
    by_cases h0 : s.data.toList = []
    · have b0 : (s.toList == []) = true := by rw [Lib.toList_data, h0]; rfl
      have b0' : (s.toList != []) = false := by rw [Lib.toList_data, h0]; rfl
      clear h0 hb0
      go_enter Tryd.func3, Tryd.ntmps3
      go_wp2_with fail
      refine (impl_ReadSigned ⟨#[45, 49, 104]⟩ w (by decide) HE.out).mono ?_
      rintro e w1 ⟨rfl, hb⟩
      have HB1 := Aside0.mk hb
      have HE1 := Aside0.mk (HE.out.below hb)
      clear hb
      rw [show readS (⟨#[45, 49, 104]⟩ : ByteArray).data.toList = some (-3600000000000) from readS_1h]
      unfold resV
      go_wp2_with fail
      refine (lawsLong s w1).mono ?_
      rintro e w2 ⟨rfl, hb⟩
      have HB2 := Aside0.mk (below_step HB1.out hb)
      have HE2 := Aside0.mk (HE1.out.below hb)
      clear hb HB1 HE1
      by_cases hl : (s.size : Int) > 65536
      · rw [decide_eq_true hl]
        go_wp2
        go_ret
        exact ⟨rfl, HB2.out⟩
      rw [decide_eq_false hl]
      go_wp2_with fail
      refine (impl_ReadDuration s w2 HS.out HE2.out).mono ?_
      rintro e w3 ⟨rfl, hb⟩
      have HB3 := Aside0.mk (below_step HB2.out hb)
      have HE3 := Aside0.mk (HE2.out.below hb)
      clear hb HB2 HE2
      cases hv : readD s.data.toList with
      | some v =>
        have HV := Aside0.mk hv
        clear hv
        unfold resV
        go_wp2_with fail
        refine (impl_ReadSigned s w3 HS.out HE3.out).mono ?_
        rintro e w4 ⟨rfl, hb⟩
        have HB4 := Aside0.mk (below_step HB3.out hb)
        clear hb HB3 HE3
        rw [E2.out, HV.out]
        unfold resV
        go_wp2
        go_ret
        exact ⟨rfl, HB4.out⟩
      | none =>
        have HV := Aside0.mk hv
        clear hv
        unfold resV
        go_wp2_with fail
        refine (impl_ReadSigned s w3 HS.out HE3.out).mono ?_
        rintro e w4 ⟨rfl, hb⟩
        have HB4 := Aside0.mk (below_step HB3.out hb)
        clear hb HB3 HE3
        rw [E2.out, HV.out]
        unfold resV
        go_wp2
        go_ret
        exact ⟨rfl, HB4.out⟩
    · have b0 : (s.toList == []) = false := by rw [Lib.toList_data]; simpa using h0
      have b0' : (s.toList != []) = true := by rw [Lib.toList_data]; simpa using h0
      have hz0 : 0 < s.size := by
        rw [← size_length]
        exact List.length_pos_iff.2 h0
      have hz0' : (0 : Int) < (s.size : Int) := by omega
      have he : (((s[0]'hz0).toNat : Int) == 45) = false := by simpa using hb0 hz0
      clear h0 hb0
      go_enter Tryd.func3, Tryd.ntmps3
      go_wp2_with fail
      refine (impl_ReadSigned ⟨#[45, 49, 104]⟩ w (by decide) HE.out).mono ?_
      rintro e w1 ⟨rfl, hb⟩
      have HB1 := Aside0.mk hb
      have HE1 := Aside0.mk (HE.out.below hb)
      clear hb
      rw [show readS (⟨#[45, 49, 104]⟩ : ByteArray).data.toList = some (-3600000000000) from readS_1h]
      unfold resV
      go_wp2_with fail
      refine (lawsLong s w1).mono ?_
      rintro e w2 ⟨rfl, hb⟩
      have HB2 := Aside0.mk (below_step HB1.out hb)
      have HE2 := Aside0.mk (HE1.out.below hb)
      clear hb HB1 HE1
      by_cases hl : (s.size : Int) > 65536
      · rw [decide_eq_true hl]
        go_wp2
        go_ret
        exact ⟨rfl, HB2.out⟩
      rw [decide_eq_false hl]
      go_wp2_with fail
      refine (impl_ReadDuration s w2 HS.out HE2.out).mono ?_
      rintro e w3 ⟨rfl, hb⟩
      have HB3 := Aside0.mk (below_step HB2.out hb)
      have HE3 := Aside0.mk (HE2.out.below hb)
      clear hb HB2 HE2
      cases hv : readD s.data.toList with
      | some v =>
        have HV := Aside0.mk hv
        clear hv
        unfold resV
        go_wp2_with fail
        refine (impl_ReadSigned s w3 HS.out HE3.out).mono ?_
        rintro e w4 ⟨rfl, hb⟩
        have HB4 := Aside0.mk (below_step HB3.out hb)
        clear hb HB3 HE3
        rw [E2.out, HV.out]
        unfold resV
        go_wp2
        go_ret
        exact ⟨rfl, HB4.out⟩
      | none =>
        have HV := Aside0.mk hv
        clear hv
        unfold resV
        go_wp2_with fail
        refine (impl_ReadSigned s w3 HS.out HE3.out).mono ?_
        rintro e w4 ⟨rfl, hb⟩
        have HB4 := Aside0.mk (below_step HB3.out hb)
        clear hb HB3 HE3
        rw [E2.out, HV.out]
        unfold resV
        go_wp2
        go_ret
        exact ⟨rfl, HB4.out⟩
end Go.Proofs.YtdookfmcphmlgaaDoor.Door
