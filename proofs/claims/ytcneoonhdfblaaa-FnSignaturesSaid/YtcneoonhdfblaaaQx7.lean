-- printed by this project's own program wip/tools/mkprint.py (the kit's print.py with hand-proved contracts put in)
import Derived.Test.YtcneoonhdfblaaaQx0
import Derived.Test.YtcneoonhdfblaaaQx1
import Derived.Test.YtcneoonhdfblaaaQx6
namespace Go.Proofs.Ytcneoonhdfblaaa.Q
open Go.RowKit Go.Proofs.YtcneoonhdfblaaaW.PrintWords Go.Proofs.YtcneoonhdfblaaaW.PrintLast Go.Proofs.YtcneoonhdfblaaaW.PrintMore
attribute [local go_sem] max2_int min2_int max_two min_two max_three min_three max_four min_four   -- for this text's walks alone
set_option linter.unusedVariables false
set_option linter.unusedSimpArgs false

/-! ### model_SignatureWithoutLabels: function 31 -/
-- contracts that were proved by hand
def leftN (ks : List ByteArray) (m : MapsS.SM) : List ByteArray := (m.map (·.1)).filter fun x => !MapsS.inL x ks
theorem left_perm {ks : List ByteArray} {a b : MapsS.SM} (h : a.Perm b) : (leftN ks a).Perm (leftN ks b) := (h.map _).filter _
theorem left_snoc (ks : List ByteArray) (a : MapsS.SM) (x c : ByteArray) : leftN ks (a ++ [(x, c)]) = leftN ks a ++ (if MapsS.inL x ks = true then [] else [x]) := by
  unfold leftN
  rw [List.map_append, List.filter_append]
  by_cases h : MapsS.inL x ks = true <;> simp [h]
theorem left_le (ks : List ByteArray) (a : MapsS.SM) : (leftN ks a).length ≤ a.length := by
  unfold leftN
  refine Nat.le_trans (List.length_filter_le _ _) ?_
  rw [List.length_map]
  exact Nat.le_refl _
theorem left_sorted {ks : List ByteArray} {m : MapsS.SM} (h : MapsS.Rises m) {l : List ByteArray} (hp : l.Perm (leftN ks m)) : sortB l = leftN ks m := by
  have e : leftN ks m = (m.filter fun p => !MapsS.inL p.1 ks).map (·.1) := by unfold leftN; rw [List.filter_map]; rfl
  rw [e] at hp ⊢
  exact names_sorted (List.Pairwise.filter _ h) hp
theorem infoLNs : (Try.prog.info? 65).map (fun i => (i.zero, i.size, i.bytes)) = some (some (.string ⟨#[]⟩), 1, 16) := by kernel_rfl
set_option maxHeartbeats 6400000 in
set_option maxRecDepth 100000 in
theorem model_SignatureWithoutLabels.calls (b n : Nat) (m : MapsS.SM) (bu nu : Nat) (ks : List ByteArray) (w : World) (h : MapsS.IsSM Try.prog 65 80 w b n m) (hu : MapsS.IsUS Try.prog 65 w bu nu ks) (hl : m.length ≤ 1000000000) :
    Calls Try.prog 31 #[.map (some b), .map (some bu)] w fun e w' => e = .returned (.int .u64 (sigN m (leftN ks m))) ∧ Below w.heap.size w w' := by
  have e1 := fun ty => h.len_run (t := 59) Try.underlying59 ty
  have H := Aside0.mk h
  have HU := Aside0.mk hu
  have HL := Aside0.mk h.lt
  have HLU := Aside0.mk hu.lt
  clear h hu
  by_cases hm : m.length = 0
  · obtain rfl : m = [] := List.length_eq_zero_iff.1 hm
    clear hm
    show Calls _ _ _ _ fun e w' => e = .returned (.int .u64 14695981039346656037) ∧ _
    go_enter Try.func31, Try.ntmps31
    go_wp2
    go_ret
    exact ⟨rfl, Below.refl _ _⟩
  have c1 : ((m.length : Int) == 0) = false := by simp [hm]
  have c2 : ¬ (m.length : Int) = 0 := by omega
  clear hm
  obtain ⟨R, hR⟩ : ∃ R, sigN m (leftN ks m) = R := ⟨_, rfl⟩
  rw [hR]
  have HR0 := Aside0.mk hR
  clear hR
  obtain ⟨i0, hi, hz0, hz1, hz2⟩ := info_parts infoLNs
  have HB2 := Aside0.mk (show i0.bytes * m.length ≤ 281474976710656 by rw [hz2]; omega)
  have HI := Aside0.mk hi
  have HZ0 := Aside0.mk hz0
  have HZ1 := Aside0.mk hz1
  have HMx := Aside0.mk (show m.length ≤ maxLen by unfold maxLen; omega)
  clear hi hz0 hz1 hz2
  go_enter Try.func31, Try.ntmps31
  go_wp2_with (first
    | (at_make; refine wpList_make_own _ rfl _ _ 79 rfl w.heap.size 65 i0 (.string ⟨#[]⟩) 1 Try.underlying79 HI.out HZ0.out HZ1.out _ _ _ m.length rfl rfl (by first | rfl | omega) HB2.out HMx.out (Nat.le_refl _) ?_; intro w1 hown hg; have HO1 := Aside0.mk (R_startS (P := fun k => k < w1.heap.size) hown (fun k hk => (hown.lt k hk).2)); have HB1 := Aside0.mk (pw_below_grown (Below.refl w.heap.size w) none (Nat.le_refl _) hg (by simp)); clear hown hg)
    | (at_range; refine MapsS.wpList_range_sm (t := 59) rfl _ rfl Try.underlying59 Try.underlying65 rfl (H.out.below HB1.out) ?_; intro w2 r hr hR hg hsz; have HR := Aside0.mk hR; have HG := Aside0.mk (show w.heap.size ≤ r by rw [hr]; exact below_size HB1.out); have HO2 := Aside0.mk (Kd.R_mono (Kd.R_grown HO1.out hg (fun k hk e => by cases e)) (fun k hk => show k ≠ r by omega)); have HBW := Aside0.mk (pw_below_grown HB1.out none (below_size HB1.out) hg (by simp)); have HZ := Aside0.mk (show r < w2.heap.size by omega); clear hr hR hg hsz HO1))
  go_frame
  clear e1 c1 c2
  go_loopw [5, 20] (fun v5 _ wr => ∃ seen : MapsS.SM, Aside0 (Kd.R Kd.string 65 wr w.heap.size (fun k => k ≠ r) v5 (leftN ks seen)) ∧ Aside0 (MapsS.RSM Try.prog 65 80 wr b r n m seen) ∧ Aside0 (Below w.heap.size w wr) ∧ Aside0 (r < wr.heap.size)) (fun _ _ wr => wr.rangeLeft b r)
  case atStart => exact ⟨[], HO2, HR, HBW, HZ⟩
  case round =>
    clear HR HBW HZ HO2
    obtain ⟨seen, HO, HR, HB, HZ⟩ := hrel
    go_wp2_with (at_next; refine MapsS.wpList_next_sm rfl _ rfl Try.underlying65 Try.underlying80 rfl HR.out ?_ ?_)
    · intro hp
      have HP := Aside0.mk (left_perm (ks := ks) hp)
      have hle := left_le ks m
      obtain ⟨A, c4, e4⟩ := Kd.R_slice HO.out
      have HLE := Aside0.mk HP.out.length_eq
      clear hp HR HZ
      by_cases hm0 : (leftN ks seen).length = 0
      · have eR : R = 14695981039346656037 := by
          rw [← HR0.out]
          have : leftN ks m = [] := List.length_eq_zero_iff.1 (by rw [← HLE.out]; exact hm0)
          rw [this]
          rfl
        have c1 : (((leftN ks seen).length : Int) == 0) = true := by simp [hm0]
        subst eR e4
        clear hm0
        have HBD := Aside0.mk HB.out
        clear HO HP HB HR0
        go_wp2
        go_ret
        exact ⟨rfl, HBD.out⟩
      have c1 : (((leftN ks seen).length : Int) == 0) = false := by simp [hm0]
      clear hm0
      have HSO := Aside0.mk (sort_Sort.names u5 (leftN ks seen) wr w.heap.size (Kd.R_mono HO.out (fun _ _ => trivial)) (by rw [HLE.out]; omega))
      have HE := Aside0.mk (left_sorted H.out.2.1 HP.out)
      have HK := Aside0.mk (show ∀ k, u5.ownBlock = some k → w.heap.size ≤ k from fun k hk => by obtain ⟨_, inner, ho, _⟩ := HO.out; exact own_base ho k hk)
      clear HP HO
      subst e4
      go_wp2_with fail
      refine HSO.out.mono ?_
      rintro e w4 ⟨rfl, hO4, hg4⟩
      rw [HE.out] at hO4
      have HB4 := Aside0.mk (pw_below_grown HB.out _ (below_size HB.out) hg4 HK.out)
      have hC := (Kd.R_reads' hO4).2.2
      rw [HLE.out]
      have HM := Aside0.mk (H.out.below HB4.out)
      have HS := Aside0.mk (show ∀ x ∈ leftN ks m, x.size ≤ maxLen from fun x hx => by
        unfold leftN at hx
        obtain ⟨p, hp, rfl⟩ := List.mem_map.1 (List.mem_filter.1 hx).1
        exact (H.out.2.2 p hp).1)
      have hLl : (leftN ks m).length ≤ 1000000000 := by omega
      have HR := Aside0.mk HR0.out
      have HC := Aside0.mk hC
      clear hO4 hg4 hC HE HK HB HSO HLE c1 hle HR0
      generalize leftN ks m = L at *
      go_wp2_with fail
      refine (hash_new _).mono ?_
      rintro e w5 ⟨rfl, hD⟩
      have HBh := Aside0.mk hD.below
      clear hD
      go_wp2
      go_loopw [9, 45] (fun v9 v45 wr => ∃ j : Nat, j ≤ L.length ∧ v45 = .int .i64 j ∧ v9 = .int .u64 (sigN m (L.take j)) ∧ Aside0 (Below w4.heap.size w4 wr)) (fun _ v45 _ => L.length - (intOf v45).toNat)
      case atStart => exact ⟨0, Nat.zero_le _, rfl, rfl, HBh⟩
      case round =>
        clear HBh
        obtain ⟨j, hj, rfl, rfl, HB5⟩ := hrel
        by_cases hlt : j < L.length
        · obtain ⟨ad, e0, hx⟩ := Kd.at_string (Kd.C_below HC.out HB5.out) (j : Int) (by omega) (by omega)
          cases e0
          have er : rdOf ByteArray.empty L (j : Int) = L[j] := by simp [rdOf, hlt]
          simp only [Int.toNat_natCast] at hx
          rw [er] at hx
          have HXS := Aside0.mk (HS.out _ (List.getElem_mem hlt))
          have HVS := Aside0.mk (val_size HM.out L[j])
          have HT := Aside0.mk (show sigN m (L.take (j + 1)) = sigStep m (sigN m (L.take j)) L[j] by rw [List.take_succ_eq_append_getElem hlt]; unfold sigN; rw [List.foldl_append]; rfl)
          unfold sigStep at HT
          clear er
          generalize L[j] = x at *
          generalize sigN m (L.take j) = s at *
          have A1 := Aside0.mk (fun W => hash_add s x W HXS.out)
          have A2 := Aside0.mk (fun W => hash_byte (hStr s x) W)
          have A3 := Aside0.mk (fun W => hash_add (hByte (hStr s x) 255) (valOf m x) W HVS.out)
          have A4 := Aside0.mk (fun W => hash_byte (hStr (hByte (hStr s x) 255) (valOf m x)) W)
          have LK := Aside0.mk (fun W (hW : Below w4.heap.size w4 W) => (HM.out.below hW).look_run (t := 59) Try.underlying59 Try.underlying65 Try.underlying80 (by rfl) HXS.out)
          change Aside0 (∀ W hW, (Instr.lookup 59 (.map (some b)) (.string x) false).run Try.prog W = .ok (.string (valOf m x)) W) at LK
          generalize valOf m x = v at *
          generalize hByte (hStr (hByte (hStr s x) 255) v) 255 = s4 at *
          generalize hStr (hByte (hStr s x) 255) v = s3 at *
          generalize hByte (hStr s x) 255 = s2 at *
          generalize hStr s x = s1 at *
          go_wp2_with fail
          refine (A1.out _).mono ?_
          rintro e w6 ⟨rfl, hD⟩
          have HB6 := Aside0.mk (below_step HB5.out hD.below)
          clear hD hx
          go_wp2_with fail
          refine (A2.out _).mono ?_
          rintro e w7 ⟨rfl, hD⟩
          have HB7 := Aside0.mk (below_step HB6.out hD.below)
          have h2 := LK.out w7 HB7.out
          clear hD
          go_wp2_with fail
          refine (A3.out _).mono ?_
          rintro e w8 ⟨rfl, hD⟩
          have HB8 := Aside0.mk (below_step HB7.out hD.below)
          clear hD h2
          go_wp2_with fail
          refine (A4.out _).mono ?_
          rintro e w9 ⟨rfl, hD⟩
          have HB9 := Aside0.mk (below_step HB8.out hD.below)
          clear hD
          go_wp2
          go_roundw
          case rel => exact ⟨j + 1, by omega, by go_num, by rw [HT.out], HB9⟩
          case measure => simp [intOf]; omega
        · have hj2 : j = L.length := by omega
          subst hj2
          have hR := HR.out
          rw [List.take_of_length_le (Nat.le_refl _)]
          rw [hR]
          clear hR
          go_wp2
          go_ret
          exact ⟨rfl, below_step HB4.out HB5.out⟩
    · intro x c w3 hmem hnot hR hlt hg hsz hen
      have HO3 := Aside0.mk (Kd.R_grown HO.out hg (fun k hk e => hk (by injection e with e)))
      have HB3 := Aside0.mk (pw_below_grown HB.out (some r) (below_size HB.out) hg (fun k hk => by injection hk with hk; have := HG.out; omega))
      have HR3 := Aside0.mk hR
      have HZ3 := Aside0.mk (show r < w3.heap.size by rw [hsz]; exact HZ.out)
      have HT3 := Aside0.mk hlt
      have HXS := Aside0.mk (H.out.2.2 _ hmem).1
      have h2 := (HU.out.below HB3.out).look_ok_run (t := 63) Try.underlying63 Try.underlying65 (by rfl) HXS.out
      have HK := Aside0.mk (show ∀ k, u5.ownBlock = some k → w.heap.size ≤ k ∧ k ≠ r from fun k hk => by
        obtain ⟨h0, inner, ho, _⟩ := HO.out
        exact ⟨own_base ho k hk, h0 k hk⟩)
      have HL3 := Aside0.mk (show (leftN ks seen).length < m.length by
        obtain ⟨_, _, _, _, hsub, hnd, _⟩ := hR
        have := sub_len hnd hsub
        rw [List.length_append, List.length_singleton] at this
        have := left_le ks seen
        omega)
      have HT := Aside0.mk (left_snoc ks seen x c)
      clear hmem hnot hR hlt hg hsz HO HR HB HZ
      cases hin : MapsS.inL x ks with
      | true =>
        rw [hin] at h2
        have HT := Aside0.mk (show leftN ks (seen ++ [(x, c)]) = leftN ks seen by rw [HT.out, hin]; simp)
        clear hin
        have hg4 := World.grownBy_alloc w3 (.cells #[] 64) none
        have HO4 := Aside0.mk (Kd.R_alloc HO3.out (.cells #[] 64))
        have HB4 := Aside0.mk (below_alloc HB3.out (.cells #[] 64))
        have HR4 := Aside0.mk (HR3.out.kept hg4 (by simp) (by simp))
        have HZ4 := Aside0.mk (Nat.lt_of_lt_of_le HZ3.out hg4.size)
        have HT4 := Aside0.mk (show (w3.alloc (.cells #[] 64)).rangeLeft b r < wr.rangeLeft b r by rw [rangeLeft_kept hg4 (by have := HL.out; have := below_size HB3.out; omega) HZ3.out (by simp) (by simp)]; exact HT3.out)
        clear hg4 HO3 HB3 HR3 HZ3 HT3
        go_wp2
        go_roundw
        case rel => exact ⟨seen ++ [(x, c)], ⟨by rw [HT.out]; exact HO4.out⟩, HR4, HB4, HZ4⟩
        case measure => exact HT4.out
      | false =>
        rw [hin] at h2
        have HT := Aside0.mk (show leftN ks (seen ++ [(x, c)]) = leftN ks seen ++ [x] by rw [HT.out, hin]; simp)
        clear hin
        have hg4 := World.grownBy_alloc w3 (.cells #[] 64) none
        have HO4 := Aside0.mk (Kd.R_alloc HO3.out (.cells #[] 64))
        have HB4 := Aside0.mk (below_alloc HB3.out (.cells #[] 64))
        have HR4 := Aside0.mk (HR3.out.kept hg4 (by simp) (by simp))
        have HZ4 := Aside0.mk (Nat.lt_of_lt_of_le HZ3.out hg4.size)
        have HT4 := Aside0.mk (show (w3.alloc (.cells #[] 64)).rangeLeft b r < wr.rangeLeft b r by rw [rangeLeft_kept hg4 (by have := HL.out; have := below_size HB3.out; omega) HZ3.out (by simp) (by simp)]; exact HT3.out)
        clear hg4 HO3 HB3 HR3 HZ3 HT3
        go_wp2_with ((with_reducible refine gate_builtin (b := .append) (xs := #[.tmp 32, .tmp 34]) rfl ?_); at_builtin; refine Kd.R_append Kd.string (w0 := w) w.heap.size rfl (.tmp 32) (.tmp 34) 79 65 (.string ⟨#[]⟩) 16 rfl Try.underlying79 infoLNs rfl (by decide) (by omega) u5 (leftN ks seen) x [.string x] (fun k => k ≠ r) (fun _ => False) rfl (by first | (go_simp; done) | (go_simp; rfl)) rfl (fun _ hk => hk.elim) (fun k hk => by have := HZ4.out; omega) HO4.out HB4.out (below_size HB4.out) (by have := HL3.out; omega) ?_; intro v2 w5 hO5 hB5 hg5 hat5; rw [← HT.out] at hO5; have HO5 := Aside0.mk hO5; have HB5 := Aside0.mk hB5; have HR5 := Aside0.mk (HR4.out.kept hg5 (fun e => by have := (HK.out _ e.symm).1; have := HL.out; omega) (fun e => (HK.out _ e.symm).2 rfl)); have HZ5 := Aside0.mk (Nat.lt_of_lt_of_le HZ4.out hg5.size); have HT5 := Aside0.mk (show w5.rangeLeft b r < wr.rangeLeft b r by rw [rangeLeft_kept hg5 (by have := HL.out; have := below_size HB4.out; omega) (by exact HZ4.out) (fun e => by have := (HK.out _ e.symm).1; have := HL.out; omega) (fun e => (HK.out _ e.symm).2 rfl)]; exact HT4.out); clear hO5 hB5 hg5 hat5 HO4 HB4 HR4 HZ4 HT4)
        go_roundw
        case rel => exact ⟨seen ++ [(x, c)], HO5, HR5, HB5, HZ5⟩
        case measure => exact HT5.out


/-! ### impl_SignatureWithout: function 17 -/
-- a contract that was proved by hand
def impl_SignatureWithout.f (l0 : List S32) (l1 : List ByteArray) : Option Int := if lessMax l0 = true ∧ l0.length ≤ 1000000000 ∧ okNm l1 = true then some (sigN (setL l0) (leftN l1 (setL l0))) else none
set_option maxHeartbeats 3200000 in
set_option maxRecDepth 100000 in
theorem impl_SignatureWithout.calls (A0 : Option Addr) (c0 : Nat) (l0 : List S32) (A1 : Option Addr) (c1 : Nat) (l1 : List ByteArray) (r : Int) (w : World) (hr0 : Kd.C k32 w A0 l0.length l0) (hc0 : l0.length ≤ c0) (hr1 : Kd.C Kd.string w A1 l1.length l1) (hc1 : l1.length ≤ c1) (h : impl_SignatureWithout.f l0 l1 = some r) :
    Calls Try.prog 17 #[.slice A0 l0.length c0, .slice A1 l1.length c1] w fun e w' => e = .returned (.int .u64 r) ∧ Below w.heap.size w w' := by
  unfold impl_SignatureWithout.f at h
  by_cases hc : lessMax l0 = true ∧ l0.length ≤ 1000000000 ∧ okNm l1 = true
  · rw [if_pos hc] at h
    obtain rfl := Option.some.inj h
    clear h
    obtain ⟨h1, h3, h2⟩ := hc
    simp only [lessMax, Bool.and_eq_true, decide_eq_true_eq] at h1
    unfold okNm at h2
    rw [Bool.and_eq_true, decide_eq_true_eq] at h2
    have hl1 := h2.1
    have C0 := Aside0.mk (fun W (hb : Below w.heap.size w W) => impl_labelSet.calls A0 c0 l0 W (Kd.C_below hr0 hb) hc0 h1.1 h1.2)
    have HR1 := Aside0.mk hr1
    have HSZ := Aside0.mk (show ∀ x ∈ l1, x.size ≤ maxLen from fun x hx => by have := List.all_eq_true.1 h2.2 x hx; simpa using this)
    have HML := Aside0.mk (Nat.le_trans (setL_le l0) h3)
    clear h1 h2 hr0 hc0 hr1 hc1
    generalize setL l0 = m at *
    have hmk := @run_makeMap Try.prog
    go_enter Try.func17, Try.ntmps17
    go_wp2
    have HM0 := Aside0.mk (MapsS.IsUS.made w Try.prog 65)
    go_loopw [11] (fun v11 wr => ∃ j : Nat, j ≤ l1.length ∧ v11 = .int .i64 j ∧ Aside0 (MapsS.IsUS Try.prog 65 wr w.heap.size j (l1.take j)) ∧ Aside0 (Below w.heap.size w wr)) (fun v11 _ => l1.length - (intOf v11).toNat)
    case atStart => exact ⟨0, Nat.zero_le _, rfl, HM0, ⟨below_alloc (Below.refl _ _) _⟩⟩
    case round =>
      clear HM0
      obtain ⟨j, hj, rfl, HM, HB⟩ := hrel
      by_cases hlt : j < l1.length
      · obtain ⟨ad, e0, hx⟩ := Kd.at_string (Kd.C_below HR1.out HB.out) (j : Int) (by omega) (by omega)
        cases e0
        have er : rdOf ByteArray.empty l1 (j : Int) = l1[j] := by simp [rdOf, hlt]
        simp only [Int.toNat_natCast] at hx
        rw [er] at hx
        have HK := Aside0.mk (HSZ.out _ (List.getElem_mem hlt))
        have HT := Aside0.mk (show l1.take (j + 1) = l1.take j ++ [l1[j]] from List.take_succ_eq_append_getElem hlt)
        clear er
        generalize l1[j] = x at *
        go_wp2_with (at_mapUpdate; refine MapsS.wpList_store_us (t := 63) (k := 65) (e := 64) rfl _ _ _ rfl Try.underlying63 Try.underlying65 rfl HM.out (by unfold maxLen; omega) rfl rfl HK.out ?_; intro w2 hM2 hg2; rw [← HT.out] at hM2; have HM2 := Aside0.mk hM2; have HB2 := Aside0.mk (pw_below_grown HB.out _ (below_size HB.out) hg2 (fun k hk => by injection hk with hk; omega)); clear hM2 hg2 HM HB HT)
        go_roundw
        case rel => exact ⟨j + 1, by omega, by go_num, HM2, HB2⟩
        case measure => simp [intOf]; omega
      · have hj2 : j = l1.length := by omega
        subst hj2
        have hM := HM.out
        rw [List.take_of_length_le (Nat.le_refl _)] at hM
        have HU := Aside0.mk hM
        have C1 := Aside0.mk (impl_metric.calls A0 c0 l0 wr m (C0.out wr HB.out))
        clear hM HM
        go_wp2_with fail
        refine C1.out.mono ?_
        rintro e w2 ⟨b, rfl, hb, hM, hB⟩
        have C2 := Aside0.mk (model_SignatureWithoutLabels.calls b _ m w.heap.size _ l1 w2 hM (HU.out.below hB) HML.out)
        have HB2 := Aside0.mk (below_step HB.out hB)
        clear hM hB hb
        go_wp2_with fail
        refine C2.out.mono ?_
        rintro e w3 ⟨rfl, hb⟩
        have HB3 := Aside0.mk (below_step HB2.out hb)
        clear hb
        go_wp2
        go_ret
        exact ⟨rfl, HB3.out⟩
  · rw [if_neg hc] at h
    cases h


end Go.Proofs.Ytcneoonhdfblaaa.Q
