/- The walk of FnTruncateRunes. -/
import Derived.Test.YtejlamkknoicgaaDoorWalkFnValueValid
import Derived.Test.YtejlamkknoicgaaDoorRunesCount
namespace Go.Proofs.YtejlamkknoicgaaDoor.Door
open Go.RowKit Go.Shelf Go.Lib Go.Proofs.YtejlamkknoicgaaDoor.Q Go.Proofs.YtejlamkknoicgaaDoor.Pure Go.Proofs.YtejlamkknoicgaaDoorW.PrintWords Go.Proofs.YtejlamkknoicgaaDoorW.PrintLast
set_option linter.unusedVariables false
set_option linter.unusedSimpArgs false
def truncS (s : ByteArray) (n : Int) : ByteArray :=
  if (count s.data.toList : Int) ≤ n then s else if n ≤ 3 then runesBytes ((rns s.size s.data.toList).take n.toNat) else runesBytes ((rns s.size s.data.toList).take (n - 1).toNat) ++ ⟨#[226, 128, 166]⟩
def truncB (s : ByteArray) (n : Int) : Bool := !decide ((count s.data.toList : Int) ≤ n)
theorem runes_list (s : ByteArray) : (Conv.runesFrom s s.size 0 #[]).toList = (rns s.size s.data.toList).map (Value.int .i32) := by
  rw [runesFrom_rns]
  simp
theorem runes_count (s : ByteArray) : (rns s.size s.data.toList).length = count s.data.toList := by
  rw [rns_length]
  unfold count
  rw [size_length]
theorem notify_TruncateInRunes (s : ByteArray) (n : Int) (w : World) (hs : s.size ≤ 2147483647) (h0 : 0 ≤ n) (h1 : n ≤ 1048576) :
    Calls Tryd.prog 15 #[.string s, .int .i64 n] w fun e w' => e = .returned (.tuple #[.string (truncS s n), .bool (truncB s n)]) ∧ Below w.heap.size w w' := by
  obtain ⟨R, hR⟩ : ∃ R, Conv.runesFrom s s.size 0 #[] = R := ⟨_, rfl⟩
  obtain ⟨Z, hZ⟩ : ∃ Z, rns s.size s.data.toList = Z := ⟨_, rfl⟩
  have hRl : R.toList = Z.map (Value.int .i32) := by rw [← hR, ← hZ]; exact runes_list s
  have hZl : Z.length = count s.data.toList := by rw [← hZ]; exact runes_count s
  have hc : count s.data.toList ≤ s.size := by rw [← size_length]; exact count_le _ _ (Nat.le_refl _)
  have hRs : R.size = count s.data.toList := by rw [← Array.length_toList, hRl, List.length_map, hZl]
  have h46 : (Conv.runesFrom s s.size 0 #[]).size ≤ 70368744177664 := by rw [hR, hRs]; omega
  obtain ⟨C, hC⟩ : ∃ C, grownCap w R.size 0 21 = C := ⟨_, rfl⟩
  have hNC : count s.data.toList ≤ C := by rw [← hC, ← hRs]; exact grownCap_ge _ _ _ _
  have hcell : ∀ j, j < Z.length → ((w.drew).alloc (.cells (R ++ Array.replicate (C - R.size) (.int .i32 0)) 21)).cell? ((⟨w.heap.size, 0, none⟩ : Addr).add j) = some (.int .i32 (Z.getD j 0)) := fun j hj => by
    have e : (⟨w.heap.size, 0, none⟩ : Addr).add j = ⟨w.drew.heap.size, j, none⟩ := add_plain _ _
    rw [e, World.cell?_alloc_new, Array.getElem?_append_left (by omega), ← Array.getElem?_toList, hRl, List.getElem?_map, List.getElem?_eq_getElem hj, List.getD_eq_getElem?_getD, List.getElem?_eq_getElem hj]
    rfl
  have hB : Below w.heap.size w ((w.drew).alloc (.cells (R ++ Array.replicate (C - R.size) (.int .i32 0)) 21)) := below_alloc (Below.refl _ _).drew _
  unfold truncS truncB
  rw [hZ]
  generalize count s.data.toList = N at *
  have HC := Aside0.mk hcell
  have HB := Aside0.mk hB
  clear hcell hB
  by_cases hA : (N : Int) ≤ n
  · rw [if_pos hA, decide_eq_true hA]
    go_enter Tryd.func15, Tryd.ntmps15
    go_wp2_with (rw [run_runes_of_string (P := Tryd.prog) _ _ _ _ _ Tryd.underlying9 Tryd.underlying37 Tryd.underlying21 h46, hR, hC]; skip)
    go_ret2
    exact ⟨rfl, by rw [← hRs] at *; exact HB.out⟩
  have dA : decide ((R.size : Int) ≤ n) = false := decide_eq_false (by omega)
  rw [if_neg hA, decide_eq_false hA]
  by_cases hB : n ≤ 3
  · have dB := decide_eq_true hB
    rw [if_pos hB]
    go_enter Tryd.func15, Tryd.ntmps15
    go_wp2_with (first | (rw [run_runes_of_string (P := Tryd.prog) _ _ _ _ _ Tryd.underlying9 Tryd.underlying37 Tryd.underlying21 h46, hR, hC]; skip) | (rw [run_convert_runes (P := Tryd.prog) (zs := Z) _ _ _ _ _ _ _ (by omega) Tryd.underlying37 Tryd.underlying21 Tryd.underlying9 (by simp only [hRs] at HC; exact HC.out)]; skip))
    go_ret2
    exact ⟨rfl, by rw [← hRs] at *; exact HB.out⟩
  · have dB := decide_eq_false hB
    rw [if_neg hB]
    have hz : (runesBytes (List.take (n.toNat - 1) Z)).size ≤ 9000000 := by
      have h1 := runesBytes_size_le (List.take (n.toNat - 1) Z)
      have h2 : (List.take (n.toNat - 1) Z).length ≤ n.toNat - 1 := by rw [List.length_take]; exact Nat.min_le_left _ _
      omega
    have hw : wrap64 (n - 1) = n - 1 := by unfold wrap64; omega
    go_enter Tryd.func15, Tryd.ntmps15
    go_wp2_with (first | (rw [run_runes_of_string (P := Tryd.prog) _ _ _ _ _ Tryd.underlying9 Tryd.underlying37 Tryd.underlying21 h46, hR, hC]; skip) | (rw [run_convert_runes (P := Tryd.prog) (zs := Z) _ _ _ _ _ _ _ (by omega) Tryd.underlying37 Tryd.underlying21 Tryd.underlying9 (by simp only [hRs] at HC; exact HC.out)]; skip))
    go_ret2
    exact ⟨rfl, by rw [← hRs] at *; exact HB.out⟩
theorem impl_TruncateRunes (s : ByteArray) (n : Int) (w : World) (hs : s.size ≤ 2147483647) (h0 : 0 ≤ n) (h1 : n ≤ 1048576) :
    Calls Tryd.prog 9 #[.string s, .int .i64 n] w fun e w' => e = .returned (.tuple #[.string (truncS s n), .bool (truncB s n)]) ∧ Below w.heap.size w w' := by
  go_enter Tryd.func9, Tryd.ntmps9
  go_wp2_with fail
  refine (notify_TruncateInRunes s n w hs h0 h1).mono ?_
  rintro e w1 ⟨rfl, hb⟩
  go_wp2
  go_ret2
  exact ⟨rfl, hb⟩
theorem specRunes (s : ByteArray) (w : World) (hs : s.size ≤ 9223372036854775807) :
    Calls Tryd.prog 11 #[.string s] w fun e w' => e = .returned (.int .i64 (count s.data.toList : Int)) ∧ Below w.heap.size w w' := by
  obtain ⟨k, hk⟩ := (specRunes_ev s hs).rounds
  exact (spec_Runes.calls k s _ w hk).mono fun e w' ⟨h, hd⟩ => ⟨h, hd.below⟩
theorem specCut (s o : ByteArray) (n : Int) (c : Bool) (w : World) (hs : s.size ≤ 9223372036854775807) (ho : o.size ≤ 9223372036854775807)
    (h : ((count s.data.toList : Int) ≤ n ∧ o = s ∧ c = false) ∨ (n < (count s.data.toList : Int) ∧ c = true ∧ (count o.data.toList : Int) ≤ n)) :
    Calls Tryd.prog 10 #[.string s, .int .i64 n, .string o, .bool c, .func (Fn.func 11) #[] #[]] w fun e w' => e = .returned (.bool true) ∧ Below w.heap.size w w' := by
  rcases h with ⟨h, rfl, rfl⟩ | ⟨h, rfl, h2⟩
  · have d := decide_eq_true h
    go_enter Tryd.func10, Tryd.ntmps10
    go_wp2_with fail
    refine (specRunes o w hs).mono ?_
    rintro e w1 ⟨rfl, hb⟩
    go_wp2
    go_ret
    exact ⟨by simp, hb⟩
  · have d : decide ((count s.data.toList : Int) ≤ n) = false := decide_eq_false (by omega)
    have d2 := decide_eq_true h2
    go_enter Tryd.func10, Tryd.ntmps10
    go_wp2_with fail
    refine (specRunes s w hs).mono ?_
    rintro e w1 ⟨rfl, hb⟩
    have HB1 := Aside0.mk hb
    clear hb
    go_wp2_with fail
    refine (specRunes o w1 ho).mono ?_
    rintro e w2 ⟨rfl, hb⟩
    have HB2 := Aside0.mk (below_step HB1.out hb)
    clear hb HB1
    go_wp2
    go_ret
    exact ⟨by simp, HB2.out⟩
theorem mark_count : count [226, 128, 166] = 1 := by decide +kernel
theorem mark_valid : validD [226, 128, 166] = true := by decide +kernel
theorem trunc_facts (s : ByteArray) (n : Int) (hs : s.size ≤ 2147483647) (hv : validD s.data.toList = true) (h0 : 0 ≤ n) (h1 : n ≤ 1048576) :
    (((count s.data.toList : Int) ≤ n ∧ truncS s n = s ∧ truncB s n = false) ∨ (n < (count s.data.toList : Int) ∧ truncB s n = true ∧ (count (truncS s n).data.toList : Int) ≤ n)) ∧
      validD (truncS s n).data.toList = true ∧ (truncS s n).size ≤ 9223372036854775807 := by
  have hlen : s.data.toList.length ≤ s.size := by rw [size_length]; exact Nat.le_refl _
  unfold truncS truncB
  by_cases hA : (count s.data.toList : Int) ≤ n
  · rw [if_pos hA, decide_eq_true hA]
    exact ⟨.inl ⟨hA, rfl, rfl⟩, hv, by omega⟩
  rw [if_neg hA, decide_eq_false hA]
  by_cases hB : n ≤ 3
  · rw [if_pos hB, cut_bytes _ _ _ hlen hv]
    refine ⟨.inr ⟨by omega, rfl, ?_⟩, cut_valid _ _ hv, ?_⟩
    · rw [cut_count _ _ hv]; omega
    · have h2 := runesBytes_size_le (List.take n.toNat (rns s.size s.data.toList))
      have h3 : (List.take n.toNat (rns s.size s.data.toList)).length ≤ n.toNat := by rw [List.length_take]; exact Nat.min_le_left _ _
      omega
  · rw [if_neg hB]
    have e : (runesBytes ((rns s.size s.data.toList).take (n - 1).toNat) ++ (⟨#[226, 128, 166]⟩ : ByteArray)).data.toList = cutL (n - 1).toNat s.data.toList ++ [226, 128, 166] := by
      rw [ByteArray.data_append, Array.toList_append, cut_bytes _ _ _ hlen hv]
    obtain ⟨f1, f2⟩ := cut_facts (n - 1).toNat s.data.toList [226, 128, 166] hv
    rw [e]
    refine ⟨.inr ⟨by omega, rfl, ?_⟩, by rw [f2, mark_valid], ?_⟩
    · rw [f1, mark_count]; omega
    · have h2 := runesBytes_size_le (List.take (n - 1).toNat (rns s.size s.data.toList))
      have h3 : (List.take (n - 1).toNat (rns s.size s.data.toList)).length ≤ (n - 1).toNat := by rw [List.length_take]; exact Nat.min_le_left _ _
      rw [ByteArray.size_append]
      show _ + 3 ≤ _
      omega
theorem abcS : truncS ⟨#[97, 98, 99]⟩ 3 = ⟨#[97, 98, 99]⟩ := by
  unfold truncS
  rw [if_pos (by decide +kernel)]
theorem abcB : truncB ⟨#[97, 98, 99]⟩ 3 = false := by decide +kernel
theorem law_FnTruncateRunes (s : ByteArray) (n : Int) (w : World) (hT : Tryd.Tabs w) :
    Calls Tryd.prog 4 #[.string s, .int .i64 n] w fun e w' => e = .returned (.bool true) ∧ Below w.heap.size w w' := by
  by_cases hs : (s.size : Int) > 2147483647
  · have d : decide ((s.size : Int) > 2147483647) = true := decide_eq_true hs
    go_enter Tryd.func4, Tryd.ntmps4
    go_wp2
    go_ret
    exact ⟨rfl, Below.refl _ _⟩
  have d : decide ((s.size : Int) > 2147483647) = false := decide_eq_false hs
  have hs' : s.size ≤ 9223372036854775807 := by omega
  have hs2 : s.size ≤ 2147483647 := by omega
  have HT := Aside0.mk hT
  have HS := Aside0.mk hs'
  have HS2 := Aside0.mk hs2
  clear hT hs'
  by_cases hl : (s.size : Int) > 65536
  · have dl := decide_eq_true hl
    go_enter Tryd.func4, Tryd.ntmps4
    go_wp2_with fail
    refine (lawsLong s w).mono ?_
    rintro e w1 ⟨rfl, hb⟩
    have HB1 := Aside0.mk hb
    have HT1 := Aside0.mk (HT.out.below hb)
    clear hb
    rw [dl]
    go_wp2_with fail
    refine (impl_TruncateRunes ⟨#[97, 98, 99]⟩ 3 w1 (by decide) (by decide) (by decide)).mono ?_
    rintro e w3 ⟨rfl, hb⟩
    have HB3 := Aside0.mk (below_step HB1.out hb)
    clear hb
    rw [abcS, abcB]
    go_wp2
    go_ret
    exact ⟨rfl, HB3.out⟩
  have dl := decide_eq_false hl
  by_cases h0 : n < 0
  · have d0 := decide_eq_true h0
    go_enter Tryd.func4, Tryd.ntmps4
    go_wp2_with fail
    refine (lawsLong s w).mono ?_
    rintro e w1 ⟨rfl, hb⟩
    have HB1 := Aside0.mk hb
    have HT1 := Aside0.mk (HT.out.below hb)
    clear hb
    rw [dl]
    go_wp2_with fail
    refine (impl_TruncateRunes ⟨#[97, 98, 99]⟩ 3 w1 (by decide) (by decide) (by decide)).mono ?_
    rintro e w3 ⟨rfl, hb⟩
    have HB3 := Aside0.mk (below_step HB1.out hb)
    clear hb
    rw [abcS, abcB]
    go_wp2
    go_ret
    exact ⟨rfl, HB3.out⟩
  have d0 := decide_eq_false h0
  by_cases h1 : n > 1048576
  · have d1 := decide_eq_true h1
    go_enter Tryd.func4, Tryd.ntmps4
    go_wp2_with fail
    refine (lawsLong s w).mono ?_
    rintro e w1 ⟨rfl, hb⟩
    have HB1 := Aside0.mk hb
    have HT1 := Aside0.mk (HT.out.below hb)
    clear hb
    rw [dl]
    go_wp2_with fail
    refine (impl_TruncateRunes ⟨#[97, 98, 99]⟩ 3 w1 (by decide) (by decide) (by decide)).mono ?_
    rintro e w3 ⟨rfl, hb⟩
    have HB3 := Aside0.mk (below_step HB1.out hb)
    clear hb
    rw [abcS, abcB]
    go_wp2
    go_ret
    exact ⟨rfl, HB3.out⟩
  have d1 := decide_eq_false h1
  cases hv : validD s.data.toList with
  | false =>
    go_enter Tryd.func4, Tryd.ntmps4
    go_wp2_with fail
    refine (lawsLong s w).mono ?_
    rintro e w1 ⟨rfl, hb⟩
    have HB1 := Aside0.mk hb
    have HT1 := Aside0.mk (HT.out.below hb)
    clear hb
    rw [dl]
    go_wp2_with fail
    refine (Tryd.utf8_ValidString s w1 HS.out HT1.out).mono ?_
    rintro e w2 ⟨rfl, hb⟩
    have HB2 := Aside0.mk (below_step HB1.out hb)
    clear hb
    rw [hv]
    go_wp2_with fail
    refine (impl_TruncateRunes ⟨#[97, 98, 99]⟩ 3 w2 (by decide) (by decide) (by decide)).mono ?_
    rintro e w3 ⟨rfl, hb⟩
    have HB3 := Aside0.mk (below_step HB2.out hb)
    clear hb
    rw [abcS, abcB]
    go_wp2
    go_ret
    exact ⟨rfl, HB3.out⟩
  | true =>
    have HF := Aside0.mk (trunc_facts s n hs2 hv (by omega) (by omega))
    have H0 := Aside0.mk (show 0 ≤ n by omega)
    have H1 := Aside0.mk (show n ≤ 1048576 by omega)
    have HV := Aside0.mk hv
    clear hv
    go_enter Tryd.func4, Tryd.ntmps4
    go_wp2_with fail
    refine (lawsLong s w).mono ?_
    rintro e w1 ⟨rfl, hb⟩
    have HB1 := Aside0.mk hb
    have HT1 := Aside0.mk (HT.out.below hb)
    clear hb
    rw [dl]
    go_wp2_with fail
    refine (Tryd.utf8_ValidString s w1 HS.out HT1.out).mono ?_
    rintro e w2 ⟨rfl, hb⟩
    have HB2 := Aside0.mk (below_step HB1.out hb)
    have HT2 := Aside0.mk (HT1.out.below hb)
    clear hb HB1 HT1
    rw [HV.out]
    go_wp2_with fail
    refine (impl_TruncateRunes s n w2 HS2.out H0.out H1.out).mono ?_
    rintro e w3 ⟨rfl, hb⟩
    have HB3 := Aside0.mk (below_step HB2.out hb)
    have HT3 := Aside0.mk (HT2.out.below hb)
    clear hb HB2 HT2
    go_wp2_with fail
    refine (specCut s (truncS s n) n (truncB s n) w3 HS.out HF.out.2.2 HF.out.1).mono ?_
    rintro e w4 ⟨rfl, hb⟩
    have HB4 := Aside0.mk (below_step HB3.out hb)
    have HT4 := Aside0.mk (HT3.out.below hb)
    clear hb HB3 HT3
    go_wp2_with fail
    refine (Tryd.utf8_ValidString (truncS s n) w4 HF.out.2.2 HT4.out).mono ?_
    rintro e w5 ⟨rfl, hb⟩
    have HB5 := Aside0.mk (below_step HB4.out hb)
    clear hb HB4 HT4
    rw [HF.out.2.1]
    go_wp2
    go_ret
    exact ⟨rfl, HB5.out⟩
end Go.Proofs.YtejlamkknoicgaaDoor.Door
