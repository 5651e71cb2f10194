/- notify.TruncateInRunes, and what the laws on cut texts share. -/
import Derived.Test.YthpaplpnbklojaaDoorShelf
import Derived.Test.YthpaplpnbklojaaDoorRunesCount
import Derived.Test.YthpaplpnbklojaaDoorQx1
import Derived.WalkKit
import Derived.ProofKit
namespace Go.Proofs.YthpaplpnbklojaaDoor.Door
open Go.RowKit Go.Shelf Go.Lib Go.Proofs.YthpaplpnbklojaaDoor.Q Go.Proofs.YthpaplpnbklojaaDoor.Pure Go.Proofs.YthpaplpnbklojaaDoorW.PrintWords Go.Proofs.YthpaplpnbklojaaDoorW.PrintLast
set_option linter.unusedVariables false
set_option linter.unusedSimpArgs false
def truncS (s : ByteArray) (n : Int) : ByteArray :=
  if (count s.data.toList : Int) ≤ n then s else if n ≤ 3 then runesBytes ((rns s.size s.data.toList).take n.toNat) else runesBytes ((rns s.size s.data.toList).take (n - 1).toNat) ++ ⟨#[226, 128, 166]⟩
def truncB (s : ByteArray) (n : Int) : Bool := !decide ((count s.data.toList : Int) ≤ n)
theorem runes_list (s : ByteArray) : (Conv.runesFrom s s.size 0 #[]).toList = (rns s.size s.data.toList).map (Value.int .i32) := by
  rw [runesFrom_rns]
  simp
theorem runes_count (s : ByteArray) : (rns s.size s.data.toList).length = count s.data.toList := by
  rw [rns_length]
  unfold count
  rw [size_length]
theorem notify_TruncateInRunes (s : ByteArray) (n : Int) (w : World) (hs : s.size ≤ 2147483647) (h0 : 0 ≤ n) (h1 : n ≤ 1048576) :
    Calls Tryd.prog 10 #[.string s, .int .i64 n] w fun e w' => e = .returned (.tuple #[.string (truncS s n), .bool (truncB s n)]) ∧ Below w.heap.size w w' := by
  obtain ⟨R, hR⟩ : ∃ R, Conv.runesFrom s s.size 0 #[] = R := ⟨_, rfl⟩
  obtain ⟨Z, hZ⟩ : ∃ Z, rns s.size s.data.toList = Z := ⟨_, rfl⟩
  have hRl : R.toList = Z.map (Value.int .i32) := by rw [← hR, ← hZ]; exact runes_list s
  have hZl : Z.length = count s.data.toList := by rw [← hZ]; exact runes_count s
  have hc : count s.data.toList ≤ s.size := by rw [← size_length]; exact count_le _ _ (Nat.le_refl _)
  have hRs : R.size = count s.data.toList := by rw [← Array.length_toList, hRl, List.length_map, hZl]
  have h46 : (Conv.runesFrom s s.size 0 #[]).size ≤ 70368744177664 := by rw [hR, hRs]; omega
  obtain ⟨C, hC⟩ : ∃ C, grownCap w R.size 0 21 = C := ⟨_, rfl⟩
  have hNC : count s.data.toList ≤ C := by rw [← hC, ← hRs]; exact grownCap_ge _ _ _ _
  have hcell : ∀ j, j < Z.length → ((w.drew).alloc (.cells (R ++ Array.replicate (C - R.size) (.int .i32 0)) 21)).cell? ((⟨w.heap.size, 0, none⟩ : Addr).add j) = some (.int .i32 (Z.getD j 0)) := fun j hj => by
    have e : (⟨w.heap.size, 0, none⟩ : Addr).add j = ⟨w.drew.heap.size, j, none⟩ := add_plain _ _
    rw [e, World.cell?_alloc_new, Array.getElem?_append_left (by omega), ← Array.getElem?_toList, hRl, List.getElem?_map, List.getElem?_eq_getElem hj, List.getD_eq_getElem?_getD, List.getElem?_eq_getElem hj]
    rfl
  have hB : Below w.heap.size w ((w.drew).alloc (.cells (R ++ Array.replicate (C - R.size) (.int .i32 0)) 21)) := below_alloc (Below.refl _ _).drew _
  unfold truncS truncB
  rw [hZ]
  generalize count s.data.toList = N at *
  have HC := Aside0.mk hcell
  have HB := Aside0.mk hB
  clear hcell hB
  by_cases hA : (N : Int) ≤ n
  · rw [if_pos hA, decide_eq_true hA]
    go_enter Tryd.func10, Tryd.ntmps10
    go_wp2_with (rw [run_runes_of_string (P := Tryd.prog) _ _ _ _ _ Tryd.underlying9 Tryd.underlying34 Tryd.underlying21 h46, hR, hC]; skip)
    go_ret2
    exact ⟨rfl, by rw [← hRs] at *; exact HB.out⟩
  have dA : decide ((R.size : Int) ≤ n) = false := decide_eq_false (by omega)
  rw [if_neg hA, decide_eq_false hA]
  by_cases hB : n ≤ 3
  · have dB := decide_eq_true hB
    rw [if_pos hB]
    go_enter Tryd.func10, Tryd.ntmps10
    go_wp2_with (first | (rw [run_runes_of_string (P := Tryd.prog) _ _ _ _ _ Tryd.underlying9 Tryd.underlying34 Tryd.underlying21 h46, hR, hC]; skip) | (rw [run_convert_runes (P := Tryd.prog) (zs := Z) _ _ _ _ _ _ _ (by omega) Tryd.underlying34 Tryd.underlying21 Tryd.underlying9 (by simp only [hRs] at HC; exact HC.out)]; skip))
    go_ret2
    exact ⟨rfl, by rw [← hRs] at *; exact HB.out⟩
  · have dB := decide_eq_false hB
    rw [if_neg hB]
    have hz : (runesBytes (List.take (n.toNat - 1) Z)).size ≤ 9000000 := by
      have h1 := runesBytes_size_le (List.take (n.toNat - 1) Z)
      have h2 : (List.take (n.toNat - 1) Z).length ≤ n.toNat - 1 := by rw [List.length_take]; exact Nat.min_le_left _ _
      omega
    have hw : wrap64 (n - 1) = n - 1 := by unfold wrap64; omega
    go_enter Tryd.func10, Tryd.ntmps10
    go_wp2_with (first | (rw [run_runes_of_string (P := Tryd.prog) _ _ _ _ _ Tryd.underlying9 Tryd.underlying34 Tryd.underlying21 h46, hR, hC]; skip) | (rw [run_convert_runes (P := Tryd.prog) (zs := Z) _ _ _ _ _ _ _ (by omega) Tryd.underlying34 Tryd.underlying21 Tryd.underlying9 (by simp only [hRs] at HC; exact HC.out)]; skip))
    go_ret2
    exact ⟨rfl, by rw [← hRs] at *; exact HB.out⟩
theorem impl_TruncateRunes (s : ByteArray) (n : Int) (w : World) (hs : s.size ≤ 2147483647) (h0 : 0 ≤ n) (h1 : n ≤ 1048576) :
    Calls Tryd.prog 4 #[.string s, .int .i64 n] w fun e w' => e = .returned (.tuple #[.string (truncS s n), .bool (truncB s n)]) ∧ Below w.heap.size w w' := by
  go_enter Tryd.func4, Tryd.ntmps4
  go_wp2_with fail
  refine (notify_TruncateInRunes s n w hs h0 h1).mono ?_
  rintro e w1 ⟨rfl, hb⟩
  go_wp2
  go_ret2
  exact ⟨rfl, hb⟩
theorem specRunes (s : ByteArray) (w : World) (hs : s.size ≤ 9223372036854775807) :
    Calls Tryd.prog 5 #[.string s] w fun e w' => e = .returned (.int .i64 (count s.data.toList : Int)) ∧ Below w.heap.size w w' := by
  obtain ⟨k, hk⟩ := (specRunes_ev s hs).rounds
  exact (spec_Runes.calls k s _ w hk).mono fun e w' ⟨h, hd⟩ => ⟨h, hd.below⟩
theorem mark_count : count [226, 128, 166] = 1 := by decide +kernel
theorem mark_valid : validD [226, 128, 166] = true := by decide +kernel
theorem lawsLong (s : ByteArray) (w : World) :
    Calls Tryd.prog 7 #[.string s] w fun e w' => e = .returned (.bool (decide ((s.size : Int) > 65536))) ∧ Below w.heap.size w w' :=
  (laws_long.calls s _ w rfl).mono fun e w' ⟨h, hd⟩ => ⟨h, hd.below⟩
end Go.Proofs.YthpaplpnbklojaaDoor.Door
