/- The walk of notify.TruncateInBytes (of texts with characters enough, to four bytes and more). -/
import Derived.Test.YthpaplpnbklojaaDoorTrunc
import Derived.LoopTactic
namespace Go.Proofs.YthpaplpnbklojaaDoor.Door
open Go.RowKit Go.Shelf Go.Lib Go.Proofs.YthpaplpnbklojaaDoor.Q Go.Proofs.YthpaplpnbklojaaDoor.Pure Go.Proofs.YthpaplpnbklojaaDoorW.PrintWords Go.Proofs.YthpaplpnbklojaaDoorW.PrintLast
set_option linter.unusedVariables false
set_option linter.unusedSimpArgs false
def sliceLen : Value → Nat
  | .slice _ l _ => l
  | _ => 0
def TBPost (s : ByteArray) (n : Int) (e : Ending) : Prop := ∃ t c, e = .returned (.tuple #[.string t, .bool c]) ∧ (t = s ∨ ∃ j : Nat, (j : Int) ≤ n ∧ t = runesBytes ((rns s.size s.data.toList).take j) ++ ⟨#[226, 128, 166]⟩)
theorem notify_TruncateInBytes (s : ByteArray) (n : Int) (w : World) (hs : s.size ≤ 2147483647) (h0 : 4 ≤ n) (h1 : n ≤ 1048576) (hm : n - 3 ≤ (count s.data.toList : Int)) :
    Calls Tryd.prog 13 #[.string s, .int .i64 n] w fun e w' =>
      TBPost s n e ∧ Below w.heap.size w w' := by
  obtain ⟨R, hR⟩ : ∃ R, Conv.runesFrom s s.size 0 #[] = R := ⟨_, rfl⟩
  obtain ⟨Z, hZ⟩ : ∃ Z, rns s.size s.data.toList = Z := ⟨_, rfl⟩
  have hRl : R.toList = Z.map (Value.int .i32) := by rw [← hR, ← hZ]; exact runes_list s
  have hZl : Z.length = count s.data.toList := by rw [← hZ]; exact runes_count s
  have hc : count s.data.toList ≤ s.size := by rw [← size_length]; exact count_le _ _ (Nat.le_refl _)
  have hRs : R.size = count s.data.toList := by rw [← Array.length_toList, hRl, List.length_map, hZl]
  have h46 : (Conv.runesFrom s s.size 0 #[]).size ≤ 70368744177664 := by rw [hR, hRs]; omega
  obtain ⟨C, hC⟩ : ∃ C, grownCap w R.size 0 21 = C := ⟨_, rfl⟩
  have hNC : count s.data.toList ≤ C := by rw [← hC, ← hRs]; exact grownCap_ge _ _ _ _
  have hcell : ∀ j, j < Z.length → ((w.drew).alloc (.cells (R ++ Array.replicate (C - R.size) (.int .i32 0)) 21)).cell? ((⟨w.heap.size, 0, none⟩ : Addr).add j) = some (.int .i32 (Z.getD j 0)) := fun j hj => by
    have e : (⟨w.heap.size, 0, none⟩ : Addr).add j = ⟨w.drew.heap.size, j, none⟩ := add_plain _ _
    rw [e, World.cell?_alloc_new, Array.getElem?_append_left (by omega), ← Array.getElem?_toList, hRl, List.getElem?_map, List.getElem?_eq_getElem hj, List.getD_eq_getElem?_getD, List.getElem?_eq_getElem hj]
    rfl
  have hB : Below w.heap.size w ((w.drew).alloc (.cells (R ++ Array.replicate (C - R.size) (.int .i32 0)) 21)) := below_alloc (Below.refl _ _).drew _
  generalize count s.data.toList = N at *
  have HC := Aside0.mk hcell
  have HB := Aside0.mk hB
  clear hcell hB
  by_cases hA : (s.size : Int) ≤ n
  · have d := decide_eq_true hA
    go_enter Tryd.func13, Tryd.ntmps13
    go_wp2
    go_ret2
    exact ⟨⟨s, false, rfl, .inl rfl⟩, Below.refl _ _⟩
  have d := decide_eq_false hA
  have d3 : decide (n ≤ 3) = false := decide_eq_false (by omega)
  have hw : wrap64 (n - 3) = n - 3 := by unfold wrap64; omega
  have hsmall : ∀ j : Nat, (j : Int) ≤ n → (runesBytes (List.take j Z)).size ≤ 9000000 := fun j hj => by
    have h1 := runesBytes_size_le (List.take j Z)
    have h2 : (List.take j Z).length ≤ j := by rw [List.length_take]; exact Nat.min_le_left _ _
    omega
  have HSm := Aside0.mk hsmall
  clear hsmall
  go_enter Tryd.func13, Tryd.ntmps13
  go_wp2_with (first | (rw [run_runes_of_string (P := Tryd.prog) _ _ _ _ _ Tryd.underlying9 Tryd.underlying34 Tryd.underlying21 h46, hR, hC]; skip))
  generalize hW : (w.alloc (Obj.cells (R ++ Array.replicate (C - N) (Value.int IntKind.i32 0)) 21)).drew = W0
  have HC2 := Aside0.mk (show ∀ j, j < Z.length → W0.cell? ((⟨w.heap.size, 0, none⟩ : Addr).add j) = some (.int .i32 (Z.getD j 0)) by rw [← hW, ← hRs]; exact HC.out)
  have HB2 := Aside0.mk (show Below w.heap.size w W0 by rw [← hW, ← hRs]; exact HB.out)
  clear HC HB hW
  have hm3 : (n - 3).toNat ≤ Z.length := by omega
  go_loopw [8] (fun v8 wr => ∃ j : Nat, (j : Int) ≤ n - 3 ∧ v8 = .slice (some ⟨w.heap.size, 0, none⟩) j C ∧ wr = W0) (fun v8 _ => sliceLen v8)
  case atStart => exact ⟨(n - 3).toNat, by omega, rfl, rfl⟩
  case round =>
    obtain ⟨j, hj, rfl, rfl⟩ := hrel
    have hz := HSm.out j (by omega)
    have hjZ : j ≤ Z.length := by omega
    by_cases hg : ((runesBytes (List.take j Z)).size : Int) > n - 3
    · have dg := decide_eq_true hg
      cases j with
      | zero => exfalso; have : (runesBytes (List.take 0 Z)).size = 0 := rfl; omega
      | succ j =>
        go_wp2_with (first | (rw [run_convert_runes (P := Tryd.prog) (zs := Z) _ _ _ _ _ _ _ (by omega) Tryd.underlying34 Tryd.underlying21 Tryd.underlying9 HC2.out]; skip))
        go_roundw
        case rel => exact ⟨j, by omega, rfl, trivial⟩
        case measure => exact Nat.lt_succ_self j
    · have dg := decide_eq_false hg
      go_wp2_with (first | (rw [run_convert_runes (P := Tryd.prog) (zs := Z) _ _ _ _ _ _ _ (by omega) Tryd.underlying34 Tryd.underlying21 Tryd.underlying9 HC2.out]; skip))
      go_ret2
      exact ⟨⟨_, true, rfl, .inr ⟨j, by omega, by rw [hZ]⟩⟩, HB2.out⟩
end Go.Proofs.YthpaplpnbklojaaDoor.Door
