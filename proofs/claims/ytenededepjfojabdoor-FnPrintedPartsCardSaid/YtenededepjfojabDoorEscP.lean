/- A text with its quotes, backslashes and line feeds escaped: the program's way, over plain lists. -/
import Derived.Test.YtenededepjfojabDoorQx2
import Derived.Test.YtenededepjfojabDoorLib
import Derived.Test.YtenededepjfojabDoorQuo
import Derived.Test.YtenededepjfojabDoorMty
set_option linter.unusedVariables false
set_option linter.unusedSimpArgs false
namespace Go.Proofs.YtenededepjfojabDoor.Pure
open Go.RowKit Go.Proofs.YtenededepjfojabDoor.Q Go.Proofs.YtenededepjfojabDoor.Door Go.Proofs.YtenededepjfojabDoorW.PrintWords Go.Proofs.YtenededepjfojabDoorW.PrintLast
theorem take_all (s : ByteArray) : s.data.toList.take s.size = s.data.toList := List.take_of_length_le (Nat.le_refl _)
theorem drop_all (s : ByteArray) : s.data.toList.drop s.size = [] := List.drop_of_length_le (Nat.le_refl _)
theorem bt_nat {s : ByteArray} {i : Nat} (h : i < s.size) : bt s (i : Int) = ((s[i]'h).toNat : Int) := by simp [bt, h]
theorem escL_more (s : ByteArray) (i : Nat) (hi : i < s.size) : escL (s.data.toList.take (i + 1)) = escL (s.data.toList.take i) ++ qe s[i] := by
  have hll : i < s.data.toList.length := hi
  have hc : s.data.toList[i] = s[i] := rfl
  rw [List.take_succ_eq_append_getElem hll, escL_append, hc]
  simp [escL]
theorem u8_ne {c : UInt8} {n : Nat} (hn : n < 256) (h : ¬ c = UInt8.ofNat n) : ¬ (c.toNat : Int) = (n : Int) := fun e => h ((byteN hn).1 e)
theorem esc_ev (s : ByteArray) (hs : s.size ≤ 2147483647) : Ev (fun k => labels_openMetricsEscape.f k s) ⟨(escL s.data.toList).toArray⟩ := by
  unfold labels_openMetricsEscape.f
  have g := ev_up (L := fun k i => labels_openMetricsEscape.l0 k s (asInts (escL (s.data.toList.take i))) (i : Int)) (fun _ => (⟨(escL s.data.toList).toArray⟩ : ByteArray)) s.size (ev_succ fun k => by
      simp only [labels_openMetricsEscape.l0]
      rw [if_neg (by omega), take_all]
      exact congrArg some (Go.Lib.Lz.strOfNums_map _)) (fun i hi g => by
    refine Ev.step (fun k => ?_) g
    show labels_openMetricsEscape.l0 (k + 1) _ _ _ = _
    have hw := wrap_next hi (by unfold maxLen; omega)
    have hl := escL_len (s.data.toList.take i)
    have hl2 : (s.data.toList.take i).length ≤ i := List.length_take_le _ _
    have hl3 : (asInts (escL (s.data.toList.take i))).length = (escL (s.data.toList.take i)).length := List.length_map _
    simp only [labels_openMetricsEscape.l0]
    rw [bt_nat hi, hw, if_pos (by omega), if_pos (by omega), escL_more s i hi, asInts_append]
    generalize s[i] = c
    unfold qe
    by_cases h1 : c = 92
    · subst h1
      rw [if_pos (by decide), if_pos (by omega)]
      rfl
    rw [if_neg (show ¬ (c.toNat : Int) = 92 from u8_ne (n := 92) (by decide) h1)]
    by_cases h2 : c = 10
    · subst h2
      rw [if_pos (by decide), if_pos (by omega)]
      rfl
    rw [if_neg (show ¬ (c.toNat : Int) = 10 from u8_ne (n := 10) (by decide) h2)]
    by_cases h3 : c = 34
    · subst h3
      rw [if_pos (by decide), if_pos (by omega)]
      rfl
    rw [if_neg (show ¬ (c.toNat : Int) = 34 from u8_ne (n := 34) (by decide) h3), if_pos (by omega), if_neg (by simp [h1, h3]), if_neg h2]
    rfl) s.size 0 (by omega)
  exact g
theorem op_size (t : Nat) : (opText t).size ≤ 2 := by
  unfold opText
  split <;> decide
theorem ba_of_list {a b : ByteArray} (h : a.data.toList = b.data.toList) : a = b := ByteArray.ext (Array.toList_inj.1 h)
end Go.Proofs.YtenededepjfojabDoor.Pure
