/- A text that is put into quotes: the reference's way, over plain lists. -/
import Derived.Test.YtenededepjfojaaDoorQx9
import Derived.Test.YtenededepjfojaaDoorLib
import Derived.Test.YtenededepjfojaaDoorQuo
set_option linter.unusedVariables false
set_option linter.unusedSimpArgs false
namespace Go.Proofs.YtenededepjfojaaDoor.Pure
open Go.RowKit Go.Proofs.YtenededepjfojaaDoor.Q Go.Proofs.YtenededepjfojaaDoor.Door Go.Proofs.YtenededepjfojaaDoorW.PrintWords Go.Proofs.YtenededepjfojaaDoorW.PrintLast
theorem take_all (s : ByteArray) : s.data.toList.take s.size = s.data.toList := List.take_of_length_le (Nat.le_refl _)
theorem drop_all (s : ByteArray) : s.data.toList.drop s.size = [] := List.drop_of_length_le (Nat.le_refl _)
theorem bt_nat {s : ByteArray} {i : Nat} (h : i < s.size) : bt s (i : Int) = ((s[i]'h).toNat : Int) := by simp [bt, h]
theorem escL_more (s : ByteArray) (i : Nat) (hi : i < s.size) : escL (s.data.toList.take (i + 1)) = escL (s.data.toList.take i) ++ qe s[i] := by
  have hll : i < s.data.toList.length := hi
  have hc : s.data.toList[i] = s[i] := rfl
  rw [List.take_succ_eq_append_getElem hll, escL_append, hc]
  simp [escL]
theorem u8_ne {c : UInt8} {n : Nat} (hn : n < 256) (h : ¬ c = UInt8.ofNat n) : ¬ (c.toNat : Int) = (n : Int) := fun e => h ((byteN hn).1 e)
/-- What the reference makes of a text that is put into quotes. -/
def quoR (l : List UInt8) (s : ByteArray) : ByteArray × Int := if l.all asc = true then (⟨(quoL s.data.toList).toArray⟩, 1) else (⟨#[]⟩, 2)
theorem quoted_ev (s : ByteArray) (hs : s.size ≤ 2147483647) : Ev (fun k => spec_Quoted.f k s) (quoR s.data.toList s) := by
  unfold spec_Quoted.f
  have g := ev_up (L := fun k i => spec_Quoted.l0 k s (asInts (34 :: escL (s.data.toList.take i))) (s.size : Int) (i : Int)) (fun i => quoR (s.data.toList.drop i) s) s.size (ev_succ fun k => by
      have hl := escL_len (s.data.toList.take s.size)
      have hl2 : (s.data.toList.take s.size).length ≤ s.size := List.length_take_le _ _
      have hl3 : (asInts (34 :: escL (s.data.toList.take s.size))).length = (escL (s.data.toList.take s.size)).length + 1 := List.length_map _
      simp only [spec_Quoted.l0]
      rw [if_neg (by omega), if_pos (by omega), take_all, drop_all]
      have e2 : asInts (34 :: escL s.data.toList) ++ [34] = (quoL s.data.toList).map fun b => (b.toNat : Int) := by simp [quoL, asInts]
      rw [e2]
      exact congrArg (fun q => some (q, (1 : Int))) (Go.Lib.Lz.strOfNums_map (quoL s.data.toList))) (fun i hi g => by
    have hw := wrap_next hi (by unfold maxLen; omega)
    have hll : i < s.data.toList.length := hi
    have hc : s.data.toList[i] = s[i] := rfl
    have hl := escL_len (s.data.toList.take i)
    have hl2 : (s.data.toList.take i).length ≤ i := List.length_take_le _ _
    have hl3 : (asInts (34 :: escL (s.data.toList.take i))).length = (escL (s.data.toList.take i)).length + 1 := List.length_map _
    have hm : asInts (34 :: escL (s.data.toList.take (i + 1))) = asInts (34 :: escL (s.data.toList.take i)) ++ asInts (qe s[i]) := by
      rw [escL_more s i hi, ← List.cons_append, asInts_append]
    have hR : quoR (s.data.toList.drop i) s = if asc s[i] = true then quoR (s.data.toList.drop (i + 1)) s else (⟨#[]⟩, 2) := by
      unfold quoR
      rw [List.drop_eq_getElem_cons hll, List.all_cons, hc]
      cases asc s[i] <;> simp
    rw [hR]
    rw [hm] at g
    generalize asInts (34 :: escL (s.data.toList.take i)) = x at *
    have hj : ∀ (fl : Bool), fl = decide (s[i] = 34 ∨ s[i] = 92) → Ev (fun k => spec_Quoted.j1 k s x (s[i].toNat : Int) (s.size : Int) (i : Int) fl) (if asc s[i] = true then quoR (s.data.toList.drop (i + 1)) s else (⟨#[]⟩, 2)) := by
      intro fl hfl
      generalize s[i] = c at *
      by_cases h0 : c = 34 ∨ c = 92
      · have e1 : asc c = true := by rcases h0 with rfl | rfl <;> rfl
        rw [if_pos e1]
        refine Ev.step (fun k => ?_) g
        show spec_Quoted.j1 (k + 1) _ _ _ _ _ _ = _
        simp only [spec_Quoted.j1]
        rw [hfl, decide_eq_true h0, if_pos rfl, Option.bind_some, if_pos (by simp; omega), hw]
        unfold qe
        rw [if_pos h0]
        rfl
      rw [decide_eq_false h0] at hfl
      by_cases h1 : c = 10
      · have e1 : asc c = true := by rw [h1]; rfl
        rw [if_pos e1]
        refine Ev.step (fun k => ?_) g
        show spec_Quoted.j1 (k + 1) _ _ _ _ _ _ = _
        simp only [spec_Quoted.j1]
        rw [hfl, if_neg (by simp), if_pos (by rw [h1]; rfl), Option.bind_some, if_pos (by simp; omega), hw]
        unfold qe
        rw [if_neg h0, if_pos h1]
        rfl
      have n10 : ¬ (c.toNat : Int) = 10 := u8_ne (n := 10) (by decide) h1
      by_cases h2 : (c.toNat : Int) < 32
      · have e1 : asc c = false := by
          unfold asc
          simp [h1]
          omega
        rw [e1]
        refine ev_succ fun k => ?_
        simp only [spec_Quoted.j1]
        rw [hfl, if_neg (by simp), if_neg n10, if_pos h2]
        rfl
      by_cases h3 : (c.toNat : Int) > 126
      · have e1 : asc c = false := by
          unfold asc
          simp [h1]
          omega
        rw [e1]
        refine ev_succ fun k => ?_
        simp only [spec_Quoted.j1]
        rw [hfl, if_neg (by simp), if_neg n10, if_neg h2, if_pos h3]
        rfl
      have e1 : asc c = true := by
        unfold asc
        simp [h1]
        omega
      rw [if_pos e1]
      refine Ev.step (fun k => ?_) g
      show spec_Quoted.j1 (k + 1) _ _ _ _ _ _ = _
      simp only [spec_Quoted.j1]
      rw [hfl, if_neg (by simp), if_neg n10, if_neg h2, if_neg h3, if_pos (by omega), hw]
      unfold qe
      rw [if_neg h0, if_neg h1]
      rfl
    by_cases h34 : (s[i].toNat : Int) = 34
    · refine Ev.step (fun k => ?_) (hj true (by rw [decide_eq_true (.inl ((byteN (n := 34) (by decide)).1 h34))]))
      show spec_Quoted.l0 (k + 1) _ _ _ _ = _
      simp only [spec_Quoted.l0]
      rw [bt_nat hi, if_pos (by omega), if_pos (by omega), if_pos (by omega), if_pos h34]
    · refine Ev.step (fun k => ?_) (hj ((s[i].toNat : Int) == 92) (by
        have n34 : ¬ s[i] = 34 := fun e => h34 ((byteN (n := 34) (by decide)).2 e)
        by_cases h92 : s[i] = 92
        · rw [decide_eq_true (.inr h92), h92]; rfl
        · rw [decide_eq_false (by simp [n34, h92])]
          simpa using u8_ne (n := 92) (by decide) h92))
      show spec_Quoted.l0 (k + 1) _ _ _ _ = _
      simp only [spec_Quoted.l0]
      rw [bt_nat hi, if_pos (by omega), if_pos (by omega), if_pos (by omega), if_neg h34]) s.size 0 (by omega)
  exact g
end Go.Proofs.YtenededepjfojaaDoor.Pure
