/- A matcher's text: what the program writes and what the reference says, over plain lists. -/
import Derived.Test.YtpdfokdhnalfaaaDoorQx2
import Derived.Test.YtpdfokdhnalfaaaDoorQx2
import Derived.Test.YtpdfokdhnalfaaaDoorQx2
import Derived.Test.YtpdfokdhnalfaaaDoorQx3
import Derived.Test.YtpdfokdhnalfaaaDoorLib
import Derived.Test.YtpdfokdhnalfaaaDoorQuoR
set_option linter.unusedVariables false
set_option linter.unusedSimpArgs false
namespace Go.Proofs.YtpdfokdhnalfaaaDoor.Pure
open Go.RowKit Go.Proofs.YtpdfokdhnalfaaaDoor.Q Go.Proofs.YtpdfokdhnalfaaaDoor.Door Go.Proofs.YtpdfokdhnalfaaaDoorW.PrintWords Go.Proofs.YtpdfokdhnalfaaaDoorW.PrintLast
theorem take_all (s : ByteArray) : s.data.toList.take s.size = s.data.toList := List.take_of_length_le (Nat.le_refl _)
theorem drop_all (s : ByteArray) : s.data.toList.drop s.size = [] := List.drop_of_length_le (Nat.le_refl _)
theorem bt_nat {s : ByteArray} {i : Nat} (h : i < s.size) : bt s (i : Int) = ((s[i]'h).toNat : Int) := by simp [bt, h]
theorem escL_more (s : ByteArray) (i : Nat) (hi : i < s.size) : escL (s.data.toList.take (i + 1)) = escL (s.data.toList.take i) ++ qe s[i] := by
  have hll : i < s.data.toList.length := hi
  have hc : s.data.toList[i] = s[i] := rfl
  rw [List.take_succ_eq_append_getElem hll, escL_append, hc]
  simp [escL]
theorem u8_ne {c : UInt8} {n : Nat} (hn : n < 256) (h : ¬ c = UInt8.ofNat n) : ¬ (c.toNat : Int) = (n : Int) := fun e => h ((byteN hn).1 e)
theorem esc_ev (s : ByteArray) (hs : s.size ≤ 2147483647) : Ev (fun k => labels_openMetricsEscape.f k s) ⟨(escL s.data.toList).toArray⟩ := by
  unfold labels_openMetricsEscape.f
  have g := ev_up (L := fun k i => labels_openMetricsEscape.l0 k s (asInts (escL (s.data.toList.take i))) (i : Int)) (fun _ => (⟨(escL s.data.toList).toArray⟩ : ByteArray)) s.size (ev_succ fun k => by
      simp only [labels_openMetricsEscape.l0]
      rw [if_neg (by omega), take_all]
      exact congrArg some (Go.Lib.Lz.strOfNums_map _)) (fun i hi g => by
    refine Ev.step (fun k => ?_) g
    show labels_openMetricsEscape.l0 (k + 1) _ _ _ = _
    have hw := wrap_next hi (by unfold maxLen; omega)
    have hl := escL_len (s.data.toList.take i)
    have hl2 : (s.data.toList.take i).length ≤ i := List.length_take_le _ _
    have hl3 : (asInts (escL (s.data.toList.take i))).length = (escL (s.data.toList.take i)).length := List.length_map _
    simp only [labels_openMetricsEscape.l0]
    rw [bt_nat hi, hw, if_pos (by omega), if_pos (by omega), escL_more s i hi, asInts_append]
    generalize s[i] = c
    unfold qe
    by_cases h1 : c = 92
    · subst h1
      rw [if_pos (by decide), if_pos (by omega)]
      rfl
    rw [if_neg (show ¬ (c.toNat : Int) = 92 from u8_ne (n := 92) (by decide) h1)]
    by_cases h2 : c = 10
    · subst h2
      rw [if_pos (by decide), if_pos (by omega)]
      rfl
    rw [if_neg (show ¬ (c.toNat : Int) = 10 from u8_ne (n := 10) (by decide) h2)]
    by_cases h3 : c = 34
    · subst h3
      rw [if_pos (by decide), if_pos (by omega)]
      rfl
    rw [if_neg (show ¬ (c.toNat : Int) = 34 from u8_ne (n := 34) (by decide) h3), if_pos (by omega), if_neg (by simp [h1, h3]), if_neg h2]
    rfl) s.size 0 (by omega)
  exact g
/-- What the reference makes of a text that is put into quotes. -/
def quoR (l : List UInt8) (s : ByteArray) : ByteArray × Int := if l.all asc = true then (⟨(quoL s.data.toList).toArray⟩, 1) else (⟨#[]⟩, 2)
theorem quoted_ev (s : ByteArray) (hs : s.size ≤ 2147483647) : Ev (fun k => spec_Quoted.f k s) (quoR s.data.toList s) := by
  unfold spec_Quoted.f
  have g := ev_up (L := fun k i => spec_Quoted.l0 k s (asInts (34 :: escL (s.data.toList.take i))) (s.size : Int) (i : Int)) (fun i => quoR (s.data.toList.drop i) s) s.size (ev_succ fun k => by
      have hl := escL_len (s.data.toList.take s.size)
      have hl2 : (s.data.toList.take s.size).length ≤ s.size := List.length_take_le _ _
      have hl3 : (asInts (34 :: escL (s.data.toList.take s.size))).length = (escL (s.data.toList.take s.size)).length + 1 := List.length_map _
      simp only [spec_Quoted.l0]
      rw [if_neg (by omega), if_pos (by omega), take_all, drop_all]
      have e2 : asInts (34 :: escL s.data.toList) ++ [34] = (quoL s.data.toList).map fun b => (b.toNat : Int) := by simp [quoL, asInts]
      rw [e2]
      exact congrArg (fun q => some (q, (1 : Int))) (Go.Lib.Lz.strOfNums_map (quoL s.data.toList))) (fun i hi g => by
    have hw := wrap_next hi (by unfold maxLen; omega)
    have hll : i < s.data.toList.length := hi
    have hc : s.data.toList[i] = s[i] := rfl
    have hl := escL_len (s.data.toList.take i)
    have hl2 : (s.data.toList.take i).length ≤ i := List.length_take_le _ _
    have hl3 : (asInts (34 :: escL (s.data.toList.take i))).length = (escL (s.data.toList.take i)).length + 1 := List.length_map _
    have hm : asInts (34 :: escL (s.data.toList.take (i + 1))) = asInts (34 :: escL (s.data.toList.take i)) ++ asInts (qe s[i]) := by
      rw [escL_more s i hi, ← List.cons_append, asInts_append]
    have hR : quoR (s.data.toList.drop i) s = if asc s[i] = true then quoR (s.data.toList.drop (i + 1)) s else (⟨#[]⟩, 2) := by
      unfold quoR
      rw [List.drop_eq_getElem_cons hll, List.all_cons, hc]
      cases asc s[i] <;> simp
    rw [hR]
    rw [hm] at g
    generalize asInts (34 :: escL (s.data.toList.take i)) = x at *
    have hj : ∀ (fl : Bool), fl = decide (s[i] = 34 ∨ s[i] = 92) → Ev (fun k => spec_Quoted.j1 k s x (s[i].toNat : Int) (s.size : Int) (i : Int) fl) (if asc s[i] = true then quoR (s.data.toList.drop (i + 1)) s else (⟨#[]⟩, 2)) := by
      intro fl hfl
      generalize s[i] = c at *
      by_cases h0 : c = 34 ∨ c = 92
      · have e1 : asc c = true := by rcases h0 with rfl | rfl <;> rfl
        rw [if_pos e1]
        refine Ev.step (fun k => ?_) g
        show spec_Quoted.j1 (k + 1) _ _ _ _ _ _ = _
        simp only [spec_Quoted.j1]
        rw [hfl, decide_eq_true h0, if_pos rfl, Option.bind_some, if_pos (by simp; omega), hw]
        unfold qe
        rw [if_pos h0]
        rfl
      rw [decide_eq_false h0] at hfl
      by_cases h1 : c = 10
      · have e1 : asc c = true := by rw [h1]; rfl
        rw [if_pos e1]
        refine Ev.step (fun k => ?_) g
        show spec_Quoted.j1 (k + 1) _ _ _ _ _ _ = _
        simp only [spec_Quoted.j1]
        rw [hfl, if_neg (by simp), if_pos (by rw [h1]; rfl), Option.bind_some, if_pos (by simp; omega), hw]
        unfold qe
        rw [if_neg h0, if_pos h1]
        rfl
      have n10 : ¬ (c.toNat : Int) = 10 := u8_ne (n := 10) (by decide) h1
      by_cases h2 : (c.toNat : Int) < 32
      · have e1 : asc c = false := by
          unfold asc
          simp [h1]
          omega
        rw [e1]
        refine ev_succ fun k => ?_
        simp only [spec_Quoted.j1]
        rw [hfl, if_neg (by simp), if_neg n10, if_pos h2]
        rfl
      by_cases h3 : (c.toNat : Int) > 126
      · have e1 : asc c = false := by
          unfold asc
          simp [h1]
          omega
        rw [e1]
        refine ev_succ fun k => ?_
        simp only [spec_Quoted.j1]
        rw [hfl, if_neg (by simp), if_neg n10, if_neg h2, if_pos h3]
        rfl
      have e1 : asc c = true := by
        unfold asc
        simp [h1]
        omega
      rw [if_pos e1]
      refine Ev.step (fun k => ?_) g
      show spec_Quoted.j1 (k + 1) _ _ _ _ _ _ = _
      simp only [spec_Quoted.j1]
      rw [hfl, if_neg (by simp), if_neg n10, if_neg h2, if_neg h3, if_pos (by omega), hw]
      unfold qe
      rw [if_neg h0, if_neg h1]
      rfl
    by_cases h34 : (s[i].toNat : Int) = 34
    · refine Ev.step (fun k => ?_) (hj true (by rw [decide_eq_true (.inl ((byteN (n := 34) (by decide)).1 h34))]))
      show spec_Quoted.l0 (k + 1) _ _ _ _ = _
      simp only [spec_Quoted.l0]
      rw [bt_nat hi, if_pos (by omega), if_pos (by omega), if_pos (by omega), if_pos h34]
    · refine Ev.step (fun k => ?_) (hj ((s[i].toNat : Int) == 92) (by
        have n34 : ¬ s[i] = 34 := fun e => h34 ((byteN (n := 34) (by decide)).2 e)
        by_cases h92 : s[i] = 92
        · rw [decide_eq_true (.inr h92), h92]; rfl
        · rw [decide_eq_false (by simp [n34, h92])]
          simpa using u8_ne (n := 92) (by decide) h92))
      show spec_Quoted.l0 (k + 1) _ _ _ _ = _
      simp only [spec_Quoted.l0]
      rw [bt_nat hi, if_pos (by omega), if_pos (by omega), if_pos (by omega), if_neg h34]) s.size 0 (by omega)
  exact g
set_option maxRecDepth 100000 in
theorem res_all : ∀ n < 256, spec_reserved.f ((n : Nat) : Int) = some (rsv (UInt8.ofNat n)) := by decide +kernel
theorem res_some (c : UInt8) : spec_reserved.f (c.toNat : Int) = some (rsv c) := by
  have h := res_all c.toNat (UInt8.toNat_lt c)
  rwa [UInt8.ofNat_toNat] at h
theorem op_some (t : Nat) (ht : t < 4) : spec_Operator.f (t : Int) = some (opText t) := by
  have : t = 0 ∨ t = 1 ∨ t = 2 ∨ t = 3 := by omega
  rcases this with rfl | rfl | rfl | rfl <;> rfl
theorem op_size (t : Nat) : (opText t).size ≤ 2 := by
  unfold opText
  split <;> decide
def quoB (s : ByteArray) : ByteArray := ⟨(quoL s.data.toList).toArray⟩
theorem quoB_size (s : ByteArray) : (quoB s).size ≤ 2 * s.size + 2 := by
  have h := escL_len s.data.toList
  have e : (quoB s).size = (quoL s.data.toList).length := rfl
  have e2 : s.data.toList.length = s.size := rfl
  rw [e]
  unfold quoL
  simp only [List.length_cons, List.length_append, List.length_nil]
  omega
/-- What is written of a matcher of printing ASCII. -/
def pmB (t : Nat) (n v : ByteArray) : ByteArray := ((if n.data.toList.any rsv = true then quoB n else n) ++ opText t) ++ quoB v
def pmOk (t : Int) (n v : ByteArray) : Prop := n.data.toList.all asc = true ∧ v.data.toList.all asc = true ∧ n.data.toList ≠ [] ∧ 0 ≤ t ∧ t < 4
theorem pmB_size (t : Nat) (n v : ByteArray) : (pmB t n v).size ≤ 2 * n.size + 2 * v.size + 6 := by
  unfold pmB
  have h1 := quoB_size n
  have h2 := quoB_size v
  have h3 := op_size t
  rw [ByteArray.size_append, ByteArray.size_append]
  split <;> omega
theorem specPM_l0 (t : Nat) (ht : t < 4) (n v : ByteArray) (hn : n.size ≤ 2147483647) (hv : v.size ≤ 2147483647) : Ev (fun k => spec_PrintMatcher.l0 k (quoB v) (quoB n) true (n.size : Int) 0 (t : Int) n v) (pmB t n v, 1) := by
  have z1 := quoB_size n
  have z2 := quoB_size v
  have z3 := op_size t
  have g := ev_up (L := fun k i => spec_PrintMatcher.l0 k (quoB v) (quoB n) (!(n.data.toList.take i).any rsv) (n.size : Int) (i : Int) (t : Int) n v) (fun _ => (pmB t n v, (1 : Int))) n.size (ev_succ fun k => by
      simp only [spec_PrintMatcher.l0]
      rw [if_neg (by omega), take_all, op_some t ht, Option.bind_some, Option.bind_some, ByteArray.size_append, ByteArray.size_append]
      unfold pmB
      cases n.data.toList.any rsv with
      | true => rw [if_neg (by simp), if_pos (by omega), if_pos (by omega)]; rfl
      | false => rw [if_pos (by simp), if_pos (by omega), if_pos (by omega)]; rfl) (fun i hi g => by
    refine Ev.step (fun k => ?_) g
    show spec_PrintMatcher.l0 (k + 1) _ _ _ _ _ _ _ _ = _
    have hw := wrap_next hi (by unfold maxLen; omega)
    have hll : i < n.data.toList.length := hi
    have hc : n.data.toList[i] = n[i] := rfl
    simp only [spec_PrintMatcher.l0]
    rw [if_pos (by omega), if_pos (show (0 : Int) ≤ (i : Int) by omega), if_pos (show (i : Int) < (n.size : Int) by omega), hw, bt_nat hi, res_some, Option.bind_some, List.take_succ_eq_append_getElem hll, List.any_append, hc]
    cases (n.data.toList.take i).any rsv with
    | true => rw [if_neg (by simp)]; simp
    | false => rw [if_pos (by simp)]; simp) n.size 0 (by omega)
  exact g
theorem toList_nil (s : ByteArray) : s.toList = ([] : List UInt8) ↔ s.data.toList = [] := by rw [Go.Lib.toList_data]
theorem specPM_ev (t : Int) (n v : ByteArray) (hn : n.size ≤ 2147483647) (hv : v.size ≤ 2147483647) (hw : -9223372036854775808 ≤ t) : ∃ r, Ev (fun k => spec_PrintMatcher.f k t n v) r ∧ ((r.2 = 1 ∧ pmOk t n v ∧ r.1 = pmB t.toNat n v) ∨ (¬ r.2 = 1 ∧ ¬ pmOk t n v)) := by
  have hno : ∀ x y a b c, Ev (fun k => spec_PrintMatcher.j0 k x y true a b c) ((⟨#[]⟩ : ByteArray), (2 : Int)) := fun x y a b c => ev_succ fun k => by simp only [spec_PrintMatcher.j0]; rw [if_pos trivial]
  by_cases hok : pmOk t n v
  · obtain ⟨h1, h2, h3, h4, h5⟩ := id hok
    refine ⟨(pmB t.toNat n v, 1), ?_, .inl ⟨rfl, hok, rfl⟩⟩
    unfold spec_PrintMatcher.f
    refine Ev.bind (quoted_ev v hv) (Ev.bind (quoted_ev n hn) ?_)
    unfold quoR
    rw [if_pos h1, if_pos h2]
    have h3' : ¬ n.toList = ([] : List UInt8) := fun e => h3 ((toList_nil n).1 e)
    simp only [if_true, if_neg h3', if_neg (show ¬ t < 0 by omega), decide_eq_false (show ¬ t > 3 by omega)]
    obtain ⟨t, rfl⟩ : ∃ m : Nat, t = (m : Int) := ⟨t.toNat, by omega⟩
    refine Ev.step (fun k => ?_) (specPM_l0 t (by omega) n v hn hv)
    show spec_PrintMatcher.j0 (k + 1) _ _ _ _ _ _ = _
    simp only [spec_PrintMatcher.j0]
    rw [if_neg (by simp)]
    rfl
  · refine ⟨((⟨#[]⟩ : ByteArray), (2 : Int)), ?_, .inr ⟨by simp, hok⟩⟩
    unfold spec_PrintMatcher.f
    refine Ev.bind (quoted_ev v hv) (Ev.bind (quoted_ev n hn) ?_)
    unfold quoR
    by_cases h2 : v.data.toList.all asc = true
    · rw [if_pos h2]
      by_cases h1 : n.data.toList.all asc = true
      · rw [if_pos h1]
        simp only [if_true]
        by_cases h3 : n.toList = ([] : List UInt8)
        · simp only [if_pos h3]
          exact hno _ _ _ _ _
        simp only [if_neg h3]
        by_cases h4 : t < 0
        · simp only [if_pos h4]
          exact hno _ _ _ _ _
        simp only [if_neg h4]
        have h5 : t > 3 := by
          by_cases h : t > 3
          · exact h
          · exact absurd ⟨h1, h2, fun e => h3 ((toList_nil n).2 e), by omega, by omega⟩ hok
        simp only [decide_eq_true h5]
        exact hno _ _ _ _ _
      · rw [if_neg h1]
        simp only [if_true, if_neg (show ¬ (2 : Int) = 1 by decide)]
        exact hno _ _ _ _ _
    · rw [if_neg h2]
      simp only [if_neg (show ¬ (2 : Int) = 1 by decide)]
      exact hno _ _ _ _ _
theorem ba_of_list {a b : ByteArray} (h : a.data.toList = b.data.toList) : a = b := ByteArray.ext (Array.toList_inj.1 h)
/-- What the program writes of such a matcher. -/
theorem mtext_ev (t : Nat) (n v : ByteArray) (hn : n.size ≤ 2147483647) (hv : v.size ≤ 2147483647) (ht : t < 4) (h1 : n.data.toList.all asc = true) (h2 : v.data.toList.all asc = true) : Ev (fun k => mtext k (t : Int) n v) (pmB t n v) := by
  have s1 := quoteB_size n
  have s2 := quoteB_size v
  have hc : (0 : Int) ≤ (t : Int) ∧ (t : Int) < 4 ∧ n.size ≤ 2147483647 ∧ v.size ≤ 2147483647 ∧ (quoteB n).size ≤ 30000000000 ∧ (quoteB v).size ≤ 30000000000 := ⟨by omega, by omega, hn, hv, by omega, by omega⟩
  have e := escL_len v.data.toList
  have e2 : v.data.toList.length = v.size := rfl
  unfold mtext
  simp only [if_pos hc]
  rw [conB_asc n h1, quoteB_asc n h1, quoteB_asc v h2]
  unfold pmB
  cases hr : n.data.toList.any rsv with
  | true =>
    simp only [if_true]
    exact Ev.now _
  | false =>
    simp only [Bool.false_eq_true, if_false]
    refine Ev.bind (esc_ev v hv) ?_
    have hsz : (⟨(escL v.data.toList).toArray⟩ : ByteArray).size ≤ 30000000000 := by show (escL v.data.toList).length ≤ _; omega
    simp only [if_pos hsz]
    have e3 : n ++ opText (t : Int).toNat ++ ⟨#[34]⟩ ++ ⟨(escL v.data.toList).toArray⟩ ++ ⟨#[34]⟩ = n ++ opText t ++ quoB v := by
      apply ba_of_list
      simp [ByteArray.data_append, quoB, quoL, List.append_assoc]
    rw [e3]
    exact Ev.now _
end Go.Proofs.YtpdfokdhnalfaaaDoor.Pure
