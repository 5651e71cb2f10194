/- Labels of letters, digits, underscores and blanks; names of the old kind: over plain texts. -/
import Derived.Test.YtenededepjfojaaDoorQx3
import Derived.Test.YtenededepjfojaaDoorQx2
import Derived.Test.YtenededepjfojaaDoorLib
import Derived.Test.YtenededepjfojaaDoorQuo
import Derived.Test.YtenededepjfojaaDoorFits1
set_option linter.unusedVariables false
set_option linter.unusedSimpArgs false
namespace Go.Proofs.YtenededepjfojaaDoor.Pure
open Go.RowKit Go.Proofs.YtenededepjfojaaDoor.Q Go.Proofs.YtenededepjfojaaDoorW.PrintWords Go.Proofs.YtenededepjfojaaDoorW.PrintLast
theorem bt_natS {s : ByteArray} {i : Nat} (h : i < s.size) : bt s (i : Int) = ((s[i]'h).toNat : Int) := by simp [bt, h]
def smpZ (c : Int) : Bool := decide ((97 ≤ c ∧ c ≤ 122) ∨ (65 ≤ c ∧ c ≤ 90) ∨ (48 ≤ c ∧ c ≤ 57) ∨ c = 95 ∨ c = 32)
theorem smp_tree (c : Int) (A B : Option Bool) : (if c < 97 then (if c < 65 then (if c < 48 then (if c = 95 then A else (if c = 32 then A else B)) else (if c > 57 then (if c = 95 then A else (if c = 32 then A else B)) else A)) else (if c > 90 then (if c < 48 then (if c = 95 then A else (if c = 32 then A else B)) else (if c > 57 then (if c = 95 then A else (if c = 32 then A else B)) else A)) else A)) else (if c > 122 then (if c < 65 then (if c < 48 then (if c = 95 then A else (if c = 32 then A else B)) else (if c > 57 then (if c = 95 then A else (if c = 32 then A else B)) else A)) else (if c > 90 then (if c < 48 then (if c = 95 then A else (if c = 32 then A else B)) else (if c > 57 then (if c = 95 then A else (if c = 32 then A else B)) else A)) else A)) else A)) = if smpZ c = true then A else B := by
  unfold smpZ
  repeat' split
  all_goals first
    | rfl
    | (exfalso; simp only [decide_eq_true_eq] at *; omega)
def legZ (b : Bool) (i c : Int) : Bool := decide ((97 ≤ c ∧ c ≤ 122) ∨ (65 ≤ c ∧ c ≤ 90) ∨ c = 95 ∨ (c = 58 ∧ b = true) ∨ (0 < i ∧ 48 ≤ c ∧ c ≤ 57))
set_option maxHeartbeats 4000000 in
theorem leg_tree (b : Bool) (i c : Int) (A B : Option Bool) : (if c ≥ 97 then (if c ≤ 122 then A else (if c ≥ 65 then (if c ≤ 90 then A else (if c = 95 then A else (if c = 58 then (if b = true then A else (if i > 0 then (if c ≥ 48 then (if c ≤ 57 then A else B) else B) else B)) else (if i > 0 then (if c ≥ 48 then (if c ≤ 57 then A else B) else B) else B)))) else (if c = 95 then A else (if c = 58 then (if b = true then A else (if i > 0 then (if c ≥ 48 then (if c ≤ 57 then A else B) else B) else B)) else (if i > 0 then (if c ≥ 48 then (if c ≤ 57 then A else B) else B) else B))))) else (if c ≥ 65 then (if c ≤ 90 then A else (if c = 95 then A else (if c = 58 then (if b = true then A else (if i > 0 then (if c ≥ 48 then (if c ≤ 57 then A else B) else B) else B)) else (if i > 0 then (if c ≥ 48 then (if c ≤ 57 then A else B) else B) else B)))) else (if c = 95 then A else (if c = 58 then (if b = true then A else (if i > 0 then (if c ≥ 48 then (if c ≤ 57 then A else B) else B) else B)) else (if i > 0 then (if c ≥ 48 then (if c ≤ 57 then A else B) else B) else B))))) = if legZ b i c = true then A else B := by
  cases b
  all_goals
    simp only [legZ, if_true, Bool.false_eq_true, if_false, and_true, and_false, false_or]
    repeat' split
    all_goals first
      | rfl
      | (exfalso; simp only [decide_eq_true_eq] at *; omega)
theorem legacy_ev (s : ByteArray) (b : Bool) (hs : s.size ≤ 2147483647) : ∃ r, Ev (fun k => laws_legacy.f k s b) r := by
  have key : ∀ d i, i + d = s.size → ∃ r, Ev (fun k => laws_legacy.l0 k s b (i : Int)) r := by
    intro d
    induction d with
    | zero =>
      intro i hi
      refine ⟨s.toList != ([] : List UInt8), ev_succ fun k => ?_⟩
      simp only [laws_legacy.l0]
      rw [if_neg (by omega)]
    | succ d ih =>
      intro i hi
      have hlt : i < s.size := by omega
      have hw := wrap_next hlt (by unfold maxLen; omega)
      obtain ⟨r, hr⟩ := ih (i + 1) (by omega)
      cases hq : legZ b (i : Int) (bt s (i : Int)) with
      | true =>
        refine ⟨r, Ev.step (fun k => ?_) hr⟩
        show laws_legacy.l0 (k + 1) _ _ _ = _
        simp only [laws_legacy.l0]
        rw [if_pos (by omega), if_pos (by omega), hw]
        exact (leg_tree b (i : Int) (bt s (i : Int)) (laws_legacy.l0 k s b ((i + 1 : Nat) : Int)) (some false)).trans (if_pos hq)
      | false =>
        refine ⟨false, ev_succ fun k => ?_⟩
        simp only [laws_legacy.l0]
        rw [if_pos (by omega), if_pos (by omega), hw]
        exact (leg_tree b (i : Int) (bt s (i : Int)) (laws_legacy.l0 k s b ((i + 1 : Nat) : Int)) (some false)).trans (if_neg (by rw [hq]; simp))
  exact key s.size 0 (by omega)
def smpB (s : ByteArray) : Bool := s.data.toList.all fun c => smpZ (c.toNat : Int)
theorem smp_l2 (x0 : List S26) (s : ByteArray) (hs : s.size ≤ 2147483647) (x9 : List S26) (x10 x11 : Int) (x19 : List ByteArray) (x20 : Int) (j : Nat) (hj : j ≤ 10) (p q : ByteArray) (R : Bool)
    (h : smpB s = true → Ev (fun k => laws_simpleLabels.l1 k x0 x9 x10 x11 x19 x20 ((j + 1 : Nat) : Int) p q) R) (h2 : smpB s = false → R = false) : Ev (fun k => laws_simpleLabels.l2 k x0 s 0 x9 x10 x11 x19 x20 (j : Int) p q) R := by
  have hjw : wrap64 ((j : Int) + 1) = ((j + 1 : Nat) : Int) := by unfold wrap64; omega
  have key : ∀ d i, i + d = s.size → ((s.data.toList.drop i).all (fun c => smpZ (c.toNat : Int)) = true → Ev (fun k => laws_simpleLabels.l1 k x0 x9 x10 x11 x19 x20 ((j + 1 : Nat) : Int) p q) R) → ((s.data.toList.drop i).all (fun c => smpZ (c.toNat : Int)) = false → R = false) →
      Ev (fun k => laws_simpleLabels.l2 k x0 s (i : Int) x9 x10 x11 x19 x20 (j : Int) p q) R := by
    intro d
    induction d with
    | zero =>
      intro i hi h _
      refine Ev.step (fun k => ?_) (h (by rw [List.drop_of_length_le (by have : s.data.toList.length = s.size := rfl; omega)]; rfl))
      show laws_simpleLabels.l2 (k + 1) _ _ _ _ _ _ _ _ _ _ _ = _
      simp only [laws_simpleLabels.l2]
      rw [if_neg (by omega), hjw]
    | succ d ih =>
      intro i hi h h2
      have hlt : i < s.size := by omega
      have hll : i < s.data.toList.length := hlt
      have hc : s.data.toList[i] = s[i] := rfl
      have hw := wrap_next hlt (by unfold maxLen; omega)
      rw [List.drop_eq_getElem_cons hll, List.all_cons, hc] at h h2
      cases hq : smpZ (s[i].toNat : Int) with
      | true =>
        rw [hq, Bool.true_and] at h h2
        refine Ev.step (fun k => ?_) (ih (i + 1) (by omega) h h2)
        show laws_simpleLabels.l2 (k + 1) _ _ _ _ _ _ _ _ _ _ _ = _
        simp only [laws_simpleLabels.l2]
        rw [if_pos (by omega), if_pos (by omega), hw, bt_natS hlt]
        exact (smp_tree (s[i].toNat : Int) (laws_simpleLabels.l2 k x0 s ((i + 1 : Nat) : Int) x9 x10 x11 x19 x20 (j : Int) p q) (some false)).trans (if_pos hq)
      | false =>
        have hR := h2 (by rw [hq, Bool.false_and])
        subst hR
        refine ev_succ fun k => ?_
        simp only [laws_simpleLabels.l2]
        rw [if_pos (by omega), if_pos (by omega), hw, bt_natS hlt]
        exact (smp_tree (s[i].toNat : Int) (laws_simpleLabels.l2 k x0 s ((i + 1 : Nat) : Int) x9 x10 x11 x19 x20 (j : Int) p q) (some false)).trans (if_neg (by rw [hq]; simp))
  exact key s.size 0 (by omega) (by rw [List.drop_zero]; exact h) (by rw [List.drop_zero]; exact h2)
theorem simple_ev (l : List S26) (hl : l.length ≤ 2147483647) (hs : ∀ p ∈ l, p.f0.size ≤ 2147483647 ∧ p.f1.size ≤ 2147483647) : ∃ r, Ev (fun k => laws_simpleLabels.f k l) r ∧ (r = true → l.length ≤ 300 ∧ ∀ p ∈ l, smpB p.f0 = true ∧ smpB p.f1 = true) := by
  have key : ∀ d i, i + d = l.length → ∃ r, Ev (fun k => laws_simpleLabels.l0 k l l (l.length : Int) (i : Int)) r ∧ (r = true → l.length ≤ 300 ∧ ∀ p ∈ l.drop i, smpB p.f0 = true ∧ smpB p.f1 = true) := by
    intro d
    induction d with
    | zero =>
      intro i hi
      refine ⟨decide ((l.length : Int) ≤ 300), ev_succ fun k => ?_, fun h => ⟨by have := of_decide_eq_true h; omega, fun p hp => ?_⟩⟩
      · simp only [laws_simpleLabels.l0]
        rw [if_neg (by omega)]
      · rw [List.drop_of_length_le (by omega)] at hp
        cases hp
    | succ d ih =>
      intro i hi
      have hlt : i < l.length := by omega
      have hw := wrap_next hlt (by unfold maxLen; omega)
      have er : rd_T26 l (i : Int) = l[i] := by
        show l.getD i z26 = _
        rw [List.getD_eq_getElem?_getD, List.getElem?_eq_getElem hlt]
        rfl
      obtain ⟨r, hr, hc⟩ := ih (i + 1) (by omega)
      obtain ⟨z1, z2⟩ := hs _ (List.getElem_mem hlt)
      obtain ⟨b, hb⟩ := legacy_ev l[i].f0 false z1
      have hd : l.drop i = l[i] :: l.drop (i + 1) := List.drop_eq_getElem_cons hlt
      have L := fun k (j : Int) => laws_simpleLabels.l1 k l l (l.length : Int) (i : Int) [l[i].f0, l[i].f1] (2 : Int) j l[i].f0 l[i].f1
      obtain ⟨R, hR⟩ : ∃ R, (smpB l[i].f0 && smpB l[i].f1 && (b && r)) = R := ⟨_, rfl⟩
      have h2 : smpB l[i].f0 = true → smpB l[i].f1 = true → Ev (fun k => laws_simpleLabels.l1 k l l (l.length : Int) (i : Int) [l[i].f0, l[i].f1] (2 : Int) ((2 : Nat) : Int) l[i].f0 l[i].f1) R := by
        intro q1 q2
        refine Ev.step (fun k => by
          show laws_simpleLabels.l1 (k + 1) _ _ _ _ _ _ _ _ _ = _
          simp only [laws_simpleLabels.l1]
          rw [if_neg (by decide)]) (Ev.bind hb ?_)
        rw [q1, q2, Bool.true_and, Bool.true_and] at hR
        cases b with
        | true =>
          rw [Bool.true_and] at hR
          subst hR
          simp only [if_true, hw]
          exact hr
        | false =>
          rw [Bool.false_and] at hR
          subst hR
          simp only [Bool.false_eq_true, if_false]
          exact Ev.now _
      have h1 : smpB l[i].f0 = true → Ev (fun k => laws_simpleLabels.l1 k l l (l.length : Int) (i : Int) [l[i].f0, l[i].f1] (2 : Int) ((1 : Nat) : Int) l[i].f0 l[i].f1) R := by
        intro q1
        refine Ev.step (fun k => ?_) (smp_l2 l l[i].f1 z2 l (l.length : Int) (i : Int) [l[i].f0, l[i].f1] (2 : Int) 1 (by omega) l[i].f0 l[i].f1 R (h2 q1) (fun q2 => by rw [← hR, q2]; simp))
        show laws_simpleLabels.l1 (k + 1) _ _ _ _ _ _ _ _ _ = _
        simp only [laws_simpleLabels.l1]
        rw [if_pos (by decide), if_pos (by decide), if_pos (by simp)]
        rfl
      have h0 : Ev (fun k => laws_simpleLabels.l1 k l l (l.length : Int) (i : Int) [l[i].f0, l[i].f1] (2 : Int) ((0 : Nat) : Int) l[i].f0 l[i].f1) R := by
        refine Ev.step (fun k => ?_) (smp_l2 l l[i].f0 z1 l (l.length : Int) (i : Int) [l[i].f0, l[i].f1] (2 : Int) 0 (by omega) l[i].f0 l[i].f1 R h1 (fun q1 => by rw [← hR, q1]; simp))
        show laws_simpleLabels.l1 (k + 1) _ _ _ _ _ _ _ _ _ = _
        simp only [laws_simpleLabels.l1]
        rw [if_pos (by decide), if_pos (by decide), if_pos (by simp)]
        rfl
      refine ⟨R, Ev.step (fun k => ?_) h0, fun hq => ?_⟩
      · show laws_simpleLabels.l0 (k + 1) _ _ _ _ = _
        simp only [laws_simpleLabels.l0]
        rw [if_pos (by omega), if_pos (by omega), if_pos (by omega), er]
        rfl
      · rw [hq] at hR
        simp only [Bool.and_eq_true] at hR
        obtain ⟨⟨q1, q2⟩, _, q4⟩ := hR
        obtain ⟨g1, g2⟩ := hc q4
        refine ⟨g1, fun p hp => ?_⟩
        rw [hd] at hp
        rcases List.mem_cons.1 hp with rfl | hp
        · exact ⟨q1, q2⟩
        · exact g2 p hp
  obtain ⟨r, hr, hc⟩ := key l.length 0 (by omega)
  exact ⟨r, hr, fun h => by have := hc h; rwa [List.drop_zero] at this⟩
theorem smp_one (c : UInt8) (h : smpZ (c.toNat : Int) = true) : asc c = true ∧ qe c = [c] := by
  unfold smpZ at h
  have h := of_decide_eq_true h
  have n34 : ¬ c = 34 := fun e => by subst e; revert h; decide
  have n92 : ¬ c = 92 := fun e => by subst e; revert h; decide
  have n10 : ¬ c = 10 := fun e => by subst e; revert h; decide
  constructor
  · unfold asc
    rw [Bool.or_eq_true, Bool.and_eq_true, decide_eq_true_eq, decide_eq_true_eq, decide_eq_true_eq]
    omega
  · unfold qe
    rw [if_neg (by simp [n34, n92]), if_neg n10]
theorem smp_list : ∀ (l : List UInt8), (l.all fun c => smpZ (c.toNat : Int)) = true → l.all asc = true ∧ escL l = l
  | [], _ => ⟨rfl, rfl⟩
  | c :: r, h => by
    rw [List.all_cons, Bool.and_eq_true] at h
    obtain ⟨h1, h2⟩ := smp_list r h.2
    obtain ⟨g1, g2⟩ := smp_one c h.1
    refine ⟨by rw [List.all_cons, g1, h1]; rfl, ?_⟩
    rw [escL, g2, h2]
    rfl
end Go.Proofs.YtenededepjfojaaDoor.Pure
