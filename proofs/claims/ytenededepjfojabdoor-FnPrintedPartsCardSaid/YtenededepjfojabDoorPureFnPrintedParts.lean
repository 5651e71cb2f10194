/- The law FnPrintedParts over plain lists. -/
import Derived.Test.YtenededepjfojabDoorQx4
import Derived.Test.YtenededepjfojabDoorQx3
import Derived.Test.YtenededepjfojabDoorPAny
import Derived.Test.YtenededepjfojabDoorFits3
set_option linter.unusedVariables false
set_option linter.unusedSimpArgs false
namespace Go.Proofs.YtenededepjfojabDoor.Pure
open Go.RowKit Go.Proofs.YtenededepjfojabDoor.Q Go.Proofs.YtenededepjfojabDoor.Door Go.Proofs.YtenededepjfojabDoorW.PrintWords Go.Proofs.YtenededepjfojabDoorW.PrintLast
def jn (l : List ByteArray) : List UInt8 := Go.Lib.join (l.map (·.data.toList)) [44]
def jnB (l : List ByteArray) : ByteArray := ⟨(jn l).toArray⟩
theorem jn_ev (l : List ByteArray) (hl : l.length ≤ 1000) (hb : (jn l).length ≤ 50000000001000) : Ev (fun k => laws_joined.f k l (⟨#[44]⟩ : ByteArray)) (jnB l) := by
  have hlt : ∀ i, i ≤ l.length → (jn (l.take i)).length ≤ 50000000001000 := fun i hi => by
    have := join_take_len (l.map (·.data.toList)) [44] (l.length - i) i (by rw [List.length_map]; omega)
    unfold jn
    rw [List.map_take]
    exact Nat.le_trans this hb
  unfold laws_joined.f
  have g := ev_up (L := fun k i => laws_joined.l0 k (⟨#[44]⟩ : ByteArray) (jnB (l.take i)) l (l.length : Int) (i : Int)) (fun _ => jnB l) l.length (ev_succ fun k => by
      simp only [laws_joined.l0]
      rw [if_neg (by omega), List.take_of_length_le (Nat.le_refl _)]) (fun i hi g => by
    refine Ev.step (fun k => ?_) g
    show laws_joined.l0 (k + 1) _ _ _ _ _ = _
    have hw := wrap_next hi (by unfold maxLen; omega)
    have e0 : rdOf ByteArray.empty l (i : Int) = l[i] := by simp [rdOf, hi]
    have hj := join_take (l.map (·.data.toList)) [44] i l[i].data.toList (by simp [hi])
    have hj' : jn (l.take (i + 1)) = if i = 0 then l[i].data.toList else jn (l.take i) ++ [44] ++ l[i].data.toList := by
      unfold jn
      rw [List.map_take, List.map_take]
      exact hj
    have b1 := hlt i (by omega)
    have b2 := hlt (i + 1) (by omega)
    have z1 : (jnB (l.take i)).size = (jn (l.take i)).length := rfl
    have z2 : (⟨#[44]⟩ : ByteArray).size = 1 := rfl
    have z3 : l[i].data.toList.length = l[i].size := rfl
    simp only [laws_joined.l0]
    rw [e0]
    by_cases h0 : i = 0
    · rw [if_pos h0] at hj'
      rw [hj'] at b2
      have e1 : jn (l.take i) = [] := by rw [h0, List.take_zero]; rfl
      rw [e1, List.length_nil] at z1
      rw [if_pos (by omega), if_pos (by omega), if_pos (by omega), if_neg (by omega), if_pos (by omega), hw]
      congr 1
      apply ba_of_list
      rw [ByteArray.data_append]
      show (Array.toList _) = jn (l.take (i + 1))
      rw [hj']
      simp [jnB, e1]
    · rw [if_neg h0] at hj'
      rw [hj', List.length_append, List.length_append] at b2
      rw [if_pos (by omega), if_pos (by omega), if_pos (by omega), if_pos (by omega), if_pos (by omega), if_pos (by rw [ByteArray.size_append]; omega), hw]
      congr 1
      apply ba_of_list
      rw [ByteArray.data_append, ByteArray.data_append]
      show (Array.toList _) = jn (l.take (i + 1))
      rw [hj']
      simp [jnB]) l.length 0 (by omega)
  exact g
theorem fits4_le {x : S26} (h : fits4 x = true) : x.f1.size ≤ 2147483647 ∧ x.f2.size ≤ 2147483647 := by
  unfold fits4 at h
  split at h
  · cases h
  split at h
  · cases h
  · omega
theorem list_nil_toList : (⟨(123 :: Go.Lib.join (imL []) [44] ++ [125]).toArray⟩ : ByteArray).toList = ([123, 125] : List UInt8) := by rw [Go.Lib.toList_data]; rfl
theorem FnPrintedParts : laws_FnPrintedParts.Pure := by
  intro l ⟨hl, hw⟩
  refine Ev.rounds ?_
  unfold laws_FnPrintedParts.f
  refine Ev.bind (zzFits3_ev l hl) ?_
  by_cases hb : (l.length : Int) > 2147483647
  · simp only [if_pos hb, Bool.false_eq_true, if_false]
    exact Ev.now _
  simp only [if_neg hb]
  cases hf : l.all fits4 with
  | false =>
    simp only [Bool.false_eq_true, if_false]
    exact Ev.now _
  | true =>
  have hsz : ∀ a ∈ l, a.f1.size ≤ 2147483647 ∧ a.f2.size ≤ 2147483647 := fun a ha => fits4_le (List.all_eq_true.1 hf a ha)
  simp only [if_true]
  by_cases h1 : (l.length : Int) > 1000
  · simp only [if_pos h1]
    exact Ev.now _
  simp only [if_neg h1]
  have hl1 : l.length ≤ 1000 := by omega
  have key : ∀ d i, i + d = l.length → (∀ a ∈ l.take i, 0 ≤ a.f0 ∧ a.f0 ≤ 1) → Ev (fun k => laws_FnPrintedParts.l0 k l ((l.take i).map imT) l (l.length : Int) (i : Int)) true := by
    intro d
    induction d with
    | zero =>
      intro i hi hok
      obtain rfl : i = l.length := by omega
      rw [List.take_of_length_le (Nat.le_refl _)] at hok ⊢
      have hall : ∀ a ∈ l, imOk a := fun a ha => ⟨(hok a ha).1, by have := (hok a ha).2; omega, (hsz a ha).1, (hsz a ha).2⟩
      have hJ := imL_le hl1 hall
      have ej : jn (l.map imT) = Go.Lib.join (imL l) [44] := by unfold jn imL; rw [List.map_map]; rfl
      refine Ev.step (fun k => by
        show laws_FnPrintedParts.l0 (k + 1) _ _ _ _ _ = _
        simp only [laws_FnPrintedParts.l0]
        rw [if_neg (by omega)]) (Ev.bind (imPs_ev l hl1 hall) (Ev.bind (jn_ev (l.map imT) (by rw [List.length_map]; exact hl1) (by rw [ej]; exact hJ)) ?_))
      have z1 : (jnB (l.map imT)).size = (jn (l.map imT)).length := rfl
      have z2 : (⟨#[123]⟩ : ByteArray).size = 1 := rfl
      rw [ej] at z1
      rw [if_pos (by omega), if_pos (by rw [ByteArray.size_append]; omega)]
      have e : (⟨(123 :: Go.Lib.join (imL l) [44] ++ [125]).toArray⟩ : ByteArray) = ((⟨#[123]⟩ : ByteArray) ++ jnB (l.map imT)) ++ (⟨#[125]⟩ : ByteArray) := by
        apply ba_of_list
        rw [← ej]
        simp [ByteArray.data_append, jnB]
      rw [e]
      simp only [beq_self_eq_true]
      exact Ev.now _
    | succ d ih =>
      intro i hi hok
      have hlt : i < l.length := by omega
      have er : rd_T26 l (i : Int) = l[i] := by
        show l.getD i z26 = _
        rw [List.getD_eq_getElem?_getD, List.getElem?_eq_getElem hlt]
        rfl
      have hnil : ∀ x3 a b c, Ev (fun k => laws_FnPrintedParts.j1 k l x3 l (l.length : Int) (i : Int) true a b c) true := fun x3 a b c => by
        refine Ev.step (fun k => by
          show laws_FnPrintedParts.j1 (k + 1) _ _ _ _ _ _ _ _ _ = _
          simp only [laws_FnPrintedParts.j1, if_true]
          rfl) (Ev.bind (imPs_ev [] (by simp) (fun a ha => by cases ha)) ?_)
        rw [list_nil_toList]
        simp only [beq_self_eq_true]
        exact Ev.now _
      by_cases c0 : l[i].f0 < 0
      · refine Ev.step (fun k => by
          show laws_FnPrintedParts.l0 (k + 1) _ _ _ _ _ = _
          simp only [laws_FnPrintedParts.l0]
          rw [if_pos (by omega), if_pos (by omega), if_pos (by omega), er, if_pos c0]) (hnil _ _ _ _)
      refine Ev.step (fun k => by
          show laws_FnPrintedParts.l0 (k + 1) _ _ _ _ _ = _
          simp only [laws_FnPrintedParts.l0]
          rw [if_pos (by omega), if_pos (by omega), if_pos (by omega), er, if_neg c0]) (?_ : Ev (fun k => laws_FnPrintedParts.j1 k l ((l.take i).map imT) l (l.length : Int) (i : Int) (decide (l[i].f0 > 1)) l[i].f0 l[i].f1 l[i].f2) true)
      by_cases c1 : l[i].f0 > 1
      · rw [decide_eq_true c1]
        exact hnil _ _ _ _
      rw [decide_eq_false c1]
      have hs := hsz _ (List.getElem_mem hlt)
      have hI : imOk l[i] := ⟨by omega, by omega, hs.1, hs.2⟩
      have hnext := ih (i + 1) (by omega) (fun a ha => by
        rw [List.take_succ_eq_append_getElem hlt] at ha
        rcases List.mem_append.1 ha with ha | ha
        · exact hok a ha
        · rw [List.mem_singleton.1 ha]
          omega)
      rw [List.take_succ_eq_append_getElem hlt, List.map_append] at hnext
      have hw := wrap_next hlt hl
      refine Ev.step (fun k => by
        show laws_FnPrintedParts.j1 (k + 1) _ _ _ _ _ _ _ _ _ = _
        simp only [laws_FnPrintedParts.j1, Bool.false_eq_true, if_false]
        rfl) (Ev.bind (f := fun k t141 => (if ((l.take i).map imT).length < 8796093022208 then (laws_FnPrintedParts.l0 k l (((l.take i).map imT) ++ [t141]) l (l.length : Int) (wrap64 ((i : Int) + 1))) else (none))) (imT_ev l[i] hI) ?_)
      simp only [if_pos (show ((l.take i).map imT).length < 8796093022208 by rw [List.length_map, List.length_take]; omega), hw]
      exact hnext
  exact key l.length 0 (by omega) (fun a ha => by simp at ha)
end Go.Proofs.YtenededepjfojabDoor.Pure
