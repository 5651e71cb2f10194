/- The law FnPrintedList over plain lists. -/
import Derived.Test.YtpdfokdhnalfaaaDoorQx6
import Derived.Test.YtpdfokdhnalfaaaDoorPMs
import Derived.Test.YtpdfokdhnalfaaaDoorFits3
set_option linter.unusedVariables false
set_option linter.unusedSimpArgs false
namespace Go.Proofs.YtpdfokdhnalfaaaDoor.Pure
open Go.RowKit Go.Proofs.YtpdfokdhnalfaaaDoor.Q Go.Proofs.YtpdfokdhnalfaaaDoor.Door Go.Proofs.YtpdfokdhnalfaaaDoorW.PrintWords Go.Proofs.YtpdfokdhnalfaaaDoorW.PrintLast
theorem fits4_le {x : S23} (h : fits4 x = true) : x.f1.size ≤ 2147483647 ∧ x.f2.size ≤ 2147483647 := by
  unfold fits4 at h
  split at h
  · cases h
  split at h
  · cases h
  · omega
theorem matchers_sz {l : List S23} (hw : ∀ y ∈ l, okS23 y) (h : l.all fits4 = true) : ∀ a ∈ l, smSz (toSM a) := fun a ha => ⟨(wf_i64 (hw a ha).1).1, fits4_le (List.all_eq_true.1 h a ha)⟩
theorem list_nil_toList : (listB []).toList = ([123, 125] : List UInt8) := by rw [Go.Lib.toList_data]; rfl
theorem wrap_small {x : Int} (h0 : -1000000000000 ≤ x) (h1 : x ≤ 1000000000000) : wrap64 x = x := by unfold wrap64; omega
theorem budget (n a b : Nat) (hn : n ≤ 20000) (ha : a ≤ 2147483647) (hb : b ≤ 2147483647) : wrap64 (20000 - (n : Int)) = 20000 - (n : Int) ∧ wrap64 (20000 - (n : Int) - (a : Int)) = 20000 - (n : Int) - (a : Int) ∧ wrap64 ((a : Int) + (b : Int)) = (a : Int) + (b : Int) ∧ wrap64 ((n : Int) + ((a : Int) + (b : Int))) = ((n + (a + b) : Nat) : Int) := by
  refine ⟨wrap_small (by omega) (by omega), wrap_small (by omega) (by omega), wrap_small (by omega) (by omega), ?_⟩
  rw [wrap_small (by omega) (by omega)]
  omega
theorem FnPrintedList : laws_FnPrintedList.Pure := by
  intro l ⟨hl, hw⟩
  refine Ev.rounds ?_
  unfold laws_FnPrintedList.f
  refine Ev.bind (zzFits3_ev l hl) ?_
  by_cases hb : (l.length : Int) > 2147483647
  · simp only [if_pos hb, Bool.false_eq_true, if_false]
    exact Ev.now _
  simp only [if_neg hb]
  cases hf : l.all fits4 with
  | false =>
    simp only [Bool.false_eq_true, if_false]
    exact Ev.now _
  | true =>
  have hsz := matchers_sz hw hf
  simp only [if_true]
  refine Ev.bind (implPMs_ev [] (by simp) (fun a ha => by cases ha) (fun a ha => by cases ha)) ?_
  rw [List.map_nil]
  simp only [if_pos list_nil_toList]
  by_cases h1 : (l.length : Int) > 1000
  · simp only [if_pos h1]
    exact Ev.now _
  simp only [if_neg h1]
  have hend : Ev (fun k => (laws_matchers.f k l).bind fun t182 => ((spec_PrintMatchers.f k t182).bind fun bt185 => (if bt185.2 = 1 then ((impl_PrintMatchers.f k l).bind fun t187 => (some (t187.toList == bt185.1.toList))) else (some true)))) true := by
    refine Ev.bind (matchers_ev l (by omega)) ?_
    obtain ⟨r, hr, hc⟩ := specPMs_ev (l.map toSM) (by rw [List.length_map]; omega) (fun a ha => by obtain ⟨b, hb, rfl⟩ := List.mem_map.1 ha; exact hsz b hb)
    refine Ev.bind hr ?_
    by_cases hq : r.2 = 1
    · obtain ⟨h2, h3⟩ := hc hq
      simp only [if_pos hq, h3]
      refine Ev.bind (implPMs_ev l (by omega) hsz (fun a ha => h2 _ (List.mem_map.2 ⟨a, ha, rfl⟩))) ?_
      simp only [beq_self_eq_true]
      exact Ev.now _
    · simp only [if_neg hq]
      exact Ev.now _
  have key : ∀ d (i n : Nat), i + d = l.length → n ≤ 20000 → Ev (fun k => laws_FnPrintedList.l0 k l (n : Int) l (l.length : Int) (i : Int)) true := by
    intro d
    induction d with
    | zero =>
      intro i n hi hn
      refine Ev.step (fun k => ?_) hend
      show laws_FnPrintedList.l0 (k + 1) _ _ _ _ _ = _
      simp only [laws_FnPrintedList.l0]
      rw [if_neg (by omega)]
    | succ d ih =>
      intro i n hi hn
      have hlt : i < l.length := by omega
      have er : rd_T23 l (i : Int) = l[i] := by
        show l.getD i z23 = _
        rw [List.getD_eq_getElem?_getD, List.getElem?_eq_getElem hlt]
        rfl
      have hs := hsz _ (List.getElem_mem hlt)
      have s1 : l[i].f1.size ≤ 2147483647 := hs.2.1
      have s2 : l[i].f2.size ≤ 2147483647 := hs.2.2
      have W := Aside0.mk (budget n _ _ hn s1 s2)
      have HW := Aside0.mk (wrap_next hlt hl)
      clear hend hs hsz
      by_cases c1 : (l[i].f1.size : Int) > 20000 - (n : Int)
      · refine ev_succ fun k => ?_
        simp only [laws_FnPrintedList.l0]
        rw [if_pos (by omega), if_pos (by omega), if_pos (by omega), er, W.out.1, if_pos c1]
      by_cases c2 : (l[i].f2.size : Int) > 20000 - (n : Int) - (l[i].f1.size : Int)
      · refine ev_succ fun k => ?_
        simp only [laws_FnPrintedList.l0]
        rw [if_pos (by omega), if_pos (by omega), if_pos (by omega), er, W.out.1, if_neg c1, W.out.2.1, if_pos c2]
      refine Ev.step (fun k => ?_) (ih (i + 1) (n + (l[i].f1.size + l[i].f2.size)) (by omega) (by omega))
      show laws_FnPrintedList.l0 (k + 1) _ _ _ _ _ = _
      simp only [laws_FnPrintedList.l0]
      rw [if_pos (by omega), if_pos (by omega), if_pos (by omega), er, W.out.1, if_neg c1, W.out.2.1, if_neg c2, W.out.2.2.1, W.out.2.2.2, HW.out]
  exact key l.length 0 0 (by omega) (by omega)
end Go.Proofs.YtpdfokdhnalfaaaDoor.Pure
