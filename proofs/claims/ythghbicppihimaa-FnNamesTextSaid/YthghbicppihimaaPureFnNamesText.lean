/- The law FnNamesText over plain lists. -/
import Derived.Test.YthghbicppihimaaQx2
import Derived.Test.YthghbicppihimaaQx1
import Derived.Test.YthghbicppihimaaJoinsC
set_option linter.unusedVariables false
set_option linter.unusedSimpArgs false
namespace Go.Proofs.Ythghbicppihimaa.Pure
open Go.RowKit Go.Proofs.Ythghbicppihimaa.Q Go.Proofs.YthghbicppihimaaW.PrintWords Go.Proofs.YthghbicppihimaaW.PrintLast
theorem namesText_ev (l : List ByteArray) (h1 : l.length ≤ 10000) (h2 : l.length * commaB.size + sizes l ≤ 262144) : Ev (fun k => impl_NamesText.f k l) (joined l commaB) := by
  unfold impl_NamesText.f
  refine Ev.bind (labelNames_ev l (by omega)) ?_
  have e : model_LabelNames_String.f l = some (joined l commaB) := by
    unfold model_LabelNames_String.f strings_Join.f
    rw [if_pos (by omega), if_pos ⟨by omega, by have := join_len l commaB; exact Nat.le_trans this (by omega)⟩]
  rw [e]
  exact Ev.now _
theorem FnNamesText : laws_FnNamesText.Pure := by
  intro l ⟨hl, hx⟩
  refine Ev.rounds ?_
  have done0 : Ev (fun k => laws_FnNamesText.j0 k l true) true := ev_succ (fun k => by simp only [laws_FnNamesText.j0]; rfl)
  unfold laws_FnNamesText.f
  obtain ⟨b, hb⟩ := zzFits6_ev l hl
  refine Ev.bind hb ?_
  cases b
  · simp only [Bool.false_eq_true, if_false]
    exact Ev.now _
  simp only [if_true]
  by_cases h0 : (l.length : Int) > 1000
  · simp only [if_pos h0]
    exact done0
  simp only [if_neg h0]
  obtain ⟨b, hb, hR⟩ := slight_ev l commaB hl hx
  refine Ev.bind hb ?_
  cases b
  · exact done0
  obtain ⟨h1, h2⟩ := hR rfl
  have e5 : (joined [(⟨#[97]⟩ : ByteArray), (⟨#[98]⟩ : ByteArray)] commaB).toList == ([97, 44, 32, 98] : List UInt8) := by
    have e : joined [(⟨#[97]⟩ : ByteArray), (⟨#[98]⟩ : ByteArray)] commaB = ⟨#[97, 44, 32, 98]⟩ := by decide +kernel
    rw [e]
    first | decide +kernel | (rw [Lib.toList_data]; rfl)
  refine Ev.step (f := fun k => (impl_NamesText.f k l).bind fun t114 => ((laws_joined.f k l commaB).bind fun t115 => (if t114.toList = t115.toList then ((impl_NamesText.f k (([(⟨#[97]⟩ : ByteArray), (⟨#[98]⟩ : ByteArray)] : List ByteArray))).bind fun t119 => (some (t119.toList == ([97, 44, 32, 98] : List UInt8)))) else (some false)))) (fun k => by simp only [laws_FnNamesText.j0, Bool.not_true, Bool.false_eq_true, if_false]; rfl) ?_
  refine Ev.bind (namesText_ev l h1 h2) (Ev.bind (lawsJoined_ev l commaB hl (by omega)) ?_)
  simp only [if_true]
  refine Ev.bind (namesText_ev [(⟨#[97]⟩ : ByteArray), (⟨#[98]⟩ : ByteArray)] (by simp) (by decide +kernel)) ?_
  rw [e5]
  exact Ev.now _
end Go.Proofs.Ythghbicppihimaa.Pure
