/- The law FnJoined over plain lists. -/
import Derived.Test.YtbffhefeepmpcaaQx21
import Derived.Test.YtbffhefeepmpcaaJoins
set_option linter.unusedVariables false
set_option linter.unusedSimpArgs false
namespace Go.Proofs.Ytbffhefeepmpcaa.Pure
open Go.RowKit Go.Proofs.Ytbffhefeepmpcaa.Q Go.Proofs.YtbffhefeepmpcaaW.PrintWords Go.Proofs.YtbffhefeepmpcaaW.PrintLast
theorem zzFits6_ev (l : List ByteArray) (hl : l.length ≤ maxLen) : ∃ b, Ev (fun k => laws_zzFits6.f k l) b := by
  unfold laws_zzFits6.f
  by_cases h : (l.length : Int) > 2147483647
  · exact ⟨false, by simp only [if_pos h]; exact Ev.now _⟩
  · refine ⟨l.all fun x => !decide ((x.size : Int) > 2147483647), ?_⟩
    simp only [if_neg h]
    refine ev_all l ByteArray.empty (fun x => !decide ((x.size : Int) > 2147483647)) (L := fun k i => laws_zzFits6.l0 k l (l.length : Int) i) (fun k => ?_) (fun i hi b hb => ?_)
    · simp only [laws_zzFits6.l0]
      rw [if_neg (by omega)]
    · by_cases hz : ((l.getD i ByteArray.empty).size : Int) > 2147483647
      · simp only [decide_eq_true hz, Bool.not_true, Bool.false_eq_true, if_false]
        refine ev_succ fun k => ?_
        show laws_zzFits6.l0 (k + 1) l (l.length : Int) (i : Int) = _
        simp only [laws_zzFits6.l0]
        rw [if_pos (by omega), if_pos (by omega), if_pos (by omega)]
        exact if_pos hz
      · simp only [decide_eq_false hz, Bool.not_false, if_true]
        refine Ev.step (fun k => ?_) hb
        show laws_zzFits6.l0 (k + 1) l (l.length : Int) (i : Int) = _
        simp only [laws_zzFits6.l0]
        rw [if_pos (by omega), if_pos (by omega), if_pos (by omega), wrap_next hi hl]
        exact if_neg hz
theorem implJoined_eq (l : List ByteArray) (s : ByteArray) (h1 : l.length ≤ 10000) (h2 : l.length * s.size + sizes l ≤ 262144) : impl_Joined.f l s = some (joined l s) := by
  unfold impl_Joined.f
  rw [if_pos ⟨by omega, by have := join_len l s; exact Nat.le_trans this (by omega)⟩]
theorem FnJoined : laws_FnJoined.Pure := by
  intro l s ⟨hl, hx⟩ hs
  refine Ev.rounds ?_
  have done0 : Ev (fun k => laws_FnJoined.j0 k l s true) true := ev_succ (fun k => by simp only [laws_FnJoined.j0]; rfl)
  unfold laws_FnJoined.f
  obtain ⟨b, hb⟩ := zzFits6_ev l hl
  refine Ev.bind hb ?_
  cases b
  · simpa only [Bool.false_eq_true, if_false] using done0
  simp only [if_true]
  by_cases h0 : (s.size : Int) > 2147483647
  · rw [decide_eq_true h0]
    exact done0
  rw [decide_eq_false h0]
  have e0 : impl_Joined.f [(⟨#[97]⟩ : ByteArray), (⟨#[98]⟩ : ByteArray)] (⟨#[45]⟩ : ByteArray) = some (⟨#[97, 45, 98]⟩ : ByteArray) := by decide +kernel
  have e5 : ((⟨#[97, 45, 98]⟩ : ByteArray).toList == ([97, 45, 98] : List UInt8)) = true := by first | decide +kernel | (rw [Lib.toList_data]; rfl)
  obtain ⟨b, hb, hR⟩ := slight_ev l s hl hx
  refine Ev.step (f := fun k => (laws_slight.f k l s).bind fun t358 => (if t358 = true then ((impl_Joined.f l s).bind fun t359 => ((spec_Joined.f k l s).bind fun t360 => (if t359.toList = t360.toList then some true else (some false)))) else (some true))) (fun k => ?_) ?_
  · simp only [laws_FnJoined.j0, Bool.false_eq_true, if_false, e0, Option.bind_some, e5]
  refine Ev.bind hb ?_
  cases b
  · simp only [Bool.false_eq_true, if_false]
    exact Ev.now _
  obtain ⟨h1, h2⟩ := hR rfl
  simp only [if_true, implJoined_eq l s h1 h2, Option.bind_some]
  refine Ev.bind (specJoined_ev l s hl (by omega)) ?_
  simp only [if_true]
  exact Ev.now _
end Go.Proofs.Ytbffhefeepmpcaa.Pure
