/- The law FnParseSound over plain values. -/
import Derived.Test.YtmjoebnphacadaaDoorSnd
import Derived.Test.YtmjoebnphacadaaDoorQx4
set_option linter.unusedVariables false
set_option linter.unusedSimpArgs false
namespace Go.Proofs.YtmjoebnphacadaaDoor.Pure
open Go.RowKit Go.Proofs.YtmjoebnphacadaaDoor.Q Go.Proofs.YtmjoebnphacadaaDoor.Lex Go.Proofs.YtmjoebnphacadaaDoorW.PrintWords Go.Proofs.YtmjoebnphacadaaDoorW.PrintLast
theorem rd35_mem {l : List S35} {i : Nat} (h : i < l.length) : rd_T35 l (i : Int) ∈ l := by
  have e : rd_T35 l (i : Int) = l[i] := by
    show l.getD (i : Int).toNat _ = _
    rw [Int.toNat_natCast, List.getD_eq_getElem?_getD, List.getElem?_eq_getElem h]
    rfl
  rw [e]
  exact List.getElem_mem h
theorem valid_f {a : ByteArray} (h : a.size ≤ 2147483647) : utf8_ValidString.f a = some (Lib.validD a.data.toList) := by
  unfold utf8_ValidString.f
  rw [if_pos h]
theorem sound_loop (a : ByteArray) (l : List S35) (ha : a.size ≤ 2147483647) (hl : l.length ≤ 2147483647)
    (h : ∀ m ∈ l, (m.f0 = 0 ∨ m.f0 = 1) ∧ m.f1.size ≤ 2147483647 ∧ m.f2.size ≤ 2147483647 ∧ (Lib.validD a.data.toList = true → Lib.validD m.f1.data.toList = true ∧ Lib.validD m.f2.data.toList = true)) :
    Ev (fun k => laws_FnParseSound.l0 k a l (l.length : Int) 0) true := by
  have g := ev_up (L := fun k i => laws_FnParseSound.l0 k a l (l.length : Int) (i : Int)) (fun _ => true) l.length (ev_succ (fun k => by
      simp only [laws_FnParseSound.l0]
      rw [if_neg (by omega)])) (fun i hi g => by
    refine Ev.step (f := fun k => laws_FnParseSound.l0 k a l (l.length : Int) ((i + 1 : Nat) : Int)) (fun k => ?_) g
    have ew : wrap64 ((i : Int) + 1) = ((i + 1 : Nat) : Int) := by unfold wrap64; omega
    obtain ⟨h0, h1, h2, h3⟩ := h _ (rd35_mem hi)
    simp only [laws_FnParseSound.l0]
    rw [if_pos (by omega), if_pos (by omega), if_pos (by omega), ew]
    have two : ∀ (X : Option Bool), (((utf8_ValidString.f a).bind fun t132 => (if t132 = true then ((utf8_ValidString.f ((rd_T35 l (i : Int)).f1)).bind fun t133 => (if t133 = true then ((utf8_ValidString.f ((rd_T35 l (i : Int)).f2)).bind fun t134 => (if t134 = true then X else (some false))) else (some false))) else X)) : Option Bool) = X := by
      intro X
      rw [valid_f ha, valid_f h1, valid_f h2, Option.bind_some]
      cases hv : Lib.validD a.data.toList with
      | false => rw [if_neg (by simp)]
      | true =>
        obtain ⟨k1, k2⟩ := h3 hv
        rw [if_pos rfl, k1, Option.bind_some, if_pos rfl, k2, Option.bind_some, if_pos rfl]
    by_cases hz : (rd_T35 l (i : Int)).f0 = 0
    · rw [if_pos hz]
      exact two _
    · rw [if_neg hz, if_pos (by omega)]
      exact two _) l.length 0 (by omega)
  exact g
theorem FnParseSound : laws_FnParseSound.Pure := by
  intro a ha
  refine Ev.rounds (g := fun k => laws_FnParseSound.f k a) ?_
  unfold laws_FnParseSound.f
  by_cases h1 : (a.size : Int) > 2147483647
  · exact ev_ite_pos h1 (Ev.now true)
  refine ev_ite_neg h1 ?_
  rw [one_ev]
  refine ev_bind_some (ev_ite_pos rfl ?_)
  unfold laws_long.f
  refine ev_bind_some ?_
  by_cases h2 : (a.size : Int) > 65536
  · rw [decide_eq_true h2]
    exact ev_ite_pos rfl (ev_succ (fun k => rfl))
  · rw [decide_eq_false h2]
    refine ev_ite_neg (by simp) ?_
    refine Ev.bind (has_ev a 126 (by omega)) ?_
    cases hc : hasC a 126 with
    | true => exact ev_succ (fun k => rfl)
    | false =>
      refine Ev.step (f := fun k => (impl_ParseMatchers.f a).bind fun bt126 => (if bt126.2 = true then (laws_FnParseSound.l0 k a bt126.1 (bt126.1.length : Int) 0) else (some ((bt126.1.length : Int) == 0)))) (fun k => rfl) ?_
      have e1 : impl_ParseMatchers.f a = some (pmF a) := by
        unfold impl_ParseMatchers.f
        rw [if_pos (by omega)]
      rw [e1]
      refine ev_bind_some ?_
      unfold pmF
      cases hp : parseL a with
      | none => exact ev_ite_neg (by simp) (Ev.now true)
      | some l =>
        refine ev_ite_pos rfl ?_
        refine sound_loop a _ (by omega) ?_ ?_
        · rw [List.length_map]
          have := parseL_len hp
          omega
        · intro m hm
          obtain ⟨x, hx, rfl⟩ := List.mem_map.1 hm
          have := parse_sound hc hp x hx
          exact ⟨this.1, by have := this.2.1; show x.f1.size ≤ _; omega, by have := this.2.2.1; show x.f2.size ≤ _; omega, this.2.2.2⟩
end Go.Proofs.YtmjoebnphacadaaDoor.Pure
