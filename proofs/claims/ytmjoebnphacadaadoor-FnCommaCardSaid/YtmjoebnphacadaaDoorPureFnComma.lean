/- The law FnComma over plain values. -/
import Derived.Test.YtmjoebnphacadaaDoorCm
import Derived.Test.YtmjoebnphacadaaDoorQx47
set_option linter.unusedVariables false
set_option linter.unusedSimpArgs false
namespace Go.Proofs.YtmjoebnphacadaaDoor.Pure
open Go.RowKit Go.Proofs.YtmjoebnphacadaaDoor.Q Go.Proofs.YtmjoebnphacadaaDoor.Lex Go.Proofs.YtmjoebnphacadaaDoorW.PrintWords Go.Proofs.YtmjoebnphacadaaDoorW.PrintLast
theorem tok_f {a : ByteArray} (h : a.size ≤ 1000000) : impl_Tokens.f a = some (tokensR a (a.size + 1) 0 0) := by
  unfold impl_Tokens.f
  rw [if_pos (by omega)]
theorem par_f {a : ByteArray} (h : a.size ≤ 1000000) : impl_ParseMatchers.f a = some (pmF a) := by
  unfold impl_ParseMatchers.f
  rw [if_pos h]
theorem bare_ev (a : ByteArray) (ha : a.size ≤ 2147483647) : ∃ (m : List S35) (t : List S27) (ok : Bool), Ev (fun k => laws_bare.f k a) (m, t, ok) ∧ (ok = true → a.size ≤ 5000 ∧ tokensR a (a.size + 1) 0 0 = (t, true) ∧ pmF a = (m, true) ∧ 0 < t.length ∧ (rd_T27 t 0).f0 ≠ 1) := by
  unfold laws_bare.f
  have jt : Ev (fun k => laws_bare.j0 k a true) (([] : List S35), ([] : List S27), false) := ev_succ (fun k => rfl)
  by_cases h1 : (a.size : Int) > 5000
  · exact ⟨_, _, _, ev_ite_pos h1 jt, fun h => absurd h (by decide)⟩
  have hev := has_ev a 126 ha
  cases hc : hasC a 126 with
  | true => exact ⟨_, _, _, ev_ite_neg h1 (Ev.bind hev (by rw [hc]; exact jt)), fun h => absurd h (by decide)⟩
  | false =>
    obtain ⟨T, hT⟩ : ∃ T, tokensR a (a.size + 1) 0 0 = T := ⟨_, rfl⟩
    obtain ⟨M, hM⟩ : ∃ M, pmF a = M := ⟨_, rfl⟩
    have key : ∀ (v : (List S35) × (List S27) × Bool), (if T.2 = true then (if M.2 = true then (if (T.1.length : Int) > 0 then (if (M.1.length : Int) > 0 then (if 0 < (T.1.length : Int) then (some (M.1, T.1, (((rd_T27 T.1 0).f0) != 1))) else (none)) else (some (M.1, T.1, false))) else (some (M.1, T.1, false))) else (some (M.1, T.1, false))) else (some (M.1, T.1, false))) = some v → Ev (fun k => if (a.size : Int) > 5000 then (laws_bare.j0 k a true) else ((laws_has.f k a 126).bind fun t178 => (laws_bare.j0 k a t178))) v := by
      intro v hv
      rw [hc] at hev
      refine ev_ite_neg h1 (Ev.bind hev (ev_succ (fun k => ?_)))
      refine Eq.trans ?_ hv
      show ((impl_Tokens.f a).bind fun bt179 => ((impl_ParseMatchers.f a).bind fun bt183 => _)) = _
      rw [tok_f (by omega), par_f (by omega), Option.bind_some, Option.bind_some, hT, hM]
    by_cases c1 : T.2 = true
    · by_cases c2 : M.2 = true
      · by_cases c3 : (T.1.length : Int) > 0
        · by_cases c4 : (M.1.length : Int) > 0
          · refine ⟨M.1, T.1, _, key _ (by rw [if_pos c1, if_pos c2, if_pos c3, if_pos c4, if_pos c3]), fun h => ⟨by omega, ?_, ?_, by omega, ?_⟩⟩
            · rw [hT]; exact Prod.ext rfl c1
            · rw [hM]; exact Prod.ext rfl c2
            · intro he
              rw [he] at h
              exact absurd h (by decide)
          · exact ⟨M.1, T.1, false, key _ (by rw [if_pos c1, if_pos c2, if_pos c3, if_neg c4]), fun h => absurd h (by decide)⟩
        · exact ⟨M.1, T.1, false, key _ (by rw [if_pos c1, if_pos c2, if_neg c3]), fun h => absurd h (by decide)⟩
      · exact ⟨M.1, T.1, false, key _ (by rw [if_pos c1, if_neg c2]), fun h => absurd h (by decide)⟩
    · exact ⟨M.1, T.1, false, key _ (by rw [if_neg c1]), fun h => absurd h (by decide)⟩
theorem rd27_nat (t : List S27) (i : Nat) (h : i < t.length) : rd_T27 t (i : Int) = t[i] := by
  show t.getD (i : Int).toNat _ = _
  rw [Int.toNat_natCast, List.getD_eq_getElem?_getD, List.getElem?_eq_getElem h]
  rfl
theorem comma_pm {a : ByteArray} {t : List S27} {m : List S35} (hT : tokensR a (a.size + 1) 0 0 = (t, true)) (hM : pmF a = (m, true)) (h0 : 0 < t.length) (h1 : (rd_T27 t 0).f0 ≠ 1)
    (hl : ¬ (rd_T27 t ((t.length - 1 : Nat) : Int)).f0 = 3) : pmF (a ++ ⟨#[44]⟩) = (m, true) := by
  have hS : S0 a 0 0 = (t.map kt, true) := by
    have := tokens_strm (s := a) (f := a.size + 1) (p := 0) (c := 0)
    rw [hT] at this
    exact this.symm
  unfold pmF at hM ⊢
  cases hp : parseL a with
  | none => rw [hp] at hM; exact nomatch congrArg Prod.snd hM
  | some l =>
    rw [hp] at hM
    rw [parseL_eq, hS] at hp
    have h2 := comma_parse hp (by intro e; have := List.map_eq_nil_iff.1 e; subst this; exact absurd h0 (by simp)) (by
      intro x hx
      rw [List.head?_map] at hx
      have e0 : t.head? = some (t[0]) := by rw [List.head?_eq_getElem?, List.getElem?_eq_getElem h0]
      rw [e0] at hx
      obtain rfl := Option.some.inj hx
      have h1' : t[0].f0 ≠ 1 := by rw [← rd27_nat t 0 h0]; exact h1
      show t[0].f0.toNat ≠ 1
      omega) (by
      intro x hx
      rw [List.getLast?_map] at hx
      have e0 : t.getLast? = some (t[t.length - 1]) := by rw [List.getLast?_eq_getElem?, List.getElem?_eq_getElem (by omega)]
      rw [e0] at hx
      obtain rfl := Option.some.inj hx
      have hl' : ¬ t[t.length - 1].f0 = 3 := by rw [← rd27_nat t (t.length - 1) (by omega)]; exact hl
      show t[t.length - 1].f0.toNat ≠ 3
      omega)
    have h3 : parseL (a ++ ⟨#[44]⟩) = some l := by rw [parseL_eq, s0_comma hS]; exact h2
    rw [h3]
    exact hM
theorem pm_len {a : ByteArray} {m : List S35} {b : Bool} (ha : a.size ≤ 1000000) (h : pmF a = (m, b)) : m.length ≤ 2147483647 := by
  unfold pmF at h
  cases hp : parseL a with
  | none =>
    rw [hp] at h
    have e : [] = m := congrArg Prod.fst h
    rw [← e]
    simp
  | some l =>
    rw [hp] at h
    have := parseL_len hp
    have e : l.map ofMat = m := congrArg Prod.fst h
    rw [← e]
    simp only [List.length_map]
    omega
theorem FnComma : laws_FnComma.Pure := by
  intro a ha
  refine Ev.rounds (g := fun k => laws_FnComma.f k a) ?_
  unfold laws_FnComma.f
  by_cases h1 : (a.size : Int) > 2147483647
  · exact ev_ite_pos h1 (Ev.now true)
  refine ev_ite_neg h1 ?_
  rw [one_ev]
  refine ev_bind_some (ev_ite_pos rfl ?_)
  obtain ⟨m, t, ok, hb, hok⟩ := bare_ev a (by omega)
  refine Ev.bind hb ?_
  cases ok with
  | false => exact ev_ite_neg (by simp) (ev_succ (fun k => rfl))
  | true =>
    obtain ⟨g1, g2, g3, g4, g5⟩ := hok rfl
    have tl : t.length ≤ 5001 := by
      have hS := tokens_strm (s := a) (f := a.size + 1) (p := 0) (c := 0)
      have hl : (strm a (a.size + 1) 0 0).1.length ≤ a.size - 0 := strm_len ⟨by omega, by omega, by omega⟩
      rw [← hS, g2] at hl
      simp only [List.length_map] at hl
      omega
    have ew : wrap64 ((t.length : Int) - 1) = ((t.length - 1 : Nat) : Int) := by unfold wrap64; omega
    refine ev_ite_pos rfl ?_
    dsimp only
    rw [ew]
    refine ev_ite_pos (by omega) (ev_ite_pos (by omega) ?_)
    cases h3 : ((rd_T27 t ((t.length - 1 : Nat) : Int)).f0 == 3) with
    | true => exact ev_succ (fun k => rfl)
    | false =>
      refine Ev.step (f := fun k => if a.size + 1 ≤ 9223372036854775807 then ((impl_ParseMatchers.f (a ++ (⟨#[44]⟩ : ByteArray))).bind fun bt197 => (if bt197.2 = true then ((laws_eqMatchers.f k bt197.1 m).bind fun t201 => (some t201)) else (some false))) else (none)) (fun k => rfl) ?_
      refine ev_ite_pos (by omega) ?_
      rw [par_f (by rw [app_size]; show a.size + 1 ≤ _; omega), comma_pm g2 g3 g4 g5 (by simpa using h3)]
      refine ev_bind_some (ev_ite_pos rfl ?_)
      exact Ev.bind (eqm_self m (pm_len (by omega) g3)) (Ev.now true)
end Go.Proofs.YtmjoebnphacadaaDoor.Pure
