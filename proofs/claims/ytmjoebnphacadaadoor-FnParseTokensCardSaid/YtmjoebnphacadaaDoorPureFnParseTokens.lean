/- The law FnParseTokens over plain values. -/
import Derived.Test.YtmjoebnphacadaaDoorTk
set_option linter.unusedVariables false
set_option linter.unusedSimpArgs false
namespace Go.Proofs.YtmjoebnphacadaaDoor.Pure
open Go.RowKit Go.Proofs.YtmjoebnphacadaaDoor.Q Go.Proofs.YtmjoebnphacadaaDoor.Lex Go.Proofs.YtmjoebnphacadaaDoorW.PrintWords Go.Proofs.YtmjoebnphacadaaDoorW.PrintLast
theorem j0_true (k : Nat) (a : ByteArray) : laws_FnParseTokens.j0 (k + 1) a true = some true := rfl
theorem pm_tokens (a : ByteArray) (h : (pmF a).2 = true) : (tokensR a (a.size + 1) 0 0).2 = true := by
  have h2 := congrArg Prod.snd (tokens_strm (s := a) (f := a.size + 1) (p := 0) (c := 0))
  dsimp only at h2
  rw [h2]
  unfold pmF at h
  cases hp : parseL a with
  | none => rw [hp] at h; exact nomatch h
  | some l =>
    rw [parseL_eq] at hp
    exact runT_end hp
theorem FnParseTokens : laws_FnParseTokens.Pure := by
  intro a ha
  refine Ev.rounds (g := fun k => laws_FnParseTokens.f k a) ?_
  unfold laws_FnParseTokens.f
  by_cases h1 : (a.size : Int) > 2147483647
  · exact ev_ite_pos h1 (Ev.now true)
  refine ev_ite_neg h1 ?_
  rw [one_ev]
  refine ev_bind_some (ev_ite_pos rfl ?_)
  unfold laws_long.f
  refine ev_bind_some ?_
  by_cases h2 : (a.size : Int) > 65536
  · rw [decide_eq_true h2]
    exact ev_ite_pos rfl (ev_succ (fun k => rfl))
  · rw [decide_eq_false h2]
    refine ev_ite_neg (by simp) ?_
    refine Ev.bind (has_ev a 126 (by omega)) ?_
    cases hasC a 126 with
    | true => exact ev_succ (fun k => rfl)
    | false =>
      refine ev_succ (fun k => ?_)
      show ((impl_ParseMatchers.f a).bind fun bt115 => ((impl_Tokens.f a).bind fun bt119 => (if bt119.2 = true then (some true) else (some (!bt115.2))))) = _
      unfold impl_ParseMatchers.f impl_Tokens.f
      rw [if_pos (by omega), if_pos (by omega), Option.bind_some, Option.bind_some]
      by_cases h3 : (tokensR a (a.size + 1) 0 0).2 = true
      · rw [if_pos h3]
      · rw [if_neg h3]
        cases h4 : (pmF a).2 with
        | true => exact absurd (pm_tokens a h4) h3
        | false => rfl
end Go.Proofs.YtmjoebnphacadaaDoor.Pure
