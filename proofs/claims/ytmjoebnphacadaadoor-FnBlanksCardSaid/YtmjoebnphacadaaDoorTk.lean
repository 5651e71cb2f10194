/- impl.Tokens and the stream; laws.one, laws.has evaluated. -/
import Derived.Test.YtmjoebnphacadaaDoorMc
import Derived.Test.YtmjoebnphacadaaDoorLib
import Derived.Test.YtmjoebnphacadaaDoorQx33
import Derived.Test.YtmjoebnphacadaaDoorQx32
import Derived.Test.YtmjoebnphacadaaDoorQx25
namespace Go.Proofs.YtmjoebnphacadaaDoor.Lex
open Go.RowKit Go.Lib Go.Proofs.YtmjoebnphacadaaDoor.Pure Go.Proofs.YtmjoebnphacadaaDoor.Q Go.Proofs.YtmjoebnphacadaaDoorW.PrintWords Go.Proofs.YtmjoebnphacadaaDoorW.PrintLast
set_option linter.unusedVariables false
set_option linter.unusedSimpArgs false
theorem one_parse : parseL ⟨#[123, 97, 61, 34, 98, 34, 125]⟩ = some [⟨0, ⟨#[97]⟩, ⟨#[98]⟩⟩] := by kernel_rfl
theorem one_ev : laws_one.f = some true := by
  have h : impl_ParseMatchers.f (⟨#[123, 97, 61, 34, 98, 34, 125]⟩ : ByteArray) = some ([⟨0, ⟨#[97]⟩, ⟨#[98]⟩⟩], true) := by
    unfold impl_ParseMatchers.f pmF
    rw [one_parse, if_pos (by decide)]
    rfl
  unfold laws_one.f
  rw [h, Option.bind_some, if_pos rfl, if_pos (by decide), if_pos (by decide), Go.Lib.toList_data, Go.Lib.toList_data]
  decide
def kt (t : S27) : Tk := (t.f0.toNat, t.f1)
theorem tokens_strm {s : ByteArray} {f : Nat} : ∀ {p c : Nat}, ((tokensR s f p c).1.map kt, (tokensR s f p c).2) = strm s f p c := by
  induction f with
  | zero => intro p c; rfl
  | succ f ih =>
    intro p c
    cases hs : sc s p c with
    | bad => rw [strm_bad hs, tokensR_bad hs]; rfl
    | eof u v => rw [strm_eof hs, tokensR_eof hs]; rfl
    | tok k a e ca ce =>
      rw [strm_tok hs, tokensR_tok hs]
      have h := ih (p := e) (c := ce)
      have h1 := congrArg Prod.fst h
      have h2 := congrArg Prod.snd h
      dsimp only at h1 h2
      rw [← h1, ← h2]
      rfl
theorem runT_end {e : Bool} {f : Nat} : ∀ {q : PS} {has : Bool} {ts : List Tk} {l m : List SMt}, runT e f q has ts l = some m → e = true := by
  induction f with
  | zero => intro q has ts l m h; exact nomatch h
  | succ f ih =>
    intro q has ts l m h
    unfold runT at h
    cases hst : stT q has l ts e with
    | fail => rw [hst] at h; exact nomatch h
    | next q2 has2 ts2 l2 => rw [hst] at h; exact ih h
    | done l2 =>
      cases q <;> unfold stT at hst <;> dsimp only at hst
      case opn =>
        split at hst
        · split at hst <;> (simp at hst; done)
        · unfold opnT2 at hst
          repeat' split at hst
          all_goals (simp at hst; done)
      case mat =>
        repeat' split at hst
        all_goals (simp at hst; done)
      case eof =>
        split at hst
        · split at hst
          · assumption
          · exact nomatch hst
        · exact nomatch hst
      all_goals
        repeat' split at hst
        all_goals (simp at hst; done)
theorem bt_natP {s : ByteArray} {i : Nat} (h : i < s.size) : bt s (i : Int) = ((s[i]'h).toNat : Int) := by simp [bt, h]
/-- Does a text have a byte? -/
def hasC (s : ByteArray) (c : Int) : Bool := s.data.toList.any fun b => decide ((b.toNat : Int) = c)
theorem has_ev (s : ByteArray) (c : Int) (hs : s.size ≤ 2147483647) : Ev (fun k => laws_has.f k s c) (hasC s c) := by
  have g := ev_up (L := fun k i => laws_has.l0 k s c (i : Int)) (fun i => (s.data.toList.drop i).any fun b => decide ((b.toNat : Int) = c)) s.size (ev_succ (fun k => by
      simp only [laws_has.l0]
      rw [if_neg (by omega), List.drop_of_length_le (by simp)]
      rfl)) (fun i hi g => by
    refine Ev.step (f := fun k => if bt s (i : Int) = c then some true else laws_has.l0 k s c (wrap64 ((i : Int) + 1))) (fun k => ?_) ?_
    · simp only [laws_has.l0]
      rw [if_pos (by omega), if_pos (by omega)]
    have hl : i < s.data.toList.length := by simpa using hi
    have eb : bt s (i : Int) = ((s.data.toList[i]'hl).toNat : Int) := by rw [bt_natP hi]; rfl
    have ew : wrap64 ((i : Int) + 1) = ((i + 1 : Nat) : Int) := by simp [wrap64]; omega
    rw [eb, List.drop_eq_getElem_cons hl, List.any_cons, ew]
    by_cases hc : ((s.data.toList[i]'hl).toNat : Int) = c
    · simp only [hc, if_true, decide_true, Bool.true_or]
      exact Ev.now true
    · simp only [hc, if_false, decide_false, Bool.false_or]
      exact g) s.size 0 (by omega)
  exact g
end Go.Proofs.YtmjoebnphacadaaDoor.Lex
