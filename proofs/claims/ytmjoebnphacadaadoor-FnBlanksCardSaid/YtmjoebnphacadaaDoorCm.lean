/- A comma behind a list of matchers; a list is equal to itself. -/
import Derived.Test.YtmjoebnphacadaaDoorRb
import Derived.Test.YtmjoebnphacadaaDoorQx44
namespace Go.Proofs.YtmjoebnphacadaaDoor.Lex
open Go.RowKit Go.Lib Go.Proofs.YtmjoebnphacadaaDoor.Pure Go.Proofs.YtmjoebnphacadaaDoor.Q Go.Proofs.YtmjoebnphacadaaDoorW.PrintWords Go.Proofs.YtmjoebnphacadaaDoorW.PrintLast
set_option linter.unusedVariables false
set_option linter.unusedSimpArgs false
def comR : RB := (44, [44])
def comT : Tk := (3, ⟨#[44]⟩)
theorem cond_more {k : Nat} {R X : List RB} (h : Cond k R) (hX : Cond k X) : Cond k (R ++ X) := by
  cases R with
  | nil => exact hX
  | cons r R => exact h
theorem strm_comma : ∀ (f : Nat) (L : List RB) (ts : List Tk), strmL f L = (ts, true) → strmL (f + 1) (L ++ [comR]) = (ts ++ [comT], true) := by
  intro f
  induction f with
  | zero => intro L ts h; exact nomatch h
  | succ f ih =>
    intro L ts h
    cases hs : scanL L with
    | bad => rw [strmL_bad hs] at h; exact nomatch h
    | eof =>
      rw [strmL_eof hs] at h
      have h1 : ts = [] := (congrArg Prod.fst h).symm
      subst h1
      have e : scanL (L ++ [comR]) = .tok 3 [comR] [] := (scan_white (scan_eof hs)).trans rfl
      rw [strmL_tok e]
      rfl
    | tok k T rest =>
      rw [strmL_tok hs] at h
      have h1 : (k, (⟨(txt T).toArray⟩ : ByteArray)) :: (strmL f rest).1 = ts := congrArg Prod.fst h
      have h2 : (strmL f rest).2 = true := congrArg Prod.snd h
      obtain ⟨w, k1, k2, k3, k4, k5⟩ := scan_app hs
      have hc : Cond k (rest ++ [comR]) := cond_more k4 (fun r hr => by
        obtain rfl := Option.some.inj hr
        exact ⟨fun _ => by decide +kernel, fun _ => by decide⟩)
      have e : scanL (L ++ [comR]) = .tok k T (rest ++ [comR]) := by
        rw [k1, List.append_assoc, List.append_assoc, scan_white k2]
        exact k5 _ hc
      rw [strmL_tok e, ih rest (strmL f rest).1 (Prod.ext rfl h2), ← h1]
      rfl
theorem runT_mono {e : Bool} {f : Nat} : ∀ {q : PS} {has : Bool} {ts : List Tk} {l m : List SMt} (g : Nat), runT e f q has ts l = some m → runT e (f + g) q has ts l = some m := by
  induction f with
  | zero => intro q has ts l m g h; exact nomatch h
  | succ f ih =>
    intro q has ts l m g h
    rw [show f + 1 + g = (f + g) + 1 by omega]
    have e1 : runT e (f + 1) q has ts l = (match stT q has l ts e with | .fail => none | .done l => some l | .next q has ts l => runT e f q has ts l) := rfl
    have e2 : runT e (f + g + 1) q has ts l = (match stT q has l ts e with | .fail => none | .done l => some l | .next q has ts l => runT e (f + g) q has ts l) := rfl
    rw [e1] at h
    rw [e2]
    cases hst : stT q has l ts e with
    | fail => rw [hst] at h; exact h
    | done l2 => rw [hst] at h; exact h
    | next q2 has2 ts2 l2 => rw [hst] at h; exact ih g h
theorem runT_next {e : Bool} {f : Nat} {q q2 : PS} {has has2 : Bool} {ts ts2 : List Tk} {l l2 : List SMt} (h : stT q has l ts e = .next q2 has2 ts2 l2) : runT e (f + 1) q has ts l = runT e f q2 has2 ts2 l2 := by
  have e1 : runT e (f + 1) q has ts l = (match stT q has l ts e with | .fail => none | .done l => some l | .next q has ts l => runT e f q has ts l) := rfl
  rw [e1, h]
theorem runT_fail {e : Bool} {f : Nat} {q : PS} {has : Bool} {ts : List Tk} {l : List SMt} (h : stT q has l ts e = .fail) : runT e f q has ts l = none := by
  cases f with
  | zero => rfl
  | succ f =>
    have e1 : runT e (f + 1) q has ts l = (match stT q has l ts e with | .fail => none | .done l => some l | .next q has ts l => runT e f q has ts l) := rfl
    rw [e1, h]
theorem runT_two {e : Bool} {f g : Nat} {q : PS} {has : Bool} {ts : List Tk} {l m n : List SMt} (h : runT e f q has ts l = some m) (k : runT e g q has ts l = some n) : m = n := by
  have h1 := runT_mono g h
  have k1 := runT_mono f k
  rw [Nat.add_comm] at k1
  exact Option.some.inj (h1.symm.trans k1)
theorem runT_pos {e : Bool} {f : Nat} {q : PS} {has : Bool} {ts : List Tk} {l m : List SMt} (h : runT e f q has ts l = some m) : ∃ g, f = g + 1 := by
  cases f with
  | zero => exact nomatch h
  | succ f => exact ⟨f, rfl⟩
theorem comma_mat : ∀ (f : Nat) (ts : List Tk) (l m : List SMt), runT true f .mat false ts l = some m → (∀ t ∈ ts.getLast?, t.1 ≠ 3) → ∃ g, runT true g .mat false (ts ++ [comT]) l = some m := by
  intro f
  induction f using Nat.strongRecOn with
  | _ f ih =>
    intro ts l m h hl
    obtain ⟨f1, rfl⟩ := runT_pos h
    match ts, h, hl with
    | [], h, hl => rw [runT_fail rfl] at h; exact nomatch h
    | [_], h, hl => rw [runT_fail rfl] at h; exact nomatch h
    | [_, _], h, hl => rw [runT_fail rfl] at h; exact nomatch h
    | x :: y :: z :: r, h, hl =>
      have ex : ∀ r, stT .mat false l (x :: y :: z :: r) true = (match mkT x y z with | none => .fail | some m => .next .emt false r (l ++ [m])) := fun _ => rfl
      cases hm : mkT x y z with
      | none => rw [runT_fail (by rw [ex, hm])] at h; exact nomatch h
      | some m0 =>
        have ex2 : ∀ r, stT .mat false l (x :: y :: z :: r) true = .next .emt false r (l ++ [m0]) := fun r => by rw [ex, hm]
        rw [runT_next (ex2 r)] at h
        obtain ⟨f2, rfl⟩ := runT_pos h
        cases r with
        | nil =>
          have hm2 : runT true 4 .emt false [] (l ++ [m0]) = some (l ++ [m0]) := rfl
          obtain rfl := runT_two h hm2
          refine ⟨6, ?_⟩
          show runT true 6 .mat false (x :: y :: z :: [comT]) l = _
          rw [runT_next (ex2 _)]
          rfl
        | cons t r =>
          have et : ∀ r, stT .emt false (l ++ [m0]) (t :: r) true = (if t.1 = 3 then .next .com false (t :: r) (l ++ [m0]) else if t.1 = 2 then .next .cls false (t :: r) (l ++ [m0]) else .fail) := fun _ => rfl
          by_cases h3 : t.1 = 3
          · have et3 : ∀ r, stT .emt false (l ++ [m0]) (t :: r) true = .next .com false (t :: r) (l ++ [m0]) := fun r => by rw [et, if_pos h3]
            rw [runT_next (et3 r)] at h
            obtain ⟨f3, rfl⟩ := runT_pos h
            cases r with
            | nil => exact absurd h3 (hl t (by simp))
            | cons u r =>
              have ec : ∀ r, stT .com false (l ++ [m0]) (t :: u :: r) true = (if u.1 = 2 then .next .cls false (u :: r) (l ++ [m0]) else if u.1 = 9 ∨ u.1 = 8 then .next .mat false (u :: r) (l ++ [m0]) else .fail) := fun r => if_pos h3
              by_cases h2 : u.1 = 2
              · rw [runT_next (show stT .com false (l ++ [m0]) (t :: u :: r) true = .next .cls false (u :: r) (l ++ [m0]) by rw [ec, if_pos h2]), runT_fail (show stT .cls false (l ++ [m0]) (u :: r) true = .fail from if_pos h2)] at h
                exact nomatch h
              · by_cases h9 : u.1 = 9 ∨ u.1 = 8
                · have ec2 : ∀ r, stT .com false (l ++ [m0]) (t :: u :: r) true = .next .mat false (u :: r) (l ++ [m0]) := fun r => by rw [ec, if_neg h2, if_pos h9]
                  rw [runT_next (ec2 r)] at h
                  obtain ⟨g, hg⟩ := ih f3 (by omega) (u :: r) _ m h (fun q hq => hl q (by simpa [List.getLast?_cons_cons] using hq))
                  refine ⟨g + 3, ?_⟩
                  show runT true (g + 3) .mat false (x :: y :: z :: t :: u :: (r ++ [comT])) l = _
                  rw [runT_next (ex2 _), runT_next (et3 _), runT_next (ec2 _)]
                  exact hg
                · rw [runT_fail (show stT .com false (l ++ [m0]) (t :: u :: r) true = .fail by rw [ec, if_neg h2, if_neg h9])] at h
                  exact nomatch h
          · by_cases h2 : t.1 = 2
            · rw [runT_next (show stT .emt false (l ++ [m0]) (t :: r) true = .next .cls false (t :: r) (l ++ [m0]) by rw [et, if_neg h3, if_pos h2]), runT_fail (show stT .cls false (l ++ [m0]) (t :: r) true = .fail from if_pos h2)] at h
              exact nomatch h
            · rw [runT_fail (show stT .emt false (l ++ [m0]) (t :: r) true = .fail by rw [et, if_neg h3, if_neg h2])] at h
              exact nomatch h
theorem runT_full {e : Bool} {g : Nat} {ts : List Tk} {m : List SMt} (h : runT e g .opn false ts [] = some m) : parseT (ts, e) = some m := by
  have := runT_enough (e := e) (q := .opn) (has := false) (ts := ts) (l := []) (f := 8 * ts.length + 7) g (by simp [PS.rank])
  show runT e (8 * ts.length + 7) .opn false ts [] = _
  rw [← this, Nat.add_comm]
  exact runT_mono _ h
theorem comma_parse {ts : List Tk} {m : List SMt} (h : parseT (ts, true) = some m) (h0 : ts ≠ []) (h1 : ∀ t ∈ ts.head?, t.1 ≠ 1) (hl : ∀ t ∈ ts.getLast?, t.1 ≠ 3) : parseT (ts ++ [comT], true) = some m := by
  cases ts with
  | nil => exact absurd rfl h0
  | cons t r =>
    have ht : t.1 ≠ 1 := h1 t rfl
    have eo : ∀ r, stT .opn false [] (t :: r) true = (if t.1 = 2 then .next .cls false (t :: r) [] else .next .mat false (t :: r) []) := fun r => if_neg ht
    have h2 : runT true (8 * (t :: r).length + 6 + 1) .opn false (t :: r) [] = some m := h
    by_cases k2 : t.1 = 2
    · rw [runT_next (show stT .opn false [] (t :: r) true = .next .cls false (t :: r) [] by rw [eo, if_pos k2]), runT_fail (show stT .cls false [] (t :: r) true = .fail from if_pos k2)] at h2
      exact nomatch h2
    · have eo2 : ∀ r, stT .opn false [] (t :: r) true = .next .mat false (t :: r) [] := fun r => by rw [eo, if_neg k2]
      rw [runT_next (eo2 r)] at h2
      obtain ⟨g, hg⟩ := comma_mat _ _ _ _ h2 hl
      refine runT_full (g := g + 1) ?_
      rw [show t :: r ++ [comT] = t :: (r ++ [comT]) from rfl, runT_next (eo2 _)]
      exact hg
theorem fresh_com : Fresh ⟨#[44]⟩ := fun _ => by decide
theorem rl_com : RL ⟨#[44]⟩ 0 = [comR] := by
  rw [RL_ascii (by decide) 1 0 (by decide)]
  rfl
theorem s0_comma {s : ByteArray} {ts : List Tk} (h : S0 s 0 0 = (ts, true)) : S0 (s ++ ⟨#[44]⟩) 0 0 = (ts ++ [comT], true) := by
  unfold S0 at h ⊢
  rw [strm_list _ _ _ (Nat.zero_le _)] at h ⊢
  rw [RL_join fresh_com, rl_com, app_size]
  exact strm_comma _ _ _ h
theorem eqm_self (l : List S35) (hl : l.length ≤ 2147483647) : Ev (fun k => laws_eqMatchers.f k l l) true := by
  unfold laws_eqMatchers.f
  refine ev_ite_pos rfl ?_
  have g := ev_up (L := fun k i => laws_eqMatchers.l0 k l l (l.length : Int) (i : Int)) (fun _ => true) l.length (ev_succ (fun k => by
      simp only [laws_eqMatchers.l0]
      rw [if_neg (by omega)])) (fun i hi g => by
    refine Ev.step (f := fun k => laws_eqMatchers.l0 k l l (l.length : Int) ((i + 1 : Nat) : Int)) (fun k => ?_) g
    simp only [laws_eqMatchers.l0]
    rw [if_pos (by omega), if_pos (by omega), if_pos (by omega), if_pos (by omega)]
    simp only [beq_self_eq_true, Bool.not_true, Bool.or_self, Bool.false_eq_true, if_false]
    have ew : wrap64 ((i : Int) + 1) = ((i + 1 : Nat) : Int) := by unfold wrap64; omega
    rw [ew]) l.length 0 (by omega)
  exact g
end Go.Proofs.YtmjoebnphacadaaDoor.Lex
