/- A token's runes, and what may stand behind them. -/
import Derived.Test.YtmjoebnphacadaaDoorRa
namespace Go.Proofs.YtmjoebnphacadaaDoor.Lex
open Go.RowKit Go.Lib Go.Proofs.YtmjoebnphacadaaDoor.Pure Go.Proofs.YtmjoebnphacadaaDoor.Q Go.Proofs.YtmjoebnphacadaaDoorW.PrintWords Go.Proofs.YtmjoebnphacadaaDoorW.PrintLast
set_option linter.unusedVariables false
set_option linter.unusedSimpArgs false
/-- White space alone. -/
def Wh (w : List RB) : Prop := ∀ r ∈ w, Lib.isSpaceZ (r.1 : Int) = true
/-- What may stand behind a token of a kind. -/
def Cond (k : Nat) (R : List RB) : Prop := ∀ r ∈ R.head?, (k = 9 → nr r = false) ∧ (k = 4 → r.1 ≠ 126)
theorem space_not {r : Nat} (h : Lib.isSpaceZ (r : Int) = true) : r ≠ 123 ∧ r ≠ 125 ∧ r ≠ 44 ∧ r ≠ 61 ∧ r ≠ 33 ∧ r ≠ 34 ∧ r ≠ 126 ∧ resR (r : Int) = true := by
  refine ⟨?_, ?_, ?_, ?_, ?_, ?_, ?_, ?_⟩
  iterate 7 (rintro rfl; exact absurd h (by decide))
  unfold resR
  rw [h]
  rfl
theorem scan_white {w R : List RB} (hw : Wh w) : scanL (w ++ R) = scanL R := by
  induction w with
  | nil => rfl
  | cons r w ih =>
    have hr := hw r (by simp)
    obtain ⟨h1, h2, h3, h4, h5, h6, h7, h8⟩ := space_not hr
    show scanL (r :: (w ++ R)) = _
    rw [scanL.eq_def]
    dsimp only
    rw [if_neg h1, if_neg h2, if_neg h3, if_neg (by omega), if_neg h6, if_neg (by rw [h8]; simp), if_pos hr]
    exact ih (fun r hr => hw r (by simp [hr]))
theorem quoL_app {b : Bool} {L T rest : List RB} (h : quoL b L = some (T, rest)) : L = T ++ rest ∧ ∀ R, quoL b (T ++ R) = some (T, R) := by
  induction L generalizing b T rest with
  | nil => cases b <;> exact nomatch h
  | cons r L ih =>
    have go : ∀ (b2 : Bool), quoL b (r :: L) = (quoL b2 L).map (fun q => (r :: q.1, q.2)) → (∀ M, quoL b (r :: M) = (quoL b2 M).map (fun q => (r :: q.1, q.2))) → r :: L = T ++ rest ∧ ∀ R, quoL b (T ++ R) = some (T, R) := by
      intro b2 h1 h2
      rw [h1] at h
      cases hq : quoL b2 L with
      | none => rw [hq] at h; exact nomatch h
      | some q =>
        rw [hq] at h
        have := Option.some.inj h
        simp only [Prod.mk.injEq] at this
        obtain ⟨rfl, rfl⟩ := this
        obtain ⟨i1, i2⟩ := ih (b := b2) (T := q.1) (rest := q.2) hq
        refine ⟨by rw [i1]; simp, fun R => ?_⟩
        show quoL b (r :: (q.1 ++ R)) = _
        rw [h2, i2]
        rfl
    cases b with
    | true => exact go false rfl (fun _ => rfl)
    | false =>
      by_cases h92 : r.1 = 92
      · exact go true (if_pos h92) (fun _ => if_pos h92)
      · by_cases h34 : r.1 = 34
        · have e : ∀ M, quoL false (r :: M) = some ([r], M) := fun M => (if_neg h92).trans (if_pos h34)
          rw [e] at h
          have := Option.some.inj h
          simp only [Prod.mk.injEq] at this
          obtain ⟨rfl, rfl⟩ := this
          exact ⟨rfl, fun R => e R⟩
        · exact go false ((if_neg h92).trans (if_neg h34)) (fun _ => (if_neg h92).trans (if_neg h34))
theorem takeWhile_all {p : RB → Bool} {l : List RB} {y : RB} (h : y ∈ l.takeWhile p) : p y = true := by
  induction l with
  | nil => exact absurd h (by simp)
  | cons x l ih =>
    by_cases hx : p x = true
    · rw [List.takeWhile_cons_of_pos hx] at h
      rcases List.mem_cons.1 h with rfl | h
      · exact hx
      · exact ih h
    · rw [List.takeWhile_cons_of_neg hx] at h
      exact absurd h (by simp)
theorem cond_other {k : Nat} {R : List RB} (h9 : k ≠ 9) (h4 : k ≠ 4) : Cond k R := fun r _ => ⟨fun h => absurd h h9, fun h => absurd h h4⟩
theorem scan_app {L : List RB} : ∀ {k : Nat} {T rest : List RB}, scanL L = .tok k T rest → ∃ w, L = w ++ T ++ rest ∧ Wh w ∧ T ≠ [] ∧ Cond k rest ∧ ∀ R, Cond k R → scanL (T ++ R) = .tok k T R := by
  induction L with
  | nil => intro k T rest h; exact nomatch h
  | cons r L ih =>
    intro k T rest h
    have w0 : Wh [] := fun r hr => absurd hr (by simp)
    unfold scanL at h
    by_cases h1 : r.1 = 123
    · rw [if_pos h1] at h
      injection h with e1 e2 e3
      subst e1 e2 e3
      exact ⟨[], rfl, w0, by simp, cond_other (by decide) (by decide), fun R _ => if_pos h1⟩
    rw [if_neg h1] at h
    by_cases h2 : r.1 = 125
    · rw [if_pos h2] at h
      injection h with e1 e2 e3
      subst e1 e2 e3
      exact ⟨[], rfl, w0, by simp, cond_other (by decide) (by decide), fun R _ => (if_neg h1).trans (if_pos h2)⟩
    rw [if_neg h2] at h
    by_cases h3 : r.1 = 44
    · rw [if_pos h3] at h
      injection h with e1 e2 e3
      subst e1 e2 e3
      exact ⟨[], rfl, w0, by simp, cond_other (by decide) (by decide), fun R _ => (if_neg h1).trans ((if_neg h2).trans (if_pos h3))⟩
    rw [if_neg h3] at h
    by_cases h4 : r.1 = 61 ∨ r.1 = 33
    · rw [if_pos h4] at h
      have ho : ∀ M, scanL (r :: M) = opL r M := fun M => (if_neg h1).trans ((if_neg h2).trans ((if_neg h3).trans (if_pos h4)))
      cases L with
      | nil =>
        by_cases h33 : r.1 = 33
        · rw [show opL r [] = .bad from if_pos h33] at h; exact nomatch h
        · rw [show opL r [] = .tok 4 [r] [] from if_neg h33] at h
          injection h with e1 e2 e3
          subst e1 e2 e3
          refine ⟨[], rfl, w0, by simp, fun x hx => by simp at hx, fun R hR => ?_⟩
          show scanL (r :: R) = _
          rw [ho]
          cases R with
          | nil => exact if_neg h33
          | cons x R => exact (if_neg h33).trans (if_neg ((hR x rfl).2 rfl))
      | cons x L2 =>
        by_cases h33 : r.1 = 33
        · have e : ∀ M, opL r (x :: M) = (if x.1 = 61 then .tok 5 [r, x] M else if x.1 = 126 then .tok 7 [r, x] M else .bad) := fun M => if_pos h33
          rw [e] at h
          by_cases h61 : x.1 = 61
          · rw [if_pos h61] at h
            injection h with e1 e2 e3
            subst e1 e2 e3
            exact ⟨[], rfl, w0, by simp, cond_other (by decide) (by decide), fun R _ => (ho _).trans ((e _).trans (if_pos h61))⟩
          · rw [if_neg h61] at h
            by_cases h126 : x.1 = 126
            · rw [if_pos h126] at h
              injection h with e1 e2 e3
              subst e1 e2 e3
              exact ⟨[], rfl, w0, by simp, cond_other (by decide) (by decide), fun R _ => (ho _).trans ((e _).trans ((if_neg h61).trans (if_pos h126)))⟩
            · rw [if_neg h126] at h; exact nomatch h
        · have e : ∀ M, opL r (x :: M) = (if x.1 = 126 then .tok 6 [r, x] M else .tok 4 [r] (x :: M)) := fun M => if_neg h33
          rw [e] at h
          by_cases h126 : x.1 = 126
          · rw [if_pos h126] at h
            injection h with e1 e2 e3
            subst e1 e2 e3
            exact ⟨[], rfl, w0, by simp, cond_other (by decide) (by decide), fun R _ => (ho _).trans ((e _).trans (if_pos h126))⟩
          · rw [if_neg h126] at h
            injection h with e1 e2 e3
            subst e1 e2 e3
            refine ⟨[], rfl, w0, by simp, fun y hy => ?_, fun R hR => ?_⟩
            · obtain rfl := Option.some.inj hy
              exact ⟨fun h => absurd h (by decide), fun _ => h126⟩
            · show scanL (r :: R) = _
              rw [ho]
              cases R with
              | nil => exact if_neg h33
              | cons x R => exact (if_neg h33).trans (if_neg ((hR x rfl).2 rfl))
    rw [if_neg h4] at h
    by_cases h5 : r.1 = 34
    · rw [if_pos h5] at h
      have ho : ∀ M, scanL (r :: M) = (match quoL false M with | some q => .tok 8 (r :: q.1) q.2 | none => .bad) := fun M => (if_neg h1).trans ((if_neg h2).trans ((if_neg h3).trans ((if_neg h4).trans (if_pos h5))))
      cases hq : quoL false L with
      | none => rw [hq] at h; exact nomatch h
      | some q =>
        rw [hq] at h
        injection h with e1 e2 e3
        subst e1 e2 e3
        obtain ⟨i1, i2⟩ := quoL_app (T := q.1) (rest := q.2) hq
        refine ⟨[], by rw [i1]; simp, w0, by simp, cond_other (by decide) (by decide), fun R _ => ?_⟩
        show scanL (r :: (q.1 ++ R)) = _
        rw [ho, i2]
    rw [if_neg h5] at h
    by_cases h6 : resR (r.1 : Int) = false
    · rw [if_pos h6] at h
      have hn : nr r = true := by unfold nr; rw [h6]; rfl
      have ho : ∀ M, scanL (r :: M) = .tok 9 ((r :: M).takeWhile nr) ((r :: M).dropWhile nr) := fun M => (if_neg h1).trans ((if_neg h2).trans ((if_neg h3).trans ((if_neg h4).trans ((if_neg h5).trans (if_pos h6)))))
      injection h with e1 e2 e3
      subst e1 e2 e3
      refine ⟨[], by simp [List.takeWhile_append_dropWhile], w0, by rw [List.takeWhile_cons_of_pos hn]; simp, fun x hx => ⟨fun _ => ?_, fun h => absurd h (by decide)⟩, fun R hR => ?_⟩
      · have := List.head?_dropWhile_not nr (r :: L)
        rw [Option.mem_def] at hx
        rw [hx] at this
        simpa using this
      · have hall : ∀ y ∈ (r :: L).takeWhile nr, nr y = true := fun y hy => takeWhile_all hy
        have e1 : R.takeWhile nr = [] := by
          cases R with
          | nil => rfl
          | cons x R => rw [List.takeWhile_cons_of_neg (by rw [(hR x rfl).1 rfl]; simp)]
        have e2 : R.dropWhile nr = R := by
          cases R with
          | nil => rfl
          | cons x R => rw [List.dropWhile_cons_of_neg (by rw [(hR x rfl).1 rfl]; simp)]
        have e3 : (r :: L).takeWhile nr ++ R = r :: (L.takeWhile nr ++ R) := by rw [List.takeWhile_cons_of_pos hn]; rfl
        rw [e3, ho, ← e3, List.takeWhile_append_of_pos hall, List.dropWhile_append_of_pos hall, e1, e2, List.append_nil]
    rw [if_neg h6] at h
    by_cases h7 : Lib.isSpaceZ (r.1 : Int) = true
    · rw [if_pos h7] at h
      obtain ⟨w, k1, k2, k3, k4, k5⟩ := ih h
      refine ⟨r :: w, by rw [k1]; simp, fun x hx => ?_, k3, k4, k5⟩
      rcases List.mem_cons.1 hx with rfl | hx
      · exact h7
      · exact k2 x hx
    · rw [if_neg h7] at h; exact nomatch h
theorem scan_eof {L : List RB} (h : scanL L = .eof) : Wh L := by
  induction L with
  | nil => exact fun r hr => absurd hr (by simp)
  | cons r L ih =>
    unfold scanL at h
    repeat' split at h
    all_goals first | (exact absurd h (by simp)) | skip
    · unfold opL at h
      split at h
      · split at h <;> (simp at h; done)
      · repeat' split at h
        all_goals (simp at h; done)
    · rename_i h7
      intro x hx
      rcases List.mem_cons.1 hx with rfl | hx
      · exact h7
      · exact ih h x hx
end Go.Proofs.YtmjoebnphacadaaDoor.Lex
