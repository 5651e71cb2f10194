/- The law FnSetOrder over plain lists. -/
import Derived.Test.YtbffcmiabcmjcaaQx3
import Derived.Test.YtbffcmiabcmjcaaQx1
import Derived.Test.YtbffcmiabcmjcaaQx2
import Derived.Test.YtbffcmiabcmjcaaFitsZ
import Derived.Test.YtbffcmiabcmjcaaOrderS
set_option linter.unusedVariables false
set_option linter.unusedSimpArgs false
namespace Go.Proofs.Ytbffcmiabcmjcaa.Pure
open Go.RowKit Go.Proofs.Ytbffcmiabcmjcaa.Q Go.Proofs.Ytbffcmiabcmjcaa.MapsS Go.Proofs.YtbffcmiabcmjcaaW.PrintWords Go.Proofs.YtbffcmiabcmjcaaW.PrintLast
abbrev PairI := S26
theorem setL_rises (l : List PairI) : Rises (setL l) := by
  have h : ∀ (r : List PairI) (m : SM), Rises m → Rises (r.foldl (fun m p => ins p.f0 p.f1 m) m) := by
    intro r
    induction r with
    | nil => exact fun m h => h
    | cons x r ih => exact fun m h => ih _ (rises_ins h)
  exact h l [] List.Pairwise.nil
theorem less9_of {l : List PairI} (h : l.length ≤ 1000000000) (hk : ∀ y ∈ l, okS26 y) : less9 l = true := by
  unfold less9
  rw [Bool.and_eq_true]
  refine ⟨decide_eq_true h, List.all_eq_true.2 fun p hp => ?_⟩
  obtain ⟨h1, h2⟩ := hk p hp
  simp [small2, h1, h2]
theorem both_of_look {m1 m2 : SM} {k : ByteArray} (h : MapsS.look k m1 ≠ none ∨ MapsS.look k m2 ≠ none) : k ∈ bothNames m1 m2 := by
  refine (sortB_perm _).mem_iff.2 (List.mem_append.2 ?_)
  rcases h with h | h
  · exact .inl (look_names (m := m1) h)
  · exact .inr (look_names (m := m1) h)
theorem befS_iff (m1 m2 : SM) : befS m1 m2 = true ↔ m1.length < m2.length ∨ (m1.length = m2.length ∧ Bef m1 m2) := by
  have hL : befL m1 m2 (bothNames m1 m2) = true ↔ Bef m1 m2 := by
    rw [befL_befG fun k hk => (mem_bothNames hk).imp names_look names_look]
    exact befG_Bef (sortB_up _) fun k hk => both_of_look hk
  unfold befS
  by_cases h1 : m1.length < m2.length
  · simp [h1]
  · rw [if_neg h1]
    by_cases h2 : m2.length < m1.length
    · rw [if_pos h2]
      constructor
      · intro h; cases h
      · rintro (h | ⟨h, _⟩) <;> omega
    · rw [if_neg h2, hL]
      constructor
      · exact fun h => .inr ⟨by omega, h⟩
      · rintro (h | ⟨_, h⟩)
        · omega
        · exact h
theorem befS_irrefl (m : SM) : befS m m = false := by
  cases h : befS m m with
  | false => rfl
  | true =>
    rcases (befS_iff m m).1 h with h | ⟨_, h⟩
    · omega
    · exact absurd h (Bef_irrefl m)
theorem befS_asymm {a b : SM} (h : befS a b = true) : befS b a = false := by
  cases g : befS b a with
  | false => rfl
  | true =>
    rcases (befS_iff a b).1 h with h | ⟨h0, h⟩ <;> rcases (befS_iff b a).1 g with g | ⟨g0, g⟩
    · omega
    · omega
    · omega
    · exact (Bef_asymm h g).elim
theorem befS_trans {a b c : SM} (h : befS a b = true) (g : befS b c = true) : befS a c = true := by
  refine (befS_iff a c).2 ?_
  rcases (befS_iff a b).1 h with h | ⟨h0, h⟩ <;> rcases (befS_iff b c).1 g with g | ⟨g0, g⟩
  · exact .inl (by omega)
  · exact .inl (by omega)
  · exact .inl (by omega)
  · exact .inr ⟨by omega, Bef_trans h g⟩
theorem befS_total {a b : SM} (ha : Rises a) (hb : Rises b) (h : befS a b = false) (g : befS b a = false) : a = b := by
  have h' : ¬ (a.length < b.length ∨ (a.length = b.length ∧ Bef a b)) := fun e => by rw [(befS_iff a b).2 e] at h; cases h
  have g' : ¬ (b.length < a.length ∨ (b.length = a.length ∧ Bef b a)) := fun e => by rw [(befS_iff b a).2 e] at g; cases g
  have e1 : ¬ a.length < b.length := fun e => h' (.inl e)
  have e2 : ¬ b.length < a.length := fun e => g' (.inl e)
  exact Bef_total ha hb (sortB_up (a.map (·.1) ++ b.map (·.1))) (fun k hk => both_of_look hk) (fun e => h' (.inr ⟨by omega, e⟩)) (fun e => g' (.inr ⟨by omega, e⟩))
theorem before_eq {l0 l1 : List PairI} (h0 : less9 l0 = true) (h1 : less9 l1 = true) : impl_SetBefore.f l0 l1 = some (befS (setL l0) (setL l1)) := by
  unfold impl_SetBefore.f
  rw [if_pos ⟨h0, h1⟩]
theorem equal_eq {l0 l1 : List PairI} (h0 : less9 l0 = true) (h1 : less9 l1 = true) (n0 : l0.length ≤ 300) (n1 : l1.length ≤ 300) : impl_SetEqual.f l0 l1 = some (decide (setL l0 = setL l1)) := by
  have h : ∀ {l : List PairI}, less9 l = true → l.length ≤ 300 → lessMax l = true := by
    intro l h n
    unfold less9 at h
    rw [Bool.and_eq_true] at h
    unfold lessMax
    rw [h.2, decide_eq_true (by unfold maxLen; omega)]
    rfl
  unfold impl_SetEqual.f
  rw [if_pos ⟨h h0 n0, h h1 n1⟩]
theorem order_j1 (a b c : List PairI) (na : a.length ≤ 300) (nb : b.length ≤ 300) (nc : c.length ≤ 300) (ka : ∀ y ∈ a, okS26 y) (kb : ∀ y ∈ b, okS26 y) (kc : ∀ y ∈ c, okS26 y) (k : Nat) : laws_FnSetOrder.j1 (k + 1) a b c false = some true := by
  have la := less9_of (l := a) (by omega) ka
  have lb := less9_of (l := b) (by omega) kb
  have lc := less9_of (l := c) (by omega) kc
  simp only [laws_FnSetOrder.j1, Bool.false_eq_true, if_false, before_eq la lb, before_eq lb la, before_eq lb lc, before_eq la lc, before_eq la la, befS_irrefl, equal_eq la lb na nb, Option.bind_some]
  cases h : befS (setL a) (setL b) with
  | true =>
    have h2 := befS_asymm h
    have hne : ¬ setL a = setL b := fun e => by rw [e, befS_irrefl] at h; cases h
    rw [h2, decide_eq_false hne]
    cases g : befS (setL b) (setL c) with
    | true =>
      rw [befS_trans h g]
      rfl
    | false => rfl
  | false =>
    cases g : befS (setL b) (setL a) with
    | true =>
      have hne : ¬ setL a = setL b := fun e => by rw [e, befS_irrefl] at g; cases g
      rw [decide_eq_false hne]
      rfl
    | false =>
      rw [decide_eq_true (befS_total (setL_rises a) (setL_rises b) h g)]
      rfl
theorem FnSetOrder : laws_FnSetOrder.Pure := by
  intro a b c ⟨ha, ka⟩ ⟨hb, kb⟩ ⟨hc, kc⟩
  refine Ev.rounds ?_
  have done0 : Ev (fun k => laws_FnSetOrder.j0 k a b c true) true := ev_succ (fun k => by simp only [laws_FnSetOrder.j0]; rfl)
  have done1 : Ev (fun k => laws_FnSetOrder.j1 k a b c true) true := ev_succ (fun k => by simp only [laws_FnSetOrder.j1]; rfl)
  unfold laws_FnSetOrder.f
  refine Ev.bind (zzFits1_ev a ha) ?_
  cases (if (a.length : Int) > 2147483647 then false else a.all fits2)
  · simpa only [Bool.false_eq_true, if_false] using done0
  simp only [if_true]
  refine Ev.bind (zzFits1_ev b hb) ?_
  cases (if (b.length : Int) > 2147483647 then false else b.all fits2)
  · simpa only [Bool.false_eq_true, if_false] using done0
  simp only [if_true]
  refine Ev.bind (zzFits1_ev c hc) ?_
  cases (if (c.length : Int) > 2147483647 then false else c.all fits2)
  · exact done0
  have e0 : impl_SetBefore.f ([] : List PairI) [(⟨(⟨#[97]⟩ : ByteArray), (⟨#[]⟩ : ByteArray)⟩ : PairI)] = some true := by
    rw [before_eq (by decide +kernel) (by decide +kernel)]
    unfold befS
    rw [if_pos (by decide +kernel)]
  have S : Ev (fun k => laws_FnSetOrder.j1 k a b c (decide ((a.length : Int) > 300 ∨ (b.length : Int) > 300 ∨ (c.length : Int) > 300))) true := by
    by_cases h : (a.length : Int) > 300 ∨ (b.length : Int) > 300 ∨ (c.length : Int) > 300
    · rw [decide_eq_true h]
      exact done1
    · rw [decide_eq_false h]
      exact ev_succ fun k => order_j1 a b c (by omega) (by omega) (by omega) ka kb kc k
  refine Ev.step (fun k => ?_) S
  simp only [laws_FnSetOrder.j0, Bool.not_true, Bool.false_eq_true, if_false, e0, Option.bind_some, if_true, laws_much.f]
  by_cases h1 : (a.length : Int) > 300
  · simp [h1]
  · by_cases h2 : (b.length : Int) > 300
    · simp [h1, h2]
    · by_cases h3 : (c.length : Int) > 300 <;> simp [h1, h2, h3]
end Go.Proofs.Ytbffcmiabcmjcaa.Pure
