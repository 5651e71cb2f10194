/- White space between the tokens changes no token. -/
import Derived.Test.YtmjoebnphacadaaDoorRb
namespace Go.Proofs.YtmjoebnphacadaaDoor.Lex
open Go.RowKit Go.Lib Go.Proofs.YtmjoebnphacadaaDoor.Pure Go.Proofs.YtmjoebnphacadaaDoor.Q Go.Proofs.YtmjoebnphacadaaDoorW.PrintWords Go.Proofs.YtmjoebnphacadaaDoorW.PrintLast
set_option linter.unusedVariables false
set_option linter.unusedSimpArgs false
theorem decodeN_grow {n n' b0 b1 b2 b3 c1 c2 c3 : Nat} (hnn : n ≤ n') (h1 : 1 < n → c1 = b1) (h2 : 2 < n → c2 = b2) (h3 : 3 < n → c3 = b3) (hv : ¬ Lib.decodeN n b0 b1 b2 b3 = (65533, 1)) : Lib.decodeN n' b0 c1 c2 c3 = Lib.decodeN n b0 b1 b2 b3 := by
  unfold Lib.decodeN at hv ⊢
  by_cases k0 : b0 < 128
  · simp only [k0, if_true]
  simp only [k0, if_false] at hv ⊢
  by_cases k1 : b0 / 32 = 6 ∧ (1 < n ∧ b1 / 64 = 2)
  · obtain rfl := h1 k1.2.1
    have e1 : 1 < n' := by omega
    simp only [k1, e1, and_self, true_and, if_true]
  simp only [k1, if_false] at hv ⊢
  by_cases k2 : b0 / 16 = 14 ∧ (1 < n ∧ b1 / 64 = 2) ∧ (2 < n ∧ b2 / 64 = 2)
  · obtain rfl := h1 k2.2.1.1
    obtain rfl := h2 k2.2.2.1
    have e1 : 1 < n' := by omega
    have e2 : 2 < n' := by omega
    have e3 : ¬ b0 / 32 = 6 := by omega
    simp only [k2, e1, e2, e3, and_self, true_and, false_and, if_true, if_false]
  simp only [k2, if_false] at hv ⊢
  by_cases k3 : b0 / 8 = 30 ∧ (1 < n ∧ b1 / 64 = 2) ∧ (2 < n ∧ b2 / 64 = 2) ∧ (3 < n ∧ b3 / 64 = 2)
  · obtain rfl := h1 k3.2.1.1
    obtain rfl := h2 k3.2.2.1.1
    obtain rfl := h3 k3.2.2.2.1
    have e1 : 1 < n' := by omega
    have e2 : 2 < n' := by omega
    have e4 : 3 < n' := by omega
    have e3 : ¬ b0 / 32 = 6 := by omega
    have e5 : ¬ b0 / 16 = 14 := by omega
    simp only [k3, e1, e2, e3, e4, e5, and_self, true_and, false_and, if_true, if_false]
  simp only [k3, if_false] at hv
  exact absurd trivial hv
theorem app_decode_ok {x y : ByteArray} {p : Nat} (hp : p < x.size) (hv : rn x p ≠ 65533) : Utf8.decode (x ++ y) p = Utf8.decode x p := by
  have hv2 : ¬ Utf8.decode x p = (65533, 1) := fun h => hv (congrArg Prod.fst h)
  rw [Lib.decode_at] at hv2
  rw [Lib.decode_at, Lib.decode_at, app_size, app_get_l hp]
  refine decodeN_grow (by omega) (fun h => ?_) (fun h => ?_) (fun h => ?_) hv2
  · rw [app_get_l (by omega)]
  · rw [app_get_l (by omega)]
  · rw [app_get_l (by omega)]
/-- Behind white space all stands as it stood. -/
theorem white_join {x y : ByteArray} : ∀ (d p : Nat), p ≤ x.size → x.size ≤ p + d → Wh (RL x p) → RL (x ++ y) p = RL x p ++ RL y 0 := by
  intro d
  induction d with
  | zero =>
    intro p hp h _
    rw [RL_end (s := x) (by omega), show p = x.size + 0 by omega, RL_right y.size 0 (by omega)]
    rfl
  | succ d ih =>
    intro p hp h hw
    by_cases hq : p < x.size
    · have a1 := adv_le x p hq
      have a2 := adv_pos x p
      rw [RL_step hq] at hw
      have hsp := hw _ (List.mem_cons_self ..)
      have hne : rn x p ≠ 65533 := by
        intro e
        have : Lib.isSpaceZ ((65533 : Nat) : Int) = true := by rw [← e]; exact hsp
        exact absurd this (by decide)
      have hd := app_decode_ok (y := y) hq hne
      rw [RL_step (show p < (x ++ y).size by rw [app_size]; omega), RL_step hq]
      rw [show rn (x ++ y) p = rn x p by rw [rn, hd], show wdt (x ++ y) p = wdt x p by rw [wdt, hd], cut_app_l a1, ih _ a1 (by omega) (fun r hr => hw r (List.mem_cons_of_mem _ hr))]
      rfl
    · rw [RL_end (s := x) hq, show p = x.size + 0 by omega, RL_right y.size 0 (by omega)]
      rfl
theorem white_app {x y : ByteArray} (h : Wh (RL x 0)) : RL (x ++ y) 0 = RL x 0 ++ RL y 0 := white_join x.size 0 (Nat.zero_le _) (by omega) h
theorem fresh_head {y : ByteArray} (h : ∀ r ∈ (RL y 0).head?, r.1 ≠ 65533) : Fresh y := by
  intro h0 hb
  rw [RL_step h0] at h
  have h2 := h _ rfl
  apply h2
  show (Utf8.decode y 0).1 = 65533
  rw [Lib.decode_at, Lib.decodeN_bad _ _ _ _ _ (.inl (by omega))]
theorem get_at (s : ByteArray) (i : Nat) (h : i < s.size) : s.get! i = s[i]'h := by simp [ByteArray.get!, h]; rfl
theorem list_size (x : ByteArray) : x.data.toList.length = x.size := Array.length_toList
/-- A text that ends in a byte below 128 stands by itself. -/
theorem asc_app_end {x y : ByteArray} (h0 : 0 < x.size) (hb : (x.get! (x.size - 1)).toNat < 128) : RL (x ++ y) 0 = RL x 0 ++ RL y 0 := by
  obtain ⟨x0, b, hx⟩ : ∃ (x0 : ByteArray) (b : UInt8), x = x0 ++ ⟨#[b]⟩ := by
    refine ⟨x.extract 0 (x.size - 1), x.get! (x.size - 1), ?_⟩
    refine ByteArray.ext (Array.toList_inj.1 ?_)
    rw [app_list, Lib.extract_data, List.drop_zero, Nat.sub_zero]
    have hl : x.size - 1 < x.data.toList.length := by rw [list_size]; omega
    have e1 : x.data.toList = x.data.toList.take (x.size - 1) ++ x.data.toList.drop (x.size - 1) := (List.take_append_drop _ _).symm
    have e2 : x.data.toList.drop (x.size - 1) = [x.get! (x.size - 1)] := by
      rw [List.drop_eq_getElem_cons hl, List.drop_of_length_le (by rw [list_size]; omega), get_list, List.getD_eq_getElem?_getD, List.getElem?_eq_getElem hl]
      rfl
    rw [e2] at e1
    exact e1
  subst hx
  have hb2 : b.toNat < 128 := by
    have e : (x0 ++ (⟨#[b]⟩ : ByteArray)).get! ((x0 ++ (⟨#[b]⟩ : ByteArray)).size - 1) = b := by
      rw [app_size, show x0.size + (⟨#[b]⟩ : ByteArray).size - 1 = x0.size + 0 from rfl, app_get_r]
      rfl
    rw [e] at hb
    exact hb
  have hone : ∀ z : ByteArray, RL ((⟨#[b]⟩ : ByteArray) ++ z) 0 = (b.toNat, [b]) :: RL z 0 := by
    intro z
    have hs : 0 < ((⟨#[b]⟩ : ByteArray) ++ z).size := by rw [app_size]; show 0 < 1 + z.size; omega
    have hg : (((⟨#[b]⟩ : ByteArray) ++ z)[0]'hs) = b := by
      have e : ((⟨#[b]⟩ : ByteArray) ++ z).get! 0 = b := by rw [app_get_l (show 0 < (⟨#[b]⟩ : ByteArray).size from Nat.zero_lt_one)]; rfl
      have e2 := get_at _ 0 hs
      rw [← e2, e]
    have hd := Go.decode_ascii ((⟨#[b]⟩ : ByteArray) ++ z) 0 hs (by rw [hg]; exact hb2)
    rw [hg] at hd
    have hw : wdt ((⟨#[b]⟩ : ByteArray) ++ z) 0 = 1 := congrArg Prod.snd hd
    have hr : rn ((⟨#[b]⟩ : ByteArray) ++ z) 0 = b.toNat := congrArg Prod.fst hd
    rw [RL_step hs, hr, hw]
    rw [show RL ((⟨#[b]⟩ : ByteArray) ++ z) (0 + 1) = RL z 0 from RL_right (x := ⟨#[b]⟩) z.size 0 (by omega), show 0 + 1 = 1 from rfl, cut_app_l (show 1 ≤ (⟨#[b]⟩ : ByteArray).size from Nat.le_refl _)]
    rfl
  have hf : ∀ z : ByteArray, Fresh ((⟨#[b]⟩ : ByteArray) ++ z) := by
    intro z _
    rw [app_get_l (show 0 < (⟨#[b]⟩ : ByteArray).size from Nat.zero_lt_one)]
    show b.toNat / 64 ≠ 2
    omega
  have hf0 : Fresh (⟨#[b]⟩ : ByteArray) := by
    intro _
    show b.toNat / 64 ≠ 2
    omega
  have e0 : RL (⟨#[b]⟩ : ByteArray) 0 = [(b.toNat, [b])] := by
    have := hone ⟨#[]⟩
    rw [show (⟨#[b]⟩ : ByteArray) ++ ⟨#[]⟩ = ⟨#[b]⟩ from rfl] at this
    exact this
  rw [RL_join hf0, e0, show (x0 ++ (⟨#[b]⟩ : ByteArray)) ++ y = x0 ++ ((⟨#[b]⟩ : ByteArray) ++ y) from ByteArray.append_assoc, RL_join (hf y), hone]
  simp
theorem rl_last {x : ByteArray} : ∀ (d p : Nat), p < x.size → x.size ≤ p + d → ∀ r, (RL x p).getLast? = some r → r.1 < 128 → (x.get! (x.size - 1)).toNat < 128 := by
  intro d
  induction d with
  | zero => intro p hp h; omega
  | succ d ih =>
    intro p hp h r hr h128
    have a1 := adv_le x p hp
    have a2 := adv_pos x p
    rw [RL_step hp] at hr
    by_cases hq : p + wdt x p < x.size
    · rw [RL_step hq, List.getLast?_cons_cons, ← RL_step hq] at hr
      exact ih _ hq (by omega) r hr h128
    · rw [RL_end hq] at hr
      have e : (rn x p, cut x p (p + wdt x p)) = r := Option.some.inj hr
      rw [← e] at h128
      obtain ⟨d1, d2⟩ := decode_small x p h128
      have hw : wdt x p = 1 := d1
      rw [show x.size - 1 = p by omega, ← d2]
      exact h128
theorem rl_piece {s : ByteArray} {P : Nat → Prop} {a e : Nat} (he : e ≤ s.size) {p c q ce : Nat} (h : Steps s P p c q ce) : q = e → a ≤ p → RL s p = RL (s.extract a e) (p - a) ++ RL s e ∧ ∀ r ∈ RL (s.extract a e) (p - a), P r.1 := by
  induction h with
  | refl p c =>
    intro hq ha
    subst hq
    rw [RL_end (s := s.extract a p) (by rw [ext_size he]; omega)]
    exact ⟨rfl, fun r hr => absurd hr (by simp)⟩
  | @step p c q ce h hP t ih =>
    intro hq ha
    subst hq
    have hle := t.le.1
    have hw := adv_pos s p
    have hd : Utf8.decode (s.extract a q) (p - a) = Utf8.decode s p := by
      have := ext_decode (s := s) (a := a) (e := q) (j := p - a) he (by omega) (by rw [show a + (p - a) = p by omega]; exact hle)
      rwa [show a + (p - a) = p by omega] at this
    have hc : cut (s.extract a q) (p - a) (p - a + wdt s p) = cut s p (p + wdt s p) := by
      rw [cut_list, cut_list, Lib.extract_data, List.drop_take, List.drop_drop, List.take_take, show a + (p - a) = p by omega, show min (p - a + wdt s p - (p - a)) (q - a - (p - a)) = p + wdt s p - p by omega]
    obtain ⟨i1, i2⟩ := ih rfl (by omega)
    rw [RL_step h, RL_step (s := s.extract a q) (by rw [ext_size he]; omega)]
    rw [show rn (s.extract a q) (p - a) = rn s p by rw [rn, hd], show wdt (s.extract a q) (p - a) = wdt s p by rw [wdt, hd], hc, show p - a + wdt s p = p + wdt s p - a by omega]
    refine ⟨by rw [i1]; rfl, fun r hr => ?_⟩
    rcases List.mem_cons.1 hr with rfl | hr
    · exact hP
    · exact i2 r hr
theorem scan_start {s : ByteArray} : ∀ (f p c k a e ca ce : Nat), scanE s f p c = .tok k a e ca ce → a < s.size ∧ Lib.isSpaceZ (rn s a : Int) = false := by
  intro f
  induction f with
  | zero => intro p c k a e ca ce h; exact nomatch h
  | succ f ih =>
    intro p c k a e ca ce hs
    have no : ∀ q, (rn s q = 123 ∨ rn s q = 125 ∨ rn s q = 44 ∨ rn s q = 61 ∨ rn s q = 33 ∨ rn s q = 34 ∨ resR (rn s q : Int) = false) → Lib.isSpaceZ (rn s q : Int) = false := by
      intro q hq
      cases hsp : Lib.isSpaceZ (rn s q : Int) with
      | false => rfl
      | true =>
        obtain ⟨n1, n2, n3, n4, n5, n6, n7, n8⟩ := space_not hsp
        rcases hq with h | h | h | h | h | h | h
        · exact absurd h n1
        · exact absurd h n2
        · exact absurd h n3
        · exact absurd h n4
        · exact absurd h n5
        · exact absurd h n6
        · rw [n8] at h; exact nomatch h
    unfold scanE at hs
    split at hs
    · rename_i hlt
      split at hs
      · rename_i h1; injection hs with e1 e2; subst e2; exact ⟨hlt, no _ (by omega)⟩
      · split at hs
        · rename_i h1; injection hs with e1 e2; subst e2; exact ⟨hlt, no _ (by omega)⟩
        · split at hs
          · rename_i h1; injection hs with e1 e2; subst e2; exact ⟨hlt, no _ (by omega)⟩
          · split at hs
            · rename_i h1
              have ha : a = p := by
                unfold opR at hs
                repeat' split at hs
                all_goals first | (simp at hs; done) | (injection hs with e1 e2; exact e2.symm)
              subst ha
              exact ⟨hlt, no _ (by omega)⟩
            · split at hs
              · rename_i h1
                unfold quoR at hs
                split at hs
                · injection hs with e1 e2; subst e2; exact ⟨hlt, no _ (by omega)⟩
                · exact nomatch hs
              · split at hs
                · rename_i h1
                  unfold unqR at hs
                  injection hs with e1 e2; subst e2; exact ⟨hlt, no _ (.inr (.inr (.inr (.inr (.inr (.inr h1))))))⟩
                · split at hs
                  · exact ih _ _ _ _ _ _ _ hs
                  · exact nomatch hs
    · exact nomatch hs
theorem quoL_last {b : Bool} {L T rest : List RB} (h : quoL b L = some (T, rest)) : ∀ r ∈ T.getLast?, r.1 = 34 := by
  induction L generalizing b T rest with
  | nil => cases b <;> exact nomatch h
  | cons r L ih =>
    have go : ∀ (b2 : Bool), quoL b (r :: L) = (quoL b2 L).map (fun q => (r :: q.1, q.2)) → ∀ r ∈ T.getLast?, r.1 = 34 := by
      intro b2 h1
      rw [h1] at h
      cases hq : quoL b2 L with
      | none => rw [hq] at h; exact nomatch h
      | some q =>
        rw [hq] at h
        have := Option.some.inj h
        simp only [Prod.mk.injEq] at this
        obtain ⟨rfl, rfl⟩ := this
        have i1 := ih (b := b2) (T := q.1) (rest := q.2) hq
        obtain ⟨j1, j2⟩ := quoL_app (T := q.1) (rest := q.2) hq
        intro x hx
        cases hq1 : q.1 with
        | nil =>
          have := j2 []
          rw [hq1] at this
          cases b2 <;> exact nomatch this
        | cons u v =>
          rw [hq1, List.getLast?_cons_cons] at hx
          exact i1 x (by rw [hq1]; exact hx)
    cases b with
    | true => exact go false rfl
    | false =>
      by_cases h92 : r.1 = 92
      · exact go true (if_pos h92)
      · by_cases h34 : r.1 = 34
        · rw [show quoL false (r :: L) = some ([r], L) from (if_neg h92).trans (if_pos h34)] at h
          have := Option.some.inj h
          simp only [Prod.mk.injEq] at this
          obtain ⟨rfl, rfl⟩ := this
          intro x hx
          obtain rfl := Option.some.inj hx
          exact h34
        · exact go false ((if_neg h92).trans (if_neg h34))
theorem scan_last {L : List RB} : ∀ {k : Nat} {T rest : List RB}, scanL L = .tok k T rest → k ≠ 9 → ∀ r ∈ T.getLast?, r.1 < 128 := by
  induction L with
  | nil => intro k T rest h; exact nomatch h
  | cons r L ih =>
    intro k T rest h hk
    unfold scanL at h
    have one : ∀ {x : RB}, x.1 < 128 → ∀ y ∈ [x].getLast?, y.1 < 128 := by
      intro x hx y hy
      obtain rfl := Option.some.inj hy
      exact hx
    have two : ∀ {z x : RB}, x.1 < 128 → ∀ y ∈ [z, x].getLast?, y.1 < 128 := by
      intro z x hx y hy
      obtain rfl := Option.some.inj hy
      exact hx
    split at h
    · rename_i h1; injection h with e1 e2 e3; subst e2; exact one (by omega)
    · split at h
      · rename_i h1; injection h with e1 e2 e3; subst e2; exact one (by omega)
      · split at h
        · rename_i h1; injection h with e1 e2 e3; subst e2; exact one (by omega)
        · split at h
          · rename_i h1
            unfold opL at h
            split at h
            · split at h
              · exact nomatch h
              · injection h with e1 e2 e3; subst e2; exact one (by omega)
            · split at h
              · split at h
                · injection h with e1 e2 e3; subst e2; exact two (by omega)
                · split at h
                  · injection h with e1 e2 e3; subst e2; exact two (by omega)
                  · exact nomatch h
              · split at h
                · injection h with e1 e2 e3; subst e2; exact two (by omega)
                · injection h with e1 e2 e3; subst e2; exact one (by omega)
          · split at h
            · rename_i h1
              cases hq : quoL false L with
              | none => rw [hq] at h; exact nomatch h
              | some q =>
                rw [hq] at h
                injection h with e1 e2 e3
                subst e2
                have hl := quoL_last (T := q.1) (rest := q.2) hq
                intro x hx
                cases hq1 : q.1 with
                | nil =>
                  rw [hq1] at hx
                  have e : r = x := Option.some.inj hx
                  subst e
                  omega
                | cons u v =>
                  rw [hq1, List.getLast?_cons_cons] at hx
                  have := hl x (by rw [hq1]; exact hx)
                  omega
            · split at h
              · injection h with e1 e2 e3
                exact absurd e1.symm hk
              · split at h
                · exact ih h hk
                · exact nomatch h
end Go.Proofs.YtmjoebnphacadaaDoor.Lex
