/- What a scan's places say of the text: the steps of runes from place to place; runes counted, white space asked for, of a piece. -/
import Derived.Test.YtmjoebnphacadaaDoorLexJ
import Derived.Lib.DecodeN
import Derived.Lib.RuneCountTail
namespace Go.Proofs.YtmjoebnphacadaaDoor.Lex
open Go.RowKit Go.Lib
set_option linter.unusedVariables false
theorem decodeN_cut {n n' b0 b1 b2 b3 c1 c2 c3 : Nat} (hn : 1 ≤ n) (hnn : n ≤ n') (hw : (Lib.decodeN n' b0 b1 b2 b3).2 ≤ n) (h1 : 1 < n → c1 = b1) (h2 : 2 < n → c2 = b2) (h3 : 3 < n → c3 = b3) :
    Lib.decodeN n b0 c1 c2 c3 = Lib.decodeN n' b0 b1 b2 b3 := by
  unfold Lib.decodeN at hw ⊢
  by_cases k1 : 1 < n
  · obtain rfl := h1 k1
    by_cases k2 : 2 < n
    · obtain rfl := h2 k2
      by_cases k3 : 3 < n
      · obtain rfl := h3 k3
        have e1 : 1 < n' := by omega
        have e2 : 2 < n' := by omega
        have e3 : 3 < n' := by omega
        simp only [k1, k2, k3, e1, e2, e3, true_and]
      · have e1 : 1 < n' := by omega
        have e2 : 2 < n' := by omega
        simp only [k1, k2, k3, e1, e2, true_and, false_and, and_false, if_false] at hw ⊢
        grind
    · have e1 : 1 < n' := by omega
      simp only [k1, k2, e1, true_and, false_and, and_false, if_false] at hw ⊢
      grind
  · simp only [k1, false_and, and_false, if_false] at hw ⊢
    grind
theorem ext_get {s : ByteArray} {a e j : Nat} (he : e ≤ s.size) (h : a + j < e) : (s.extract a e).get! j = s.get! (a + j) := by
  rw [← Lib.getD_get!', ← Lib.getD_get!', Lib.extract_data]
  simp only [List.getD, List.getElem?_take, List.getElem?_drop]
  rw [if_pos (by omega)]
theorem ext_size {s : ByteArray} {a e : Nat} (he : e ≤ s.size) : (s.extract a e).size = e - a := by
  rw [ByteArray.size_extract]
  omega
/-- A rune that ends within a piece is the same in the piece. -/
theorem ext_decode {s : ByteArray} {a e j : Nat} (he : e ≤ s.size) (hj : a + j < e) (hw : a + j + wdt s (a + j) ≤ e) : Utf8.decode (s.extract a e) j = Utf8.decode s (a + j) := by
  have hw' : a + j + (Utf8.decode s (a + j)).2 ≤ e := hw
  rw [Lib.decode_at, Lib.decode_at, ext_size he, ext_get he hj]
  rw [Lib.decode_at] at hw'
  refine decodeN_cut (by omega) (by omega) (by omega) (fun h => ?_) (fun h => ?_) (fun h => ?_)
  · rw [ext_get he (by omega)]; rfl
  · rw [ext_get he (by omega)]; rfl
  · rw [ext_get he (by omega)]; rfl
/-- From a place and its column on to another one, rune by rune. -/
inductive Steps (s : ByteArray) (P : Nat → Prop) : Nat → Nat → Nat → Nat → Prop
  | refl (p c : Nat) : Steps s P p c p c
  | step {p c e ce : Nat} (h : p < s.size) (hP : P (rn s p)) (t : Steps s P (p + wdt s p) (c + 1) e ce) : Steps s P p c e ce
theorem Steps.le {s : ByteArray} {P : Nat → Prop} {p c e ce : Nat} (h : Steps s P p c e ce) : p ≤ e ∧ c ≤ ce := by
  induction h with
  | refl => exact ⟨Nat.le_refl _, Nat.le_refl _⟩
  | step h hP t ih => omega
theorem Steps.trans {s : ByteArray} {P : Nat → Prop} {p c q cq e ce : Nat} (h : Steps s P p c q cq) (k : Steps s P q cq e ce) : Steps s P p c e ce := by
  induction h with
  | refl => exact k
  | step h hP t ih => exact .step h hP (ih k)
theorem Steps.one {s : ByteArray} {P : Nat → Prop} {p c : Nat} (h : p < s.size) (hP : P (rn s p)) : Steps s P p c (p + wdt s p) (c + 1) := .step h hP (.refl _ _)
theorem steps_count {s : ByteArray} {P : Nat → Prop} {a e : Nat} (he : e ≤ s.size) : ∀ {p c ce : Nat}, Steps s P p c e ce → a ≤ p → ∀ f, e - p ≤ f → Lib.runeCountFrom (s.extract a e) f (p - a) = ce - c := by
  intro p c ce h
  generalize hE : e = E at h
  induction h with
  | refl p c =>
    intro ha f hf
    subst hE
    rw [Lib.runeCountFrom_end _ _ _ (by rw [ext_size he]; omega)]
    omega
  | @step p c e' ce' h hP t ih =>
    intro ha f hf
    subst hE
    have h1 := t.le
    have h2 := adv_pos s p
    obtain ⟨g, rfl⟩ : ∃ g, f = g + 1 := ⟨f - 1, by omega⟩
    unfold Lib.runeCountFrom
    rw [if_pos (by rw [ext_size he]; omega), ext_decode he (by omega) (by rw [show a + (p - a) = p by omega]; omega), show a + (p - a) = p by omega]
    have h3 := ih rfl (by omega) g (by omega)
    rw [show p + wdt s p - a = p - a + (Utf8.decode s p).2 by show p + wdt s p - a = p - a + wdt s p; omega] at h3
    rw [h3]
    omega
/-- Is a text white space alone, from a place on? -/
def blankR (s : ByteArray) : Nat → Nat → Bool
  | 0, _ => true
  | f + 1, pos => if pos < s.size then (if Lib.isSpaceZ (rn s pos) = true then blankR s f (pos + wdt s pos) else false) else true
theorem blankR_end {s : ByteArray} {f pos : Nat} (h : ¬ pos < s.size) : blankR s f pos = true := by
  cases f with
  | zero => rfl
  | succ f => exact if_neg h
theorem blankR_step {s : ByteArray} {f pos : Nat} (h : pos < s.size) (h2 : Lib.isSpaceZ (rn s pos) = true) : blankR s (f + 1) pos = blankR s f (pos + wdt s pos) := (if_pos h).trans (if_pos h2)
theorem blankR_stop {s : ByteArray} {f pos : Nat} (h : pos < s.size) (h2 : Lib.isSpaceZ (rn s pos) = false) : blankR s (f + 1) pos = false := (if_pos h).trans (if_neg (by rw [h2]; decide))
def SpP (r : Nat) : Prop := Lib.isSpaceZ (r : Int) = true
theorem steps_blank {s : ByteArray} {a e : Nat} (he : e ≤ s.size) : ∀ {p c ce : Nat}, Steps s SpP p c e ce → a ≤ p → ∀ f, e - p ≤ f → blankR (s.extract a e) f (p - a) = true := by
  intro p c ce h
  generalize hE : e = E at h
  induction h with
  | refl p c =>
    intro ha f hf
    subst hE
    exact blankR_end (by rw [ext_size he]; omega)
  | @step p c e' ce' h hP t ih =>
    intro ha f hf
    subst hE
    have h1 := t.le
    have h2 := adv_pos s p
    obtain ⟨g, rfl⟩ : ∃ g, f = g + 1 := ⟨f - 1, by omega⟩
    have hd : Utf8.decode (s.extract a e) (p - a) = Utf8.decode s p := by
      rw [ext_decode he (by omega) (by rw [show a + (p - a) = p by omega]; omega), show a + (p - a) = p by omega]
    have hr : rn (s.extract a e) (p - a) = rn s p := congrArg Prod.fst hd
    have hwd : wdt (s.extract a e) (p - a) = wdt s p := congrArg Prod.snd hd
    rw [blankR_step (by rw [ext_size he]; omega) (by rw [hr]; exact hP), hwd]
    have h3 := ih rfl (by omega) g (by omega)
    rw [show p + wdt s p - a = p - a + wdt s p by omega] at h3
    exact h3
def AnyP (_ : Nat) : Prop := True
theorem unqE_steps {s : ByteArray} : ∀ (f p c : Nat), Steps s AnyP p c (unqE s f p c).1 (unqE s f p c).2 := by
  intro f
  induction f with
  | zero => intro p c; exact .refl _ _
  | succ f ih =>
    intro p c
    by_cases h : p < s.size ∧ resR (rn s p) = false
    · rw [unqE_step h.1 h.2]
      exact .step h.1 trivial (ih _ _)
    · rw [unqE_stop h]
      exact .refl _ _
theorem quoE_steps {s : ByteArray} : ∀ (f : Nat) (esc : Bool) (p c E CE : Nat), quoE s f esc p c = some (E, CE) → Steps s AnyP p c E CE ∧ E < s.size := by
  intro f
  induction f with
  | zero => intro esc p c E CE h; exact nomatch h
  | succ f ih =>
    intro esc p c E CE h
    by_cases hp : p < s.size
    · cases esc with
      | true =>
        rw [quoE_esc hp] at h
        exact ⟨.step hp trivial (ih _ _ _ _ _ h).1, (ih _ _ _ _ _ h).2⟩
      | false =>
        by_cases h92 : rn s p = 92
        · rw [quoE_back hp h92] at h
          exact ⟨.step hp trivial (ih _ _ _ _ _ h).1, (ih _ _ _ _ _ h).2⟩
        · by_cases h34 : rn s p = 34
          · rw [quoE_quote hp h34] at h
            injection h with h
            injection h with e1 e2
            subst e1 e2
            exact ⟨.refl _ _, hp⟩
          · rw [quoE_more hp h92 h34] at h
            exact ⟨.step hp trivial (ih _ _ _ _ _ h).1, (ih _ _ _ _ _ h).2⟩
    · rw [quoE_end hp] at h
      exact nomatch h
theorem acc_lt {s v : ByteArray} {p : Nat} (h : accB s v p = true) : p < s.size := by
  unfold accB at h
  simp only [Bool.and_eq_true, decide_eq_true_eq] at h
  exact h.1
theorem opR_steps {s : ByteArray} {p c k a e ca ce : Nat} (h : opR s p c = .tok k a e ca ce) : a = p ∧ ca = c ∧ Steps s AnyP p c e ce := by
  unfold opR at h
  split at h
  · rename_i h1
    have A1 := acc_lt h1
    split at h
    · rename_i h2
      have A2 := acc_lt h2
      injection h with e1 e2 e3 e4 e5
      subst e2 e3 e4 e5
      exact ⟨rfl, rfl, .step A1 trivial (.one A2 trivial)⟩
    · split at h
      · rename_i h2
        have A2 := acc_lt h2
        injection h with e1 e2 e3 e4 e5
        subst e2 e3 e4 e5
        exact ⟨rfl, rfl, .step A1 trivial (.one A2 trivial)⟩
      · exact nomatch h
  · split at h
    · rename_i h1
      have A1 := acc_lt h1
      split at h
      · rename_i h2
        have A2 := acc_lt h2
        injection h with e1 e2 e3 e4 e5
        subst e2 e3 e4 e5
        exact ⟨rfl, rfl, .step A1 trivial (.one A2 trivial)⟩
      · injection h with e1 e2 e3 e4 e5
        subst e2 e3 e4 e5
        exact ⟨rfl, rfl, .one A1 trivial⟩
    · exact nomatch h
/-- Ahead of a token there is white space alone; its text goes from rune to rune. -/
theorem scanE_steps {s : ByteArray} : ∀ (f p c k a e ca ce : Nat), scanE s f p c = .tok k a e ca ce → Steps s SpP p c a ca ∧ Steps s AnyP a ca e ce := by
  intro f
  induction f with
  | zero => intro p c k a e ca ce h; exact nomatch h
  | succ f ih =>
    intro p c k a e ca ce h
    unfold scanE at h
    split at h
    · rename_i hlt
      split at h
      · injection h with e1 e2 e3 e4 e5
        subst e2 e3 e4 e5
        exact ⟨.refl _ _, .one hlt trivial⟩
      · split at h
        · injection h with e1 e2 e3 e4 e5
          subst e2 e3 e4 e5
          exact ⟨.refl _ _, .one hlt trivial⟩
        · split at h
          · injection h with e1 e2 e3 e4 e5
            subst e2 e3 e4 e5
            exact ⟨.refl _ _, .one hlt trivial⟩
          · split at h
            · obtain ⟨rfl, rfl, hs⟩ := opR_steps h
              exact ⟨.refl _ _, hs⟩
            · split at h
              · unfold quoR at h
                split at h
                · rename_i E CE hq
                  obtain ⟨h1, h2⟩ := quoE_steps _ _ _ _ _ _ hq
                  injection h with e1 e2 e3 e4 e5
                  subst e2 e3 e4 e5
                  exact ⟨.refl _ _, .step hlt trivial (h1.trans (.one h2 trivial))⟩
                · exact nomatch h
              · split at h
                · unfold unqR at h
                  injection h with e1 e2 e3 e4 e5
                  subst e2 e3 e4 e5
                  exact ⟨.refl _ _, unqE_steps _ _ _⟩
                · split at h
                  · rename_i hsp
                    have h3 := ih _ _ _ _ _ _ _ h
                    exact ⟨.step hlt hsp h3.1, h3.2⟩
                  · exact nomatch h
    · exact nomatch h
theorem scanE_eof {s : ByteArray} : ∀ (f p c q cq : Nat), s.size + 1 ≤ p + f → scanE s f p c = .eof q cq → Steps s SpP p c q cq ∧ ¬ q < s.size := by
  intro f
  induction f with
  | zero =>
    intro p c q cq hf h
    injection h with e1 e2
    subst e1 e2
    exact ⟨.refl _ _, by omega⟩
  | succ f ih =>
    intro p c q cq hf h
    unfold scanE at h
    split at h
    · rename_i hlt
      have h2 := adv_pos s p
      split at h
      · exact nomatch h
      · split at h
        · exact nomatch h
        · split at h
          · exact nomatch h
          · split at h
            · unfold opR at h
              repeat' split at h
              all_goals exact nomatch h
            · split at h
              · unfold quoR at h
                split at h <;> exact nomatch h
              · split at h
                · exact nomatch h
                · split at h
                  · rename_i hsp
                    have h3 := ih _ _ _ _ (by omega) h
                    exact ⟨.step hlt hsp h3.1, h3.2⟩
                  · exact nomatch h
    · rename_i hlt
      injection h with e1 e2
      subst e1 e2
      exact ⟨.refl _ _, hlt⟩
end Go.Proofs.YtmjoebnphacadaaDoor.Lex
