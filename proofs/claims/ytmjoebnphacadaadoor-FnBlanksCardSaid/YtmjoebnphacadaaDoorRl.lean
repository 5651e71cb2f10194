/- The scanner over the list of a text's runes. -/
import Derived.Test.YtmjoebnphacadaaDoorSnd
namespace Go.Proofs.YtmjoebnphacadaaDoor.Lex
open Go.RowKit Go.Lib Go.Proofs.YtmjoebnphacadaaDoor.Pure Go.Proofs.YtmjoebnphacadaaDoor.Q Go.Proofs.YtmjoebnphacadaaDoorW.PrintWords Go.Proofs.YtmjoebnphacadaaDoorW.PrintLast
set_option linter.unusedVariables false
set_option linter.unusedSimpArgs false
/-- A rune and its bytes. -/
abbrev RB := Nat × List UInt8
def cut (s : ByteArray) (a e : Nat) : List UInt8 := (s.extract a e).data.toList
def rl (s : ByteArray) : Nat → Nat → List RB
  | 0, _ => []
  | f + 1, p => if p < s.size then (rn s p, cut s p (p + wdt s p)) :: rl s f (p + wdt s p) else []
/-- The runes from a place on. -/
def RL (s : ByteArray) (p : Nat) : List RB := rl s (s.size - p) p
theorem rl_fed {s : ByteArray} {f : Nat} : ∀ {g p : Nat}, s.size ≤ p + f → s.size ≤ p + g → rl s f p = rl s g p := by
  induction f with
  | zero =>
    intro g p h1 h2
    cases g with
    | zero => rfl
    | succ g => exact (if_neg (by omega)).symm
  | succ f ih =>
    intro g p h1 h2
    by_cases hp : p < s.size
    · obtain ⟨g, rfl⟩ : ∃ m, g = m + 1 := ⟨g - 1, by omega⟩
      have := adv_pos s p
      show (if p < s.size then _ else _) = (if p < s.size then _ else _)
      rw [if_pos hp, if_pos hp, ih (g := g) (by omega) (by omega)]
    · cases g with
      | zero => exact if_neg hp
      | succ g => exact (if_neg hp).trans (if_neg hp).symm
theorem RL_end {s : ByteArray} {p : Nat} (h : ¬ p < s.size) : RL s p = [] := by
  unfold RL
  rw [show s.size - p = 0 by omega]
  rfl
theorem RL_step {s : ByteArray} {p : Nat} (h : p < s.size) : RL s p = (rn s p, cut s p (p + wdt s p)) :: RL s (p + wdt s p) := by
  have := adv_pos s p
  unfold RL
  obtain ⟨g, hg⟩ : ∃ g, s.size - p = g + 1 := ⟨s.size - p - 1, by omega⟩
  rw [hg]
  show (if p < s.size then _ else _) = _
  rw [if_pos h, rl_fed (g := s.size - (p + wdt s p)) (by omega) (by omega)]
theorem cut_self (s : ByteArray) (p : Nat) : cut s p p = [] := by
  unfold cut
  rw [Lib.extract_data, Nat.sub_self]
  rfl
theorem cut_app {s : ByteArray} {a b e : Nat} (h1 : a ≤ b) (h2 : b ≤ e) : cut s a b ++ cut s b e = cut s a e := by
  unfold cut
  rw [Lib.extract_data, Lib.extract_data, Lib.extract_data, show e - a = (b - a) + (e - b) by omega, List.take_add, List.drop_drop, show a + (b - a) = b by omega]
def nr (r : RB) : Bool := !resR r.1
inductive LR
  | eof
  | bad
  | tok (k : Nat) (T rest : List RB)
/-- What stands up to the closing quote, and what is behind it. -/
def quoL : Bool → List RB → Option (List RB × List RB)
  | _, [] => none
  | true, r :: L => (quoL false L).map fun q => (r :: q.1, q.2)
  | false, r :: L => if r.1 = 92 then (quoL true L).map fun q => (r :: q.1, q.2) else if r.1 = 34 then some ([r], L) else (quoL false L).map fun q => (r :: q.1, q.2)
def opL (r : RB) : List RB → LR
  | [] => if r.1 = 33 then .bad else .tok 4 [r] []
  | x :: L => if r.1 = 33 then (if x.1 = 61 then .tok 5 [r, x] L else if x.1 = 126 then .tok 7 [r, x] L else .bad) else if x.1 = 126 then .tok 6 [r, x] L else .tok 4 [r] (x :: L)
/-- The next token of a list of runes. -/
def scanL : List RB → LR
  | [] => .eof
  | r :: L =>
    if r.1 = 123 then .tok 1 [r] L
    else if r.1 = 125 then .tok 2 [r] L
    else if r.1 = 44 then .tok 3 [r] L
    else if r.1 = 61 ∨ r.1 = 33 then opL r L
    else if r.1 = 34 then (match quoL false L with | some q => .tok 8 (r :: q.1) q.2 | none => .bad)
    else if resR r.1 = false then .tok 9 ((r :: L).takeWhile nr) ((r :: L).dropWhile nr)
    else if Lib.isSpaceZ r.1 = true then scanL L else .bad
def txt (T : List RB) : List UInt8 := T.flatMap (·.2)
/-- A scan of the text, and of its runes. -/
def SameLR (s : ByteArray) : TR → LR → Prop
  | .eof _ _, .eof => True
  | .bad, .bad => True
  | .tok k a e _ _, .tok k2 T rest => k = k2 ∧ rest = RL s e ∧ txt T = cut s a e ∧ e ≤ s.size ∧ a ≤ e
  | _, _ => False
theorem unqE_list {s : ByteArray} : ∀ (f p c : Nat), p ≤ s.size → s.size ≤ p + f → (RL s p).dropWhile nr = RL s (unqE s f p c).1 ∧ txt ((RL s p).takeWhile nr) = cut s p (unqE s f p c).1 ∧ (unqE s f p c).1 ≤ s.size ∧ p ≤ (unqE s f p c).1 := by
  intro f
  induction f with
  | zero =>
    intro p c hp hf
    rw [RL_end (by omega)]
    show [] = RL s p ∧ _ = cut s p p ∧ _
    rw [RL_end (by omega), cut_self]
    exact ⟨rfl, rfl, hp, Nat.le_refl _⟩
  | succ f ih =>
    intro p c hp hf
    by_cases h : p < s.size
    · by_cases h2 : resR (rn s p) = false
      · have a1 := adv_le s p h
        have a2 := adv_pos s p
        obtain ⟨i1, i2, i3, i4⟩ := ih (p + wdt s p) (c + 1) a1 (by omega)
        rw [unqE_step h h2, RL_step h]
        have hn : nr (rn s p, cut s p (p + wdt s p)) = true := by unfold nr; simp [h2]
        rw [List.dropWhile_cons_of_pos hn, List.takeWhile_cons_of_pos hn]
        refine ⟨i1, ?_, i3, by omega⟩
        show cut s p (p + wdt s p) ++ txt _ = _
        rw [i2, cut_app (by omega) i4]
      · rw [unqE_stop (by intro hh; exact h2 hh.2), RL_step h]
        have hn : ¬ nr (rn s p, cut s p (p + wdt s p)) = true := by unfold nr; simp [h2]
        rw [List.dropWhile_cons_of_neg hn, List.takeWhile_cons_of_neg hn, ← RL_step h, cut_self]
        exact ⟨rfl, rfl, hp, Nat.le_refl _⟩
    · rw [unqE_stop (by intro hh; exact h hh.1), RL_end h, cut_self]
      exact ⟨rfl, rfl, hp, Nat.le_refl _⟩
theorem quoE_list {s : ByteArray} : ∀ (f : Nat) (esc : Bool) (p c : Nat), p ≤ s.size → s.size ≤ p + f → match quoE s f esc p c with
    | none => quoL esc (RL s p) = none
    | some (E, _) => ∃ T, quoL esc (RL s p) = some (T, RL s (E + wdt s E)) ∧ txt T = cut s p (E + wdt s E) ∧ E + wdt s E ≤ s.size ∧ p ≤ E := by
  intro f
  induction f with
  | zero =>
    intro esc p c hp hf
    show quoL esc (RL s p) = none
    rw [RL_end (by omega)]
    cases esc <;> rfl
  | succ f ih =>
    intro esc p c hp hf
    by_cases h : p < s.size
    · have a1 := adv_le s p h
      have a2 := adv_pos s p
      have go : ∀ (b : Bool), quoL esc (RL s p) = (quoL b (RL s (p + wdt s p))).map (fun q => ((rn s p, cut s p (p + wdt s p)) :: q.1, q.2)) → quoE s (f + 1) esc p c = quoE s f b (p + wdt s p) (c + 1) → match quoE s (f + 1) esc p c with
          | none => quoL esc (RL s p) = none
          | some (E, _) => ∃ T, quoL esc (RL s p) = some (T, RL s (E + wdt s E)) ∧ txt T = cut s p (E + wdt s E) ∧ E + wdt s E ≤ s.size ∧ p ≤ E := by
        intro b h1 h2
        have := ih b (p + wdt s p) (c + 1) a1 (by omega)
        rw [h2]
        revert this
        cases hq : quoE s f b (p + wdt s p) (c + 1) with
        | none => intro this; dsimp only at this ⊢; rw [h1, this]; rfl
        | some q =>
          obtain ⟨E, CE⟩ := q
          intro this
          dsimp only at this ⊢
          obtain ⟨T, t1, t2, t3, t4⟩ := this
          refine ⟨_, by rw [h1, t1]; rfl, ?_, t3, by omega⟩
          show cut s p (p + wdt s p) ++ txt T = _
          rw [t2, cut_app (by omega) (by omega)]
      cases esc with
      | true => exact go false (by rw [RL_step h]; rfl) (quoE_esc h)
      | false =>
        by_cases h92 : rn s p = 92
        · exact go true (by rw [RL_step h]; exact if_pos h92) (quoE_back h h92)
        · by_cases h34 : rn s p = 34
          · rw [quoE_quote h h34]
            dsimp only
            refine ⟨[(rn s p, cut s p (p + wdt s p))], ?_, ?_, a1, Nat.le_refl _⟩
            · rw [RL_step h]
              exact (if_neg h92).trans (if_pos h34)
            · show cut s p (p + wdt s p) ++ [] = _
              rw [List.append_nil]
          · exact go false (by rw [RL_step h]; exact (if_neg h92).trans (if_neg h34)) (quoE_more h h92 h34)
    · rw [quoE_end h]
      dsimp only
      rw [RL_end h]
      cases esc <;> rfl
theorem zz_self {b : UInt8} (hb : b.toNat < 128) : zzIdx ⟨#[b]⟩ (b.toNat : Int) ≥ 0 := by
  unfold zzIdx
  have hn : badR (b.toNat : Int) = false := by
    unfold badR
    simp
    omega
  rw [hn, if_neg (by simp), show (⟨#[b]⟩ : ByteArray).size = 1 from rfl, idxR_step (by show 0 < 1; omega), Go.decode_ascii ⟨#[b]⟩ 0 (by show 0 < 1; omega) hb]
  split
  · omega
  · rename_i h
    exact absurd rfl h
theorem acc_one {s : ByteArray} {b : UInt8} (hb : b.toNat < 128) (p : Nat) : accB s ⟨#[b]⟩ p = true ↔ p < s.size ∧ rn s p = b.toNat := by
  unfold accB
  rw [Bool.and_eq_true, decide_eq_true_eq, decide_eq_true_eq]
  constructor
  · rintro ⟨h1, h2⟩
    have := zz_one hb h2
    exact ⟨h1, by omega⟩
  · rintro ⟨h1, h2⟩
    rw [h2]
    exact ⟨h1, zz_self hb⟩
theorem opR_list {s : ByteArray} {p c : Nat} (hp : p < s.size) (ho : rn s p = 61 ∨ rn s p = 33) : SameLR s (opR s p c) (opL (rn s p, cut s p (p + wdt s p)) (RL s (p + wdt s p))) := by
  have a1 := adv_le s p hp
  have a2 := adv_pos s p
  have eX : accB s xB p = true ↔ rn s p = 33 := ⟨fun h => ((acc_one (b := 33) (by decide) p).1 h).2, fun h => (acc_one (b := 33) (by decide) p).2 ⟨hp, h⟩⟩
  have eE : ∀ q, accB s eB q = true ↔ q < s.size ∧ rn s q = 61 := fun q => acc_one (b := 61) (by decide) q
  have eT : ∀ q, accB s tB q = true ↔ q < s.size ∧ rn s q = 126 := fun q => acc_one (b := 126) (by decide) q
  have two : ∀ q w, q = p + wdt s p → txt [(rn s p, cut s p (p + wdt s p)), (rn s q, cut s q (q + w))] = cut s p (q + w) := by
    intro q w hq
    show cut s p (p + wdt s p) ++ (cut s q (q + w) ++ []) = _
    rw [List.append_nil, ← hq, cut_app (by omega) (by omega)]
  have one : txt [(rn s p, cut s p (p + wdt s p))] = cut s p (p + wdt s p) := by
    show cut s p (p + wdt s p) ++ [] = _
    rw [List.append_nil]
  unfold opR
  by_cases h33 : rn s p = 33
  · rw [if_pos (eX.2 h33)]
    by_cases hq : p + wdt s p < s.size
    · have b1 := adv_le s _ hq
      rw [RL_step hq]
      show SameLR s _ (if _ = 33 then (if _ then _ else if _ then _ else _) else _)
      rw [if_pos h33]
      by_cases h61 : rn s (p + wdt s p) = 61
      · rw [if_pos ((eE _).2 ⟨hq, h61⟩), if_pos h61]
        exact ⟨rfl, rfl, two _ _ rfl, b1, by omega⟩
      · rw [if_neg (fun h => h61 ((eE _).1 h).2), if_neg h61]
        by_cases h126 : rn s (p + wdt s p) = 126
        · rw [if_pos ((eT _).2 ⟨hq, h126⟩), if_pos h126]
          exact ⟨rfl, rfl, two _ _ rfl, b1, by omega⟩
        · rw [if_neg (fun h => h126 ((eT _).1 h).2), if_neg h126]
          trivial
    · rw [RL_end hq, if_neg (fun h => hq ((eE _).1 h).1), if_neg (fun h => hq ((eT _).1 h).1)]
      show SameLR s _ (if _ = 33 then _ else _)
      rw [if_pos h33]
      trivial
  · have h61 : rn s p = 61 := by omega
    rw [if_neg (fun h => h33 (eX.1 h)), if_pos ((eE _).2 ⟨hp, h61⟩)]
    by_cases hq : p + wdt s p < s.size
    · have b1 := adv_le s _ hq
      rw [RL_step hq]
      show SameLR s _ (if _ = 33 then _ else if _ then _ else _)
      rw [if_neg h33]
      by_cases h126 : rn s (p + wdt s p) = 126
      · rw [if_pos ((eT _).2 ⟨hq, h126⟩), if_pos h126]
        exact ⟨rfl, rfl, two _ _ rfl, b1, by omega⟩
      · rw [if_neg (fun h => h126 ((eT _).1 h).2), if_neg h126]
        exact ⟨rfl, (RL_step hq).symm, one, a1, by omega⟩
    · rw [RL_end hq, if_neg (fun h => hq ((eT _).1 h).1)]
      show SameLR s _ (if _ = 33 then _ else _)
      rw [if_neg h33]
      exact ⟨rfl, (RL_end hq).symm, one, a1, by omega⟩
theorem scanE_list {s : ByteArray} : ∀ (f p c : Nat), p ≤ s.size → s.size < p + f → SameLR s (scanE s f p c) (scanL (RL s p)) := by
  intro f
  induction f with
  | zero => intro p c hp hf; omega
  | succ f ih =>
    intro p c hp hf
    by_cases h : p < s.size
    · have a1 := adv_le s p h
      have a2 := adv_pos s p
      have one : txt [(rn s p, cut s p (p + wdt s p))] = cut s p (p + wdt s p) := by
        show cut s p (p + wdt s p) ++ [] = _
        rw [List.append_nil]
      rw [RL_step h]
      unfold scanE scanL
      rw [if_pos h]
      dsimp only
      by_cases h1 : rn s p = 123
      · rw [if_pos h1, if_pos h1]; exact ⟨rfl, rfl, one, a1, by omega⟩
      rw [if_neg h1, if_neg h1]
      by_cases h2 : rn s p = 125
      · rw [if_pos h2, if_pos h2]; exact ⟨rfl, rfl, one, a1, by omega⟩
      rw [if_neg h2, if_neg h2]
      by_cases h3 : rn s p = 44
      · rw [if_pos h3, if_pos h3]; exact ⟨rfl, rfl, one, a1, by omega⟩
      rw [if_neg h3, if_neg h3]
      by_cases h4 : rn s p = 61 ∨ rn s p = 33
      · rw [if_pos h4, if_pos h4]; exact opR_list h h4
      rw [if_neg h4, if_neg h4]
      by_cases h5 : rn s p = 34
      · rw [if_pos h5, if_pos h5]
        unfold quoR
        have := quoE_list s.size false (p + wdt s p) (c + 1) a1 (by omega)
        revert this
        cases hq : quoE s s.size false (p + wdt s p) (c + 1) with
        | none => intro this; dsimp only at this ⊢; rw [this]; trivial
        | some q =>
          obtain ⟨E, CE⟩ := q
          intro this
          dsimp only at this ⊢
          obtain ⟨T, t1, t2, t3, t4⟩ := this
          rw [t1]
          refine ⟨rfl, rfl, ?_, t3, by omega⟩
          show cut s p (p + wdt s p) ++ txt T = _
          rw [t2, cut_app (by omega) (by omega)]
      rw [if_neg h5, if_neg h5]
      by_cases h6 : resR (rn s p) = false
      · rw [if_pos h6, if_pos h6]
        obtain ⟨i1, i2, i3, i4⟩ := unqE_list s.size p c hp (by omega)
        rw [← RL_step h]
        exact ⟨rfl, i1, i2, i3, i4⟩
      rw [if_neg h6, if_neg h6]
      by_cases h7 : Lib.isSpaceZ (rn s p) = true
      · rw [if_pos h7, if_pos h7]
        exact ih (p + wdt s p) (c + 1) a1 (by omega)
      · rw [if_neg h7, if_neg h7]; trivial
    · rw [RL_end h, scanE_end h]; trivial
/-- The tokens of a list of runes. -/
def strmL : Nat → List RB → List Tk × Bool
  | 0, _ => ([], false)
  | f + 1, L => match scanL L with
    | .eof => ([], true)
    | .bad => ([], false)
    | .tok k T rest => ((k, ⟨(txt T).toArray⟩) :: (strmL f rest).1, (strmL f rest).2)
theorem strmL_def (f : Nat) (L : List RB) : strmL (f + 1) L = (match scanL L with
    | .eof => (([], true) : List Tk × Bool)
    | .bad => ([], false)
    | .tok k T rest => ((k, ⟨(txt T).toArray⟩) :: (strmL f rest).1, (strmL f rest).2)) := rfl
theorem strmL_tok {f : Nat} {L : List RB} {k : Nat} {T rest : List RB} (h : scanL L = .tok k T rest) : strmL (f + 1) L = ((k, ⟨(txt T).toArray⟩) :: (strmL f rest).1, (strmL f rest).2) := by
  rw [strmL_def, h]
theorem strmL_eof {f : Nat} {L : List RB} (h : scanL L = .eof) : strmL (f + 1) L = ([], true) := by
  rw [strmL_def, h]
theorem strmL_bad {f : Nat} {L : List RB} (h : scanL L = .bad) : strmL (f + 1) L = ([], false) := by
  rw [strmL_def, h]
theorem strm_list {s : ByteArray} : ∀ (f p c : Nat), p ≤ s.size → strm s f p c = strmL f (RL s p) := by
  intro f
  induction f with
  | zero => intro p c _; rfl
  | succ f ih =>
    intro p c hp
    have h := scanE_list (s := s) (s.size + 1) p c hp (by omega)
    show (match sc s p c with | .eof _ _ => _ | .bad => _ | .tok k a e _ ce => _) = (match scanL (RL s p) with | .eof => _ | .bad => _ | .tok k T rest => _)
    unfold sc
    revert h
    cases scanE s (s.size + 1) p c with
    | eof u v => cases scanL (RL s p) <;> first | (intro h; rfl) | (intro h; exact h.elim)
    | bad => cases scanL (RL s p) <;> first | (intro h; rfl) | (intro h; exact h.elim)
    | tok k a e ca ce =>
      cases scanL (RL s p) with
      | eof => intro h; exact h.elim
      | bad => intro h; exact h.elim
      | tok k2 T rest =>
        intro h
        obtain ⟨rfl, rfl, ht, he, _⟩ := h
        dsimp only
        rw [ih e ce he, ht]
        rfl
end Go.Proofs.YtmjoebnphacadaaDoor.Lex
