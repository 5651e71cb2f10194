/- Sets of labels as sorted lists: what is stored one behind the other, and what the reference makes of it. -/
import Derived.Test.YtcneoonhdfblaaaMaps
set_option linter.unusedVariables false
set_option linter.unusedSimpArgs false
namespace Go.Proofs.Ytcneoonhdfblaaa.MapsS
open Go.RowKit Go.Proofs.Ytcneoonhdfblaaa.Pure

/-- All entries of a list, stored one behind the other. -/
def fill (l : List (ByteArray × ByteArray)) (m : SM) : SM := l.foldl (fun m p => ins p.1 p.2 m) m
theorem fill_cons (x : ByteArray × ByteArray) (r : List (ByteArray × ByteArray)) (m : SM) : fill (x :: r) m = fill r (ins x.1 x.2 m) := rfl
theorem rises_fill : ∀ (l : List (ByteArray × ByteArray)) {m : SM}, Rises m → Rises (fill l m)
  | [], _, h => h
  | x :: r, _, h => rises_fill r (rises_ins h)
theorem look_ins (k a b : ByteArray) : ∀ m : SM, look k (ins a b m) = if k = a then some b else look k m
  | [] => rfl
  | p :: r => by
    have ih := look_ins k a b r
    unfold ins
    by_cases e : a = p.1
    · rw [if_pos e, look_cons, look_cons]
      by_cases e2 : k = a
      · rw [if_pos e2, if_pos e2]
      · rw [if_neg e2, if_neg e2, if_neg (by rw [← e]; exact e2)]
    · rw [if_neg e]
      by_cases hl : Op.bytesLess a.toList p.1.toList = true
      · rw [if_pos hl, look_cons]
      · rw [if_neg hl, look_cons, look_cons, ih]
        by_cases e2 : k = a
        · rw [if_pos e2, if_neg (by rw [e2]; exact e), if_pos e2]
        · rw [if_neg e2, if_neg e2]
/-- The value that came last under a name. -/
def lastV (k : ByteArray) : List (ByteArray × ByteArray) → Option ByteArray
  | [] => none
  | x :: r => match lastV k r with
    | some v => some v
    | none => if k = x.1 then some x.2 else none
theorem lastV_cons (k : ByteArray) (x : ByteArray × ByteArray) (r : List (ByteArray × ByteArray)) : lastV k (x :: r) = (match lastV k r with | some v => some v | none => if k = x.1 then some x.2 else none) := rfl
theorem look_fill (k : ByteArray) : ∀ (l : List (ByteArray × ByteArray)) (m : SM), look k (fill l m) = (match lastV k l with | some v => some v | none => look k m)
  | [], _ => rfl
  | x :: r, m => by
    rw [fill_cons, look_fill k r, look_ins, lastV_cons]
    cases lastV k r with
    | some v => rfl
    | none => by_cases e : k = x.1 <;> simp [e]
theorem lastV_none {k : ByteArray} : ∀ {l : List (ByteArray × ByteArray)}, lastV k l = none ↔ ∀ q ∈ l, k ≠ q.1
  | [] => by simp [lastV]
  | x :: r => by
    rw [lastV_cons]
    cases h : lastV k r with
    | some v =>
      have := (not_congr (lastV_none (k := k) (l := r))).1 (by rw [h]; simp)
      simp only [List.mem_cons, reduceCtorEq, false_iff]
      intro hq
      exact this fun q hm => hq q (.inr hm)
    | none =>
      have := (lastV_none (k := k) (l := r)).1 h
      by_cases e : k = x.1
      · simp [e]
      · simp [e, this]
        exact fun a b hab => this (a, b) hab
theorem sm_ext {m1 m2 : SM} (h1 : Rises m1) (h2 : Rises m2) (h : ∀ k, look k m1 = look k m2) : m1 = m2 :=
  sm_perm_eq h1 h2 ((List.perm_ext_iff_of_nodup (rises_nodup h1) (rises_nodup h2)).2 fun p => by
    have e1 := look_mem h1 (k := p.1) (v := p.2)
    have e2 := look_mem h2 (k := p.1) (v := p.2)
    rw [h] at e1
    exact e1.symm.trans e2)

/-! ### the reference's way -/
/-- A new name takes its place among rising ones. -/
def insS (x : ByteArray × ByteArray) : SM → SM
  | [] => [x]
  | p :: r => if Op.bytesLess p.1.toList x.1.toList = true then p :: insS x r else x :: p :: r
def refSet : List (ByteArray × ByteArray) → SM → SM
  | [], out => out
  | x :: r, out => if (r.all fun q => q.1.toList != x.1.toList) = true then refSet r (insS x out) else refSet r out
theorem insS_ins {x : ByteArray × ByteArray} : ∀ {m : SM}, Rises m → (∀ p ∈ m, p.1 ≠ x.1) → insS x m = ins x.1 x.2 m
  | [], _, _ => rfl
  | p :: r, h, hn => by
    obtain ⟨h1, h2⟩ := List.pairwise_cons.1 h
    have hp := hn p List.mem_cons_self
    unfold insS ins
    rw [if_neg (Ne.symm hp)]
    cases hl : Op.bytesLess p.1.toList x.1.toList with
    | true =>
      rw [if_pos rfl, if_neg (by rw [less_asymm hl]; simp), insS_ins h2 (fun q hq => hn q (List.mem_cons_of_mem _ hq))]
    | false =>
      rw [if_neg (by simp), if_pos (less_total hl (fun e => hp (ba_ext' e)))]
theorem mem_ins_key {k v : ByteArray} {q : ByteArray × ByteArray} {m : SM} (h : q ∈ ins k v m) : q.1 = k ∨ q ∈ m := by
  rcases mem_ins h with rfl | h
  · exact .inl rfl
  · exact .inr h
theorem refSet_spec : ∀ (l : List (ByteArray × ByteArray)) {m : SM}, Rises m → (∀ p ∈ m, ∀ q ∈ l, q.1 ≠ p.1) → Rises (refSet l m) ∧ ∀ k, look k (refSet l m) = (match lastV k l with | some v => some v | none => look k m)
  | [], _, h, _ => ⟨h, fun _ => rfl⟩
  | x :: r, m, h, hn => by
    unfold refSet
    by_cases hl : (r.all fun q => q.1.toList != x.1.toList) = true
    · rw [if_pos hl, insS_ins h (fun p hp => (hn p hp x List.mem_cons_self).symm)]
      have hl' : ∀ q ∈ r, q.1 ≠ x.1 := fun q hq e => by
        have := List.all_eq_true.1 hl q hq
        rw [e] at this
        simp at this
      obtain ⟨g1, g2⟩ := refSet_spec r (rises_ins (k := x.1) (v := x.2) h) (fun p hp q hq => by
        rcases mem_ins_key hp with e | hp
        · rw [e]; exact hl' q hq
        · exact hn p hp q (List.mem_cons_of_mem _ hq))
      refine ⟨g1, fun k => ?_⟩
      rw [g2, look_ins, lastV_cons]
      cases lastV k r with
      | some v => rfl
      | none => by_cases e : k = x.1 <;> simp [e]
    · rw [if_neg hl]
      obtain ⟨g1, g2⟩ := refSet_spec r h (fun p hp q hq => hn p hp q (List.mem_cons_of_mem _ hq))
      refine ⟨g1, fun k => ?_⟩
      rw [g2, lastV_cons]
      cases hk : lastV k r with
      | some v => rfl
      | none =>
        have h0 := lastV_none.1 hk
        by_cases e : k = x.1
        · exfalso
          apply hl
          refine List.all_eq_true.2 fun q hq => ?_
          have := h0 q hq
          rw [e] at this
          exact bne_iff_ne.2 fun e2 => this (ba_ext' e2).symm
        · simp [e]
theorem refSet_eq (l : List (ByteArray × ByteArray)) : refSet l [] = fill l [] := by
  obtain ⟨h1, h2⟩ := refSet_spec l (m := []) List.Pairwise.nil (fun p hp => by simp at hp)
  refine sm_ext h1 (rises_fill l List.Pairwise.nil) (fun k => ?_)
  rw [h2, look_fill]
theorem len_ins (k v : ByteArray) : ∀ m : SM, (ins k v m).length ≤ m.length + 1
  | [] => by simp [ins]
  | p :: r => by
    have := len_ins k v r
    unfold ins
    split
    · simp
    · split
      · simp
      · simp; omega
theorem len_insS (x : ByteArray × ByteArray) : ∀ m : SM, (insS x m).length = m.length + 1
  | [] => rfl
  | p :: r => by
    have := len_insS x r
    unfold insS
    split
    · simp; omega
    · simp
end Go.Proofs.Ytcneoonhdfblaaa.MapsS
