/- The order of two maps by their keys' values, key by key, over plain lists. -/
import Derived.Test.YtbffcmiabcmjcaaMaps
import Derived.Test.YtbffcmiabcmjcaaSetsPure
set_option linter.unusedVariables false
set_option linter.unusedSimpArgs false
namespace Go.Proofs.Ytbffcmiabcmjcaa.MapsS
open Go.RowKit Go.Proofs.YtbffcmiabcmjcaaW.PrintWords Go.Proofs.Ytbffcmiabcmjcaa.Pure
/-- What LabelSet.Before does with its sorted names. -/
def befL (m1 m2 : SM) : List ByteArray → Bool
  | [] => false
  | k :: r => match look k m1 with
    | none => true
    | some v1 => match look k m2 with
      | none => false
      | some v2 => if Op.bytesLess v1.toList v2.toList = true then true else if Op.bytesLess v2.toList v1.toList = true then false else befL m1 m2 r
def optLt : Option ByteArray → Option ByteArray → Bool
  | none, some _ => true
  | some a, some b => Op.bytesLess a.toList b.toList
  | _, none => false
def befG (m1 m2 : SM) : List ByteArray → Bool
  | [] => false
  | k :: r => if look k m1 = look k m2 then befG m1 m2 r else optLt (look k m1) (look k m2)
def Bef (m1 m2 : SM) : Prop := ∃ k, optLt (look k m1) (look k m2) = true ∧ ∀ j, Op.bytesLess j.toList k.toList = true → look j m1 = look j m2
theorem optLt_irrefl : ∀ x, optLt x x = false
  | none => rfl
  | some a => less_irrefl _
theorem optLt_asymm : ∀ {x y}, optLt x y = true → optLt y x = true → False
  | none, none, h, _ => by cases h
  | none, some _, _, h => by cases h
  | some _, none, h, _ => by cases h
  | some a, some b, h, g => by
    have : Op.bytesLess b.toList a.toList = false := less_asymm h
    have g' : Op.bytesLess b.toList a.toList = true := g
    rw [this] at g'
    cases g'
theorem optLt_trans : ∀ {x y z}, optLt x y = true → optLt y z = true → optLt x z = true
  | none, _, some _, _, _ => rfl
  | none, none, none, h, _ => by cases h
  | none, some _, none, _, h => by cases h
  | some _, none, _, h, _ => by cases h
  | some _, some _, none, _, h => by cases h
  | some _, some _, some _, h, g => less_trans (show Op.bytesLess _ _ = true from h) g
theorem optLt_total : ∀ {x y}, optLt x y = false → optLt y x = false → x = y
  | none, none, _, _ => rfl
  | none, some _, h, _ => by cases h
  | some _, none, _, h => by cases h
  | some a, some b, h, g => by
    refine Decidable.byContradiction fun hn => ?_
    have h' : Op.bytesLess a.toList b.toList = false := h
    have g' : Op.bytesLess b.toList a.toList = false := g
    have := less_total h' (fun e => hn (by rw [ba_ext' e]))
    rw [g'] at this
    cases this
theorem befL_befG {m1 m2 : SM} : ∀ {L : List ByteArray}, (∀ k ∈ L, look k m1 ≠ none ∨ look k m2 ≠ none) → befL m1 m2 L = befG m1 m2 L
  | [], _ => rfl
  | k :: r, h => by
    have ih := befL_befG (L := r) fun j hj => h j (List.mem_cons_of_mem _ hj)
    have h0 := h k List.mem_cons_self
    unfold befL befG
    cases e1 : look k m1 with
    | none =>
      cases e2 : look k m2 with
      | none => rw [e1, e2] at h0; simp at h0
      | some v2 => simp [optLt]
    | some v1 =>
      cases e2 : look k m2 with
      | none => simp [optLt]
      | some v2 =>
        simp only [optLt, Option.some.injEq]
        by_cases hl : Op.bytesLess v1.toList v2.toList = true
        · rw [if_pos hl, if_neg (less_ne hl), hl]
        · rw [if_neg hl]
          by_cases hg : Op.bytesLess v2.toList v1.toList = true
          · rw [if_pos hg, if_neg (Ne.symm (less_ne hg))]
            simpa using hl
          · rw [if_neg hg]
            have : v1 = v2 := by
              refine Decidable.byContradiction fun hn => hg (less_total (by simpa using hl) (fun e => hn (ba_ext' e)))
            rw [if_pos this, ih]
def Up (L : List ByteArray) : Prop := L.Pairwise fun x y => Op.bytesLess y.toList x.toList = false
theorem befG_iff {m1 m2 : SM} : ∀ {L : List ByteArray}, Up L → (befG m1 m2 L = true ↔ ∃ k ∈ L, optLt (look k m1) (look k m2) = true ∧ ∀ j ∈ L, Op.bytesLess j.toList k.toList = true → look j m1 = look j m2)
  | [], _ => by simp [befG]
  | k :: r, h => by
    obtain ⟨h1, h2⟩ := List.pairwise_cons.1 h
    have ih := befG_iff (m1 := m1) (m2 := m2) h2
    unfold befG
    by_cases e : look k m1 = look k m2
    · rw [if_pos e, ih]
      constructor
      · rintro ⟨k', hk, ho, hj⟩
        refine ⟨k', List.mem_cons_of_mem _ hk, ho, fun j hm hl => ?_⟩
        rcases List.mem_cons.1 hm with rfl | hm
        · exact e
        · exact hj j hm hl
      · rintro ⟨k', hk, ho, hj⟩
        rcases List.mem_cons.1 hk with rfl | hk
        · rw [e, optLt_irrefl] at ho
          cases ho
        · exact ⟨k', hk, ho, fun j hm hl => hj j (List.mem_cons_of_mem _ hm) hl⟩
    · rw [if_neg e]
      constructor
      · intro ho
        refine ⟨k, List.mem_cons_self, ho, fun j hm hl => ?_⟩
        rcases List.mem_cons.1 hm with rfl | hm
        · rw [less_irrefl] at hl
          cases hl
        · rw [h1 j hm] at hl
          cases hl
      · rintro ⟨k', hk, ho, hj⟩
        rcases List.mem_cons.1 hk with rfl | hk
        · exact ho
        · by_cases ek : k' = k
          · rw [ek] at ho
            exact ho
          · have hl : Op.bytesLess k.toList k'.toList = true := less_total (h1 k' hk) (fun e => ek (ba_ext' e))
            exact absurd (hj k List.mem_cons_self hl) e
theorem befG_Bef {m1 m2 : SM} {L : List ByteArray} (hL : Up L) (hc : ∀ k, look k m1 ≠ none ∨ look k m2 ≠ none → k ∈ L) : befG m1 m2 L = true ↔ Bef m1 m2 := by
  rw [befG_iff hL]
  constructor
  · rintro ⟨k, hk, ho, hj⟩
    refine ⟨k, ho, fun j hl => ?_⟩
    by_cases hm : j ∈ L
    · exact hj j hm hl
    · have h1 : look j m1 = none := Decidable.byContradiction fun hn => hm (hc j (.inl hn))
      have h2 : look j m2 = none := Decidable.byContradiction fun hn => hm (hc j (.inr hn))
      rw [h1, h2]
  · rintro ⟨k, ho, hj⟩
    refine ⟨k, hc k (.inr fun e => ?_), ho, fun j _ hl => hj j hl⟩
    rw [e] at ho
    revert ho
    cases look k m1 <;> simp [optLt]
theorem befG_total {m1 m2 : SM} : ∀ {L : List ByteArray}, befG m1 m2 L = false → befG m2 m1 L = false → ∀ k ∈ L, look k m1 = look k m2
  | [], _, _, _, h => by cases h
  | k :: r, h, g, j, hj => by
    unfold befG at h g
    by_cases e : look k m1 = look k m2
    · rw [if_pos e] at h
      rw [if_pos e.symm] at g
      rcases List.mem_cons.1 hj with rfl | hj
      · exact e
      · exact befG_total h g j hj
    · rw [if_neg e] at h
      rw [if_neg (Ne.symm e)] at g
      exact absurd (optLt_total h g) e
theorem Bef_irrefl (m : SM) : ¬ Bef m m := by
  rintro ⟨k, h, _⟩
  rw [optLt_irrefl] at h
  cases h
theorem key_cases (a b : ByteArray) : Op.bytesLess a.toList b.toList = true ∨ a = b ∨ Op.bytesLess b.toList a.toList = true := by
  by_cases h : Op.bytesLess a.toList b.toList = true
  · exact .inl h
  · by_cases e : a = b
    · exact .inr (.inl e)
    · exact .inr (.inr (less_total (by simpa using h) (fun h => e (ba_ext' h))))
theorem Bef_asymm {a b : SM} (h : Bef a b) (g : Bef b a) : False := by
  obtain ⟨k, h1, h2⟩ := h
  obtain ⟨j, g1, g2⟩ := g
  rcases key_cases k j with c | rfl | c
  · rw [g2 k c, optLt_irrefl] at h1
    cases h1
  · exact optLt_asymm h1 g1
  · rw [h2 j c, optLt_irrefl] at g1
    cases g1
theorem Bef_trans {a b c : SM} (h : Bef a b) (g : Bef b c) : Bef a c := by
  obtain ⟨k, h1, h2⟩ := h
  obtain ⟨j, g1, g2⟩ := g
  rcases key_cases k j with e | rfl | e
  · refine ⟨k, by rw [← g2 k e]; exact h1, fun i hi => ?_⟩
    rw [h2 i hi, g2 i (less_trans hi e)]
  · refine ⟨k, optLt_trans h1 g1, fun i hi => ?_⟩
    rw [h2 i hi, g2 i hi]
  · refine ⟨j, by rw [h2 j e]; exact g1, fun i hi => ?_⟩
    rw [h2 i (less_trans hi e), g2 i hi]
theorem look_names {m : SM} {k : ByteArray} : ∀ {m : SM}, look k m ≠ none → k ∈ m.map (·.1)
  | [], h => absurd rfl h
  | p :: r, h => by
    rw [look_cons] at h
    rw [List.map_cons]
    by_cases e : k = p.1
    · rw [e]
      exact List.mem_cons_self
    · rw [if_neg e] at h
      exact List.mem_cons_of_mem _ (look_names (m := m) h)
theorem names_look {k : ByteArray} : ∀ {m : SM}, k ∈ m.map (·.1) → look k m ≠ none
  | [], h => by cases h
  | p :: r, h => by
    rw [look_cons]
    by_cases e : k = p.1
    · rw [if_pos e]
      simp
    · rw [if_neg e]
      rw [List.map_cons] at h
      rcases List.mem_cons.1 h with h | h
      · exact absurd h e
      · exact names_look h
theorem Bef_total {a b : SM} (ha : Rises a) (hb : Rises b) {L : List ByteArray} (hL : Up L) (hc : ∀ k, look k a ≠ none ∨ look k b ≠ none → k ∈ L) (h : ¬ Bef a b) (g : ¬ Bef b a) : a = b := by
  have h' : befG a b L = false := by
    rw [← befG_Bef hL hc] at h
    simpa using h
  have g' : befG b a L = false := by
    rw [← befG_Bef hL (fun k hk => hc k hk.symm)] at g
    simpa using g
  refine sm_ext ha hb fun k => ?_
  by_cases hm : k ∈ L
  · exact befG_total h' g' k hm
  · have h1 : look k a = none := Decidable.byContradiction fun hn => hm (hc k (.inl hn))
    have h2 : look k b = none := Decidable.byContradiction fun hn => hm (hc k (.inr hn))
    rw [h1, h2]
end Go.Proofs.Ytbffcmiabcmjcaa.MapsS
