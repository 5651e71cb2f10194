/- White space at the ends of a text that has none but the plain one: strings.TrimSpace takes it as both readers do. -/
import Derived.Lib.SpaceUEq
import Derived.Test.YtbcgcfdpblhddaaDoorCl0
namespace Go.Proofs.YtbcgcfdpblhddaaDoor.Cl
open Go.Lib
set_option linter.unusedVariables false
set_option linter.unusedSimpArgs false
/-- No vertical tab, no white space of more than one byte. -/
def Tame (l : List UInt8) : Prop := (∀ x ∈ l, x ≠ 11) ∧ ∀ q ∈ spaceSeqs, 2 ≤ q.length → ¬ q <:+: l
theorem Tame.sub {l m : List UInt8} (h : Tame l) (hm : m <:+: l) : Tame m := ⟨fun x hx => h.1 x (hm.subset hx), fun q hq h2 hc => h.2 q hq h2 (hc.trans hm)⟩
theorem seq_one : ∀ q ∈ spaceSeqs, 1 ≤ q.length ∧ (q.length < 2 → ∃ c, q = [c] ∧ (c = 11 ∨ blk c = true)) := by
  intro q hq
  simp only [spaceSeqs, List.mem_cons, List.not_mem_nil, or_false] at hq
  rcases hq with rfl | rfl | rfl | rfl | rfl | rfl | rfl | rfl | rfl | rfl | rfl | rfl | rfl | rfl | rfl | rfl | rfl | rfl | rfl | rfl | rfl | rfl | rfl | rfl | rfl <;>
    exact ⟨by decide, fun h => by first | exact absurd h (by decide) | exact ⟨_, rfl, by decide⟩⟩
theorem blk_seq {c : UInt8} (h : blk c = true) : [c] ∈ spaceSeqs := by
  rcases of_decide_eq_true h with rfl | rfl | rfl | rfl | rfl <;> decide
theorem head_tame {l : List UInt8} (h : Tame l) : headSpace l = match l with | [] => 0 | c :: _ => if blk c = true then 1 else 0 := by
  unfold headSpace
  cases hf : spaceSeqs.find? (·.isPrefixOf l) with
  | none =>
    cases l with
    | nil => rfl
    | cons c r =>
      show 0 = if blk c = true then 1 else 0
      by_cases hb : blk c = true
      · have := List.find?_eq_none.1 hf _ (blk_seq hb)
        simp at this
      · rw [if_neg hb]
  | some q =>
    have hm := List.mem_of_find?_eq_some hf
    have hp := List.find?_some hf
    have hp2 := List.isPrefixOf_iff_prefix.1 hp
    have hlt : q.length < 2 := by
      by_cases h2 : 2 ≤ q.length
      · exact absurd hp2.isInfix (h.2 q hm h2)
      · omega
    obtain ⟨c, rfl, hc⟩ := (seq_one q hm).2 hlt
    obtain ⟨r, rfl⟩ := hp2
    show 1 = if blk c = true then 1 else 0
    rcases hc with hc | hc
    · exact absurd hc (h.1 c (by simp))
    · rw [if_pos hc]
theorem tail_tame {l : List UInt8} {c : UInt8} (h : Tame (l ++ [c])) : tailSpace (l ++ [c]) = if blk c = true then 1 else 0 := by
  unfold tailSpace
  cases hf : spaceSeqs.find? (·.isSuffixOf (l ++ [c])) with
  | none =>
    by_cases hb : blk c = true
    · have := List.find?_eq_none.1 hf _ (blk_seq hb)
      rw [List.isSuffixOf_iff_suffix] at this
      exact absurd (List.suffix_append l [c]) this
    · rw [if_neg hb]; rfl
  | some q =>
    have hm := List.mem_of_find?_eq_some hf
    have hp := List.find?_some hf
    have hp2 := List.isSuffixOf_iff_suffix.1 hp
    have hlt : q.length < 2 := by
      by_cases h2 : 2 ≤ q.length
      · exact absurd hp2.isInfix (h.2 q hm h2)
      · omega
    obtain ⟨d, rfl, hc⟩ := (seq_one q hm).2 hlt
    obtain ⟨r, e⟩ := hp2
    obtain ⟨rfl, e2⟩ := List.append_inj' e rfl
    obtain rfl : d = c := by simpa using e2
    show 1 = if blk d = true then 1 else 0
    rcases hc with hc | hc
    · exact absurd hc (h.1 d (by simp))
    · rw [if_pos hc]
theorem strip_lt : ∀ (f : Nat) (l : List UInt8), l.length ≤ f → Tame l → stripL f l = lt l
  | 0, l, hl, _ => by
    obtain rfl := List.eq_nil_of_length_eq_zero (show l.length = 0 by omega)
    rfl
  | f + 1, [], _, h => by
    unfold stripL
    rw [head_tame h, if_pos rfl]
    rfl
  | f + 1, c :: r, hl, h => by
    unfold stripL
    have hh : headSpace (c :: r) = if blk c = true then 1 else 0 := head_tame h
    rw [hh]
    by_cases hb : blk c = true
    · rw [if_pos hb, if_neg (by decide), List.drop_succ_cons, List.drop_zero, strip_lt f r (by simp only [List.length_cons] at hl; omega) (h.sub (List.suffix_cons c r).isInfix)]
      unfold lt
      rw [List.dropWhile_cons_of_pos hb]
    · rw [if_neg hb, if_pos rfl]
      unfold lt
      rw [List.dropWhile_cons_of_neg hb]
theorem strip_rt : ∀ (f : Nat) (l : List UInt8), l.length ≤ f → Tame l → stripR f l = rt l
  | 0, l, hl, _ => by
    obtain rfl := List.eq_nil_of_length_eq_zero (show l.length = 0 by omega)
    rfl
  | f + 1, l, hl, h => by
    rcases List.eq_nil_or_concat l with rfl | ⟨v, c, rfl⟩
    · rfl
    · simp only [List.concat_eq_append] at h hl ⊢
      unfold stripR
      rw [tail_tame h, rt_snoc]
      by_cases hb : blk c = true
      · rw [if_pos hb, if_neg (by decide), if_pos hb, List.length_append, List.length_singleton, Nat.add_sub_cancel, List.take_left' rfl]
        exact strip_rt f v (by simp only [List.length_append, List.length_singleton] at hl; omega) (h.sub (List.prefix_append v [c]).isInfix)
      · rw [if_neg hb, if_pos rfl, if_neg hb]
theorem trim_tame {l : List UInt8} (h : Tame l) : trimSpaceU l = tr l := by
  unfold trimSpaceU tr
  rw [strip_lt _ _ (Nat.le_refl _) h]
  exact strip_rt _ _ (lt_suffix l).length_le (h.sub (lt_suffix l).isInfix)
end Go.Proofs.YtbcgcfdpblhddaaDoor.Cl
