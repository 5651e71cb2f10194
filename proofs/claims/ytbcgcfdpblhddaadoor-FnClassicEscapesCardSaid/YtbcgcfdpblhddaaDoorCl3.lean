/- A list of matchers is cut at its commas: over runes as over bytes. -/
import Derived.Test.YtbcgcfdpblhddaaDoorCl2
namespace Go.Proofs.YtbcgcfdpblhddaaDoor.Cl
open Go.Lib
set_option linter.unusedVariables false
set_option linter.unusedSimpArgs false
def spR (s : ByteArray) : Nat → Nat → Bool → Bool → List UInt8 → List (List UInt8) → List UInt8 × List (List UInt8)
  | 0, _, _, _, tok, toks => (tok, toks)
  | f + 1, pos, q, e, tok, toks =>
    if pos < s.size then
      if (Utf8.decode s pos).1 = 44 then (if q = true then spR s f (pos + (Utf8.decode s pos).2) q e (tok ++ encR (Utf8.decode s pos).1) toks else spR s f (pos + (Utf8.decode s pos).2) q e [] (toks ++ [tok]))
      else if (Utf8.decode s pos).1 = 34 then spR s f (pos + (Utf8.decode s pos).2) (if e = true then q else !q) false (tok ++ encR (Utf8.decode s pos).1) toks
      else if (Utf8.decode s pos).1 = 92 then spR s f (pos + (Utf8.decode s pos).2) q (!e) (tok ++ encR (Utf8.decode s pos).1) toks
      else spR s f (pos + (Utf8.decode s pos).2) q false (tok ++ encR (Utf8.decode s pos).1) toks
    else (tok, toks)
theorem sp_high : ∀ (w o : List UInt8) (q : Bool) (tok : List UInt8), (∀ x ∈ w, 128 ≤ x.toNat) → spB (w ++ o) q false tok = spB o q false (tok ++ w)
  | [], o, q, tok, _ => by simp
  | c :: w, o, q, tok, h => by
    have hc := h c (by simp)
    have h0 : c ≠ 44 := fun e => by rw [e] at hc; exact absurd hc (by decide)
    have h1 : c ≠ 34 := fun e => by rw [e] at hc; exact absurd hc (by decide)
    have h2 : c ≠ 92 := fun e => by rw [e] at hc; exact absurd hc (by decide)
    rw [List.cons_append, spB, if_neg h0, if_neg h1, if_neg h2, sp_high w o q _ (fun x hx => h x (by simp [hx]))]
    simp
theorem spR_bytes (s : ByteArray) : ∀ (f pos : Nat) (q e : Bool) (tok : List UInt8) (toks : List (List UInt8)), s.size ≤ pos + f → validD (s.data.toList.drop pos) = true →
    (spR s f pos q e tok toks).2 ++ [(spR s f pos q e tok toks).1] = toks ++ spB (s.data.toList.drop pos) q e tok := by
  intro f
  have hz : s.data.toList.length = s.size := by rw [Array.length_toList]; rfl
  have hend : ∀ (pos : Nat) (q e : Bool) (tok : List UInt8), ¬ pos < s.size → spB (s.data.toList.drop pos) q e tok = [tok] := by
    intro pos q e tok hp
    rw [List.drop_of_length_le (by omega)]
    rfl
  induction f with
  | zero =>
    intro pos q e tok toks h hv
    rw [hend pos q e tok (by omega)]
    rfl
  | succ f ih =>
    intro pos q e tok toks h hv
    by_cases hp : pos < s.size
    · have hne : s.data.toList.drop pos ≠ [] := fun e => by have := congrArg List.length e; rw [List.length_drop] at this; simp at this; omega
      obtain ⟨g1, g2, g3, g4, g5⟩ := rune_head hne hv
      rw [decodeL_drop] at g1 g2 g3 g4 g5
      rw [List.drop_drop] at g2
      rw [List.length_drop] at g4
      have hstep : ∀ q e tok toks, (spR s f (pos + (Utf8.decode s pos).2) q e tok toks).2 ++ [(spR s f (pos + (Utf8.decode s pos).2) q e tok toks).1] = toks ++ spB (s.data.toList.drop (pos + (Utf8.decode s pos).2)) q e tok :=
        fun q e tok toks => ih _ q e tok toks (by omega) g2
      have hsplit : s.data.toList.drop pos = (s.data.toList.drop pos).take (Utf8.decode s pos).2 ++ s.data.toList.drop (pos + (Utf8.decode s pos).2) := by
        rw [← List.drop_drop, List.take_append_drop]
      unfold spR
      rw [if_pos hp]
      obtain ⟨⟨r, n⟩, hq⟩ : ∃ q, Utf8.decode s pos = q := ⟨_, rfl⟩
      rw [hq] at g1 g2 g3 g4 g5 hstep hsplit ⊢
      dsimp only at g1 g2 g3 g4 g5 hstep hsplit ⊢
      have hE : encR r = (s.data.toList.drop pos).take n := g1
      obtain ⟨o, ho⟩ : ∃ o, s.data.toList.drop (pos + n) = o := ⟨_, rfl⟩
      rw [ho] at hstep hsplit
      rcases g5 with ⟨k1, k2, c, t, k3, k4⟩ | ⟨k1, k2⟩
      · subst k2
        have ht : t = o := by
          rw [k3] at hsplit
          simpa using hsplit
        subst ht
        have hE1 : encR r = [c] := by rw [hE, k3]; rfl
        have hc : ∀ m, m < 256 → (c = UInt8.ofNat m ↔ r = m) := fun m hm => by rw [u8_eq c m hm, k4]
        have c92 : c = 92 ↔ r = 92 := hc 92 (by omega)
        have c34 : c = 34 ↔ r = 34 := hc 34 (by omega)
        have c44 : c = 44 ↔ r = 44 := hc 44 (by omega)
        rw [k3, hE1, spB]
        by_cases h44 : r = 44
        · rw [if_pos h44, if_pos (c44.2 h44)]
          by_cases hq : q = true
          · rw [if_pos hq, if_pos hq, hstep]
          · rw [if_neg hq, if_neg hq, hstep]
            simp
        · rw [if_neg h44, if_neg (fun e => h44 (c44.1 e))]
          by_cases h34 : r = 34
          · rw [if_pos h34, if_pos (c34.2 h34), hstep]
          · rw [if_neg h34, if_neg (fun e => h34 (c34.1 e))]
            by_cases h92 : r = 92
            · rw [if_pos h92, if_pos (c92.2 h92), hstep]
            · rw [if_neg h92, if_neg (fun e => h92 (c92.1 e)), hstep]
      · have hw : (s.data.toList.drop pos).take n ≠ [] := by intro e; have := congrArg List.length e; rw [List.length_take, List.length_drop, hz] at this; simp at this; omega
        have hsp := hsplit
        rw [← hE] at hw k2 hsp
        rw [hsp, if_neg (by omega), if_neg (by omega), if_neg (by omega), hstep]
        obtain ⟨c, w, e⟩ := List.exists_cons_of_ne_nil hw
        rw [e] at k2 ⊢
        have hc := k2 c (by simp)
        have n0 : c ≠ 44 := fun e => by rw [e] at hc; exact absurd hc (by decide)
        have n1 : c ≠ 34 := fun e => by rw [e] at hc; exact absurd hc (by decide)
        have n2 : c ≠ 92 := fun e => by rw [e] at hc; exact absurd hc (by decide)
        rw [List.cons_append, spB, if_neg n0, if_neg n1, if_neg n2, sp_high w o q _ (fun x hx => k2 x (by simp [hx]))]
        simp
    · rw [hend pos q e tok hp]
      unfold spR
      rw [if_neg hp]
end Go.Proofs.YtbcgcfdpblhddaaDoor.Cl
