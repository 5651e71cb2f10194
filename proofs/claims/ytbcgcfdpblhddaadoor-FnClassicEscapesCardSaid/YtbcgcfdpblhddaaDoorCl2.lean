/- A text that is UTF-8, rune by rune: the old reader's loops over runes are those over bytes. -/
import Derived.Lib.QuoteLoop
import Derived.Lib.ValidLaws
import Derived.Lib.SpaceUEq
import Derived.Test.YtbcgcfdpblhddaaDoorCl1
namespace Go.Proofs.YtbcgcfdpblhddaaDoor.Cl
open Go.Lib
set_option linter.unusedVariables false
set_option linter.unusedSimpArgs false
/-- A rune of more than one byte has none below 128. -/
theorem high_bytes {l : List UInt8} (hne : l ≠ []) (hv : ¬ ((Lib.decodeL l).1 = 65533 ∧ (Lib.decodeL l).2 = 1)) (h0 : 128 ≤ (l.getD 0 0).toNat) : ∀ x ∈ l.take (Lib.decodeL l).2, 128 ≤ x.toNat := by
  have hl : 0 < l.length := List.length_pos_iff.2 hne
  have key : ∀ (n : Nat), (∀ j, j < n → 128 ≤ (l.getD j 0).toNat) → ∀ x ∈ l.take n, 128 ≤ x.toNat := by
    intro n hn x hx
    obtain ⟨j, hj, rfl⟩ := List.mem_iff_getElem.1 hx
    rw [List.length_take] at hj
    have := hn j (by omega)
    rw [List.getD_eq_getElem?_getD, List.getElem?_eq_getElem (by omega)] at this
    rw [List.getElem_take]
    exact this
  rw [Lib.decodeL_N] at hv ⊢
  refine key _ ?_
  unfold Lib.decodeN at hv ⊢
  intro j hj
  by_cases j0 : j = 0
  · subst j0; exact h0
  rw [if_neg (by omega)] at hj hv
  split at hj
  · rename_i k1
    rw [if_pos k1] at hv
    split at hj
    · have : j = 1 := by omega
      subst this; omega
    · have : j = 0 := by omega
      exact absurd this j0
  · rename_i k1
    rw [if_neg k1] at hv
    split at hj
    · rename_i k2
      split at hj
      · have : j = 1 ∨ j = 2 := by omega
        rcases this with rfl | rfl <;> omega
      · have : j = 0 := by omega
        exact absurd this j0
    · rename_i k2
      split at hj
      · rename_i k3
        split at hj
        · have : j = 1 ∨ j = 2 ∨ j = 3 := by omega
          rcases this with rfl | rfl | rfl <;> omega
        · have : j = 0 := by omega
          exact absurd this j0
      · have : j = 0 := by omega
        exact absurd this j0
/-- What stands at the head of a text that is UTF-8. -/
theorem rune_head {l : List UInt8} (hne : l ≠ []) (hv : validD l = true) :
    encodeRune ((decodeL l).1 : Int) = l.take (decodeL l).2 ∧ validD (l.drop (decodeL l).2) = true ∧ 1 ≤ (decodeL l).2 ∧ (decodeL l).2 ≤ l.length ∧
    (((decodeL l).1 < 128 ∧ (decodeL l).2 = 1 ∧ ∃ c r, l = c :: r ∧ c.toNat = (decodeL l).1) ∨ (128 ≤ (decodeL l).1 ∧ ∀ x ∈ l.take (decodeL l).2, 128 ≤ x.toNat)) := by
  have hb : ¬ ((decodeL l).1 = 65533 ∧ (decodeL l).2 = 1) := fun e => by
    rw [validD_step _ hne, if_pos e] at hv
    cases hv
  have hl : 0 < l.length := List.length_pos_iff.2 hne
  refine ⟨encode_decode l hne hb, ?_, ?_, decodeL_le l hne, ?_⟩
  · rw [validD_step _ hne, if_neg hb] at hv
    exact hv
  · have := decodeL_width l; omega
  · by_cases h0 : (l.getD 0 0).toNat < 128
    · left
      have hd : decodeL l = ((l.getD 0 0).toNat, 1) := by rw [decodeL_N, decodeN_ascii _ _ _ _ _ h0]
      rw [hd]
      refine ⟨h0, rfl, ?_⟩
      cases l with
      | nil => exact absurd rfl hne
      | cons c r => exact ⟨c, r, rfl, rfl⟩
    · right
      refine ⟨?_, high_bytes hne hb (by omega)⟩
      rw [decodeL_N]
      rcases decodeN_cases l.length (l.getD 0 0).toNat (l.getD 1 0).toNat (l.getD 2 0).toNat (l.getD 3 0).toNat with h | ⟨_, _, _, h, e⟩ | ⟨_, _, _, _, h, e⟩ | ⟨h, _⟩ | e
      · omega
      · rw [e]; exact h
      · rw [e]; show 128 ≤ _; omega
      · omega
      · rw [e]; show 128 ≤ 65533; omega
def encR (r : Nat) : List UInt8 := encodeRune (r : Int)
/-- The third token over runes. -/
def cvR (s : ByteArray) : Nat → Nat → Bool → Bool → List UInt8 → Option (List UInt8 × Bool)
  | 0, _, _, ex, acc => some (acc, ex)
  | f + 1, pos, esc, ex, acc =>
    if pos < s.size then
      if esc = true then cvR s f (pos + (Utf8.decode s pos).2) false ex (acc ++ (if (Utf8.decode s pos).1 = 110 then [10] else if (Utf8.decode s pos).1 = 34 ∨ (Utf8.decode s pos).1 = 92 then encR (Utf8.decode s pos).1 else 92 :: encR (Utf8.decode s pos).1))
      else if (Utf8.decode s pos).1 = 92 then (if pos + 1 < s.size then cvR s f (pos + (Utf8.decode s pos).2) true ex acc else cvR s f (pos + (Utf8.decode s pos).2) false ex (acc ++ [92]))
      else if (Utf8.decode s pos).1 = 34 then (if ex = false ∨ pos + 1 < s.size then none else cvR s f (pos + (Utf8.decode s pos).2) false false acc)
      else cvR s f (pos + (Utf8.decode s pos).2) false ex (acc ++ encR (Utf8.decode s pos).1)
    else some (acc, ex)
theorem cv_high : ∀ (w o : List UInt8) (ex : Bool), (∀ x ∈ w, 128 ≤ x.toNat) → cvB (w ++ o) false ex = (cvB o false ex).map fun q => (w ++ q.1, q.2)
  | [], o, ex, _ => by cases h : cvB o false ex <;> simp [h]
  | c :: w, o, ex, h => by
    have hc := h c (by simp)
    have h1 : c ≠ 34 := fun e => by rw [e] at hc; exact absurd hc (by decide)
    have h2 : c ≠ 92 := fun e => by rw [e] at hc; exact absurd hc (by decide)
    rw [List.cons_append, cv_plain _ _ h1 h2, cv_high w o ex (fun x hx => h x (by simp [hx]))]
    simp [Function.comp_def]
theorem enc_ascii {c : UInt8} {n : Nat} (hc : c.toNat = n) (h : n < 128) : c = UInt8.ofNat n := by rw [← hc, UInt8.ofNat_toNat]
theorem u8_eq (c : UInt8) (n : Nat) (hn : n < 256) : c = UInt8.ofNat n ↔ c.toNat = n := by
  constructor
  · rintro rfl; rw [UInt8.toNat_ofNat']; omega
  · intro h; rw [← h, UInt8.ofNat_toNat]
theorem cvR_bytes (s : ByteArray) : ∀ (f pos : Nat) (esc ex : Bool) (acc : List UInt8), s.size ≤ pos + f → validD (s.data.toList.drop pos) = true → (esc = true → pos < s.size) →
    cvR s f pos esc ex acc = (cvB (s.data.toList.drop pos) esc ex).map fun q => (acc ++ q.1, q.2) := by
  intro f
  have hz : s.data.toList.length = s.size := by rw [Array.length_toList]; rfl
  have hend : ∀ (pos : Nat) (ex : Bool) (acc : List UInt8), ¬ pos < s.size → (cvB (s.data.toList.drop pos) false ex).map (fun q => (acc ++ q.1, q.2)) = some (acc, ex) := by
    intro pos ex acc hp
    rw [List.drop_of_length_le (by omega)]
    simp [cvB]
  induction f with
  | zero =>
    intro pos esc ex acc h hv he
    have hp : ¬ pos < s.size := by omega
    cases esc with
    | true => exact absurd (he rfl) hp
    | false => rw [hend pos ex acc hp]; rfl
  | succ f ih =>
    intro pos esc ex acc h hv he
    by_cases hp : pos < s.size
    · have hne : s.data.toList.drop pos ≠ [] := fun e => by have := congrArg List.length e; rw [List.length_drop] at this; simp at this; omega
      obtain ⟨g1, g2, g3, g4, g5⟩ := rune_head hne hv
      rw [decodeL_drop] at g1 g2 g3 g4 g5
      rw [List.drop_drop] at g2
      rw [List.length_drop] at g4
      have hstep : ∀ esc ex acc, (esc = true → pos + (Utf8.decode s pos).2 < s.size) → cvR s f (pos + (Utf8.decode s pos).2) esc ex acc = (cvB (s.data.toList.drop (pos + (Utf8.decode s pos).2)) esc ex).map fun q => (acc ++ q.1, q.2) :=
        fun esc ex acc hx => ih _ esc ex acc (by omega) g2 hx
      have hsplit : s.data.toList.drop pos = (s.data.toList.drop pos).take (Utf8.decode s pos).2 ++ s.data.toList.drop (pos + (Utf8.decode s pos).2) := by
        rw [← List.drop_drop, List.take_append_drop]
      unfold cvR
      rw [if_pos hp]
      obtain ⟨⟨r, n⟩, hq⟩ : ∃ q, Utf8.decode s pos = q := ⟨_, rfl⟩
      rw [hq] at g1 g2 g3 g4 g5 hstep hsplit ⊢
      dsimp only at g1 g2 g3 g4 g5 hstep hsplit ⊢
      have hE : encR r = (s.data.toList.drop pos).take n := g1
      obtain ⟨o, ho⟩ : ∃ o, s.data.toList.drop (pos + n) = o := ⟨_, rfl⟩
      have hlo : o.length = s.size - (pos + n) := by rw [← ho, List.length_drop, hz]
      rw [ho] at hstep hsplit
      rcases g5 with ⟨k1, k2, c, t, k3, k4⟩ | ⟨k1, k2⟩
      · subst k2
        have ht : t = o := by
          rw [k3] at hsplit
          simpa using hsplit
        subst ht
        have hE1 : encR r = [c] := by rw [hE, k3]; rfl
        have hc : ∀ m, m < 256 → (c = UInt8.ofNat m ↔ r = m) := fun m hm => by rw [u8_eq c m hm, k4]
        have c92 : c = 92 ↔ r = 92 := hc 92 (by omega)
        have c34 : c = 34 ↔ r = 34 := hc 34 (by omega)
        have c110 : c = 110 ↔ r = 110 := hc 110 (by omega)
        rw [k3]
        cases esc with
        | true =>
          rw [if_pos rfl, hstep _ _ _ (by simp), cvB, Option.map_map, hE1]
          congr 1
          funext q
          simp only [c110, c34, c92, Function.comp]
          rw [← List.append_assoc]
        | false =>
          rw [if_neg (by simp)]
          by_cases h92 : r = 92
          · rw [if_pos h92]
            obtain rfl := c92.2 h92
            by_cases hl : pos + 1 < s.size
            · rw [if_pos hl, hstep _ _ _ (fun _ => hl), cvB, if_pos rfl, if_neg (by intro e; rw [e] at hlo; simp at hlo; omega)]
            · have ht2 : t = [] := List.eq_nil_of_length_eq_zero (by omega)
              rw [if_neg hl, hstep _ _ _ (by simp), ht2]
              simp [cvB]
          · rw [if_neg h92]
            have n92 : c ≠ 92 := fun e => h92 (c92.1 e)
            by_cases h34 : r = 34
            · rw [if_pos h34]
              obtain rfl := c34.2 h34
              by_cases hl : ex = false ∨ pos + 1 < s.size
              · rw [if_pos hl, cvB, if_neg n92, if_pos rfl, if_pos (by
                  rcases hl with hl | hl
                  · exact .inl hl
                  · exact .inr (by intro e; rw [e] at hlo; simp at hlo; omega))]
                rfl
              · have ht2 : t = [] := List.eq_nil_of_length_eq_zero (by omega)
                rw [if_neg hl, hstep _ _ _ (by simp), ht2]
                have hex : ex = true := by cases ex with | true => rfl | false => exact absurd (.inl rfl) hl
                rw [hex]
                simp [cvB]
            · rw [if_neg h34, hstep _ _ _ (by simp), cv_plain _ _ (fun e => h34 (c34.1 e)) n92, Option.map_map, hE1]
              congr 1
              funext q
              simp
      · have hw : (s.data.toList.drop pos).take n ≠ [] := by intro e; have := congrArg List.length e; rw [List.length_take, List.length_drop, hz] at this; simp at this; omega
        have hsp := hsplit
        rw [← hE] at hw k2 hsp
        rw [hsp]
        cases esc with
        | true =>
          rw [if_pos rfl, if_neg (by omega), if_neg (by omega), hstep _ _ _ (by simp)]
          obtain ⟨c, w, e⟩ := List.exists_cons_of_ne_nil hw
          rw [e] at k2 ⊢
          have hc := k2 c (by simp)
          have n1 : c ≠ 34 := fun e => by rw [e] at hc; exact absurd hc (by decide)
          have n2 : c ≠ 92 := fun e => by rw [e] at hc; exact absurd hc (by decide)
          have n3 : c ≠ 110 := fun e => by rw [e] at hc; exact absurd hc (by decide)
          show _ = Option.map _ (cvB (c :: (w ++ o)) true ex)
          rw [cvB, cv_high w o ex (fun x hx => k2 x (by simp [hx])), Option.map_map, Option.map_map]
          congr 1
          funext q
          simp [n1, n2, n3]
        | false =>
          rw [if_neg (by simp), if_neg (by omega), if_neg (by omega), hstep _ _ _ (by simp), cv_high _ o ex k2, Option.map_map]
          congr 1
          funext q
          simp
    · cases esc with
      | true => exact absurd (he rfl) hp
      | false =>
        rw [hend pos ex acc hp]
        unfold cvR
        rw [if_neg hp]
end Go.Proofs.YtbcgcfdpblhddaaDoor.Cl
