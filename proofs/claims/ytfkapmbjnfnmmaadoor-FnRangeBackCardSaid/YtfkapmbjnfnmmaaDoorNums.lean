/- Whole numbers as texts, written and read; two of them with a colon between. -/
import Derived.Test.YtfkapmbjnfnmmaaDoorProg
import Derived.Test.YtfkapmbjnfnmmaaDoorWWords
import Derived.Lib.ItoaNum
import Derived.Lib.Atoi
import Derived.Lib.Strings
import Derived.Test.YtfkapmbjnfnmmaaDoorShelf
set_option linter.unusedVariables false
set_option linter.unusedSimpArgs false
namespace Go.Proofs.YtfkapmbjnfnmmaaDoor.Nums
open Go Go.Lib
def rngT (b e : Int) : List UInt8 := if b = e then itoa b else itoa b ++ 58 :: itoa e
def rngB (b e : Int) : ByteArray := ⟨(rngT b e).toArray⟩
def numB (n : Int) : ByteArray := ⟨(itoa n).toArray⟩
theorem of48 {d : Nat} (h : d < 10) : (UInt8.ofNat (48 + d)).toNat = 48 + d := by
  rw [UInt8.toNat_ofNat']
  omega
theorem digits_all : ∀ (u : Nat), ∀ x ∈ decDigits u, 48 ≤ x.toNat ∧ x.toNat ≤ 57 := by
  intro u
  induction u using Nat.strongRecOn with
  | ind u ih =>
    intro x hx
    rw [decDigits] at hx
    split at hx
    · rename_i h
      rw [List.mem_singleton] at hx
      rw [hx, of48 h]
      omega
    · rename_i h
      rcases List.mem_append.1 hx with hx | hx
      · exact ih (u / 10) (by omega) x hx
      · rw [List.mem_singleton] at hx
        rw [hx, of48 (by omega)]
        omega
theorem digits_len : ∀ (k u : Nat), u < 10 ^ (k + 1) → (decDigits u).length ≤ k + 1 := by
  intro k
  induction k with
  | zero =>
    intro u hu
    rw [decDigits, dif_pos (by omega)]
    simp
  | succ k ih =>
    intro u hu
    rw [decDigits]
    split
    · simp
    · have := ih (u / 10) (by
        rw [Nat.pow_succ] at hu
        omega)
      rw [List.length_append, List.length_singleton]
      omega
theorem digits_ne (u : Nat) : decDigits u ≠ [] := by
  rw [decDigits]
  split <;> simp
theorem digit_val {d : Nat} (h : d < 10) : digitVal (UInt8.ofNat (48 + d)) = some d := by
  unfold digitVal
  rw [of48 h, if_pos (by omega)]
  congr 1
  omega
theorem decFrom_snoc : ∀ (l : List UInt8) (acc m d : Nat) (b : UInt8), decFrom acc l = some m → digitVal b = some d → decFrom acc (l ++ [b]) = some (m * 10 + d)
  | [], acc, m, d, b, h, hd => by
    obtain rfl := Option.some.inj h
    simp [decFrom, hd]
  | x :: l, acc, m, d, b, h, hd => by
    simp only [decFrom, List.cons_append] at h ⊢
    cases hx : digitVal x with
    | none => rw [hx] at h; cases h
    | some y =>
      rw [hx] at h
      exact decFrom_snoc l _ m d b h hd
theorem decFrom_digits : ∀ u : Nat, decFrom 0 (decDigits u) = some u := by
  intro u
  induction u using Nat.strongRecOn with
  | ind u ih =>
    rw [decDigits]
    split
    · rename_i h
      have hv := digit_val h
      show (match digitVal (UInt8.ofNat (48 + u)) with | some d => decFrom (0 * 10 + d) [] | none => none) = some u
      rw [hv]
      simp [decFrom]
    · rename_i h
      rw [decFrom_snoc _ _ (u / 10) (u % 10) _ (ih (u / 10) (by omega)) (digit_val (by omega))]
      congr 1
      omega
theorem decNat_digits (u : Nat) : decNat (decDigits u) = some u := by
  unfold decNat
  have := digits_ne u
  rw [if_neg (by simpa using this), decFrom_digits]
theorem atoi_itoa (n : Int) : atoi (itoa n) = some n := by
  unfold itoa
  split
  · rename_i h
    simp only [atoi, beq_self_eq_true, if_true, decNat_digits, Option.map_some]
    congr 1
    omega
  · rename_i h
    obtain ⟨c, r, hc⟩ : ∃ c r, decDigits n.toNat = c :: r := by
      cases hd : decDigits n.toNat with
      | nil => exact absurd hd (digits_ne _)
      | cons c r => exact ⟨c, r, rfl⟩
    have hm := digits_all n.toNat c (by rw [hc]; exact List.mem_cons_self)
    have hd := decNat_digits n.toNat
    rw [hc] at hd ⊢
    have h1 : (c == 45) = false := by
      rw [beq_eq_false_iff_ne]
      rintro rfl
      exact absurd hm.1 (by decide)
    have h2 : (c == 43) = false := by
      rw [beq_eq_false_iff_ne]
      rintro rfl
      exact absurd hm.1 (by decide)
    simp only [atoi, h1, h2, Bool.false_eq_true, if_false, hd, Option.map_some]
    congr 1
    omega
theorem itoa_mem {n : Int} {x : UInt8} (h : x ∈ itoa n) : x.toNat = 45 ∨ (48 ≤ x.toNat ∧ x.toNat ≤ 57) := by
  unfold itoa at h
  split at h
  · rcases List.mem_cons.1 h with rfl | h
    · exact .inl rfl
    · exact .inr (digits_all _ x h)
  · exact .inr (digits_all _ x h)
theorem itoa_len {n : Int} (h1 : -100000 < n) (h2 : n < 100000) : (itoa n).length ≤ 6 := by
  unfold itoa
  split
  · have := digits_len 4 n.natAbs (by omega)
    rw [List.length_cons]
    omega
  · have := digits_len 4 n.toNat (by omega)
    omega
theorem low_small {x : UInt8} (h : x.toNat < 65) : lowerB x = x := by
  have hn : ¬ (65 : UInt8) ≤ x := fun hc => by
    have h1 := UInt8.le_iff_toNat_le.1 hc
    have h2 : (65 : UInt8).toNat = 65 := rfl
    omega
  unfold lowerB isUpperB
  simp [hn]
theorem rng_mem {b e : Int} {x : UInt8} (h : x ∈ rngT b e) : (x.toNat = 45 ∨ (48 ≤ x.toNat ∧ x.toNat ≤ 57)) ∨ x = 58 := by
  unfold rngT at h
  split at h
  · exact .inl (itoa_mem h)
  · rcases List.mem_append.1 h with h | h
    · exact .inl (itoa_mem h)
    · rcases List.mem_cons.1 h with h | h
      · exact .inr h
      · exact .inl (itoa_mem h)
theorem rng_asc {b e : Int} {x : UInt8} (h : x ∈ rngT b e) : x.toNat < 128 := by
  rcases rng_mem h with h | h
  · omega
  · subst h; decide
theorem rng_low (b e : Int) : toLowerA (rngT b e) = rngT b e := by
  unfold toLowerA
  conv => rhs; rw [← List.map_id (rngT b e)]
  refine List.map_congr_left fun x hx => ?_
  rcases rng_mem hx with h | h
  · exact low_small (by omega)
  · subst h; decide
theorem num_size {n : Int} (h1 : -100000 < n) (h2 : n < 100000) : (numB n).size ≤ 6 := by
  have := itoa_len h1 h2
  show (itoa n).toArray.size ≤ 6
  rw [List.size_toArray]
  exact this
end Go.Proofs.YtfkapmbjnfnmmaaDoor.Nums
