/- ParseDuration as a plain function of the bytes. -/
import Derived.Test.YtdookfmcphmlgaaDoorUnit
import Derived.Shelf.Pu.ParseUintPublic10
set_option linter.unusedVariables false
set_option linter.unusedSimpArgs false
namespace Go.Proofs.YtdookfmcphmlgaaDoor.Door
open Go.RowKit Go.Proofs.YtdookfmcphmlgaaDoor.Q Go.Proofs.YtdookfmcphmlgaaDoor.Pure Go.Proofs.YtdookfmcphmlgaaDoorW.PrintWords Go.Proofs.YtdookfmcphmlgaaDoorW.PrintLast
def isdig (b : UInt8) : Bool := decide (48 ≤ b.toNat) && decide (b.toNat ≤ 57)
def dl : List UInt8 → Nat
  | [] => 0
  | b :: r => if isdig b then dl r + 1 else 0
def nl : List UInt8 → Nat
  | [] => 0
  | b :: r => if isdig b then 0 else nl r + 1
theorem dl_le : ∀ l, dl l ≤ l.length
  | [] => Nat.le_refl _
  | b :: r => by
    unfold dl
    split
    · have := dl_le r; rw [List.length_cons]; omega
    · exact Nat.zero_le _
theorem nl_le : ∀ l, nl l ≤ l.length
  | [] => Nat.le_refl _
  | b :: r => by
    unfold nl
    split
    · exact Nat.zero_le _
    · have := nl_le r; rw [List.length_cons]; omega
theorem dl_in : ∀ (l : List UInt8) (i : Nat), i < dl l → isdig (l.getD i 0) = true
  | [], i, h => by simp [dl] at h
  | b :: r, i, h => by
    unfold dl at h
    split at h
    · rename_i hb
      cases i with
      | zero => exact hb
      | succ i => exact dl_in r i (by omega)
    · omega
theorem dl_at : ∀ (l : List UInt8), dl l < l.length → isdig (l.getD (dl l) 0) = false
  | [], h => by simp [dl] at h
  | b :: r, h => by
    unfold dl at h ⊢
    by_cases hb : isdig b = true
    · rw [if_pos hb] at h ⊢
      exact dl_at r (by rw [List.length_cons] at h; omega)
    · rw [if_neg hb]
      simpa using hb
theorem nl_in : ∀ (l : List UInt8) (i : Nat), i < nl l → isdig (l.getD i 0) = false
  | [], i, h => by simp [nl] at h
  | b :: r, i, h => by
    unfold nl at h
    split at h
    · omega
    · rename_i hb
      cases i with
      | zero => simpa using hb
      | succ i => exact nl_in r i (by omega)
theorem nl_at : ∀ (l : List UInt8), nl l < l.length → isdig (l.getD (nl l) 0) = true
  | [], h => by simp [nl] at h
  | b :: r, h => by
    unfold nl at h ⊢
    by_cases hb : isdig b = true
    · rw [if_pos hb]
      exact hb
    · rw [if_neg hb] at h ⊢
      exact nl_at r (by rw [List.length_cons] at h; omega)
/-- One round: what is left, the sum, the last unit's place; or a fault. -/
def durStep (l : List UInt8) (dur : Nat) (last : Int) : Option (List UInt8 × Nat × Int) :=
  if isdig (l.getD 0 0) = false then none
  else match Lib.parseUintB 64 (l.take (dl l)) with
    | .ok v =>
      if dl l = l.length then none
      else match unitOf ⟨((l.drop (dl l)).take (nl (l.drop (dl l)))).toArray⟩ with
        | none => none
        | some (p, m) =>
          if p ≤ last then none
          else if (v : Int) > 9223372036854775808 / m then none
          else if (dur : Int) + v * m > 9223372036854775807 then none
          else some ((l.drop (dl l)).drop (nl (l.drop (dl l))), dur + v * m.toNat, p)
    | _ => none
def durGo : Nat → List UInt8 → Nat → Int → Option Nat
  | 0, _, _, _ => none
  | f + 1, l, dur, last => if l = [] then some dur else match durStep l dur last with
    | none => none
    | some (l', d', p) => durGo f l' d' p
def parseDur (l : List UInt8) : Option Nat := if l = [48] then some 0 else if l = [] then none else durGo (l.length + 1) l 0 0
theorem parse_minus (l : List UInt8) : parseDur (45 :: l) = none := by
  unfold parseDur
  rw [if_neg (by simp), if_neg (by simp)]
  have hd : isdig ((45 :: l).getD 0 0) = false := by rfl
  unfold durGo durStep
  rw [if_neg (by simp), if_pos hd]
theorem dur_none {f : Nat} {l : List UInt8} {d : Nat} {p : Int} {r : Option Nat} (hne : ¬ l = []) (hg : durGo (f + 1) l d p = r) (h : durStep l d p = none) : r = none := by
  unfold durGo at hg
  rw [if_neg hne, h] at hg
  exact hg.symm
theorem dur_some {f : Nat} {l l' : List UInt8} {d d' : Nat} {p p' : Int} {r : Option Nat} (hne : ¬ l = []) (hg : durGo (f + 1) l d p = r) (h : durStep l d p = some (l', d', p')) : durGo f l' d' p' = r := by
  unfold durGo at hg
  rw [if_neg hne, h] at hg
  exact hg
section
variable {l : List UInt8} {d : Nat} {last : Int}
theorem step_nodig (h : isdig (l.getD 0 0) = false) : durStep l d last = none := by unfold durStep; rw [if_pos h]
theorem step_bad (h : isdig (l.getD 0 0) = true) (h2 : ∀ v, Lib.parseUintB 64 (l.take (dl l)) ≠ .ok v) : durStep l d last = none := by
  unfold durStep
  rw [if_neg (by rw [h]; simp)]
  split
  · rename_i v hv; exact absurd hv (h2 v)
  · rfl
theorem step_all (h : isdig (l.getD 0 0) = true) {v : Nat} (h2 : Lib.parseUintB 64 (l.take (dl l)) = .ok v) (h3 : dl l = l.length) : durStep l d last = none := by
  unfold durStep
  rw [if_neg (by rw [h]; simp), h2]
  simp only
  rw [if_pos h3]
theorem step_unit (h : isdig (l.getD 0 0) = true) {v : Nat} (h2 : Lib.parseUintB 64 (l.take (dl l)) = .ok v) (h3 : ¬ dl l = l.length) (h4 : unitOf ⟨((l.drop (dl l)).take (nl (l.drop (dl l)))).toArray⟩ = none) : durStep l d last = none := by
  unfold durStep
  rw [if_neg (by rw [h]; simp), h2]
  simp only
  rw [if_neg h3, h4]
theorem step_rest (h : isdig (l.getD 0 0) = true) {v : Nat} (h2 : Lib.parseUintB 64 (l.take (dl l)) = .ok v) (h3 : ¬ dl l = l.length) {p m : Int} (h4 : unitOf ⟨((l.drop (dl l)).take (nl (l.drop (dl l)))).toArray⟩ = some (p, m)) :
    durStep l d last = if p ≤ last then none
          else if (v : Int) > 9223372036854775808 / m then none
          else if (d : Int) + v * m > 9223372036854775807 then none
          else some ((l.drop (dl l)).drop (nl (l.drop (dl l))), d + v * m.toNat, p) := by
  unfold durStep
  rw [if_neg (by rw [h]; simp), h2]
  simp only
  rw [if_neg h3, h4]
end
theorem unit_bounds {u : ByteArray} {p m : Int} (h : unitOf u = some (p, m)) : 1 ≤ p ∧ p ≤ 7 ∧ 1 ≤ m ∧ m ≤ 31536000000000000 := by
  unfold unitOf unitTab unitIn unitIn unitIn unitIn unitIn unitIn unitIn unitIn at h
  repeat' split at h
  all_goals first | (injection h with h; injection h with h1 h2; subst h1; subst h2; decide) | cases h
theorem byte_at (z : ByteArray) (i : Nat) (h : i < z.size) : z[i]'h = z.data.toList.getD i 0 := by
  have hz : z.data.toList.length = z.size := by rw [Array.length_toList]; rfl
  rw [List.getD_eq_getElem?_getD, List.getElem?_eq_getElem (by omega)]
  rfl
theorem dur_w0 {m : Int} (h1 : 1 ≤ m) (h2 : m ≤ 31536000000000000) : IntKind.u64.wrap (Int.tdiv 9223372036854775808 m) = 9223372036854775808 / m := by
  have h3 : (9223372036854775808 : Int) / m ≤ 9223372036854775808 := Int.ediv_le_self _ (by omega)
  have h4 : 0 ≤ (9223372036854775808 : Int) / m := Int.ediv_nonneg (by omega) (by omega)
  rw [Int.tdiv_eq_ediv_of_nonneg (by omega), IntKind.wrap]
  simp [IntKind.bits, IntKind.signed]
  omega
theorem dur_w1 {v : Nat} {m : Int} (h1 : 1 ≤ m) (h2 : m ≤ 31536000000000000) (h : IntKind.u64.wrap (Int.tdiv 9223372036854775808 m) < (v : Int)) : (v : Int) > 9223372036854775808 / m := by
  rw [dur_w0 h1 h2] at h
  exact h
theorem dur_w2 {v d : Nat} {m : Int} (h1 : 1 ≤ m) (h2 : m ≤ 31536000000000000) (hd : d ≤ 9223372036854775807) (h : (v : Int) ≤ IntKind.u64.wrap (Int.tdiv 9223372036854775808 m)) :
    ¬ (v : Int) > 9223372036854775808 / m ∧ IntKind.u64.wrap ((d : Int) + IntKind.u64.wrap ((v : Int) * m)) = (d : Int) + v * m := by
  rw [dur_w0 h1 h2] at h
  have h5 : (v : Int) * m ≤ 9223372036854775808 := (Int.le_ediv_iff_mul_le (by omega)).1 h
  have h6 : 0 ≤ (v : Int) * m := Int.mul_nonneg (by omega) (by omega)
  refine ⟨by omega, ?_⟩
  generalize (v : Int) * m = x at h5 h6
  have e1 : IntKind.u64.wrap x = x := by
    rw [IntKind.wrap]
    simp [IntKind.bits, IntKind.signed]
    omega
  rw [e1, IntKind.wrap]
  simp [IntKind.bits, IntKind.signed]
  omega
theorem dur_nat {v d : Nat} {m : Int} (h1 : 1 ≤ m) : ((d + v * m.toNat : Nat) : Int) = (d : Int) + v * m := by
  rw [Int.natCast_add, Int.natCast_mul, Int.toNat_of_nonneg (by omega)]
end Go.Proofs.YtdookfmcphmlgaaDoor.Door
