/- Days of the week as texts. -/
import Derived.Test.YtfkapmbjnfnmmaaDoorProg
import Derived.Test.YtfkapmbjnfnmmaaDoorWWords
set_option linter.unusedVariables false
set_option linter.unusedSimpArgs false
namespace Go.Proofs.YtfkapmbjnfnmmaaDoor.Days
def dayT (n : Nat) : List UInt8 := match n with
  | 0 => [115, 117, 110, 100, 97, 121]
  | 1 => [109, 111, 110, 100, 97, 121]
  | 2 => [116, 117, 101, 115, 100, 97, 121]
  | 3 => [119, 101, 100, 110, 101, 115, 100, 97, 121]
  | 4 => [116, 104, 117, 114, 115, 100, 97, 121]
  | 5 => [102, 114, 105, 100, 97, 121]
  | _ => [115, 97, 116, 117, 114, 100, 97, 121]
def rangeT (b e : Nat) : List UInt8 := if b = e then dayT b else dayT b ++ 58 :: dayT e
def dayB (n : Nat) : ByteArray := ⟨(dayT n).toArray⟩
def rangeB (b e : Nat) : ByteArray := ⟨(rangeT b e).toArray⟩
def pairs7 : List (Nat × Nat) := (List.range 7).flatMap fun b => (List.range 7).map fun e => (b, e)
def daysR (l : List UInt8) : Option (Nat × Nat) := pairs7.find? fun p => decide (p.1 ≤ p.2) && decide (rangeT p.1 p.2 = l)
theorem daysR_some {l : List UInt8} {b e : Nat} (h : daysR l = some (b, e)) : b ≤ e ∧ e ≤ 6 ∧ l = rangeT b e := by
  unfold daysR at h
  have h1 := List.find?_some h
  have h2 := List.mem_of_find?_eq_some h
  simp only [Bool.and_eq_true, decide_eq_true_eq] at h1
  unfold pairs7 at h2
  obtain ⟨x, hx, h2⟩ := List.mem_flatMap.1 h2
  obtain ⟨y, hy, h2⟩ := List.mem_map.1 h2
  injection h2 with e1 e2
  subst e1 e2
  have := List.mem_range.1 hy
  exact ⟨h1.1, by omega, h1.2.symm⟩
theorem seven {n : Nat} (h : n ≤ 6) : n = 0 ∨ n = 1 ∨ n = 2 ∨ n = 3 ∨ n = 4 ∨ n = 5 ∨ n = 6 := by omega
theorem daysR_range : ∀ b e : Fin 7, b ≤ e → daysR (rangeT b.val e.val) = some (b.val, e.val) := by decide +kernel
end Go.Proofs.YtfkapmbjnfnmmaaDoor.Days
