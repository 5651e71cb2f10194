/- parse.lexer: scanOperator. -/
import Derived.Test.YtmjoebnphacadaaDoorLexD
namespace Go.Proofs.YtmjoebnphacadaaDoor.Lex
open Go.RowKit Go.Lib Go.Proofs.YtmjoebnphacadaaDoorW.PrintWords Go.Proofs.YtmjoebnphacadaaDoorW.PrintLast
set_option linter.unusedVariables false
set_option linter.unusedSimpArgs false
/-- A token as the lexer's own value. -/
def tokV (s : ByteArray) (k a p ca c : Nat) : Value := .agg #[.int .i64 (k : Int), .string (s.extract a p), .int .i64 (a : Int), .int .i64 (p : Int), .int .i64 (ca : Int), .int .i64 (c : Int)]
def noTok : Value := .agg #[.int .i64 0, .string ⟨#[]⟩, .int .i64 0, .int .i64 0, .int .i64 0, .int .i64 0]
def tB : ByteArray := ⟨#[126]⟩
def eB : ByteArray := ⟨#[61]⟩
def xB : ByteArray := ⟨#[33]⟩
/-- The operator at a place: its kind and the runes that it has. -/
def opK (s : ByteArray) (p : Nat) : Option (Nat × Nat) :=
  if accB s xB p = true then
    (if accB s eB (p + wdt s p) = true then some (5, p + wdt s p + wdt s (p + wdt s p)) else if accB s tB (p + wdt s p) = true then some (7, p + wdt s p + wdt s (p + wdt s p)) else none)
  else if accB s eB p = true then
    (if accB s tB (p + wdt s p) = true then some (6, p + wdt s p + wdt s (p + wdt s p)) else some (4, p + wdt s p))
  else none
section
variable {w : World} {B o : Nat} {s : ByteArray} {e : Value} {a p wd ca c : Nat}
theorem acc_le {v : ByteArray} (h : accB s v p = true) : p + wdt s p ≤ s.size ∧ 1 ≤ wdt s p := by
  unfold accB at h
  simp only [Bool.and_eq_true, decide_eq_true_eq] at h
  exact ⟨adv_le s p h.1, adv_pos s p⟩
end
end Go.Proofs.YtmjoebnphacadaaDoor.Lex
