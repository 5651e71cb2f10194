/- Bits of moments (time.Time): plain lemmas. -/
import Derived.Laws.BitsAllLaws
import Derived.WalkLawsBesides
import Derived.Test.YthjameohenmeiaaLib
set_option linter.unusedVariables false
set_option linter.unusedSimpArgs false
namespace Go.Proofs.Ythjameohenmeiaa.Q
open Go.RowKit Go.Proofs.YthjameohenmeiaaW.PrintWords
theorem low30 (a : Nat) (h : a < 1073741824) : Go.bits .and .u64 (a : Int) 1073741823 = (a : Int) := by
  have e : a &&& 1073741823 = a % 1073741824 := Nat.and_two_pow_sub_one_eq_mod a 30
  have := u64_and_nat a 1073741823 (by omega) (by decide)
  rw [e, Nat.mod_eq_of_lt h] at this
  exact this
theorem noMono (a : Nat) (h : a < 1073741824) : Go.bits .and .u64 (a : Int) 9223372036854775808 = 0 := by
  have e : a &&& 9223372036854775808 = 0 := by
    refine Nat.eq_of_testBit_eq fun i => ?_
    rw [show (9223372036854775808 : Nat) = 2 ^ 63 by decide, Nat.testBit_and, Nat.testBit_two_pow, Nat.zero_testBit]
    by_cases hi : 63 = i
    · subst hi
      rw [Nat.testBit_lt_two_pow (by omega)]
      rfl
    · simp [hi]
  have := u64_and_nat a 9223372036854775808 (by omega) (by decide)
  rw [e] at this
  exact this
theorem wrap_i32 (a : Nat) (h : a < 1073741824) : IntKind.i32.wrap (a : Int) = (a : Int) := by
  simp [IntKind.wrap, IntKind.bits, IntKind.signed]
  omega
end Go.Proofs.Ythjameohenmeiaa.Q
