-- printed by this project's own program wip/tools/mkprint.py (the kit's print.py with hand-proved contracts put in)
import Derived.Test.YtdookfmcphmlgaaDoorQx0
namespace Go.Proofs.YtdookfmcphmlgaaDoor.Q
open Go.RowKit Go.Proofs.YtdookfmcphmlgaaDoorW.PrintWords Go.Proofs.YtdookfmcphmlgaaDoorW.PrintLast Go.Proofs.YtdookfmcphmlgaaDoorW.PrintMore
attribute [local go_sem] max2_int min2_int max_two min_two max_three min_three max_four min_four   -- for this text's walks alone
set_option linter.unusedVariables false
set_option linter.unusedSimpArgs false

-- NOT PRINTED: function 12 (errors_New)

/-! ### model_isdigit: function 13 -/
def model_isdigit.f (a0 : Int) : Option (Bool) := if a0 ≥ 48 then (some (decide (a0 ≤ 57))) else (some false)
set_option maxHeartbeats 8000000 in
set_option maxRecDepth 100000 in
theorem model_isdigit.calls (a0 : Int) (r : Bool) (w : World) (h : model_isdigit.f a0 = some r) :
    Calls Tryd.prog 13 #[.int .u8 a0] w fun e w' => e = .returned (.bool r) ∧ Drawn0 w w' := by
  have H : (if a0 ≥ 48 then (some (decide (a0 ≤ 57))) else (some false)) = some r := h
  clear h
  by_cases c2 : a0 ≥ 48
  · rw [if_pos c2] at H
    have c2b0 : decide (48 ≤ a0) = true := decide_eq_true c2
    clear c2
    obtain rfl := Option.some.inj H
    go_enter Tryd.func13, Tryd.ntmps13
    go_wp2
    go_ret
    exact ⟨by first | rfl | (simp; done) | (simp [*]; done), by repeat (first | exact Drawn0.refl _ | apply Drawn0.step)⟩
  · rw [if_neg c2] at H
    have c2b0 : decide (48 ≤ a0) = false := decide_eq_false c2
    clear c2
    obtain rfl := Option.some.inj H
    go_enter Tryd.func13, Tryd.ntmps13
    go_wp2
    go_ret
    exact ⟨by first | rfl | (simp; done) | (simp [*]; done), by repeat (first | exact Drawn0.refl _ | apply Drawn0.step)⟩

/-! ### strconv_lower: function 21 -/
-- contracts that were proved by hand
-- nothing told here: the shelf stands in its place


/-! ### strconv_underscoreOK: function 22 -/
-- contracts that were proved by hand
-- nothing told here: the shelf stands in its place


/-! ### strconv_ParseUint_18: function 18 -/
-- contracts that were proved by hand
-- nothing told here: the shelf stands in its place


-- NOT PRINTED: function 31 (stringslite_Clone)

-- NOT PRINTED: function 23 (strconv_syntaxError)

-- NOT PRINTED: function 24 (strconv_rangeError)

/-! ### strconv_small: function 27 -/
-- contracts that were proved by hand
-- nothing told here: the shelf stands in its place


/-! ### strconv_log10Pow2: function 33 -/
-- contracts that were proved by hand
-- nothing told here: the shelf stands in its place


/-! ### bits_Len64: function 34 -/
-- contracts that were proved by hand
-- nothing told here: the shelf's contract of sort.Strings stands in its place


/-! ### strconv_bool2_int: function 35 -/
-- contracts that were proved by hand
-- nothing told here: the shelf stands in its place


/-! ### strconv_numDigits: function 28 -/
-- contracts that were proved by hand
-- nothing told here: the shelf stands in its place


/-! ### strconv_formatBase10: function 29 -/
-- contracts that were proved by hand
-- nothing told here: the shelf stands in its place


/-! ### strconv_isPowerOfTwo: function 36 -/
-- contracts that were proved by hand
-- nothing told here: the shelf stands in its place


-- NOT PRINTED: function 39 (bits_TrailingZeros32)

-- NOT PRINTED: function 40 (bits_TrailingZeros64)

-- NOT PRINTED: function 37 (bits_TrailingZeros)

/-! ### strconv_formatBits: function 30 -/
-- contracts that were proved by hand
-- nothing told here: the shelf stands in its place


/-! ### strconv_FormatInt: function 20 -/
-- contracts that were proved by hand
-- nothing told here: the shelf stands in its place


/-! ### strconv_Itoa_38: function 38 -/
-- contracts that were proved by hand
-- nothing told here: the shelf stands in its place


-- NOT PRINTED: function 32 (strconv_Itoa_32)

-- NOT PRINTED: function 25 (strconv_baseError)

-- NOT PRINTED: function 26 (strconv_bitSizeError)

-- NOT PRINTED: function 19 (strconv_toError)

-- NOT PRINTED: function 14 (strconv_ParseUint_14)

-- NOT PRINTED: function 15 (model_unitMap)

-- NOT PRINTED: function 10 (model_ParseDuration)

-- NOT PRINTED: function 9 (model_ParseDurationAllowNegative)

-- NOT PRINTED: function 5 (impl_ReadSigned)

/-! ### laws_long: function 6 -/
def laws_long.f (a0 : ByteArray) : Option (Bool) := some (decide ((a0.size : Int) > 65536))
set_option maxHeartbeats 8000000 in
set_option maxRecDepth 100000 in
theorem laws_long.calls (a0 : ByteArray) (r : Bool) (w : World) (h : laws_long.f a0 = some r) :
    Calls Tryd.prog 6 #[.string a0] w fun e w' => e = .returned (.bool r) ∧ Drawn0 w w' := by
  have H : (some (decide ((a0.size : Int) > 65536))) = some r := h
  clear h
  obtain rfl := Option.some.inj H
  go_enter Tryd.func6, Tryd.ntmps6
  go_wp2
  go_ret
  exact ⟨by first | rfl | (simp; done) | (simp [*]; done), by repeat (first | exact Drawn0.refl _ | apply Drawn0.step)⟩

-- NOT PRINTED: function 7 (impl_ReadDuration)

-- NOT PRINTED: function 3 (laws_FnReadSigned)

-- NOT PRINTED: function 11 (model_Duration_String)

-- NOT PRINTED: function 8 (impl_DurationText)

-- NOT PRINTED: function 4 (laws_FnDurationBack)

end Go.Proofs.YtdookfmcphmlgaaDoor.Q
