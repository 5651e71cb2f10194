-- printed by this project's own program wip/tools/mkprint.py (the kit's print.py with hand-proved contracts put in)
import Derived.Test.YtnjghpoeokfekaaDoorQx0
namespace Go.Proofs.YtnjghpoeokfekaaDoor.Q
open Go.RowKit Go.Proofs.YtnjghpoeokfekaaDoorW.PrintWords Go.Proofs.YtnjghpoeokfekaaDoorW.PrintLast Go.Proofs.YtnjghpoeokfekaaDoorW.PrintMore
attribute [local go_sem] max2_int min2_int max_two min_two max_three min_three max_four min_four   -- for this text's walks alone
set_option linter.unusedVariables false
set_option linter.unusedSimpArgs false

/-! ### laws_hex: function 7 -/
def laws_hex.l0 : Nat → Int → ByteArray → Int → Option (ByteArray)
  | 0, _, _, _ => none
  | k + 1, x0, x3, x4 => if x4 ≥ 0 then (if 0 ≤ (IntKind.u64.wrap (x4)) then (if 0 ≤ (wrap64 (Go.bits .and .u64 (shr .u64 x0 (IntKind.u64.wrap (x4))) 15)) then (if (wrap64 (Go.bits .and .u64 (shr .u64 x0 (IntKind.u64.wrap (x4))) 15)) ≤ (wrap64 ((wrap64 (Go.bits .and .u64 (shr .u64 x0 (IntKind.u64.wrap (x4))) 15)) + 1)) then (if (wrap64 ((wrap64 (Go.bits .and .u64 (shr .u64 x0 (IntKind.u64.wrap (x4))) 15)) + 1)) ≤ 16 then (if x3.size + ((⟨#[48, 49, 50, 51, 52, 53, 54, 55, 56, 57, 97, 98, 99, 100, 101, 102]⟩ : ByteArray).extract ((wrap64 (Go.bits .and .u64 (shr .u64 x0 (IntKind.u64.wrap (x4))) 15)) : Int).toNat ((wrap64 ((wrap64 (Go.bits .and .u64 (shr .u64 x0 (IntKind.u64.wrap (x4))) 15)) + 1)) : Int).toNat).size ≤ 9223372036854775807 then (laws_hex.l0 k x0 (x3 ++ ((⟨#[48, 49, 50, 51, 52, 53, 54, 55, 56, 57, 97, 98, 99, 100, 101, 102]⟩ : ByteArray).extract ((wrap64 (Go.bits .and .u64 (shr .u64 x0 (IntKind.u64.wrap (x4))) 15)) : Int).toNat ((wrap64 ((wrap64 (Go.bits .and .u64 (shr .u64 x0 (IntKind.u64.wrap (x4))) 15)) + 1)) : Int).toNat)) (wrap64 (x4 - 4))) else (none)) else (none)) else (none)) else (none)) else (none)) else (some x3)
def laws_hex.f (k : Nat) (a0 : Int) : Option (ByteArray) := laws_hex.l0 k a0 (⟨#[]⟩ : ByteArray) 60
theorem laws_hex.mono_l : ∀ k, (∀ y0 y1 y2, LeO (laws_hex.l0 k y0 y1 y2) (laws_hex.l0 (k + 1) y0 y1 y2))
  | 0 => fun _ _ _ r h => by simp [laws_hex.l0] at h
  | k + 1 => by
    have ih0 := laws_hex.mono_l k
    · intro y0 y1 y2
      unfold laws_hex.l0
      repeat' first
      | (with_reducible exact ih0 _ _ _)
      | (with_reducible exact LeO.refl _)
      | (with_reducible exact LeO.none _)
      | (with_reducible refine LeO.ite ?_ ?_)
      | (with_reducible refine LeO.bind ?_ (fun _ => ?_))
      | exact ih0 _ _ _
      | exact LeO.none _
      | refine LeO.ite ?_ ?_
      | refine LeO.bind ?_ (fun _ => ?_)
theorem laws_hex.mono : ∀ a0 k, LeO (laws_hex.f k a0) (laws_hex.f (k + 1) a0) := by
  intro a0 k
  have ih0 := laws_hex.mono_l k
  unfold laws_hex.f
  repeat' first
      | (with_reducible exact ih0 _ _ _)
      | (with_reducible exact LeO.refl _)
      | (with_reducible exact LeO.none _)
      | (with_reducible refine LeO.ite ?_ ?_)
      | (with_reducible refine LeO.bind ?_ (fun _ => ?_))
      | exact ih0 _ _ _
      | exact LeO.none _
      | refine LeO.ite ?_ ?_
      | refine LeO.bind ?_ (fun _ => ?_)
set_option maxHeartbeats 8000000 in
set_option maxRecDepth 100000 in
theorem laws_hex.calls (k : Nat) (a0 : Int) (r : ByteArray) (w : World) (h : laws_hex.f k a0 = some r) :
    Calls Tryd.prog 7 #[.int .u64 a0] w fun e w' => e = .returned (.string r) ∧ Drawn0 w w' := by
  have H : (laws_hex.l0 k a0 (⟨#[]⟩ : ByteArray) 60) = some r := h
  clear h
  have H' := Aside0.mk H
  clear H
  go_enter Tryd.func7, Tryd.ntmps7
  go_wp2
  go_loopg [3, 4] k (fun kq v3 v4 w' => ∃ (x3_1 : ByteArray) (x4_1 : Int), v3 = .string x3_1 ∧ v4 = .int .i64 x4_1 ∧ Aside0 (laws_hex.l0 kq a0 x3_1 x4_1 = some r) ∧ Aside0 (kq ≤ k) ∧ Drawn0 w w')
  case atStart => exact ⟨((⟨#[]⟩ : ByteArray)), (60), (by first | rfl | (simp; done) | (simp [*]; done)), (by first | rfl | (simp; done) | (simp [*]; done)), H', ⟨Nat.le_refl _⟩, by repeat (first | exact Drawn0.refl _ | apply Drawn0.step)⟩
  case round =>
    clear H'
    obtain ⟨x3_1, x4_1, rfl, rfl, HA, HK1, ⟨m1, rfl⟩⟩ := hrel
    cases gk with
    | zero => exact absurd HA.out (by simp [laws_hex.l0])
    | succ k1 =>
      have H := HA.out
      clear HA
      simp only [laws_hex.l0] at H
      by_cases c2 : x4_1 ≥ 0
      · rw [if_pos c2] at H
        have c2b0 : decide (0 ≤ x4_1) = true := decide_eq_true c2
        clear c2
        obtain ⟨ji3, hji3⟩ : ∃ j_ : Int, (IntKind.u64.wrap (x4_1)) = j_ := ⟨_, rfl⟩
        replace H : (if 0 ≤ (ji3) then (if 0 ≤ (wrap64 (Go.bits .and .u64 (shr .u64 a0 (ji3)) 15)) then (if (wrap64 (Go.bits .and .u64 (shr .u64 a0 (ji3)) 15)) ≤ (wrap64 ((wrap64 (Go.bits .and .u64 (shr .u64 a0 (ji3)) 15)) + 1)) then (if (wrap64 ((wrap64 (Go.bits .and .u64 (shr .u64 a0 (ji3)) 15)) + 1)) ≤ 16 then (if x3_1.size + ((⟨#[48, 49, 50, 51, 52, 53, 54, 55, 56, 57, 97, 98, 99, 100, 101, 102]⟩ : ByteArray).extract ((wrap64 (Go.bits .and .u64 (shr .u64 a0 (ji3)) 15)) : Int).toNat ((wrap64 ((wrap64 (Go.bits .and .u64 (shr .u64 a0 (ji3)) 15)) + 1)) : Int).toNat).size ≤ 9223372036854775807 then (laws_hex.l0 k1 a0 (x3_1 ++ ((⟨#[48, 49, 50, 51, 52, 53, 54, 55, 56, 57, 97, 98, 99, 100, 101, 102]⟩ : ByteArray).extract ((wrap64 (Go.bits .and .u64 (shr .u64 a0 (ji3)) 15)) : Int).toNat ((wrap64 ((wrap64 (Go.bits .and .u64 (shr .u64 a0 (ji3)) 15)) + 1)) : Int).toNat)) (wrap64 (x4_1 - 4))) else (none)) else (none)) else (none)) else (none)) else (none)) = some r := by first | (rw [hji3] at H; exact H) | (simp only [hji3] at H ⊢; exact H)
        by_cases c4 : 0 ≤ (ji3)
        · rw [if_pos c4] at H
          have c4b0 := eq_true c4
          have c4b1 : decide (0 ≤ (ji3)) = true := decide_eq_true c4
          clear c4
          obtain ⟨ji5, hji5⟩ : ∃ j_ : Int, (shr .u64 a0 (ji3)) = j_ := ⟨_, rfl⟩
          replace H : (if 0 ≤ (wrap64 (Go.bits .and .u64 (ji5) 15)) then (if (wrap64 (Go.bits .and .u64 (ji5) 15)) ≤ (wrap64 ((wrap64 (Go.bits .and .u64 (ji5) 15)) + 1)) then (if (wrap64 ((wrap64 (Go.bits .and .u64 (ji5) 15)) + 1)) ≤ 16 then (if x3_1.size + ((⟨#[48, 49, 50, 51, 52, 53, 54, 55, 56, 57, 97, 98, 99, 100, 101, 102]⟩ : ByteArray).extract ((wrap64 (Go.bits .and .u64 (ji5) 15)) : Int).toNat ((wrap64 ((wrap64 (Go.bits .and .u64 (ji5) 15)) + 1)) : Int).toNat).size ≤ 9223372036854775807 then (laws_hex.l0 k1 a0 (x3_1 ++ ((⟨#[48, 49, 50, 51, 52, 53, 54, 55, 56, 57, 97, 98, 99, 100, 101, 102]⟩ : ByteArray).extract ((wrap64 (Go.bits .and .u64 (ji5) 15)) : Int).toNat ((wrap64 ((wrap64 (Go.bits .and .u64 (ji5) 15)) + 1)) : Int).toNat)) (wrap64 (x4_1 - 4))) else (none)) else (none)) else (none)) else (none)) = some r := by first | (rw [hji5] at H; exact H) | (simp only [hji5] at H ⊢; exact H)
          have hji5_ : (a0 / 2 ^ min (ji3).toNat 64) = ji5 := hji5
          have hji5z : (ji3) ≤ 64 → (a0 / 2 ^ (ji3).toNat) = ji5 := shr_small hji5
          obtain ⟨ji6, hji6⟩ : ∃ j_ : Int, (wrap64 (Go.bits .and .u64 (ji5) 15)) = j_ := ⟨_, rfl⟩
          replace H : (if 0 ≤ (ji6) then (if (ji6) ≤ (wrap64 ((ji6) + 1)) then (if (wrap64 ((ji6) + 1)) ≤ 16 then (if x3_1.size + ((⟨#[48, 49, 50, 51, 52, 53, 54, 55, 56, 57, 97, 98, 99, 100, 101, 102]⟩ : ByteArray).extract ((ji6) : Int).toNat ((wrap64 ((ji6) + 1)) : Int).toNat).size ≤ 9223372036854775807 then (laws_hex.l0 k1 a0 (x3_1 ++ ((⟨#[48, 49, 50, 51, 52, 53, 54, 55, 56, 57, 97, 98, 99, 100, 101, 102]⟩ : ByteArray).extract ((ji6) : Int).toNat ((wrap64 ((ji6) + 1)) : Int).toNat)) (wrap64 (x4_1 - 4))) else (none)) else (none)) else (none)) else (none)) = some r := by first | (rw [hji6] at H; exact H) | (simp only [hji6] at H ⊢; exact H)
          have hji6w : (IntKind.i64.wrap (Go.bits .and .u64 (ji5) 15)) = ji6 := (i64_w _).trans hji6
          by_cases c7 : 0 ≤ (ji6)
          · rw [if_pos c7] at H
            have c7b0 := eq_true c7
            have c7b1 : decide (0 ≤ (ji6)) = true := decide_eq_true c7
            clear c7
            by_cases c8 : (ji6) ≤ (wrap64 ((ji6) + 1))
            · rw [if_pos c8] at H
              have c8b0 := eq_true c8
              have c8b1 : decide ((ji6) ≤ (wrap64 ((ji6) + 1))) = true := decide_eq_true c8
              by_cases c9 : (wrap64 ((ji6) + 1)) ≤ 16
              · rw [if_pos c9] at H
                have c9b0 := eq_true c9
                have c9b1 : decide ((wrap64 ((ji6) + 1)) ≤ 16) = true := decide_eq_true c9
                by_cases c10 : x3_1.size + ((⟨#[48, 49, 50, 51, 52, 53, 54, 55, 56, 57, 97, 98, 99, 100, 101, 102]⟩ : ByteArray).extract ((ji6) : Int).toNat ((wrap64 ((ji6) + 1)) : Int).toNat).size ≤ 9223372036854775807
                · rw [if_pos c10] at H
                  have c10b0 := eq_true c10
                  have c10b1 : decide (x3_1.size + ((⟨#[48, 49, 50, 51, 52, 53, 54, 55, 56, 57, 97, 98, 99, 100, 101, 102]⟩ : ByteArray).extract ((ji6) : Int).toNat ((wrap64 ((ji6) + 1)) : Int).toNat).size ≤ 9223372036854775807) = true := decide_eq_true c10
                  try have c10b2 : (9223372036854775807 < x3_1.size + ((⟨#[48, 49, 50, 51, 52, 53, 54, 55, 56, 57, 97, 98, 99, 100, 101, 102]⟩ : ByteArray).extract ((ji6) : Int).toNat ((wrap64 ((ji6) + 1)) : Int).toNat).size) = False := eq_false (Nat.not_lt.2 c10)
                  have H' := Aside0.mk H
                  clear H
                  go_wp2
                  go_roundg k1
                  case measure => have := HK1.out; omega
                  case rel => exact ⟨(x3_1 ++ ((⟨#[48, 49, 50, 51, 52, 53, 54, 55, 56, 57, 97, 98, 99, 100, 101, 102]⟩ : ByteArray).extract ((ji6) : Int).toNat ((wrap64 ((ji6) + 1)) : Int).toNat)), (wrap64 (x4_1 - 4)), (by first | rfl | (simp; done) | (simp only [← hji6] <;> (first | rfl | simp)) | (simp [*]; done)), (by first | rfl | (simp; done) | (simp [*]; done)), H', ⟨by have := HK1.out; omega⟩, by repeat (first | exact Drawn0.refl _ | apply Drawn0.step)⟩
                · rw [if_neg c10] at H
                  exact absurd H (by simp)
              · rw [if_neg c9] at H
                exact absurd H (by simp)
            · rw [if_neg c8] at H
              exact absurd H (by simp)
          · rw [if_neg c7] at H
            exact absurd H (by simp)
        · rw [if_neg c4] at H
          exact absurd H (by simp)
      · rw [if_neg c2] at H
        have c2b0 : decide (0 ≤ x4_1) = false := decide_eq_false c2
        clear c2
        obtain rfl := Option.some.inj H
        go_wp2
        go_ret
        exact ⟨by first | rfl | (simp; done) | (simp [*]; done), by repeat (first | exact Drawn0.refl _ | apply Drawn0.step)⟩

/-! ### strconv_lower: function 48 -/
-- contracts that were proved by hand
-- nothing told here: the shelf stands in its place


/-! ### strconv_underscoreOK: function 49 -/
-- contracts that were proved by hand
-- nothing told here: the shelf stands in its place


/-! ### strconv_ParseUint_41: function 41 -/
-- contracts that were proved by hand
-- nothing told here: the shelf stands in its place


-- NOT PRINTED: function 61 (stringslite_Clone)

-- NOT PRINTED: function 50 (strconv_syntaxError)

-- NOT PRINTED: function 51 (strconv_rangeError)

-- NOT PRINTED: function 62 (errors_New)

/-! ### strconv_small: function 57 -/
-- contracts that were proved by hand
-- nothing told here: the shelf stands in its place


/-! ### strconv_log10Pow2: function 64 -/
-- contracts that were proved by hand
-- nothing told here: the shelf stands in its place


/-! ### bits_Len64: function 65 -/
-- contracts that were proved by hand
-- nothing told here: the shelf's contract of sort.Strings stands in its place


/-! ### strconv_bool2_int: function 66 -/
-- contracts that were proved by hand
-- nothing told here: the shelf stands in its place


/-! ### strconv_numDigits: function 58 -/
-- contracts that were proved by hand
-- nothing told here: the shelf stands in its place


/-! ### strconv_formatBase10: function 59 -/
-- contracts that were proved by hand
-- nothing told here: the shelf stands in its place


/-! ### strconv_isPowerOfTwo: function 67 -/
-- contracts that were proved by hand
-- nothing told here: the shelf stands in its place


-- NOT PRINTED: function 70 (bits_TrailingZeros32)

-- NOT PRINTED: function 71 (bits_TrailingZeros64)

-- NOT PRINTED: function 68 (bits_TrailingZeros)

/-! ### strconv_formatBits: function 60 -/
-- contracts that were proved by hand
-- nothing told here: the shelf stands in its place


/-! ### strconv_FormatInt_47: function 47 -/
-- contracts that were proved by hand
-- nothing told here: the shelf stands in its place


/-! ### strconv_Itoa_69: function 69 -/
-- contracts that were proved by hand
-- nothing told here: the shelf stands in its place


-- NOT PRINTED: function 63 (strconv_Itoa_63)

-- NOT PRINTED: function 52 (strconv_baseError)

-- NOT PRINTED: function 53 (strconv_bitSizeError)

-- NOT PRINTED: function 42 (strconv_toError)

-- NOT PRINTED: function 26 (strconv_ParseUint_26)

-- NOT PRINTED: function 18 (model_ParseFingerprint)

/-! ### impl_ReadPrint: function 8 -/
-- a contract that was proved by hand
def impl_ReadPrint.f (a0 : ByteArray) : Option (Int × Bool) := if a0.size ≠ 0 ∧ a0.size ≤ 16 then (Door.hexv 0 a0.data.toList).map fun (v : Nat) => ((v : Int), true) else none
theorem strconv_ParseUint16 (t : ByteArray) (v : Nat) (hne : t.size ≠ 0) (hmax : t.size ≤ 16) (hv : Door.hexv 0 t.data.toList = some v) (w : World) :
    Calls Tryd.prog 26 #[.string t, .int .i64 16, .int .i64 64] w fun e w' => e = .returned (.tuple #[.int .u64 v, .nilIface]) ∧ Below w.heap.size w w' := by
  have H := Aside0.mk (Door.istrconv_ParseUint16 t v hne hmax hv w)
  clear hv
  go_enter Tryd.func26, Tryd.ntmps26
  go_wp2_with fail
  refine H.out.mono ?_
  rintro e w1 ⟨rfl, hb⟩
  go_wp2
  go_ret2
  exact ⟨rfl, hb⟩
theorem model_ParseFingerprint16 (t : ByteArray) (v : Nat) (hne : t.size ≠ 0) (hmax : t.size ≤ 16) (hv : Door.hexv 0 t.data.toList = some v) (w : World) :
    Calls Tryd.prog 18 #[.string t] w fun e w' => e = .returned (.tuple #[.int .u64 v, .nilIface]) ∧ Below w.heap.size w w' := by
  have H := Aside0.mk (strconv_ParseUint16 t v hne hmax hv w)
  clear hv
  go_enter Tryd.func18, Tryd.ntmps18
  go_wp2_with fail
  refine H.out.mono ?_
  rintro e w1 ⟨rfl, hb⟩
  go_wp2
  go_ret2
  exact ⟨rfl, hb⟩
theorem impl_ReadPrint.calls (a0 : ByteArray) (r1 : Int) (r2 : Bool) (w : World) (h : impl_ReadPrint.f a0 = some (r1, r2)) :
    Calls Tryd.prog 8 #[.string a0] w fun e w' => e = .returned (.tuple #[.int .u64 r1, .bool r2]) ∧ Below w.heap.size w w' := by
  unfold impl_ReadPrint.f at h
  by_cases hc : a0.size ≠ 0 ∧ a0.size ≤ 16
  · rw [if_pos hc] at h
    cases hv : Door.hexv 0 a0.data.toList with
    | none => rw [hv] at h; cases h
    | some v =>
      rw [hv] at h
      injection h with h
      injection h with h1 h2
      subst h1
      subst h2
      have H := Aside0.mk (model_ParseFingerprint16 a0 v hc.1 hc.2 hv w)
      clear hv hc
      go_enter Tryd.func8, Tryd.ntmps8
      go_wp2_with fail
      refine H.out.mono ?_
      rintro e w1 ⟨rfl, hb⟩
      have HB := Aside0.mk hb
      clear hb
      go_wp2
      go_quiet (fail)
      go_wp2
      go_ret2
      exact ⟨rfl, below_drewN HB.out _⟩
  · rw [if_neg hc] at h
    cases h


/-! ### laws_turned: function 9 -/
-- a contract that was proved by hand
def laws_turned.f (a0 : ByteArray) (l1 : List Bool) : Option ByteArray := if a0.size ≤ 2147483647 ∧ l1.length ≤ 2147483647 then some ⟨(Door.turnTo l1 a0.data.toList.length a0.data.toList).toArray⟩ else none
set_option maxHeartbeats 6400000 in
set_option maxRecDepth 100000 in
theorem laws_turned.calls (a0 : ByteArray) (A1 : Option Addr) (c1 : Nat) (l1 : List Bool) (r : ByteArray) (w : World) (hr1 : Kd.C Kd.bool w A1 l1.length l1) (hc1 : l1.length ≤ c1) (h : laws_turned.f a0 l1 = some r) :
    Calls Tryd.prog 9 #[.string a0, .slice A1 l1.length c1] w fun e w' => e = .returned (.string r) ∧ Below w.heap.size w w' := by
  unfold laws_turned.f at h
  by_cases hc : a0.size ≤ 2147483647 ∧ l1.length ≤ 2147483647
  · rw [if_pos hc] at h
    injection h with h
    obtain ⟨hz, hl⟩ := hc
    have hbz : a0.data.toList.length = a0.size := by rw [Array.length_toList]; rfl
    have hcv := Lib.run_convert_string_bytes (P := Tryd.prog) w 9 41 5 a0 (u := .string) Tryd.underlying9 Tryd.underlying41 Tryd.underlying5
    have hrow := Door.BRow.made w 5 a0
    have hbel := Lib.bytesWorld_below w 5 a0
    have hsz := Lib.bytesWorld_size w 5 a0
    generalize Lib.bytesWorld w 5 a0 = W1 at hcv hrow hbel hsz
    have HH := Aside0.mk h
    clear h
    generalize hbs : a0.data.toList = bs at hrow hbz HH
    have HR := Aside0.mk hrow
    have HB := Aside0.mk hbel
    have HC := Aside0.mk hr1
    have HZ := Aside0.mk (show bs.length = a0.size from hbz)
    have HZ1 := Aside0.mk hsz
    clear hrow hbel hr1 hbz hbs hsz
    go_enter Tryd.func9, Tryd.ntmps9
    go_wp2
    go_loopw [12] (fun v12 wr => ∃ k : Nat, k ≤ a0.size ∧ v12 = .int .i64 k ∧ Aside0 (Door.BRow wr w.heap.size (Door.turnTo l1 k bs)) ∧ Aside0 (Below w.heap.size w wr)) (fun v12 _ => a0.size - (RowKit.intOf v12).toNat)
    case atStart => exact ⟨0, Nat.zero_le _, rfl, Aside0.mk (by rw [Door.turnTo_zero]; exact HR.out), HB⟩
    case round =>
      clear HR HB
      obtain ⟨k, hk, rfl, HR, HB⟩ := hrel
      by_cases hlt : k < a0.size
      · have hkb : k < bs.length := by have := HZ.out; omega
        obtain ⟨g1, g2⟩ := HR.out k (by rw [Door.turnTo_len]; exact hkb)
        rw [Door.turnTo_at l1 k bs hkb] at g1
        obtain ⟨c, hcc⟩ : ∃ c, bs.getD k 0 = c := ⟨_, rfl⟩
        rw [hcc] at g1
        have HCC := Aside0.mk hcc
        clear hcc
        have hor := Door.or_u8 c
        have hxor := Door.xor_u8 c
        obtain ⟨o, ho⟩ : ∃ o, c ||| 32 = o := ⟨_, rfl⟩
        obtain ⟨x, hx0⟩ : ∃ x, c ^^^ 32 = x := ⟨_, rfl⟩
        rw [ho] at hor
        rw [hx0] at hxor
        have HO := Aside0.mk ho
        have HX := Aside0.mk hx0
        clear ho hx0
        have hlt' : (k : Int) < (a0.size : Int) := by omega
        by_cases hm : 0 < l1.length
        · have hmod : k % l1.length < l1.length := Nat.mod_lt _ hm
          obtain ⟨ad, e0, hx⟩ := Kd.at_bool (Kd.C_below HC.out HB.out) ((k % l1.length : Nat) : Int) (by omega) (by omega)
          subst e0
          rw [Int.toNat_natCast] at hx
          have hm' : (0 : Int) < (l1.length : Int) := by omega
          have hrd : rdOf false l1 ((k % l1.length : Nat) : Int) = l1.getD (k % l1.length) false := by unfold rdOf; rw [Int.toNat_natCast]
          cases hb : rdOf false l1 ((k % l1.length : Nat) : Int) with
          | false =>
            have HT := Aside0.mk (show Door.turnB l1 k c = c by unfold Door.turnB; rw [if_neg (by rw [← hrd, hb]; simp)])
            rw [hb] at hx
            clear hrd hb
            go_wp2
            go_roundw
            case rel => exact ⟨k + 1, by omega, by simp, Aside0.mk (by rw [Door.turnTo_stay l1 k bs hkb (by rw [HCC.out]; exact HT.out)]; exact HR.out), HB⟩
            case measure => simp [RowKit.intOf]; omega
          | true =>
            by_cases hd : 97 ≤ o.toNat ∧ o.toNat ≤ 122
            · have HT := Aside0.mk (show Door.turnB l1 k c = x by unfold Door.turnB; rw [HO.out, if_pos ⟨hm, by rw [← hrd, hb], hd⟩]; exact HX.out)
              rw [hb] at hx
              clear hrd hb
              obtain ⟨d1, d2⟩ := hd
              have d1' : (97 : Int) ≤ (o.toNat : Int) := by omega
              have d2' : (o.toNat : Int) ≤ 122 := by omega
              go_wp2
              go_roundw
              case rel => exact ⟨k + 1, by omega, by simp, Aside0.mk (by rw [Door.turnTo_next l1 k bs hkb, HCC.out, HT.out]; exact HR.out.set k (by rw [Door.turnTo_len]; exact hkb) _), Aside0.mk (HB.out.setCell (Nat.le_refl _) _)⟩
              case measure => simp [RowKit.intOf]; omega
            · have HT := Aside0.mk (show Door.turnB l1 k c = c by unfold Door.turnB; rw [HO.out, if_neg (fun h => hd h.2.2)])
              rw [hb] at hx
              clear hrd hb
              by_cases d1 : (97 : Int) ≤ (o.toNat : Int)
              · have d2 : ¬ (o.toNat : Int) ≤ 122 := by omega
                clear hd
                go_wp2
                go_roundw
                case rel => exact ⟨k + 1, by omega, by simp, Aside0.mk (by rw [Door.turnTo_stay l1 k bs hkb (by rw [HCC.out]; exact HT.out)]; exact HR.out), HB⟩
                case measure => simp [RowKit.intOf]; omega
              · clear hd
                go_wp2
                go_roundw
                case rel => exact ⟨k + 1, by omega, by simp, Aside0.mk (by rw [Door.turnTo_stay l1 k bs hkb (by rw [HCC.out]; exact HT.out)]; exact HR.out), HB⟩
                case measure => simp [RowKit.intOf]; omega
        · have hm0 : l1.length = 0 := by omega
          have hm1 : ¬ (0 : Int) < (l1.length : Int) := by omega
          have hm2 : decide ((l1.length : Int) > 0) = false := decide_eq_false hm1
          have HT := Aside0.mk (show Door.turnB l1 k c = c by unfold Door.turnB; rw [if_neg (fun h => hm h.1)])
          clear hm0
          go_wp2
          go_roundw
          case rel => exact ⟨k + 1, by omega, by simp, Aside0.mk (by rw [Door.turnTo_stay l1 k bs hkb (by rw [HCC.out]; exact HT.out)]; exact HR.out), HB⟩
          case measure => simp [RowKit.intOf]; omega
      · have hkk : k = a0.size := by omega
        subst hkk
        have hback := HR.out.back (cap := grownCap w a0.size 0 5) 41 9 5 Tryd.underlying41 Tryd.underlying5 Tryd.underlying9
        rw [Door.turnTo_len, HZ.out] at hback
        go_wp2
        go_ret
        exact ⟨by rw [← HH.out, HZ.out]; rfl, HB.out⟩
  · rw [if_neg hc] at h
    cases h


/-! ### spec_ReadPrint: function 10 -/
mutual
def spec_ReadPrint.l0 : Nat → ByteArray → Int → Int → Int → Int → Option (Int × Int)
  | 0, _, _, _, _, _ => none
  | k + 1, x0, x4, x5, x9, x10 => if x10 < x9 then (if 0 ≤ x10 then (if x10 < (x0.size : Int) then (if (bt x0 x10) ≥ 48 then (spec_ReadPrint.j1 k x0 x4 x5 (bt x0 x10) x9 x10 (decide ((bt x0 x10) ≤ 57))) else (spec_ReadPrint.j1 k x0 x4 x5 (bt x0 x10) x9 x10 false)) else (none)) else (none)) else (if (x0.size : Int) = 0 then (some (0, 0)) else (if (x0.size : Int) = 16 then (some (x4, x5)) else (some (0, 2))))
def spec_ReadPrint.j1 : Nat → ByteArray → Int → Int → Int → Int → Int → Bool → Option (Int × Int)
  | 0, _, _, _, _, _, _, _ => none
  | k + 1, x0, x4, x5, x7, x9, x10, x16 => if x16 = true then (spec_ReadPrint.l0 k x0 (Go.bits .or .u64 (IntKind.u64.wrap (x4 * 16)) ((x7 - 48) % 256)) x5 x9 (wrap64 (x10 + 1))) else (if x7 ≥ 97 then (spec_ReadPrint.j2 k x0 x4 x5 x7 x9 x10 (decide (x7 ≤ 102))) else (spec_ReadPrint.j2 k x0 x4 x5 x7 x9 x10 false))
def spec_ReadPrint.j2 : Nat → ByteArray → Int → Int → Int → Int → Int → Bool → Option (Int × Int)
  | 0, _, _, _, _, _, _, _ => none
  | k + 1, x0, x4, x5, x7, x9, x10, x29 => if x29 = true then (spec_ReadPrint.l0 k x0 (Go.bits .or .u64 (IntKind.u64.wrap (x4 * 16)) ((((x7 - 97) % 256) + 10) % 256)) x5 x9 (wrap64 (x10 + 1))) else (if x7 ≥ 65 then (if x7 ≤ 70 then (spec_ReadPrint.l0 k x0 x4 2 x9 (wrap64 (x10 + 1))) else (some (0, 0))) else (some (0, 0)))
end
def spec_ReadPrint.f (k : Nat) (a0 : ByteArray) : Option (Int × Int) := spec_ReadPrint.l0 k a0 0 1 (a0.size : Int) 0
theorem spec_ReadPrint.mono_l : ∀ k, (∀ y0 y1 y2 y3 y4, LeO (spec_ReadPrint.l0 k y0 y1 y2 y3 y4) (spec_ReadPrint.l0 (k + 1) y0 y1 y2 y3 y4)) ∧ (∀ y0 y1 y2 y3 y4 y5 y6, LeO (spec_ReadPrint.j1 k y0 y1 y2 y3 y4 y5 y6) (spec_ReadPrint.j1 (k + 1) y0 y1 y2 y3 y4 y5 y6)) ∧ (∀ y0 y1 y2 y3 y4 y5 y6, LeO (spec_ReadPrint.j2 k y0 y1 y2 y3 y4 y5 y6) (spec_ReadPrint.j2 (k + 1) y0 y1 y2 y3 y4 y5 y6))
  | 0 => ⟨fun _ _ _ _ _ r h => by simp [spec_ReadPrint.l0] at h, fun _ _ _ _ _ _ _ r h => by simp [spec_ReadPrint.j1] at h, fun _ _ _ _ _ _ _ r h => by simp [spec_ReadPrint.j2] at h⟩
  | k + 1 => by
    obtain ⟨ih0, ih1, ih2⟩ := spec_ReadPrint.mono_l k
    refine ⟨?_, ?_, ?_⟩
    · intro y0 y1 y2 y3 y4
      unfold spec_ReadPrint.l0
      repeat' first
      | (with_reducible exact ih0 _ _ _ _ _)
      | (with_reducible exact ih1 _ _ _ _ _ _ _)
      | (with_reducible exact ih2 _ _ _ _ _ _ _)
      | (with_reducible exact LeO.refl _)
      | (with_reducible exact LeO.none _)
      | (with_reducible refine LeO.ite ?_ ?_)
      | (with_reducible refine LeO.bind ?_ (fun _ => ?_))
      | exact ih0 _ _ _ _ _
      | exact ih1 _ _ _ _ _ _ _
      | exact ih2 _ _ _ _ _ _ _
      | exact LeO.none _
      | refine LeO.ite ?_ ?_
      | refine LeO.bind ?_ (fun _ => ?_)
    · intro y0 y1 y2 y3 y4 y5 y6
      unfold spec_ReadPrint.j1
      repeat' first
      | (with_reducible exact ih0 _ _ _ _ _)
      | (with_reducible exact ih1 _ _ _ _ _ _ _)
      | (with_reducible exact ih2 _ _ _ _ _ _ _)
      | (with_reducible exact LeO.refl _)
      | (with_reducible exact LeO.none _)
      | (with_reducible refine LeO.ite ?_ ?_)
      | (with_reducible refine LeO.bind ?_ (fun _ => ?_))
      | exact ih0 _ _ _ _ _
      | exact ih1 _ _ _ _ _ _ _
      | exact ih2 _ _ _ _ _ _ _
      | exact LeO.none _
      | refine LeO.ite ?_ ?_
      | refine LeO.bind ?_ (fun _ => ?_)
    · intro y0 y1 y2 y3 y4 y5 y6
      unfold spec_ReadPrint.j2
      repeat' first
      | (with_reducible exact ih0 _ _ _ _ _)
      | (with_reducible exact ih1 _ _ _ _ _ _ _)
      | (with_reducible exact ih2 _ _ _ _ _ _ _)
      | (with_reducible exact LeO.refl _)
      | (with_reducible exact LeO.none _)
      | (with_reducible refine LeO.ite ?_ ?_)
      | (with_reducible refine LeO.bind ?_ (fun _ => ?_))
      | exact ih0 _ _ _ _ _
      | exact ih1 _ _ _ _ _ _ _
      | exact ih2 _ _ _ _ _ _ _
      | exact LeO.none _
      | refine LeO.ite ?_ ?_
      | refine LeO.bind ?_ (fun _ => ?_)
theorem spec_ReadPrint.mono : ∀ a0 k, LeO (spec_ReadPrint.f k a0) (spec_ReadPrint.f (k + 1) a0) := by
  intro a0 k
  obtain ⟨ih0, ih1, ih2⟩ := spec_ReadPrint.mono_l k
  unfold spec_ReadPrint.f
  repeat' first
      | (with_reducible exact ih0 _ _ _ _ _)
      | (with_reducible exact ih1 _ _ _ _ _ _ _)
      | (with_reducible exact ih2 _ _ _ _ _ _ _)
      | (with_reducible exact LeO.refl _)
      | (with_reducible exact LeO.none _)
      | (with_reducible refine LeO.ite ?_ ?_)
      | (with_reducible refine LeO.bind ?_ (fun _ => ?_))
      | exact ih0 _ _ _ _ _
      | exact ih1 _ _ _ _ _ _ _
      | exact ih2 _ _ _ _ _ _ _
      | exact LeO.none _
      | refine LeO.ite ?_ ?_
      | refine LeO.bind ?_ (fun _ => ?_)
set_option maxHeartbeats 8000000 in
set_option maxRecDepth 100000 in
theorem spec_ReadPrint.calls (k : Nat) (a0 : ByteArray) (r1 : Int) (r2 : Int) (w : World) (h : spec_ReadPrint.f k a0 = some (r1, r2)) :
    Calls Tryd.prog 10 #[.string a0] w fun e w' => e = .returned (.tuple #[.int .u64 r1, .int .i64 r2]) ∧ Drawn0 w w' := by
  have H : (spec_ReadPrint.l0 k a0 0 1 (a0.size : Int) 0) = some (r1, r2) := h
  clear h
  have H' := Aside0.mk H
  clear H
  go_enter Tryd.func10, Tryd.ntmps10
  go_wp2
  go_loopg [4, 5, 10] k (fun kq v4 v5 v10 w' => ∃ (x4_1 : Int) (x5_1 : Int) (x10_1 : Int), v4 = .int .u64 x4_1 ∧ v5 = .int .i64 x5_1 ∧ v10 = .int .i64 x10_1 ∧ Aside0 (spec_ReadPrint.l0 kq a0 x4_1 x5_1 (a0.size : Int) x10_1 = some (r1, r2)) ∧ Aside0 (kq ≤ k) ∧ Drawn0 w w')
  case atStart => exact ⟨(0), (1), (0), (by first | rfl | (simp; done) | (simp [*]; done)), (by first | rfl | (simp; done) | (simp [*]; done)), (by first | rfl | (simp; done) | (simp [*]; done)), H', ⟨Nat.le_refl _⟩, by repeat (first | exact Drawn0.refl _ | apply Drawn0.step)⟩
  case round =>
    clear H'
    try clear c1
    obtain ⟨x4_1, x5_1, x10_1, rfl, rfl, rfl, HA, HK1, ⟨m1, rfl⟩⟩ := hrel
    cases gk with
    | zero => exact absurd HA.out (by simp [spec_ReadPrint.l0])
    | succ k1 =>
      have H := HA.out
      clear HA
      simp only [spec_ReadPrint.l0] at H
      by_cases c2 : x10_1 < (a0.size : Int)
      · rw [if_pos c2] at H
        have c2b0 : decide (x10_1 < (a0.size : Int)) = true := decide_eq_true c2
        clear c2
        by_cases c3 : 0 ≤ x10_1
        · rw [if_pos c3] at H
          have c3b0 : decide (0 ≤ x10_1) = true := decide_eq_true c3
          clear c3
          by_cases c4 : x10_1 < (a0.size : Int)
          · rw [if_pos c4] at H
            have c4b0 : decide (x10_1 < (a0.size : Int)) = true := decide_eq_true c4
            clear c4
            have HC6 := Aside0.mk H
            clear H
            have p5 : 0 ≤ (x10_1 : Int) := of_decide_eq_true (by first | (with_reducible assumption) | assumption)
            have q5 : x10_1 < (a0.size : Int) := of_decide_eq_true (by first | (with_reducible assumption) | assumption)
            have hx5 := bt_at a0 x10_1
            replace p5 := eq_true p5
            replace q5 := eq_true q5
            go_upto_region 7 with (fail)
            go_cut [16] (fun v16 wc => ∃ (kq : Nat) (x16_5 : Bool), v16 = .bool x16_5 ∧ Aside0 (spec_ReadPrint.j1 kq a0 x4_1 x5_1 (bt a0 x10_1) (a0.size : Int) x10_1 x16_5 = some (r1, r2)) ∧ Aside0 (kq ≤ k1) ∧ Drawn0 w wc)
            case first =>
              have H := HC6.out
              clear HC6
              by_cases c7 : (bt a0 x10_1) ≥ 48
              · rw [if_pos c7] at H
                have c7b0 : decide (48 ≤ (bt a0 x10_1)) = true := decide_eq_true c7
                clear c7
                (first | rw [c7b0] | (simp only [i64_w, i32_w]; rw [c7b0]) | skip)
                have H' := Aside0.mk H
                clear H
                go_wp2
                go_meet
                case rel => exact ⟨_, (decide ((bt a0 x10_1) ≤ 57)), (by first | rfl | (simp; done) | (simp [*]; done)), H', ⟨by have := HK1.out; first | omega | exact Nat.le_refl _⟩, by repeat (first | exact Drawn0.refl _ | apply Drawn0.step)⟩
              · rw [if_neg c7] at H
                have c7b0 : decide (48 ≤ (bt a0 x10_1)) = false := decide_eq_false c7
                clear c7
                (first | rw [c7b0] | (simp only [i64_w, i32_w]; rw [c7b0]) | skip)
                have H' := Aside0.mk H
                clear H
                go_wp2
                go_meet
                case rel => exact ⟨_, (false), (by first | rfl | (simp; done) | (simp [*]; done)), H', ⟨by have := HK1.out; first | omega | exact Nat.le_refl _⟩, by repeat (first | exact Drawn0.refl _ | apply Drawn0.step)⟩
            case rest =>
              clear HC6
              try clear c1
              try clear c2
              try clear c2b0
              try clear p2
              try clear c3
              try clear c3b0
              try clear c4
              try clear c4b0
              try clear p5
              try clear q5
              try clear hx5
              try clear c7
              try clear c7b0
              try clear p5
              try clear q5
              obtain ⟨kq, x16_5, rfl, HA, HJ5, ⟨mc5, rfl⟩⟩ := hcut
              cases kq with
              | zero => exact absurd HA.out (by simp [spec_ReadPrint.j1])
              | succ kj5 =>
                have H := HA.out
                clear HA
                simp only [spec_ReadPrint.j1] at H
                by_cases c8 : x16_5 = true
                · subst c8
                  have H1 : (spec_ReadPrint.l0 kj5 a0 (Go.bits .or .u64 (IntKind.u64.wrap (x4_1 * 16)) (((bt a0 x10_1) - 48) % 256)) x5_1 (a0.size : Int) (wrap64 (x10_1 + 1))) = some (r1, r2) := by rw [if_pos rfl] at H; exact H
                  clear H
                  have H := H1
                  clear H1
                  have H' := Aside0.mk H
                  clear H
                  go_wp2
                  go_roundg kj5
                  case measure => have := HK1.out; have := HJ5.out; omega
                  case rel => exact ⟨(Go.bits .or .u64 (IntKind.u64.wrap (x4_1 * 16)) (((bt a0 x10_1) - 48) % 256)), (x5_1), (wrap64 (x10_1 + 1)), (by first | rfl | (simp; done) | (simp [*]; done)), (by first | rfl | (simp; done) | (simp [*]; done)), (by first | rfl | (simp; done) | (simp [*]; done)), H', ⟨by have := HK1.out; have := HJ5.out; omega⟩, by repeat (first | exact Drawn0.refl _ | apply Drawn0.step)⟩
                · replace c8 := Bool.eq_false_iff.mpr c8
                  subst c8
                  have H1 : (if (bt a0 x10_1) ≥ 97 then (spec_ReadPrint.j2 kj5 a0 x4_1 x5_1 (bt a0 x10_1) (a0.size : Int) x10_1 (decide ((bt a0 x10_1) ≤ 102))) else (spec_ReadPrint.j2 kj5 a0 x4_1 x5_1 (bt a0 x10_1) (a0.size : Int) x10_1 false)) = some (r1, r2) := by rw [if_neg (show ¬ (false = true) by decide)] at H; exact H
                  clear H
                  have H := H1
                  clear H1
                  have HC9 := Aside0.mk H
                  clear H
                  go_upto_region 9 with (fail)
                  go_cut [29] (fun v29 wc => ∃ (kq : Nat) (x29_8 : Bool), v29 = .bool x29_8 ∧ Aside0 (spec_ReadPrint.j2 kq a0 x4_1 x5_1 (bt a0 x10_1) (a0.size : Int) x10_1 x29_8 = some (r1, r2)) ∧ Aside0 (kq ≤ kj5) ∧ Drawn0 w wc)
                  case first =>
                    have H := HC9.out
                    clear HC9
                    by_cases c10 : (bt a0 x10_1) ≥ 97
                    · rw [if_pos c10] at H
                      have c10b0 : decide (97 ≤ (bt a0 x10_1)) = true := decide_eq_true c10
                      clear c10
                      (first | rw [c10b0] | (simp only [i64_w, i32_w]; rw [c10b0]) | skip)
                      have H' := Aside0.mk H
                      clear H
                      go_wp2
                      go_meet
                      case rel => exact ⟨_, (decide ((bt a0 x10_1) ≤ 102)), (by first | rfl | (simp; done) | (simp [*]; done)), H', ⟨by have := HK1.out; have := HJ5.out; first | omega | exact Nat.le_refl _⟩, by repeat (first | exact Drawn0.refl _ | apply Drawn0.step)⟩
                    · rw [if_neg c10] at H
                      have c10b0 : decide (97 ≤ (bt a0 x10_1)) = false := decide_eq_false c10
                      clear c10
                      (first | rw [c10b0] | (simp only [i64_w, i32_w]; rw [c10b0]) | skip)
                      have H' := Aside0.mk H
                      clear H
                      go_wp2
                      go_meet
                      case rel => exact ⟨_, (false), (by first | rfl | (simp; done) | (simp [*]; done)), H', ⟨by have := HK1.out; have := HJ5.out; first | omega | exact Nat.le_refl _⟩, by repeat (first | exact Drawn0.refl _ | apply Drawn0.step)⟩
                  case rest =>
                    clear HC9
                    try clear c1
                    try clear c2
                    try clear c2b0
                    try clear p2
                    try clear c3
                    try clear c3b0
                    try clear c4
                    try clear c4b0
                    try clear c5
                    try clear p5
                    try clear q5
                    try clear hx5
                    try clear p6
                    try clear c7
                    try clear c7b0
                    try clear c8
                    try clear c10
                    try clear c10b0
                    try clear p2
                    try clear p5
                    try clear q5
                    obtain ⟨kq, x29_8, rfl, HA, HJ8, ⟨mc8, rfl⟩⟩ := hcut
                    cases kq with
                    | zero => exact absurd HA.out (by simp [spec_ReadPrint.j2])
                    | succ kj8 =>
                      have H := HA.out
                      clear HA
                      simp only [spec_ReadPrint.j2] at H
                      by_cases c11 : x29_8 = true
                      · subst c11
                        have H1 : (spec_ReadPrint.l0 kj8 a0 (Go.bits .or .u64 (IntKind.u64.wrap (x4_1 * 16)) (((((bt a0 x10_1) - 97) % 256) + 10) % 256)) x5_1 (a0.size : Int) (wrap64 (x10_1 + 1))) = some (r1, r2) := by rw [if_pos rfl] at H; exact H
                        clear H
                        have H := H1
                        clear H1
                        have H' := Aside0.mk H
                        clear H
                        go_wp2
                        go_roundg kj8
                        case measure => have := HK1.out; have := HJ5.out; have := HJ8.out; omega
                        case rel => exact ⟨(Go.bits .or .u64 (IntKind.u64.wrap (x4_1 * 16)) (((((bt a0 x10_1) - 97) % 256) + 10) % 256)), (x5_1), (wrap64 (x10_1 + 1)), (by first | rfl | (simp; done) | (simp [*]; done)), (by first | rfl | (simp; done) | (simp [*]; done)), (by first | rfl | (simp; done) | (simp [*]; done)), H', ⟨by have := HK1.out; have := HJ5.out; have := HJ8.out; omega⟩, by repeat (first | exact Drawn0.refl _ | apply Drawn0.step)⟩
                      · replace c11 := Bool.eq_false_iff.mpr c11
                        subst c11
                        have H1 : (if (bt a0 x10_1) ≥ 65 then (if (bt a0 x10_1) ≤ 70 then (spec_ReadPrint.l0 kj8 a0 x4_1 2 (a0.size : Int) (wrap64 (x10_1 + 1))) else (some (0, 0))) else (some (0, 0))) = some (r1, r2) := by rw [if_neg (show ¬ (false = true) by decide)] at H; exact H
                        clear H
                        have H := H1
                        clear H1
                        by_cases c12 : (bt a0 x10_1) ≥ 65
                        · rw [if_pos c12] at H
                          have c12b0 : decide (65 ≤ (bt a0 x10_1)) = true := decide_eq_true c12
                          clear c12
                          by_cases c13 : (bt a0 x10_1) ≤ 70
                          · rw [if_pos c13] at H
                            have c13b0 : decide ((bt a0 x10_1) ≤ 70) = true := decide_eq_true c13
                            clear c13
                            have H' := Aside0.mk H
                            clear H
                            go_wp2
                            go_roundg kj8
                            case measure => have := HK1.out; have := HJ5.out; have := HJ8.out; omega
                            case rel => exact ⟨(x4_1), (2), (wrap64 (x10_1 + 1)), (by first | rfl | (simp; done) | (simp [*]; done)), (by first | rfl | (simp; done) | (simp [*]; done)), (by first | rfl | (simp; done) | (simp [*]; done)), H', ⟨by have := HK1.out; have := HJ5.out; have := HJ8.out; omega⟩, by repeat (first | exact Drawn0.refl _ | apply Drawn0.step)⟩
                          · rw [if_neg c13] at H
                            have c13b0 : decide ((bt a0 x10_1) ≤ 70) = false := decide_eq_false c13
                            clear c13
                            simp only [Option.some.injEq, Prod.mk.injEq] at H
                            obtain ⟨rfl, rfl⟩ := H
                            go_wp2
                            go_ret2
                            exact ⟨by first | rfl | (simp; done) | (simp [*]; done), by repeat (first | exact Drawn0.refl _ | apply Drawn0.step)⟩
                        · rw [if_neg c12] at H
                          have c12b0 : decide (65 ≤ (bt a0 x10_1)) = false := decide_eq_false c12
                          clear c12
                          simp only [Option.some.injEq, Prod.mk.injEq] at H
                          obtain ⟨rfl, rfl⟩ := H
                          go_wp2
                          go_ret2
                          exact ⟨by first | rfl | (simp; done) | (simp [*]; done), by repeat (first | exact Drawn0.refl _ | apply Drawn0.step)⟩
          · rw [if_neg c4] at H
            exact absurd H (by simp)
        · rw [if_neg c3] at H
          exact absurd H (by simp)
      · rw [if_neg c2] at H
        have c2b0 : decide (x10_1 < (a0.size : Int)) = false := decide_eq_false c2
        clear c2
        by_cases c14 : (a0.size : Int) = 0
        · rw [if_pos c14] at H
          have c14b0 : ((a0.size : Int) == 0) = true := beq_iff_eq.mpr c14
          have c14b1 : ((a0.size : Int) != 0) = false := bne_eq_false_iff_eq.mpr c14
          clear c14
          simp only [Option.some.injEq, Prod.mk.injEq] at H
          obtain ⟨rfl, rfl⟩ := H
          go_wp2
          go_ret2
          exact ⟨by first | rfl | (simp; done) | (simp [*]; done), by repeat (first | exact Drawn0.refl _ | apply Drawn0.step)⟩
        · rw [if_neg c14] at H
          have c14b0 : ((a0.size : Int) == 0) = false := beq_eq_false_iff_ne.mpr c14
          have c14b1 : ((a0.size : Int) != 0) = true := bne_iff_ne.mpr c14
          by_cases c15 : (a0.size : Int) = 16
          · rw [if_pos c15] at H
            have c15b0 : ((a0.size : Int) == 16) = true := beq_iff_eq.mpr c15
            have c15b1 : ((a0.size : Int) != 16) = false := bne_eq_false_iff_eq.mpr c15
            clear c15
            simp only [Option.some.injEq, Prod.mk.injEq] at H
            obtain ⟨rfl, rfl⟩ := H
            go_wp2
            go_ret2
            exact ⟨by first | rfl | (simp; done) | (simp [*]; done), by repeat (first | exact Drawn0.refl _ | apply Drawn0.step)⟩
          · rw [if_neg c15] at H
            have c15b0 : ((a0.size : Int) == 16) = false := beq_eq_false_iff_ne.mpr c15
            have c15b1 : ((a0.size : Int) != 16) = true := bne_iff_ne.mpr c15
            simp only [Option.some.injEq, Prod.mk.injEq] at H
            obtain ⟨rfl, rfl⟩ := H
            go_wp2
            go_ret2
            exact ⟨by first | rfl | (simp; done) | (simp [*]; done), by repeat (first | exact Drawn0.refl _ | apply Drawn0.step)⟩

/-! ### spec_PrintText: function 11 -/
def spec_PrintText.l0 : Nat → Int → List Int → Int → Option (ByteArray)
  | 0, _, _, _ => none
  | k + 1, x0, x3, x6 => if x6 < 16 then (if 0 ≤ (wrap64 (60 - (wrap64 (4 * x6)))) then (if 0 ≤ (Go.bits .and .u64 (shr .u64 x0 (wrap64 (60 - (wrap64 (4 * x6))))) 15) then (if (Go.bits .and .u64 (shr .u64 x0 (wrap64 (60 - (wrap64 (4 * x6))))) 15) < 16 then (if 0 ≤ x6 then (if x6 < (x3.length : Int) then (spec_PrintText.l0 k x0 (x3.set (x6 : Int).toNat (bt (⟨#[48, 49, 50, 51, 52, 53, 54, 55, 56, 57, 97, 98, 99, 100, 101, 102]⟩ : ByteArray) (Go.bits .and .u64 (shr .u64 x0 (wrap64 (60 - (wrap64 (4 * x6))))) 15))) (wrap64 (x6 + 1))) else (none)) else (none)) else (none)) else (none)) else (none)) else (some (strOfNums x3))
def spec_PrintText.f (k : Nat) (a0 : Int) : Option (ByteArray) := if 16 ≤ 281474976710656 then (spec_PrintText.l0 k a0 (List.replicate 16 0) 0) else (none)
theorem spec_PrintText.mono_l : ∀ k, (∀ y0 y1 y2, LeO (spec_PrintText.l0 k y0 y1 y2) (spec_PrintText.l0 (k + 1) y0 y1 y2))
  | 0 => fun _ _ _ r h => by simp [spec_PrintText.l0] at h
  | k + 1 => by
    have ih0 := spec_PrintText.mono_l k
    · intro y0 y1 y2
      unfold spec_PrintText.l0
      repeat' first
      | (with_reducible exact ih0 _ _ _)
      | (with_reducible exact LeO.refl _)
      | (with_reducible exact LeO.none _)
      | (with_reducible refine LeO.ite ?_ ?_)
      | (with_reducible refine LeO.bind ?_ (fun _ => ?_))
      | exact ih0 _ _ _
      | exact LeO.none _
      | refine LeO.ite ?_ ?_
      | refine LeO.bind ?_ (fun _ => ?_)
theorem spec_PrintText.mono : ∀ a0 k, LeO (spec_PrintText.f k a0) (spec_PrintText.f (k + 1) a0) := by
  intro a0 k
  have ih0 := spec_PrintText.mono_l k
  unfold spec_PrintText.f
  repeat' first
      | (with_reducible exact ih0 _ _ _)
      | (with_reducible exact LeO.refl _)
      | (with_reducible exact LeO.none _)
      | (with_reducible refine LeO.ite ?_ ?_)
      | (with_reducible refine LeO.bind ?_ (fun _ => ?_))
      | exact ih0 _ _ _
      | exact LeO.none _
      | refine LeO.ite ?_ ?_
      | refine LeO.bind ?_ (fun _ => ?_)
set_option maxHeartbeats 8000000 in
set_option maxRecDepth 100000 in
theorem spec_PrintText.calls (k : Nat) (a0 : Int) (r : ByteArray) (w : World) (h : spec_PrintText.f k a0 = some r) :
    Calls Tryd.prog 11 #[.int .u64 a0] w fun e w' => e = .returned (.string r) ∧ Below w.heap.size w w' := by
  have HB := Aside0.mk (Below.refl w.heap.size w)
  have H : (if 16 ≤ 281474976710656 then (spec_PrintText.l0 k a0 (List.replicate 16 0) 0) else (none)) = some r := h
  clear h
  by_cases c2 : 16 ≤ 281474976710656
  · rw [if_pos c2] at H
    have c2b0 := eq_true c2
    have c2b1 : decide (16 ≤ 281474976710656) = true := decide_eq_true c2
    clear c2
    obtain ⟨y105, hy105⟩ : ∃ y_ : List Int, y_ = (List.replicate 16 0) := ⟨_, rfl⟩
    replace H : (spec_PrintText.l0 k a0 y105 0) = some r := by first | (rw [hy105]; with_reducible exact H) | (have H2_ := (Option.bind_some _ _).symm.trans H; rw [hy105]; with_reducible exact H2_) | (have H2_ := (Option.bind_some _ _).symm.trans H; with_reducible exact H2_) | with_reducible exact H | (rw [hy105]; exact H) | exact H
    have Ny105 := Aside0.mk hy105
    clear hy105
    have H' := Aside0.mk H
    clear H
    go_enter Tryd.func11, Tryd.ntmps11
    go_wp2_with (first | ((with_reducible refine gate_dst (N := 5) rfl ?_); refine Kd.R_make (Kd.int .u8) _ 5 rfl (N := 5) rfl 41 _ _ rfl 16 rfl rfl Tryd.underlying41 (.int .u8 0) 1 info5 rfl (by decide) (by omega) 0 (ok := fun _ => True) (okp := fun _ => True) rfl (fun _ hk => hk) trivial (by omega) (by omega) (Below.refl _ _) (Nat.le_refl _) ?_; intro v106 w3 ho4 hb hg_ hnew_; clear hg_ hnew_; (first | rw [← Ny105.out] at ho4 | (simp only [Int.reduceToNat] at ho4; rw [← Ny105.out] at ho4)); have n0_ := Aside0.mk (Kd.R_lower ho4 (below_size (by repeat (first | (with_reducible first | exact HB.out | apply below_alloc | apply pw_below_drewN | apply below_drew1) | exact HB.out)))); have n1_ := Aside0.mk (below_step (by repeat (first | (with_reducible first | exact HB.out | apply below_alloc | apply pw_below_drewN | apply below_drew1) | exact HB.out)) hb); clear HB; have HO107 := n0_; have HB := n1_; clear n0_ n1_; clear hb ho4))
    go_loopg [6] k (fun kq v6 w' => ∃ (x3_1 : List Int) (x6_1 : Int), v6 = .int .i64 x6_1 ∧ Aside0 (spec_PrintText.l0 kq a0 x3_1 x6_1 = some r) ∧ Aside0 (kq ≤ k) ∧ Aside0 (Kd.R (Kd.int .u8) 5 w' w.heap.size (fun _ => True) v106 x3_1) ∧ Aside0 (Below w.heap.size w w'))
    case atStart => exact ⟨(y105), (0), (by first | rfl | (simp; done) | (simp [*]; done)), H', ⟨Nat.le_refl _⟩, ⟨by (with_reducible repeat (first | apply Kd.R_alloc | apply Kd.R_drewN | apply Kd.R_drew)); exact HO107.out⟩, ⟨by repeat (first | (with_reducible first | exact HB.out | apply below_alloc | apply pw_below_drewN | apply below_drew1) | exact HB.out)⟩⟩
    case round =>
      clear H'
      try clear c1
      try clear c2
      try clear c2b0
      try clear c2b1
      try clear p2
      obtain ⟨x3_1, x6_1, rfl, HA, HK1, HO_3, HB⟩ := hrel
      cases gk with
      | zero => exact absurd HA.out (by simp [spec_PrintText.l0])
      | succ k1 =>
        have H := HA.out
        clear HA
        simp only [spec_PrintText.l0] at H
        by_cases c5 : x6_1 < 16
        · rw [if_pos c5] at H
          have c5b0 : decide (x6_1 < 16) = true := decide_eq_true c5
          clear c5
          obtain ⟨ji6, hji6⟩ : ∃ j_ : Int, (wrap64 (60 - (wrap64 (4 * x6_1)))) = j_ := ⟨_, rfl⟩
          replace H : (if 0 ≤ (ji6) then (if 0 ≤ (Go.bits .and .u64 (shr .u64 a0 (ji6)) 15) then (if (Go.bits .and .u64 (shr .u64 a0 (ji6)) 15) < 16 then (if 0 ≤ x6_1 then (if x6_1 < (x3_1.length : Int) then (spec_PrintText.l0 k1 a0 (x3_1.set (x6_1 : Int).toNat (bt (⟨#[48, 49, 50, 51, 52, 53, 54, 55, 56, 57, 97, 98, 99, 100, 101, 102]⟩ : ByteArray) (Go.bits .and .u64 (shr .u64 a0 (ji6)) 15))) (wrap64 (x6_1 + 1))) else (none)) else (none)) else (none)) else (none)) else (none)) = some r := by first | (rw [hji6] at H; exact H) | (simp only [hji6] at H ⊢; exact H)
          have hji6w : (IntKind.i64.wrap (60 - (wrap64 (4 * x6_1)))) = ji6 := (i64_w _).trans hji6
          by_cases c7 : 0 ≤ (ji6)
          · rw [if_pos c7] at H
            have c7b0 := eq_true c7
            have c7b1 : decide (0 ≤ (ji6)) = true := decide_eq_true c7
            clear c7
            obtain ⟨ji8, hji8⟩ : ∃ j_ : Int, (shr .u64 a0 (ji6)) = j_ := ⟨_, rfl⟩
            replace H : (if 0 ≤ (Go.bits .and .u64 (ji8) 15) then (if (Go.bits .and .u64 (ji8) 15) < 16 then (if 0 ≤ x6_1 then (if x6_1 < (x3_1.length : Int) then (spec_PrintText.l0 k1 a0 (x3_1.set (x6_1 : Int).toNat (bt (⟨#[48, 49, 50, 51, 52, 53, 54, 55, 56, 57, 97, 98, 99, 100, 101, 102]⟩ : ByteArray) (Go.bits .and .u64 (ji8) 15))) (wrap64 (x6_1 + 1))) else (none)) else (none)) else (none)) else (none)) = some r := by first | (rw [hji8] at H; exact H) | (simp only [hji8] at H ⊢; exact H)
            have hji8_ : (a0 / 2 ^ min (ji6).toNat 64) = ji8 := hji8
            have hji8z : (ji6) ≤ 64 → (a0 / 2 ^ (ji6).toNat) = ji8 := shr_small hji8
            by_cases c9 : 0 ≤ (Go.bits .and .u64 (ji8) 15)
            · rw [if_pos c9] at H
              have c9b0 : decide (0 ≤ (Go.bits .and .u64 (ji8) 15)) = true := decide_eq_true c9
              clear c9
              by_cases c10 : (Go.bits .and .u64 (ji8) 15) < 16
              · rw [if_pos c10] at H
                have c10b0 : decide ((Go.bits .and .u64 (ji8) 15) < 16) = true := decide_eq_true c10
                clear c10
                by_cases c12 : 0 ≤ x6_1
                · rw [if_pos c12] at H
                  have c12b0 : decide (0 ≤ x6_1) = true := decide_eq_true c12
                  clear c12
                  by_cases c13 : x6_1 < (x3_1.length : Int)
                  · rw [if_pos c13] at H
                    have c13b0 : decide (x6_1 < (x3_1.length : Int)) = true := decide_eq_true c13
                    clear c13
                    obtain ⟨y108, hy108⟩ : ∃ y_ : List Int, y_ = (x3_1.set (x6_1 : Int).toNat (bt (⟨#[48, 49, 50, 51, 52, 53, 54, 55, 56, 57, 97, 98, 99, 100, 101, 102]⟩ : ByteArray) (Go.bits .and .u64 (ji8) 15))) := ⟨_, rfl⟩
                    replace H : (spec_PrintText.l0 k1 a0 y108 (wrap64 (x6_1 + 1))) = some r := by first | (rw [hy108]; with_reducible exact H) | (have H2_ := (Option.bind_some _ _).symm.trans H; rw [hy108]; with_reducible exact H2_) | (have H2_ := (Option.bind_some _ _).symm.trans H; with_reducible exact H2_) | with_reducible exact H | (rw [hy108]; exact H) | exact H
                    have Ny108 := Aside0.mk hy108
                    clear hy108
                    have H' := Aside0.mk H
                    clear H
                    have p11 : 0 ≤ ((Go.bits .and .u64 (ji8) 15) : Int) := of_decide_eq_true (by first | (with_reducible assumption) | assumption)
                    have q11 : (Go.bits .and .u64 (ji8) 15) < (16 : Int) := of_decide_eq_true (by first | (with_reducible assumption) | assumption)
                    have hx11 := bt_at (⟨#[48, 49, 50, 51, 52, 53, 54, 55, 56, 57, 97, 98, 99, 100, 101, 102]⟩ : ByteArray) (Go.bits .and .u64 (ji8) 15)
                    replace p11 := eq_true p11
                    replace q11 := eq_true q11
                    have p14 : 0 ≤ (x6_1 : Int) := of_decide_eq_true (by first | (with_reducible assumption) | assumption)
                    have q14 : (x6_1 : Int) < ((x3_1.length : Int) : Int) := of_decide_eq_true (by first | (with_reducible assumption) | assumption)
                    obtain ⟨go14, co14, eo14, gb14, gl14, cl14, HG14⟩ := Kd.R_form HO_3.out (by omega)
                    (first | cases eo14 | (injection eo14 with ea_ en_ ec_; (first | subst ea_ | (injection ea_ with ea_; subst ea_)); subst ec_; clear en_))
                    have GB14 := Aside0.mk gb14
                    have GG14 := Aside0.mk HG14
                    clear gb14 gl14 HG14
                    obtain ⟨hx14_0, hf14_0⟩ := Kd.R_celln 0 HO_3.out (x6_1 : Int) p14 q14
                    replace p14 := eq_true p14
                    replace q14 := eq_true q14
                    have HP15 := Kd.R_putg HO_3.out (x6_1 : Int) (bt (⟨#[48, 49, 50, 51, 52, 53, 54, 55, 56, 57, 97, 98, 99, 100, 101, 102]⟩ : ByteArray) (Go.bits .and .u64 (ji8) 15))
                    go_wp2_with (first | ((with_reducible refine gate_store (t := 5) (p := 18) rfl ?_); refine store_event (t := 5) (p := 18) (v := ?vo_w16) (w1 := (wr.setCell ⟨go14, (x6_1 : Int).toNat, none⟩ (.int .u8 (bt (⟨#[48, 49, 50, 51, 52, 53, 54, 55, 56, 57, 97, 98, 99, 100, 101, 102]⟩ : ByteArray) (Go.bits .and .u64 (ji8) 15))))) ?hg ?ho ?hn ?hr ?_; (case ho => rfl); (case hg => rfl); (case hn => rfl); (case hr => first | (go_simp; done) | (go_simp; rfl)); intro w16 hw; have hg : wr.grownBy w16 (some go14) := (by rw [hw]; exact HP15.2); have hp_ : Kd.R (Kd.int .u8) 5 w16 w.heap.size (fun _ => True) (.slice (some ⟨go14, 0, none⟩) x3_1.length co14) y108 := (by rw [hw, Ny108.out]; exact HP15.1); clear HP15; have n0_ := Aside0.mk (hp_); have n1_ := Aside0.mk ((by rw [hw]; exact below_set (HB.out) GB14.out : Below w.heap.size w w16)); clear HO_3; clear HB; have HO_3 := n0_; have HB := n1_; clear n0_ n1_; clear hg hw hp_))
                    go_roundg k1
                    case measure => have := HK1.out; omega
                    case rel => exact ⟨(y108), (wrap64 (x6_1 + 1)), (by first | rfl | (simp; done) | (simp [*]; done)), H', ⟨by have := HK1.out; omega⟩, ⟨by (with_reducible repeat (first | apply Kd.R_alloc | apply Kd.R_drewN | apply Kd.R_drew)); exact HO_3.out⟩, ⟨by repeat (first | (with_reducible first | exact HB.out | apply below_alloc | apply pw_below_drewN | apply below_drew1) | exact HB.out)⟩⟩
                  · rw [if_neg c13] at H
                    exact absurd H (by simp)
                · rw [if_neg c12] at H
                  exact absurd H (by simp)
              · rw [if_neg c10] at H
                exact absurd H (by simp)
            · rw [if_neg c9] at H
              exact absurd H (by simp)
          · rw [if_neg c7] at H
            exact absurd H (by simp)
        · rw [if_neg c5] at H
          have c5b0 : decide (x6_1 < 16) = false := decide_eq_false c5
          clear c5
          obtain rfl := Option.some.inj H
          have hcv17 := own_string (P := Tryd.prog) Tryd.underlying41 Tryd.underlying5 Tryd.underlying9 (Kd.own_of_R HO_3.out)
          go_wp2
          go_ret
          exact ⟨by first | rfl | (simp [errW_none, errW_some] <;> rfl) | (simp [*, errW_none, errW_some] <;> rfl), by repeat (first | (with_reducible first | exact HB.out | apply below_alloc | apply pw_below_drewN | apply below_drew1) | exact HB.out)⟩
  · rw [if_neg c2] at H
    exact absurd H (by simp)

end Go.Proofs.YtnjghpoeokfekaaDoor.Q
