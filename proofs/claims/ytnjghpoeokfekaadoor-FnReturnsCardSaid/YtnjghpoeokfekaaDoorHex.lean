/- strconv.ParseUint(s, 16, 64) at a text of one to sixteen hexadecimal digits. -/
import Derived.Test.YtnjghpoeokfekaaDoorProg
import Derived.Lib.Strings
import Derived.Lib.Walk
import Derived.Lib.ConvBytes
import Derived.Lib.AtoiErrMem
import Derived.Lib.Hide
import Derived.Laws.Strings3
import Derived.Laws.Closers25
import Derived.Laws.Closers25b
import Derived.WalkKit
import Derived.ProofKit
import Derived.Below
import Derived.LoopTactic
import Derived.BigCall
import Derived.BigGuard
namespace Go.Proofs.YtnjghpoeokfekaaDoor.Door
open Go.RowKit Go.Lib
set_option linter.unusedVariables false
set_option linter.unusedSimpArgs false
def hexd (c : UInt8) : Option Nat :=
  if 48 ≤ c.toNat ∧ c.toNat ≤ 57 then some (c.toNat - 48) else if 97 ≤ c.toNat ∧ c.toNat ≤ 102 then some (c.toNat - 87) else if 65 ≤ c.toNat ∧ c.toNat ≤ 70 then some (c.toNat - 55) else none
def hexv (acc : Nat) : List UInt8 → Option Nat
  | [] => some acc
  | c :: r => match hexd c with
    | some d => hexv (acc * 16 + d) r
    | none => none
theorem hexd_lt {c : UInt8} {d : Nat} (h : hexd c = some d) : d < 16 := by
  unfold hexd at h
  repeat' split at h
  all_goals first | (injection h with h; omega) | cases h
theorem strconv_lower (c : Int) (w : World) :
    Calls Tryd.prog 48 #[.int .u8 c] w fun e w' => e = .returned (.int .u8 (bits .or .u8 c 32)) ∧ w = w' := by
  go_enter Tryd.func48, Tryd.ntmps48
  go_wp2
  go_ret
  exact ⟨rfl, rfl⟩
theorem or_small {c : UInt8} (h : 97 ≤ c.toNat ∧ c.toNat ≤ 102) : bits .or .u8 (c.toNat : Int) 32 = c.toNat := by
  obtain ⟨h1, h2⟩ := h
  have : c.toNat = 97 ∨ c.toNat = 98 ∨ c.toNat = 99 ∨ c.toNat = 100 ∨ c.toNat = 101 ∨ c.toNat = 102 := by omega
  rcases this with h | h | h | h | h | h <;> rw [h] <;> decide
theorem or_great {c : UInt8} (h : 65 ≤ c.toNat ∧ c.toNat ≤ 70) : bits .or .u8 (c.toNat : Int) 32 = (c.toNat : Int) + 32 := by
  obtain ⟨h1, h2⟩ := h
  have : c.toNat = 65 ∨ c.toNat = 66 ∨ c.toNat = 67 ∨ c.toNat = 68 ∨ c.toNat = 69 ∨ c.toNat = 70 := by omega
  rcases this with h | h | h | h | h | h <;> rw [h] <;> decide
set_option maxHeartbeats 32000000 in
set_option maxRecDepth 100000 in
theorem istrconv_ParseUint16 (t : ByteArray) (v : Nat) (hne : t.size ≠ 0) (hmax : t.size ≤ 16) (hv : hexv 0 t.data.toList = some v) (w : World) :
    Calls Tryd.prog 41 #[.string t, .int .i64 16, .int .i64 64] w fun e w' => e = .returned (.tuple #[.int .u64 v, .nilIface]) ∧ Below w.heap.size w w' := by
  have hemp : t.toList.isEmpty = false := by
    rw [← decide_eq_emptyBytes]
    exact decide_eq_false (fun h => hne (by rw [h]; rfl))
  have hcv := Lib.run_convert_string_bytes (P := Tryd.prog) w 9 41 5 t (u := .string) Tryd.underlying9 Tryd.underlying41 Tryd.underlying5
  have hB : ∀ j, j < t.size → (Lib.bytesWorld w 5 t).cell? ⟨w.heap.size, j, none⟩ = some (.int .u8 (t.data.toList.getD j 0).toNat) := fun j hj => Lib.bytesWorld_cell w 5 t j hj
  have hbel : Below w.heap.size w (Lib.bytesWorld w 5 t) := Lib.bytesWorld_below w _ t
  obtain ⟨W1, hW1⟩ : ∃ W1, W1 = Lib.bytesWorld w 5 t := ⟨_, rfl⟩
  rw [← hW1] at hcv hB hbel
  clear hW1
  obtain ⟨bs, hL⟩ : ∃ bs, bs = t.data.toList := ⟨_, rfl⟩
  have hLn : bs.length = t.size := by rw [hL, Lib.size_eq]
  rw [← hL] at hB hv
  clear hL
  have hmv : IntKind.u64.wrap (IntKind.u64.wrap 18446744073709551616 - 1) = 18446744073709551615 := by
    rw [IntKind.wrap_u64, IntKind.wrap_u64]
    decide
  have HV := Lib.hid hv
  have HBel := Lib.hid hbel
  clear hv hbel
  go_enter Tryd.func41, Tryd.ntmps41
  go_wp2
  go_loop [12, 13, 101] (fun vu vn vi => ∃ (k acc : Nat) (a : Int), vu = .bool false ∧ vn = .int .u64 a ∧ vi = .int .i64 k ∧ k ≤ t.size ∧ Hid (a = (acc : Int) ∧ acc < 16 ^ k ∧ hexv acc (bs.drop k) = some v))
    (fun _ _ vi => t.size - (RowKit.intOf vi).toNat)
  case atStart => exact ⟨0, 0, 0, rfl, rfl, rfl, by omega, rfl, by omega, HV.out⟩
  case round =>
    obtain ⟨k, acc, a, rfl, rfl, rfl, hk, hh⟩ := hrel
    obtain ⟨ha, hacc, hdec⟩ := hh.out
    clear hh
    have a0 : 0 ≤ a := by omega
    by_cases hkn : k < t.size
    · have hc := hB k hkn
      have hp : 16 ^ k ≤ 16 ^ 15 := Nat.pow_le_pow_right (by omega) (by omega)
      have a1 : a < 1152921504606846976 := by
        have : (16 : Nat) ^ 15 = 1152921504606846976 := by decide
        omega
      have hdrop : bs.drop k = bs[k]'(by omega) :: bs.drop (k + 1) := List.drop_eq_getElem_cons (by omega)
      have hget : bs.getD k 0 = bs[k]'(by omega) := by simp [List.getD, List.getElem?_eq_getElem (show k < bs.length by omega)]
      rw [hdrop] at hdec
      rw [hget] at hc
      generalize bs[k]'(by omega) = c at hc hdec
      have hc256 : c.toNat < 256 := c.toNat_lt
      clear hB hdrop hget
      rw [hexv] at hdec
      cases hd : hexd c with
      | none => rw [hd] at hdec; cases hdec
      | some d =>
        rw [hd] at hdec
        simp only at hdec
        have hd16 := hexd_lt hd
        have HN : Hid (a * 16 + d = ((acc * 16 + d : Nat) : Int) ∧ acc * 16 + d < 16 ^ (k + 1) ∧ hexv (acc * 16 + d) (bs.drop (k + 1)) = some v) := Lib.hid ⟨by omega, by rw [Nat.pow_succ]; omega, hdec⟩
        clear hacc ha hdec hp
        unfold hexd at hd
        have hv0 := bits_lo_u8 .or (c.toNat : Int) 32
        have hv1 := bits_hi_u8 .or (c.toNat : Int) 32
        by_cases h1 : 48 ≤ c.toNat ∧ c.toNat ≤ 57
        · rw [if_pos h1] at hd
          injection hd with hd
          obtain ⟨hd0, hd1⟩ := h1
          have HD := Lib.hid (show (a * 16 + ((c.toNat : Int) - 48)) = a * 16 + d by omega)
          clear hd hv0 hv1
          go_wp2
          refine ⟨⟨k + 1, acc * 16 + d, a * 16 + ((c.toNat : Int) - 48), rfl, (by first | rfl | (congr 1; omega)), (by first | rfl | (congr 1; omega)), by omega, by rw [HD.out]; exact HN⟩, by simp [RowKit.intOf]; omega⟩
        · rw [if_neg h1] at hd
          by_cases h2 : 97 ≤ c.toNat ∧ c.toNat ≤ 102
          · rw [if_pos h2] at hd
            injection hd with hd
            have hor := or_small h2
            obtain ⟨hd0, hd1⟩ := h2
            have HD := Lib.hid (show (a * 16 + ((c.toNat : Int) - 97 + 10)) = a * 16 + d by omega)
            clear hd hv0 hv1 h1
            go_wp2_with (go_at_call 48; refine (strconv_lower _ _).mono ?_; rintro e w' ⟨rfl, rfl⟩)
            refine ⟨⟨k + 1, acc * 16 + d, a * 16 + ((c.toNat : Int) - 97 + 10), rfl, (by first | rfl | (congr 1; omega)), (by first | rfl | (congr 1; omega)), by omega, by rw [HD.out]; exact HN⟩, by simp [RowKit.intOf]; omega⟩
          · rw [if_neg h2] at hd
            by_cases h3 : 65 ≤ c.toNat ∧ c.toNat ≤ 70
            · rw [if_pos h3] at hd
              injection hd with hd
              have hor := or_great h3
              obtain ⟨hd0, hd1⟩ := h3
              have HD := Lib.hid (show (a * 16 + ((c.toNat : Int) + 32 - 97 + 10)) = a * 16 + d by omega)
              clear hd hv0 hv1 h1 h2
              go_wp2_with (go_at_call 48; refine (strconv_lower _ _).mono ?_; rintro e w' ⟨rfl, rfl⟩)
              refine ⟨⟨k + 1, acc * 16 + d, a * 16 + ((c.toNat : Int) + 32 - 97 + 10), rfl, (by first | rfl | (congr 1; omega)), (by first | rfl | (congr 1; omega)), by omega, by rw [HD.out]; exact HN⟩, by simp [RowKit.intOf]; omega⟩
            · rw [if_neg h3] at hd
              cases hd
    · have hkk : k = t.size := by omega
      subst hkk
      have hF : hexv acc (bs.drop t.size) = some acc := by rw [List.drop_eq_nil_of_le (by omega)]; rfl
      rw [hF] at hdec
      injection hdec with hdec
      subst hdec
      subst ha
      clear hacc hF a0
      go_wp2
      go_ret2
      exact ⟨rfl, HBel.out⟩
end Go.Proofs.YtnjghpoeokfekaaDoor.Door
