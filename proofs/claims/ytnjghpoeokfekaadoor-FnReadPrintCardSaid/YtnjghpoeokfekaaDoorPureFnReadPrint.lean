/- The law FnReadPrint over plain numbers: a fingerprint that is written by sixteen digits is read back, in small letters and in capitals, with or without noughts ahead. -/
import Derived.Test.YtnjghpoeokfekaaDoorQx2
import Derived.Laws.Bits64b
import Derived.OpenShut
set_option linter.unusedVariables false
set_option linter.unusedSimpArgs false
namespace Go.Proofs.YtnjghpoeokfekaaDoor.Pure
open Go.RowKit Go.Proofs.YtnjghpoeokfekaaDoor.Q Go.Proofs.YtnjghpoeokfekaaDoorW.PrintWords Go.Proofs.YtnjghpoeokfekaaDoorW.PrintLast Go.Proofs.YtnjghpoeokfekaaDoorW.PrintMore
open Go.Proofs.YtnjghpoeokfekaaDoor.Door (hexd hexv turnB turnTo)
def nib (n j : Nat) : Nat := n / 2 ^ (60 - 4 * j) % 16
def hexc (d : Nat) : UInt8 := UInt8.ofNat (if d < 10 then 48 + d else 87 + d)
def htext (n m : Nat) : List UInt8 := (List.range m).map fun j => hexc (nib n j)
theorem htext_succ (n m : Nat) : htext n (m + 1) = htext n m ++ [hexc (nib n m)] := by unfold htext; rw [List.range_succ, List.map_append]; rfl
theorem htext_len (n m : Nat) : (htext n m).length = m := by unfold htext; simp
theorem nib_lt (n j : Nat) : nib n j < 16 := Nat.mod_lt _ (by omega)
theorem hexc_cut : ∀ d < 16, (⟨#[48, 49, 50, 51, 52, 53, 54, 55, 56, 57, 97, 98, 99, 100, 101, 102]⟩ : ByteArray).extract d (d + 1) = ⟨#[hexc d]⟩ := by decide +kernel
theorem hexc_at : ∀ d < 16, bt (⟨#[48, 49, 50, 51, 52, 53, 54, 55, 56, 57, 97, 98, 99, 100, 101, 102]⟩ : ByteArray) ((d : Nat) : Int) = ((hexc d).toNat : Int) := by decide +kernel
theorem hexc_hexd : ∀ d < 16, hexd (hexc d) = some d := by decide +kernel
theorem shr_nib (n j : Nat) (hn : n < 18446744073709551616) (hj : j ≤ 15) : Go.bits .and .u64 (shr .u64 (n : Int) ((60 - 4 * j : Nat) : Int)) 15 = (nib n j : Int) := by
  unfold shr
  rw [Int.toNat_natCast, Nat.min_eq_left (by show 60 - 4 * j ≤ 64; omega)]
  have e : (n : Int) / 2 ^ (60 - 4 * j) = ((n / 2 ^ (60 - 4 * j) : Nat) : Int) := by simp
  rw [e]
  have h := bits_and_u64_nat (n / 2 ^ (60 - 4 * j)) 15 (Nat.lt_of_le_of_lt (Nat.div_le_self _ _) hn) (by omega)
  have h2 := Nat.and_two_pow_sub_one_eq_mod (n / 2 ^ (60 - 4 * j)) 4
  have e15 : (2 : Nat) ^ 4 - 1 = 15 := rfl
  rw [e15] at h2
  rw [h2] at h
  exact h
theorem w64 (x : Int) (h0 : -9223372036854775808 ≤ x) (h1 : x ≤ 9223372036854775807) : wrap64 x = x := by unfold wrap64; omega
theorem hex_l0 (n : Nat) (hn : n < 18446744073709551616) : ∀ (d j k : Nat), j + d = 16 → d < k → laws_hex.l0 k n ⟨(htext n j).toArray⟩ (60 - 4 * (j : Int)) = some ⟨(htext n 16).toArray⟩
  | 0, j, k, hj, hk => by
    obtain ⟨k, rfl⟩ : ∃ m, k = m + 1 := ⟨k - 1, by omega⟩
    obtain rfl : j = 16 := by omega
    simp only [laws_hex.l0]
    rw [if_neg (by omega)]
  | d + 1, j, k, hj, hk => by
    obtain ⟨k, rfl⟩ : ∃ m, k = m + 1 := ⟨k - 1, by omega⟩
    simp only [laws_hex.l0]
    have e1 : IntKind.u64.wrap (60 - 4 * (j : Int)) = ((60 - 4 * j : Nat) : Int) := by rw [IntKind.wrap_u64]; omega
    have hl := nib_lt n j
    rw [if_pos (by omega), e1, if_pos (by omega), shr_nib n j hn (by omega), w64 (nib n j : Int) (by omega) (by omega), if_pos (by omega), w64 ((nib n j : Int) + 1) (by omega) (by omega), if_pos (by omega), if_pos (by omega)]
    have e2 : ((nib n j : Int) + 1).toNat = nib n j + 1 := by omega
    rw [e2, Int.toNat_natCast, hexc_cut _ hl]
    have e3 : (⟨(htext n j).toArray⟩ : ByteArray) ++ ⟨#[hexc (nib n j)]⟩ = ⟨(htext n (j + 1)).toArray⟩ := by
      rw [htext_succ]
      exact Go.ByteArray.mk_append_mk _ _
    rw [e3, if_pos (by show (htext n j).toArray.size + 1 ≤ _; rw [List.size_toArray, htext_len]; omega), w64 _ (by omega) (by omega)]
    have e4 : (60 - 4 * (j : Int) - 4) = 60 - 4 * ((j + 1 : Nat) : Int) := by omega
    rw [e4]
    exact hex_l0 n hn d (j + 1) k (by omega) (by omega)
def ptext (n m : Nat) : List Int := ((htext n m).map fun c => (c.toNat : Int)) ++ List.replicate (16 - m) 0
theorem ptext_set (n m : Nat) (h : m < 16) : (ptext n m).set m ((hexc (nib n m)).toNat : Int) = ptext n (m + 1) := by
  unfold ptext
  rw [htext_succ, List.map_append, List.set_append_right _ _ (by rw [List.length_map, htext_len]; omega), List.length_map, htext_len, Nat.sub_self, show 16 - m = (16 - (m + 1)) + 1 by omega, List.replicate_succ]
  simp
theorem print_l0 (n : Nat) (hn : n < 18446744073709551616) : ∀ (d j k : Nat), j + d = 16 → d < k → spec_PrintText.l0 k n (ptext n j) (j : Int) = some ⟨(htext n 16).toArray⟩
  | 0, j, k, hj, hk => by
    obtain ⟨k, rfl⟩ : ∃ m, k = m + 1 := ⟨k - 1, by omega⟩
    obtain rfl : j = 16 := by omega
    simp only [spec_PrintText.l0]
    rw [if_neg (by omega)]
    unfold ptext strOfNums
    rw [Nat.sub_self, List.replicate_zero, List.append_nil, List.map_map]
    congr 2
    have hid : ((fun m : Int => UInt8.ofNat m.toNat) ∘ fun c : UInt8 => (c.toNat : Int)) = id := by
      funext c
      simp
    rw [hid, List.map_id]
  | d + 1, j, k, hj, hk => by
    obtain ⟨k, rfl⟩ : ∃ m, k = m + 1 := ⟨k - 1, by omega⟩
    simp only [spec_PrintText.l0]
    have hl := nib_lt n j
    have e1 : wrap64 (60 - wrap64 (4 * (j : Int))) = ((60 - 4 * j : Nat) : Int) := by rw [w64 (4 * (j : Int)) (by omega) (by omega), w64 _ (by omega) (by omega)]; omega
    have hlen : (ptext n j).length = 16 := by unfold ptext; rw [List.length_append, List.length_map, htext_len, List.length_replicate]; omega
    rw [if_pos (by omega), e1, if_pos (by omega), shr_nib n j hn (by omega), if_pos (by omega), if_pos (by omega), if_pos (by omega), if_pos (by omega), hexc_at _ hl, Int.toNat_natCast, ptext_set n j (by omega), w64 _ (by omega) (by omega)]
    exact print_l0 n hn d (j + 1) k (by omega) (by omega)
/-- What the digits from the j-th on say. -/
theorem nib_step (n j : Nat) (h : j < 16) : n / 2 ^ (60 - 4 * j) = (if j = 0 then 0 else n / 2 ^ (64 - 4 * j)) * 16 + nib n j ∨ 18446744073709551616 ≤ n := by
  unfold nib
  by_cases h0 : j = 0
  · subst h0
    rw [if_pos rfl]
    by_cases hn : 18446744073709551616 ≤ n
    · exact Or.inr hn
    · left
      have : n / 2 ^ 60 < 16 := by
        rw [Nat.div_lt_iff_lt_mul (by decide)]
        have : 16 * 2 ^ 60 = 18446744073709551616 := by decide
        omega
      rw [Nat.mul_zero, Nat.sub_zero]
      omega
  · left
    rw [if_neg h0]
    have e : 64 - 4 * j = (60 - 4 * j) + 4 := by omega
    rw [e, Nat.pow_add, ← Nat.div_div_eq_div_mul]
    have : (2 : Nat) ^ 4 = 16 := rfl
    rw [this]
    omega
def upto (n j : Nat) : Nat := if j = 0 then 0 else n / 2 ^ (64 - 4 * j)
theorem upto_succ (n j : Nat) (hn : n < 18446744073709551616) (h : j < 16) : upto n (j + 1) = upto n j * 16 + nib n j := by
  rcases nib_step n j h with e | e
  · unfold upto
    rw [if_neg (by omega)]
    have e' : 64 - 4 * (j + 1) = 60 - 4 * j := by omega
    rw [e']
    exact e
  · omega
theorem upto_all (n : Nat) : upto n 16 = n := by unfold upto; simp
theorem upto_lt (n j : Nat) (hn : n < 18446744073709551616) (hj : j ≤ 15) : upto n j < 1152921504606846976 := by
  unfold upto
  split
  · omega
  · rw [Nat.div_lt_iff_lt_mul (Nat.pow_pos (by omega))]
    have h1 : 2 ^ (64 - 4 * 15) ≤ 2 ^ (64 - 4 * j) := Nat.pow_le_pow_right (by omega) (by omega)
    have h2 : (2 : Nat) ^ (64 - 4 * 15) = 16 := by decide
    rw [h2] at h1
    have := Nat.mul_le_mul_left 1152921504606846976 h1
    omega
theorem htext_drop (n j : Nat) (h : j < 16) : (htext n 16).drop j = hexc (nib n j) :: (htext n 16).drop (j + 1) := by
  have hl : j < (htext n 16).length := by rw [htext_len]; exact h
  have e : (htext n 16)[j]'hl = hexc (nib n j) := by simp only [htext, List.getElem_map, List.getElem_range]
  rw [List.drop_eq_getElem_cons hl, e]
theorem hexv_drop (n : Nat) (hn : n < 18446744073709551616) : ∀ (d j : Nat), j + d = 16 → hexv (upto n j) ((htext n 16).drop j) = some n
  | 0, j, hj => by
    obtain rfl : j = 16 := by omega
    rw [List.drop_eq_nil_of_le (by rw [htext_len]; omega), Door.hexv, upto_all]
  | d + 1, j, hj => by
    rw [htext_drop n j (by omega), Door.hexv, hexc_hexd _ (nib_lt n j)]
    simp only
    rw [← upto_succ n j hn (by omega)]
    exact hexv_drop n hn d (j + 1) (by omega)
theorem hexv_text (n : Nat) (hn : n < 18446744073709551616) : hexv 0 (htext n 16) = some n := hexv_drop n hn 16 0 (by omega)
/-- A digit that is turned is the same digit. -/
theorem turn_hexd (m : List Bool) (i : Nat) : ∀ d < 16, hexd (turnB m i (hexc d)) = some d := by
  intro d hd
  unfold turnB
  split
  · rename_i h
    have h2 : ∀ d < 16, 97 ≤ (hexc d ||| 32).toNat → hexd (hexc d ^^^ 32) = some d := by decide +kernel
    exact h2 d hd h.2.2.1
  · exact hexc_hexd d hd
theorem hexv_alike : ∀ (l l' : List UInt8) (acc : Nat), l.length = l'.length → (∀ i, i < l.length → hexd (l.getD i 0) = hexd (l'.getD i 0)) → hexv acc l = hexv acc l'
  | [], [], _, _, _ => rfl
  | [], _ :: _, _, h, _ => by simp at h
  | _ :: _, [], _, h, _ => by simp at h
  | c :: l, c' :: l', acc, h, hh => by
    have h0 := hh 0 (by simp)
    have e : hexd c = hexd c' := h0
    rw [Door.hexv, Door.hexv, e]
    cases hexd c' with
    | none => rfl
    | some d => exact hexv_alike l l' _ (by simpa using h) (fun i hi => hh (i + 1) (by simpa using hi))
theorem turn_text (m : List Bool) (n : Nat) (hn : n < 18446744073709551616) (k : Nat) : hexv 0 (turnTo m k (htext n 16)) = some n := by
  rw [← hexv_text n hn]
  refine hexv_alike _ _ _ (by rw [Door.turnTo_len]) (fun i hi => ?_)
  rw [Door.turnTo_len, htext_len] at hi
  have e : (htext n 16).getD i 0 = hexc (nib n i) := by
    unfold htext
    simp [List.getD, hi]
  unfold turnTo
  have hl : i < (htext n 16).length := by rw [htext_len]; exact hi
  have e2 : ((htext n 16).mapIdx fun i c => if i < k then turnB m i c else c).getD i 0 = if i < k then turnB m i (hexc (nib n i)) else hexc (nib n i) := by
    rw [← e]
    simp [List.getD, hl]
  rw [e2, e]
  split
  · rw [turn_hexd m i _ (nib_lt n i), hexc_hexd _ (nib_lt n i)]
  · rfl
theorem hexv_zeros (l : List UInt8) : ∀ (k : Nat), (∀ i, i < k → l.getD i 0 = 48) → k ≤ l.length → hexv 0 (l.drop k) = hexv 0 l
  | 0, _, _ => rfl
  | k + 1, h, hk => by
    rw [← hexv_zeros l k (fun i hi => h i (by omega)) (by omega), List.drop_eq_getElem_cons (show k < l.length by omega), Door.hexv]
    have e : l[k]'(by omega) = 48 := by
      have := h k (by omega)
      simpa [List.getD, show k < l.length by omega] using this
    rw [e]
    rfl
theorem spec_l0 (n : Nat) (hn : n < 18446744073709551616) : ∀ (d j k : Nat), j + d = 16 → 3 * d < k → spec_ReadPrint.l0 k ⟨(htext n 16).toArray⟩ (upto n j) 1 16 (j : Int) = some ((n : Int), 1)
  | 0, j, k, hj, hk => by
    obtain ⟨k, rfl⟩ : ∃ m, k = m + 1 := ⟨k - 1, by omega⟩
    obtain rfl : j = 16 := by omega
    have hz : ((⟨(htext n 16).toArray⟩ : ByteArray).size : Int) = 16 := by show ((htext n 16).toArray.size : Int) = 16; rw [List.size_toArray, htext_len]; rfl
    simp only [spec_ReadPrint.l0]
    rw [if_neg (by omega), if_neg (by omega), if_pos hz, upto_all]
  | d + 1, j, k, hj, hk => by
    obtain ⟨k, rfl⟩ : ∃ m, k = m + 3 := ⟨k - 3, by omega⟩
    have hz : ((⟨(htext n 16).toArray⟩ : ByteArray).size : Int) = 16 := by show ((htext n 16).toArray.size : Int) = 16; rw [List.size_toArray, htext_len]; rfl
    have hl := nib_lt n j
    have hu := upto_lt n j hn (by omega)
    have hb : bt (⟨(htext n 16).toArray⟩ : ByteArray) (j : Int) = ((hexc (nib n j)).toNat : Int) := by
      unfold bt
      rw [dif_pos (by rw [Int.toNat_natCast]; omega)]
      have hlt : j < (htext n 16).length := by rw [htext_len]; omega
      show (((htext n 16).toArray[(j : Int).toNat]'(by simpa [htext_len] using (show j < 16 by omega))).toNat : Int) = _
      simp [htext]
    have hor : ∀ x : Nat, x < 16 → Go.bits .or .u64 (IntKind.u64.wrap ((upto n j : Int) * 16)) (x : Int) = ((upto n j * 16 + x : Nat) : Int) := by
      intro x hx
      have e : IntKind.u64.wrap ((upto n j : Int) * 16) = ((upto n j * 16 : Nat) : Int) := by rw [IntKind.wrap_u64]; omega
      rw [e, bits_or_u64_nat _ _ (by omega) (by omega)]
      have h := Nat.two_pow_add_eq_or_of_lt (i := 4) (b := x) (by simpa using hx) (upto n j)
      have e16 : (2 : Nat) ^ 4 = 16 := rfl
      rw [e16] at h
      rw [Nat.mul_comm, ← h]
    simp only [spec_ReadPrint.l0]
    rw [if_pos (by omega), if_pos (by omega), if_pos (by omega), hb]
    have hup := upto_succ n j hn (by omega)
    by_cases h10 : nib n j < 10
    · have ec : ((hexc (nib n j)).toNat : Int) = 48 + nib n j := by
        unfold hexc
        rw [if_pos h10, UInt8.toNat_ofNat']
        omega
      rw [ec, if_pos (by omega), decide_eq_true (by omega)]
      simp only [spec_ReadPrint.j1]
      rw [if_pos trivial]
      have e2 : (48 + (nib n j : Int) - 48) % 256 = (nib n j : Int) := by omega
      rw [e2, hor _ hl, w64 _ (by omega) (by omega), ← hup]
      exact spec_l0 n hn d (j + 1) (k + 1) (by omega) (by omega)
    · have ec : ((hexc (nib n j)).toNat : Int) = 87 + nib n j := by
        unfold hexc
        rw [if_neg h10, UInt8.toNat_ofNat']
        omega
      rw [ec, if_pos (by omega), decide_eq_false (by omega)]
      simp only [spec_ReadPrint.j1]
      rw [if_neg (by simp), if_pos (by omega), decide_eq_true (by omega)]
      simp only [spec_ReadPrint.j2]
      rw [if_pos trivial]
      have e2 : ((87 + (nib n j : Int) - 97) % 256 + 10) % 256 = (nib n j : Int) := by omega
      rw [e2, hor _ hl, w64 _ (by omega) (by omega), ← hup]
      exact spec_l0 n hn d (j + 1) k (by omega) (by omega)
theorem law_l0 (n : Nat) (hn : n < 18446744073709551616) (m : List Bool) (hm : m.length ≤ 2147483647) (T : List UInt8) (hT : T.length = 16) (hv : hexv 0 T = some n) (ht : ∀ k, hexv 0 (turnTo m k T) = some n)
    (hs : ∀ k, 60 < k + 1 → spec_ReadPrint.f k ⟨T.toArray⟩ = some ((n : Int), 1)) (hp : ∀ k, 60 < k + 1 → spec_PrintText.f k n = some ⟨T.toArray⟩) : ∀ (d c i k : Nat), c ≤ 15 → c - i = d → i ≤ 16 → (∀ x, x < i → x < c → T.getD x 0 = 48) → 60 + d < k →
    laws_FnReadPrint.l0 k n m ⟨T.toArray⟩ (c : Int) (i : Int) = some true
  | 0, c, i, k, hc, hd, hi, h0, hk => by
    obtain ⟨k, rfl⟩ : ∃ q, k = q + 1 := ⟨k - 1, by omega⟩
    have hz : (⟨T.toArray⟩ : ByteArray).size = 16 := by show T.toArray.size = 16; rw [List.size_toArray, hT]
    simp only [laws_FnReadPrint.l0]
    rw [if_neg (by omega)]
    have e1 : laws_turned.f ⟨T.toArray⟩ m = some ⟨(turnTo m T.length T).toArray⟩ := by
      unfold laws_turned.f
      rw [if_pos ⟨by omega, hm⟩]
    have e2 : impl_ReadPrint.f ⟨(turnTo m T.length T).toArray⟩ = some ((n : Int), true) := by
      unfold impl_ReadPrint.f
      have hz2 : (⟨(turnTo m T.length T).toArray⟩ : ByteArray).size = 16 := by
        show (turnTo m T.length T).toArray.size = 16
        rw [List.size_toArray, Door.turnTo_len, hT]
      rw [if_pos ⟨by omega, by omega⟩]
      show Option.map _ (hexv 0 (turnTo m T.length T)) = _
      rw [ht]
      rfl
    have e3 : impl_ReadPrint.f ((⟨T.toArray⟩ : ByteArray).extract c 16) = some ((n : Int), true) := by
      unfold impl_ReadPrint.f
      have hz2 : ((⟨T.toArray⟩ : ByteArray).extract c 16).size = 16 - c := by rw [ByteArray.size_extract]; omega
      rw [if_pos ⟨by omega, by omega⟩]
      have hl : ((⟨T.toArray⟩ : ByteArray).extract c 16).data.toList = T.drop c := by
        rw [ByteArray.data_extract, Array.toList_extract, List.extract_eq_take_drop]
        show List.take (16 - c) (T.drop c) = _
        rw [List.take_of_length_le (by rw [List.length_drop, hT]; omega)]
      rw [hl, hexv_zeros _ c (fun x hx => h0 x (by omega) hx) (by rw [hT]; omega), hv]
      rfl
    have e4 := hs k (by omega)
    have e5 := hp k (by omega)
    have ec : (c : Int).toNat = c := Int.toNat_natCast c
    rw [e1]
    simp only [Option.bind_some]
    rw [e2]
    simp only [Option.bind_some]
    rw [if_pos (by omega), if_pos (by omega), ec, hz, e3]
    simp only [Option.bind_some]
    rw [e4]
    simp only [Option.bind_some, if_true]
    rw [e5]
    simp
  | d + 1, c, i, k, hc, hd, hi, h0, hk => by
    obtain ⟨k, rfl⟩ : ∃ q, k = q + 1 := ⟨k - 1, by omega⟩
    have hz : (⟨T.toArray⟩ : ByteArray).size = 16 := by show T.toArray.size = 16; rw [List.size_toArray, hT]
    have hlt : i < T.length := by rw [hT]; omega
    have hb : bt (⟨T.toArray⟩ : ByteArray) (i : Int) = ((T.getD i 0).toNat : Int) := by
      unfold bt
      rw [dif_pos (by rw [Int.toNat_natCast]; omega)]
      show ((T.toArray[(i : Int).toNat]'(by simpa using hlt)).toNat : Int) = _
      simp [List.getD, hlt]
    simp only [laws_FnReadPrint.l0]
    rw [if_pos (by omega), if_pos (by omega), if_pos (by omega), hb]
    by_cases h48 : ((T.getD i 0).toNat : Int) = 48
    · rw [if_pos h48, w64 _ (by omega) (by omega)]
      refine law_l0 n hn m hm T hT hv ht hs hp d c (i + 1) k hc (by omega) (by omega) (fun x hx hxc => ?_) (by omega)
      by_cases hxi : x < i
      · exact h0 x hxi hxc
      · obtain rfl : x = i := by omega
        exact UInt8.toNat_inj.1 (by have : (48 : UInt8).toNat = 48 := rfl; omega)
    · rw [if_neg h48, w64 _ (by omega) (by omega)]
      refine law_l0 n hn m hm T hT hv ht hs hp 0 i (i + 1) k (by omega) (by omega) (by omega) (fun x hx hxc => h0 x hxc (by omega)) (by omega)
theorem law_all (n c k : Nat) (m : List Bool) (hn : n < 18446744073709551616) (hk : 100 ≤ k) (hl : ¬ (m.length : Int) > 2147483647) : laws_FnReadPrint.f k n c m = some true := by
  unfold laws_FnReadPrint.f
  rw [if_neg hl]
  have h0 := hex_l0 n hn 16 0 k (by omega) (by omega)
  have e0 : (60 - 4 * ((0 : Nat) : Int)) = 60 := rfl
  rw [e0] at h0
  have e1 : laws_hex.f k n = some ⟨(htext n 16).toArray⟩ := h0
  rw [e1]
  simp only [Option.bind_some]
  have e2 : wrap64 (Int.tmod (c : Int) 16) = ((c % 16 : Nat) : Int) := by
    rw [Int.tmod_eq_emod_of_nonneg (by omega), w64 _ (by omega) (by omega)]
    omega
  rw [e2]
  have hz : (⟨(htext n 16).toArray⟩ : ByteArray).size = 16 := by show (htext n 16).toArray.size = 16; rw [List.size_toArray, htext_len]
  have e4 : ∀ k, 60 < k + 1 → spec_ReadPrint.f k ⟨(htext n 16).toArray⟩ = some ((n : Int), 1) := by
    intro k hk
    unfold spec_ReadPrint.f
    rw [hz]
    exact spec_l0 n hn 16 0 k (by omega) (by omega)
  have e5 : ∀ k, 60 < k + 1 → spec_PrintText.f k n = some ⟨(htext n 16).toArray⟩ := by
    intro k hk
    unfold spec_PrintText.f
    rw [if_pos (by omega)]
    exact print_l0 n hn 16 0 k (by omega) (by omega)
  exact law_l0 n hn m (by omega) (htext n 16) (htext_len n 16) (hexv_text n hn) (turn_text m n hn) e4 e5 (c % 16) (c % 16) 0 k (by omega) (by omega) (by omega) (fun x hx => by omega) (by omega)
theorem FnReadPrint : laws_FnReadPrint.Pure := by
  intro a0 a1 l2 h0 h1 _
  have b0 : 0 ≤ a0 ∧ a0 < 18446744073709551616 := by
    have := bounds_u64 h0
    omega
  have b1 : 0 ≤ a1 ∧ a1 < 256 := by
    have := bounds_u8 h1
    omega
  obtain ⟨n, rfl⟩ : ∃ n : Nat, a0 = n := ⟨a0.toNat, by omega⟩
  obtain ⟨c, rfl⟩ : ∃ c : Nat, a1 = c := ⟨a1.toNat, by omega⟩
  by_cases hl : (l2.length : Int) > 2147483647
  · refine ⟨0, ?_⟩
    unfold laws_FnReadPrint.f
    rw [if_pos hl]
  · exact ⟨100, law_all n c 100 l2 (by omega) (Nat.le_refl _) hl⟩
end Go.Proofs.YtnjghpoeokfekaaDoor.Pure
