/- The runes of joined texts, of ASCII texts. -/
import Derived.Test.YtmjoebnphacadaaDoorRl
namespace Go.Proofs.YtmjoebnphacadaaDoor.Lex
open Go.RowKit Go.Lib Go.Proofs.YtmjoebnphacadaaDoor.Pure Go.Proofs.YtmjoebnphacadaaDoor.Q Go.Proofs.YtmjoebnphacadaaDoorW.PrintWords Go.Proofs.YtmjoebnphacadaaDoorW.PrintLast
set_option linter.unusedVariables false
set_option linter.unusedSimpArgs false
theorem decodeN_stop {n n' b0 b1 b2 b3 c1 c2 c3 : Nat} (hn : 1 ≤ n) (hnn : n ≤ n') (h1 : 1 < n → c1 = b1) (h2 : 2 < n → c2 = b2) (h3 : 3 < n → c3 = b3)
    (s1 : n < n' → n = 1 → c1 / 64 ≠ 2) (s2 : n < n' → n = 2 → c2 / 64 ≠ 2) (s3 : n < n' → n = 3 → c3 / 64 ≠ 2) : Lib.decodeN n' b0 c1 c2 c3 = Lib.decodeN n b0 b1 b2 b3 := by
  have key : ∀ (i : Nat) (b c : Nat), (i < n → c = b) → (n < n' → n = i → c / 64 ≠ 2) → (n ≠ i → n < i → n < n' → True) → ((i < n' ∧ c / 64 = 2) → i ≤ n → (i < n ∧ b / 64 = 2)) := by
    intro i b c ha hb _ ⟨hc, hd⟩ hi
    by_cases hin : i < n
    · exact ⟨hin, by rw [← ha hin]; exact hd⟩
    · exact absurd hd (hb (by omega) (by omega))
  have e1 : (1 < n' ∧ c1 / 64 = 2) ↔ (1 < n ∧ b1 / 64 = 2) := ⟨fun h => key 1 b1 c1 h1 s1 (fun _ _ _ => trivial) h hn, fun h => ⟨by omega, by rw [h1 h.1]; exact h.2⟩⟩
  unfold Lib.decodeN
  by_cases k1 : 1 < n ∧ b1 / 64 = 2
  · have k1' := e1.2 k1
    have g1 := h1 k1.1
    subst g1
    have e2 : (2 < n' ∧ c2 / 64 = 2) ↔ (2 < n ∧ b2 / 64 = 2) := ⟨fun h => key 2 b2 c2 h2 s2 (fun _ _ _ => trivial) h (by omega), fun h => ⟨by omega, by rw [h2 h.1]; exact h.2⟩⟩
    by_cases k2 : 2 < n ∧ b2 / 64 = 2
    · have k2' := e2.2 k2
      have g2 := h2 k2.1
      subst g2
      have e3 : (3 < n' ∧ c3 / 64 = 2) ↔ (3 < n ∧ b3 / 64 = 2) := ⟨fun h => key 3 b3 c3 h3 s3 (fun _ _ _ => trivial) h (by omega), fun h => ⟨by omega, by rw [h3 h.1]; exact h.2⟩⟩
      by_cases k3 : 3 < n ∧ b3 / 64 = 2
      · have k3' := e3.2 k3
        have g3 := h3 k3.1
        subst g3
        simp only [k1, k1', k2, k2', k3, k3', and_self, true_and]
      · have k3' : ¬ (3 < n' ∧ c3 / 64 = 2) := fun h => k3 (e3.1 h)
        simp only [k1, k1', k2, k2', k3, k3', and_self, true_and, and_false, if_false]
    · have k2' : ¬ (2 < n' ∧ c2 / 64 = 2) := fun h => k2 (e2.1 h)
      simp only [k1, k1', k2, k2', and_self, true_and, and_false, false_and, if_false]
  · have k1' : ¬ (1 < n' ∧ c1 / 64 = 2) := fun h => k1 (e1.1 h)
    simp only [k1, k1', and_false, false_and, if_false]
theorem app_list (x y : ByteArray) : (x ++ y).data.toList = x.data.toList ++ y.data.toList := by
  rw [ByteArray.data_append, Array.toList_append]
theorem get_list (s : ByteArray) (i : Nat) : s.get! i = s.data.toList.getD i 0 := (Lib.getD_get!' s i).symm
theorem app_get_l {x y : ByteArray} {i : Nat} (h : i < x.size) : (x ++ y).get! i = x.get! i := by
  have h2 : i < x.data.toList.length := by rw [Array.length_toList]; exact h
  rw [get_list, get_list, app_list, List.getD_eq_getElem?_getD, List.getD_eq_getElem?_getD, List.getElem?_append_left h2]
theorem app_get_r {x y : ByteArray} (i : Nat) : (x ++ y).get! (x.size + i) = y.get! i := by
  have h2 : x.data.toList.length ≤ x.size + i := by rw [Array.length_toList]; exact Nat.le_add_right _ _
  rw [get_list, get_list, app_list, List.getD_eq_getElem?_getD, List.getD_eq_getElem?_getD, List.getElem?_append_right h2]
  rw [show x.size + i - x.data.toList.length = i by rw [Array.length_toList]; show x.size + i - x.size = i; omega]
/-- What may stand behind a text without changing its runes: nothing, or a byte that goes on no rune. -/
def Fresh (y : ByteArray) : Prop := 0 < y.size → (y.get! 0).toNat / 64 ≠ 2
theorem app_size (x y : ByteArray) : (x ++ y).size = x.size + y.size := ByteArray.size_append
theorem app_decode {x y : ByteArray} (hy : Fresh y) {p : Nat} (hp : p < x.size) : Utf8.decode (x ++ y) p = Utf8.decode x p := by
  rw [Lib.decode_at, Lib.decode_at, app_size, app_get_l hp]
  have at1 : ∀ j, x.size - p = j → 0 < y.size → ((x ++ y).get! (p + j)).toNat / 64 ≠ 2 := by
    intro j hj h0
    rw [show p + j = x.size + 0 by omega, app_get_r]
    exact hy h0
  refine decodeN_stop (by omega) (by omega) (fun h => ?_) (fun h => ?_) (fun h => ?_) (fun h e => at1 1 e (by omega)) (fun h e => at1 2 e (by omega)) (fun h e => at1 3 e (by omega))
  · rw [app_get_l (by omega)]
  · rw [app_get_l (by omega)]
  · rw [app_get_l (by omega)]
theorem cut_list (s : ByteArray) (a e : Nat) : cut s a e = (s.data.toList.drop a).take (e - a) := Lib.extract_data s a e
theorem cut_app_l {x y : ByteArray} {a e : Nat} (h : e ≤ x.size) : cut (x ++ y) a e = cut x a e := by
  rw [cut_list, cut_list, app_list]
  by_cases ha : a ≤ x.size
  · rw [List.drop_append_of_le_length (by rw [Array.length_toList]; exact ha), List.take_append_of_le_length (by rw [List.length_drop, Array.length_toList]; show e - a ≤ x.size - a; omega)]
  · rw [show e - a = 0 by omega, List.take_zero, List.take_zero]
theorem cut_app_r {x y : ByteArray} {a e : Nat} : cut (x ++ y) (x.size + a) (x.size + e) = cut y a e := by
  have h2 : x.data.toList.length = x.size := Array.length_toList
  rw [cut_list, cut_list, app_list, show x.size + e - (x.size + a) = e - a by omega, ← h2, List.drop_length_add_append]
theorem right_decode {x y : ByteArray} {q : Nat} (hq : q < y.size) : Utf8.decode (x ++ y) (x.size + q) = Utf8.decode y q := by
  rw [Lib.decode_at, Lib.decode_at, app_size, app_get_r, show x.size + q + 1 = x.size + (q + 1) by omega, show x.size + q + 2 = x.size + (q + 2) by omega, show x.size + q + 3 = x.size + (q + 3) by omega, app_get_r, app_get_r, app_get_r, show x.size + y.size - (x.size + q) = y.size - q by omega]
theorem RL_right {x y : ByteArray} : ∀ (d q : Nat), y.size ≤ q + d → RL (x ++ y) (x.size + q) = RL y q := by
  intro d
  induction d with
  | zero => intro q h; rw [RL_end (by rw [app_size]; omega), RL_end (by omega)]
  | succ d ih =>
    intro q h
    by_cases hq : q < y.size
    · have a2 := adv_pos y q
      have hd := right_decode (x := x) hq
      rw [RL_step (show x.size + q < (x ++ y).size by rw [app_size]; omega), RL_step hq]
      rw [show rn (x ++ y) (x.size + q) = rn y q by rw [rn, hd], show wdt (x ++ y) (x.size + q) = wdt y q by rw [wdt, hd], show x.size + q + wdt y q = x.size + (q + wdt y q) by omega, cut_app_r, ih _ (by omega)]
    · rw [RL_end (by rw [app_size]; omega), RL_end hq]
/-- The runes of two texts, one behind the other. -/
theorem RL_app {x y : ByteArray} (hy : Fresh y) : ∀ (d p : Nat), p ≤ x.size → x.size ≤ p + d → RL (x ++ y) p = RL x p ++ RL y 0 := by
  intro d
  induction d with
  | zero =>
    intro p hp h
    rw [RL_end (s := x) (by omega), show p = x.size + 0 by omega, RL_right y.size 0 (by omega)]
    rfl
  | succ d ih =>
    intro p hp h
    by_cases hq : p < x.size
    · have a1 := adv_le x p hq
      have a2 := adv_pos x p
      have hd := app_decode hy hq
      rw [RL_step (show p < (x ++ y).size by rw [app_size]; omega), RL_step hq]
      rw [show rn (x ++ y) p = rn x p by rw [rn, hd], show wdt (x ++ y) p = wdt x p by rw [wdt, hd], cut_app_l a1, ih _ a1 (by omega)]
      rfl
    · rw [RL_end (s := x) hq, show p = x.size + 0 by omega, RL_right y.size 0 (by omega)]
      rfl
theorem RL_join {x y : ByteArray} (hy : Fresh y) : RL (x ++ y) 0 = RL x 0 ++ RL y 0 := RL_app hy x.size 0 (Nat.zero_le _) (by omega)
/-- The runes of bytes below 128. -/
def ascL (l : List UInt8) : List RB := l.map fun b => (b.toNat, [b])
theorem RL_ascii {s : ByteArray} (h : ∀ b ∈ s.data.toList, b.toNat < 128) : ∀ (d p : Nat), s.size ≤ p + d → RL s p = ascL (s.data.toList.drop p) := by
  intro d
  induction d with
  | zero =>
    intro p hp
    rw [RL_end (by omega), List.drop_of_length_le (by rw [Array.length_toList]; show s.size ≤ p; omega)]
    rfl
  | succ d ih =>
    intro p hp
    by_cases hq : p < s.size
    · have hl : p < s.data.toList.length := by rw [Array.length_toList]; exact hq
      have hb : (s[p]'hq).toNat < 128 := h _ (by rw [Array.mem_toList_iff]; exact Array.getElem_mem hq)
      have hd := Go.decode_ascii s p hq hb
      have e0 : s.data.toList[p] = s[p]'hq := rfl
      rw [RL_step hq, show rn s p = (s[p]'hq).toNat by rw [rn, hd], show wdt s p = 1 by rw [wdt, hd], ih (p + 1) (by omega), List.drop_eq_getElem_cons hl, e0, cut_list, List.drop_eq_getElem_cons hl, show p + 1 - p = 1 by omega, e0]
      rfl
    · rw [RL_end hq, List.drop_of_length_le (by rw [Array.length_toList]; show s.size ≤ p; omega)]
      rfl
end Go.Proofs.YtmjoebnphacadaaDoor.Lex
