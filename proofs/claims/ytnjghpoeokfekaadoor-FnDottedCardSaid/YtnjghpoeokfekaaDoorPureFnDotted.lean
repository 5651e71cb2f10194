/- The law FnDotted over plain texts: a name of letters, digits, dots and underscores, in which no underscore stands ahead of dot, comes back of its dots. -/
import Derived.Test.YtnjghpoeokfekaaDoorQx4
set_option linter.unusedVariables false
set_option linter.unusedSimpArgs false
namespace Go.Proofs.YtnjghpoeokfekaaDoor.Pure
open Go.RowKit Go.Lib Go.Proofs.YtnjghpoeokfekaaDoor.Q Go.Proofs.YtnjghpoeokfekaaDoorW.PrintWords Go.Proofs.YtnjghpoeokfekaaDoorW.PrintLast
set_option linter.unusedSimpArgs false
def okc (c : UInt8) : Bool := (decide (97 ≤ c.toNat) && decide (c.toNat ≤ 122)) || (decide (65 ≤ c.toNat) && decide (c.toNat ≤ 90)) || decide (c.toNat = 95) || decide (c.toNat = 46) || (decide (48 ≤ c.toNat) && decide (c.toNat ≤ 57))
def esc1 : List UInt8 → List UInt8
  | [] => []
  | c :: r => (if c = 95 then [95, 95] else if c = 46 then [95, 100, 111, 116, 95] else [c]) ++ esc1 r
def mid1 : List UInt8 → List UInt8
  | [] => []
  | c :: r => (if c = 95 then [95, 95] else [c]) ++ mid1 r
def NoDot (n : List UInt8) : Prop := ∀ x, List.isPrefixOf [95, 100, 111, 116] (n.drop x) = false
theorem NoDot.tail {c : UInt8} {r : List UInt8} (h : NoDot (c :: r)) : NoDot r := fun x => h (x + 1)
theorem esc_first (c : UInt8) (hc : c ≠ 95) : ∀ (r : List UInt8), (esc1 r).head? = some c → ∃ r', r = c :: r' ∧ (esc1 r) = c :: esc1 r'
  | [], h => by simp [esc1] at h
  | d :: r, h => by
    rw [esc1] at h
    rw [esc1]
    by_cases h1 : d = 95
    · rw [if_pos h1] at h
      simp at h
      exact absurd h.symm hc
    · rw [if_neg h1] at h ⊢
      by_cases h2 : d = 46
      · rw [if_pos h2] at h
        simp at h
        exact absurd h.symm hc
      · rw [if_neg h2] at h ⊢
        simp at h
        subst h
        exact ⟨r, rfl, rfl⟩
theorem no_dot_ahead {r : List UInt8} (h : NoDot (95 :: r)) : List.isPrefixOf [95, 100, 111, 116, 95] (95 :: esc1 r) = false := by
  cases hb : List.isPrefixOf [95, 100, 111, 116, 95] (95 :: esc1 r) with
  | false => rfl
  | true =>
    exfalso
    obtain ⟨t, ht⟩ := List.isPrefixOf_iff_prefix.1 hb
    have e0 : esc1 r = 100 :: 111 :: 116 :: 95 :: t := by simpa using ht.symm
    obtain ⟨r1, rfl, e1⟩ := esc_first 100 (by decide) r (by rw [e0]; rfl)
    rw [e1] at e0
    injection e0 with _ e0
    obtain ⟨r2, rfl, e2⟩ := esc_first 111 (by decide) r1 (by rw [e0]; rfl)
    rw [e2] at e0
    injection e0 with _ e0
    obtain ⟨r3, rfl, e3⟩ := esc_first 116 (by decide) r2 (by rw [e0]; rfl)
    have := h 0
    simp at this
theorem pre_ne {a b : UInt8} {p l : List UInt8} (h : b ≠ a) : List.isPrefixOf (a :: p) (b :: l) = false := by
  rw [List.isPrefixOf]
  simp [Ne.symm h]
theorem first_back : ∀ (n : List UInt8) (f : Nat), (esc1 n).length < f → NoDot n → repL [95, 100, 111, 116, 95] [46] f (esc1 n) = mid1 n
  | [], f, h, _ => by
    obtain ⟨f, rfl⟩ : ∃ m, f = m + 1 := ⟨f - 1, by omega⟩
    rfl
  | c :: r, f, h, hn => by
    unfold esc1 at h ⊢
    unfold mid1
    obtain ⟨f, rfl⟩ : ∃ m, f = m + 1 := ⟨f - 1, by omega⟩
    by_cases h1 : c = 95
    · subst h1
      rw [if_pos rfl] at h ⊢
      rw [if_pos rfl]
      simp only [List.cons_append, List.nil_append, List.length_cons] at h ⊢
      rw [repL, if_neg (by simp)]
      obtain ⟨f, rfl⟩ : ∃ m, f = m + 1 := ⟨f - 1, by omega⟩
      rw [repL, no_dot_ahead hn, if_neg (by simp), first_back r f (by omega) hn.tail]
    · rw [if_neg h1] at h ⊢
      rw [if_neg h1]
      by_cases h2 : c = 46
      · subst h2
        rw [if_pos rfl] at h ⊢
        simp only [List.cons_append, List.nil_append, List.length_cons] at h ⊢
        rw [repL, if_pos (by simp)]
        show [46] ++ repL _ _ f (esc1 r) = _
        rw [first_back r f (by omega) hn.tail]
        rfl
      · rw [if_neg h2] at h ⊢
        simp only [List.cons_append, List.nil_append, List.length_cons] at h ⊢
        rw [repL, pre_ne h1, if_neg (by simp), first_back r f (by omega) hn.tail]
theorem second_back : ∀ (n : List UInt8) (f : Nat), (mid1 n).length < f → repL [95, 95] [95] f (mid1 n) = n
  | [], f, h => by
    obtain ⟨f, rfl⟩ : ∃ m, f = m + 1 := ⟨f - 1, by omega⟩
    rfl
  | c :: r, f, h => by
    unfold mid1 at h ⊢
    obtain ⟨f, rfl⟩ : ∃ m, f = m + 1 := ⟨f - 1, by omega⟩
    by_cases h1 : c = 95
    · subst h1
      rw [if_pos rfl] at h ⊢
      simp only [List.cons_append, List.nil_append, List.length_cons] at h ⊢
      rw [repL, if_pos (by simp)]
      show [95] ++ repL _ _ f (mid1 r) = _
      rw [second_back r f (by omega)]
      rfl
    · rw [if_neg h1] at h ⊢
      simp only [List.cons_append, List.nil_append, List.length_cons] at h ⊢
      rw [repL, pre_ne h1, if_neg (by simp), second_back r f (by omega)]
theorem enc_ascii : ∀ n < 128, encodeRune ((n : Nat) : Int) = [UInt8.ofNat n] := by decide +kernel
theorem dots_ok (c : UInt8) (pos : Nat) (hc : okc c = true) (hp : 0 < pos ∨ 97 ≤ c.toNat) : dotsP c.toNat pos = if c = 95 then [95, 95] else if c = 46 then [95, 100, 111, 116, 95] else [c] := by
  unfold dotsP
  have e95 : (c.toNat = 95) ↔ c = 95 := ⟨fun h => UInt8.toNat_inj.1 h, fun h => by rw [h]; rfl⟩
  have e46 : (c.toNat = 46) ↔ c = 46 := ⟨fun h => UInt8.toNat_inj.1 h, fun h => by rw [h]; rfl⟩
  by_cases h1 : c = 95
  · rw [if_pos (e95.2 h1), if_pos h1]
  · rw [if_neg (fun h => h1 (e95.1 h)), if_neg h1]
    by_cases h2 : c = 46
    · rw [if_pos (e46.2 h2), if_pos h2]
    · rw [if_neg (fun h => h2 (e46.1 h)), if_neg h2]
      have n1 : ¬ c.toNat = 95 := fun h => h1 (e95.1 h)
      have n2 : ¬ c.toNat = 46 := fun h => h2 (e46.1 h)
      unfold okc at hc
      have hl : legR c.toNat pos = true := by
        unfold legR
        simp only [Bool.or_eq_true, Bool.and_eq_true, decide_eq_true_eq] at hc ⊢
        omega
      have h128 : c.toNat < 128 := by
        simp only [Bool.or_eq_true, Bool.and_eq_true, decide_eq_true_eq] at hc
        omega
      rw [if_pos hl, enc_ascii _ h128, UInt8.ofNat_toNat]
theorem esc_list (s : ByteArray) (hok : ∀ c ∈ s.data.toList, okc c = true) (h0 : ∀ c, s.data.toList.head? = some c → 97 ≤ c.toNat) : ∀ (d pos f : Nat), pos + d = s.size → d < f → escFrom dotsP s f pos = esc1 (s.data.toList.drop pos)
  | 0, pos, f, hp, hf => by
    rw [escFrom_end _ _ _ _ (by omega), List.drop_eq_nil_of_le (by rw [sz]; omega)]
    rfl
  | d + 1, pos, f, hp, hf => by
    obtain ⟨f, rfl⟩ : ∃ m, f = m + 1 := ⟨f - 1, by omega⟩
    have hlt : pos < s.size := by omega
    have hll : pos < s.data.toList.length := by rw [sz]; exact hlt
    have hmem : s.data.toList[pos]'hll ∈ s.data.toList := List.getElem_mem hll
    have hc := hok _ hmem
    have hsp : s[pos]'hlt = s.data.toList[pos]'hll := rfl
    have h128 : (s[pos]'hlt).toNat < 128 := by
      rw [hsp]
      unfold okc at hc
      simp only [Bool.or_eq_true, Bool.and_eq_true, decide_eq_true_eq] at hc
      omega
    rw [escFrom_step hlt, decode_ascii s pos hlt h128, List.drop_eq_getElem_cons hll, esc1]
    simp only
    rw [hsp, dots_ok _ pos hc (by
      by_cases hp0 : pos = 0
      · right
        subst hp0
        exact h0 _ (by rw [List.head?_eq_getElem?, List.getElem?_eq_getElem hll])
      · left; omega), esc_list s hok h0 d (pos + 1) f (by omega) (by omega)]
theorem esc1_len : ∀ (n : List UInt8), (esc1 n).length ≤ 5 * n.length
  | [] => Nat.le_refl _
  | c :: r => by
    have := esc1_len r
    unfold esc1
    rw [List.length_append, List.length_cons]
    split
    · simp; omega
    · split
      · simp; omega
      · simp; omega
theorem mid1_len : ∀ (n : List UInt8), (mid1 n).length ≤ 2 * n.length
  | [] => Nat.le_refl _
  | c :: r => by
    have := mid1_len r
    unfold mid1
    rw [List.length_append, List.length_cons]
    split
    · simp; omega
    · simp; omega
theorem esc1_ne {c : UInt8} {r : List UInt8} : esc1 (c :: r) ≠ [] := by
  unfold esc1
  split
  · simp
  · split <;> simp
/-- There and back. -/
theorem dots_back (l : List UInt8) (hne : l ≠ []) (hl : l.length ≤ 100000) (hok : ∀ c ∈ l, okc c = true) (h0 : ∀ c, l.head? = some c → 97 ≤ c.toNat) (hn : NoDot l) :
    ∃ t, impl_Escape.f ⟨l.toArray⟩ 2 = some t ∧ impl_Unescape.f t 2 = some ⟨l.toArray⟩ := by
  have hz : (⟨l.toArray⟩ : ByteArray).size = l.length := by show l.toArray.size = _; simp
  have hlen : 1 ≤ l.length := List.length_pos_iff.2 hne
  have hE := esc1_len l
  have hM := mid1_len l
  have hEne : 1 ≤ (esc1 l).length := by
    cases l with
    | nil => exact absurd rfl hne
    | cons c r => exact List.length_pos_iff.2 esc1_ne
  refine ⟨⟨(esc1 l).toArray⟩, ?_, ?_⟩
  · unfold impl_Escape.f
    rw [if_pos ⟨rfl, by rw [hz]; omega, by rw [hz]; omega⟩]
    have := esc_list ⟨l.toArray⟩ hok h0 l.length 0 (l.length) (by rw [hz]; omega)
    have e : escFrom dotsP ⟨l.toArray⟩ (⟨l.toArray⟩ : ByteArray).size 0 = esc1 l := by
      have h1 := esc_list ⟨l.toArray⟩ hok h0 l.length 0 (l.length + 1) (by rw [hz]; omega) (by omega)
      rw [hz]
      have h2 : ∀ (f pos : Nat), (⟨l.toArray⟩ : ByteArray).size ≤ pos + f → escFrom dotsP ⟨l.toArray⟩ (f + 1) pos = escFrom dotsP ⟨l.toArray⟩ f pos := by
        intro f
        induction f with
        | zero => intro pos hp; rw [escFrom_end _ _ _ _ (by omega), escFrom_end _ _ _ _ (by omega)]
        | succ f ih =>
          intro pos hp
          by_cases hlt : pos < (⟨l.toArray⟩ : ByteArray).size
          · rw [escFrom_step hlt, escFrom_step hlt, ih _ (by have := Lib.decode_width_pos _ _ hlt; omega)]
          · rw [escFrom_end _ _ _ _ hlt, escFrom_end _ _ _ _ hlt]
      rw [← h2 l.length 0 (by rw [hz]; omega), h1]
      rfl
    rw [e]
  · have hz2 : (⟨(esc1 l).toArray⟩ : ByteArray).size = (esc1 l).length := by show (esc1 l).toArray.size = _; simp
    have e1 : repS ⟨#[95, 100, 111, 116, 95]⟩ ⟨#[46]⟩ ⟨(esc1 l).toArray⟩ = ⟨(mid1 l).toArray⟩ := by
      unfold repS
      rw [hz2]
      show (⟨(repL [95, 100, 111, 116, 95] [46] _ (esc1 l)).toArray⟩ : ByteArray) = _
      rw [first_back l _ (Nat.lt_succ_self _) hn]
    have hz3 : (⟨(mid1 l).toArray⟩ : ByteArray).size = (mid1 l).length := by show (mid1 l).toArray.size = _; simp
    have e2 : repS ⟨#[95, 95]⟩ ⟨#[95]⟩ ⟨(mid1 l).toArray⟩ = ⟨l.toArray⟩ := by
      unfold repS
      rw [hz3]
      show (⟨(repL [95, 95] [95] _ (mid1 l)).toArray⟩ : ByteArray) = _
      rw [second_back l _ (Nat.lt_succ_self _)]
    unfold impl_Unescape.f
    rw [e1, if_pos ⟨rfl, by rw [hz2]; omega, by rw [hz2]; omega, by rw [hz3]; omega⟩, e2]
def setC : List UInt8 := [97, 98, 99, 100, 101, 102, 103, 104, 105, 106, 107, 108, 109, 110, 111, 112, 113, 114, 115, 116, 117, 118, 119, 120, 121, 122, 65, 66, 67, 68, 69, 70, 71, 72, 73, 74, 75, 76, 77, 78, 79, 80, 81, 82, 83, 84, 85, 86, 87, 88, 89, 90, 48, 49, 50, 51, 52, 53, 54, 55, 56, 57, 46, 95]
theorem set_cut : ∀ i < 64, (⟨#[97, 98, 99, 100, 101, 102, 103, 104, 105, 106, 107, 108, 109, 110, 111, 112, 113, 114, 115, 116, 117, 118, 119, 120, 121, 122, 65, 66, 67, 68, 69, 70, 71, 72, 73, 74, 75, 76, 77, 78, 79, 80, 81, 82, 83, 84, 85, 86, 87, 88, 89, 90, 48, 49, 50, 51, 52, 53, 54, 55, 56, 57, 46, 95]⟩ : ByteArray).extract i (i + 1) = ⟨#[setC.getD i 0]⟩ := by decide +kernel
theorem set_ok : ∀ i < 64, okc (setC.getD i 0) = true := by decide +kernel
def nameOf (b : List UInt8) : List UInt8 := 97 :: b.map fun c => setC.getD (c.toNat % 64) 0
theorem name_ok (b : List UInt8) : ∀ c ∈ nameOf b, okc c = true := by
  intro c hc
  unfold nameOf at hc
  rcases List.mem_cons.1 hc with rfl | hc
  · decide
  · obtain ⟨x, _, rfl⟩ := List.mem_map.1 hc
    exact set_ok _ (Nat.mod_lt _ (by omega))
theorem law_end (n : List UInt8) (hne : n ≠ []) (hl : n.length ≤ 100000) (hok : ∀ c ∈ n, okc c = true) (h0 : ∀ c, n.head? = some c → 97 ≤ c.toNat) {i : Nat} (hx : ∀ x, x < i → List.isPrefixOf [95, 100, 111, 116] (n.drop x) = false) (hfit : ¬ i + 4 ≤ n.length) :
    ((impl_Escape.f ⟨n.toArray⟩ 2).bind fun t140 => ((impl_Unescape.f t140 2).bind fun t141 => (some (t141.toList == (⟨n.toArray⟩ : ByteArray).toList)))) = some true := by
  have hn : NoDot n := by
    intro x
    by_cases hxi : x < i
    · exact hx x hxi
    · exact pre_short _ _ (by rw [List.length_drop]; simp; omega)
  obtain ⟨t, e1, e2⟩ := dots_back n hne hl hok h0 hn
  rw [e1]
  simp only [Option.bind_some]
  rw [e2]
  simp
theorem law_l1 (n : List UInt8) (hne : n ≠ []) (hl : n.length ≤ 100000) (hok : ∀ c ∈ n, okc c = true) (h0 : ∀ c, n.head? = some c → 97 ≤ c.toNat) (d : Nat) : ∀ (i k : Nat), i + d = n.length → d + 1 < k → (∀ x, x < i → List.isPrefixOf [95, 100, 111, 116] (n.drop x) = false) →
    laws_FnDotted.l1 k ⟨n.toArray⟩ (i : Int) = some true := by
  induction d with
  | zero =>
    intro i k hi hk hx
    obtain ⟨k, rfl⟩ : ∃ m, k = m + 1 := ⟨k - 1, by omega⟩
    have hz : (⟨n.toArray⟩ : ByteArray).size = n.length := by show n.toArray.size = _; simp
    have hw : wrap64 ((i : Int) + 4) = ((i + 4 : Nat) : Int) := by rw [wz _ (by omega) (by omega)]; omega
    simp only [laws_FnDotted.l1]
    rw [hw, hz, if_neg (by omega)]
    exact law_end n hne hl hok h0 hx (by omega)
  | succ d ih =>
    intro i k hi hk hx
    obtain ⟨k, rfl⟩ : ∃ m, k = m + 1 := ⟨k - 1, by omega⟩
    have hz : (⟨n.toArray⟩ : ByteArray).size = n.length := by show n.toArray.size = _; simp
    have hw : wrap64 ((i : Int) + 4) = ((i + 4 : Nat) : Int) := by rw [wz _ (by omega) (by omega)]; omega
    simp only [laws_FnDotted.l1]
    rw [hw, hz]
    by_cases hfit : i + 4 ≤ n.length
    · rw [if_pos (by omega), if_pos (by omega), if_pos (by omega), Int.toNat_natCast, Int.toNat_natCast, ext_mid]
      show (if (n.drop i).take 4 = _ then _ else _) = _
      by_cases hm : (n.drop i).take 4 = [95, 100, 111, 116]
      · rw [if_pos hm]
      · rw [if_neg hm, wz _ (by omega) (by omega)]
        refine ih (i + 1) k (by omega) (by omega) (fun x hx' => ?_)
        by_cases hxi : x < i
        · exact hx x hxi
        · obtain rfl : x = i := by omega
          cases hb : List.isPrefixOf [95, 100, 111, 116] (n.drop x) with
          | false => rfl
          | true => exact absurd ((pre_iff _ _ (by rw [List.length_drop]; simp; omega)).1 hb) hm
    · rw [if_neg (by omega)]
      exact law_end n hne hl hok h0 hx (by omega)
theorem law_l0 (a : ByteArray) (ha : a.size ≤ 3000) (d : Nat) : ∀ (i k : Nat), i + d = a.size → 8000 + d < k → laws_FnDotted.l0 k a ⟨(nameOf (a.data.toList.take i)).toArray⟩ (i : Int) = some true := by
  induction d with
  | zero =>
    intro i k hi hk
    obtain ⟨k, rfl⟩ : ∃ m, k = m + 1 := ⟨k - 1, by omega⟩
    have hl : (nameOf (a.data.toList.take i)).length = i + 1 := by unfold nameOf; rw [List.length_cons, List.length_map, List.length_take, sz]; omega
    simp only [laws_FnDotted.l0]
    rw [if_neg (by omega)]
    exact law_l1 _ (by unfold nameOf; simp) (by omega) (name_ok _) (fun c hc => by unfold nameOf at hc; simp at hc; subst hc; decide) (i + 1) 0 k (by omega) (by omega) (fun x hx => by omega)
  | succ d ih =>
    intro i k hi hk
    obtain ⟨k, rfl⟩ : ∃ m, k = m + 1 := ⟨k - 1, by omega⟩
    have hll : i < a.data.toList.length := by rw [sz]; omega
    have hb : bt a (i : Int) = ((a.data.toList[i]'hll).toNat : Int) := by
      unfold bt
      rw [dif_pos (by rw [Int.toNat_natCast]; omega)]
      simp only [Int.toNat_natCast]
      rfl
    have hb256 := (a.data.toList[i]'hll).toNat_lt
    have hm : Int.tmod (wrap64 (((a.data.toList[i]'hll).toNat : Nat) : Int)) 64 = (((a.data.toList[i]'hll).toNat % 64 : Nat) : Int) := by
      rw [wz _ (by omega) (by omega), Int.tmod_eq_emod_of_nonneg (by omega)]
      omega
    have hi64 : (a.data.toList[i]'hll).toNat % 64 < 64 := Nat.mod_lt _ (by omega)
    have hl : (nameOf (a.data.toList.take i)).length = i + 1 := by unfold nameOf; rw [List.length_cons, List.length_map, List.length_take, sz]; omega
    simp only [laws_FnDotted.l0]
    rw [if_pos (by omega), if_pos (by omega), hb, hm]
    obtain ⟨q, hq⟩ : ∃ q, (a.data.toList[i]'hll).toNat % 64 = q := ⟨_, rfl⟩
    rw [hq] at hi64 ⊢
    clear hb hm hb256
    have HQ := Aside0.mk hq
    have HL := Aside0.mk hll
    clear hq
    have hw : wrap64 ((q : Int) + 1) = ((q + 1 : Nat) : Int) := by rw [wz _ (by omega) (by omega)]; omega
    rw [if_pos (show (0 : Int) ≤ (q : Int) from Int.natCast_nonneg q), hw, if_pos (show (q : Int) ≤ ((q + 1 : Nat) : Int) by omega), if_pos (show ((q + 1 : Nat) : Int) ≤ 64 by omega), Int.toNat_natCast, Int.toNat_natCast, set_cut q hi64]
    have hn : (⟨(nameOf (a.data.toList.take i)).toArray⟩ : ByteArray) ++ ⟨#[setC.getD q 0]⟩ = ⟨(nameOf (a.data.toList.take (i + 1))).toArray⟩ := by
      have e := Go.ByteArray.mk_append_mk (nameOf (a.data.toList.take i)) [setC.getD q 0]
      rw [e]
      unfold nameOf
      rw [List.take_succ_eq_append_getElem hll, List.map_append, ← HQ.out]
      rfl
    rw [hn, if_pos (by show (nameOf (a.data.toList.take i)).toArray.size + 1 ≤ _; rw [List.size_toArray, hl]; omega), wz _ (by omega) (by omega)]
    exact ih (i + 1) k (by omega) (by omega)
theorem law_all (a : ByteArray) (k : Nat) (hk : 12000 ≤ k) : laws_FnDotted.f k a = some true := by
  unfold laws_FnDotted.f
  by_cases h1 : (a.size : Int) > 2147483647
  · rw [if_pos h1]
  rw [if_neg h1]
  obtain ⟨t, e1, e2⟩ := dots_back [97, 46, 98] (by simp) (by simp) (by decide) (by intro c hc; simp at hc; subst hc; decide) (by
    intro x
    match x with
    | 0 => decide
    | 1 => decide
    | 2 => decide
    | x + 3 => exact pre_short _ _ (by rw [List.length_drop]; simp))
  have e1' : impl_Escape.f (⟨#[97, 46, 98]⟩ : ByteArray) 2 = some t := e1
  rw [e1']
  simp only [Option.bind_some]
  rw [e2]
  simp only [Option.bind_some]
  rw [if_pos (by rw [Lib.toList_data])]
  by_cases h2 : (a.size : Int) > 3000
  · rw [if_pos h2]
  rw [if_neg h2]
  have := law_l0 a (by omega) a.size 0 k (by omega) (by omega)
  exact this
theorem FnDotted : laws_FnDotted.Pure := fun a _ => ⟨12000, law_all a 12000 (Nat.le_refl _)⟩
end Go.Proofs.YtnjghpoeokfekaaDoor.Pure
