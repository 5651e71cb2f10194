/- The text of a time of whole milliseconds is read back as that time: the plain law. -/
import Derived.Test.YtdookfmcphmlgaaDoorDurText
namespace Go.Proofs.YtdookfmcphmlgaaDoor.Door
open Go.RowKit Go.Shelf Go.Lib Go.Proofs.YtdookfmcphmlgaaDoor.Q Go.Proofs.YtdookfmcphmlgaaDoor.Pure Go.Proofs.YtdookfmcphmlgaaDoorW.PrintWords Go.Proofs.YtdookfmcphmlgaaDoorW.PrintLast
set_option linter.unusedVariables false
set_option linter.unusedSimpArgs false
theorem ofNat_toNat {k : Nat} (h : k < 10) : (UInt8.ofNat (48 + k)).toNat = 48 + k := by
  rw [UInt8.toNat_ofNat']
  omega
theorem dec_isdig (u : Nat) : ∀ c ∈ decDigits u, isdig c = true := by
  induction u using Nat.strongRecOn with
  | _ u ih =>
    rw [decDigits]
    split
    · intro c hc
      rw [List.mem_singleton] at hc
      subst hc
      unfold isdig
      rw [ofNat_toNat (by omega)]
      simp
      omega
    · intro c hc
      rcases List.mem_append.1 hc with hc | hc
      · exact ih _ (by omega) c hc
      · rw [List.mem_singleton] at hc
        subst hc
        unfold isdig
        rw [ofNat_toNat (by omega)]
        simp
        omega
theorem pm_dec (M : Nat) (hM : M ≤ 18446744073709551615) (u : Nat) : ∀ r, u ≤ M → parseUintM M 0 (decDigits u ++ r) = parseUintM M u r := by
  induction u using Nat.strongRecOn with
  | _ u ih =>
    intro r hu
    rw [decDigits]
    split
    · rename_i h
      rw [List.singleton_append, parseUintM, ofNat_toNat h, if_pos (by omega), if_neg (by omega), if_neg (by omega)]
      congr 1
      omega
    · rw [List.append_assoc, ih (u / 10) (by omega) _ (by omega), List.singleton_append, parseUintM, ofNat_toNat (by omega), if_pos (by omega), if_neg (by omega), if_neg (by omega)]
      congr 1
      omega
theorem dec_ne (u : Nat) : decDigits u ≠ [] := by
  rw [decDigits]
  split <;> simp
theorem parse_dec (u : Nat) (h : u ≤ 18446744073709551615) : parseUintB 64 (decDigits u) = .ok u := by
  unfold parseUintB
  rw [if_neg (dec_ne u)]
  have e := pm_dec (2 ^ 64 - 1) (by decide) u [] (by omega)
  rw [List.append_nil] at e
  rw [e]
  rfl
theorem dl_app : ∀ (d r : List UInt8), (∀ c ∈ d, isdig c = true) → (r = [] ∨ isdig (r.getD 0 0) = false) → dl (d ++ r) = d.length
  | [], r, _, hr => by
    rw [List.nil_append, List.length_nil]
    cases r with
    | nil => rfl
    | cons b r =>
      rcases hr with hr | hr
      · cases hr
      · have hb : isdig b = false := hr
        unfold dl
        rw [hb]
        rfl
  | c :: d, r, hd, hr => by
    rw [List.cons_append, dl, if_pos (hd c (List.mem_cons_self ..)), dl_app d r (fun x hx => hd x (List.mem_cons_of_mem _ hx)) hr, List.length_cons]
theorem nl_app : ∀ (d r : List UInt8), (∀ c ∈ d, isdig c = false) → (r = [] ∨ isdig (r.getD 0 0) = true) → nl (d ++ r) = d.length
  | [], r, _, hr => by
    rw [List.nil_append, List.length_nil]
    cases r with
    | nil => rfl
    | cons b r =>
      rcases hr with hr | hr
      · cases hr
      · have hb : isdig b = true := hr
        unfold nl
        rw [hb]
        rfl
  | c :: d, r, hd, hr => by
    rw [List.cons_append, nl, if_neg (by rw [hd c (List.mem_cons_self ..)]; simp), nl_app d r (fun x hx => hd x (List.mem_cons_of_mem _ hx)) hr, List.length_cons]
theorem step_piece {v d : Nat} {u r : List UInt8} {p m last : Int} (hv : v ≤ 18446744073709551615) (hu1 : 1 ≤ u.length) (hu2 : ∀ c ∈ u, isdig c = false) (hr : r = [] ∨ isdig (r.getD 0 0) = true)
    (hu : unitOf ⟨u.toArray⟩ = some (p, m)) (hp : last < p) (hm : 1 ≤ m) (h1 : (v : Int) ≤ 9223372036854775808 / m) (h2 : (d : Int) + v * m ≤ 9223372036854775807) :
    durStep (decDigits v ++ (u ++ r)) d last = some (r, d + v * m.toNat, p) := by
  have hdl : dl (decDigits v ++ (u ++ r)) = (decDigits v).length := dl_app _ _ (dec_isdig v) (by
    right
    cases u with
    | nil => simp at hu1
    | cons b u => exact hu2 b (List.mem_cons_self ..))
  have ht : (decDigits v ++ (u ++ r)).take (decDigits v).length = decDigits v := List.take_left
  have hdr : (decDigits v ++ (u ++ r)).drop (decDigits v).length = u ++ r := List.drop_left
  have hnl : nl (u ++ r) = u.length := nl_app u r hu2 hr
  have hi : isdig ((decDigits v ++ (u ++ r)).getD 0 0) = true := by
    cases hd : decDigits v with
    | nil => exact absurd hd (dec_ne v)
    | cons b t => exact dec_isdig v b (by rw [hd]; exact List.mem_cons_self ..)
  rw [step_rest hi (by rw [hdl, ht]; exact parse_dec v hv) (by rw [hdl, List.length_append, List.length_append]; omega) (p := p) (m := m) (by rw [hdl, hdr, hnl, List.take_left]; exact hu)]
  rw [if_neg (by omega), if_neg (by omega), if_neg (by omega), hdl, hdr, hnl, List.drop_left]
/-- The text as a list of pieces; and what is left behind them. -/
def pieces : List (List UInt8 × Int × Bool) → Int → List UInt8
  | [], _ => []
  | (u, m, ex) :: r, x => if ex = true ∧ ¬ x % m = 0 then pieces r x else if 0 < x / m then itoa (x / m) ++ (u ++ pieces r (x - x / m * m)) else pieces r x
def leftOf : List (List UInt8 × Int × Bool) → Int → Int
  | [], x => x
  | (u, m, ex) :: r, x => if ex = true ∧ ¬ x % m = 0 then leftOf r x else if 0 < x / m then leftOf r (x - x / m * m) else leftOf r x
def goodUnits : List (List UInt8 × Int × Bool) → Int → Prop
  | [], _ => True
  | (u, m, ex) :: r, last => ∃ p, unitOf ⟨u.toArray⟩ = some (p, m * 1000000) ∧ last < p ∧ 1 ≤ m ∧ m ≤ 31536000000 ∧ 1 ≤ u.length ∧ (∀ c ∈ u, isdig c = false) ∧ goodUnits r p
theorem goodUnits.le : ∀ {us : List (List UInt8 × Int × Bool)} {a b : Int}, goodUnits us a → b ≤ a → goodUnits us b
  | [], _, _, _, _ => trivial
  | (u, m, ex) :: r, a, b, ⟨p, h1, h2, h3⟩, hb => ⟨p, h1, by omega, h3⟩
theorem pieces_head : ∀ (us : List (List UInt8 × Int × Bool)) (x : Int), 0 ≤ x → (pieces us x = [] ∨ isdig ((pieces us x).getD 0 0) = true)
  | [], _, _ => Or.inl rfl
  | (u, m, ex) :: r, x, hx => by
    unfold pieces
    split
    · exact pieces_head r x hx
    · split
      · rename_i h
        right
        obtain ⟨k, hk⟩ : ∃ k : Nat, x / m = k := ⟨(x / m).toNat, by omega⟩
        rw [hk, itoa_nonneg]
        cases hd : decDigits k with
        | nil => exact absurd hd (dec_ne k)
        | cons b t => exact dec_isdig k b (by rw [hd]; exact List.mem_cons_self ..)
      · exact pieces_head r x hx
theorem durGo_pieces : ∀ (us : List (List UInt8 × Int × Bool)) (x : Int) (f d : Nat) (last : Int), 0 ≤ x → goodUnits us last → (pieces us x).length < f → (d : Int) + x * 1000000 ≤ 9223372036854775807 →
    durGo f (pieces us x) d last = some (d + ((x - leftOf us x) * 1000000).toNat) ∧ 0 ≤ leftOf us x ∧ leftOf us x ≤ x
  | [], x, f, d, last, hx, _, hf, _ => by
    cases f with
    | zero => simp at hf
    | succ f =>
      refine ⟨?_, hx, Int.le_refl _⟩
      show durGo (f + 1) [] d last = _
      unfold durGo
      rw [if_pos rfl]
      unfold leftOf
      simp
  | (u, m, ex) :: r, x, f, d, last, hx, ⟨p, g1, g2, g3, g4, g5, g6, g7⟩, hf, hb => by
    unfold pieces at hf ⊢
    unfold leftOf
    by_cases h1 : ex = true ∧ ¬ x % m = 0
    · rw [if_pos h1] at hf
      rw [if_pos h1, if_pos h1]
      exact durGo_pieces r x f d last hx (g7.le (by omega)) hf hb
    · rw [if_neg h1] at hf
      rw [if_neg h1, if_neg h1]
      by_cases h2 : 0 < x / m
      · rw [if_pos h2] at hf
        rw [if_pos h2, if_pos h2]
        have e1 : x / m * m ≤ x := Int.ediv_mul_le _ (by omega)
        have e2 : 0 ≤ x / m * m := Int.mul_nonneg (by omega) (by omega)
        obtain ⟨k, hk⟩ : ∃ k : Nat, x / m = k := ⟨(x / m).toNat, by omega⟩
        have e3 : x / m ≤ x := Int.ediv_le_self m hx
        rw [hk, itoa_nonneg] at hf ⊢
        rw [hk] at e1 e2 e3
        cases f with
        | zero => simp at hf
        | succ f =>
          have hne : ¬ decDigits k ++ (u ++ pieces r (x - (k : Int) * m)) = [] := by
            intro h
            exact dec_ne k (List.append_eq_nil_iff.1 h).1
          obtain ⟨y, hy⟩ : ∃ y, (k : Int) * m = y := ⟨_, rfl⟩
          have e4 : (k : Int) * (m * 1000000) = y * 1000000 := by rw [← Int.mul_assoc, hy]
          have hst := step_piece (v := k) (d := d) (u := u) (r := pieces r (x - (k : Int) * m)) (last := last) (by omega) g5 g6 (pieces_head r _ (by omega)) g1 g2 (by omega)
            ((Int.le_ediv_iff_mul_le (by omega)).2 (by rw [e4]; omega)) (by rw [e4]; omega)
          have hn : ((d + k * (m * 1000000).toNat : Nat) : Int) = d + y * 1000000 := by rw [dur_nat (by omega), e4]
          have hlen := decDigits_length k
          have := nDigits_pos k
          obtain ⟨i1, i2, i3⟩ := durGo_pieces r (x - (k : Int) * m) f (d + k * (m * 1000000).toNat) p (by omega) g7 (by rw [List.length_append, List.length_append] at hf; omega) (by rw [hn, hy]; omega)
          refine ⟨?_, i2, by omega⟩
          unfold durGo
          rw [if_neg hne, hst]
          simp only
          rw [i1]
          congr 1
          rw [hy] at i2 i3 ⊢
          omega
      · rw [if_neg h2] at hf
        rw [if_neg h2, if_neg h2]
        exact durGo_pieces r x f d last hx (g7.le (by omega)) hf hb
def unitsL : List (List UInt8 × Int × Bool) := [([121], 31536000000, true), ([119], 604800000, true), ([100], 86400000, false), ([104], 3600000, false), ([109], 60000, false), ([115], 1000, false), ([109, 115], 1, false)]
theorem unitsL_good : goodUnits unitsL 0 := by
  unfold unitsL
  refine ⟨1, by decide +kernel, by decide, by decide, by decide, by decide, by decide, 2, by decide +kernel, by decide, by decide, by decide, by decide, by decide, 3, by decide +kernel, by decide, by decide, by decide, by decide, by decide, 4, by decide +kernel, by decide, by decide, by decide, by decide, by decide, 5, by decide +kernel, by decide, by decide, by decide, by decide, by decide, 6, by decide +kernel, by decide, by decide, by decide, by decide, by decide, 7, by decide +kernel, by decide, by decide, by decide, by decide, by decide, trivial⟩
theorem steps_pieces : ∀ (us : List (List UInt8 × Int × Bool)) (s : ByteArray) (x : Int), (durSteps (us.map fun t => (⟨t.1.toArray⟩, t.2)) (s, x)).1.data.toList = s.data.toList ++ pieces us x
  | [], s, x => by simp [durSteps, pieces]
  | (u, m, ex) :: r, s, x => by
    rw [List.map_cons]
    unfold durSteps pieces
    rw [steps_pieces r]
    unfold durStepB
    simp only
    split
    · rfl
    · split
      · simp [ByteArray.data_append, List.append_assoc]
      · rfl
theorem leftOf_last : ∀ (us : List (List UInt8 × Int × Bool)) (u : List UInt8) (x : Int), 0 ≤ x → (∀ t ∈ us, 1 ≤ t.2.1) → leftOf (us ++ [(u, 1, false)]) x = 0
  | [], u, x, hx, _ => by
    show leftOf [(u, 1, false)] x = 0
    rw [leftOf, if_neg (by simp)]
    split
    · rw [leftOf]; omega
    · rw [leftOf]; omega
  | (u', m, ex) :: r, u, x, hx, h => by
    have hm : 1 ≤ m := h _ (List.mem_cons_self ..)
    have hr : ∀ t ∈ r, 1 ≤ t.2.1 := fun t ht => h t (List.mem_cons_of_mem _ ht)
    rw [List.cons_append]
    unfold leftOf
    have e1 : x / m * m ≤ x := Int.ediv_mul_le _ (by omega)
    split
    · exact leftOf_last r u x hx hr
    · split
      · exact leftOf_last r u _ (by omega) hr
      · exact leftOf_last r u x hx hr
theorem dur_back (n : Int) (h0 : 0 ≤ n) (h1 : n ≤ 9223372036854775807) (hm : n % 1000000 = 0) : parseDur (durText n).data.toList = some n.toNat := by
  unfold durText
  by_cases hz : n / 1000000 = 0
  · rw [if_pos hz]
    have hn : n = 0 := by omega
    subst hn
    decide +kernel
  · rw [if_neg hz]
    have hu : durUnits = unitsL.map fun t => (⟨t.1.toArray⟩, t.2) := rfl
    rw [hu, steps_pieces]
    show parseDur (pieces unitsL (n / 1000000)) = _
    have hl : leftOf unitsL (n / 1000000) = 0 := leftOf_last [([121], 31536000000, true), ([119], 604800000, true), ([100], 86400000, false), ([104], 3600000, false), ([109], 60000, false), ([115], 1000, false)] [109, 115] _ (by omega) (by decide)
    obtain ⟨i1, _, _⟩ := durGo_pieces unitsL (n / 1000000) ((pieces unitsL (n / 1000000)).length + 1) 0 0 (by omega) unitsL_good (by omega) (by omega)
    rw [hl] at i1
    unfold parseDur
    by_cases h48 : pieces unitsL (n / 1000000) = [48]
    · rw [h48] at i1
      have : durGo (([48] : List UInt8).length + 1) [48] 0 0 = none := by decide +kernel
      rw [this] at i1
      cases i1
    rw [if_neg h48]
    by_cases hn : pieces unitsL (n / 1000000) = []
    · rw [hn] at i1
      have : durGo (([] : List UInt8).length + 1) [] 0 0 = some 0 := by decide +kernel
      rw [this] at i1
      injection i1 with i1
      omega
    rw [if_neg hn, i1]
    congr 1
    omega
end Go.Proofs.YtdookfmcphmlgaaDoor.Door
