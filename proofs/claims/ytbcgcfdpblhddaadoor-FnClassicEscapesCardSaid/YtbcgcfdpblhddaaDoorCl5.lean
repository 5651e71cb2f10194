/- The old reader takes back what is printed: one matcher, a list. -/
import Derived.Test.YtbcgcfdpblhddaaDoorCl4
namespace Go.Proofs.YtbcgcfdpblhddaaDoor.Cl
open Go.Lib
set_option linter.unusedVariables false
set_option linter.unusedSimpArgs false
theorem decodeN_cut {n n' b0 b1 b2 b3 c1 c2 c3 : Nat} (hn : 1 ≤ n) (hnn : n ≤ n') (hw : (Lib.decodeN n' b0 b1 b2 b3).2 ≤ n) (h1 : 1 < n → c1 = b1) (h2 : 2 < n → c2 = b2) (h3 : 3 < n → c3 = b3) :
    Lib.decodeN n b0 c1 c2 c3 = Lib.decodeN n' b0 b1 b2 b3 := by
  unfold Lib.decodeN at hw ⊢
  by_cases k1 : 1 < n
  · obtain rfl := h1 k1
    by_cases k2 : 2 < n
    · obtain rfl := h2 k2
      by_cases k3 : 3 < n
      · obtain rfl := h3 k3
        have e1 : 1 < n' := by omega
        have e2 : 2 < n' := by omega
        have e3 : 3 < n' := by omega
        simp only [k1, k2, k3, e1, e2, e3, true_and]
      · have e1 : 1 < n' := by omega
        have e2 : 2 < n' := by omega
        simp only [k1, k2, k3, e1, e2, true_and, false_and, and_false, if_false] at hw ⊢
        grind
    · have e1 : 1 < n' := by omega
      simp only [k1, k2, e1, true_and, false_and, and_false, if_false] at hw ⊢
      grind
  · simp only [k1, false_and, and_false, if_false] at hw ⊢
    grind
theorem decodeN_grow {n n' b0 b1 b2 b3 c1 c2 c3 : Nat} (hnn : n ≤ n') (h1 : 1 < n → c1 = b1) (h2 : 2 < n → c2 = b2) (h3 : 3 < n → c3 = b3) (hv : ¬ Lib.decodeN n b0 b1 b2 b3 = (65533, 1)) : Lib.decodeN n' b0 c1 c2 c3 = Lib.decodeN n b0 b1 b2 b3 := by
  unfold Lib.decodeN at hv ⊢
  by_cases k0 : b0 < 128
  · simp only [k0, if_true]
  simp only [k0, if_false] at hv ⊢
  by_cases k1 : b0 / 32 = 6 ∧ (1 < n ∧ b1 / 64 = 2)
  · obtain rfl := h1 k1.2.1
    have e1 : 1 < n' := by omega
    simp only [k1, e1, and_self, true_and, if_true]
  simp only [k1, if_false] at hv ⊢
  by_cases k2 : b0 / 16 = 14 ∧ (1 < n ∧ b1 / 64 = 2) ∧ (2 < n ∧ b2 / 64 = 2)
  · obtain rfl := h1 k2.2.1.1
    obtain rfl := h2 k2.2.2.1
    have e1 : 1 < n' := by omega
    have e2 : 2 < n' := by omega
    have e3 : ¬ b0 / 32 = 6 := by omega
    simp only [k2, e1, e2, e3, and_self, true_and, false_and, if_true, if_false]
  simp only [k2, if_false] at hv ⊢
  by_cases k3 : b0 / 8 = 30 ∧ (1 < n ∧ b1 / 64 = 2) ∧ (2 < n ∧ b2 / 64 = 2) ∧ (3 < n ∧ b3 / 64 = 2)
  · obtain rfl := h1 k3.2.1.1
    obtain rfl := h2 k3.2.2.1.1
    obtain rfl := h3 k3.2.2.2.1
    have e1 : 1 < n' := by omega
    have e2 : 2 < n' := by omega
    have e4 : 3 < n' := by omega
    have e3 : ¬ b0 / 32 = 6 := by omega
    have e5 : ¬ b0 / 16 = 14 := by omega
    simp only [k3, e1, e2, e3, e4, e5, and_self, true_and, false_and, if_true, if_false]
  simp only [k3, if_false] at hv
  exact absurd trivial hv
theorem decodeL_grow {l o : List UInt8} (hne : l ≠ []) (hv : ¬ ((Lib.decodeL l).1 = 65533 ∧ (Lib.decodeL l).2 = 1)) : Lib.decodeL (l ++ o) = Lib.decodeL l := by
  have h0 : 0 < l.length := List.length_pos_iff.2 hne
  have g : ∀ j, j < l.length → ((l ++ o).getD j 0).toNat = (l.getD j 0).toNat := by
    intro j hj
    rw [List.getD_eq_getElem?_getD, List.getD_eq_getElem?_getD, List.getElem?_append_left hj]
  rw [Lib.decodeL_N] at hv
  rw [Lib.decodeL_N, Lib.decodeL_N, g 0 h0, List.length_append]
  exact decodeN_grow (by omega) (fun h => g 1 h) (fun h => g 2 h) (fun h => g 3 h) (fun h => hv (by rw [h]; exact ⟨rfl, rfl⟩))
theorem decodeL_take {l : List UInt8} (hne : l ≠ []) (hv : ¬ ((Lib.decodeL l).1 = 65533 ∧ (Lib.decodeL l).2 = 1)) : Lib.decodeL (l.take (Lib.decodeL l).2) = Lib.decodeL l := by
  have h0 : 0 < l.length := List.length_pos_iff.2 hne
  obtain ⟨n, hn⟩ : ∃ n, (Lib.decodeL l).2 = n := ⟨_, rfl⟩
  have h1 : 1 ≤ n := by have := Lib.decodeL_width l; omega
  have h2 : n ≤ l.length := by have := Lib.decodeL_le l hne; omega
  rw [hn]
  have hl : (l.take n).length = n := by rw [List.length_take]; omega
  have g : ∀ j, j < n → ((l.take n).getD j 0).toNat = (l.getD j 0).toNat := by
    intro j hj
    rw [List.getD_eq_getElem?_getD, List.getD_eq_getElem?_getD, List.getElem?_take, if_pos hj]
  rw [Lib.decodeL_N] at hn
  rw [Lib.decodeL_N, Lib.decodeL_N, hl, g 0 (by omega)]
  exact decodeN_cut h1 h2 (by omega) (fun h => g 1 h) (fun h => g 2 h) (fun h => g 3 h)
theorem valid_app {l o : List UInt8} (hne : l ≠ []) (hv : ¬ ((Lib.decodeL l).1 = 65533 ∧ (Lib.decodeL l).2 = 1)) (ho : Lib.validD o = true) : Lib.validD (l.take (Lib.decodeL l).2 ++ o) = true := by
  have h0 : 0 < l.length := List.length_pos_iff.2 hne
  have h1 := Lib.decodeL_width l
  have ht := decodeL_take hne hv
  have hne2 : l.take (Lib.decodeL l).2 ≠ [] := by
    intro h
    have := congrArg List.length h
    rw [List.length_take] at this
    simp only [List.length_nil] at this
    omega
  have hg := decodeL_grow (o := o) hne2 (by rw [ht]; exact hv)
  rw [ht] at hg
  rw [Lib.validD_step _ (by simp [hne2]), hg, if_neg hv]
  have h2 := Lib.decodeL_le l hne
  rw [List.drop_append_of_le_length (by rw [List.length_take]; omega), List.drop_of_length_le (by rw [List.length_take]; omega)]
  exact ho
theorem valid_eb : ∀ (n : Nat) (v : List UInt8), v.length ≤ n → validD v = true → ∀ o, validD (ebB v ++ o) = validD o := by
  intro n
  induction n with
  | zero =>
    intro v h hv o
    obtain rfl := List.eq_nil_of_length_eq_zero (show v.length = 0 by omega)
    rfl
  | succ n ih =>
    intro v h hv o
    by_cases hne : v = []
    · subst hne; rfl
    · obtain ⟨g1, g2, g3, g4, g5⟩ := rune_head hne hv
      have hb : ¬ ((decodeL v).1 = 65533 ∧ (decodeL v).2 = 1) := fun e => by
        rw [validD_step _ hne, if_pos e] at hv
        cases hv
      rcases g5 with ⟨k1, k2, c, r, rfl, k4⟩ | ⟨k1, k2⟩
      · have hr : validD r = true := by rw [k2] at g2; exact g2
        simp only [List.length_cons] at h
        have hc : c.toNat < 128 := by omega
        rw [ebB, List.append_assoc]
        unfold eb1
        by_cases h1 : c = 92
        · rw [if_pos h1]
          show validD (92 :: 92 :: (ebB r ++ o)) = _
          rw [valid_ascii (by decide), valid_ascii (by decide), ih r (by omega) hr]
        · rw [if_neg h1]
          by_cases h2 : c = 10
          · rw [if_pos h2]
            show validD (92 :: 110 :: (ebB r ++ o)) = _
            rw [valid_ascii (by decide), valid_ascii (by decide), ih r (by omega) hr]
          · rw [if_neg h2]
            by_cases h3 : c = 34
            · rw [if_pos h3]
              show validD (92 :: 34 :: (ebB r ++ o)) = _
              rw [valid_ascii (by decide), valid_ascii (by decide), ih r (by omega) hr]
            · rw [if_neg h3]
              show validD (c :: (ebB r ++ o)) = _
              rw [valid_ascii hc, ih r (by omega) hr]
      · have e : ebB v = v.take (decodeL v).2 ++ ebB (v.drop (decodeL v).2) := by
          conv => lhs; rw [← List.take_append_drop (decodeL v).2 v]
          rw [eb_app, eb_high _ k2]
        have hl : (v.drop (decodeL v).2).length ≤ n := by rw [List.length_drop]; omega
        have ht := decodeL_take hne hb
        have hne2 : v.take (decodeL v).2 ≠ [] := by
          intro h
          have := congrArg List.length h
          rw [List.length_take] at this
          simp only [List.length_nil] at this
          omega
        have hg := decodeL_grow (o := ebB (v.drop (decodeL v).2) ++ o) hne2 (by rw [ht]; exact hb)
        rw [ht] at hg
        rw [e, List.append_assoc, validD_step _ (by simp [hne2]), hg, if_neg hb, List.drop_append_of_le_length (by rw [List.length_take]; omega), List.drop_of_length_le (by rw [List.length_take]; omega)]
        exact ih _ hl g2 o
theorem vl_print {v : List UInt8} (hv : validD v = true) : vlB (34 :: (ebB v ++ [34])) = some v := by
  show (if validD (ebB v ++ [34]) = true then (cvB (ebB v ++ [34]) false true).bind fun q => if q.2 = true then none else some q.1 else none) = _
  rw [valid_eb _ v (Nat.le_refl _) hv, if_pos (by decide), cv_quoted _ _ (Nat.le_refl _) (st_eb v), es_eb]
  rfl
theorem cm_print {t : Nat} (ht : t < 2) {n v : List UInt8} (hn : Old n) (hv : validD v = true) : cmB (prB t n v) = some (t, n, v) := by
  unfold cmB
  rw [pt_print ht hn, Option.bind_some, vl_print hv]
  rfl
/-- A list of matchers as it is printed, without braces. -/
def jnB : List (Nat × List UInt8 × List UInt8) → List UInt8
  | [] => []
  | [m] => prB m.1 m.2.1 m.2.2
  | m :: m2 :: r => prB m.1 m.2.1 m.2.2 ++ (44 :: jnB (m2 :: r))
theorem sp_print {t : Nat} {n : List UInt8} (hn : Old n) (v o tok : List UInt8) : spB (prB t n v ++ o) false false tok = spB o false false (tok ++ prB t n v) := by
  unfold prB
  have h1 : ∀ x ∈ n, x ≠ 44 ∧ x ≠ 34 ∧ x ≠ 92 := fun x hx => ⟨(hn.ne x hx).1, (hn.ne x hx).2.1, (hn.ne x hx).2.2.1⟩
  have h2 : ∀ x ∈ opL t, x ≠ 44 ∧ x ≠ 34 ∧ x ≠ 92 := by unfold opL; split <;> decide
  rw [List.append_assoc, List.append_assoc, sp_word _ n _ h1, sp_word _ (opL t) _ h2]
  show spB (34 :: (ebB v ++ [34] ++ o)) false false _ = _
  have hq : ∀ (q : Bool) (o tok : List UInt8), spB (34 :: o) q false tok = spB o (!q) false (tok ++ [34]) := by
    intro q o tok
    rw [spB, if_neg (by decide), if_pos rfl, if_neg (by simp)]
  rw [hq, List.append_assoc, Bool.not_false, sp_eb, List.singleton_append, hq]
  simp [List.append_assoc]
theorem sp_join : ∀ (l : List (Nat × List UInt8 × List UInt8)), l ≠ [] → (∀ m ∈ l, Old m.2.1) → spB (jnB l) false false [] = l.map fun m => prB m.1 m.2.1 m.2.2
  | [], h, _ => absurd rfl h
  | [m], _, h => by
    have := sp_print (t := m.1) (h m (by simp)) m.2.2 [] []
    rw [List.append_nil] at this
    show spB (prB m.1 m.2.1 m.2.2) false false [] = _
    rw [this]
    rfl
  | m :: m2 :: r, _, h => by
    show spB (prB m.1 m.2.1 m.2.2 ++ (44 :: jnB (m2 :: r))) false false [] = _
    rw [sp_print (h m (by simp)), List.nil_append, spB, if_pos rfl, if_neg (by simp), sp_join (m2 :: r) (by simp) (fun x hx => h x (by simp only [List.mem_cons] at hx ⊢; exact .inr hx))]
    rfl
theorem seq_ends : ∀ q ∈ spaceSeqs, (∃ c r, q = c :: r ∧ (nmc true true c = false)) ∧ ∃ r c, q = r ++ [c] ∧ c ≠ 34 := by
  intro q hq
  simp only [spaceSeqs, List.mem_cons, List.not_mem_nil, or_false] at hq
  rcases hq with rfl | rfl | rfl | rfl | rfl | rfl | rfl | rfl | rfl | rfl | rfl | rfl | rfl | rfl | rfl | rfl | rfl | rfl | rfl | rfl | rfl | rfl | rfl | rfl | rfl <;>
    exact ⟨⟨_, _, rfl, by decide⟩, by first | exact ⟨[], _, rfl, by decide⟩ | exact ⟨[_], _, rfl, by decide⟩ | exact ⟨[_, _], _, rfl, by decide⟩⟩
theorem trim_print {t : Nat} {n : List UInt8} (hn : Old n) (v : List UInt8) : trimSpaceU (prB t n v) = prB t n v := by
  obtain ⟨c, r, rfl⟩ := List.exists_cons_of_ne_nil hn.1
  have hc : nmc true true c = true := by
    have h := hn.2
    unfold nmB at h
    by_cases hc : nmc true true c = true
    · exact hc
    · rw [if_neg hc] at h; cases h
  obtain ⟨x, hx⟩ : ∃ x, prB t (c :: r) v = c :: (x ++ [34]) := ⟨r ++ (opL t ++ (34 :: ebB v)), by unfold prB; simp⟩
  rw [hx]
  have hh : headSpace (c :: (x ++ [34])) = 0 := by
    unfold headSpace
    cases hf : spaceSeqs.find? (·.isPrefixOf (c :: (x ++ [34]))) with
    | none => rfl
    | some q =>
      obtain ⟨⟨d, s, rfl, hd⟩, _⟩ := seq_ends q (List.mem_of_find?_eq_some hf)
      have hp := List.find?_some hf
      obtain ⟨z, hz⟩ := List.isPrefixOf_iff_prefix.1 hp
      obtain rfl := (List.cons.inj hz).1
      rw [hc] at hd; cases hd
  have htl : tailSpace (c :: (x ++ [34])) = 0 := by
    unfold tailSpace
    cases hf : spaceSeqs.find? (·.isSuffixOf (c :: (x ++ [34]))) with
    | none => rfl
    | some q =>
      obtain ⟨_, s, d, rfl, hd⟩ := seq_ends q (List.mem_of_find?_eq_some hf)
      have hp := List.find?_some hf
      obtain ⟨z, hz⟩ := List.isSuffixOf_iff_suffix.1 hp
      rw [← List.append_assoc, ← List.cons_append] at hz
      exact absurd (by simpa using (List.append_inj' hz rfl).2) hd
  unfold trimSpaceU
  have e1 : stripL (c :: (x ++ [34])).length (c :: (x ++ [34])) = c :: (x ++ [34]) := by
    show stripL ((x ++ [34]).length + 1) _ = _
    unfold stripL
    rw [hh, if_pos rfl]
  rw [e1]
  show stripR ((x ++ [34]).length + 1) _ = _
  unfold stripR
  rw [htl, if_pos rfl]
theorem mapAll_all {α β : Type} {f : α → Option β} {g : α → β} : ∀ (l : List α), (∀ a ∈ l, f a = some (g a)) → mapAll f l = some (l.map g)
  | [], _ => rfl
  | a :: r, h => by
    rw [mapAll, h a (by simp), Option.bind_some, mapAll_all r (fun x hx => h x (by simp [hx]))]
    rfl
theorem mapAll_map {α β γ : Type} {f : β → Option γ} {g : α → β} : ∀ (l : List α), mapAll f (l.map g) = mapAll (fun a => f (g a)) l
  | [] => rfl
  | a :: r => by rw [List.map_cons, mapAll, mapAll, mapAll_map r]
theorem cs_print {l : List (Nat × List UInt8 × List UInt8)} (hne : l ≠ []) (hl : ∀ m ∈ l, m.1 < 2 ∧ Old m.2.1 ∧ validD m.2.2 = true) : csB (123 :: (jnB l ++ [125])) = some l := by
  have hu : unb (123 :: (jnB l ++ [125])) = jnB l := by
    show (if (jnB l ++ [125]).getLast? = some 125 then (jnB l ++ [125]).dropLast else jnB l ++ [125]) = jnB l
    rw [List.getLast?_concat, if_pos rfl, List.dropLast_concat]
  unfold csB
  rw [hu, sp_join l hne (fun m hm => (hl m hm).2.1)]
  rcases List.eq_nil_or_concat l with rfl | ⟨i, y, rfl⟩
  · exact absurd rfl hne
  · simp only [List.concat_eq_append] at hl ⊢
    obtain ⟨y1, y2, y3⟩ := hl y (by simp)
    have hp : prB y.1 y.2.1 y.2.2 ≠ [] := by unfold prB; obtain ⟨c, r, e⟩ := List.exists_cons_of_ne_nil y2.1; rw [e]; simp
    unfold tkB
    rw [List.map_append, List.map_singleton, List.getLast?_concat, List.dropLast_concat]
    dsimp only
    rw [trim_print y2, if_neg hp, ← List.map_singleton (f := fun m : Nat × List UInt8 × List UInt8 => prB m.1 m.2.1 m.2.2), ← List.map_append, mapAll_map, mapAll_all (g := id)]
    · simp
    · intro a ha
      obtain ⟨a1, a2, a3⟩ := hl a ha
      exact cm_print a1 a2 a3
end Go.Proofs.YtbcgcfdpblhddaaDoor.Cl
