/- The law FnClassicEscapes over plain texts. -/
import Derived.Test.YtbcgcfdpblhddaaDoorCw3
import Derived.Test.YtbcgcfdpblhddaaDoorLib
import Derived.Test.YtbcgcfdpblhddaaDoorQx24
import Derived.Test.YtbcgcfdpblhddaaDoorQx23
namespace Go.Proofs.YtbcgcfdpblhddaaDoor.Cl
open Go.RowKit Go.Lib Go.Proofs.YtbcgcfdpblhddaaDoor.Pure Go.Proofs.YtbcgcfdpblhddaaDoor.Q Go.Proofs.YtbcgcfdpblhddaaDoorW.PrintWords Go.Proofs.YtbcgcfdpblhddaaDoorW.PrintLast
set_option linter.unusedVariables false
set_option linter.unusedSimpArgs false
theorem cong2 {α β γ : Type} (f : α → β → γ) {a a2 : α} {b b2 : β} (h1 : a = a2) (h2 : b = b2) : f a b = f a2 b2 := by rw [h1, h2]
def setO : List UInt8 := [97, 98, 99, 100, 101, 102, 103, 104, 105, 106, 107, 108, 109, 110, 111, 112, 113, 114, 115, 116, 117, 118, 119, 120, 121, 122, 65, 66, 67, 68, 69, 70, 71, 72, 73, 74, 75, 76, 77, 78, 79, 80, 81, 82, 83, 84, 85, 86, 87, 88, 89, 90, 95, 48, 49, 50, 51, 52, 53, 54, 55, 56, 57]
theorem setO_cut : ∀ i < 63, (⟨#[97, 98, 99, 100, 101, 102, 103, 104, 105, 106, 107, 108, 109, 110, 111, 112, 113, 114, 115, 116, 117, 118, 119, 120, 121, 122, 65, 66, 67, 68, 69, 70, 71, 72, 73, 74, 75, 76, 77, 78, 79, 80, 81, 82, 83, 84, 85, 86, 87, 88, 89, 90, 95, 48, 49, 50, 51, 52, 53, 54, 55, 56, 57]⟩ : ByteArray).extract i (i + 1) = ⟨#[setO.getD i 0]⟩ := by decide +kernel
theorem setO_ok : ∀ i < 63, nmc false true (setO.getD i 0) = true ∧ nmc false false (setO.getD i 0) = true := by decide +kernel
def oldOf (b : List UInt8) : List UInt8 := 110 :: b.map fun c => setO.getD (c.toNat % 63) 0
theorem nm_of_all : ∀ (r : List UInt8), (∀ x ∈ r, nmc false true x = true) → nmB true false r = r
  | [], _ => rfl
  | c :: r, h => by rw [nmB, if_pos (h c (by simp)), nm_of_all r (fun x hx => h x (by simp [hx]))]
theorem oldOf_old (b : List UInt8) : Old (oldOf b) := by
  refine ⟨by unfold oldOf; simp, ?_⟩
  unfold oldOf
  rw [nmB, if_pos (by decide), nm_of_all]
  intro x hx
  obtain ⟨c, _, rfl⟩ := List.mem_map.1 hx
  exact (setO_ok _ (Nat.mod_lt _ (by omega))).1
theorem ba_app (a b : List UInt8) : ba a ++ ba b = ba (a ++ b) := Go.ByteArray.mk_append_mk a b
theorem ba_size (a : List UInt8) : (ba a).size = a.length := rfl
theorem old_ev (a : ByteArray) (ha : a.size ≤ 2147483647) : Ev (fun k => laws_oldName.f k a) (ba (oldOf a.data.toList)) := by
  have go : ∀ (d i : Nat), i + d = a.size → Ev (fun k => laws_oldName.l0 k a (ba (oldOf (a.data.toList.take i))) (i : Int)) (ba (oldOf a.data.toList)) := by
    intro d
    induction d with
    | zero =>
      intro i hi
      refine ev_succ (fun k => ?_)
      simp only [laws_oldName.l0]
      rw [if_neg (by omega), List.take_of_length_le (by rw [lsz]; omega)]
    | succ d ih =>
      intro i hi
      have hll : i < a.data.toList.length := by rw [lsz]; omega
      have hb : bt a (i : Int) = ((a.data.toList[i]'hll).toNat : Int) := (bt_c (List.drop_eq_getElem_cons hll)).2.1
      have hb256 := (a.data.toList[i]'hll).toNat_lt
      have hm : Int.tmod (wrap64 (((a.data.toList[i]'hll).toNat : Nat) : Int)) 63 = (((a.data.toList[i]'hll).toNat % 63 : Nat) : Int) := by
        rw [show wrap64 (((a.data.toList[i]'hll).toNat : Nat) : Int) = (((a.data.toList[i]'hll).toNat : Nat) : Int) by unfold wrap64; omega, Int.tmod_eq_emod_of_nonneg (by omega)]
        omega
      have hi63 : (a.data.toList[i]'hll).toNat % 63 < 63 := Nat.mod_lt _ (by omega)
      have hl : (oldOf (a.data.toList.take i)).length = i + 1 := by unfold oldOf; rw [List.length_cons, List.length_map, List.length_take, lsz]; omega
      refine Ev.step (fun k => ?_) (ih (i + 1) (by omega))
      simp only [laws_oldName.l0]
      rw [if_pos (by omega), if_pos (by omega), hb, hm]
      obtain ⟨q, hq⟩ : ∃ q, (a.data.toList[i]'hll).toNat % 63 = q := ⟨_, rfl⟩
      rw [hq] at hi63 ⊢
      clear hb hm hb256
      have HQ := Aside0.mk hq
      clear hq
      have hw := w1 (i := q) (by omega)
      rw [if_pos (show (0 : Int) ≤ (q : Int) from Int.natCast_nonneg q), hw, if_pos (show (q : Int) ≤ ((q + 1 : Nat) : Int) by omega), if_pos (show ((q + 1 : Nat) : Int) ≤ 63 by omega), Int.toNat_natCast, Int.toNat_natCast, setO_cut q hi63]
      have hn : ba (oldOf (a.data.toList.take i)) ++ ⟨#[setO.getD q 0]⟩ = ba (oldOf (a.data.toList.take (i + 1))) := by
        have e := ba_app (oldOf (a.data.toList.take i)) [setO.getD q 0]
        refine e.trans ?_
        unfold oldOf
        rw [List.take_succ_eq_append_getElem hll, List.map_append, ← HQ.out]
        rfl
      rw [hn, if_pos (by show (oldOf (a.data.toList.take i)).length + 1 ≤ _; rw [hl]; omega), w1 (by omega)]
  exact go a.size 0 (by omega)
/-- What a piece is written as, and what it stands for. -/
def pcS (d : Nat) : List UInt8 := if d = 0 then [92, 34] else if d = 1 then [92, 110] else if d = 2 then [92, 92] else if d = 3 then [92, 116] else if d = 4 then [97] else [195, 169, 44]
def pcW (d : Nat) : List UInt8 := if d = 0 then [34] else if d = 1 then [10] else if d = 2 then [92] else if d = 3 then [92, 116] else if d = 4 then [97] else [195, 169, 44]
def Good (S W : List UInt8) : Prop := ∀ o, esB (S ++ o) = (esB o).map (W ++ ·) ∧ stB (S ++ o) false = stB o false ∧ validD (S ++ o) = validD o
theorem Good.app {S W S2 W2 : List UInt8} (h : Good S W) (h2 : Good S2 W2) : Good (S ++ S2) (W ++ W2) := by
  intro o
  obtain ⟨a1, a2, a3⟩ := h (S2 ++ o)
  obtain ⟨b1, b2, b3⟩ := h2 o
  rw [List.append_assoc, a1, a2, a3, b1, b2, b3, Option.map_map]
  refine ⟨?_, rfl, rfl⟩
  congr 1
  funext x
  simp
theorem st_plain {c : UInt8} (h : c ≠ 92) (r : List UInt8) : stB (c :: r) false = stB r false := by rw [stB, if_neg h]
theorem two_valid (r : List UInt8) : validD (195 :: 169 :: r) = validD r := by
  have hd : decodeL (195 :: 169 :: r) = (233, 2) := by
    rw [decodeL_N]
    show decodeN (r.length + 1 + 1) 195 169 _ _ = _
    unfold decodeN
    rw [if_neg (by omega), if_pos (by omega)]
    rfl
  rw [validD_step _ (by simp), hd, if_neg (by decide)]
  rfl
theorem pc_good (d : Nat) : Good (pcS d) (pcW d) := by
  intro o
  unfold pcS pcW
  by_cases h0 : d = 0
  · simp only [h0, if_true]
    exact ⟨es_esc 34 o, st_esc 34 o, by show validD (92 :: 34 :: o) = _; rw [valid_ascii (by decide), valid_ascii (by decide)]⟩
  by_cases h1 : d = 1
  · simp only [h1, if_true]
    exact ⟨es_esc 110 o, st_esc 110 o, by show validD (92 :: 110 :: o) = _; rw [valid_ascii (by decide), valid_ascii (by decide)]⟩
  by_cases h2 : d = 2
  · simp only [h2, if_true]
    exact ⟨es_esc 92 o, st_esc 92 o, by show validD (92 :: 92 :: o) = _; rw [valid_ascii (by decide), valid_ascii (by decide)]⟩
  by_cases h3 : d = 3
  · simp only [h3, if_true]
    exact ⟨es_esc 116 o, st_esc 116 o, by show validD (92 :: 116 :: o) = _; rw [valid_ascii (by decide), valid_ascii (by decide)]⟩
  by_cases h4 : d = 4
  · simp only [h4, if_true]
    exact ⟨esB_plain (by decide) (by decide), st_plain (by decide) o, valid_ascii (by decide) o⟩
  · simp only [h0, h1, h2, h3, h4, if_false]
    refine ⟨?_, ?_, ?_⟩
    · show esB (195 :: 169 :: 44 :: o) = _
      rw [esB_plain (by decide) (by decide), esB_plain (by decide) (by decide), esB_plain (by decide) (by decide)]
      simp [Function.comp_def]
    · show stB (195 :: 169 :: 44 :: o) false = _
      rw [st_plain (by decide), st_plain (by decide), st_plain (by decide)]
    · show validD (195 :: 169 :: 44 :: o) = _
      rw [two_valid, valid_ascii (by decide)]
theorem good_read {n S W : List UInt8} (hn : Old n) (h : Good S W) : cmB (n ++ ([61, 34] ++ (S ++ [34]))) = some (0, n, W) := by
  have hb := pt_body (t := 0) (by omega) hn S
  have e : n ++ (opL 0 ++ (34 :: (S ++ [34]))) = n ++ ([61, 34] ++ (S ++ [34])) := rfl
  rw [e] at hb
  obtain ⟨a1, a2, a3⟩ := h []
  obtain ⟨_, _, b3⟩ := h [34]
  rw [List.append_nil] at a1 a2
  have hv : validD (S ++ [34]) = true := by rw [b3]; decide
  unfold cmB
  rw [hb, Option.bind_some]
  show (vlB (34 :: (S ++ [34]))).map _ = _
  have hvl : vlB (34 :: (S ++ [34])) = some W := by
    show (if validD (S ++ [34]) = true then (cvB (S ++ [34]) false true).bind fun q => if q.2 = true then none else some q.1 else none) = _
    rw [if_pos hv, cv_quoted _ _ (Nat.le_refl _) (by rw [a2]; rfl), a1]
    show ((some (W ++ [])).map _).bind _ = _
    rw [List.append_nil]
    rfl
  rw [hvl]
  rfl
theorem pc_len (d : Nat) : (pcS d).length ≤ 3 ∧ (pcW d).length ≤ 3 := by
  unfold pcS pcW
  by_cases h0 : d = 0
  · simp [h0]
  by_cases h1 : d = 1
  · simp [h1]
  by_cases h2 : d = 2
  · simp [h2]
  by_cases h3 : d = 3
  · simp [h3]
  by_cases h4 : d = 4
  · simp [h4]
  · simp [h0, h1, h2, h3, h4]
theorem esc_l0 (a : ByteArray) (ha : a.size ≤ 1000) (l : List Int) (hl : l.length ≤ 3000) (hb : ∀ y ∈ l, 0 ≤ y ∧ y ≤ 255) : ∀ (d i : Nat) (S W : List UInt8), i + d = l.length → Good S W → S.length ≤ 3 * i → W.length ≤ 3 * i →
    Ev (fun k => laws_FnClassicEscapes.l0 k a (ba S) (ba W) l (l.length : Int) (i : Int)) true := by
  intro d
  induction d with
  | zero =>
    intro i S W hi hg h1 h2
    have hold := old_ev a (by omega)
    have hnl : (oldOf a.data.toList).length = a.size + 1 := by unfold oldOf; rw [List.length_cons, List.length_map, lsz]
    have hrd := good_read (oldOf_old a.data.toList) hg
    obtain ⟨n, hn⟩ : ∃ n, oldOf a.data.toList = n := ⟨_, rfl⟩
    rw [hn] at hold hnl hrd
    have hq : (61 : UInt8) = 61 := rfl
    have e1 : ba n ++ (⟨#[61, 34]⟩ : ByteArray) = ba (n ++ [61, 34]) := ba_app n [61, 34]
    have e2 : ba (n ++ [61, 34]) ++ ba S = ba (n ++ [61, 34] ++ S) := ba_app _ _
    have e3 : ba (n ++ [61, 34] ++ S) ++ (⟨#[34]⟩ : ByteArray) = ba (n ++ ([61, 34] ++ (S ++ [34]))) := (ba_app (n ++ [61, 34] ++ S) [34]).trans (by congr 1; simp)
    have hco : impl_ClassicMatcher.f (ba (n ++ ([61, 34] ++ (S ++ [34])))) = some ((0 : Int), ba n, ba W, true) := by
      unfold impl_ClassicMatcher.f
      rw [if_pos (by rw [ba_size]; simp only [List.length_append, List.length_cons, List.length_nil]; omega)]
      unfold coF
      rw [ba_list, hrd]
      rfl
    refine Ev.step (f := fun k => (laws_oldName.f k a).bind fun t159 => (if t159.size + 2 ≤ 9223372036854775807 then (if (t159 ++ (⟨#[61, 34]⟩ : ByteArray)).size + (ba S).size ≤ 9223372036854775807 then (if ((t159 ++ (⟨#[61, 34]⟩ : ByteArray)) ++ ba S).size + 1 ≤ 9223372036854775807 then ((impl_ClassicMatcher.f (((t159 ++ (⟨#[61, 34]⟩ : ByteArray)) ++ ba S) ++ (⟨#[34]⟩ : ByteArray))).bind fun bt160 => (if bt160.2.2.2 = true then ((laws_oldName.f k a).bind fun t165 => (some (bt160.1 == 0 && (bt160.2.1.toList == t165.toList && (bt160.2.2.1.toList == (ba W).toList))))) else (some false))) else (none)) else (none)) else (none))) (fun k => ?_) (Ev.bind hold ?_)
    · simp only [laws_FnClassicEscapes.l0]
      rw [if_neg (by omega)]
    · rw [e1, e2, e3, hco]
      refine ev_ite_pos (by rw [ba_size]; omega) (ev_ite_pos (by rw [ba_size, ba_size]; simp only [List.length_append, List.length_cons, List.length_nil]; omega) (ev_ite_pos (by rw [ba_size]; simp only [List.length_append, List.length_cons, List.length_nil]; omega) (ev_bind_some (ev_ite_pos rfl (Ev.bind hold ?_)))))
      refine Ev.congr (fun k => ?_) (Ev.now true)
      simp
  | succ d ih =>
    intro i S W hi hg h1 h2
    have hil : i < l.length := by omega
    obtain ⟨y0, y1⟩ := hb (l[i]'hil) (List.getElem_mem hil)
    have hrd : rd l (i : Int) = l[i]'hil := by
      unfold rd
      rw [Int.toNat_natCast, List.getD_eq_getElem?_getD, List.getElem?_eq_getElem hil]
      rfl
    obtain ⟨y, hy⟩ : ∃ y, l[i]'hil = y := ⟨_, rfl⟩
    rw [hy] at y0 y1 hrd
    obtain ⟨e, he⟩ : ∃ e : Nat, y.toNat % 6 = e := ⟨_, rfl⟩
    have hm : Int.tmod y 6 = (e : Int) := by rw [Int.tmod_eq_emod_of_nonneg y0]; omega
    have he6 : e < 6 := by rw [← he]; exact Nat.mod_lt _ (by omega)
    have hstep := ih (i + 1) (S ++ pcS e) (W ++ pcW e) (by omega) (hg.app (pc_good e)) (by have := (pc_len e).1; rw [List.length_append]; omega) (by have := (pc_len e).2; rw [List.length_append]; omega)
    have HW := Aside0.mk (w1 (i := i) (by omega))
    clear he y0 y1 hy
    refine Ev.step (fun k => ?_) hstep
    simp only [laws_FnClassicEscapes.l0]
    rw [if_pos (by omega), if_pos (by omega), if_pos (by omega), hrd, hm, HW.out, ba_size, ba_size]
    rcases (show e = 0 ∨ e = 1 ∨ e = 2 ∨ e = 3 ∨ e = 4 ∨ e = 5 by omega) with rfl | rfl | rfl | rfl | rfl | rfl
    · rw [if_pos (by rfl), if_pos (by omega), if_pos (by omega)]
      exact cong2 (fun x z => laws_FnClassicEscapes.l0 k a x z l (l.length : Int) ((i + 1 : Nat) : Int)) (ba_app S [92, 34]) (ba_app W [34])
    · rw [if_neg (by decide), if_pos (by rfl), if_pos (by omega), if_pos (by omega)]
      exact cong2 (fun x z => laws_FnClassicEscapes.l0 k a x z l (l.length : Int) ((i + 1 : Nat) : Int)) (ba_app S [92, 110]) (ba_app W [10])
    · rw [if_neg (by decide), if_neg (by decide), if_pos (by rfl), if_pos (by omega), if_pos (by omega)]
      exact cong2 (fun x z => laws_FnClassicEscapes.l0 k a x z l (l.length : Int) ((i + 1 : Nat) : Int)) (ba_app S [92, 92]) (ba_app W [92])
    · rw [if_neg (by decide), if_neg (by decide), if_neg (by decide), if_pos (by rfl), if_pos (by omega), if_pos (by omega)]
      exact cong2 (fun x z => laws_FnClassicEscapes.l0 k a x z l (l.length : Int) ((i + 1 : Nat) : Int)) (ba_app S [92, 116]) (ba_app W [92, 116])
    · rw [if_neg (by decide), if_neg (by decide), if_neg (by decide), if_neg (by decide), if_pos (by rfl), if_pos (by omega), if_pos (by omega)]
      exact cong2 (fun x z => laws_FnClassicEscapes.l0 k a x z l (l.length : Int) ((i + 1 : Nat) : Int)) (ba_app S [97]) (ba_app W [97])
    · rw [if_neg (by decide), if_neg (by decide), if_neg (by decide), if_neg (by decide), if_neg (by decide), if_pos (by omega), if_pos (by omega)]
      exact cong2 (fun x z => laws_FnClassicEscapes.l0 k a x z l (l.length : Int) ((i + 1 : Nat) : Int)) (ba_app S [195, 169, 44]) (ba_app W [195, 169, 44])
theorem good_nil : Good [] [] := fun o => ⟨by cases h : esB o <;> simp [h], rfl, rfl⟩
end Go.Proofs.YtbcgcfdpblhddaaDoor.Cl
namespace Go.Proofs.YtbcgcfdpblhddaaDoor.Pure
open Go.RowKit Go.Lib Go.Proofs.YtbcgcfdpblhddaaDoor.Cl Go.Proofs.YtbcgcfdpblhddaaDoor.Q Go.Proofs.YtbcgcfdpblhddaaDoorW.PrintWords Go.Proofs.YtbcgcfdpblhddaaDoorW.PrintLast
theorem FnClassicEscapes : laws_FnClassicEscapes.Pure := by
  intro a l ha hl
  refine Ev.rounds (g := fun k => laws_FnClassicEscapes.f k a l) ?_
  have hb : ∀ y ∈ l, 0 ≤ y ∧ y ≤ 255 := fun y hy => wf_u8 (hl.2 y hy)
  have done : Ev (fun k => laws_FnClassicEscapes.j0 k a l true) true := ev_succ (fun k => by simp only [laws_FnClassicEscapes.j0]; rw [if_pos trivial])
  have done1 : Ev (fun k => laws_FnClassicEscapes.j1 k a l true) true := ev_succ (fun k => by simp only [laws_FnClassicEscapes.j1]; rw [if_pos trivial])
  unfold laws_FnClassicEscapes.f
  by_cases h1 : (a.size : Int) > 2147483647
  · exact ev_ite_pos h1 done
  refine ev_ite_neg h1 ?_
  by_cases h2 : (l.length : Int) > 2147483647
  · rw [decide_eq_true h2]; exact done
  rw [decide_eq_false h2]
  by_cases h3 : (a.size : Int) > 1000
  · refine Ev.step (fun k => ?_) done1
    simp only [laws_FnClassicEscapes.j0]
    rw [if_neg (by simp), if_pos h3]
  by_cases h4 : (l.length : Int) > 3000
  · refine Ev.step (fun k => ?_) done1
    simp only [laws_FnClassicEscapes.j0]
    rw [if_neg (by simp), if_neg h3, decide_eq_true h4]
  have h5 : Ev (fun k => laws_FnClassicEscapes.j1 k a l false) true := by
    refine Ev.step (fun k => ?_) (esc_l0 a (by omega) l (by omega) hb l.length 0 [] [] (by omega) good_nil (by simp) (by simp))
    simp only [laws_FnClassicEscapes.j1]
    rw [if_neg (by simp)]
    rfl
  refine Ev.step (fun k => ?_) h5
  simp only [laws_FnClassicEscapes.j0]
  rw [if_neg (by simp), if_neg h3, decide_eq_false h4]
end Go.Proofs.YtbcgcfdpblhddaaDoor.Pure
