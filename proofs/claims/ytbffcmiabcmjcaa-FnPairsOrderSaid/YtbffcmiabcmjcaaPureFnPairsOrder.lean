/- The law FnPairsOrder over plain lists. -/
import Derived.Test.YtbffcmiabcmjcaaQx5
import Derived.Test.YtbffcmiabcmjcaaKvP
set_option linter.unusedVariables false
set_option linter.unusedSimpArgs false
namespace Go.Proofs.Ytbffcmiabcmjcaa.Pure
open Go.RowKit Go.Proofs.Ytbffcmiabcmjcaa.Q Go.Proofs.Ytbffcmiabcmjcaa.MapsS Go.Proofs.YtbffcmiabcmjcaaW.PrintWords Go.Proofs.YtbffcmiabcmjcaaW.PrintLast
theorem adj_list : ∀ {A B : SM}, A.length ≤ 1 → (∀ p ∈ A, isAn p.1 = true) → Rises B → ∀ (i : Nat) (h : i + 1 < (A ++ B).length), Op.bytesLess (A ++ B)[i].1.toList (A ++ B)[i + 1].1.toList = true ∨ (i = 0 ∧ isAn (A ++ B)[0].1 = true)
  | [], B, _, _, hB, i, h => .inl (List.pairwise_iff_getElem.1 hB i (i + 1) (by simp at h; omega) (by simpa using h) (by omega))
  | [a], B, _, hA, hB, i, h => by
    cases i with
    | zero => exact .inr ⟨rfl, hA a List.mem_cons_self⟩
    | succ i => exact .inl (List.pairwise_iff_getElem.1 hB i (i + 1) (by simp at h; omega) (by simp at h; omega) (by omega))
  | a :: b :: r, _, h1, _, _, _, _ => by simp at h1
theorem first_le {m : SM} (hm : Rises m) : (m.filter fun p => isAn p.1).length ≤ 1 := by
  have h2 : ∀ p ∈ m.filter (fun p => isAn p.1), p.1 = anB := fun p hp => of_decide_eq_true (List.mem_filter.1 hp).2
  have h1 : Rises (m.filter fun p => isAn p.1) := List.Pairwise.filter _ hm
  generalize m.filter (fun p => isAn p.1) = F at *
  match F, h1, h2 with
  | [], _, _ => simp
  | [_], _, _ => simp
  | a :: b :: r, h1, h2 =>
    have h := (List.pairwise_cons.1 h1).1 b (by simp)
    rw [h2 a (by simp), h2 b (by simp), less_irrefl] at h
    cases h
theorem kv_adj {m : SM} (hm : Rises m) (i : Nat) (h : i + 1 < (kvOrder m).length) : Op.bytesLess (kvOrder m)[i].1.toList (kvOrder m)[i + 1].1.toList = true ∨ (i = 0 ∧ isAn (kvOrder m)[0].1 = true) :=
  adj_list (first_le hm) (fun p hp => (List.mem_filter.1 hp).2) (List.Pairwise.filter _ hm) i h
theorem rdPI {l : List PairI} {i : Nat} (h : i < l.length) : rd_T26 l (i : Int) = l[i] := by
  show l.getD i z26 = _
  rw [List.getD_eq_getElem?_getD, List.getElem?_eq_getElem h]
  rfl
theorem wrap_id {x : Int} (h0 : 0 ≤ x) (h : x ≤ 4000000000) : wrap64 x = x := by
  unfold wrap64
  omega
theorem turn_loop (O : List PairI) (turns : List Int) (hT : ∀ y ∈ turns, 0 ≤ y ∧ y ≤ 255) (hl : turns.length ≤ 4000000000) (hO : O.length ≤ 4000000000)
    (hfin : ∀ x : List PairI, x.Perm O → Ev (fun k => (impl_SortedPairs.f x).bind fun t1 => (laws_pairs.f k O).bind fun t2 => (laws_eqPairs.f t1 t2).bind fun t3 => some t3) true) :
    ∀ (d i : Nat) (x : List PairI), i + d = turns.length → x.Perm O → Ev (fun k => laws_FnPairsOrder.l1 k O x turns (turns.length : Int) (i : Int)) true
  | 0, i, x, h, hp => by
    refine Ev.step (fun k => ?_) (hfin x hp)
    simp only [laws_FnPairsOrder.l1]
    rw [if_neg (by omega)]
  | d + 1, i, x, h, hp => by
    have hi : i < turns.length := by omega
    have hxl : x.length = O.length := hp.length_eq
    by_cases h0 : (x.length : Int) > 0
    · obtain ⟨n, hn⟩ : ∃ n, rd turns (i : Int) = n := ⟨_, rfl⟩
      have hnr : 0 ≤ n ∧ n ≤ 255 := by
        rw [← hn]
        have e : rd turns (i : Int) = turns[i] := by
          show turns.getD i 0 = _
          rw [List.getD_eq_getElem?_getD, List.getElem?_eq_getElem hi]
          rfl
        rw [e]
        exact hT _ (List.getElem_mem hi)
      have hw : wrap64 n = n := wrap_id hnr.1 (by omega)
      have ha0 : 0 ≤ Int.tmod (i : Int) (x.length : Int) := Int.tmod_nonneg _ (by omega)
      have ha1 : Int.tmod (i : Int) (x.length : Int) < (x.length : Int) := Int.tmod_lt_of_pos _ h0
      have hb0 : 0 ≤ Int.tmod n (x.length : Int) := Int.tmod_nonneg _ hnr.1
      have hb1 : Int.tmod n (x.length : Int) < (x.length : Int) := Int.tmod_lt_of_pos _ h0
      obtain ⟨a, ha⟩ : ∃ a : Nat, Int.tmod (i : Int) (x.length : Int) = (a : Int) := ⟨_, (Int.toNat_of_nonneg ha0).symm⟩
      obtain ⟨b, hb⟩ : ∃ b : Nat, Int.tmod n (x.length : Int) = (b : Int) := ⟨_, (Int.toNat_of_nonneg hb0).symm⟩
      have haL : a < x.length := by rw [ha] at ha1; omega
      have hbL : b < x.length := by rw [hb] at hb1; omega
      refine Ev.step (fun k => ?_) (turn_loop O turns hT hl hO hfin d (i + 1) ((x.set a x[b]).set b x[a]) (by omega) ((List.set_set_perm haL hbL).trans hp))
      simp only [laws_FnPairsOrder.l1]
      rw [if_pos (by omega), if_pos (by omega), if_pos (by omega), if_pos h0, if_neg (by omega), hn, hw, ha, hb, if_pos (by omega), if_pos (by omega), if_pos (by omega), if_pos (by omega), rdPI haL, rdPI hbL, Int.toNat_natCast, Int.toNat_natCast, wrap_next hi (by unfold maxLen; omega)]
    · refine Ev.step (fun k => ?_) (turn_loop O turns hT hl hO hfin d (i + 1) x (by omega) hp)
      simp only [laws_FnPairsOrder.l1]
      rw [if_pos (by omega), if_pos (by omega), if_pos (by omega), if_neg h0, wrap_next hi (by unfold maxLen; omega)]
theorem kvOrder_perm (m : SM) : (kvOrder m).Perm m := by
  unfold kvOrder
  exact List.filter_append_perm _ _
theorem setK_perm {m : SM} (hm : Rises m) {x : List PairI} (hp : x.Perm ((kvOrder m).map toPK)) : setK x = m := by
  rw [setK_fill]
  refine fill_perm hm ?_
  have h := hp.map prI
  rw [List.map_map] at h
  have e : (kvOrder m).map (prI ∘ toPK) = kvOrder m := List.map_id _
  rw [e] at h
  exact h.trans (kvOrder_perm m)
theorem mem_fill' : ∀ {r m : SM} {q : ByteArray × ByteArray}, q ∈ fill r m → q ∈ r ∨ q ∈ m
  | [], _, _, h => .inr h
  | x :: r, m, q, h => by
    rw [fill_cons] at h
    rcases mem_fill' h with h | h
    · exact .inl (List.mem_cons_of_mem _ h)
    · rcases mem_ins h with e | h
      · exact .inl (by rw [e]; exact List.mem_cons_self)
      · exact .inr h
theorem mem_setK {l : List PairI} {p : ByteArray × ByteArray} (h : p ∈ setK l) : toPK p ∈ l := by
  rw [setK_fill] at h
  rcases mem_fill' h with h | h
  · obtain ⟨y, hy, rfl⟩ := List.mem_map.1 h
    exact hy
  · cases h
theorem order_ev (l : List PairI) (hl : l.length ≤ 300) (hk : ∀ y ∈ l, okS26 y) (turns : List Int) (hT : ∀ y ∈ turns, 0 ≤ y ∧ y ≤ 255) (ht : turns.length ≤ 4000000000) : Ev (fun k => laws_FnPairsOrder.l0 k turns ((kvOrder (setK l)).map toPK) 1) true := by
  have hm := setK_rises l
  have hml : (setK l).length ≤ 300 := Nat.le_trans (setK_le l) hl
  have hmem : ∀ p ∈ setK l, toPK p ∈ l := fun p hp => mem_setK hp
  generalize setK l = m at *
  obtain ⟨O, hO⟩ : ∃ O, (kvOrder m).map toPK = O := ⟨_, rfl⟩
  rw [hO]
  have hOl : O.length = (kvOrder m).length := by rw [← hO, List.length_map]
  have hOm : O.length = m.length := by rw [hOl, kvOrder_len]
  have hfin : ∀ x : List PairI, x.Perm O → Ev (fun k => (impl_SortedPairs.f x).bind fun t1 => (laws_pairs.f k O).bind fun t2 => (laws_eqPairs.f t1 t2).bind fun t3 => some t3) true := by
    intro x hx
    have hs : setK x = m := setK_perm hm (by rw [hO]; exact hx)
    have h9 : less9K x = true := less9_of (by rw [hx.length_eq]; omega) (fun y hy => by
      have h := hx.mem_iff.1 hy
      rw [← hO] at h
      obtain ⟨p, hp, rfl⟩ := List.mem_map.1 h
      exact hk _ (hmem p (kvOrder_mem hp)))
    simp only [sorted_eq h9, hs, Option.bind_some]
    refine Ev.bind (pairs_ev O (by omega)) ?_
    have e : O.map toSP = (kvOrder m).map unS := by rw [← hO, List.map_map]; rfl
    rw [e, eqPairs_same _ (by rw [kvOrder_len]; unfold maxLen; omega)]
    exact Ev.now _
  have hend : Ev (fun k => laws_FnPairsOrder.l1 k O ([] ++ O) turns (turns.length : Int) 0) true :=
    turn_loop O turns hT ht (by omega) hfin turns.length 0 O (by omega) (List.Perm.refl _)
  have out : ∀ i : Nat, O.length ≤ i → Ev (fun k => laws_FnPairsOrder.l0 k turns O (i : Int)) true := fun i hi => by
    refine Ev.step (fun k => ?_) hend
    simp only [laws_FnPairsOrder.l0, Option.bind_some]
    rw [if_neg (by omega), if_pos (by simp; omega)]
  by_cases h1 : O.length ≤ 1
  · exact out 1 h1
  have h := ev_up (L := fun k j => laws_FnPairsOrder.l0 k turns O ((j + 1 : Nat) : Int)) (fun _ => true) (O.length - 1) (out (O.length - 1 + 1) (by omega)) (fun j hj h => by
    have hj1 : j + 1 < O.length := by omega
    have hj0 : j < O.length := by omega
    refine Ev.step (fun k => ?_) h
    show laws_FnPairsOrder.l0 (k + 1) turns O ((j + 1 : Nat) : Int) = _
    simp only [laws_FnPairsOrder.l0]
    have ew : wrap64 (((j + 1 : Nat) : Int) - 1) = (j : Int) := by unfold wrap64; omega
    rw [if_pos (by omega), ew, if_pos (by omega), if_pos (by omega), if_pos (by omega), rdPI hj0, rdPI hj1, wrap_next (n := O.length) hj1 (by unfold maxLen; omega)]
    have hadj := kv_adj hm j (by rw [← hOl]; omega)
    have e0 : ∀ (i : Nat) (hi : i < O.length), O[i].f0 = ((kvOrder m)[i]'(by rw [← hOl]; exact hi)).1 := fun i hi => by simp only [← hO, List.getElem_map]; rfl
    rw [e0 j hj0, e0 (j + 1) hj1]
    rcases hadj with h | ⟨rfl, h⟩
    · rw [if_pos h]
    · have e1 : rd_T26 O 0 = O[0] := rdPI (i := 0) hj0
      rw [e1, e0 0 hj0]
      split
      · rfl
      · rw [if_pos (by rfl), if_pos (by omega), if_pos ((isAn_iff _).2 h)]) (O.length - 1) 0 (by omega)
  simpa using h
theorem FnPairsOrder : laws_FnPairsOrder.Pure := by
  intro l turns ⟨hl, hk⟩ ⟨ht, hw⟩
  refine Ev.rounds ?_
  unfold laws_FnPairsOrder.f
  have done0 : Ev (fun k => laws_FnPairsOrder.j0 k l turns true) true := ev_succ (fun k => by simp only [laws_FnPairsOrder.j0]; rfl)
  refine Ev.bind (zzFits1_ev l hl) ?_
  cases hz : (if (l.length : Int) > 2147483647 then false else l.all fits2)
  · simpa only [Bool.false_eq_true, if_false] using done0
  simp only [if_true]
  by_cases hT : (turns.length : Int) > 2147483647
  · rw [decide_eq_true hT]
    exact done0
  rw [decide_eq_false hT]
  have e0 : impl_SortedPairs.f [(⟨(⟨#[97]⟩ : ByteArray), (⟨#[98]⟩ : ByteArray)⟩ : PairI)] = some ((kvOrder (setK [(⟨(⟨#[97]⟩ : ByteArray), (⟨#[98]⟩ : ByteArray)⟩ : PairI)])).map toPK) := sorted_eq (by decide +kernel)
  have e1 : (((kvOrder (setK [(⟨(⟨#[97]⟩ : ByteArray), (⟨#[98]⟩ : ByteArray)⟩ : PairI)])).map toPK).length : Int) = 1 := by rw [List.length_map, kvOrder_len]; rfl
  by_cases h1 : (l.length : Int) > 300
  · refine ev_succ (fun k => ?_)
    simp only [laws_FnPairsOrder.j0, Bool.false_eq_true, if_false, e0, Option.bind_some, e1, if_true, laws_much.f, decide_eq_true h1]
  · refine Ev.step (fun k => ?_) (order_ev l (by omega) hk turns (fun y hy => wf_u8 (hw y hy)) (by omega))
    simp only [laws_FnPairsOrder.j0, Bool.false_eq_true, if_false, e0, Option.bind_some, e1, if_true, laws_much.f, decide_eq_false h1, sorted_eq (less9_of (by omega) hk)]
end Go.Proofs.Ytbffcmiabcmjcaa.Pure
