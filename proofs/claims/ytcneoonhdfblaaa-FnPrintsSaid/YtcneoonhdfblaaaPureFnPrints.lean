/- The law FnPrints over plain lists. -/
import Derived.Test.YtcneoonhdfblaaaQx5
import Derived.Test.YtcneoonhdfblaaaSetsPure
set_option linter.unusedVariables false
set_option linter.unusedSimpArgs false
namespace Go.Proofs.Ytcneoonhdfblaaa.Pure
open Go.RowKit Go.Proofs.Ytcneoonhdfblaaa.Q Go.Proofs.Ytcneoonhdfblaaa.MapsS Go.Proofs.YtcneoonhdfblaaaW.PrintWords Go.Proofs.YtcneoonhdfblaaaW.PrintLast
theorem get_rd {l : List Int} {i : Nat} (h : i < l.length) : rd l (i : Int) = l[i] := by simp [rd, h]
theorem inI_cons (n x : Int) (r : List Int) : inI n (x :: r) = (decide (n = x) || inI n r) := rfl
theorem inside_ev (l : List Int) (hl : l.length ≤ 1000000) (n : Int) : Ev (fun k => laws_inside.f k l n) (inI n l) := by
  have g := ev_up (L := fun k i => laws_inside.l0 k n l (l.length : Int) (i : Int)) (fun i => inI n (l.drop i)) l.length (ev_succ fun k => by
      simp only [laws_inside.l0]
      rw [if_neg (by omega), List.drop_eq_nil_of_le (Nat.le_refl _)]
      rfl) (fun i hi g => by
    have hw := wrap_next hi (by unfold maxLen; omega)
    have ed : inI n (l.drop i) = (decide (n = l[i]) || inI n (l.drop (i + 1))) := by rw [List.drop_eq_getElem_cons hi]; rfl
    by_cases e : l[i] = n
    · show Ev _ (inI n (l.drop i))
      rw [ed, decide_eq_true e.symm, Bool.true_or]
      exact ev_succ fun k => by
        simp only [laws_inside.l0]
        rw [if_pos (by omega), if_pos (by omega), if_pos (by omega), get_rd hi, if_pos e]
    · show Ev _ (inI n (l.drop i))
      rw [ed, decide_eq_false (Ne.symm e), Bool.false_or]
      refine Ev.step (fun k => ?_) g
      show laws_inside.l0 (k + 1) _ _ _ _ = _
      simp only [laws_inside.l0]
      rw [if_pos (by omega), if_pos (by omega), if_pos (by omega), get_rd hi, if_neg e, hw]) l.length 0 (by omega)
  exact g
theorem allIn_ev (a b : List Int) (ha : a.length ≤ 1000000) (hb : b.length ≤ 1000000) : Ev (fun k => spec_allIn.f k a b) (a.all fun x => inI x b) := by
  have g := ev_up (L := fun k i => spec_allIn.l0 k a b (a.length : Int) (i : Int)) (fun i => (a.drop i).all fun x => inI x b) a.length (ev_succ fun k => by
      simp only [spec_allIn.l0]
      rw [if_neg (by omega), List.drop_eq_nil_of_le (Nat.le_refl _)]
      rfl) (fun i hi g => by
    have hw := wrap_next hi (by unfold maxLen; omega)
    have ed : ((a.drop i).all fun x => inI x b) = (inI a[i] b && (a.drop (i + 1)).all fun x => inI x b) := by rw [List.drop_eq_getElem_cons hi]; rfl
    show Ev _ ((a.drop i).all fun x => inI x b)
    rw [ed]
    have inner : ∀ d j (is : Bool), j + d = b.length → Ev (fun k => spec_allIn.l1 k a b (i : Int) is (a.length : Int) (i : Int) (b.length : Int) (j : Int)) ((is || inI a[i] (b.drop j)) && (a.drop (i + 1)).all fun x => inI x b) := by
      intro d
      induction d with
      | zero =>
        intro j is hj
        obtain rfl : j = b.length := by omega
        rw [List.drop_eq_nil_of_le (Nat.le_refl _)]
        cases is with
        | true =>
          refine Ev.step (fun k => ?_) g
          show spec_allIn.l1 (k + 1) _ _ _ _ _ _ _ _ = _
          simp only [spec_allIn.l1]
          rw [if_neg (by omega), if_pos trivial, hw]
        | false =>
          exact ev_succ fun k => by
            simp only [spec_allIn.l1]
            rw [if_neg (by omega), if_neg (by simp)]
            rfl
      | succ d ih =>
        intro j is hj
        have hjb : j < b.length := by omega
        have hwj := wrap_next hjb (by unfold maxLen; omega)
        cases is with
        | true =>
          refine Ev.step (fun k => ?_) (ih (j + 1) true (by omega))
          show spec_allIn.l1 (k + 1) _ _ _ _ _ _ _ _ = _
          simp only [spec_allIn.l1]
          rw [if_pos (by omega), if_pos trivial, hwj]
        | false =>
          have e2 : inI a[i] (b.drop j) = ((a[i] == b[j]) || inI a[i] (b.drop (j + 1))) := by
            rw [List.drop_eq_getElem_cons hjb, inI_cons]
            rfl
          rw [Bool.false_or, e2]
          refine Ev.step (fun k => ?_) (ih (j + 1) (a[i] == b[j]) (by omega))
          show spec_allIn.l1 (k + 1) _ _ _ _ _ _ _ _ = _
          simp only [spec_allIn.l1]
          rw [if_pos (by omega), if_neg (by simp), if_pos (by omega), if_pos (by omega), if_pos (by omega), if_pos (by omega), get_rd hi, get_rd hjb, hwj]
    have h0 := inner b.length 0 false (by omega)
    refine Ev.step (fun k => ?_) h0
    show spec_allIn.l0 (k + 1) _ _ _ _ = _
    simp only [spec_allIn.l0]
    rw [if_pos (by omega)]
    rfl) a.length 0 (by omega)
  exact g
theorem ins_at (x : Int) : ∀ (p : Nat) (out : List Int), x ∉ out → (∀ q (h : q < out.length), q < p → out[q] < x) → p ≤ out.length → (∀ h : p < out.length, ¬ out[p] < x) → (out.take p ++ [x]) ++ out.drop p = insI x out
  | 0, [], _, _, _, _ => rfl
  | 0, o :: r, hx, _, _, hs => by
    have h1 := hs (by simp)
    have h2 : x ≠ o := fun e => hx (by rw [e]; exact List.mem_cons_self)
    simp only [List.getElem_cons_zero] at h1
    unfold insI
    rw [if_neg h2, if_pos (by omega)]
    rfl
  | p + 1, [], _, _, hp, _ => absurd hp (by simp)
  | p + 1, o :: r, hx, hb, hp, hs => by
    have h0 := hb 0 (by simp) (by omega)
    simp only [List.getElem_cons_zero] at h0
    have ih := ins_at x p r (fun h => hx (List.mem_cons_of_mem _ h)) (fun q h hq => by
      have := hb (q + 1) (by simp; omega) (by omega)
      simpa using this) (by simp at hp; exact hp) (fun h => by
      have := hs (by simp; omega)
      simpa using this)
    unfold insI
    rw [if_neg (by omega), if_neg (by omega), ← ih]
    rfl
theorem insI_same {x : Int} : ∀ {m : List Int}, RiseI m → x ∈ m → insI x m = m := fun {m} h hx => riseI_ext (rise_insI h) h fun y => by
  rw [mem_insI]
  exact ⟨fun h => by rcases h with rfl | h; exact hx; exact h, .inr⟩
theorem both_ev (a b : List Int) (ha : a.length ≤ 300) (hb : b.length ≤ 300) : Ev (fun k => spec_PrintsBoth.f k a b) (setI (a.filter fun x => inI x b)) := by
  have key : ∀ d i (out : List Int), i + d = a.length → RiseI out → out.length ≤ i → Ev (fun k => spec_PrintsBoth.l0 k a b out (a.length : Int) (i : Int)) (((a.drop i).filter fun x => inI x b).foldl (fun m x => insI x m) out) := by
    intro d
    induction d with
    | zero =>
      intro i out hi hR ho
      obtain rfl : i = a.length := by omega
      rw [List.drop_eq_nil_of_le (Nat.le_refl _)]
      exact ev_succ fun k => by
        simp only [spec_PrintsBoth.l0]
        rw [if_neg (by omega)]
        rfl
    | succ d ih =>
      intro i out hi hR ho
      have hlt : i < a.length := by omega
      have hw := Aside0.mk (wrap_next hlt (by unfold maxLen; omega))
      have ed : a.drop i = a[i] :: a.drop (i + 1) := List.drop_eq_getElem_cons hlt
      have ec : (a.take (((i + 1 : Nat) : Int)).toNat).drop ((i : Int)).toNat = [a[i]] := by
        rw [Int.toNat_natCast, Int.toNat_natCast, List.drop_take, ed, show i + 1 - i = 1 by omega]
        rfl
      have one : ∀ l : List Int, l.length ≤ 1000000 → Ev (fun k => spec_allIn.f k [a[i]] l) (inI a[i] l) := fun l hl => by
        have := allIn_ev [a[i]] l (by simp) hl
        simpa using this
      have start : ∀ {r : List Int}, Ev (fun k => (spec_allIn.f k [a[i]] b).bind fun t105 => (if t105 = true then (if (out.length : Int) > 0 then ((spec_allIn.f k [a[i]] out).bind fun t107 => (spec_PrintsBoth.j1 k a b out (i : Int) (a.length : Int) (i : Int) t107)) else (spec_PrintsBoth.j1 k a b out (i : Int) (a.length : Int) (i : Int) false)) else (spec_PrintsBoth.j1 k a b out (i : Int) (a.length : Int) (i : Int) true))) r → Ev (fun k => spec_PrintsBoth.l0 k a b out (a.length : Int) (i : Int)) r := fun {r} h => by
        refine Ev.step (fun k => ?_) h
        show spec_PrintsBoth.l0 (k + 1) _ _ _ _ _ = _
        simp only [spec_PrintsBoth.l0]
        rw [if_pos (by omega), if_pos (by omega), hw.out, if_pos (by omega), if_pos (by omega), ec]
      have skip : ∀ {r : List Int}, Ev (fun k => spec_PrintsBoth.l0 k a b out (a.length : Int) ((i + 1 : Nat) : Int)) r → Ev (fun k => spec_PrintsBoth.j1 k a b out (i : Int) (a.length : Int) (i : Int) true) r := fun {r} h => by
        refine Ev.step (fun k => ?_) h
        show spec_PrintsBoth.j1 (k + 1) _ _ _ _ _ _ _ = _
        simp only [spec_PrintsBoth.j1]
        rw [if_pos trivial, hw.out]
      refine start (Ev.bind (one b (by omega)) ?_)
      cases hin : inI a[i] b with
      | false =>
        rw [ed, List.filter_cons, hin]
        simp only [Bool.false_eq_true, if_false]
        exact skip (ih (i + 1) out (by omega) hR (by omega))
      | true =>
        rw [ed, List.filter_cons, hin]
        simp only [if_true, List.foldl_cons]
        have step : a[i] ∉ out → Ev (fun k => spec_PrintsBoth.j1 k a b out (i : Int) (a.length : Int) (i : Int) false) (((a.drop (i + 1)).filter fun x => inI x b).foldl (fun m x => insI x m) (insI a[i] out)) := fun hnot => by
          have hn := ih (i + 1) (insI a[i] out) (by omega) (rise_insI hR) (by have := len_insI a[i] out; omega)
          have stop : ∀ p, p ≤ out.length → (∀ q (h : q < out.length), q < p → out[q] < a[i]) → (∀ h : p < out.length, ¬ out[p] < a[i]) → Ev (fun k => spec_PrintsBoth.l1 k a b out (i : Int) (p : Int) (a.length : Int) (i : Int)) (((a.drop (i + 1)).filter fun x => inI x b).foldl (fun m x => insI x m) (insI a[i] out)) := fun p hp hb1 hs => by
            have ei := ins_at a[i] p out hnot hb1 hp hs
            refine Ev.step (fun k => ?_) hn
            show spec_PrintsBoth.l1 (k + 1) _ _ _ _ _ _ _ = _
            simp only [spec_PrintsBoth.l1, Option.bind_some, List.nil_append, Int.toNat_natCast, List.length_nil, List.length_append, List.length_take, List.length_cons, List.length_drop]
            by_cases hpl : p < out.length
            · rw [if_pos (by omega), if_pos (by omega), if_pos (by omega), if_pos (by omega), get_rd hpl, get_rd hlt, if_neg (hs hpl), if_pos (by omega), if_pos (by omega), if_pos (by omega), if_pos (by omega), hw.out, ei]
            · rw [if_neg (by omega), if_pos (by omega), if_pos (by omega), if_pos (by omega), if_pos (by omega), if_pos (by omega), get_rd hlt, if_pos (by omega), if_pos (by omega), hw.out, ei]
          have walk : ∀ e p, p + e = out.length → (∀ q (h : q < out.length), q < p → out[q] < a[i]) → Ev (fun k => spec_PrintsBoth.l1 k a b out (i : Int) (p : Int) (a.length : Int) (i : Int)) (((a.drop (i + 1)).filter fun x => inI x b).foldl (fun m x => insI x m) (insI a[i] out)) := by
            intro e
            induction e with
            | zero => exact fun p hp hb1 => stop p (by omega) hb1 (fun h => by omega)
            | succ e ihe =>
              intro p hp hb1
              have hpl : p < out.length := by omega
              by_cases hlo : out[p] < a[i]
              · have hwp := Aside0.mk (wrap_next hpl (by unfold maxLen; omega))
                refine Ev.step (fun k => ?_) (ihe (p + 1) (by omega) (fun q h hq => by
                  rcases Nat.lt_succ_iff_lt_or_eq.1 hq with h1 | h1
                  · exact hb1 q h h1
                  · subst h1; exact hlo))
                show spec_PrintsBoth.l1 (k + 1) _ _ _ _ _ _ _ = _
                simp only [spec_PrintsBoth.l1]
                rw [if_pos (show (p : Int) < (out.length : Int) by omega), if_pos (show (0 : Int) ≤ (p : Int) by omega), if_pos (show (0 : Int) ≤ (i : Int) by omega), if_pos (show (i : Int) < (a.length : Int) by omega), get_rd hpl, get_rd hlt, if_pos hlo, hwp.out]
              · exact stop p (by omega) hb1 (fun _ => hlo)
          refine Ev.step (fun k => ?_) (walk out.length 0 (by omega) (fun q _ h => by omega))
          show spec_PrintsBoth.j1 (k + 1) _ _ _ _ _ _ _ = _
          simp only [spec_PrintsBoth.j1]
          rw [if_neg (by simp)]
          rfl
        by_cases hol : out.length = 0
        · obtain rfl : out = [] := List.length_eq_zero_iff.1 hol
          have h := step (by simp)
          simpa using h
        · simp only [if_pos (show (out.length : Int) > 0 by omega)]
          refine Ev.bind (one out (by omega)) ?_
          cases ho2 : inI a[i] out with
          | true =>
            rw [insI_same hR (inI_iff.1 ho2)]
            exact skip (ih (i + 1) out (by omega) hR (by omega))
          | false => exact step (fun h => by rw [inI_iff.2 h] at ho2; cases ho2)
  exact key a.length 0 [] (by omega) List.Pairwise.nil (Nat.le_refl _)
theorem setI_rise (l : List Int) : RiseI (setI l) := by
  have key : ∀ (l m : List Int), RiseI m → RiseI (l.foldl (fun m x => insI x m) m) := by
    intro l
    induction l with
    | nil => exact fun m h => h
    | cons x l ih => exact fun m h => ih _ (rise_insI h)
  exact key _ _ List.Pairwise.nil
theorem mem_setI {x : Int} {l : List Int} : x ∈ setI l ↔ x ∈ l := by
  unfold setI
  rw [mem_fillI]
  simp
theorem both_same (a b : List Int) : setI (a.filter fun x => inI x b) = bothI (setI a) (setI b) :=
  riseI_ext (setI_rise _) (bothI_rise (setI_rise _)) fun x => by rw [mem_setI, mem_bothI, mem_setI, mem_setI, List.mem_filter, inI_iff]
def sameP (a b : List Int) : Bool := (a.all fun x => inI x b) && b.all fun x => inI x a
theorem sameP_eq (a b : List Int) : decide (setI a = setI b) = sameP a b := by
  rw [Bool.eq_iff_iff, decide_eq_true_eq]
  unfold sameP
  rw [Bool.and_eq_true, List.all_eq_true, List.all_eq_true]
  constructor
  · intro h
    exact ⟨fun x hx => inI_iff.2 (mem_setI.1 (h ▸ mem_setI.2 hx)), fun x hx => inI_iff.2 (mem_setI.1 (h ▸ mem_setI.2 hx))⟩
  · rintro ⟨h1, h2⟩
    exact riseI_ext (setI_rise _) (setI_rise _) fun x => by
      rw [mem_setI, mem_setI]
      exact ⟨fun h => inI_iff.1 (h1 x h), fun h => inI_iff.1 (h2 x h)⟩
theorem equal_ev (a b : List Int) (ha : a.length ≤ 1000000) (hb : b.length ≤ 1000000) : Ev (fun k => spec_PrintsEqual.f k a b) (sameP a b) := by
  unfold spec_PrintsEqual.f sameP
  refine Ev.bind (allIn_ev a b ha hb) ?_
  cases (a.all fun x => inI x b) with
  | false =>
    simp only [Bool.false_eq_true, if_false, Bool.false_and]
    exact Ev.now _
  | true =>
    simp only [if_true, Bool.true_and]
    exact Ev.bind (allIn_ev b a hb ha) (Ev.now _)
theorem wrap_prev {i : Nat} (h : 0 < i) (hn : i ≤ 1000000) : wrap64 ((i : Int) - 1) = ((i - 1 : Nat) : Int) := by
  unfold wrap64
  omega
theorem take_all {p : Int → Bool} {l : List Int} {i : Nat} (h : i < l.length) : (l.take (i + 1)).all p = ((l.take i).all p && p l[i]) := by
  rw [List.take_succ_eq_append_getElem h, List.all_append]
  simp
theorem FnPrints : laws_FnPrints.Pure := by
  intro a b _ _ wa _ _ wb
  refine Ev.rounds ?_
  have hskip : Ev (fun k => laws_FnPrints.j0 k a b true) true := ev_succ fun k => by simp only [laws_FnPrints.j0]; rw [if_pos trivial]
  have hskip1 : Ev (fun k => laws_FnPrints.j1 k a b true) true := ev_succ fun k => by simp only [laws_FnPrints.j1]; rw [if_pos trivial]
  unfold laws_FnPrints.f
  by_cases h1 : (a.length : Int) > 2147483647
  · simp only [if_pos h1]
    exact hskip
  simp only [if_neg h1]
  by_cases h2 : (b.length : Int) > 2147483647
  · simp only [decide_eq_true h2]
    exact hskip
  simp only [decide_eq_false h2]
  have htwo : impl_PrintsBoth.f [1, 2] [2, 3] = some [2] := by decide +kernel
  have hj : ∀ {x : Bool}, Ev (fun k => if (a.length : Int) > 300 then (laws_FnPrints.j1 k a b true) else (laws_FnPrints.j1 k a b (decide ((b.length : Int) > 300)))) x → Ev (fun k => laws_FnPrints.j0 k a b false) x := fun {x} h => by
    refine Ev.step (fun k => ?_) h
    show laws_FnPrints.j0 (k + 1) _ _ _ = _
    simp only [laws_FnPrints.j0]
    rw [if_neg (by simp), htwo]
    rfl
  refine hj ?_
  by_cases h3 : (a.length : Int) > 300
  · simp only [if_pos h3]
    exact hskip1
  simp only [if_neg h3]
  by_cases h4 : (b.length : Int) > 300
  · simp only [decide_eq_true h4]
    exact hskip1
  simp only [decide_eq_false h4]
  have ha : a.length ≤ 300 := by omega
  have hb : b.length ≤ 300 := by omega
  have hoa : okP a = true := List.all_eq_true.2 wa
  have hob : okP b = true := List.all_eq_true.2 wb
  clear h1 h2 h3 h4 wa wb hskip hskip1 htwo hj
  have hB : impl_PrintsBoth.f a b = some (bothI (setI a) (setI b)) := by
    unfold impl_PrintsBoth.f
    rw [if_pos ⟨by omega, by omega, hoa, hob⟩]
  have hE : impl_PrintsEqual.f a b = some (sameP a b) := by
    unfold impl_PrintsEqual.f
    rw [if_pos ⟨by omega, by omega, hoa, hob⟩, sameP_eq]
  have hS := both_ev a b ha hb
  rw [both_same] at hS
  have hLR : RiseI (bothI (setI a) (setI b)) := bothI_rise (setI_rise _)
  have hLm : ∀ x, x ∈ bothI (setI a) (setI b) ↔ x ∈ a ∧ x ∈ b := fun x => by rw [mem_bothI, mem_setI, mem_setI]
  have hLl : (bothI (setI a) (setI b)).length ≤ 300 := by
    refine Nat.le_trans (sub_len (riseI_nodup hLR) (fun x hx => ((hLm x).1 hx).1)) ha
  generalize bothI (setI a) (setI b) = L at *
  have e4 : Ev (fun k => laws_FnPrints.l4 k a b (sameP a b) L L (L.length : Int) ((0 : Nat) : Int)) true := by
    refine ev_up (L := fun k i => laws_FnPrints.l4 k a b (sameP a b) L L (L.length : Int) (i : Int)) (fun _ => true) L.length ?_ (fun i hi g => ?_) L.length 0 (by omega)
    · refine Ev.step (fun k => by
        show laws_FnPrints.l4 (k + 1) _ _ _ _ _ _ _ = _
        simp only [laws_FnPrints.l4]
        rw [if_neg (by omega), hE]
        simp only [Option.bind_some, beq_self_eq_true, if_true]
        rfl) (Ev.bind (equal_ev a b (by omega) (by omega)) ?_)
      simp only [beq_self_eq_true, if_true]
      exact Ev.now _
    · refine Ev.step (fun k => ?_) g
      show laws_FnPrints.l4 (k + 1) _ _ _ _ _ _ _ = _
      simp only [laws_FnPrints.l4]
      rw [if_pos (by omega), if_pos trivial, if_pos (by omega), if_pos (by omega), if_pos (by omega), if_pos trivial, wrap_next hi (by unfold maxLen; omega)]
  have e3 : Ev (fun k => laws_FnPrints.l3 k a b (sameP a b) L a (a.length : Int) ((0 : Nat) : Int)) true := by
    refine ev_up (L := fun k i => laws_FnPrints.l3 k a b (sameP a b) L a (a.length : Int) (i : Int)) (fun _ => true) a.length ?_ (fun i hi g => ?_) a.length 0 (by omega)
    · refine Ev.step (fun k => by
        show laws_FnPrints.l3 (k + 1) _ _ _ _ _ _ _ = _
        simp only [laws_FnPrints.l3]
        rw [if_neg (by omega)]) (Ev.bind hS e4)
    · have hw := wrap_next hi (by unfold maxLen; omega)
      refine Ev.step (fun k => by
        show laws_FnPrints.l3 (k + 1) _ _ _ _ _ _ _ = _
        simp only [laws_FnPrints.l3]
        rw [if_pos (by omega), if_pos (by omega), if_pos (by omega), get_rd hi, hw]) (Ev.bind (inside_ev b (by omega) a[i]) ?_)
      cases hin : inI a[i] b with
      | false =>
        simp only [Bool.false_eq_true, if_false]
        exact g
      | true =>
        simp only [if_true]
        refine Ev.bind (inside_ev L (by omega) a[i]) ?_
        rw [inI_iff.2 ((hLm _).2 ⟨List.getElem_mem hi, inI_iff.1 hin⟩)]
        simp only [if_true]
        exact g
  have e2 : Ev (fun k => laws_FnPrints.l2 k a b (sameP a b) L L (L.length : Int) ((0 : Nat) : Int)) true := by
    refine ev_up (L := fun k i => laws_FnPrints.l2 k a b (sameP a b) L L (L.length : Int) (i : Int)) (fun _ => true) L.length ?_ (fun i hi g => ?_) L.length 0 (by omega)
    · refine Ev.step (fun k => by
        show laws_FnPrints.l2 (k + 1) _ _ _ _ _ _ _ = _
        simp only [laws_FnPrints.l2]
        rw [if_neg (by omega)]
        rfl) e3
    · have hw := wrap_next hi (by unfold maxLen; omega)
      have hm := (hLm _).1 (List.getElem_mem hi)
      refine Ev.step (fun k => by
        show laws_FnPrints.l2 (k + 1) _ _ _ _ _ _ _ = _
        simp only [laws_FnPrints.l2]
        rw [if_pos (by omega), if_pos (by omega), if_pos (by omega), get_rd hi, hw]) (Ev.bind (inside_ev a (by omega) L[i]) ?_)
      rw [inI_iff.2 hm.1]
      simp only [if_true]
      refine Ev.bind (inside_ev b (by omega) L[i]) ?_
      rw [inI_iff.2 hm.2]
      simp only [if_true]
      by_cases h0 : (i : Int) > 0
      · have hlt : L[i - 1]'(by omega) < L[i] := List.pairwise_iff_getElem.1 hLR (i - 1) i (by omega) hi (by omega)
        simp only [if_pos h0, wrap_prev (show 0 < i by omega) (show i ≤ 1000000 by omega), get_rd (show i - 1 < L.length by omega), if_pos (show (0 : Int) ≤ ((i - 1 : Nat) : Int) by omega), if_pos (show ((i - 1 : Nat) : Int) < (L.length : Int) by omega), if_neg (show ¬ L[i - 1]'(by omega) ≥ L[i] by omega)]
        exact g
      · simp only [if_neg h0]
        exact g
  have e1 : Ev (fun k => laws_FnPrints.l1 k a b (a.all fun x => inI x b) b (b.length : Int) ((0 : Nat) : Int)) true := by
    have h := ev_up (L := fun k i => laws_FnPrints.l1 k a b ((a.all fun x => inI x b) && (b.take i).all fun x => inI x a) b (b.length : Int) (i : Int)) (fun _ => true) b.length ?_ (fun i hi g => ?_) b.length 0 (by omega)
    · simpa using h
    · refine Ev.step (fun k => ?_) e2
      show laws_FnPrints.l1 (k + 1) _ _ _ _ _ _ = _
      simp only [laws_FnPrints.l1]
      rw [if_neg (by omega), hB, List.take_of_length_le (Nat.le_refl _)]
      rfl
    · have hw := wrap_next hi (by unfold maxLen; omega)
      rw [take_all hi, ← Bool.and_assoc] at g
      cases hc : ((a.all fun x => inI x b) && (b.take i).all fun x => inI x a) with
      | true =>
        rw [hc, Bool.true_and] at g
        refine Ev.step (fun k => by
          show laws_FnPrints.l1 (k + 1) _ _ _ _ _ _ = _
          simp only [laws_FnPrints.l1]
          rw [if_pos (by omega), if_pos (by omega), if_pos (by omega), if_pos trivial, get_rd hi, hw]) (Ev.bind (inside_ev a (by omega) b[i]) g)
      | false =>
        rw [hc, Bool.false_and] at g
        refine Ev.step (fun k => ?_) g
        show laws_FnPrints.l1 (k + 1) _ _ _ _ _ _ = _
        simp only [laws_FnPrints.l1]
        rw [if_pos (by omega), if_pos (by omega), if_pos (by omega), if_neg (by simp), hw]
  have e0 : Ev (fun k => laws_FnPrints.l0 k a b true a (a.length : Int) ((0 : Nat) : Int)) true := by
    have h := ev_up (L := fun k i => laws_FnPrints.l0 k a b ((a.take i).all fun x => inI x b) a (a.length : Int) (i : Int)) (fun _ => true) a.length ?_ (fun i hi g => ?_) a.length 0 (by omega)
    · simpa using h
    · refine Ev.step (fun k => ?_) e1
      show laws_FnPrints.l0 (k + 1) _ _ _ _ _ _ = _
      simp only [laws_FnPrints.l0]
      rw [if_neg (by omega), List.take_of_length_le (Nat.le_refl _)]
      rfl
    · have hw := wrap_next hi (by unfold maxLen; omega)
      rw [take_all hi] at g
      cases hc : (a.take i).all fun x => inI x b with
      | true =>
        rw [hc, Bool.true_and] at g
        refine Ev.step (fun k => by
          show laws_FnPrints.l0 (k + 1) _ _ _ _ _ _ = _
          simp only [laws_FnPrints.l0]
          rw [if_pos (by omega), if_pos (by omega), if_pos (by omega), if_pos trivial, get_rd hi, hw]) (Ev.bind (inside_ev b (by omega) a[i]) g)
      | false =>
        rw [hc, Bool.false_and] at g
        refine Ev.step (fun k => ?_) g
        show laws_FnPrints.l0 (k + 1) _ _ _ _ _ _ = _
        simp only [laws_FnPrints.l0]
        rw [if_pos (by omega), if_pos (by omega), if_pos (by omega), if_neg (by simp), hw]
  refine Ev.step (fun k => ?_) e0
  show laws_FnPrints.j1 (k + 1) _ _ _ = _
  simp only [laws_FnPrints.j1]
  rw [if_neg (by simp)]
  rfl
end Go.Proofs.Ytcneoonhdfblaaa.Pure
