/- The law FnUnquoted over plain values. -/
import Derived.Test.YtmjoebnphacadaaDoorRa
import Derived.Test.YtmjoebnphacadaaDoorQx42
set_option linter.unusedVariables false
set_option linter.unusedSimpArgs false
namespace Go.Proofs.YtmjoebnphacadaaDoor.Pure
open Go.RowKit Go.Proofs.YtmjoebnphacadaaDoor.Q Go.Proofs.YtmjoebnphacadaaDoor.Lex Go.Proofs.YtmjoebnphacadaaDoorW.PrintWords Go.Proofs.YtmjoebnphacadaaDoorW.PrintLast
def good (b : UInt8) : Bool := decide (b.toNat < 127) && !resR (b.toNat : Int) && decide (b.toNat ≠ 123) && decide (b.toNat ≠ 125) && decide (b.toNat ≠ 44) && decide (b.toNat ≠ 61) && decide (b.toNat ≠ 33) && decide (b.toNat ≠ 34) && decide (b.toNat ≠ 126)
def safeSet : ByteArray := ⟨#[97, 98, 99, 100, 101, 102, 103, 104, 105, 106, 107, 108, 109, 110, 111, 112, 113, 114, 115, 116, 117, 118, 119, 120, 121, 122, 65, 66, 67, 68, 69, 70, 71, 72, 73, 74, 75, 76, 77, 78, 79, 80, 81, 82, 83, 84, 85, 86, 87, 88, 89, 90, 48, 49, 50, 51, 52, 53, 54, 55, 56, 57, 95, 58, 46, 45, 47]⟩
theorem safe_good : ∀ m, m < 67 → (safeSet.extract m (m + 1)).size = 1 ∧ ((safeSet.extract m (m + 1)).data.toList.all good) = true := by decide +kernel
theorem safe_a : good 97 = true := by decide +kernel
theorem safe_ev (a : ByteArray) (ha : a.size ≤ 2147483647) : ∃ t, Ev (fun k => laws_safe.f k a) t ∧ t.data.toList.all good = true ∧ t.size = a.size + 1 := by
  have key : ∀ (d i : Nat) (x : ByteArray), i + d = a.size → x.size = i + 1 → x.data.toList.all good = true → ∃ t, Ev (fun k => laws_safe.l0 k a x (i : Int)) t ∧ t.data.toList.all good = true ∧ t.size = a.size + 1 := by
    intro d
    induction d with
    | zero =>
      intro i x hi hx hg
      refine ⟨x, ev_succ (fun k => ?_), hg, by omega⟩
      simp only [laws_safe.l0]
      rw [if_neg (by omega)]
    | succ d ih =>
      intro i x hi hx hg
      have hlt : i < a.size := by omega
      obtain ⟨m, hm⟩ : ∃ m, (a[i]'hlt).toNat % 67 = m := ⟨_, rfl⟩
      have hm2 : m < 67 := by omega
      obtain ⟨s1, s2⟩ := safe_good m hm2
      obtain ⟨E, hE⟩ : ∃ E, safeSet.extract m (m + 1) = E := ⟨_, rfl⟩
      rw [hE] at s1 s2
      obtain ⟨t, t1, t2, t3⟩ := ih (i + 1) (x ++ E) (by omega) (by rw [app_size, s1]; omega) (by rw [app_list, List.all_append, hg, s2]; rfl)
      refine ⟨t, Ev.step (fun k => ?_) t1, t2, t3⟩
      have p1 : ((i : Int) < (a.size : Int)) = True := eq_true (by omega)
      have p2 : (0 ≤ (i : Int)) = True := eq_true (by omega)
      have p3 : (0 ≤ (m : Int)) = True := eq_true (by omega)
      have p4 : ((m : Int) ≤ ((m + 1 : Nat) : Int)) = True := eq_true (by omega)
      have p5 : (((m + 1 : Nat) : Int) ≤ 67) = True := eq_true (by omega)
      have p6 : (x.size + E.size ≤ 9223372036854775807) = True := eq_true (by rw [s1]; omega)
      have eb : Int.tmod (wrap64 (bt a (i : Int))) 67 = (m : Int) := by
        rw [bt_natP hlt]
        have hb : (a[i]'hlt).toNat < 256 := UInt8.toNat_lt _
        have : wrap64 ((a[i]'hlt).toNat : Int) = ((a[i]'hlt).toNat : Int) := by unfold wrap64; omega
        rw [this, Int.tmod_eq_emod_of_nonneg (by omega)]
        omega
      have ew : wrap64 ((m : Int) + 1) = ((m + 1 : Nat) : Int) := by unfold wrap64; omega
      have ei : wrap64 ((i : Int) + 1) = ((i + 1 : Nat) : Int) := by unfold wrap64; omega
      have hst : ∀ (z : ByteArray), z.extract m (m + 1) = E → (if (i : Int) < (a.size : Int) then (if 0 ≤ (i : Int) then (if 0 ≤ (Int.tmod (wrap64 (bt a (i : Int))) 67) then (if (Int.tmod (wrap64 (bt a (i : Int))) 67) ≤ (wrap64 ((Int.tmod (wrap64 (bt a (i : Int))) 67) + 1)) then (if (wrap64 ((Int.tmod (wrap64 (bt a (i : Int))) 67) + 1)) ≤ 67 then (if x.size + (z.extract ((Int.tmod (wrap64 (bt a (i : Int))) 67) : Int).toNat ((wrap64 ((Int.tmod (wrap64 (bt a (i : Int))) 67) + 1)) : Int).toNat).size ≤ 9223372036854775807 then (laws_safe.l0 k a (x ++ (z.extract ((Int.tmod (wrap64 (bt a (i : Int))) 67) : Int).toNat ((wrap64 ((Int.tmod (wrap64 (bt a (i : Int))) 67) + 1)) : Int).toNat)) (wrap64 ((i : Int) + 1))) else (none)) else (none)) else (none)) else (none)) else (none)) else (some x)) = laws_safe.l0 k a (x ++ E) ((i + 1 : Nat) : Int) := by
        intro z hz
        simp only [eb, ew, ei, p1, p2, p3, p4, p5, if_true, Int.toNat_natCast, hz, p6]
      exact hst _ hE
  exact key a.size 0 ⟨#[97]⟩ (by omega) rfl (by decide +kernel)
theorem good_all {b : UInt8} (h : good b = true) : b.toNat < 127 ∧ resR (b.toNat : Int) = false ∧ b.toNat ≠ 123 ∧ b.toNat ≠ 125 ∧ b.toNat ≠ 44 ∧ b.toNat ≠ 61 ∧ b.toNat ≠ 33 ∧ b.toNat ≠ 34 ∧ b.toNat ≠ 126 := by
  unfold good at h
  simp only [Bool.and_eq_true, decide_eq_true_eq, Bool.not_eq_true'] at h
  obtain ⟨⟨⟨⟨⟨⟨⟨⟨h1, h2⟩, h3⟩, h4⟩, h5⟩, h6⟩, h7⟩, h8⟩, h9⟩ := h
  exact ⟨h1, h2, h3, h4, h5, h6, h7, h8, h9⟩
theorem txt_ascL (l : List UInt8) : txt (ascL l) = l := by
  induction l with
  | nil => rfl
  | cons b l ih => show [b] ++ txt (ascL l) = _; rw [ih]; rfl
theorem scan_word (b : UInt8) (n : List UInt8) (R : List RB) (hb : good b = true) (hn : n.all good = true) (hR : ∀ r ∈ R.head?, nr r = false) : scanL (ascL (b :: n) ++ R) = .tok 9 (ascL (b :: n)) R := by
  obtain ⟨g1, g2, g3, g4, g5, g6, g7, g8, g9⟩ := good_all hb
  have hall : ∀ r ∈ ascL (b :: n), nr r = true := by
    intro r hr
    obtain ⟨c, hc, rfl⟩ := List.mem_map.1 hr
    have : good c = true := by
      rcases List.mem_cons.1 hc with rfl | hc
      · exact hb
      · exact List.all_eq_true.1 hn c hc
    unfold nr
    simp [(good_all this).2.1]
  show scanL ((b.toNat, [b]) :: (ascL n ++ R)) = _
  unfold scanL
  dsimp only
  rw [if_neg g3, if_neg g4, if_neg g5, if_neg (by omega), if_neg g8, if_pos g2]
  show LR.tok 9 ((ascL (b :: n) ++ R).takeWhile nr) ((ascL (b :: n) ++ R).dropWhile nr) = _
  have e1 : R.takeWhile nr = [] := by
    cases R with
    | nil => rfl
    | cons r R => rw [List.takeWhile_cons_of_neg (by rw [hR r rfl]; simp)]
  have e2 : R.dropWhile nr = R := by
    cases R with
    | nil => rfl
    | cons r R => rw [List.dropWhile_cons_of_neg (by rw [hR r rfl]; simp)]
  rw [List.takeWhile_append_of_pos hall, List.dropWhile_append_of_pos hall, e1, e2, List.append_nil]
theorem asc_app (l m : List UInt8) : ascL (l ++ m) = ascL l ++ ascL m := List.map_append
theorem unq_strm (b c : UInt8) (n v : List UInt8) (hb : good b = true) (hn : n.all good = true) (hc : good c = true) (hv : v.all good = true) (not : Bool) (f : Nat) :
    strmL (f + 4) (ascL ((b :: n) ++ (if not = true then [33, 61] else [61]) ++ (c :: v))) = ([(9, ⟨(b :: n).toArray⟩), ((if not = true then 5 else 4), ⟨(if not = true then [33, 61] else [61]).toArray⟩), (9, ⟨(c :: v).toArray⟩)], true) := by
  have gc := good_all hc
  have e3 : scanL (ascL (c :: v)) = .tok 9 (ascL (c :: v)) [] := by
    have := scan_word c v [] hc hv (by simp)
    rwa [List.append_nil] at this
  have s3 : strmL (f + 2) (ascL (c :: v)) = ([(9, ⟨(c :: v).toArray⟩)], true) := by
    rw [strmL_tok e3, txt_ascL]
    rfl
  rw [List.append_assoc, asc_app]
  have e1 : scanL (ascL (b :: n) ++ ascL ((if not = true then [33, 61] else [61]) ++ (c :: v))) = .tok 9 (ascL (b :: n)) (ascL ((if not = true then [33, 61] else [61]) ++ (c :: v))) := by
    refine scan_word b n _ hb hn ?_
    cases not
    · intro r hr
      obtain rfl := Option.some.inj hr
      decide +kernel
    · intro r hr
      obtain rfl := Option.some.inj hr
      decide +kernel
  rw [strmL_tok e1, txt_ascL]
  have s2 : strmL (f + 3) (ascL ((if not = true then [33, 61] else [61]) ++ (c :: v))) = ([((if not = true then 5 else 4), ⟨(if not = true then [33, 61] else [61]).toArray⟩), (9, ⟨(c :: v).toArray⟩)], true) := by
    cases not
    · have e2 : scanL (ascL ([61] ++ (c :: v))) = .tok 4 [(61, [61])] (ascL (c :: v)) := by
        have h1 : scanL (ascL ([61] ++ (c :: v))) = opL (61, [61]) ((c.toNat, [c]) :: ascL v) := rfl
        have h2 : opL (61, [61]) ((c.toNat, [c]) :: ascL v) = (if c.toNat = 126 then LR.tok 6 [(61, [61]), (c.toNat, [c])] (ascL v) else .tok 4 [(61, [61])] ((c.toNat, [c]) :: ascL v)) := rfl
        rw [h1, h2, if_neg gc.2.2.2.2.2.2.2.2]
        rfl
      have e4 := strmL_tok (f := f + 2) e2
      rw [s3] at e4
      exact e4
    · have e2 : scanL (ascL ([33, 61] ++ (c :: v))) = .tok 5 [(33, [33]), (61, [61])] (ascL (c :: v)) := rfl
      have e4 := strmL_tok (f := f + 2) e2
      rw [s3] at e4
      exact e4
  rw [s2]
theorem unq_parse (n v o : ByteArray) : parseT ([(9, n), (4, o), (9, v)], true) = some [⟨0, n, v⟩] := rfl
theorem unq_parse2 (n v o : ByteArray) : parseT ([(9, n), (5, o), (9, v)], true) = some [⟨1, n, v⟩] := rfl
theorem unq_po (n v : ByteArray) (hn : n.data.toList.all good = true) (hv : v.data.toList.all good = true) (n0 : 1 ≤ n.size) (v0 : 1 ≤ v.size) (not : Bool) :
    poF ((n ++ ⟨(if not = true then [33, 61] else [61]).toArray⟩) ++ v) = (⟨if not = true then 1 else 0, n, v⟩, true) := by
  have hs : ((n ++ ⟨(if not = true then [33, 61] else [61]).toArray⟩) ++ v).data.toList = n.data.toList ++ (if not = true then [33, 61] else [61]) ++ v.data.toList := by
    rw [app_list, app_list]
  obtain ⟨b, n1, hb⟩ : ∃ b n1, n.data.toList = b :: n1 := by
    cases h : n.data.toList with
    | nil => have := congrArg List.length h; rw [Array.length_toList] at this; have h2 : n.data.size = n.size := rfl; simp only [List.length_nil] at this; omega
    | cons b n1 => exact ⟨b, n1, rfl⟩
  obtain ⟨c, v1, hc⟩ : ∃ c v1, v.data.toList = c :: v1 := by
    cases h : v.data.toList with
    | nil => have := congrArg List.length h; rw [Array.length_toList] at this; have h2 : v.data.size = v.size := rfl; simp only [List.length_nil] at this; omega
    | cons c v1 => exact ⟨c, v1, rfl⟩
  rw [hb, List.all_cons, Bool.and_eq_true] at hn
  rw [hc, List.all_cons, Bool.and_eq_true] at hv
  have hasc : ∀ x ∈ ((n ++ ⟨(if not = true then [33, 61] else [61]).toArray⟩) ++ v).data.toList, x.toNat < 128 := by
    intro x hx
    rw [hs, hb, hc] at hx
    have ok : ∀ y, good y = true → y.toNat < 128 := fun y hy => by have := (good_all hy).1; omega
    rcases List.mem_append.1 hx with hx | hx
    · rcases List.mem_append.1 hx with hx | hx
      · rcases List.mem_cons.1 hx with rfl | hx
        · exact ok _ hn.1
        · exact ok _ (List.all_eq_true.1 hn.2 x hx)
      · cases not <;> simp at hx
        · subst hx; decide
        · rcases hx with rfl | rfl <;> decide
    · rcases List.mem_cons.1 hx with rfl | hx
      · exact ok _ hv.1
      · exact ok _ (List.all_eq_true.1 hv.2 x hx)
  have hR : RL ((n ++ ⟨(if not = true then [33, 61] else [61]).toArray⟩) ++ v) 0 = ascL ((b :: n1) ++ (if not = true then [33, 61] else [61]) ++ (c :: v1)) := by
    rw [RL_ascii hasc _ 0 (Nat.le_add_left _ 0 |> fun _ => (by omega : _ ≤ 0 + _)), List.drop_zero, hs, hb, hc]
  have en : (⟨(b :: n1).toArray⟩ : ByteArray) = n := by rw [← hb]
  have ev : (⟨(c :: v1).toArray⟩ : ByteArray) = v := by rw [← hc]
  have hz : 3 ≤ ((n ++ ⟨(if not = true then [33, 61] else [61]).toArray⟩) ++ v).size := by
    rw [app_size, app_size]
    have : 1 ≤ (⟨(if not = true then [33, 61] else [61]).toArray⟩ : ByteArray).size := by cases not <;> decide
    omega
  obtain ⟨f, hf⟩ : ∃ f, ((n ++ ⟨(if not = true then [33, 61] else [61]).toArray⟩) ++ v).size + 1 = f + 4 := ⟨((n ++ ⟨(if not = true then [33, 61] else [61]).toArray⟩) ++ v).size - 3, by omega⟩
  unfold poF
  rw [parseL_eq]
  unfold S0
  rw [strm_list _ _ _ (Nat.zero_le _), hR, hf, unq_strm b c n1 v1 hn.1 hn.2 hv.1 hv.2, en, ev]
  cases not
  · rw [if_neg (by simp), if_neg (by simp), unq_parse]; rfl
  · rw [if_pos rfl, if_pos rfl, unq_parse2]; rfl
theorem FnUnquoted : laws_FnUnquoted.Pure := by
  intro a0 a1 a2 h0 h1
  refine Ev.rounds (g := fun k => laws_FnUnquoted.f k a0 a1 a2) ?_
  unfold laws_FnUnquoted.f
  have j0t : Ev (fun k => laws_FnUnquoted.j0 k a0 a1 a2 true) true := ev_succ (fun k => rfl)
  have j1t : Ev (fun k => laws_FnUnquoted.j1 k a0 a1 a2 true) true := ev_succ (fun k => rfl)
  by_cases c1 : (a0.size : Int) > 2147483647
  · exact ev_ite_pos c1 j0t
  refine ev_ite_neg c1 ?_
  by_cases c2 : (a1.size : Int) > 2147483647
  · rw [decide_eq_true c2]; exact j0t
  rw [decide_eq_false c2]
  refine Ev.step (f := fun k => if (a0.size : Int) > 5000 then (laws_FnUnquoted.j1 k a0 a1 a2 true) else (laws_FnUnquoted.j1 k a0 a1 a2 (decide ((a1.size : Int) > 5000)))) (fun k => rfl) ?_
  by_cases c3 : (a0.size : Int) > 5000
  · exact ev_ite_pos c3 j1t
  refine ev_ite_neg c3 ?_
  by_cases c4 : (a1.size : Int) > 5000
  · rw [decide_eq_true c4]; exact j1t
  rw [decide_eq_false c4]
  obtain ⟨n, n1, n2, n3⟩ := safe_ev a0 (by omega)
  obtain ⟨v, v1, v2, v3⟩ := safe_ev a1 (by omega)
  refine Ev.step (f := fun k => (laws_safe.f k a0).bind fun t139 => ((laws_safe.f k a1).bind fun t140 => (if a2 = true then (if t139.size + 2 ≤ 9223372036854775807 then (if (t139 ++ (⟨#[33, 61]⟩ : ByteArray)).size + t140.size ≤ 9223372036854775807 then ((impl_ParseMatcher.f ((t139 ++ (⟨#[33, 61]⟩ : ByteArray)) ++ t140)).bind fun bt141 => (if bt141.2.2.2 = true then (some (bt141.1 == 1 && (bt141.2.1.toList == t139.toList && (bt141.2.2.1.toList == t140.toList)))) else (some false))) else (none)) else (none)) else (if t139.size + 1 ≤ 9223372036854775807 then (if (t139 ++ (⟨#[61]⟩ : ByteArray)).size + t140.size ≤ 9223372036854775807 then ((impl_ParseMatcher.f ((t139 ++ (⟨#[61]⟩ : ByteArray)) ++ t140)).bind fun bt146 => (if bt146.2.2.2 = true then (some (bt146.1 == 0 && (bt146.2.1.toList == t139.toList && (bt146.2.2.1.toList == t140.toList)))) else (some false))) else (none)) else (none))))) (fun k => rfl) ?_
  refine Ev.bind n1 (Ev.bind v1 ?_)
  have hp := unq_po n v n2 v2 (by omega) (by omega) a2
  have hz : ((n ++ ⟨(if a2 = true then [33, 61] else [61]).toArray⟩) ++ v).size ≤ 1000000 := by
    rw [app_size, app_size]
    have : (⟨(if a2 = true then [33, 61] else [61]).toArray⟩ : ByteArray).size ≤ 2 := by cases a2 <;> decide
    omega
  have hf : impl_ParseMatcher.f ((n ++ ⟨(if a2 = true then [33, 61] else [61]).toArray⟩) ++ v) = some (if a2 = true then 1 else 0, n, v, true) := by
    unfold impl_ParseMatcher.f
    rw [if_pos hz, hp]
  cases a2 with
  | true =>
    refine ev_ite_pos rfl (ev_ite_pos (by omega) (ev_ite_pos (by rw [app_size]; show n.size + 2 + v.size ≤ _; omega) ?_))
    have hf2 : impl_ParseMatcher.f ((n ++ (⟨#[33, 61]⟩ : ByteArray)) ++ v) = some (1, n, v, true) := hf
    rw [hf2]
    refine ev_bind_some (ev_ite_pos rfl ?_)
    simp only [beq_self_eq_true, Bool.and_self]
    exact Ev.now true
  | false =>
    refine ev_ite_neg (by simp) (ev_ite_pos (by omega) (ev_ite_pos (by rw [app_size]; show n.size + 1 + v.size ≤ _; omega) ?_))
    have hf2 : impl_ParseMatcher.f ((n ++ (⟨#[61]⟩ : ByteArray)) ++ v) = some (0, n, v, true) := hf
    rw [hf2]
    refine ev_bind_some (ev_ite_pos rfl ?_)
    simp only [beq_self_eq_true, Bool.and_self]
    exact Ev.now true
end Go.Proofs.YtmjoebnphacadaaDoor.Pure
