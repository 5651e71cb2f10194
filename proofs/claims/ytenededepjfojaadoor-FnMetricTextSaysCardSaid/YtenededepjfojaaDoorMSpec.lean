/- The reference's text of a metric is the program's, where it says one. Plain lists. -/
import Derived.Test.YtenededepjfojaaDoorQR
import Derived.Test.YtenededepjfojaaDoorMOwn
set_option linter.unusedVariables false
set_option linter.unusedSimpArgs false
namespace Go.Proofs.YtenededepjfojaaDoor.Pure
open Go.RowKit Go.Proofs.YtenededepjfojaaDoor.Q Go.Proofs.YtenededepjfojaaDoor.MapsS Go.Proofs.YtenededepjfojaaDoor.Door Go.Proofs.YtenededepjfojaaDoorW.PrintWords Go.Proofs.YtenededepjfojaaDoorW.PrintLast
theorem insAll_more (a : List ByteArray) (t : ByteArray) : insAll (a ++ [t]) [] = insB t (insAll a []) := by simp [insAll, List.foldl_append]
theorem mrest_more (m : SM) (i : Nat) (h : i < m.length) : mrest (m.take (i + 1)) = mrest (m.take i) ++ (if isNm m[i] then [] else [labT m[i]]) := by
  rw [List.take_succ_eq_append_getElem h]
  unfold mrest
  rw [List.filter_append, List.map_append]
  congr 1
  cases hn : isNm m[i] <;> simp [hn]
theorem get_B {l : List ByteArray} {i : Nat} (h : i < l.length) : rdOf ByteArray.empty l (i : Int) = l[i] := rdOf_get h
theorem ins_l1 (x0 : List S31) (out : List ByteArray) (t : ByteArray) (x13 : List S31) (n : Int) (i N : Nat) (hi : i < N) (hN : N ≤ 4000000000) (ho : out.length ≤ i) (R : ByteArray × Int) :
    ∀ (d a : Nat), a + d = out.length → Ev (fun k => spec_MetricText.l0 k x0 (out.take a ++ insB t (out.drop a)) x13 n ((i + 1 : Nat) : Int)) R →
      Ev (fun k => spec_MetricText.l1 k x0 out t (a : Int) x13 n (i : Int)) R
  | 0, a, h, hR => by
    refine Ev.step (fun k => ?_) hR
    show spec_MetricText.l1 (k + 1) _ _ _ _ _ _ _ = _
    simp only [spec_MetricText.l1, Option.bind_some, List.length_nil, List.length_append, List.length_take, List.length_cons, List.length_drop, Int.toNat_natCast, List.nil_append]
    rw [if_neg (by omega), if_pos (by omega), if_pos (by omega), if_pos (by omega), if_pos (by omega), if_pos (by omega), wrap_next hi (by unfold maxLen; omega)]
    congr 1
    rw [List.drop_of_length_le (by omega : out.length ≤ a), List.append_nil]
    rfl
  | d + 1, a, h, hR => by
    have ha : a < out.length := by omega
    have hd : out.drop a = out[a] :: out.drop (a + 1) := List.drop_eq_getElem_cons ha
    rw [hd] at hR
    unfold insB at hR
    by_cases hb : Op.bytesLess out[a].toList t.toList = true
    · rw [if_pos hb] at hR
      refine Ev.step (fun k => ?_) (ins_l1 x0 out t x13 n i N hi hN ho R d (a + 1) (by omega) ?_)
      · show spec_MetricText.l1 (k + 1) _ _ _ _ _ _ _ = _
        simp only [spec_MetricText.l1]
        rw [if_pos (by omega), if_pos (by omega), get_B ha, if_pos hb, wrap_next ha (by unfold maxLen; omega)]
      · rw [List.take_succ_eq_append_getElem ha, List.append_assoc]
        exact hR
    · rw [if_neg hb] at hR
      refine Ev.step (fun k => ?_) hR
      show spec_MetricText.l1 (k + 1) _ _ _ _ _ _ _ = _
      simp only [spec_MetricText.l1, Option.bind_some, List.length_nil, List.length_append, List.length_take, List.length_cons, List.length_drop, Int.toNat_natCast, List.nil_append]
      rw [if_pos (by omega), if_pos (by omega), get_B ha, if_neg hb, if_pos (by omega), if_pos (by omega), if_pos (by omega), if_pos (by omega), wrap_next hi (by unfold maxLen; omega)]
      congr 1
      rw [hd]
      simp
theorem nameB_eq {x : ByteArray} : x.toList = ([95, 95, 110, 97, 109, 101, 95, 95] : List UInt8) ↔ x = nameB := by
  rw [← nameB_toList]
  exact ⟨fun h => ba_ext' h, fun h => by rw [h]⟩
theorem metric_end (l : List S26) (hl : l.length ≤ 1000) (hf : Fits31 l) (x13 : List S31) (n : Nat) :
    Ev (fun k => spec_MetricText.l0 k (l.map toSP) (sortB (mrest (setL l))) x13 (n : Int) (n : Int)) (metricB (setL l), 1) := by
  have hms : (setL l).length ≤ 1000 := Nat.le_trans (setL_le l) hl
  have hs := set31 hf
  have hsm := mjoin_small hms hs
  have hjs := mjoin_size hms hs
  have hlen : (sortB (mrest (setL l))).length = (mrest (setL l)).length := (sortB_perm _).length_eq
  have hV : valS l nameB = (MapsS.look nameB (setL l)).getD ⟨#[]⟩ := valS_look l nameB
  have hVs : (valS l nameB).size ≤ 2147483647 := by
    rw [hV]
    cases hk : MapsS.look nameB (setL l) with
    | none => show (⟨#[]⟩ : ByteArray).size ≤ _; decide
    | some v => exact (hs _ ((MapsS.look_mem (setL_rises l)).1 hk)).2
  have z2 : (⟨#[44, 32]⟩ : ByteArray).size = 2 := rfl
  have z1 : (⟨#[123]⟩ : ByteArray).size = 1 := rfl
  have hJ : Ev (fun k => spec_Joined.f k (sortB (mrest (setL l))) (⟨#[44, 32]⟩ : ByteArray)) (mjoin (setL l)) := specJoined_ev _ _ (by rw [hlen]; unfold maxLen; omega) (by rw [z2, hlen, sizes_perm (sortB_perm _)]; omega)
  have hlong : Ev (fun k => (spec_Joined.f k (sortB (mrest (setL l))) (⟨#[44, 32]⟩ : ByteArray)).bind fun t290 => (if (valS l nameB ++ (⟨#[123]⟩ : ByteArray)).size + t290.size ≤ 9223372036854775807 then (if ((valS l nameB ++ (⟨#[123]⟩ : ByteArray)) ++ t290).size + 1 ≤ 9223372036854775807 then (some (((valS l nameB ++ (⟨#[123]⟩ : ByteArray)) ++ t290) ++ (⟨#[125]⟩ : ByteArray), (1 : Int))) else (none)) else (none))) (((valS l nameB ++ (⟨#[123]⟩ : ByteArray)) ++ mjoin (setL l)) ++ (⟨#[125]⟩ : ByteArray), 1) := by
    refine Ev.bind hJ ?_
    simp only [ByteArray.size_append, z1]
    rw [if_pos (by omega), if_pos (by omega)]
    exact Ev.now _
  have hv1 : (valS l nameB).size + 1 ≤ 9223372036854775807 := by omega
  refine Ev.step (fun k => by
    show spec_MetricText.l0 (k + 1) _ _ _ _ _ = _
    simp only [spec_MetricText.l0]
    rw [if_neg (by omega)]
    rfl) (Ev.bind (specValue_ev l (by omega) nameB) ?_)
  simp only [if_pos hv1]
  by_cases h0 : (mrest (setL l)).length = 0
  · have h0' : ((sortB (mrest (setL l))).length : Int) = 0 := by omega
    simp only [if_pos h0']
    refine Ev.bind (specHas_ev l (by omega) nameB) ?_
    cases hk : MapsS.look nameB (setL l) with
    | some v =>
      have e : metricB (setL l) = valS l nameB := by rw [hV]; unfold metricB; rw [if_pos h0, hk]; rfl
      rw [e]
      simp only [Option.isSome_some, if_true]
      exact Ev.now _
    | none =>
      have eV : valS l nameB = ⟨#[]⟩ := by rw [hV, hk]; rfl
      have e0 : mrest (setL l) = [] := List.length_eq_zero_iff.1 h0
      have eJ : mjoin (setL l) = ⟨#[]⟩ := by
        unfold mjoin
        rw [e0]
        have : sortB [] = [] := by simp [sortB]
        rw [this]
        rfl
      have e : metricB (setL l) = ((valS l nameB ++ (⟨#[123]⟩ : ByteArray)) ++ mjoin (setL l)) ++ (⟨#[125]⟩ : ByteArray) := by
        rw [eV, eJ]
        unfold metricB
        rw [if_pos h0, hk]
        decide +kernel
      rw [e]
      simp only [Option.isSome_none, Bool.false_eq_true, if_false]
      exact hlong
  · have h0' : ¬ ((sortB (mrest (setL l))).length : Int) = 0 := by omega
    simp only [if_neg h0']
    have e : metricB (setL l) = ((valS l nameB ++ (⟨#[123]⟩ : ByteArray)) ++ mjoin (setL l)) ++ (⟨#[125]⟩ : ByteArray) := by
      rw [hV]
      unfold metricB
      rw [if_neg h0]
    rw [e]
    exact hlong
theorem specMetric_ev (l : List S26) (hl : l.length ≤ 1000) (hf : Fits31 l) : ∃ r, Ev (fun k => spec_MetricText.f k (l.map toSP)) r ∧ (r.2 = 1 → r.1 = metricB (setL l)) := by
  obtain ⟨m, hm⟩ : ∃ m, setL l = m := ⟨_, rfl⟩
  have hms : m.length ≤ 1000 := by rw [← hm]; exact Nat.le_trans (setL_le l) hl
  have hs := set31 hf
  have hend := metric_end l hl hf (m.map unS) m.length
  have hset := specSet_pairs l (by omega)
  rw [hm] at hs hend hset ⊢
  have key : ∀ d i, i + d = m.length → ∃ r, Ev (fun k => spec_MetricText.l0 k (l.map toSP) (insAll (mrest (m.take i)) []) (m.map unS) (m.length : Int) (i : Int)) r ∧ (r.2 = 1 → r.1 = metricB m) := by
    intro d
    induction d with
    | zero =>
      intro i hi
      obtain rfl : i = m.length := by omega
      refine ⟨(metricB m, 1), ?_, fun _ => rfl⟩
      rw [List.take_of_length_le (Nat.le_refl _), insAll_sort]
      exact hend
    | succ d ih =>
      intro i hi
      have hlt : i < m.length := by omega
      have hlu : i < (m.map unS).length := by rw [List.length_map]; exact hlt
      obtain ⟨r, hr, hc⟩ := ih (i + 1) (by omega)
      rw [mrest_more m i hlt] at hr
      have hsz := hs _ (List.getElem_mem hlt)
      have hol : (insAll (mrest (m.take i)) []).length ≤ i := by
        rw [insAll_len]
        unfold mrest
        rw [List.length_map]
        refine Nat.le_trans (List.length_filter_le _ _) ?_
        rw [List.length_take]
        omega
      have hw := wrap_next hlt (by unfold maxLen; omega)
      have hrA : m[i].1 = nameB → Ev (fun k => spec_MetricText.l0 k (l.map toSP) (insAll (mrest (m.take i)) []) (m.map unS) (m.length : Int) ((i + 1 : Nat) : Int)) r := fun hn => by
        have e1 : isNm m[i] = true := decide_eq_true hn
        rw [e1, if_pos rfl, List.append_nil] at hr
        exact hr
      have hrB : m[i].1 ≠ nameB → Ev (fun k => spec_MetricText.l0 k (l.map toSP) (insB (labT m[i]) (insAll (mrest (m.take i)) [])) (m.map unS) (m.length : Int) ((i + 1 : Nat) : Int)) r := fun hn => by
        have e1 : isNm m[i] = false := decide_eq_false hn
        rw [e1, if_neg (by simp), insAll_more] at hr
        exact hr
      clear hr
      generalize insAll (mrest (m.take i)) [] = out at *
      have hq := quoted_ev m[i].2 hsz.2
      have hstep : ∀ (R : ByteArray × Int), Ev (fun k => if (quoR m[i].2.data.toList m[i].2).2 = 1 then (spec_MetricText.j1 k (l.map toSP) out (quoR m[i].2.data.toList m[i].2).1 (m.map unS) (m.length : Int) (i : Int) false m[i].1 m[i].2) else (spec_MetricText.j1 k (l.map toSP) out (quoR m[i].2.data.toList m[i].2).1 (m.map unS) (m.length : Int) (i : Int) (m[i].1.toList != ([95, 95, 110, 97, 109, 101, 95, 95] : List UInt8)) m[i].1 m[i].2)) R →
          Ev (fun k => spec_MetricText.l0 k (l.map toSP) out (m.map unS) (m.length : Int) (i : Int)) R := by
        intro R hR
        refine Ev.step (fun k => by
          show spec_MetricText.l0 (k + 1) _ _ _ _ _ = _
          simp only [spec_MetricText.l0, List.length_map]
          rw [if_pos (by omega), if_pos (by omega), if_pos (by omega), get_un hlt]
          rfl) (Ev.bind hq hR)
      have hgo : ∀ (fl : Bool) (x7 : ByteArray), fl = false → (m[i].1 ≠ nameB → x7 = ⟨(quoL m[i].2.data.toList).toArray⟩ ∧ m[i].2.data.toList.all asc = true) → Ev (fun k => spec_MetricText.j1 k (l.map toSP) out x7 (m.map unS) (m.length : Int) (i : Int) fl m[i].1 m[i].2) r := by
        intro fl x7 hfl hx7
        subst hfl
        by_cases hn : m[i].1 = nameB
        · refine Ev.step (fun k => ?_) (hrA hn)
          show spec_MetricText.j1 (k + 1) _ _ _ _ _ _ _ _ _ = _
          simp only [spec_MetricText.j1]
          rw [if_neg (by simp), if_pos (nameB_eq.2 hn), hw]
        · obtain ⟨q1, q2⟩ := hx7 hn
          have hlt' := labT_asc m[i] q2
          have hls := labT_size m[i] hsz
          have z1 : (⟨#[61]⟩ : ByteArray).size = 1 := rfl
          refine Ev.step (fun k => ?_) (ins_l1 (l.map toSP) out (labT m[i]) (m.map unS) (m.length : Int) i m.length hlt (by omega) hol r out.length 0 (by omega) (by rw [List.take_zero, List.nil_append, List.drop_zero]; exact hrB hn))
          show spec_MetricText.j1 (k + 1) _ _ _ _ _ _ _ _ _ = _
          simp only [spec_MetricText.j1]
          rw [if_neg (by simp), if_neg (fun e => hn (nameB_eq.1 e)), if_pos (by omega), q1, if_pos (by rw [← ByteArray.size_append, hlt']; omega), hlt']
          rfl
      by_cases ha : m[i].2.data.toList.all asc = true
      · refine ⟨r, hstep r ?_, hc⟩
        have e : quoR m[i].2.data.toList m[i].2 = (⟨(quoL m[i].2.data.toList).toArray⟩, 1) := by unfold quoR; rw [if_pos ha]
        rw [e]
        simp only [if_true]
        exact hgo false _ rfl (fun _ => ⟨rfl, ha⟩)
      · have e : quoR m[i].2.data.toList m[i].2 = (⟨#[]⟩, 2) := by unfold quoR; rw [if_neg ha]
        by_cases hn : m[i].1 = nameB
        · refine ⟨r, hstep r ?_, hc⟩
          rw [e]
          simp only [if_neg (show ¬ (2 : Int) = 1 by decide)]
          exact hgo _ _ (by rw [hn, nameB_toList]; rfl) (fun h => absurd hn h)
        · refine ⟨((⟨#[]⟩ : ByteArray), (2 : Int)), hstep _ ?_, fun h => absurd h (show ¬ (2 : Int) = 1 by decide)⟩
          rw [e]
          simp only [if_neg (show ¬ (2 : Int) = 1 by decide)]
          refine ev_succ fun k => ?_
          simp only [spec_MetricText.j1]
          rw [if_pos (bne_iff_ne.2 fun e => hn (nameB_eq.1 e))]
  obtain ⟨r, hr, hc⟩ := key m.length 0 (by omega)
  refine ⟨r, ?_, hc⟩
  unfold spec_MetricText.f
  refine Ev.bind hset ?_
  rw [List.length_map]
  exact hr
end Go.Proofs.YtenededepjfojaaDoor.Pure
