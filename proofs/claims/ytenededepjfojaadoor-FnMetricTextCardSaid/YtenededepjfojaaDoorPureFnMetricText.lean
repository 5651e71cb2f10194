/- The law FnMetricText over plain lists. -/
import Derived.Test.YtenededepjfojaaDoorQx6
import Derived.Test.YtenededepjfojaaDoorQx5
import Derived.Test.YtenededepjfojaaDoorMOwn
import Derived.Test.YtenededepjfojaaDoorSimple
set_option linter.unusedVariables false
set_option linter.unusedSimpArgs false
namespace Go.Proofs.YtenededepjfojaaDoor.Pure
open Go.RowKit Go.Proofs.YtenededepjfojaaDoor.Q Go.Proofs.YtenededepjfojaaDoor.MapsS Go.Proofs.YtenededepjfojaaDoor.Door Go.Proofs.YtenededepjfojaaDoorW.PrintWords Go.Proofs.YtenededepjfojaaDoorW.PrintLast
theorem lawsJoined_ev (l : List ByteArray) (s : ByteArray) (hl : l.length ≤ maxLen) (hb : l.length * s.size + sizes l ≤ 4611686018427387904) : Ev (fun k => laws_joined.f k l s) (joined l s) := by
  unfold laws_joined.f
  have g := ev_up (L := fun k i => laws_joined.l0 k s (joined (l.take i) s) l (l.length : Int) (i : Int)) (fun _ => joined l s) l.length (ev_succ fun k => by
      simp only [laws_joined.l0]
      rw [if_neg (by omega), List.take_of_length_le (Nat.le_refl _)]) (fun i hi g => by
    refine Ev.step (fun k => ?_) g
    show laws_joined.l0 (k + 1) _ _ _ _ _ = _
    have hw := wrap_next hi hl
    have hc : l.take (i + 1) = l.take i ++ [l[i]] := List.take_succ_eq_append_getElem hi
    have b1 := joined_take l s i
    have b2 := joined_take l s (i + 1)
    have hs : s.size ≤ l.length * s.size := Nat.le_mul_of_pos_left _ (by omega)
    simp only [laws_joined.l0]
    rw [rdOf_get hi]
    by_cases h0 : i = 0
    · subst h0
      rw [hc, List.take_zero, List.nil_append, joined_one] at b2
      rw [ByteArray.size_append] at b2
      rw [if_pos (by omega), if_pos (by omega), if_pos (by omega), if_neg (by omega), if_pos (by rw [List.take_zero]; simp only [joined, Go.Lib.join_nil, List.map_nil]; exact Nat.le_trans b2 (by omega)), hw, hc, List.take_zero, List.nil_append, joined_one]
      rfl
    · have hne : l.take i ≠ [] := by
        intro e
        have := congrArg List.length e
        rw [List.length_take, List.length_nil] at this
        omega
      rw [hc, joined_snoc _ _ _ hne, ByteArray.size_append, ByteArray.size_append] at b2
      rw [if_pos (by omega), if_pos (by omega), if_pos (by omega), if_pos (by omega), if_pos (by omega), if_pos (by rw [ByteArray.size_append]; omega), hw, hc, joined_snoc _ _ _ hne]) l.length 0 (by omega)
  exact g
theorem set_swap {x y a t : ByteArray} {E : List ByteArray} : ∀ A : List ByteArray, ((A ++ a :: t :: E).set (A.length + 1) x).set A.length y = A ++ y :: x :: E
  | [] => rfl
  | b :: A => by
    have ih := set_swap (x := x) (y := y) (a := a) (t := t) (E := E) A
    simp only [List.cons_append, List.length_cons, List.set_cons_succ, ih]
theorem rd_at {A E : List ByteArray} {t : ByteArray} : rdOf ByteArray.empty (A ++ t :: E) ((A.length : Nat) : Int) = t := by
  rw [get_B (by simp)]
  simp
theorem rd_at1 {A E : List ByteArray} {a t : ByteArray} : rdOf ByteArray.empty (A ++ a :: t :: E) ((A.length + 1 : Nat) : Int) = t := by
  rw [get_B (by simp)]
  simp
theorem less_of {a b : ByteArray} (h : Op.bytesLess a.toList b.toList = true) : LeB a b := by
  rw [less_iff] at h
  exact List.le_of_lt (of_decide_eq_true h)
theorem le_of_not_less {a b : ByteArray} (h : ¬ Op.bytesLess a.toList b.toList = true) : LeB b a := by
  rw [less_iff] at h
  exact List.not_lt.1 (fun e => h (decide_eq_true e))
theorem leB_trans {a b c : ByteArray} (h : LeB a b) (k : LeB b c) : LeB a c := List.le_trans h k
theorem sort_l2 (x0 : List S26) (V : ByteArray) (H : Bool) (n : Int) (i : Nat) (hi : i ≤ 4000000000) (D : List ByteArray) (t : ByteArray) (R : Bool) :
    ∀ (q : Nat) (A B : List ByteArray), A.length = q → q ≤ 4000000000 → (A ++ B).Pairwise LeB → (∀ b ∈ B, LeB t b) →
      (∀ P : List ByteArray, P.Perm (A ++ t :: B) → P.Pairwise LeB → Ev (fun k => laws_FnMetricText.l1 k x0 (P ++ D) V H n ((i + 1 : Nat) : Int)) R) →
      Ev (fun k => laws_FnMetricText.l2 k x0 ((A ++ t :: B) ++ D) V H ((A.length : Nat) : Int) n (i : Int)) R := by
  have hwi : wrap64 ((i : Int) + 1) = ((i + 1 : Nat) : Int) := by unfold wrap64; omega
  intro q
  induction q with
  | zero =>
    intro A B hA _ hs ht hn
    obtain rfl : A = [] := List.length_eq_zero_iff.1 hA
    refine Ev.step (fun k => ?_) (hn (t :: B) (List.Perm.refl _) (List.pairwise_cons.2 ⟨ht, by simpa using hs⟩))
    show laws_FnMetricText.l2 (k + 1) _ _ _ _ _ _ _ = _
    simp only [laws_FnMetricText.l2]
    rw [if_neg (by simp), hwi]
    rfl
  | succ q ih =>
    intro A B hA hq hs ht hn
    obtain ⟨A', a, rfl⟩ : ∃ A' a, A = A' ++ [a] := ⟨A.dropLast, A.getLast (fun e => by rw [e] at hA; cases hA), (List.dropLast_concat_getLast _).symm⟩
    have hA' : A'.length = q := by simpa using hA
    have el : (A' ++ [a]).length = A'.length + 1 := by simp
    have hw : wrap64 (((A'.length + 1 : Nat) : Int) - 1) = ((A'.length : Nat) : Int) := by unfold wrap64; omega
    have e1 : (A' ++ [a] ++ t :: B) ++ D = A' ++ a :: t :: (B ++ D) := by simp
    rw [el, e1]
    have hs' : (A' ++ (a :: B)).Pairwise LeB := by simpa using hs
    by_cases hb : Op.bytesLess t.toList a.toList = true
    · refine Ev.step (fun k => ?_) (ih A' (a :: B) hA' (by omega) hs' (fun b hb' => by
        rcases List.mem_cons.1 hb' with rfl | hb'
        · exact less_of hb
        · exact ht b hb') (fun P hp hP => hn P (hp.trans (by simpa using (List.Perm.swap a t B).append_left A')) hP))
      show laws_FnMetricText.l2 (k + 1) _ _ _ _ _ _ _ = _
      simp only [laws_FnMetricText.l2]
      rw [hw, if_pos (by omega), if_pos (by omega), if_pos (by simp; omega), if_pos (by omega), if_pos (by simp; omega), rd_at1, rd_at, if_pos hb]
      simp only [Int.toNat_natCast]
      rw [set_swap]
      simp
    · refine Ev.step (fun k => ?_) (hn (A' ++ a :: t :: B) (by simp) ?_)
      · show laws_FnMetricText.l2 (k + 1) _ _ _ _ _ _ _ = _
        simp only [laws_FnMetricText.l2]
        rw [hw, if_pos (by omega), if_pos (by omega), if_pos (by simp; omega), if_pos (by omega), if_pos (by simp; omega), rd_at1, rd_at, if_neg hb, hwi]
        simp
      · obtain ⟨p1, p2, p3⟩ := List.pairwise_append.1 hs'
        obtain ⟨p4, p5⟩ := List.pairwise_cons.1 p2
        have hat := le_of_not_less hb
        refine List.pairwise_append.2 ⟨p1, List.pairwise_cons.2 ⟨fun b hb' => ?_, List.pairwise_cons.2 ⟨ht, p5⟩⟩, fun x hx y hy => ?_⟩
        · rcases List.mem_cons.1 hb' with rfl | hb'
          · exact hat
          · exact p4 b hb'
        · rcases List.mem_cons.1 hy with rfl | hy
          · exact p3 x hx y List.mem_cons_self
          · rcases List.mem_cons.1 hy with rfl | hy
            · exact leB_trans (p3 x hx a List.mem_cons_self) hat
            · exact p3 x hx y (List.mem_cons_of_mem _ hy)
theorem sort_l1 (x0 : List S26) (V : ByteArray) (H : Bool) (rest : List ByteArray) (hr : rest.length ≤ 1000000) (R : Bool) (hend : Ev (fun k => laws_FnMetricText.l1 k x0 (sortB rest) V H (rest.length : Int) (rest.length : Int)) R) :
    ∀ (d : Nat) (P D : List ByteArray), D.length = d → (P ++ D).Perm rest → P.Pairwise LeB → Ev (fun k => laws_FnMetricText.l1 k x0 (P ++ D) V H (rest.length : Int) ((P.length : Nat) : Int)) R := by
  intro d
  induction d with
  | zero =>
    intro P D hD hp hP
    obtain rfl : D = [] := List.length_eq_zero_iff.1 hD
    rw [List.append_nil] at hp ⊢
    rw [hp.length_eq, sortB_eq hp hP]
    exact hend
  | succ d ih =>
    intro P D hD hp hP
    obtain ⟨t, D', rfl⟩ := List.exists_cons_of_length_eq_add_one hD
    have hlen : P.length + (D'.length + 1) = rest.length := by have := hp.length_eq; simpa using this
    refine Ev.step (fun k => ?_) (sort_l2 x0 V H (rest.length : Int) P.length (by omega) D' t R P.length P [] rfl (by omega) (by simpa using hP) (fun b hb => by cases hb) (fun S hS1 hS2 => ?_))
    · show laws_FnMetricText.l1 (k + 1) _ _ _ _ _ _ = _
      simp only [laws_FnMetricText.l1]
      rw [if_pos (by omega)]
      simp
    · have h1 : S.length = P.length + 1 := by have := hS1.length_eq; simpa using this
      have := ih S D' (by simpa using hD) ((hS1.append_right D').trans (by simpa using hp)) hS2
      rw [h1] at this
      exact this
theorem labS_eq (p : ByteArray × ByteArray) (h : smpB p.2 = true) : ((p.1 ++ ⟨#[61, 34]⟩) ++ p.2) ++ (⟨#[34]⟩ : ByteArray) = labT p := by
  obtain ⟨h1, h2⟩ := smp_list p.2.data.toList h
  rw [← labT_asc p h1]
  apply ba_of
  unfold quoL
  rw [h2]
  simp [bl, ByteArray.data_append]
theorem look_lastV {m : SM} (h : Rises m) (k : ByteArray) : lastV k m = MapsS.look k m := by
  have e := fill_perm h (List.Perm.refl m)
  have h1 := look_fill k m []
  rw [e] at h1
  rw [h1]
  cases lastV k m <;> rfl
theorem any_look {m : SM} : (m.any isNm) = (MapsS.look nameB m).isSome := by
  induction m with
  | nil => rfl
  | cons p r ih =>
    rw [List.any_cons, MapsS.look_cons, ih]
    by_cases e : nameB = p.1
    · rw [if_pos e]
      have : isNm p = true := decide_eq_true e.symm
      rw [this]
      rfl
    · rw [if_neg e]
      have : isNm p = false := decide_eq_false (fun h => e h.symm)
      rw [this]
      rfl
theorem metricB_long {m : SM} (h : ¬ (mrest m).length = 0 ∨ MapsS.look nameB m = none) : metricB m = (((MapsS.look nameB m).getD ⟨#[]⟩ ++ (⟨#[123]⟩ : ByteArray)) ++ mjoin m) ++ (⟨#[125]⟩ : ByteArray) := by
  unfold metricB
  by_cases h0 : (mrest m).length = 0
  · have hn := h.resolve_left (fun e => e h0)
    have e0 : mrest m = [] := List.length_eq_zero_iff.1 h0
    have eJ : mjoin m = ⟨#[]⟩ := by
      unfold mjoin
      rw [e0]
      have : sortB [] = [] := by simp [sortB]
      rw [this]
      rfl
    rw [if_pos h0, hn, eJ]
    decide +kernel
  · rw [if_neg h0]
theorem metric_name : impl_MetricText.f [(⟨(⟨#[95, 95, 110, 97, 109, 101, 95, 95]⟩ : ByteArray), (⟨#[109]⟩ : ByteArray)⟩ : S26), (⟨(⟨#[97]⟩ : ByteArray), (⟨#[98]⟩ : ByteArray)⟩ : S26)] = some ⟨#[109, 123, 97, 61, 34, 98, 34, 125]⟩ := by
  rw [implMetric _ (by simp) (fun p hp => by
    rcases List.mem_cons.1 hp with rfl | hp
    · exact ⟨by decide, by decide⟩
    · obtain rfl := List.mem_singleton.1 hp
      exact ⟨by decide, by decide⟩)]
  have e0 : setL [(⟨(⟨#[95, 95, 110, 97, 109, 101, 95, 95]⟩ : ByteArray), (⟨#[109]⟩ : ByteArray)⟩ : S26), (⟨(⟨#[97]⟩ : ByteArray), (⟨#[98]⟩ : ByteArray)⟩ : S26)] = [(nameB, (⟨#[109]⟩ : ByteArray)), ((⟨#[97]⟩ : ByteArray), (⟨#[98]⟩ : ByteArray))] := by
    show ins ⟨#[97]⟩ ⟨#[98]⟩ [(nameB, (⟨#[109]⟩ : ByteArray))] = _
    unfold ins
    rw [if_neg (by decide), if_neg (by rw [nameB_toList, Go.Lib.toList_data]; decide)]
    rfl
  have e1 : mrest [(nameB, (⟨#[109]⟩ : ByteArray)), ((⟨#[97]⟩ : ByteArray), (⟨#[98]⟩ : ByteArray))] = [⟨#[97, 61, 34, 98, 34]⟩] := by
    unfold mrest
    rw [List.filter_cons, if_neg (by decide), List.filter_cons, if_pos (by decide), List.filter_nil, List.map_cons, List.map_nil, labT_ab]
  have e2 : mjoin [(nameB, (⟨#[109]⟩ : ByteArray)), ((⟨#[97]⟩ : ByteArray), (⟨#[98]⟩ : ByteArray))] = ⟨#[97, 61, 34, 98, 34]⟩ := by
    unfold mjoin
    rw [e1]
    have e3 : sortB [(⟨#[97, 61, 34, 98, 34]⟩ : ByteArray)] = [⟨#[97, 61, 34, 98, 34]⟩] := by simp [sortB]
    rw [e3]
    decide +kernel
  rw [e0]
  unfold metricB
  rw [e1, e2]
  decide +kernel
theorem metric_name_toList : (⟨#[109, 123, 97, 61, 34, 98, 34, 125]⟩ : ByteArray).toList = ([109, 123, 97, 61, 34, 98, 34, 125] : List UInt8) := by rw [Go.Lib.toList_data]
theorem text_end (l : List S26) (hl : l.length ≤ 1000) (hf : Fits31 l) :
    Ev (fun k => laws_FnMetricText.l1 k l (sortB (mrest (setL l))) ((MapsS.look nameB (setL l)).getD ⟨#[]⟩) (MapsS.look nameB (setL l)).isSome ((mrest (setL l)).length : Int) ((mrest (setL l)).length : Int)) true := by
  have hms : (setL l).length ≤ 1000 := Nat.le_trans (setL_le l) hl
  have hs := set31 hf
  have hsm := mjoin_small hms hs
  have hjs := mjoin_size hms hs
  have hlen : (sortB (mrest (setL l))).length = (mrest (setL l)).length := (sortB_perm _).length_eq
  have hI := implMetric l hl hf
  have hlong := metricB_long (m := setL l)
  have hname : ∀ v, (mrest (setL l)).length = 0 → MapsS.look nameB (setL l) = some v → metricB (setL l) = v := fun v h0 hk => by unfold metricB; rw [if_pos h0, hk]
  have hVs : ((MapsS.look nameB (setL l)).getD ⟨#[]⟩).size ≤ 2147483647 := by
    cases hk : MapsS.look nameB (setL l) with
    | none => show (⟨#[]⟩ : ByteArray).size ≤ _; decide
    | some v => exact (hs _ ((MapsS.look_mem (setL_rises l)).1 hk)).2
  have z2 : (⟨#[44, 32]⟩ : ByteArray).size = 2 := rfl
  have z1 : (⟨#[123]⟩ : ByteArray).size = 1 := rfl
  have hJ : Ev (fun k => laws_joined.f k (sortB (mrest (setL l))) (⟨#[44, 32]⟩ : ByteArray)) (mjoin (setL l)) := lawsJoined_ev _ _ (by rw [hlen]; unfold maxLen; omega) (by rw [z2, hlen, sizes_perm (sortB_perm _)]; omega)
  have hv1 : ((MapsS.look nameB (setL l)).getD ⟨#[]⟩).size + 1 ≤ 9223372036854775807 := by omega
  refine Ev.step (fun k => by
    show laws_FnMetricText.l1 (k + 1) _ _ _ _ _ _ = _
    simp only [laws_FnMetricText.l1]
    rw [if_neg (by omega), if_pos hv1]) (Ev.bind hJ ?_)
  simp only [ByteArray.size_append, z1]
  rw [if_pos (by omega), if_pos (by omega), hI]
  simp only [Option.bind_some]
  cases hk : MapsS.look nameB (setL l) with
  | none =>
    rw [hk] at hlong
    simp only [Option.isSome_none, Bool.false_eq_true, if_false]
    rw [hlong (.inr rfl)]
    simp only [beq_self_eq_true]
    exact Ev.now _
  | some v =>
    rw [hk] at hlong
    simp only [Option.isSome_some, if_true, Option.getD_some]
    by_cases h0 : (mrest (setL l)).length = 0
    · rw [if_pos (by omega), hname v h0 hk]
      simp only [beq_self_eq_true]
      exact Ev.now _
    · rw [if_neg (by omega), hlong (.inl h0)]
      simp only [Option.getD_some, beq_self_eq_true]
      exact Ev.now _
theorem mem_smp {l : List S26} (h : ∀ p ∈ l, smpB p.f0 = true ∧ smpB p.f1 = true) : ∀ p ∈ setL l, smpB p.2 = true := by
  intro p hp
  obtain ⟨q, hq, rfl⟩ := mem_setL l hp
  exact (h q hq).2
theorem FnMetricText : laws_FnMetricText.Pure := by
  intro l ⟨hl, hw⟩
  refine Ev.rounds ?_
  unfold laws_FnMetricText.f
  refine Ev.bind (zzFits1_ev l hl) ?_
  by_cases hb : (l.length : Int) > 2147483647
  · simp only [if_pos hb, Bool.false_eq_true, if_false]
    exact Ev.now _
  simp only [if_neg hb]
  cases hf0 : l.all fits2 with
  | false =>
    simp only [Bool.false_eq_true, if_false]
    exact Ev.now _
  | true =>
  have hf := fits31 hf0
  simp only [if_true]
  rw [metric_name]
  simp only [Option.bind_some, if_pos metric_name_toList]
  obtain ⟨r, hr, hc⟩ := simple_ev l (by omega) hf
  refine Ev.bind hr ?_
  cases r with
  | false =>
    simp only [Bool.false_eq_true, if_false]
    exact Ev.now _
  | true =>
  obtain ⟨h300, hsmp⟩ := hc rfl
  simp only [if_true]
  refine Ev.bind (pairs_ev l (by omega)) (Ev.bind (specSet_pairs l (by omega)) ?_)
  have hend := text_end l (by omega) hf
  have hms : (setL l).length ≤ 1000 := Nat.le_trans (setL_le l) (by omega)
  have hs := set31 hf
  have hsm := mem_smp hsmp
  have hri := setL_rises l
  have hrl : (mrest (setL l)).length ≤ 1000000 := by
    have : (mrest (setL l)).length ≤ (setL l).length := by unfold mrest; rw [List.length_map]; exact List.length_filter_le _ _
    omega
  rw [List.length_map]
  generalize setL l = m at *
  have hV : ∀ v, MapsS.look nameB m = some v → v.size ≤ 2147483647 := fun v hk => (hs _ ((MapsS.look_mem hri).1 hk)).2
  have hl1 : Ev (fun k => laws_FnMetricText.l1 k l (mrest m) ((MapsS.look nameB m).getD ⟨#[]⟩) (MapsS.look nameB m).isSome ((mrest m).length : Int) 0) true :=
    sort_l1 l _ _ (mrest m) hrl true hend (mrest m).length [] (mrest m) rfl (List.Perm.refl _) List.Pairwise.nil
  have hj1 : ∀ b : Bool, Ev (fun k => laws_FnMetricText.j1 k l (mrest m) ((MapsS.look nameB m).getD ⟨#[]⟩) (MapsS.look nameB m).isSome b) true := by
    intro b
    cases b with
    | true =>
      refine ev_succ fun k => ?_
      simp only [laws_FnMetricText.j1]
      rw [if_pos trivial]
    | false =>
      refine Ev.step (fun k => ?_) hl1
      show laws_FnMetricText.j1 (k + 1) _ _ _ _ _ = _
      simp only [laws_FnMetricText.j1]
      rw [if_neg (by simp)]
  have key : ∀ d i, i + d = m.length → Ev (fun k => laws_FnMetricText.l0 k l (mrest (m.take i)) (lastOf nameB (m.take i) ⟨#[]⟩) ((m.take i).any isNm) (m.map unS) (m.length : Int) (i : Int)) true := by
    intro d
    induction d with
    | zero =>
      intro i hi
      obtain rfl : i = m.length := by omega
      rw [List.take_of_length_le (Nat.le_refl _), lastOf_eq, look_lastV hri, any_look]
      refine Ev.step (fun k => by
        show laws_FnMetricText.l0 (k + 1) _ _ _ _ _ _ _ = _
        simp only [laws_FnMetricText.l0]
        rw [if_neg (by omega)]) (?_ : Ev (fun k => if (MapsS.look nameB m).isSome = true then ((laws_legacy.f k ((MapsS.look nameB m).getD ⟨#[]⟩) true).bind fun t197 => (laws_FnMetricText.j1 k l (mrest m) ((MapsS.look nameB m).getD ⟨#[]⟩) (MapsS.look nameB m).isSome (!t197))) else (laws_FnMetricText.j1 k l (mrest m) ((MapsS.look nameB m).getD ⟨#[]⟩) (MapsS.look nameB m).isSome false)) true)
      cases hk : MapsS.look nameB m with
      | none =>
        rw [hk] at hj1
        simp only [Option.isSome_none, Bool.false_eq_true, if_false]
        exact hj1 false
      | some v =>
        rw [hk] at hj1
        simp only [Option.isSome_some, if_true, Option.getD_some]
        obtain ⟨b, hb⟩ := legacy_ev v true (hV v hk)
        exact Ev.bind hb (hj1 (!b))
    | succ d ih =>
      intro i hi
      have hlt : i < m.length := by omega
      have hnext := ih (i + 1) (by omega)
      have hw := wrap_next hlt (by unfold maxLen; omega)
      have hsz := hs _ (List.getElem_mem hlt)
      have hsi := hsm _ (List.getElem_mem hlt)
      have hml : (mrest (m.take i)).length ≤ 1000000 := by
        unfold mrest
        rw [List.length_map]
        refine Nat.le_trans (List.length_filter_le _ _) ?_
        rw [List.length_take]
        omega
      rw [mrest_more m i hlt] at hnext
      have e1 : lastOf nameB (m.take (i + 1)) ⟨#[]⟩ = if m[i].1 = nameB then m[i].2 else lastOf nameB (m.take i) ⟨#[]⟩ := by
        rw [List.take_succ_eq_append_getElem hlt]
        unfold lastOf
        rw [List.foldl_append]
        rfl
      have e2 : (m.take (i + 1)).any isNm = ((m.take i).any isNm || isNm m[i]) := by
        rw [List.take_succ_eq_append_getElem hlt, List.any_append]
        simp
      rw [e1, e2] at hnext
      have z1 : (⟨#[61, 34]⟩ : ByteArray).size = 2 := rfl
      refine Ev.step (fun k => ?_) hnext
      show laws_FnMetricText.l0 (k + 1) _ _ _ _ _ _ _ = _
      simp only [laws_FnMetricText.l0, List.length_map]
      rw [if_pos (by omega), if_pos (by omega), if_pos (by omega), get_un hlt, hw]
      show (if m[i].1.toList = ([95, 95, 110, 97, 109, 101, 95, 95] : List UInt8) then _ else _) = _
      by_cases hn : m[i].1 = nameB
      · have e3 : isNm m[i] = true := decide_eq_true hn
        rw [if_pos (nameB_eq.2 hn), if_pos hn, e3, if_pos rfl, List.append_nil, Bool.or_true]
        rfl
      · have e3 : isNm m[i] = false := decide_eq_false hn
        have hlab := labS_eq m[i] hsi
        rw [if_neg (fun e => hn (nameB_eq.1 e)), if_neg hn, e3, if_neg (show ¬ (false : Bool) = true by simp), Bool.or_false, ← hlab]
        show (if m[i].1.size + 2 ≤ _ then _ else _) = _
        rw [if_pos (by omega)]
        show (if (m[i].1 ++ (⟨#[61, 34]⟩ : ByteArray)).size + m[i].2.size ≤ _ then _ else _) = _
        rw [if_pos (by rw [ByteArray.size_append]; omega)]
        show (if ((m[i].1 ++ (⟨#[61, 34]⟩ : ByteArray)) ++ m[i].2).size + 1 ≤ _ then _ else _) = _
        rw [if_pos (by rw [ByteArray.size_append, ByteArray.size_append]; omega), if_pos (by omega)]
        rfl
  exact key m.length 0 (by omega)
end Go.Proofs.YtenededepjfojaaDoor.Pure
