/- The law FnSignatures over plain lists. -/
import Derived.Test.YtcneoonhdfblaaaQx8
import Derived.Test.YtcneoonhdfblaaaSetV
set_option linter.unusedVariables false
set_option linter.unusedSimpArgs false
namespace Go.Proofs.Ytcneoonhdfblaaa.Pure
open Go.RowKit Go.Proofs.Ytcneoonhdfblaaa.Q Go.Proofs.Ytcneoonhdfblaaa.MapsS Go.Proofs.YtcneoonhdfblaaaW.PrintWords Go.Proofs.YtcneoonhdfblaaaW.PrintLast
theorem bt_natG {s : ByteArray} {i : Nat} (h : i < s.size) : bt s (i : Int) = ((s[i]'h).toNat : Int) := by simp [bt, h]
theorem fnv_ev (h : Int) (s : ByteArray) (hs : s.size ≤ maxLen) : Ev (fun k => spec_fnv.f k h s) (hStr h s) := by
  have g := ev_up (L := fun k i => spec_fnv.l0 k ((s.data.toList.take i).foldl hStep h) s (s.size : Int) (i : Int)) (fun _ => hStr h s) s.size (ev_succ (fun k => by
      simp only [spec_fnv.l0]
      rw [if_neg (by omega), List.take_of_length_le (by simp)]
      rfl)) (fun i hi g => by
    refine Ev.step (fun k => ?_) g
    show spec_fnv.l0 (k + 1) _ s _ (i : Int) = _
    simp only [spec_fnv.l0]
    rw [if_pos (by omega), if_pos (by omega), if_pos (by omega), wrap_next hi hs]
    have hl : i < s.data.toList.length := by simpa using hi
    have eb : bt s (i : Int) = ((s.data.toList[i]'hl).toNat : Int) := by rw [bt_natG hi]; rfl
    rw [eb, List.take_succ_eq_append_getElem hl, List.foldl_append]
    simp only [List.foldl_cons, List.foldl_nil, hStep]) s.size 0 (by omega)
  exact g
theorem byte_str (h : Int) : hStr h (⟨#[255]⟩ : ByteArray) = hByte h 255 := rfl
theorem summed_ev (h : Int) (a b : ByteArray) (ha : a.size ≤ maxLen) (hb : b.size ≤ maxLen) : Ev (fun k => spec_summed.f k h a b) (hByte (hStr (hByte (hStr h a) 255) b) 255) := by
  have h1 : (⟨#[255]⟩ : ByteArray).size ≤ maxLen := by decide
  unfold spec_summed.f
  refine Ev.bind (fnv_ev h a ha) (Ev.bind (fnv_ev _ _ h1) (Ev.bind (fnv_ev _ b hb) (Ev.bind (fnv_ev _ _ h1) ?_)))
  rw [byte_str, byte_str]
  exact Ev.now _
def sumP (s : Int) (p : ByteArray × ByteArray) : Int := hByte (hStr (hByte (hStr s p.1) 255) p.2) 255
theorem sig_fold (m : SM) : ∀ (l : SM), (∀ p ∈ l, Go.Proofs.Ytcneoonhdfblaaa.Q.valOf m p.1 = p.2) → ∀ s, (l.map (·.1)).foldl (sigStep m) s = l.foldl sumP s
  | [], _, _ => rfl
  | p :: l, h, s => by
    have e : sigStep m s p.1 = sumP s p := by
      unfold sigStep sumP
      rw [h p List.mem_cons_self]
    rw [List.map_cons, List.foldl_cons, List.foldl_cons, sig_fold m l (fun q hq => h q (List.mem_cons_of_mem _ hq)), e]
def sumS (l : SM) : Int := l.foldl sumP 14695981039346656037
theorem valOf_mem {m : SM} (hm : Rises m) {p : ByteArray × ByteArray} (h : p ∈ m) : Go.Proofs.Ytcneoonhdfblaaa.Q.valOf m p.1 = p.2 := by
  unfold Go.Proofs.Ytcneoonhdfblaaa.Q.valOf
  rw [(look_mem hm (k := p.1) (v := p.2)).2 h]
  rfl
theorem sigN_sum {m l : SM} (hm : Rises m) (h : ∀ p ∈ l, p ∈ m) : sigN m (l.map (·.1)) = sumS l := by
  unfold sigN sumS
  exact sig_fold m l (fun p hp => valOf_mem hm (h p hp)) _
theorem setM_fill (l : SM) : setM (l.map fun p => (⟨p.1, p.2⟩ : S32)) = fill l [] := by
  unfold setM fill
  rw [List.foldl_map]
theorem sig_own {l : SM} (hl : Rises l) : sigM (setM (l.map fun p => (⟨p.1, p.2⟩ : S32))) = sumS l := by
  rw [setM_fill, fill_perm hl (List.Perm.refl l)]
  exact sigN_sum hl (fun p hp => hp)
theorem print_ev (l : List S37) (I : SM) (hl : l.length ≤ 1000000) (hp : (l.map prS).Perm I) (hI : Rises I) (hs : ∀ p ∈ I, p.1.size ≤ maxLen ∧ p.2.size ≤ maxLen) : Ev (fun k => spec_SetPrint.f k l) (sumS I) := by
  have hset := specSet_ev l (by omega)
  rw [fill_perm hI hp] at hset
  have hIl : I.length ≤ 1000000 := by rw [← hp.length_eq, List.length_map]; exact hl
  unfold spec_SetPrint.f
  refine Ev.bind hset ?_
  rw [List.length_map]
  have g := ev_up (L := fun k i => spec_SetPrint.l0 k ((I.take i).foldl sumP 14695981039346656037) (I.map unS) (I.length : Int) (i : Int)) (fun _ => sumS I) I.length (ev_succ fun k => by
      simp only [spec_SetPrint.l0]
      rw [if_neg (by omega), List.take_of_length_le (Nat.le_refl _)]
      rfl) (fun i hi g => by
    have hz := hs _ (List.getElem_mem hi)
    have hw := wrap_next hi (by unfold maxLen; omega)
    rw [List.take_succ_eq_append_getElem hi, List.foldl_append, List.foldl_cons, List.foldl_nil] at g
    refine Ev.step (f := fun k => (spec_summed.f k ((I.take i).foldl sumP 14695981039346656037) I[i].1 I[i].2).bind fun t175 => (spec_SetPrint.l0 k t175 (I.map unS) (I.length : Int) ((i + 1 : Nat) : Int))) (fun k => ?_) (Ev.bind (summed_ev _ I[i].1 I[i].2 hz.1 hz.2) g)
    show spec_SetPrint.l0 (k + 1) _ _ _ _ = _
    simp only [spec_SetPrint.l0, List.length_map]
    rw [if_pos (by omega), if_pos (by omega), if_pos (by omega), get_un hi, hw]
    rfl) I.length 0 (by omega)
  exact g
theorem get_N {l : List ByteArray} {i : Nat} (h : i < l.length) : rdOf ByteArray.empty l (i : Int) = l[i] := by simp [rdOf, h]
def vlist (l : List S32) (N : List ByteArray) : List S37 := N.map fun n => (⟨n, valS l n⟩ : S37)
theorem sigFor_ev (l : List S32) (hl : l.length ≤ 1000000) (N : List ByteArray) (hN : N.length ≤ 1000000) (R : Int) (hR : Ev (fun k => spec_SetPrint.f k (vlist l N)) R) :
    ∃ r, Ev (fun k => spec_SignatureFor.f k (l.map toSP) N) r ∧ (r.2 = 1 → r.1 = R) := by
  have key : ∀ d i, i + d = N.length → ∃ r, Ev (fun k => spec_SignatureFor.l0 k (l.map toSP) N (vlist l (N.take i)) (N.length : Int) (i : Int)) r ∧ (r.2 = 1 → r.1 = R) := by
    intro d
    induction d with
    | zero =>
      intro i hi
      obtain rfl : i = N.length := by omega
      refine ⟨(R, 1), ?_, fun _ => rfl⟩
      rw [List.take_of_length_le (Nat.le_refl _)]
      refine Ev.step (fun k => by
        show spec_SignatureFor.l0 (k + 1) _ _ _ _ _ = _
        simp only [spec_SignatureFor.l0]
        rw [if_neg (by omega)]) (Ev.bind hR ?_)
      exact Ev.now _
    | succ d ih =>
      intro i hi
      have hlt : i < N.length := by omega
      obtain ⟨r, hr, hc⟩ := ih (i + 1) (by omega)
      have hw := wrap_next hlt (by unfold maxLen; omega)
      have hv : vlist l (N.take (i + 1)) = vlist l (N.take i) ++ [(⟨N[i], valS l N[i]⟩ : S37)] := by
        unfold vlist
        rw [List.take_succ_eq_append_getElem hlt, List.map_append]
        rfl
      rw [hv] at hr
      have hvl : (vlist l (N.take i)).length ≤ 1000000 := by
        unfold vlist
        rw [List.length_map, List.length_take]
        omega
      have hin : ∀ e j, j + e = i → ∃ r, Ev (fun k => spec_SignatureFor.l1 k (l.map toSP) N (vlist l (N.take i)) (i : Int) (N.length : Int) (i : Int) (i : Int) (j : Int)) r ∧ (r.2 = 1 → r.1 = R) := by
        intro e
        induction e with
        | zero =>
          intro j hj
          obtain rfl : j = i := by omega
          cases hh : (MapsS.look N[j] (setL l)).isSome with
          | false =>
            refine ⟨(0, 2), ?_, fun h => absurd h (show ¬ (2 : Int) = 1 by decide)⟩
            have hhas := specHas_ev l (by omega) N[j]
            rw [hh] at hhas
            refine Ev.step (fun k => by
              show spec_SignatureFor.l1 (k + 1) _ _ _ _ _ _ _ _ = _
              simp only [spec_SignatureFor.l1]
              rw [if_neg (by omega), if_pos (by omega), if_pos (by omega), get_N hlt]) (Ev.bind hhas ?_)
            simp only [Bool.false_eq_true, if_false]
            exact Ev.now _
          | true =>
            refine ⟨r, ?_, hc⟩
            have hhas := specHas_ev l (by omega) N[j]
            rw [hh] at hhas
            refine Ev.step (fun k => by
              show spec_SignatureFor.l1 (k + 1) _ _ _ _ _ _ _ _ = _
              simp only [spec_SignatureFor.l1]
              rw [if_neg (by omega), if_pos (by omega), if_pos (by omega), get_N hlt]) (Ev.bind hhas ?_)
            simp only [if_true]
            refine Ev.bind (specValue_ev l (by omega) N[j]) ?_
            simp only [if_pos (show (vlist l (N.take j)).length < 4398046511104 by omega), hw]
            exact hr
        | succ e ihe =>
          intro j hj
          have hji : j < N.length := by omega
          have hwj := wrap_next hji (by unfold maxLen; omega)
          by_cases hd : N[j].toList = N[i].toList
          · refine ⟨(0, 2), ev_succ fun k => ?_, fun h => absurd h (show ¬ (2 : Int) = 1 by decide)⟩
            simp only [spec_SignatureFor.l1]
            rw [if_pos (by omega), if_pos (by omega), if_pos (by omega), if_pos (by omega), if_pos (by omega), get_N hji, get_N hlt, if_pos hd]
          · obtain ⟨q, hq, hqc⟩ := ihe (j + 1) (by omega)
            refine ⟨q, Ev.step (fun k => ?_) hq, hqc⟩
            show spec_SignatureFor.l1 (k + 1) _ _ _ _ _ _ _ _ = _
            simp only [spec_SignatureFor.l1]
            rw [if_pos (by omega), if_pos (by omega), if_pos (by omega), if_pos (by omega), if_pos (by omega), get_N hji, get_N hlt, if_neg hd, hwj]
      obtain ⟨q, hq, hqc⟩ := hin i 0 (by omega)
      refine ⟨q, Ev.step (fun k => ?_) hq, hqc⟩
      show spec_SignatureFor.l0 (k + 1) _ _ _ _ _ = _
      simp only [spec_SignatureFor.l0]
      rw [if_pos (by omega)]
      rfl
  obtain ⟨r, hr, hc⟩ := key N.length 0 (by omega)
  exact ⟨r, hr, hc⟩
theorem inL_rev (s : ByteArray) (I : SM) : inL s ((I.map (·.1)).reverse) = true ↔ ∃ p ∈ I, p.1 = s := by
  rw [inL_iff, List.mem_reverse, List.mem_map]
theorem left_out {m I O : SM} (hm : Rises m) (hO : O.Sublist m) (hp : (I ++ O).Perm m) : leftN ((I.map (·.1)).reverse) m = O.map (·.1) := by
  have hRO : Rises O := hm.sublist hO
  have e : leftN ((I.map (·.1)).reverse) m = (m.filter fun p => !inL p.1 ((I.map (·.1)).reverse)).map (·.1) := by unfold leftN; rw [List.filter_map]; rfl
  rw [e]
  congr 1
  have hnd : (I ++ O).Nodup := hp.nodup_iff.2 (rises_nodup hm)
  refine sm_perm_eq (List.Pairwise.filter _ hm) hRO ((List.perm_ext_iff_of_nodup ((rises_nodup hm).filter _) (rises_nodup hRO)).2 fun p => ?_)
  rw [List.mem_filter]
  constructor
  · rintro ⟨h1, h2⟩
    rcases List.mem_append.1 (hp.mem_iff.2 h1) with h | h
    · exfalso
      have := (inL_rev p.1 I).2 ⟨p, h, rfl⟩
      rw [this] at h2
      cases h2
    · exact h
  · intro h
    have hpm := hO.subset h
    refine ⟨hpm, ?_⟩
    rw [Bool.not_eq_true']
    refine Bool.eq_false_iff.2 fun hin => ?_
    obtain ⟨q, hq, e1⟩ := (inL_rev p.1 I).1 hin
    have hqm : q ∈ m := hp.mem_iff.1 (List.mem_append_left _ hq)
    have : q = p := rises_key hm hqm hpm e1
    subst this
    exact (List.nodup_append.1 hnd).2.2 q hq q h rfl
def toPI (p : ByteArray × ByteArray) : S32 := ⟨p.1, p.2⟩
theorem mem_setL {q : ByteArray × ByteArray} (l : List S32) (h : q ∈ setL l) : ∃ p ∈ l, q = (p.f0, p.f1) := by
  have key : ∀ (r : List S32) (m : SM), q ∈ r.foldl (fun m p => ins p.f0 p.f1 m) m → q ∈ m ∨ ∃ p ∈ r, q = (p.f0, p.f1) := by
    intro r
    induction r with
    | nil => intro m h; exact .inl h
    | cons x r ih =>
      intro m h
      rw [List.foldl_cons] at h
      rcases ih _ h with h | ⟨p, hp, e⟩
      · rcases mem_ins h with h | h
        · exact .inr ⟨x, List.mem_cons_self, h⟩
        · exact .inl h
      · exact .inr ⟨p, List.mem_cons_of_mem _ hp, e⟩
  rcases key l [] h with h | h
  · cases h
  · exact h
theorem own_sig (L : SM) (hl : L.length ≤ 1000000) (hR : Rises L) (hs : ∀ p ∈ L, p.1.size ≤ maxLen ∧ p.2.size ≤ maxLen) : impl_Signature.f (L.map toPI) = some (sumS L) := by
  unfold impl_Signature.f
  rw [if_pos ⟨by rw [List.length_map]; omega, List.all_eq_true.2 fun q hq => by
    obtain ⟨p, hp, rfl⟩ := List.mem_map.1 hq
    have := hs p hp
    exact Bool.and_eq_true_iff.2 ⟨decide_eq_true this.1, decide_eq_true this.2⟩⟩]
  exact congrArg some (sig_own hR)
theorem sig_one : impl_Signature.f [(⟨(⟨#[97]⟩ : ByteArray), (⟨#[]⟩ : ByteArray)⟩ : S32)] = some (sumS [((⟨#[97]⟩ : ByteArray), (⟨#[]⟩ : ByteArray))]) :=
  own_sig [((⟨#[97]⟩ : ByteArray), (⟨#[]⟩ : ByteArray))] (by simp) (List.pairwise_singleton _ _) (fun p hp => by obtain rfl := List.mem_singleton.1 hp; exact ⟨by decide, by decide⟩)
theorem sig_none : impl_Signature.f ([] : List S32) = some 14695981039346656037 := own_sig [] (by simp) List.Pairwise.nil (fun p hp => by cases hp)
theorem sig_apart : ¬ sumS [((⟨#[97]⟩ : ByteArray), (⟨#[]⟩ : ByteArray))] = 14695981039346656037 := by decide +kernel
theorem at_end (l : List S32) (mask : List Bool) (hl : l.length ≤ 300) (hs : ∀ p ∈ l, p.f0.size ≤ 2147483647 ∧ p.f1.size ≤ 2147483647) (I O : SM) (hI : I.Sublist (setL l)) (hO : O.Sublist (setL l)) (hp : (I ++ O).Perm (setL l)) (n : Nat) :
    Ev (fun k => laws_FnSignatures.l0 k l mask (I.map toPI) (O.map toPI) ((I.map (·.1)).reverse) ((setL l).map unS) (n : Int) (n : Int)) true := by
  have hm := setL_rises l
  have hml : (setL l).length ≤ 300 := Nat.le_trans (setL_le l) hl
  have hsz : ∀ p ∈ setL l, p.1.size ≤ maxLen ∧ p.2.size ≤ maxLen := fun p hpm => by
    obtain ⟨q, hq, rfl⟩ := mem_setL l hpm
    have := hs q hq
    unfold maxLen
    simp only
    omega
  have hRI : Rises I := hm.sublist hI
  have hRO : Rises O := hm.sublist hO
  have hIl : I.length ≤ 300 := Nat.le_trans hI.length_le hml
  have hOl : O.length ≤ 300 := Nat.le_trans hO.length_le hml
  have hNl : ((I.map (·.1)).reverse).length ≤ 1000000 := by rw [List.length_reverse, List.length_map]; omega
  have hsI : ∀ p ∈ I, p.1.size ≤ maxLen ∧ p.2.size ≤ maxLen := fun p h => hsz p (hI.subset h)
  have hsO : ∀ p ∈ O, p.1.size ≤ maxLen ∧ p.2.size ≤ maxLen := fun p h => hsz p (hO.subset h)
  have hless : lessMax l = true := by
    simp only [lessMax, Bool.and_eq_true, decide_eq_true_eq]
    refine ⟨by unfold maxLen; omega, List.all_eq_true.2 fun p h => ?_⟩
    have := hs p h
    simp only [small2, Bool.and_eq_true, decide_eq_true_eq]
    unfold maxLen
    omega
  have hok : okNm ((I.map (·.1)).reverse) = true := by
    unfold okNm
    rw [Bool.and_eq_true, decide_eq_true_eq]
    refine ⟨by omega, List.all_eq_true.2 fun x hx => ?_⟩
    rw [List.mem_reverse, List.mem_map] at hx
    obtain ⟨p, hpI, rfl⟩ := hx
    exact decide_eq_true (hsI p hpI).1
  have h1 : impl_SignatureFor.f l ((I.map (·.1)).reverse) = some (sumS I) := by
    unfold impl_SignatureFor.f
    rw [if_pos ⟨hless, hok⟩, names_sorted hRI (List.reverse_perm _), sigN_sum hm (fun p h => hI.subset h)]
  have h2 : impl_SignatureWithout.f l ((I.map (·.1)).reverse) = some (sumS O) := by
    unfold impl_SignatureWithout.f
    rw [if_pos ⟨hless, by omega, hok⟩, left_out hm hO hp, sigN_sum hm (fun p h => hO.subset h)]
  have h3 := own_sig I (by omega) hRI hsI
  have h4 := own_sig O (by omega) hRO hsO
  have hvp : ((vlist l ((I.map (·.1)).reverse)).map prS).Perm I := by
    have e : (vlist l ((I.map (·.1)).reverse)).map prS = (I.map fun p => (p.1, valS l p.1)).reverse := by
      unfold vlist
      rw [List.map_map, ← List.map_reverse, List.map_map, ← List.map_reverse]
      rfl
    have e2 : (I.map fun p => (p.1, valS l p.1)) = I := by
      refine (List.map_congr_left fun p h => ?_).trans (List.map_id I)
      have := (look_mem hm (k := p.1) (v := p.2)).2 (hI.subset h)
      rw [valS_look, this]
      rfl
    rw [e, e2]
    exact List.reverse_perm _
  have hvl : (vlist l ((I.map (·.1)).reverse)).length ≤ 1000000 := by unfold vlist; rw [List.length_map]; exact hNl
  obtain ⟨r, hr, hc⟩ := sigFor_ev l (by omega) ((I.map (·.1)).reverse) hNl (sumS I) (print_ev _ I hvl hvp hRI hsI)
  refine Ev.step (fun k => by
    show laws_FnSignatures.l0 (k + 1) _ _ _ _ _ _ _ _ = _
    simp only [laws_FnSignatures.l0]
    rw [if_neg (by omega)]) (Ev.bind (pairs_ev l (by omega)) (Ev.bind hr ?_))
  rw [h1, h2, h3, h4]
  simp only [Option.bind_some, if_true, beq_self_eq_true]
  by_cases hq : r.2 = 1
  · simp only [if_pos hq, hc hq, if_true]
    exact Ev.now _
  · simp only [if_neg hq]
    exact Ev.now _
theorem FnSignatures : laws_FnSignatures.Pure := by
  intro l mask ⟨hl, hw⟩ ⟨hml, _⟩
  refine Ev.rounds ?_
  have hskip : Ev (fun k => laws_FnSignatures.j0 k l mask true) true := ev_succ fun k => by simp only [laws_FnSignatures.j0]; rw [if_pos trivial]
  unfold laws_FnSignatures.f
  refine Ev.bind (zzFits1_ev l hl) ?_
  by_cases hb : (l.length : Int) > 2147483647
  · simp only [if_pos hb, Bool.false_eq_true, if_false]
    exact hskip
  simp only [if_neg hb]
  cases hf0 : l.all fits2 with
  | false =>
    simp only [Bool.false_eq_true, if_false]
    exact hskip
  | true =>
  have hf : ∀ p ∈ l, p.f0.size ≤ 2147483647 ∧ p.f1.size ≤ 2147483647 := fun p hp => by
    have := List.all_eq_true.1 hf0 p hp
    unfold fits2 at this
    split at this
    · cases this
    split at this
    · cases this
    · omega
  simp only [if_true]
  by_cases hb2 : (mask.length : Int) > 2147483647
  · simp only [decide_eq_true hb2]
    exact hskip
  simp only [decide_eq_false hb2]
  refine Ev.step (fun k => by
    show laws_FnSignatures.j0 (k + 1) _ _ _ = _
    simp only [laws_FnSignatures.j0, Bool.false_eq_true, if_false]
    rw [sig_one, sig_none]
    simp only [Option.bind_some, if_neg sig_apart]) (?_ : Ev (fun k => (laws_much.f l).bind fun t197 => (if t197 = true then (some true) else ((laws_pairs.f k l).bind fun t198 => ((spec_Set.f k t198).bind fun t201 => (laws_FnSignatures.l0 k l mask ([] : List S32) ([] : List S32) ([] : List ByteArray) t201 (t201.length : Int) 0))))) true)
  unfold laws_much.f
  simp only [Option.bind_some]
  by_cases h1 : (l.length : Int) > 300
  · simp only [decide_eq_true h1, if_true]
    exact Ev.now _
  simp only [decide_eq_false h1, Bool.false_eq_true, if_false]
  refine Ev.bind (pairs_ev l (by omega)) (Ev.bind (specSet_pairs l (by omega)) ?_)
  rw [List.length_map]
  have hend := at_end l mask (by omega) hf
  have hml2 : (setL l).length ≤ 300 := Nat.le_trans (setL_le l) (by omega)
  generalize setL l = m at *
  have key : ∀ d i (I O : SM), i + d = m.length → I.Sublist (m.take i) → O.Sublist (m.take i) → (I ++ O).Perm (m.take i) →
      Ev (fun k => laws_FnSignatures.l0 k l mask (I.map toPI) (O.map toPI) ((I.map (·.1)).reverse) (m.map unS) (m.length : Int) (i : Int)) true := by
    intro d
    induction d with
    | zero =>
      intro i I O hi h1 h2 h3
      obtain rfl : i = m.length := by omega
      rw [List.take_of_length_le (Nat.le_refl _)] at h1 h2 h3
      exact hend I O h1 h2 h3 m.length
    | succ d ih =>
      intro i I O hi h1 h2 h3
      have hlt : i < m.length := by omega
      have hw := wrap_next hlt (by unfold maxLen; omega)
      have ht : m.take (i + 1) = m.take i ++ [m[i]] := List.take_succ_eq_append_getElem hlt
      have hIl : I.length ≤ 300 := by have := h1.length_le; rw [List.length_take] at this; omega
      have hOl : O.length ≤ 300 := by have := h2.length_le; rw [List.length_take] at this; omega
      have hin := ih (i + 1) (I ++ [m[i]]) O (by omega) (by rw [ht]; exact h1.append (List.Sublist.refl _)) (by rw [ht]; exact h2.trans (List.sublist_append_left _ _)) (by
        rw [ht]
        refine List.Perm.trans ?_ (h3.append_right _)
        rw [List.append_assoc, List.append_assoc]
        exact List.Perm.append_left I List.perm_append_comm)
      have hout := ih (i + 1) I (O ++ [m[i]]) (by omega) (by rw [ht]; exact h1.trans (List.sublist_append_left _ _)) (by rw [ht]; exact h2.append (List.Sublist.refl _)) (by
        rw [ht, ← List.append_assoc]
        exact h3.append_right _)
      rw [List.map_append] at hin hout
      have eN : ((I ++ [m[i]]).map (·.1)).reverse = [m[i].1] ++ (I.map (·.1)).reverse := by simp
      rw [List.map_append] at eN
      rw [show (I ++ [m[i]]).map (·.1) = I.map (·.1) ++ [m[i]].map (·.1) from List.map_append, eN] at hin
      by_cases hm0 : (mask.length : Int) > 0
      · have t0 : 0 ≤ Int.tmod (i : Int) (mask.length : Int) := Int.tmod_nonneg _ (by omega)
        have t1 : Int.tmod (i : Int) (mask.length : Int) < (mask.length : Int) := Int.tmod_lt_of_pos _ hm0
        by_cases hq : rdOf false mask (Int.tmod (i : Int) (mask.length : Int)) = true
        · refine Ev.step (fun k => ?_) hin
          show laws_FnSignatures.l0 (k + 1) _ _ _ _ _ _ _ _ = _
          simp only [laws_FnSignatures.l0, List.length_map, Option.bind_some, List.length_cons, List.length_nil, List.length_reverse]
          rw [if_pos (by omega), if_pos (by omega), if_pos (by omega), if_pos hm0, if_neg (by omega), if_pos t0, if_pos t1, if_pos hq, if_pos (by omega), if_pos (by omega), get_un hlt, hw]
          rfl
        · refine Ev.step (fun k => ?_) hout
          show laws_FnSignatures.l0 (k + 1) _ _ _ _ _ _ _ _ = _
          simp only [laws_FnSignatures.l0, List.length_map, Option.bind_some, List.length_cons, List.length_nil, List.length_reverse]
          rw [if_pos (by omega), if_pos (by omega), if_pos (by omega), if_pos hm0, if_neg (by omega), if_pos t0, if_pos t1, if_neg hq, if_pos (by omega), get_un hlt, hw]
          rfl
      · refine Ev.step (fun k => ?_) hout
        show laws_FnSignatures.l0 (k + 1) _ _ _ _ _ _ _ _ = _
        simp only [laws_FnSignatures.l0, List.length_map, Option.bind_some, List.length_cons, List.length_nil, List.length_reverse]
        rw [if_pos (by omega), if_pos (by omega), if_pos (by omega), if_neg hm0, if_pos (by omega), get_un hlt, hw]
        rfl
  exact key m.length 0 [] [] (by omega) (List.Sublist.refl _) (List.Sublist.refl _) (List.Perm.refl _)
end Go.Proofs.Ytcneoonhdfblaaa.Pure
