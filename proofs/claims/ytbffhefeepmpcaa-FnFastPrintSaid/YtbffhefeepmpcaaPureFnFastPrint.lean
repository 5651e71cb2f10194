/- The law FnFastPrint over plain lists: the print of a set does not hang on the order of its labels. -/
import Derived.Test.YtbffhefeepmpcaaQx42
import Derived.Test.YtbffhefeepmpcaaFits1
import Derived.Test.YtbffhefeepmpcaaSpecSet
import Derived.Test.YtbffhefeepmpcaaPureFnSetEqual
set_option linter.unusedVariables false
set_option linter.unusedSimpArgs false
namespace Go.Proofs.Ytbffhefeepmpcaa.Pure
open Go.RowKit Go.Proofs.Ytbffhefeepmpcaa.Q Go.Proofs.Ytbffhefeepmpcaa.MapsS Go.Proofs.YtbffhefeepmpcaaW.PrintWords Go.Proofs.YtbffhefeepmpcaaW.PrintLast
def unP (p : ByteArray × ByteArray) : S48 := ⟨p.1, p.2⟩
theorem prI_unP (p : ByteArray × ByteArray) : prI (unP p) = p := rfl
theorem map_prI (m : SM) : (m.map unP).map prI = m := by rw [List.map_map]; exact List.map_id _
theorem lastV_mem {k v : ByteArray} : ∀ {l : List (ByteArray × ByteArray)}, lastV k l = some v → (k, v) ∈ l
  | [], h => by cases h
  | x :: r, h => by
    rw [lastV_cons] at h
    cases hr : lastV k r with
    | some u =>
      rw [hr] at h
      obtain rfl := Option.some.inj h
      exact List.mem_cons_of_mem _ (lastV_mem hr)
    | none =>
      rw [hr] at h
      by_cases e : k = x.1
      · simp only [if_pos e, Option.some.injEq] at h
        rw [e, ← h]
        exact List.mem_cons_self
      · simp [e] at h
theorem fill_perm {m : SM} (hm : Rises m) {r : SM} (hp : r.Perm m) : fill r [] = m := by
  refine sm_ext (rises_fill r List.Pairwise.nil) hm fun k => ?_
  rw [look_fill]
  cases h : lastV k r with
  | some v => exact ((look_mem hm).2 (hp.mem_iff.1 (lastV_mem h))).symm
  | none =>
    cases g : MapsS.look k m with
    | none => rfl
    | some v => exact absurd rfl (lastV_none.1 h _ (hp.mem_iff.2 ((look_mem hm).1 g)))
theorem rises_setL (l : List S48) : Rises (setL l) := by rw [setL_fill]; exact rises_fill _ List.Pairwise.nil
theorem setL_perm (l : List S48) {r : List S48} (h : r.Perm ((setL l).map unP)) : setL r = setL l := by
  rw [setL_fill r]
  refine fill_perm (rises_setL l) ?_
  have := h.map prI
  rwa [map_prI] at this
theorem fp_first : impl_SetFastPrint.f [(⟨(⟨#[97]⟩ : ByteArray), (⟨#[98]⟩ : ByteArray)⟩ : S48)] ≠ impl_SetFastPrint.f [] := by decide +kernel
theorem fp_some {l : List S48} (h : lessMax l = true) : impl_SetFastPrint.f l = some (fastFp (setL l)) := by
  unfold impl_SetFastPrint.f
  rw [if_pos h]
theorem get_S {l : List S48} {i : Nat} (h : i < l.length) : rd_T48 l (i : Int) = l[i] := by
  simp [rd_T48, h]
theorem mem_setL {l : List S48} {p : ByteArray × ByteArray} (h : p ∈ setL l) : ∃ y ∈ l, prI y = p := by
  rw [setL_fill] at h
  have g := (look_mem (rises_fill (l.map prI) List.Pairwise.nil) (k := p.1) (v := p.2)).2 h
  rw [look_fill] at g
  cases hv : lastV p.1 (l.map prI) with
  | none => rw [hv] at g; cases g
  | some v =>
    rw [hv] at g
    obtain rfl := Option.some.inj g
    obtain ⟨y, hy, e⟩ := List.mem_map.1 (lastV_mem hv)
    exact ⟨y, hy, e⟩
theorem lessMax_perm {l : List S48} (h : l.length ≤ 2147483647) (hk : ∀ y ∈ l, okS48 y) {r : List S48} (hp : r.Perm ((setL l).map unP)) : lessMax r = true := by
  refine lessMax_of ?_ ?_
  · rw [hp.length_eq, List.length_map]
    have := setL_len l
    omega
  · intro y hy
    obtain ⟨p, hm, rfl⟩ := List.mem_map.1 (hp.mem_iff.1 hy)
    obtain ⟨z, hz, rfl⟩ := mem_setL hm
    exact hk z hz
theorem fp_l1 {l : List S48} (h : l.length ≤ 2147483647) (hk : ∀ y ∈ l, okS48 y) (t : List Int) (ht : t.length ≤ maxLen) (hkt : ∀ y ∈ t, (Lit.int .u8 y).wf = true) :
    ∀ (d i : Nat) (r : List S48), i + d = t.length → r.Perm ((setL l).map unP) → Ev (fun k => laws_FnFastPrint.l1 k l r t (t.length : Int) (i : Int)) true
  | 0, i, r, hd, hp => by
    refine ev_succ fun k => ?_
    simp only [laws_FnFastPrint.l1]
    rw [if_neg (by omega), fp_some (lessMax_perm h hk hp), fp_some (lessMax_of h hk), setL_perm l hp]
    simp
  | d + 1, i, r, hd, hp => by
    have hi : i < t.length := by omega
    have hw := wrap_next (n := t.length) hi ht
    by_cases hr : r.length = 0
    · refine Ev.step (fun k => ?_) (fp_l1 h hk t ht hkt d (i + 1) r (by omega) hp)
      show laws_FnFastPrint.l1 (k + 1) l r t (t.length : Int) (i : Int) = _
      simp only [laws_FnFastPrint.l1]
      rw [if_pos (by omega), if_pos (by omega), if_pos (by omega), if_neg (by omega), hw]
    · have hy := wf_u8 (hkt t[i] (List.getElem_mem hi))
      have e1 : rd t (i : Int) = t[i] := by simp [rd, hi]
      have e2 : wrap64 (rd t (i : Int)) = t[i] := by rw [e1]; simp only [wrap64, IntKind.wrap, IntKind.bits, IntKind.signed]; omega
      obtain ⟨n, hn⟩ : ∃ n : Nat, t[i] = n := ⟨t[i].toNat, by omega⟩
      have hlen : 0 < r.length := by omega
      have m1 : Int.tmod (n : Int) (r.length : Int) = ((n % r.length : Nat) : Int) := by rw [Int.tmod_eq_emod_of_nonneg (by omega)]; rfl
      have m2 : Int.tmod (i : Int) (r.length : Int) = ((i % r.length : Nat) : Int) := by rw [Int.tmod_eq_emod_of_nonneg (by omega)]; rfl
      have b1 : n % r.length < r.length := Nat.mod_lt _ hlen
      have b2 : i % r.length < r.length := Nat.mod_lt _ hlen
      refine Ev.step (fun k => ?_) (fp_l1 h hk t ht hkt d (i + 1) ((r.set (i % r.length) (r[n % r.length])).set (n % r.length) (r[i % r.length])) (by omega) ((List.set_set_perm b2 b1).trans hp))
      show laws_FnFastPrint.l1 (k + 1) l r t (t.length : Int) (i : Int) = _
      simp only [laws_FnFastPrint.l1]
      rw [if_pos (by omega), if_pos (by omega), if_pos (by omega), if_pos (by omega), if_neg (by omega), e2, hn, m1, m2, if_pos (by omega), if_pos (by omega), if_pos (by omega), if_pos (by omega), hw, get_S b1, get_S b2]
      rfl
theorem fp_l0 (l : List S48) (t : List Int) (h : l.length ≤ 4000000000) (R : Ev (fun k => laws_FnFastPrint.l1 k l ((setL l).map unP) t (t.length : Int) 0) true) :
    Ev (fun k => laws_FnFastPrint.l0 k l t [] ((setL l).map unS) ((setL l).length : Int) 0) true := by
  have hs := setL_len l
  have g := ev_up (L := fun k i => laws_FnFastPrint.l0 k l t (((setL l).take i).map unP) ((setL l).map unS) ((setL l).length : Int) (i : Int)) (fun _ => true) (setL l).length (by
      refine Ev.step (fun k => ?_) R
      show laws_FnFastPrint.l0 (k + 1) _ _ _ _ _ _ = _
      simp only [laws_FnFastPrint.l0]
      rw [if_neg (by omega), List.take_of_length_le (Nat.le_refl _)]) (fun i hi g => by
    refine Ev.step (fun k => ?_) g
    show laws_FnFastPrint.l0 (k + 1) _ _ _ _ _ _ = _
    simp only [laws_FnFastPrint.l0, List.length_map]
    rw [if_pos (by omega), if_pos (by omega), if_pos (by omega), if_pos (by rw [List.length_take]; omega), get_un hi, wrap_next hi (by unfold maxLen; omega), List.take_succ_eq_append_getElem hi, List.map_append]
    rfl) (setL l).length 0 (by omega)
  exact g
theorem FnFastPrint : laws_FnFastPrint.Pure := by
  intro l t ⟨hl, hk⟩ ⟨ht, hkt⟩
  refine Ev.rounds ?_
  have done0 : Ev (fun k => laws_FnFastPrint.j0 k l t true) true := ev_succ (fun k => by simp only [laws_FnFastPrint.j0]; rfl)
  unfold laws_FnFastPrint.f
  refine Ev.bind (zzFits1_ev l hl) ?_
  cases hz : (if (l.length : Int) > 2147483647 then false else l.all fits2)
  · simpa only [Bool.false_eq_true, if_false] using done0
  simp only [if_true]
  obtain ⟨nl, _⟩ := fits1_len hz
  by_cases h0 : (t.length : Int) > 2147483647
  · rw [decide_eq_true h0]
    exact done0
  rw [decide_eq_false h0]
  have ll := lessMax_of nl hk
  obtain ⟨a, ea⟩ : ∃ a, impl_SetFastPrint.f [(⟨(⟨#[97]⟩ : ByteArray), (⟨#[98]⟩ : ByteArray)⟩ : S48)] = some a := ⟨_, fp_some (by decide +kernel)⟩
  obtain ⟨b, eb⟩ : ∃ b, impl_SetFastPrint.f ([] : List S48) = some b := ⟨_, fp_some (by decide +kernel)⟩
  have hab : ¬ a = b := fun e => fp_first (by rw [ea, eb, e])
  refine Ev.step (f := fun k => if (if decide ((l.length : Int) > 300) = true then true else false) = true then some true else ((laws_pairs.f k l).bind fun t265 => (spec_Set.f k t265).bind fun t268 => laws_FnFastPrint.l0 k l t ([] : List (S48)) t268 (t268.length : Int) 0)) (fun k => ?_) ?_
  · simp only [laws_FnFastPrint.j0, Bool.false_eq_true, if_false, ea, eb, Option.bind_some, laws_much.f, if_neg hab]
    by_cases h1 : (l.length : Int) > 300 <;> simp [h1]
  by_cases h1 : (l.length : Int) > 300
  · simp only [decide_eq_true h1, if_true]
    exact Ev.now _
  simp only [decide_eq_false h1, Bool.false_eq_true, if_false]
  refine Ev.bind (pairs_ev l (by omega)) (Ev.bind (specSet_pairs l (by omega)) ?_)
  rw [List.length_map]
  exact fp_l0 l t (by omega) (fp_l1 nl hk t ht hkt t.length 0 _ (by omega) (List.Perm.refl _))
end Go.Proofs.Ytbffhefeepmpcaa.Pure
