/- The law FnSorted over plain lists. -/
import Derived.Test.YthjameohenmeiaaQx7
import Derived.Test.YthjameohenmeiaaQx4
import Derived.Test.YthjameohenmeiaaQx4
import Derived.Test.YthjameohenmeiaaQx4
import Derived.Test.YthjameohenmeiaaQx5
import Derived.Test.YthjameohenmeiaaQx4
import Derived.Test.YthjameohenmeiaaQx6
import Derived.Test.YthjameohenmeiaaQx3
import Derived.Test.YthjameohenmeiaaQx4
import Derived.Test.YthjameohenmeiaaFits3
import Derived.Test.YthjameohenmeiaaValues
set_option linter.unusedVariables false
set_option linter.unusedSimpArgs false
namespace Go.Proofs.Ythjameohenmeiaa.Pure
open Go.RowKit Go.Proofs.Ythjameohenmeiaa.Q Go.Proofs.YthjameohenmeiaaW.PrintWords Go.Proofs.YthjameohenmeiaaW.PrintLast
abbrev MI := S32
abbrev MS := S50
def toS (x : MatI) : MS := ⟨x.f0, x.f1, x.f2⟩
theorem rdI {l : List MI} {i : Nat} (h : i < l.length) : rd_T32 l (i : Int) = l[i] := by
  show l.getD i z32 = _
  rw [List.getD_eq_getElem?_getD, List.getElem?_eq_getElem h]
  rfl
theorem rdS {l : List MS} {i : Nat} (h : i < l.length) : rd_T50 l (i : Int) = l[i] := by
  show l.getD i z50 = _
  rw [List.getD_eq_getElem?_getD, List.getElem?_eq_getElem h]
  rfl
theorem rdmS {l : List MatI} {i : Nat} (h : i < l.length) : rd_T50 (l.map toS) (i : Int) = toS l[i] := by
  rw [rdS (by rw [List.length_map]; exact h), List.getElem_map]
theorem rdmI {l : List MatI} {i : Nat} (h : i < l.length) : rd_T32 (l.map ofMat) (i : Int) = ofMat l[i] := by
  rw [rdI (by rw [List.length_map]; exact h), List.getElem_map]
theorem lessM_name {a b : MatI} (e : ¬ a.f1.toList = b.f1.toList) : lessM a b = Op.bytesLess a.f1.toList b.f1.toList := by
  unfold lessM
  cases h : Op.bytesLess a.f1.toList b.f1.toList with
  | true => rw [if_pos rfl]
  | false => rw [if_neg (by simp), if_neg (by simpa using e)]
theorem lessM_value {a b : MatI} (e : a.f1.toList = b.f1.toList) (e2 : ¬ a.f2.toList = b.f2.toList) : lessM a b = Op.bytesLess a.f2.toList b.f2.toList := by
  unfold lessM
  rw [if_neg (by rw [e, less_irrefl]; simp), if_pos (by rw [e]; exact beq_self_eq_true _)]
  cases h : Op.bytesLess a.f2.toList b.f2.toList with
  | true => rw [if_pos rfl]
  | false => rw [if_neg (by simp), if_neg (by simpa using e2)]
theorem lessM_type {a b : MatI} (e : a.f1.toList = b.f1.toList) (e2 : a.f2.toList = b.f2.toList) : lessM a b = decide (a.f0 < b.f0) := by
  unfold lessM
  rw [if_neg (by rw [e, less_irrefl]; simp), if_pos (by rw [e]; exact beq_self_eq_true _), if_neg (by rw [e2, less_irrefl]; simp), if_pos (by rw [e2]; exact beq_self_eq_true _)]
theorem before_eq (a b : MatI) : laws_before.f a.f0 a.f1 a.f2 b.f0 b.f1 b.f2 = some (lessM a b) := by
  unfold laws_before.f
  by_cases e1 : a.f1.toList = b.f1.toList
  · by_cases e2 : a.f2.toList = b.f2.toList
    · rw [if_pos e1, if_pos e2, lessM_type e1 e2]
    · rw [if_pos e1, if_neg e2, lessM_value e1 e2]
  · rw [if_neg e1, lessM_name e1]
def eqM (x y : MI) : Bool := y.f0 == x.f0 && (y.f1.toList == x.f1.toList && y.f2.toList == x.f2.toList)
theorem count_ev (l : List MI) (x : MI) (hl : l.length ≤ 1000000000) : Ev (fun k => laws_count.f k l x.f0 x.f1 x.f2) ((l.countP (eqM x) : Nat) : Int) := by
  unfold laws_count.f
  have h := ev_up (L := fun k i => laws_count.l0 k (((l.take i).countP (eqM x) : Nat) : Int) l (l.length : Int) (i : Int) x.f0 x.f1 x.f2) (fun _ => ((l.countP (eqM x) : Nat) : Int)) l.length (ev_succ (fun k => by
      simp only [laws_count.l0]
      rw [if_neg (by omega), List.take_of_length_le (Nat.le_refl _)])) (fun i hi h => by
    refine Ev.step (fun k => ?_) h
    show laws_count.l0 (k + 1) _ l (l.length : Int) (i : Int) x.f0 x.f1 x.f2 = _
    have hc : (l.take i).countP (eqM x) ≤ i := Nat.le_trans List.countP_le_length (by rw [List.length_take]; omega)
    simp only [laws_count.l0]
    rw [if_pos (by omega), if_pos (by omega), if_pos (by omega), rdI hi, wrap_next hi (by unfold maxLen; omega), List.take_succ_eq_append_getElem hi, List.countP_append]
    by_cases he : eqM x l[i] = true
    · rw [if_pos (show (l[i].f0 == x.f0 && (l[i].f1.toList == x.f1.toList && l[i].f2.toList == x.f2.toList)) = true from he)]
      have e1 : [l[i]].countP (eqM x) = 1 := by simp [he]
      rw [e1]
      congr 1
      unfold wrap64
      omega
    · rw [if_neg (show ¬ (l[i].f0 == x.f0 && (l[i].f1.toList == x.f1.toList && l[i].f2.toList == x.f2.toList)) = true from he)]
      have e1 : [l[i]].countP (eqM x) = 0 := by simp [he]
      simp only [e1, Nat.add_zero]) l.length 0 (by omega)
  simpa using h
/-- The reference's insertion. -/
def insM (x : MatI) : List MatI → List MatI
  | [] => [x]
  | y :: r => if lessM x y = true then x :: y :: r else y :: insM x r
theorem insM_perm (x : MatI) : ∀ l : List MatI, (insM x l).Perm (l ++ [x])
  | [] => List.Perm.refl _
  | y :: r => by
    unfold insM
    split
    · exact (List.perm_append_comm (l₁ := [x]) (l₂ := y :: r))
    · exact (insM_perm x r).cons y
theorem insM_sorted (x : MatI) : ∀ {l : List MatI}, l.Pairwise (fun a b => lessM b a = false) → (insM x l).Pairwise (fun a b => lessM b a = false)
  | [], _ => List.pairwise_singleton _ _
  | y :: r, h => by
    obtain ⟨h1, h2⟩ := List.pairwise_cons.1 h
    unfold insM
    by_cases c : lessM x y = true
    · rw [if_pos c]
      have hyx : lessM y x = false := by
        cases g : lessM y x with
        | false => rfl
        | true => have := lessM_swo.trans x y x c g; rw [lessM_swo.irrefl] at this; cases this
      refine List.pairwise_cons.2 ⟨fun q hq => ?_, h⟩
      rcases List.mem_cons.1 hq with rfl | hq
      · exact hyx
      · exact lessM_swo.ntrans q y x (h1 q hq) hyx
    · rw [if_neg c]
      have c' : lessM x y = false := by simpa using c
      refine List.pairwise_cons.2 ⟨fun q hq => ?_, insM_sorted x h2⟩
      have hq' := (insM_perm x r).mem_iff.1 hq
      rcases List.mem_append.1 hq' with hq' | hq'
      · exact h1 q hq'
      · rw [List.mem_singleton.1 hq']
        exact c'
theorem order_eq (y x : MatI) : ∃ o : Int, spec_Order.f y.f0 y.f1 y.f2 x.f0 x.f1 x.f2 = some o ∧ (o ≤ 0 ↔ lessM x y = false) := by
  have sg : ∀ b : Bool, spec_sign.f b = some (if b = true then -1 else 1) := fun b => by unfold spec_sign.f; cases b <;> rfl
  unfold spec_Order.f
  by_cases e1 : y.f1.toList = x.f1.toList
  · by_cases e2 : y.f2.toList = x.f2.toList
    · rw [lessM_type e1.symm e2.symm]
      by_cases e0 : y.f0 = x.f0
      · rw [if_pos e1, if_pos e2, if_pos e0]
        exact ⟨0, rfl, by simp [e0]⟩
      · rw [if_pos e1, if_pos e2, if_neg e0, sg, Option.bind_some]
        refine ⟨_, rfl, ?_⟩
        by_cases c : y.f0 < x.f0
        · have c2 : ¬ x.f0 < y.f0 := by omega
          simp [c, c2]
        · have c2 : x.f0 < y.f0 := by omega
          simp [c, c2]
    · rw [if_pos e1, if_neg e2, sg, Option.bind_some, lessM_value e1.symm (fun e => e2 e.symm)]
      refine ⟨_, rfl, ?_⟩
      cases c : Op.bytesLess y.f2.toList x.f2.toList with
      | true => rw [less_asymm c]; simp
      | false => rw [less_total c e2]; simp
  · rw [if_neg e1, sg, Option.bind_some, lessM_name (fun e => e1 e.symm)]
    refine ⟨_, rfl, ?_⟩
    cases c : Op.bytesLess y.f1.toList x.f1.toList with
    | true => rw [less_asymm c]; simp
    | false => rw [less_total c e1]; simp
theorem sorted_l1 (l : List MatI) (out : List MatI) (i : Nat) (hi : i < l.length) (hl : l.length ≤ 1000000) (ho : out.length ≤ i) (R : List MS) :
    ∀ (d a : Nat), a + d = out.length → Ev (fun k => spec_Sorted.l0 k (l.map toS) ((out.take a ++ insM l[i] (out.drop a)).map toS) (l.length : Int) ((i + 1 : Nat) : Int)) R →
      Ev (fun k => spec_Sorted.l1 k (l.map toS) (out.map toS) (i : Int) (a : Int) (l.length : Int) (i : Int)) R
  | 0, a, h, hR => by
    refine Ev.step (fun k => ?_) hR
    simp only [spec_Sorted.l1, Option.bind_some, List.length_map, List.length_nil, List.length_append, List.length_take, List.length_cons, List.length_drop, Int.toNat_natCast, List.nil_append]
    rw [if_neg (by omega), if_pos (by omega), if_pos (by omega), if_pos (by omega), if_pos (by omega), if_pos (by omega), if_pos (by omega), if_pos (by omega), wrap_next hi (by unfold maxLen; omega), rdmS hi]
    congr 1
    rw [List.drop_of_length_le (by omega : out.length ≤ a), List.map_append, ← List.map_take, List.drop_of_length_le (by rw [List.length_map]; omega), List.append_nil]
    rfl
  | d + 1, a, h, hR => by
    have ha : a < out.length := by omega
    have hd : out.drop a = out[a] :: out.drop (a + 1) := List.drop_eq_getElem_cons ha
    rw [hd] at hR
    unfold insM at hR
    obtain ⟨o, ho1, ho2⟩ := order_eq out[a] l[i]
    by_cases c : lessM l[i] out[a] = true
    · rw [if_pos c] at hR
      have hno : ¬ o ≤ 0 := fun e => by rw [ho2.1 e] at c; cases c
      refine Ev.step (fun k => ?_) hR
      simp only [spec_Sorted.l1, Option.bind_some, List.length_map, List.length_nil, List.length_append, List.length_take, List.length_cons, List.length_drop, Int.toNat_natCast, List.nil_append]
      rw [if_pos (by omega), if_pos (by omega), if_pos (by omega), if_pos (by omega), rdmS ha, rdmS hi]
      simp only [toS] at ho1 ⊢
      rw [ho1, Option.bind_some, if_neg hno, if_pos (by omega), if_pos (by omega), if_pos (by omega), if_pos (by omega), wrap_next hi (by unfold maxLen; omega)]
      congr 1
      rw [List.map_append, ← List.map_take, ← List.map_drop, hd]
      simp [toS]
    · rw [if_neg c] at hR
      have hno : o ≤ 0 := ho2.2 (by simpa using c)
      refine Ev.step (fun k => ?_) (sorted_l1 l out i hi hl ho R d (a + 1) (by omega) ?_)
      · simp only [spec_Sorted.l1, List.length_map]
        rw [if_pos (by omega), if_pos (by omega), if_pos (by omega), if_pos (by omega), rdmS ha, rdmS hi]
        simp only [toS] at ho1 ⊢
        rw [ho1, Option.bind_some, if_pos hno, wrap_next ha (by unfold maxLen; omega)]
      · rw [List.take_succ_eq_append_getElem ha, List.append_assoc]
        exact hR
def insAll (l : List MatI) : List MatI := l.foldl (fun out x => insM x out) []
theorem insAll_snoc (l : List MatI) (x : MatI) : insAll (l ++ [x]) = insM x (insAll l) := by simp [insAll, List.foldl_append]
theorem insAll_fold : ∀ (r out : List MatI), out.Pairwise (fun a b => lessM b a = false) → (r.foldl (fun out x => insM x out) out).Pairwise (fun a b => lessM b a = false) ∧ (r.foldl (fun out x => insM x out) out).Perm (out ++ r)
  | [], out, h => ⟨h, by simp⟩
  | x :: r, out, h => by
    obtain ⟨h1, h2⟩ := insAll_fold r (insM x out) (insM_sorted x h)
    refine ⟨h1, h2.trans ?_⟩
    have := (insM_perm x out).append_right r
    simpa using this
theorem insAll_eq (l : List MatI) : insAll l = sortM l := by
  obtain ⟨h1, h2⟩ := insAll_fold l [] List.Pairwise.nil
  rw [List.nil_append] at h2
  exact sortM_unique h2 h1
theorem insAll_len (l : List MatI) : (insAll l).length = l.length := by rw [insAll_eq, (sortM_perm l).length_eq]
theorem specSorted_ev (l : List MatI) (hl : l.length ≤ 1000000) : Ev (fun k => spec_Sorted.f k (l.map toS)) ((sortM l).map toS) := by
  unfold spec_Sorted.f
  rw [List.length_map]
  have h := ev_up (L := fun k i => spec_Sorted.l0 k (l.map toS) ((insAll (l.take i)).map toS) (l.length : Int) (i : Int)) (fun _ => (sortM l).map toS) l.length (ev_succ (fun k => by
      simp only [spec_Sorted.l0]
      rw [if_neg (by omega), List.take_of_length_le (Nat.le_refl _), insAll_eq])) (fun i hi h => by
    have hlen : (insAll (l.take i)).length ≤ i := by rw [insAll_len, List.length_take]; omega
    refine Ev.step (fun k => ?_) (sorted_l1 l (insAll (l.take i)) i hi hl hlen _ (insAll (l.take i)).length 0 (by omega) ?_)
    · show spec_Sorted.l0 (k + 1) _ _ (l.length : Int) (i : Int) = _
      simp only [spec_Sorted.l0]
      rw [if_pos (by omega)]
      rfl
    · rw [List.take_zero, List.drop_zero, List.nil_append, ← insAll_snoc, ← List.take_succ_eq_append_getElem hi]
      exact h) l.length 0 (by omega)
  exact h
theorem matchers_ev (l : List MI) (hl : l.length ≤ 1000000) : Ev (fun k => laws_matchers.f k l) ((l.map toMat).map toS) := by
  have h := ev_up (L := fun k i => laws_matchers.l0 k (((l.take i).map toMat).map toS) l (l.length : Int) (i : Int)) (fun _ => (l.map toMat).map toS) l.length (ev_succ (fun k => by
      simp only [laws_matchers.l0]
      rw [if_neg (by omega), List.take_of_length_le (Nat.le_refl _)])) (fun i hi h => by
    refine Ev.step (fun k => ?_) h
    show laws_matchers.l0 (k + 1) _ l (l.length : Int) (i : Int) = _
    simp only [laws_matchers.l0]
    rw [if_pos (by omega), if_pos (by omega), if_pos (by omega), if_pos (by rw [List.length_map, List.length_map, List.length_take]; omega), wrap_next hi (by unfold maxLen; omega), List.take_succ_eq_append_getElem hi, List.map_append, List.map_append, rdI hi]
    rfl) l.length 0 (by omega)
  simpa [laws_matchers.f] using h
theorem eqR_same : ∀ s : List MatI, eqR (s.map ofMat) (s.map toS) = true
  | [] => rfl
  | p :: r => by
    have ih := eqR_same r
    rw [List.map_cons, List.map_cons]
    unfold eqR neR
    simp only [ofMat, toS, beq_self_eq_true, Bool.and_self, Bool.not_true, Bool.false_eq_true, if_false]
    exact ih
theorem eqRead_same (s : List MatI) (hl : s.length ≤ 1000000) : laws_eqRead.f (s.map ofMat) (s.map toS) = some true := by
  unfold laws_eqRead.f
  rw [if_pos (by rw [List.length_map]; unfold maxLen; omega), eqR_same]
theorem sorted_eq {l : List MI} (h : l.length ≤ 1000000000) : impl_Sorted.f l = some ((sortM (l.map toMat)).map ofMat) := by
  unfold impl_Sorted.f
  rw [if_pos h]
theorem sorted_perm (l : List MI) : ((sortM (l.map toMat)).map ofMat).Perm l := by
  have h := (sortM_perm (l.map toMat)).map ofMat
  rw [List.map_map] at h
  have e : l.map (ofMat ∘ toMat) = l := List.map_id _
  rw [e] at h
  exact h
theorem loop_ev (l : List MI) (hl : l.length ≤ 300) : Ev (fun k => laws_FnSorted.l0 k l ((sortM (l.map toMat)).map ofMat) (((sortM (l.map toMat)).map ofMat).length : Int) 0) true := by
  have hp := sorted_perm l
  have hs := sortM_sorted (l.map toMat)
  have hspec := specSorted_ev (l.map toMat) (by rw [List.length_map]; omega)
  generalize sortM (l.map toMat) = s at *
  have hsl : s.length = l.length := by rw [← hp.length_eq, List.length_map]
  have h := ev_up (L := fun k i => laws_FnSorted.l0 k l (s.map ofMat) ((s.map ofMat).length : Int) (i : Int)) (fun _ => true) s.length (by
      refine Ev.step (f := fun k => (laws_matchers.f k l).bind fun t187 => (spec_Sorted.f k t187).bind fun t190 => (laws_eqRead.f (s.map ofMat) t190).bind fun t193 => some t193) (fun k => ?_) ?_
      · simp only [laws_FnSorted.l0]
        rw [if_neg (by rw [List.length_map]; omega)]
      · refine Ev.bind (matchers_ev l (by omega)) (Ev.bind hspec ?_)
        rw [eqRead_same s (by omega)]
        exact Ev.now _) (fun i hi h => by
    have c1 := count_ev (s.map ofMat) (ofMat s[i]) (by rw [List.length_map]; omega)
    have c2 := count_ev l (ofMat s[i]) (by omega)
    rw [hp.countP_eq (eqM (ofMat s[i]))] at c1
    have tail : Ev (fun k => (laws_count.f k (s.map ofMat) (ofMat s[i]).f0 (ofMat s[i]).f1 (ofMat s[i]).f2).bind fun t202 => (laws_count.f k l (ofMat s[i]).f0 (ofMat s[i]).f1 (ofMat s[i]).f2).bind fun t204 => if t202 = t204 then laws_FnSorted.l0 k l (s.map ofMat) ((s.map ofMat).length : Int) ((i + 1 : Nat) : Int) else some false) true := by
      refine Ev.bind c1 (Ev.bind c2 ?_)
      simp only [if_true]
      exact h
    refine Ev.step (fun k => ?_) tail
    show laws_FnSorted.l0 (k + 1) l (s.map ofMat) ((s.map ofMat).length : Int) (i : Int) = _
    simp only [laws_FnSorted.l0]
    rw [if_pos (by rw [List.length_map]; omega)]
    by_cases h0 : (i : Int) > 0
    · obtain ⟨j, rfl⟩ : ∃ j, i = j + 1 := ⟨i - 1, by omega⟩
      have ew : wrap64 (((j + 1 : Nat) : Int) - 1) = (j : Int) := by unfold wrap64; omega
      have hj : j < s.length := by omega
      have hlt : lessM s[j + 1] s[j] = false := List.pairwise_iff_getElem.1 hs j (j + 1) hj hi (by omega)
      have hb : laws_before.f (ofMat s[j + 1]).f0 (ofMat s[j + 1]).f1 (ofMat s[j + 1]).f2 (ofMat s[j]).f0 (ofMat s[j]).f1 (ofMat s[j]).f2 = some false := by rw [← hlt]; exact before_eq s[j + 1] s[j]
      rw [if_pos h0, ew, if_pos (by omega), if_pos (by rw [List.length_map]; omega), if_pos (by omega), if_pos (by rw [List.length_map]; omega), rdmI hi, rdmI hj, hb, Option.bind_some, if_neg (by simp), wrap_next hi (by unfold maxLen; omega)]
    · rw [if_neg h0, if_pos (by omega), if_pos (by rw [List.length_map]; omega), rdmI hi, wrap_next hi (by unfold maxLen; omega)]) s.length 0 (by omega)
  exact h
theorem FnSorted : laws_FnSorted.Pure := by
  intro l ⟨hl, hk⟩
  refine Ev.rounds ?_
  unfold laws_FnSorted.f
  have done0 : Ev (fun k => laws_FnSorted.j0 k l true) true := ev_succ (fun k => by simp only [laws_FnSorted.j0]; rfl)
  refine Ev.bind (zzFits3_ev l hl) ?_
  generalize (if (l.length : Int) > 2147483647 then false else l.all fits4) = b
  cases b
  · simp only [Bool.false_eq_true, if_false]
    exact Ev.now _
  have e0 : impl_Sorted.f [(⟨0, (⟨#[97]⟩ : ByteArray), (⟨#[]⟩ : ByteArray)⟩ : MI)] = some ((sortM ([(⟨0, (⟨#[97]⟩ : ByteArray), (⟨#[]⟩ : ByteArray)⟩ : MI)].map toMat)).map ofMat) := sorted_eq (by decide)
  have e1 : (((sortM ([(⟨0, (⟨#[97]⟩ : ByteArray), (⟨#[]⟩ : ByteArray)⟩ : MI)].map toMat)).map ofMat).length : Int) = 1 := by rw [(sorted_perm _).length_eq]; rfl
  simp only [if_true, e0, Option.bind_some, e1]
  have ht : ∃ c, Ev (fun k => laws_typed.f k l) c := by
    unfold laws_typed.f
    have hv := values_ev l hl
    generalize (l.all plainType && decide ((l.length : Int) ≤ 10000)) = c at hv
    cases c
    · refine ⟨false, Ev.bind hv ?_⟩
      simp only [Bool.false_eq_true, if_false]
      exact Ev.now _
    · exact ⟨decide ((l.length : Int) ≤ 2000), Ev.bind hv (by simp only [if_true]; exact Ev.now _)⟩
  obtain ⟨c, hc⟩ := ht
  refine Ev.bind hc ?_
  cases c
  · simpa only [Bool.false_eq_true, if_false] using done0
  simp only [if_true]
  by_cases h1 : (l.length : Int) > 300
  · rw [decide_eq_true h1]
    exact done0
  rw [decide_eq_false h1]
  refine Ev.step (fun k => ?_) (loop_ev l (by omega))
  simp only [laws_FnSorted.j0, Bool.false_eq_true, if_false, sorted_eq (l := l) (by omega), Option.bind_some]
  rw [if_pos (by rw [(sorted_perm l).length_eq])]
end Go.Proofs.Ythjameohenmeiaa.Pure
