/- What the program writes of a metric, over plain lists; the reference's text is the same where it says one. -/
import Derived.Test.YtenededepjfojaaDoorMVal
import Derived.Test.YtenededepjfojaaDoorQuo
import Derived.Test.YtenededepjfojaaDoorMJoin
set_option linter.unusedVariables false
set_option linter.unusedSimpArgs false
namespace Go.Proofs.YtenededepjfojaaDoor.Pure
open Go.RowKit Go.Proofs.YtenededepjfojaaDoor.Q Go.Proofs.YtenededepjfojaaDoor.MapsS Go.Proofs.YtenededepjfojaaDoor.Door Go.Proofs.YtenededepjfojaaDoorW.PrintWords Go.Proofs.YtenededepjfojaaDoorW.PrintLast
def Fits31 (l : List S26) : Prop := ∀ p ∈ l, p.f0.size ≤ 2147483647 ∧ p.f1.size ≤ 2147483647
theorem fits31 {l : List S26} (h : l.all fits2 = true) : Fits31 l := by
  intro p hp
  have := List.all_eq_true.1 h p hp
  unfold fits2 at this
  split at this
  · cases this
  split at this
  · cases this
  · omega
theorem set31 {l : List S26} (h : Fits31 l) : ∀ p ∈ setL l, p.1.size ≤ 2147483647 ∧ p.2.size ≤ 2147483647 := by
  intro p hp
  obtain ⟨q, hq, rfl⟩ := mem_setL l hp
  exact h q hq
theorem sum_le (C : Nat) : ∀ (l : List ByteArray), (∀ t ∈ l, t.size ≤ C) → sizes l ≤ l.length * C
  | [], _ => by simp [sizes]
  | t :: r, h => by
    have ih := sum_le C r (fun q hq => h q (List.mem_cons_of_mem _ hq))
    have h1 := h t List.mem_cons_self
    have e : (t :: r).length * C = r.length * C + C := by rw [List.length_cons, Nat.succ_mul]
    rw [sizes_cons, e]
    omega
theorem sizes_perm {a b : List ByteArray} (h : a.Perm b) : sizes a = sizes b := by
  unfold sizes
  exact (h.map _).sum_nat
theorem labT_size (p : ByteArray × ByteArray) (h : p.1.size ≤ 2147483647 ∧ p.2.size ≤ 2147483647) : (labT p).size ≤ 30000000000 := by
  have h1 := quoteB_size p.2
  unfold labT
  rw [ByteArray.size_append, ByteArray.size_append]
  have z : (⟨#[61]⟩ : ByteArray).size = 1 := rfl
  omega
theorem mrest_mem {m : SM} {t : ByteArray} (h : t ∈ mrest m) : ∃ p ∈ m, t = labT p := by
  unfold mrest at h
  obtain ⟨p, hp, rfl⟩ := List.mem_map.1 h
  exact ⟨p, (List.mem_filter.1 hp).1, rfl⟩
theorem mjoin_small {m : SM} (hm : m.length ≤ 1000) (hs : ∀ p ∈ m, p.1.size ≤ 2147483647 ∧ p.2.size ≤ 2147483647) : (mrest m).length * 2 + sizes (mrest m) ≤ 100000000000000 := by
  have h1 : (mrest m).length ≤ m.length := by unfold mrest; rw [List.length_map]; exact List.length_filter_le _ _
  have h2 := sum_le 30000000000 (mrest m) (fun t ht => by obtain ⟨p, hp, rfl⟩ := mrest_mem ht; exact labT_size p (hs p hp))
  have h3 : (mrest m).length * 30000000000 ≤ 1000 * 30000000000 := Nat.mul_le_mul_right _ (by omega)
  omega
theorem mjoin_size {m : SM} (hm : m.length ≤ 1000) (hs : ∀ p ∈ m, p.1.size ≤ 2147483647 ∧ p.2.size ≤ 2147483647) : (mjoin m).size ≤ 100000000000000 := by
  have h1 := mjoin_small hm hs
  have h2 := joined_take (sortB (mrest m)) ⟨#[44, 32]⟩ (sortB (mrest m)).length
  rw [List.take_of_length_le (Nat.le_refl _), (sortB_perm _).length_eq, sizes_perm (sortB_perm _)] at h2
  have z : (⟨#[44, 32]⟩ : ByteArray).size = 2 := rfl
  rw [z] at h2
  unfold mjoin
  omega
theorem implMetric (l : List S26) (hl : l.length ≤ 1000) (hf : Fits31 l) : impl_MetricText.f l = some (metricB (setL l)) := by
  unfold impl_MetricText.f
  rw [if_pos ⟨hl, List.all_eq_true.2 fun p hp => by have := hf p hp; simp only [small31, Bool.and_eq_true, decide_eq_true_eq]; exact this, Nat.le_trans (mjoin_size (Nat.le_trans (setL_le l) hl) (set31 hf)) (by omega)⟩]
def mab : List S26 := [(⟨(⟨#[97]⟩ : ByteArray), (⟨#[98]⟩ : ByteArray)⟩ : S26)]
theorem labT_ab : labT ((⟨#[97]⟩ : ByteArray), (⟨#[98]⟩ : ByteArray)) = ⟨#[97, 61, 34, 98, 34]⟩ := by
  unfold labT
  rw [quoteB_asc _ (by decide)]
  decide +kernel
theorem metric_ab : impl_MetricText.f [(⟨(⟨#[97]⟩ : ByteArray), (⟨#[98]⟩ : ByteArray)⟩ : S26)] = some ⟨#[123, 97, 61, 34, 98, 34, 125]⟩ := by
  rw [implMetric _ (by simp) (fun p hp => by obtain rfl := List.mem_singleton.1 hp; exact ⟨by decide, by decide⟩)]
  have e0 : setL [(⟨(⟨#[97]⟩ : ByteArray), (⟨#[98]⟩ : ByteArray)⟩ : S26)] = [((⟨#[97]⟩ : ByteArray), (⟨#[98]⟩ : ByteArray))] := rfl
  have e1 : mrest [((⟨#[97]⟩ : ByteArray), (⟨#[98]⟩ : ByteArray))] = [⟨#[97, 61, 34, 98, 34]⟩] := by
    unfold mrest
    rw [List.filter_cons, if_pos (by decide), List.filter_nil, List.map_cons, List.map_nil, labT_ab]
  have e2 : mjoin [((⟨#[97]⟩ : ByteArray), (⟨#[98]⟩ : ByteArray))] = ⟨#[97, 61, 34, 98, 34]⟩ := by
    unfold mjoin
    rw [e1]
    have e3 : sortB [(⟨#[97, 61, 34, 98, 34]⟩ : ByteArray)] = [⟨#[97, 61, 34, 98, 34]⟩] := by simp [sortB]
    rw [e3]
    decide +kernel
  rw [e0]
  unfold metricB
  rw [e1, e2]
  decide +kernel
theorem metric_ab_toList : (⟨#[123, 97, 61, 34, 98, 34, 125]⟩ : ByteArray).toList = ([123, 97, 61, 34, 98, 34, 125] : List UInt8) := by rw [Go.Lib.toList_data]
/-- What the reference writes of a label whose value prints. -/
theorem labT_asc (p : ByteArray × ByteArray) (h : p.2.data.toList.all asc = true) : (p.1 ++ ⟨#[61]⟩) ++ (⟨(quoL p.2.data.toList).toArray⟩ : ByteArray) = labT p := by
  unfold labT
  rw [quoteB_asc p.2 h]
theorem insAll_more (a : List ByteArray) (t : ByteArray) : insAll (a ++ [t]) [] = insB t (insAll a []) := by simp [insAll, List.foldl_append]
theorem mrest_more (m : SM) (i : Nat) (h : i < m.length) : mrest (m.take (i + 1)) = mrest (m.take i) ++ (if isNm m[i] then [] else [labT m[i]]) := by
  rw [List.take_succ_eq_append_getElem h]
  unfold mrest
  rw [List.filter_append, List.map_append]
  congr 1
  cases hn : isNm m[i] <;> simp [hn]
theorem get_B {l : List ByteArray} {i : Nat} (h : i < l.length) : rdOf ByteArray.empty l (i : Int) = l[i] := rdOf_get h
theorem nameB_eq {x : ByteArray} : x.toList = ([95, 95, 110, 97, 109, 101, 95, 95] : List UInt8) ↔ x = nameB := by
  rw [← nameB_toList]
  exact ⟨fun h => ba_ext' h, fun h => by rw [h]⟩
end Go.Proofs.YtenededepjfojaaDoor.Pure
