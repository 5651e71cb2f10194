/- A list of matchers' text: what the program writes and what the reference says, over plain lists. -/
import Derived.Test.YtpdfokdhnalfaaaDoorPM
import Derived.Test.YtpdfokdhnalfaaaDoorQx5
import Derived.Test.YtpdfokdhnalfaaaDoorQx5
import Derived.Test.YtpdfokdhnalfaaaDoorQx5
set_option linter.unusedVariables false
set_option linter.unusedSimpArgs false
namespace Go.Proofs.YtpdfokdhnalfaaaDoor.Pure
open Go.RowKit Go.Proofs.YtpdfokdhnalfaaaDoor.Q Go.Proofs.YtpdfokdhnalfaaaDoor.Door Go.Proofs.YtpdfokdhnalfaaaDoorW.PrintWords Go.Proofs.YtpdfokdhnalfaaaDoorW.PrintLast
theorem ev_map {α β : Type} {g : Nat → Option α} {a : α} (f : α → β) (h : Ev g a) : Ev (fun k => (g k).map f) (f a) := by
  obtain ⟨K, hK⟩ := h
  exact ⟨K, fun k hk => by show Option.map f (g k) = _; rw [hK k hk]; rfl⟩
theorem tail_le (C : Nat) : ∀ (r : List (List UInt8)), (∀ t ∈ r, t.length ≤ C) → (Go.Lib.joinTail [44] r).length ≤ r.length * (C + 1)
  | [], _ => by simp [Go.Lib.joinTail]
  | t :: r, h => by
    have ih := tail_le C r (fun q hq => h q (List.mem_cons_of_mem _ hq))
    have h1 := h t List.mem_cons_self
    have e : Go.Lib.joinTail [44] (t :: r) = ([44] ++ t) ++ Go.Lib.joinTail [44] r := by simp [Go.Lib.joinTail]
    have e3 : (t :: r).length * (C + 1) = r.length * (C + 1) + (C + 1) := by rw [List.length_cons, Nat.succ_mul]
    rw [e, List.length_append, List.length_append, e3]
    simp only [List.length_cons, List.length_nil]
    omega
theorem join_le (C : Nat) (r : List (List UInt8)) (h : ∀ t ∈ r, t.length ≤ C) : (Go.Lib.join r [44]).length ≤ r.length * (C + 1) := by
  cases r with
  | nil => simp [Go.Lib.join_nil]
  | cons t r =>
    have e3 : (t :: r).length * (C + 1) = r.length * (C + 1) + (C + 1) := by rw [List.length_cons, Nat.succ_mul]
    rw [Go.Lib.join_cons, List.length_append, e3]
    have h1 := h t List.mem_cons_self
    have h2 := tail_le C r (fun q hq => h q (List.mem_cons_of_mem _ hq))
    omega
def toSM (x : S23) : S28 := ⟨x.f0, x.f1, x.f2⟩
theorem matchers_ev (l : List S23) (hl : l.length ≤ 2147483647) : Ev (fun k => laws_matchers.f k l) (l.map toSM) := by
  have h := ev_up (L := fun k i => laws_matchers.l0 k ((l.take i).map toSM) l (l.length : Int) (i : Int)) (fun _ => l.map toSM) l.length (ev_succ (fun k => by
      simp only [laws_matchers.l0]
      rw [if_neg (by omega), List.take_of_length_le (Nat.le_refl _)])) (fun i hi h => by
    refine Ev.step (fun k => ?_) h
    show laws_matchers.l0 (k + 1) _ l (l.length : Int) (i : Int) = _
    simp only [laws_matchers.l0]
    rw [if_pos (by omega), if_pos (by omega), if_pos (by omega), if_pos (by rw [List.length_map, List.length_take]; omega), wrap_next hi (by unfold maxLen; omega), List.take_succ_eq_append_getElem hi, List.map_append]
    congr 2
    show [_] = [toSM l[i]]
    have e : rd_T23 l (i : Int) = l[i] := by
      show l.getD i z23 = _
      rw [List.getD_eq_getElem?_getD, List.getElem?_eq_getElem hi]
      rfl
    rw [e]
    rfl) l.length 0 (by omega)
  simpa [laws_matchers.f] using h
def smOk (a : S28) : Prop := pmOk a.f0 a.f1 a.f2
def smT (a : S28) : List UInt8 := (pmB a.f0.toNat a.f1 a.f2).data.toList
def smSz (a : S28) : Prop := -9223372036854775808 ≤ a.f0 ∧ a.f1.size ≤ 2147483647 ∧ a.f2.size ≤ 2147483647
theorem smT_len {a : S28} (h : smSz a) : (smT a).length ≤ 8589934594 := by
  have := pmB_size a.f0.toNat a.f1 a.f2
  have e : (smT a).length = (pmB a.f0.toNat a.f1 a.f2).size := rfl
  obtain ⟨_, h1, h2⟩ := h
  omega
def listB (l : List S28) : ByteArray := ⟨(123 :: Go.Lib.join (l.map smT) [44] ++ [125]).toArray⟩
theorem listJ_le {l : List S28} (hl : l.length ≤ 1000) (hs : ∀ a ∈ l, smSz a) : (Go.Lib.join (l.map smT) [44]).length ≤ 8589934595000 := by
  have h := join_le 8589934594 (l.map smT) (fun t ht => by
    obtain ⟨a, ha, rfl⟩ := List.mem_map.1 ht
    exact smT_len (hs a ha))
  rw [List.length_map] at h
  have : l.length * (8589934594 + 1) ≤ 1000 * (8589934594 + 1) := Nat.mul_le_mul_right _ hl
  omega
theorem specPMs_ev (l : List S28) (hl : l.length ≤ 1000) (hs : ∀ a ∈ l, smSz a) : ∃ r, Ev (fun k => spec_PrintMatchers.f k l) r ∧ (r.2 = 1 → (∀ a ∈ l, smOk a) ∧ r.1 = listB l) := by
  have hJ := listJ_le hl hs
  have hJt : ∀ i, i ≤ l.length → (Go.Lib.join ((l.map smT).take i) [44]).length ≤ 8589934595000 := fun i hi => Nat.le_trans (join_take_len (l.map smT) [44] (l.length - i) i (by rw [List.length_map]; omega)) hJ
  have key : ∀ d i, i + d = l.length → ∃ r, Ev (fun k => spec_PrintMatchers.l0 k l ⟨(123 :: Go.Lib.join ((l.map smT).take i) [44]).toArray⟩ (l.length : Int) (i : Int)) r ∧ (r.2 = 1 → (∀ a ∈ l.drop i, smOk a) ∧ r.1 = listB l) := by
    intro d
    induction d with
    | zero =>
      intro i hi
      obtain rfl : i = l.length := by omega
      refine ⟨(listB l, 1), ev_succ fun k => ?_, fun _ => ⟨fun a ha => (by rw [List.drop_of_length_le (Nat.le_refl _)] at ha; cases ha), rfl⟩⟩
      have z : (⟨(123 :: Go.Lib.join ((l.map smT).take l.length) [44]).toArray⟩ : ByteArray).size = (Go.Lib.join ((l.map smT).take l.length) [44]).length + 1 := rfl
      have := hJt l.length (Nat.le_refl _)
      simp only [spec_PrintMatchers.l0]
      rw [if_neg (by omega), if_pos (by omega), List.take_of_length_le (by rw [List.length_map]; exact Nat.le_refl _)]
      congr 2
    | succ d ih =>
      intro i hi
      have hlt : i < l.length := by omega
      obtain ⟨r, hr, hc⟩ := ih (i + 1) (by omega)
      have hmem : l[i] ∈ l := List.getElem_mem hlt
      have hsz := hs _ hmem
      obtain ⟨q, hq, hqc⟩ := specPM_ev l[i].f0 l[i].f1 l[i].f2 hsz.2.1 hsz.2.2 hsz.1
      have hd : l.drop i = l[i] :: l.drop (i + 1) := List.drop_eq_getElem_cons hlt
      have hw := wrap_next hlt (by unfold maxLen; omega)
      have er : rd_T28 l (i : Int) = l[i] := by
        show l.getD i z28 = _
        rw [List.getD_eq_getElem?_getD, List.getElem?_eq_getElem hlt]
        rfl
      rcases hqc with ⟨q1, q2, q3⟩ | ⟨q1, _⟩
      · refine ⟨r, ?_, fun h1 => ⟨fun a ha => ?_, (hc h1).2⟩⟩
        · refine Ev.step (f := fun k => (spec_PrintMatcher.f k l[i].f0 l[i].f1 l[i].f2).bind fun bt171 => (if bt171.2 = 1 then (spec_PrintMatchers.l0 k l ⟨(123 :: Go.Lib.join ((l.map smT).take (i + 1)) [44]).toArray⟩ (l.length : Int) ((i + 1 : Nat) : Int)) else (some ((⟨#[]⟩ : ByteArray), 2)))) (fun k => ?_) (Ev.bind hq (by simp only [if_pos q1]; exact hr))
          simp only [spec_PrintMatchers.l0]
          rw [if_pos (by omega), if_pos (by omega), if_pos (by omega), er, hw]
          cases hqk : spec_PrintMatcher.f k l[i].f0 l[i].f1 l[i].f2 with
          | none => rfl
          | some p =>
            simp only [Option.bind_some]
            by_cases hp : p.2 = 1
            · rw [if_pos hp, if_pos hp]
              have hpq : p = q := by
                obtain ⟨K, hK⟩ := hq
                have h1 := hK (max K k) (Nat.le_max_left _ _)
                have h2 : spec_PrintMatcher.f (max K k) l[i].f0 l[i].f1 l[i].f2 = some p := at_rounds (spec_PrintMatcher.mono _ _ _) (Nat.le_max_right _ _) hqk
                exact Option.some.inj (h2.symm.trans h1)
              have hb : p.1.data.toList = smT l[i] := by rw [hpq, q3]; rfl
              have hjt := join_take (l.map smT) [44] i (smT l[i]) (by simp [hlt])
              have hz := hJt (i + 1) (by omega)
              have hz0 := hJt i (by omega)
              have hps : p.1.size = (smT l[i]).length := by rw [← hb]; rfl
              have zz : (⟨(123 :: Go.Lib.join ((l.map smT).take i) [44]).toArray⟩ : ByteArray).size = (Go.Lib.join ((l.map smT).take i) [44]).length + 1 := rfl
              have z44 : (⟨#[44]⟩ : ByteArray).size = 1 := rfl
              have hsl := smT_len hsz
              by_cases h0 : i = 0
              · subst h0
                rw [if_pos rfl] at hjt
                rw [if_neg (by omega), if_pos (by omega)]
                congr 1
                apply ba_of_list
                rw [hjt]
                simp [ByteArray.data_append, hb, Go.Lib.join_nil]
              · rw [if_neg h0] at hjt
                rw [if_pos (by omega), if_pos (by omega), if_pos (by rw [ByteArray.size_append]; omega)]
                congr 1
                apply ba_of_list
                rw [hjt]
                simp [ByteArray.data_append, hb]
            · rw [if_neg hp, if_neg hp]
        · rw [hd] at ha
          rcases List.mem_cons.1 ha with rfl | ha
          · exact q2
          · exact (hc h1).1 a ha
      · refine ⟨((⟨#[]⟩ : ByteArray), (2 : Int)), ?_, fun h1 => by cases h1⟩
        refine Ev.step (f := fun k => (spec_PrintMatcher.f k l[i].f0 l[i].f1 l[i].f2).bind fun bt171 => (if bt171.2 = 1 then _ else (some ((⟨#[]⟩ : ByteArray), 2)))) (fun k => by
          simp only [spec_PrintMatchers.l0]
          rw [if_pos (by omega), if_pos (by omega), if_pos (by omega), er]) (Ev.bind hq (by simp only [if_neg q1]; exact Ev.now _))
  obtain ⟨r, hr, hc⟩ := key l.length 0 (by omega)
  refine ⟨r, ?_, fun h1 => by have := hc h1; rwa [List.drop_zero] at this⟩
  unfold spec_PrintMatchers.f
  have e : (⟨(123 :: Go.Lib.join ((l.map smT).take 0) [44]).toArray⟩ : ByteArray) = ⟨#[123]⟩ := by simp [Go.Lib.join_nil]
  rw [e] at hr
  exact hr
theorem mtexts_ev : ∀ (l : List S23), (∀ a ∈ l, smSz (toSM a)) → (∀ a ∈ l, smOk (toSM a)) → Ev (fun k => mtexts k (l.map toMat)) (l.map fun a => smT (toSM a))
  | [], _, _ => Ev.now _
  | a :: l, h1, h2 => by
    have ih := mtexts_ev l (fun q hq => h1 q (List.mem_cons_of_mem _ hq)) (fun q hq => h2 q (List.mem_cons_of_mem _ hq))
    obtain ⟨_, s1, s2⟩ := h1 a List.mem_cons_self
    obtain ⟨k1, k2, _, k4, k5⟩ := h2 a List.mem_cons_self
    have hm : Ev (fun k => mtext k a.f0 a.f1 a.f2) (pmB a.f0.toNat a.f1 a.f2) := by
      have k4' : 0 ≤ a.f0 := k4
      have k5' : a.f0 < 4 := k5
      have e : a.f0 = ((a.f0.toNat : Nat) : Int) := by omega
      have := mtext_ev a.f0.toNat a.f1 a.f2 s1 s2 (by omega) k1 k2
      rwa [← e] at this
    exact Ev.bind (f := fun k t => (mtexts k (l.map toMat)).map fun q => t.data.toList :: q) hm (ev_map _ ih)
theorem implPMs_ev (l : List S23) (hl : l.length ≤ 1000) (h1 : ∀ a ∈ l, smSz (toSM a)) (h2 : ∀ a ∈ l, smOk (toSM a)) : Ev (fun k => impl_PrintMatchers.f k l) (listB (l.map toSM)) := by
  have hJ := listJ_le (l := l.map toSM) (by rw [List.length_map]; exact hl) (fun a ha => by obtain ⟨b, hb, rfl⟩ := List.mem_map.1 ha; exact h1 b hb)
  have e : (l.map fun a => smT (toSM a)) = (l.map toSM).map smT := by rw [List.map_map]; rfl
  unfold impl_PrintMatchers.f
  simp only [if_pos (show l.length ≤ 17592186044416 by omega)]
  refine Ev.bind (mtexts_ev l h1 h2) ?_
  rw [e]
  simp only [if_pos (show (Go.Lib.join ((l.map toSM).map smT) [44]).length ≤ 140737488355300 by omega)]
  exact Ev.now _
end Go.Proofs.YtpdfokdhnalfaaaDoor.Pure
