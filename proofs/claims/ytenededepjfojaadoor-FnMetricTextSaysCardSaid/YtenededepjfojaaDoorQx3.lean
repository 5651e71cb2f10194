-- printed by this project's own program wip/tools/mkprint.py (the kit's print.py with hand-proved contracts put in)
import Derived.Test.YtenededepjfojaaDoorQx0
import Derived.Test.YtenededepjfojaaDoorQx1
import Derived.Test.YtenededepjfojaaDoorQx2
namespace Go.Proofs.YtenededepjfojaaDoor.Q
open Go.RowKit Go.Proofs.YtenededepjfojaaDoorW.PrintWords Go.Proofs.YtenededepjfojaaDoorW.PrintLast Go.Proofs.YtenededepjfojaaDoorW.PrintMore
attribute [local go_sem] max2_int min2_int max_two min_two max_three min_three max_four min_four   -- for this text's walks alone
set_option linter.unusedVariables false
set_option linter.unusedSimpArgs false

/-! ### impl_MetricText: function 7 -/
-- a contract that was proved by hand
def small31 (p : S26) : Bool := decide (p.f0.size ≤ 2147483647) && decide (p.f1.size ≤ 2147483647)
def impl_MetricText.f (l0 : List S26) : Option ByteArray := if l0.length ≤ 1000 ∧ l0.all small31 = true ∧ (mjoin (setL l0)).size ≤ 140737488355300 then some (metricB (setL l0)) else none
theorem mem_setL {q : ByteArray × ByteArray} (l : List S26) (h : q ∈ setL l) : ∃ p ∈ l, q = (p.f0, p.f1) := by
  have key : ∀ (r : List S26) (m : MapsS.SM), q ∈ r.foldl (fun m p => MapsS.ins p.f0 p.f1 m) m → q ∈ m ∨ ∃ p ∈ r, q = (p.f0, p.f1) := by
    intro r
    induction r with
    | nil => intro m h; exact .inl h
    | cons x r ih =>
      intro m h
      rw [List.foldl_cons] at h
      rcases ih _ h with h | ⟨p, hp, e⟩
      · rcases MapsS.mem_ins h with h | h
        · exact .inr ⟨x, List.mem_cons_self, h⟩
        · exact .inl h
      · exact .inr ⟨p, List.mem_cons_of_mem _ hp, e⟩
  rcases key l [] h with h | h
  · cases h
  · exact h
theorem small31_two {l : List S26} (h : l.all small31 = true) : l.all small2 = true := List.all_eq_true.2 fun p hp => by
  have := List.all_eq_true.1 h p hp
  simp only [small31, small2, Bool.and_eq_true, decide_eq_true_eq] at this ⊢
  unfold maxLen
  omega
open Go.Lib Go.Proofs.YtenededepjfojaaDoor.Door in
set_option maxHeartbeats 1600000 in
theorem impl_MetricText.calls (A0 : Option Addr) (c0 : Nat) (l0 : List S26) (r : ByteArray) (w : World) (hr0 : Kd.C k26 w A0 l0.length l0) (hc0 : l0.length ≤ c0) (hT_ : PQ w) (h : impl_MetricText.f l0 = some r) :
    Calls Tryd.prog 7 #[.slice A0 l0.length c0] w fun e w' => e = .returned (.string r) ∧ Below w.heap.size w w' := by
  unfold impl_MetricText.f at h
  by_cases hc : l0.length ≤ 1000 ∧ l0.all small31 = true ∧ (mjoin (setL l0)).size ≤ 140737488355300
  · rw [if_pos hc] at h
    obtain rfl := Option.some.inj h
    clear h
    obtain ⟨h1, h2, h3⟩ := hc
    have C0 := Aside0.mk (impl_labelSet.calls A0 c0 l0 w hr0 hc0 (by unfold maxLen; omega) (small31_two h2))
    have HS := Aside0.mk (show ∀ p ∈ setL l0, p.1.size ≤ 2147483647 ∧ p.2.size ≤ 2147483647 from fun p hp => by
      obtain ⟨q, hq, rfl⟩ := mem_setL l0 hp
      have := List.all_eq_true.1 h2 q hq
      simpa only [small31, Bool.and_eq_true, decide_eq_true_eq] using this)
    have HL := Aside0.mk (Nat.le_trans (setL_le l0) h1)
    have HT := Aside0.mk hT_
    have HJ := Aside0.mk h3
    clear hr0 hc0 h1 h2 h3 hT_
    generalize setL l0 = m at *
    go_enter Tryd.func7, Tryd.ntmps7
    go_wp2_with fail
    refine (impl_metric.calls A0 c0 l0 w m C0.out).mono ?_
    rintro e w1 ⟨b, rfl, hb, hM, hB⟩
    have HM := Aside0.mk hM
    have HB := Aside0.mk hB
    clear hM hB hb
    go_wp2_with fail
    refine (metric_string b _ m w1 HM.out HL.out HS.out (PQ.below HT.out HB.out) HJ.out).mono ?_
    rintro e w2 ⟨rfl, hb⟩
    have HB2 := Aside0.mk (below_step HB.out hb)
    clear hb
    go_wp2
    go_ret
    exact ⟨rfl, HB2.out⟩
  · rw [if_neg hc] at h
    cases h


end Go.Proofs.YtenededepjfojaaDoor.Q
