/- The law FnReasons over plain numbers: two statuses of one class have one reason. -/
import Derived.Test.YtbffhefeepmpcaaQx3
import Derived.Test.YtbffhefeepmpcaaLib
namespace Go.Proofs.Ytbffhefeepmpcaa.Pure
open Go.RowKit Go.Proofs.Ytbffhefeepmpcaa.Q Go.Proofs.YtbffhefeepmpcaaW.PrintWords Go.Proofs.YtbffhefeepmpcaaW.PrintLast

def reasonOf (c : Int) : ByteArray := if c = 0 then ⟨#[111, 116, 104, 101, 114]⟩ else if c = 1 then ⟨#[99, 108, 105, 101, 110, 116, 69, 114, 114, 111, 114]⟩ else if c = 2 then ⟨#[115, 101, 114, 118, 101, 114, 69, 114, 114, 111, 114]⟩ else if c = 5 then ⟨#[97, 117, 116, 104, 69, 114, 114, 111, 114]⟩ else ⟨#[114, 97, 116, 101, 76, 105, 109, 105, 116, 101, 100]⟩
def why (c : Int) : Int := if c = 41 then 5 else if c = 43 then 5 else if c = 49 then 6 else if c = 4 then 1 else if c = 5 then 2 else 0
def classOf (a : Int) : Int := if a = 401 then 41 else if a = 403 then 43 else if a = 429 then 49 else if 400 ≤ a ∧ a ≤ 499 then 4 else if 500 ≤ a ∧ a ≤ 599 then 5 else 0

theorem quot_form {a : Int} (hb : -9223372036854775808 ≤ a ∧ a ≤ 9223372036854775807) : ∃ q, wrap64 (Int.tdiv a 100) = q ∧ (0 ≤ a → 100 * q ≤ a ∧ a < 100 * q + 100) ∧ (a < 0 → q ≤ 0) := by
  refine ⟨_, rfl, ?_⟩
  rcases Int.le_total 0 a with h | h
  · rw [Int.tdiv_eq_ediv_of_nonneg h]
    unfold wrap64
    omega
  · obtain ⟨b, rfl⟩ : ∃ b, a = -b := ⟨-a, by omega⟩
    rw [Int.neg_tdiv, Int.tdiv_eq_ediv_of_nonneg (by omega)]
    unfold wrap64
    omega

theorem class_tells (a : Int) (k : Nat) : spec_ReasonClass.f (k + 1) a = some (classOf a) := by
  unfold spec_ReasonClass.f classOf
  simp only [spec_ReasonClass.j0]
  by_cases h1 : a = 401
  · simp [h1]
  by_cases h2 : a = 403
  · simp [h2]
  by_cases h3 : a = 429
  · simp [h3]
  by_cases h4 : 400 ≤ a
  · by_cases h5 : a ≤ 499
    · simp [h1, h2, h3, h4, h5]
    · by_cases h6 : 500 ≤ a
      · by_cases h7 : a ≤ 599 <;> simp [h1, h2, h3, h4, h5, h6, h7]
      · omega
  · have h5 : ¬ 500 ≤ a := by omega
    simp [h1, h2, h3, h4, h5]

theorem reason_tells (a : Int) (k : Nat) (hb : -9223372036854775808 ≤ a ∧ a ≤ 9223372036854775807) : notify_GetFailureReasonFromStatusCode.f (k + 1) a = some (why (classOf a)) := by
  obtain ⟨q, hq, h0, hn⟩ := quot_form hb
  unfold notify_GetFailureReasonFromStatusCode.f classOf
  simp only [notify_GetFailureReasonFromStatusCode.j0, hq]
  by_cases h1 : a = 401
  · simp [h1, why]
  by_cases h2 : a = 403
  · simp [h2, why]
  by_cases h3 : a = 429
  · simp [h3, why]
  have e1 : (a == 403) = false := by simpa using h2
  simp only [h1, h2, h3, e1, if_false, Bool.false_eq_true]
  by_cases h4 : q = 4
  · have : 400 ≤ a ∧ a ≤ 499 := by omega
    simp [h4, this, why]
  · have h4' : ¬ (400 ≤ a ∧ a ≤ 499) := by omega
    by_cases h5 : q = 5
    · have : 500 ≤ a ∧ a ≤ 599 := by omega
      simp [h5, h4', this, why]
    · have h5' : ¬ (500 ≤ a ∧ a ≤ 599) := by omega
      simp [h4, h5, h4', h5', why]

theorem why_cases (a : Int) : why (classOf a) = 0 ∨ why (classOf a) = 1 ∨ why (classOf a) = 2 ∨ why (classOf a) = 5 ∨ why (classOf a) = 6 := by
  unfold why
  repeat' split
  all_goals simp

theorem impl_tells (a : Int) (k : Nat) (hb : -9223372036854775808 ≤ a ∧ a ≤ 9223372036854775807) : impl_Reason.f (k + 1) a = some (reasonOf (why (classOf a))) := by
  unfold impl_Reason.f
  rw [reason_tells a k hb, Option.bind_some]
  rcases why_cases a with h | h | h | h | h <;> rw [h] <;> simp [notify_Reason_String.f, reasonOf]

theorem FnReasons : laws_FnReasons.Pure := by
  intro a b ha hb
  refine ⟨2, ?_⟩
  unfold laws_FnReasons.f
  rw [impl_tells 400 1 (by omega), impl_tells 500 1 (by omega)]
  simp only [Option.bind_some]
  have e4 : why (classOf 400) = 1 := by decide
  have e5 : why (classOf 500) = 2 := by decide
  rw [e4, e5]
  rw [if_neg (by decide +kernel), if_neg (by decide +kernel)]
  have : ((reasonOf 2).toList == []) = false := by decide +kernel
  rw [this]
  simp only [laws_FnReasons.j0, Bool.false_eq_true, if_false]
  rw [class_tells, class_tells, impl_tells a 0 (wf_i64 ha), impl_tells b 0 (wf_i64 hb)]
  simp only [Option.bind_some]
  by_cases h : classOf a = classOf b
  · simp [h]
  · simp [h]
end Go.Proofs.Ytbffhefeepmpcaa.Pure
