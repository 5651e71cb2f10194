/- Plain lemmas that this seat's laws share: bounds of whole numbers, rounds, the order of bytes. -/
import Derived.Test.YtbcgcfdpblhddaaDoorWWords
import Derived.Test.YtbcgcfdpblhddaaDoorWLast
import Derived.Test.YtbcgcfdpblhddaaDoorWMore
import Derived.Test.YtbcgcfdpblhddaaDoorWNEv
set_option linter.unusedVariables false
set_option linter.unusedSimpArgs false
namespace Go.Proofs.YtbcgcfdpblhddaaDoor.Pure
open Go.RowKit Go.Proofs.YtbcgcfdpblhddaaDoorW.PrintWords Go.Proofs.YtbcgcfdpblhddaaDoorW.PrintLast

theorem wf_i64 {a : Int} (h : (Lit.int .i64 a).wf = true) : -9223372036854775808 ≤ a ∧ a ≤ 9223372036854775807 := by
  simp [Lit.wf, IntKind.min, IntKind.max, IntKind.signed, IntKind.bits] at h
  omega
theorem wf_u64 {a : Int} (h : (Lit.int .u64 a).wf = true) : 0 ≤ a ∧ a ≤ 18446744073709551615 := by
  simp [Lit.wf, IntKind.min, IntKind.max, IntKind.signed, IntKind.bits] at h
  omega
theorem wf_u8 {a : Int} (h : (Lit.int .u8 a).wf = true) : 0 ≤ a ∧ a ≤ 255 := by
  simp [Lit.wf, IntKind.min, IntKind.max, IntKind.signed, IntKind.bits] at h
  omega
theorem wf_u16 {a : Int} (h : (Lit.int .u16 a).wf = true) : 0 ≤ a ∧ a ≤ 65535 := by
  simp [Lit.wf, IntKind.min, IntKind.max, IntKind.signed, IntKind.bits] at h
  omega
theorem wrap_next {i n : Nat} (h : i < n) (hn : n ≤ maxLen) : wrap64 ((i : Int) + 1) = ((i + 1 : Nat) : Int) := by
  unfold maxLen at hn
  unfold wrap64
  omega

/-! ### rounds -/
theorem ev_const {α : Type} {g : Nat → Option α} {r : α} (h : ∀ k, g k = some r) : Ev g r := Ev.of (fun k => by rw [h, h]; exact LeO.refl _) (k := 0) (h 0)
theorem ev_succ {α : Type} {g : Nat → Option α} {r : α} (h : ∀ k, g (k + 1) = some r) : Ev g r := Ev.step h (Ev.now r)
theorem ev_ite_pos {α : Type} {c : Prop} [Decidable c] {g f : Nat → Option α} {r : α} (hc : c) (h : Ev g r) : Ev (fun k => if c then g k else f k) r := Ev.congr (fun k => if_pos hc) h
theorem ev_ite_neg {α : Type} {c : Prop} [Decidable c] {g f : Nat → Option α} {r : α} (hc : ¬ c) (h : Ev f r) : Ev (fun k => if c then g k else f k) r := Ev.congr (fun k => if_neg hc) h
theorem ev_bind_some {α β : Type} {a : α} {f : Nat → α → Option β} {r : β} (h : Ev (fun k => f k a) r) : Ev (fun k => (some a).bind (f k)) r := h
theorem ev_uniq {α : Type} {g : Nat → Option α} {r s : α} (h : Ev g r) (h' : Ev g s) : r = s := by
  obtain ⟨K, hK⟩ := h
  obtain ⟨J, hJ⟩ := h'
  have h1 := hK (max K J) (Nat.le_max_left _ _)
  rw [hJ (max K J) (Nat.le_max_right _ _)] at h1
  exact (Option.some.inj h1).symm
/-- A loop that counts up to n. -/
theorem ev_up {β : Type} {L : Nat → Nat → Option β} (r : Nat → β) (n : Nat) (hend : Ev (fun k => L k n) (r n)) (hstep : ∀ i, i < n → Ev (fun k => L k (i + 1)) (r (i + 1)) → Ev (fun k => L k i) (r i)) :
    ∀ d i, i + d = n → Ev (fun k => L k i) (r i)
  | 0, i, h => by
    obtain rfl : i = n := by omega
    exact hend
  | d + 1, i, h => hstep i (by omega) (ev_up r n hend hstep d (i + 1) (by omega))
/-- A loop that asks something of each element of a list, and something at its end. -/
theorem ev_all_end {α : Type} (l : List α) (z : α) (q : α → Bool) (e : Bool) {L : Nat → Int → Option Bool} (hend : ∀ k, L (k + 1) (l.length : Int) = some e)
    (hstep : ∀ (i : Nat), i < l.length → ∀ b, Ev (fun k => L k ((i + 1 : Nat) : Int)) b → Ev (fun k => L k (i : Int)) (q (l.getD i z) && b)) : Ev (fun k => L k 0) (l.all q && e) := by
  have h := ev_up (L := fun k i => L k (i : Int)) (fun i => (l.drop i).all q && e) l.length (by simpa using ev_succ hend) (fun i hi h => by
    have h1 := hstep i hi _ h
    have e1 : l.drop i = l.getD i z :: l.drop (i + 1) := by
      rw [List.drop_eq_getElem_cons hi, List.getD_eq_getElem?_getD, List.getElem?_eq_getElem hi]
      rfl
    show Ev _ ((l.drop i).all q && e)
    rw [e1, List.all_cons, Bool.and_assoc]
    exact h1) l.length 0 (by omega)
  simpa using h
theorem ev_all {α : Type} (l : List α) (z : α) (q : α → Bool) {L : Nat → Int → Option Bool} (hend : ∀ k, L (k + 1) (l.length : Int) = some true)
    (hstep : ∀ (i : Nat), i < l.length → ∀ b, Ev (fun k => L k ((i + 1 : Nat) : Int)) b → Ev (fun k => L k (i : Int)) (q (l.getD i z) && b)) : Ev (fun k => L k 0) (l.all q) := by
  simpa using ev_all_end l z q true hend hstep

/-! ### the order of bytes -/
theorem less_eq : ∀ (x y : List UInt8), Op.bytesLess x y = decide (x < y)
  | [], [] => by simp [Op.bytesLess]
  | _ :: _, [] => by simp [Op.bytesLess]
  | [], _ :: _ => by simp [Op.bytesLess]
  | a :: x, b :: y => by
    rw [Op.bytesLess, less_eq x y]
    simp only [List.cons_lt_cons_iff]
    by_cases h1 : a < b <;> by_cases h2 : a = b <;> by_cases h3 : x < y <;> simp [h1, h2, h3]
theorem less_irrefl (a : List UInt8) : Op.bytesLess a a = false := by rw [less_eq]; simp [List.lt_irrefl]
theorem less_asymm {a b : List UInt8} (h : Op.bytesLess a b = true) : Op.bytesLess b a = false := by
  rw [less_eq] at h ⊢
  have := List.lt_asymm (of_decide_eq_true h)
  simpa using this
theorem less_trans {a b c : List UInt8} (h : Op.bytesLess a b = true) (k : Op.bytesLess b c = true) : Op.bytesLess a c = true := by
  rw [less_eq] at h k ⊢
  exact decide_eq_true (List.lt_trans (of_decide_eq_true h) (of_decide_eq_true k))
theorem less_total {a b : List UInt8} (h : Op.bytesLess a b = false) (hne : a ≠ b) : Op.bytesLess b a = true := by
  rw [less_eq] at h ⊢
  have h1 : ¬ a < b := of_decide_eq_false h
  refine decide_eq_true ?_
  have h2 : b ≤ a := List.not_lt.1 h1
  rcases List.le_iff_lt_or_eq.1 h2 with h3 | h3
  · exact h3
  · exact absurd h3.symm hne
end Go.Proofs.YtbcgcfdpblhddaaDoor.Pure
