/- Matchers' texts of any bytes, and a list's: what the program writes. Plain lists. -/
import Derived.Test.YtenededepjfojabDoorEscP
import Derived.Test.YtenededepjfojabDoorQx3
import Derived.Test.YtenededepjfojabDoorQx3
set_option linter.unusedVariables false
set_option linter.unusedSimpArgs false
namespace Go.Proofs.YtenededepjfojabDoor.Pure
open Go.RowKit Go.Proofs.YtenededepjfojabDoor.Q Go.Proofs.YtenededepjfojabDoor.Door Go.Proofs.YtenededepjfojabDoorW.PrintWords Go.Proofs.YtenededepjfojabDoorW.PrintLast
theorem ev_map {α β : Type} {g : Nat → Option α} {a : α} (f : α → β) (h : Ev g a) : Ev (fun k => (g k).map f) (f a) := by
  obtain ⟨K, hK⟩ := h
  exact ⟨K, fun k hk => by show Option.map f (g k) = _; rw [hK k hk]; rfl⟩
theorem tail_le (C : Nat) : ∀ (r : List (List UInt8)), (∀ t ∈ r, t.length ≤ C) → (Go.Lib.joinTail [44] r).length ≤ r.length * (C + 1)
  | [], _ => by simp [Go.Lib.joinTail]
  | t :: r, h => by
    have ih := tail_le C r (fun q hq => h q (List.mem_cons_of_mem _ hq))
    have h1 := h t List.mem_cons_self
    have e : Go.Lib.joinTail [44] (t :: r) = ([44] ++ t) ++ Go.Lib.joinTail [44] r := by simp [Go.Lib.joinTail]
    have e3 : (t :: r).length * (C + 1) = r.length * (C + 1) + (C + 1) := by rw [List.length_cons, Nat.succ_mul]
    rw [e, List.length_append, List.length_append, e3]
    simp only [List.length_cons, List.length_nil]
    omega
theorem join_le (C : Nat) (r : List (List UInt8)) (h : ∀ t ∈ r, t.length ≤ C) : (Go.Lib.join r [44]).length ≤ r.length * (C + 1) := by
  cases r with
  | nil => simp [Go.Lib.join_nil]
  | cons t r =>
    have e3 : (t :: r).length * (C + 1) = r.length * (C + 1) + (C + 1) := by rw [List.length_cons, Nat.succ_mul]
    rw [Go.Lib.join_cons, List.length_append, e3]
    have h1 := h t List.mem_cons_self
    have h2 := tail_le C r (fun q hq => h q (List.mem_cons_of_mem _ hq))
    omega
def escB (v : ByteArray) : ByteArray := ⟨(escL v.data.toList).toArray⟩
/-- What is written of a matcher. -/
def mtextA (t : Nat) (n v : ByteArray) : ByteArray := if conB n = true then quoteB n ++ opText t ++ quoteB v else n ++ opText t ++ ⟨#[34]⟩ ++ escB v ++ ⟨#[34]⟩
theorem mtextA_size (t : Nat) (n v : ByteArray) (hn : n.size ≤ 2147483647) (hv : v.size ≤ 2147483647) : (mtextA t n v).size ≤ 50000000000 := by
  have s1 := quoteB_size n
  have s2 := quoteB_size v
  have s3 := op_size t
  have e := escL_len v.data.toList
  have e2 : v.data.toList.length = v.size := rfl
  have e3 : (escB v).size = (escL v.data.toList).length := rfl
  have z : (⟨#[34]⟩ : ByteArray).size = 1 := rfl
  unfold mtextA
  split
  · rw [ByteArray.size_append, ByteArray.size_append]
    omega
  · rw [ByteArray.size_append, ByteArray.size_append, ByteArray.size_append, ByteArray.size_append]
    omega
theorem mtextA_ev (t : Nat) (n v : ByteArray) (hn : n.size ≤ 2147483647) (hv : v.size ≤ 2147483647) (ht : t < 4) : Ev (fun k => mtext k (t : Int) n v) (mtextA t n v) := by
  have s1 := quoteB_size n
  have s2 := quoteB_size v
  have hc : (0 : Int) ≤ (t : Int) ∧ (t : Int) < 4 ∧ n.size ≤ 2147483647 ∧ v.size ≤ 2147483647 ∧ (quoteB n).size ≤ 30000000000 ∧ (quoteB v).size ≤ 30000000000 := ⟨by omega, by omega, hn, hv, by omega, by omega⟩
  have e := escL_len v.data.toList
  have e2 : v.data.toList.length = v.size := rfl
  unfold mtext mtextA
  simp only [if_pos hc, Int.toNat_natCast]
  cases conB n with
  | true =>
    simp only [if_true]
    exact Ev.now _
  | false =>
    simp only [Bool.false_eq_true, if_false]
    refine Ev.bind (esc_ev v hv) ?_
    have hsz : (⟨(escL v.data.toList).toArray⟩ : ByteArray).size ≤ 30000000000 := by show (escL v.data.toList).length ≤ _; omega
    simp only [if_pos hsz]
    exact Ev.now _
def imT (a : S26) : ByteArray := mtextA a.f0.toNat a.f1 a.f2
def imOk (a : S26) : Prop := 0 ≤ a.f0 ∧ a.f0 < 4 ∧ a.f1.size ≤ 2147483647 ∧ a.f2.size ≤ 2147483647
theorem imT_ev (a : S26) (h : imOk a) : Ev (fun k => mtext k a.f0 a.f1 a.f2) (imT a) := by
  obtain ⟨h0, h4, h1, h2⟩ := h
  have e : a.f0 = ((a.f0.toNat : Nat) : Int) := by omega
  have := mtextA_ev a.f0.toNat a.f1 a.f2 h1 h2 (by omega)
  rwa [← e] at this
def imL (l : List S26) : List (List UInt8) := l.map fun a => (imT a).data.toList
theorem imL_ev : ∀ (l : List S26), (∀ a ∈ l, imOk a) → Ev (fun k => mtexts k (l.map toMat)) (imL l)
  | [], _ => Ev.now _
  | a :: l, h => by
    have ih := imL_ev l (fun q hq => h q (List.mem_cons_of_mem _ hq))
    exact Ev.bind (f := fun k t => (mtexts k (l.map toMat)).map fun q => t.data.toList :: q) (imT_ev a (h a List.mem_cons_self)) (ev_map _ ih)
theorem imL_le {l : List S26} (hl : l.length ≤ 1000) (h : ∀ a ∈ l, imOk a) : (Go.Lib.join (imL l) [44]).length ≤ 50000000001000 := by
  have hj := join_le 50000000000 (imL l) (fun t ht => by
    obtain ⟨a, ha, rfl⟩ := List.mem_map.1 ht
    obtain ⟨_, _, h1, h2⟩ := h a ha
    exact mtextA_size _ _ _ h1 h2)
  have e : (imL l).length = l.length := List.length_map _
  rw [e] at hj
  have : l.length * (50000000000 + 1) ≤ 1000 * (50000000000 + 1) := Nat.mul_le_mul_right _ hl
  omega
theorem imPs_ev (l : List S26) (hl : l.length ≤ 1000) (h : ∀ a ∈ l, imOk a) : Ev (fun k => impl_PrintMatchers.f k l) ⟨(123 :: Go.Lib.join (imL l) [44] ++ [125]).toArray⟩ := by
  have hJ := imL_le hl h
  unfold impl_PrintMatchers.f
  simp only [if_pos (show l.length ≤ 17592186044416 by omega)]
  refine Ev.bind (imL_ev l h) ?_
  simp only [if_pos (show (Go.Lib.join (imL l) [44]).length ≤ 140737488355300 by omega)]
  exact Ev.now _
end Go.Proofs.YtenededepjfojabDoor.Pure
