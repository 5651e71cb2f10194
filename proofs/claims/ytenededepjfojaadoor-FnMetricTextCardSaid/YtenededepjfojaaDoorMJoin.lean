/- Texts joined with a separator, over plain lists: the reference's way. -/
import Derived.Test.YtenededepjfojaaDoorMVal
set_option linter.unusedVariables false
set_option linter.unusedSimpArgs false
namespace Go.Proofs.YtenededepjfojaaDoor.Pure
open Go.RowKit Go.Proofs.YtenededepjfojaaDoor.Q Go.Proofs.YtenededepjfojaaDoorW.PrintWords Go.Proofs.YtenededepjfojaaDoorW.PrintLast
abbrev bl (b : ByteArray) : List UInt8 := b.data.toList
theorem ba_of {a b : ByteArray} (h : bl a = bl b) : a = b := ByteArray.ext (Array.toList_inj.1 h)
theorem bl_append (a b : ByteArray) : bl (a ++ b) = bl a ++ bl b := by simp [bl, ByteArray.data_append]
theorem bl_joined (l : List ByteArray) (s : ByteArray) : bl (joined l s) = Go.Lib.join (l.map bl) (bl s) := by simp [joined, bl]
theorem joined_snoc (l : List ByteArray) (x s : ByteArray) (h : l ≠ []) : joined (l ++ [x]) s = (joined l s ++ s) ++ x := by
  apply ba_of
  rw [bl_append, bl_append, bl_joined, bl_joined]
  obtain ⟨y, r, rfl⟩ := List.exists_cons_of_ne_nil h
  rw [List.cons_append, List.map_cons, List.map_cons, Go.Lib.join_cons, Go.Lib.join_cons, List.map_append, List.map_cons, List.map_nil]
  simp [Go.Lib.joinTail, List.append_assoc]
theorem joined_one (x s : ByteArray) : joined [x] s = (⟨#[]⟩ : ByteArray) ++ x := by
  apply ba_of
  rw [bl_append, bl_joined, List.map_cons, List.map_nil, Go.Lib.join_one]
  rfl
theorem size_bl (b : ByteArray) : b.size = (bl b).length := rfl
def sizes (l : List ByteArray) : Nat := (l.map ByteArray.size).sum
theorem sizes_cons (x : ByteArray) (r : List ByteArray) : sizes (x :: r) = x.size + sizes r := by unfold sizes; rw [List.map_cons, List.sum_cons]
theorem tail_len (s : List UInt8) : ∀ r : List ByteArray, (Go.Lib.joinTail s (r.map bl)).length = r.length * s.length + sizes r
  | [] => by simp [Go.Lib.joinTail, sizes]
  | x :: r => by
    have ih := tail_len s r
    have e : Go.Lib.joinTail s ((x :: r).map bl) = (s ++ bl x) ++ Go.Lib.joinTail s (r.map bl) := by simp [Go.Lib.joinTail]
    rw [e, List.length_append, List.length_append, ih, List.length_cons, Nat.add_mul]
    have : sizes (x :: r) = (bl x).length + sizes r := by simp [sizes, bl]
    rw [this]
    omega
theorem join_len (l : List ByteArray) (s : ByteArray) : (Go.Lib.join (l.map bl) (bl s)).length ≤ l.length * s.size + sizes l := by
  cases l with
  | nil => simp [Go.Lib.join_nil]
  | cons x r =>
    rw [List.map_cons, Go.Lib.join_cons, List.length_append, tail_len, List.length_cons, Nat.add_mul, size_bl s]
    have : sizes (x :: r) = (bl x).length + sizes r := by simp [sizes, bl]
    rw [this]
    omega
theorem sizes_take (l : List ByteArray) (i : Nat) : sizes (l.take i) ≤ sizes l := by
  have h : sizes l = sizes (l.take i) + sizes (l.drop i) := by
    unfold sizes
    rw [← List.sum_append, ← List.map_append, List.take_append_drop]
  omega
theorem joined_take (l : List ByteArray) (s : ByteArray) (i : Nat) : (joined (l.take i) s).size ≤ l.length * s.size + sizes l := by
  rw [size_bl, bl_joined]
  have h1 := join_len (l.take i) s
  have h2 := sizes_take l i
  have h3 : (l.take i).length * s.size ≤ l.length * s.size := Nat.mul_le_mul_right _ (by rw [List.length_take]; omega)
  omega
theorem rdOf_get {l : List ByteArray} {i : Nat} (h : i < l.length) : rdOf ByteArray.empty l (i : Int) = l[i] := by simp [rdOf, h]
end Go.Proofs.YtenededepjfojaaDoor.Pure
