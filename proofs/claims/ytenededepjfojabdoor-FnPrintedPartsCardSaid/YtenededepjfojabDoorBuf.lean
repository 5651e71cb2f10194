/- A bytes.Buffer of a call's own, in short words: Buf. -/
import Derived.Test.YtenededepjfojabDoorShelf
import Derived.Test.YtenededepjfojabDoorWMore
import Derived.Lib.BufferOld
import Derived.WalkSmall
set_option linter.unusedVariables false
set_option linter.unusedSimpArgs false
namespace Go.Proofs.YtenededepjfojabDoor.Door
open Go.RowKit Go.Lib Go.Proofs.YtenededepjfojabDoorW.PrintWords Go.Proofs.YtenededepjfojabDoorW.PrintLast
/-- The call that began at w0 has a buffer in block b that holds the bytes l; what was there then stands. -/
def Buf (w0 : World) (b : Nat) (l : List UInt8) (W : World) : Prop := Lib.IsBuffer 41 5 w0.heap.size b (Lib.byteCells l) W ∧ Below w0.heap.size w0 W
theorem Buf.below {w0 : World} {b : Nat} {l : List UInt8} {W : World} (h : Buf w0 b l W) : Below w0.heap.size w0 W := h.2
theorem Buf.le {w0 : World} {b : Nat} {l : List UInt8} {W : World} (h : Buf w0 b l W) : w0.heap.size ≤ W.heap.size := below_size h.2
theorem buf_new (w : World) : Buf w w.heap.size [] (w.alloc (.cells #[.slice none 0 0, .int .i64 0, .int .i8 0] 41)) :=
  ⟨Lib.fresh_isBuffer 41 5 w, (Below.refl _ w).alloc (Nat.le_refl _) _⟩
theorem Buf.old {w0 : World} {b : Nat} {l : List UInt8} {W W' : World} (h : Buf w0 b l W) (hb : Below W.heap.size W W') : Buf w0 b l W' := ⟨h.1.old hb, below_step h.2 hb⟩
theorem buf_byte {w0 : World} {b : Nat} {l : List UInt8} {W : World} (h : Buf w0 b l W) (c : UInt8) (z : Int) (hz : (c.toNat : Int) = z) (hl : l.length + 1 ≤ 140737488355328) :
    Calls Tryd.prog 13 #[.pointer (some ⟨b, 0, none⟩), .int .u8 z] W fun e w' => e = .returned .nilIface ∧ Buf w0 b (l ++ [c]) w' := by
  subst hz
  refine (Tryd.Buffer_WriteByte w0.heap.size b _ (c.toNat : Int) W h.1 h.le (Lib.byteCells_one _) (by rw [Lib.byteCells_length]; exact hl)).mono ?_
  rintro e w' ⟨he, h1, h2⟩
  have e2 : Lib.byteCells l ++ [Value.int .u8 (c.toNat : Int)] = Lib.byteCells (l ++ [c]) := by simp [Lib.byteCells]
  rw [e2] at h1
  exact ⟨he, h1, h.2.trans h2⟩
theorem buf_text {w0 : World} {b : Nat} {l : List UInt8} {W : World} (h : Buf w0 b l W) (s : ByteArray) (hl : l.length + s.size ≤ 140737488355328) :
    Calls Tryd.prog 14 #[.pointer (some ⟨b, 0, none⟩), .string s] W fun e w' => e = .returned (.tuple #[.int .i64 s.size, .nilIface]) ∧ Buf w0 b (l ++ s.data.toList) w' := by
  refine (Tryd.Buffer_WriteString w0.heap.size b _ s W h.1 h.le (Lib.byteCells_one _) (by rw [Lib.byteCells_length]; exact hl)).mono ?_
  rintro e w' ⟨he, h1, h2⟩
  rw [← Lib.byteCells_append] at h1
  exact ⟨he, h1, h.2.trans h2⟩
theorem buf_end {w0 : World} {b : Nat} {l : List UInt8} {W : World} (h : Buf w0 b l W) :
    Calls Tryd.prog 15 #[.pointer (some ⟨b, 0, none⟩)] W fun e w' => e = .returned (.string ⟨l.toArray⟩) ∧ Below w0.heap.size w0 w' := by
  refine (Tryd.Buffer_String w0.heap.size b l W h.1).mono ?_
  rintro e w' ⟨he, n, rfl⟩
  exact ⟨he, h.2.trans ⟨rfl, rfl, rfl, Nat.le_refl _, fun _ _ => rfl⟩⟩
end Go.Proofs.YtenededepjfojabDoor.Door
