/- A row of bytes that the call made out of a text: read, written, made a text again; the law's own 'turned' in plain words. -/
import Derived.Test.YtnjghpoeokfekaaDoorHex
import Derived.Test.YtnjghpoeokfekaaDoorWMore
import Derived.Laws.IdiomStrings
namespace Go.Proofs.YtnjghpoeokfekaaDoor.Door
open Go.RowKit Go.Lib
set_option linter.unusedVariables false
set_option linter.unusedSimpArgs false
/-- Block B holds the bytes L from its begin on, and they may be written. -/
def BRow (w : World) (B : Nat) (L : List UInt8) : Prop := ∀ j, j < L.length → w.cell? ⟨B, j, none⟩ = some (.int .u8 (L.getD j 0).toNat) ∧ w.frozen? ⟨B, j, none⟩ = false
theorem BRow.made (w : World) (e : TypeId) (s : ByteArray) : BRow (Lib.bytesWorld w e s) w.heap.size s.data.toList := by
  intro j hj
  have hz : s.data.toList.length = s.size := by rw [Array.length_toList]; rfl
  refine ⟨Lib.bytesWorld_cell w e s j (by omega), ?_⟩
  unfold World.frozen?
  rw [Lib.bytesWorld_at_new]
  have hc : s.size ≤ (Lib.bytesCells w e s).size := by
    unfold Lib.bytesCells
    rw [Array.size_append, Array.size_map]
    show s.data.size ≤ _
    omega
  show (decide ((Lib.bytesCells w e s).size ≤ j) && decide (j < (Lib.bytesCells w e s).size + 1)) = false
  rw [decide_eq_false (by omega), Bool.false_and]
theorem BRow.below {w w' : World} {B base : Nat} {L : List UInt8} (h : BRow w B L) (hb : Below base w w') (hB : B < base) : BRow w' B L :=
  fun j hj => ⟨(hb.cell hB).trans (h j hj).1, (hb.frozen hB).trans (h j hj).2⟩
theorem BRow.set {w : World} {B : Nat} {L : List UInt8} (h : BRow w B L) (i : Nat) (hi : i < L.length) (c : UInt8) : BRow (w.setCell ⟨B, i, none⟩ (.int .u8 c.toNat)) B (L.set i c) := by
  intro j hj
  rw [List.length_set] at hj
  obtain ⟨h1, h2⟩ := h j hj
  refine ⟨?_, by rw [World.frozen?_setCell]; exact h2⟩
  by_cases hij : i = j
  · subst hij
    rw [World.cell?_setCell_same _ _ _ (by rw [h1])]
    simp [List.getD, hj]
  · rw [World.cell?_setCell_other _ _ _ _ (fun h => by cases h; exact hij rfl), h1]
    simp [List.getD, List.getElem?_set_ne hij]
theorem BRow.back {w : World} {B cap : Nat} {L : List UInt8} (h : BRow w B L) (src dst e : TypeId) (hs : Tryd.prog.underlying src = some (.slice e)) (he : Tryd.prog.underlying e = some (.int .u8)) (hd : Tryd.prog.underlying dst = some .string) :
    (convert src dst (.slice (some ⟨B, 0, none⟩) L.length cap)).run Tryd.prog w = .ok (.string ⟨L.toArray⟩) w := by
  refine run_convert_bytes_back w src dst e ⟨B, 0, none⟩ cap L hs he hd (fun j hj => ?_)
  have h1 := (h j hj).1
  have : (⟨B, 0, none⟩ : Addr).add j = ⟨B, j, none⟩ := by unfold Addr.add; split <;> simp_all
  rw [this, h1]
  simp [List.getD, hj]
theorem or_u8 (c : UInt8) : bits .or .u8 (c.toNat : Int) 32 = ((c ||| 32).toNat : Int) := by
  have h : ∀ n < 256, bits .or .u8 ((n : Nat) : Int) 32 = ((UInt8.ofNat n ||| 32).toNat : Int) := by decide +kernel
  have := h c.toNat c.toNat_lt
  rwa [UInt8.ofNat_toNat] at this
theorem xor_u8 (c : UInt8) : bits .xor .u8 (c.toNat : Int) 32 = ((c ^^^ 32).toNat : Int) := by
  have h : ∀ n < 256, bits .xor .u8 ((n : Nat) : Int) 32 = ((UInt8.ofNat n ^^^ 32).toNat : Int) := by decide +kernel
  have := h c.toNat c.toNat_lt
  rwa [UInt8.ofNat_toNat] at this
def turnB (m : List Bool) (i : Nat) (c : UInt8) : UInt8 := if 0 < m.length ∧ m.getD (i % m.length) false = true ∧ 97 ≤ (c ||| 32).toNat ∧ (c ||| 32).toNat ≤ 122 then c ^^^ 32 else c
/-- The first k bytes turned. -/
def turnTo (m : List Bool) (k : Nat) (bs : List UInt8) : List UInt8 := bs.mapIdx fun i c => if i < k then turnB m i c else c
theorem turnTo_len (m : List Bool) (k : Nat) (bs : List UInt8) : (turnTo m k bs).length = bs.length := by unfold turnTo; rw [List.length_mapIdx]
theorem turnTo_zero (m : List Bool) (bs : List UInt8) : turnTo m 0 bs = bs := by
  unfold turnTo
  apply List.ext_getElem
  · simp
  · intro i h1 h2
    simp
theorem turnTo_at (m : List Bool) (k : Nat) (bs : List UInt8) (h : k < bs.length) : (turnTo m k bs).getD k 0 = bs.getD k 0 := by
  unfold turnTo
  simp [List.getD, h]
theorem turnTo_next (m : List Bool) (k : Nat) (bs : List UInt8) (h : k < bs.length) : turnTo m (k + 1) bs = (turnTo m k bs).set k (turnB m k (bs.getD k 0)) := by
  unfold turnTo
  apply List.ext_getElem
  · simp
  · intro i h1 h2
    simp only [List.length_mapIdx] at h1
    rw [List.getElem_set]
    by_cases hik : k = i
    · subst hik
      simp [List.getD, h]
    · rw [if_neg hik]
      simp only [List.getElem_mapIdx]
      by_cases hl : i < k
      · rw [if_pos (by omega), if_pos hl]
      · rw [if_neg (by omega), if_neg hl]
theorem turnTo_stay (m : List Bool) (k : Nat) (bs : List UInt8) (h : k < bs.length) (hc : turnB m k (bs.getD k 0) = bs.getD k 0) : turnTo m (k + 1) bs = turnTo m k bs := by
  rw [turnTo_next m k bs h, hc]
  apply List.ext_getElem
  · simp
  · intro i h1 h2
    rw [List.getElem_set]
    by_cases hik : k = i
    · subst hik
      have := turnTo_at m k bs h
      rw [if_pos rfl, ← this]
      simp [List.getD, h2]
    · rw [if_neg hik]
end Go.Proofs.YtnjghpoeokfekaaDoor.Door
