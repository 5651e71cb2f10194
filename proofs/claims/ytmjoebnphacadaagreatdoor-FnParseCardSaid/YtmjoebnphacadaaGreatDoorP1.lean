/- Joined by wip/tools/pack.py: what the claim uses of Ma. No conditions beyond each theorem's own. -/
import Derived.Test.YtmjoebnphacadaaGreatDoorP0
import Derived.Lib.RuneCount
import Derived.WalkSmall
import Derived.LoopTactic
import Derived.BigCall
import Derived.Lib.TrimUEq
import Derived.Lib.RuneCountTail
import Derived.Lib.MapLaws
import Derived.Deep.QuietTactic
import Derived.BigQuiet
import Derived.BigRegion
import Derived.Deep.RegionHeld3
import Derived.Defers
import Derived.WalkKit
import Derived.LaidEql
import Derived.Stop.Asserts
import Derived.RowKitTokens
import Derived.Lib.DecodeN
import Derived.Shelf.Unicode.ValidAny
import Derived.Lib.LaidU8
import Derived.PinnedBridge
/- The parser, joined by wip/tools/merge.py: Pz LexA LexB LexC LexD LexE LexF LexG LexH LexI Peek Kinds Is Span Acc Et UqV. No conditions beyond each theorem's own. -/
/- parse.zzIndexRune, parse.zzContainsRune: their walks. -/
namespace Go.Proofs.YtmjoebnphacadaaGreatDoor.Lex
open Go.RowKit Go.Lib Go.Proofs.YtmjoebnphacadaaGreatDoorW.PrintWords Go.Proofs.YtmjoebnphacadaaGreatDoorW.PrintLast
set_option linter.unusedVariables false
set_option linter.unusedSimpArgs false
/-- The first place of a rune from a place on; -1: none. -/
def idxR (r : Int) (s : ByteArray) : Nat → Nat → Int
  | 0, _ => -1
  | f + 1, pos => if pos < s.size then (if ((Utf8.decode s pos).1 : Int) = r then (pos : Int) else idxR r s f (pos + (Utf8.decode s pos).2)) else -1
def badR (r : Int) : Bool := !decide (r = 65533) && (decide (r < 0) || decide (r > 1114111) || (decide (55296 ≤ r) && decide (r ≤ 57343)))
def zzIdx (s : ByteArray) (r : Int) : Int := if badR r = true then -1 else idxR r s s.size 0
theorem idxR_end (r : Int) (s : ByteArray) (f pos : Nat) (h : ¬ pos < s.size) : idxR r s f pos = -1 := by
  cases f with
  | zero => rfl
  | succ f => simp [idxR, h]
theorem idxR_step {r : Int} {s : ByteArray} {f pos : Nat} (h : pos < s.size) : idxR r s (f + 1) pos = if ((Utf8.decode s pos).1 : Int) = r then (pos : Int) else idxR r s f (pos + (Utf8.decode s pos).2) := by simp [idxR, h]
set_option maxHeartbeats 4000000 in
set_option maxRecDepth 1000000 in
theorem zz_index (s : ByteArray) (r : Int) (w : World) (hs : s.size ≤ 2147483647) (h0 : -2147483648 ≤ r) (h1 : r ≤ 2147483647) :
    Calls Tryz.prog 72 #[.string s, .int .i32 r] w fun e w' => e = .returned (.int .i64 (zzIdx s r)) ∧ Below w.heap.size w w' := by
  cases hb : badR r with
  | true =>
    have hv : zzIdx s r = -1 := by unfold zzIdx; rw [hb, if_pos rfl]
    rw [hv]
    unfold badR at hb
    simp only [Bool.and_eq_true, Bool.or_eq_true, Bool.not_eq_true', decide_eq_true_eq, decide_eq_false_iff_not] at hb
    obtain ⟨n1, hb⟩ := hb
    have b1 : (r != 65533) = true := by simpa using n1
    clear hv n1
    rcases hb with (hb | hb) | ⟨hb, hc⟩
    · go_enter Tryz.func72, Tryz.ntmps72
      go_wp2
      go_ret
      exact ⟨rfl, Below.refl _ _⟩
    · have hn : ¬ r < 0 := by omega
      go_enter Tryz.func72, Tryz.ntmps72
      go_wp2
      go_ret
      exact ⟨rfl, Below.refl _ _⟩
    · have hn : ¬ r < 0 := by omega
      have hn2 : ¬ r > 1114111 := by omega
      go_enter Tryz.func72, Tryz.ntmps72
      go_wp2
      go_ret
      exact ⟨rfl, Below.refl _ _⟩
  | false =>
  obtain ⟨R, hR⟩ : ∃ R, zzIdx s r = R := ⟨_, rfl⟩
  rw [hR]
  unfold zzIdx at hR
  rw [hb, if_neg (by simp)] at hR
  have HR := Aside0.mk hR
  clear hR
  have h3 : r = 65533 ∨ (0 ≤ r ∧ r < 55296) ∨ (57343 < r ∧ r ≤ 1114111 ∧ r ≠ 65533) := by
    unfold badR at hb
    by_cases e : r = 65533
    · exact Or.inl e
    · simp [e] at hb
      omega
  clear hb
  rcases h3 with h3 | ⟨p1, p2⟩ | ⟨p1, p2, p3⟩
  · have b1 : (r != 65533) = false := by simpa using h3
    clear h3
    go_enter Tryz.func72, Tryz.ntmps72
    go_wp2
    go_loopw [] (fun wr => ∃ (pos fuel : Nat), Aside0 (wr.heap[w.heap.size]? = some (.stringIter s pos) ∧ Below w.heap.size w wr ∧ idxR r s fuel pos = R ∧ s.size ≤ pos + fuel)) (fun wr => s.size - wr.iterPos w.heap.size)
    case atStart => exact ⟨0, s.size, Aside0.mk ⟨World.iter_heap w s 0, (Below.refl _ w).alloc (Nat.le_refl _) _, HR.out, by omega⟩⟩
    case round =>
      obtain ⟨pos, fuel, HR⟩ := hrel
      obtain ⟨hit, hbw, hacc, hfu⟩ := HR.out
      clear HR
      have HA := Aside0.mk hacc
      clear hacc
      have hsz : w.heap.size < wr.heap.size := (Array.getElem?_eq_some_iff.1 hit).1
      by_cases hp : pos < s.size
      · have hnx : ∀ ty, (Instr.next (.pointer (some ⟨w.heap.size, 0, none⟩)) true ty).run Tryz.prog wr = _ := fun ty => Lib.run_next_any_at wr w.heap.size s pos ty hit hp
        have hwd := Lib.decode_width_pos s pos hp
        obtain ⟨f, rfl⟩ : ∃ f, fuel = f + 1 := ⟨fuel - 1, by omega⟩
        have hstep := idxR_step (r := r) (f := f) hp
        obtain ⟨⟨q, wd⟩, hq⟩ : ∃ q, Utf8.decode s pos = q := ⟨_, rfl⟩
        rw [hq] at hnx hwd hstep
        simp only at hnx hwd hstep
        rw [hstep] at HA
        have HT := Aside0.mk hit
        have HT2 := Aside0.mk (Lib.iterAt_heap wr w.heap.size s pos (pos + wd) hit)
        have HB2 := Aside0.mk (Lib.below_iterAt hbw (k := w.heap.size) (by omega) s (pos + wd))
        clear hq hstep hit hbw
        by_cases hr : (q : Int) = r
        · have hR : (pos : Int) = R := by rw [← HA.out, if_pos hr]
          subst hR
          have hrb : ((q : Int) == r) = true := by simpa using hr
          clear HA hr
          go_wp2
          go_ret
          exact ⟨rfl, HB2.out⟩
        · have HA2 := Aside0.mk (show idxR r s f (pos + wd) = R by rw [← HA.out, if_neg hr])
          have hrb : ((q : Int) == r) = false := by simpa using hr
          clear HA hr
          go_wp2
          go_roundw
          case rel => exact ⟨pos + wd, f, Aside0.mk ⟨HT2.out, HB2.out, HA2.out, by omega⟩⟩
          case measure =>
            have e1 : (wr.iterAt w.heap.size s (pos + wd)).iterPos w.heap.size = pos + wd := by
              have := HT2.out
              simp only [World.iterPos, this]
            have e2 : wr.iterPos w.heap.size = pos := by simp only [World.iterPos, HT.out]
            show s.size - (wr.iterAt w.heap.size s (pos + wd)).iterPos w.heap.size < s.size - wr.iterPos w.heap.size
            rw [e1, e2]
            omega
      · have hnx : ∀ ty, (Instr.next (.pointer (some ⟨w.heap.size, 0, none⟩)) true ty).run Tryz.prog wr = _ := fun ty => Lib.run_next_end_at wr w.heap.size s pos ty hit hp
        have HB := Aside0.mk hbw
        clear hbw
        have hR := HA.out
        rw [idxR_end r s fuel pos hp] at hR
        subst hR
        go_wp2
        go_ret
        exact ⟨rfl, HB.out⟩
  · have b1 : (r != 65533) = true := by simpa using (show ¬ r = 65533 by omega)
    have b2 : ¬ r < 0 := by omega
    have b3 : ¬ r > 1114111 := by omega
    have b4 : ¬ 55296 ≤ r := by omega
    clear p1 p2
    go_enter Tryz.func72, Tryz.ntmps72
    go_wp2
    go_loopw [] (fun wr => ∃ (pos fuel : Nat), Aside0 (wr.heap[w.heap.size]? = some (.stringIter s pos) ∧ Below w.heap.size w wr ∧ idxR r s fuel pos = R ∧ s.size ≤ pos + fuel)) (fun wr => s.size - wr.iterPos w.heap.size)
    case atStart => exact ⟨0, s.size, Aside0.mk ⟨World.iter_heap w s 0, (Below.refl _ w).alloc (Nat.le_refl _) _, HR.out, by omega⟩⟩
    case round =>
      obtain ⟨pos, fuel, HR⟩ := hrel
      obtain ⟨hit, hbw, hacc, hfu⟩ := HR.out
      clear HR
      have HA := Aside0.mk hacc
      clear hacc
      have hsz : w.heap.size < wr.heap.size := (Array.getElem?_eq_some_iff.1 hit).1
      by_cases hp : pos < s.size
      · have hnx : ∀ ty, (Instr.next (.pointer (some ⟨w.heap.size, 0, none⟩)) true ty).run Tryz.prog wr = _ := fun ty => Lib.run_next_any_at wr w.heap.size s pos ty hit hp
        have hwd := Lib.decode_width_pos s pos hp
        obtain ⟨f, rfl⟩ : ∃ f, fuel = f + 1 := ⟨fuel - 1, by omega⟩
        have hstep := idxR_step (r := r) (f := f) hp
        obtain ⟨⟨q, wd⟩, hq⟩ : ∃ q, Utf8.decode s pos = q := ⟨_, rfl⟩
        rw [hq] at hnx hwd hstep
        simp only at hnx hwd hstep
        rw [hstep] at HA
        have HT := Aside0.mk hit
        have HT2 := Aside0.mk (Lib.iterAt_heap wr w.heap.size s pos (pos + wd) hit)
        have HB2 := Aside0.mk (Lib.below_iterAt hbw (k := w.heap.size) (by omega) s (pos + wd))
        clear hq hstep hit hbw
        by_cases hr : (q : Int) = r
        · have hR : (pos : Int) = R := by rw [← HA.out, if_pos hr]
          subst hR
          have hrb : ((q : Int) == r) = true := by simpa using hr
          clear HA hr
          go_wp2
          go_ret
          exact ⟨rfl, HB2.out⟩
        · have HA2 := Aside0.mk (show idxR r s f (pos + wd) = R by rw [← HA.out, if_neg hr])
          have hrb : ((q : Int) == r) = false := by simpa using hr
          clear HA hr
          go_wp2
          go_roundw
          case rel => exact ⟨pos + wd, f, Aside0.mk ⟨HT2.out, HB2.out, HA2.out, by omega⟩⟩
          case measure =>
            have e1 : (wr.iterAt w.heap.size s (pos + wd)).iterPos w.heap.size = pos + wd := by
              have := HT2.out
              simp only [World.iterPos, this]
            have e2 : wr.iterPos w.heap.size = pos := by simp only [World.iterPos, HT.out]
            show s.size - (wr.iterAt w.heap.size s (pos + wd)).iterPos w.heap.size < s.size - wr.iterPos w.heap.size
            rw [e1, e2]
            omega
      · have hnx : ∀ ty, (Instr.next (.pointer (some ⟨w.heap.size, 0, none⟩)) true ty).run Tryz.prog wr = _ := fun ty => Lib.run_next_end_at wr w.heap.size s pos ty hit hp
        have HB := Aside0.mk hbw
        clear hbw
        have hR := HA.out
        rw [idxR_end r s fuel pos hp] at hR
        subst hR
        go_wp2
        go_ret
        exact ⟨rfl, HB.out⟩
  · have b1 : (r != 65533) = true := by simpa using p3
    have b2 : ¬ r < 0 := by omega
    have b3 : ¬ r > 1114111 := by omega
    have b4 : 55296 ≤ r := by omega
    have b5 : ¬ r ≤ 57343 := by omega
    clear p1 p2 p3
    go_enter Tryz.func72, Tryz.ntmps72
    go_wp2
    go_loopw [] (fun wr => ∃ (pos fuel : Nat), Aside0 (wr.heap[w.heap.size]? = some (.stringIter s pos) ∧ Below w.heap.size w wr ∧ idxR r s fuel pos = R ∧ s.size ≤ pos + fuel)) (fun wr => s.size - wr.iterPos w.heap.size)
    case atStart => exact ⟨0, s.size, Aside0.mk ⟨World.iter_heap w s 0, (Below.refl _ w).alloc (Nat.le_refl _) _, HR.out, by omega⟩⟩
    case round =>
      obtain ⟨pos, fuel, HR⟩ := hrel
      obtain ⟨hit, hbw, hacc, hfu⟩ := HR.out
      clear HR
      have HA := Aside0.mk hacc
      clear hacc
      have hsz : w.heap.size < wr.heap.size := (Array.getElem?_eq_some_iff.1 hit).1
      by_cases hp : pos < s.size
      · have hnx : ∀ ty, (Instr.next (.pointer (some ⟨w.heap.size, 0, none⟩)) true ty).run Tryz.prog wr = _ := fun ty => Lib.run_next_any_at wr w.heap.size s pos ty hit hp
        have hwd := Lib.decode_width_pos s pos hp
        obtain ⟨f, rfl⟩ : ∃ f, fuel = f + 1 := ⟨fuel - 1, by omega⟩
        have hstep := idxR_step (r := r) (f := f) hp
        obtain ⟨⟨q, wd⟩, hq⟩ : ∃ q, Utf8.decode s pos = q := ⟨_, rfl⟩
        rw [hq] at hnx hwd hstep
        simp only at hnx hwd hstep
        rw [hstep] at HA
        have HT := Aside0.mk hit
        have HT2 := Aside0.mk (Lib.iterAt_heap wr w.heap.size s pos (pos + wd) hit)
        have HB2 := Aside0.mk (Lib.below_iterAt hbw (k := w.heap.size) (by omega) s (pos + wd))
        clear hq hstep hit hbw
        by_cases hr : (q : Int) = r
        · have hR : (pos : Int) = R := by rw [← HA.out, if_pos hr]
          subst hR
          have hrb : ((q : Int) == r) = true := by simpa using hr
          clear HA hr
          go_wp2
          go_ret
          exact ⟨rfl, HB2.out⟩
        · have HA2 := Aside0.mk (show idxR r s f (pos + wd) = R by rw [← HA.out, if_neg hr])
          have hrb : ((q : Int) == r) = false := by simpa using hr
          clear HA hr
          go_wp2
          go_roundw
          case rel => exact ⟨pos + wd, f, Aside0.mk ⟨HT2.out, HB2.out, HA2.out, by omega⟩⟩
          case measure =>
            have e1 : (wr.iterAt w.heap.size s (pos + wd)).iterPos w.heap.size = pos + wd := by
              have := HT2.out
              simp only [World.iterPos, this]
            have e2 : wr.iterPos w.heap.size = pos := by simp only [World.iterPos, HT.out]
            show s.size - (wr.iterAt w.heap.size s (pos + wd)).iterPos w.heap.size < s.size - wr.iterPos w.heap.size
            rw [e1, e2]
            omega
      · have hnx : ∀ ty, (Instr.next (.pointer (some ⟨w.heap.size, 0, none⟩)) true ty).run Tryz.prog wr = _ := fun ty => Lib.run_next_end_at wr w.heap.size s pos ty hit hp
        have HB := Aside0.mk hbw
        clear hbw
        have hR := HA.out
        rw [idxR_end r s fuel pos hp] at hR
        subst hR
        go_wp2
        go_ret
        exact ⟨rfl, HB.out⟩
theorem zz_contains (s : ByteArray) (r : Int) (w : World) (hs : s.size ≤ 2147483647) (h0 : -2147483648 ≤ r) (h1 : r ≤ 2147483647) :
    Calls Tryz.prog 66 #[.string s, .int .i32 r] w fun e w' => e = .returned (.bool (decide (zzIdx s r ≥ 0))) ∧ Below w.heap.size w w' := by
  have H := Aside0.mk (zz_index s r w hs h0 h1)
  generalize zzIdx s r = v at H ⊢
  go_enter Tryz.func66, Tryz.ntmps66
  go_wp2_with fail
  refine H.out.mono ?_
  rintro e w1 ⟨rfl, hb⟩
  go_wp2
  go_ret
  exact ⟨rfl, hb⟩
end Go.Proofs.YtmjoebnphacadaaGreatDoor.Lex
/- parse.lexer in memory: what its cells hold, what a call leaves as it was; next, rewind, skip, position. -/
namespace Go.Proofs.YtmjoebnphacadaaGreatDoor.Lex
open Go.RowKit Go.Lib Go.Proofs.YtmjoebnphacadaaGreatDoorW.PrintWords Go.Proofs.YtmjoebnphacadaaGreatDoorW.PrintLast
set_option linter.unusedVariables false
set_option linter.unusedSimpArgs false
abbrev rn (s : ByteArray) (p : Nat) : Nat := (Utf8.decode s p).1
abbrev wdt (s : ByteArray) (p : Nat) : Nat := (Utf8.decode s p).2
theorem cs_other {w : World} {a b : Addr} {v : Value} (h : a ≠ b) : (w.setCell a v).cell? b = w.cell? b := World.cell?_setCell_other _ _ _ _ h
theorem cs_same {w : World} {a : Addr} {u v : Value} (h : w.cell? a = some u) : (w.setCell a v).cell? a = some v := World.cell?_setCell_same _ _ _ h
/-- A lexer in memory: its text, its error, where the token began, where it is, the last rune's width, and the columns of the two places. -/
structure LexAt (w : World) (B o : Nat) (s : ByteArray) (e : Value) (a p wd ca c : Nat) : Prop where
  c0 : w.cell? ⟨B, o, none⟩ = some (.string s)
  c1 : w.cell? ⟨B, o + 1, none⟩ = some e
  c2 : w.cell? ⟨B, o + 2, none⟩ = some (.int .i64 (a : Int))
  c3 : w.cell? ⟨B, o + 3, none⟩ = some (.int .i64 (p : Int))
  c4 : w.cell? ⟨B, o + 4, none⟩ = some (.int .i64 (wd : Int))
  c5 : w.cell? ⟨B, o + 5, none⟩ = some (.int .i64 (ca : Int))
  c6 : w.cell? ⟨B, o + 6, none⟩ = some (.int .i64 (c : Int))
  f1 : w.frozen? ⟨B, o + 1, none⟩ = false
  f2 : w.frozen? ⟨B, o + 2, none⟩ = false
  f3 : w.frozen? ⟨B, o + 3, none⟩ = false
  f4 : w.frozen? ⟨B, o + 4, none⟩ = false
  f5 : w.frozen? ⟨B, o + 5, none⟩ = false
  f6 : w.frozen? ⟨B, o + 6, none⟩ = false
/-- What a call may change of the memory that was there: the cells from o on of one block. -/
structure Kept (B o : Nat) (w w' : World) : Prop where
  os : w'.os = w.os
  tape : w'.tape = w.tape
  output : w'.output = w.output
  size : w.heap.size ≤ w'.heap.size
  block : ∀ k, k < w.heap.size → k ≠ B → w'.heap[k]? = w.heap[k]?
  cell : ∀ i, i < o → w'.cell? ⟨B, i, none⟩ = w.cell? ⟨B, i, none⟩
  froz : ∀ i, w'.frozen? ⟨B, i, none⟩ = w.frozen? ⟨B, i, none⟩
theorem Kept.refl (B o : Nat) (w : World) : Kept B o w w := ⟨rfl, rfl, rfl, Nat.le_refl _, fun _ _ _ => rfl, fun _ _ => rfl, fun _ => rfl⟩
theorem Kept.trans {B o : Nat} {a b c : World} (h : Kept B o a b) (k : Kept B o b c) : Kept B o a c :=
  ⟨k.os.trans h.os, k.tape.trans h.tape, k.output.trans h.output, Nat.le_trans h.size k.size, fun i hi hb => (k.block i (Nat.lt_of_lt_of_le hi h.size) hb).trans (h.block i hi hb),
    fun i hi => (k.cell i hi).trans (h.cell i hi), fun i => (k.froz i).trans (h.froz i)⟩
theorem LexAt.lt {w : World} {B o : Nat} {s : ByteArray} {e : Value} {a p wd ca c : Nat} (h : LexAt w B o s e a p wd ca c) : B < w.heap.size := World.block_lt_of_cell? w _ h.c0
theorem Kept.of_below {B o : Nat} {w w' : World} (h : Below w.heap.size w w') (hB : B < w.heap.size) : Kept B o w w' :=
  ⟨h.os, h.tape, h.output, h.size, fun k hk _ => h.block k hk, fun _ _ => h.cell hB, fun _ => h.frozen hB⟩
theorem Kept.below {B o base : Nat} {w w' : World} (h : Kept B o w w') (hB : base ≤ B) (hs : base ≤ w.heap.size) : Below base w w' :=
  ⟨h.os, h.tape, h.output, h.size, fun k hk => h.block k (by omega) (by omega)⟩
theorem Kept.set {B o i : Nat} {w w' : World} (h : Kept B o w w') (hi : o ≤ i) (v : Value) : Kept B o w (w'.setCell ⟨B, i, none⟩ v) :=
  ⟨h.os, h.tape, h.output, by simpa using h.size, fun k hk hb => (Below.heap_setCell w' _ v k hb).trans (h.block k hk hb),
    fun j hj => (cs_other (by intro e; injection e with _ e2 _; omega)).trans (h.cell j hj), fun j => by rw [World.frozen?_setCell]; exact h.froz j⟩
theorem Kept.alloc {B o : Nat} {w w' : World} (h : Kept B o w w') (hB : B < w.heap.size) (x : Obj) : Kept B o w (w'.alloc x) :=
  h.trans (Kept.of_below (below_alloc (Below.refl _ _) _) (Nat.lt_of_lt_of_le hB h.size))
theorem Kept.drew {B o : Nat} {w w' : World} (h : Kept B o w w') : Kept B o w w'.drew := ⟨h.os, h.tape, h.output, h.size, h.block, h.cell, h.froz⟩
theorem LexAt.below {w w' : World} {B o n : Nat} {s : ByteArray} {e : Value} {a p wd ca c : Nat} (h : LexAt w B o s e a p wd ca c) (hb : Below n w w') (hn : B < n) : LexAt w' B o s e a p wd ca c :=
  ⟨(hb.cell hn).trans h.c0, (hb.cell hn).trans h.c1, (hb.cell hn).trans h.c2, (hb.cell hn).trans h.c3, (hb.cell hn).trans h.c4, (hb.cell hn).trans h.c5, (hb.cell hn).trans h.c6,
    (hb.frozen hn).trans h.f1, (hb.frozen hn).trans h.f2, (hb.frozen hn).trans h.f3, (hb.frozen hn).trans h.f4, (hb.frozen hn).trans h.f5, (hb.frozen hn).trans h.f6⟩
theorem LexAt.drew {w : World} {B o : Nat} {s : ByteArray} {e : Value} {a p wd ca c : Nat} (h : LexAt w B o s e a p wd ca c) : LexAt w.drew B o s e a p wd ca c := h.below (Below.refl w.heap.size w).drew h.lt
theorem LexAt.alloc {w : World} {B o : Nat} {s : ByteArray} {e : Value} {a p wd ca c : Nat} (h : LexAt w B o s e a p wd ca c) (x : Obj) : LexAt (w.alloc x) B o s e a p wd ca c := h.below (below_alloc (Below.refl w.heap.size w) x) h.lt
theorem new_alloc (w : World) (x : Obj) (n : Nat) (h : n = w.heap.size) : (w.alloc x).heap[n]? = some x := by subst h; exact heap_alloc_new w x
/-- What a block of six cells says of its cells. -/
theorem cells6 {w : World} {g : Nat} {t : TypeId} {v0 v1 v2 v3 v4 v5 : Value} (h : w.heap[g]? = some (.cells #[v0, v1, v2, v3, v4, v5] t (0, 0))) :
    (w.cell? ⟨g, 0, none⟩ = some v0 ∧ w.cell? ⟨g, 1, none⟩ = some v1 ∧ w.cell? ⟨g, 2, none⟩ = some v2 ∧ w.cell? ⟨g, 3, none⟩ = some v3 ∧ w.cell? ⟨g, 4, none⟩ = some v4 ∧ w.cell? ⟨g, 5, none⟩ = some v5) ∧
    (w.frozen? ⟨g, 0, none⟩ = false ∧ w.frozen? ⟨g, 1, none⟩ = false ∧ w.frozen? ⟨g, 2, none⟩ = false ∧ w.frozen? ⟨g, 3, none⟩ = false ∧ w.frozen? ⟨g, 4, none⟩ = false ∧ w.frozen? ⟨g, 5, none⟩ = false) := by
  unfold World.cell? World.frozen?
  rw [h]
  exact ⟨⟨rfl, rfl, rfl, rfl, rfl, rfl⟩, ⟨rfl, rfl, rfl, rfl, rfl, rfl⟩⟩
section
variable {w : World} {B o : Nat} {s : ByteArray} {e : Value} {a p wd ca c : Nat}
theorem ne_at {i j : Nat} (h : i ≠ j) : (⟨B, i, none⟩ : Addr) ≠ ⟨B, j, none⟩ := by intro e; injection e with _ e2 _; exact h e2
theorem LexAt.set1 (h : LexAt w B o s e a p wd ca c) (v : Value) : LexAt (w.setCell ⟨B, o + 1, none⟩ v) B o s v a p wd ca c :=
  ⟨(cs_other (ne_at (by omega))).trans h.c0, cs_same h.c1, (cs_other (ne_at (by omega))).trans h.c2, (cs_other (ne_at (by omega))).trans h.c3, (cs_other (ne_at (by omega))).trans h.c4,
    (cs_other (ne_at (by omega))).trans h.c5, (cs_other (ne_at (by omega))).trans h.c6, by simpa using h.f1, by simpa using h.f2, by simpa using h.f3, by simpa using h.f4, by simpa using h.f5, by simpa using h.f6⟩
theorem LexAt.set2 (h : LexAt w B o s e a p wd ca c) {n : Nat} {v : Value} (hv : v = .int .i64 (n : Int)) : LexAt (w.setCell ⟨B, o + 2, none⟩ v) B o s e n p wd ca c := by
  subst hv
  exact ⟨(cs_other (ne_at (by omega))).trans h.c0, (cs_other (ne_at (by omega))).trans h.c1, cs_same h.c2, (cs_other (ne_at (by omega))).trans h.c3, (cs_other (ne_at (by omega))).trans h.c4,
    (cs_other (ne_at (by omega))).trans h.c5, (cs_other (ne_at (by omega))).trans h.c6, by simpa using h.f1, by simpa using h.f2, by simpa using h.f3, by simpa using h.f4, by simpa using h.f5, by simpa using h.f6⟩
theorem LexAt.set3 (h : LexAt w B o s e a p wd ca c) {n : Nat} {v : Value} (hv : v = .int .i64 (n : Int)) : LexAt (w.setCell ⟨B, o + 3, none⟩ v) B o s e a n wd ca c := by
  subst hv
  exact ⟨(cs_other (ne_at (by omega))).trans h.c0, (cs_other (ne_at (by omega))).trans h.c1, (cs_other (ne_at (by omega))).trans h.c2, cs_same h.c3, (cs_other (ne_at (by omega))).trans h.c4,
    (cs_other (ne_at (by omega))).trans h.c5, (cs_other (ne_at (by omega))).trans h.c6, by simpa using h.f1, by simpa using h.f2, by simpa using h.f3, by simpa using h.f4, by simpa using h.f5, by simpa using h.f6⟩
theorem LexAt.set4 (h : LexAt w B o s e a p wd ca c) {n : Nat} {v : Value} (hv : v = .int .i64 (n : Int)) : LexAt (w.setCell ⟨B, o + 4, none⟩ v) B o s e a p n ca c := by
  subst hv
  exact ⟨(cs_other (ne_at (by omega))).trans h.c0, (cs_other (ne_at (by omega))).trans h.c1, (cs_other (ne_at (by omega))).trans h.c2, (cs_other (ne_at (by omega))).trans h.c3, cs_same h.c4,
    (cs_other (ne_at (by omega))).trans h.c5, (cs_other (ne_at (by omega))).trans h.c6, by simpa using h.f1, by simpa using h.f2, by simpa using h.f3, by simpa using h.f4, by simpa using h.f5, by simpa using h.f6⟩
theorem LexAt.set5 (h : LexAt w B o s e a p wd ca c) {n : Nat} {v : Value} (hv : v = .int .i64 (n : Int)) : LexAt (w.setCell ⟨B, o + 5, none⟩ v) B o s e a p wd n c := by
  subst hv
  exact ⟨(cs_other (ne_at (by omega))).trans h.c0, (cs_other (ne_at (by omega))).trans h.c1, (cs_other (ne_at (by omega))).trans h.c2, (cs_other (ne_at (by omega))).trans h.c3, (cs_other (ne_at (by omega))).trans h.c4,
    cs_same h.c5, (cs_other (ne_at (by omega))).trans h.c6, by simpa using h.f1, by simpa using h.f2, by simpa using h.f3, by simpa using h.f4, by simpa using h.f5, by simpa using h.f6⟩
theorem LexAt.set6 (h : LexAt w B o s e a p wd ca c) {n : Nat} {v : Value} (hv : v = .int .i64 (n : Int)) : LexAt (w.setCell ⟨B, o + 6, none⟩ v) B o s e a p wd ca n := by
  subst hv
  exact ⟨(cs_other (ne_at (by omega))).trans h.c0, (cs_other (ne_at (by omega))).trans h.c1, (cs_other (ne_at (by omega))).trans h.c2, (cs_other (ne_at (by omega))).trans h.c3, (cs_other (ne_at (by omega))).trans h.c4,
    (cs_other (ne_at (by omega))).trans h.c5, cs_same h.c6, by simpa using h.f1, by simpa using h.f2, by simpa using h.f3, by simpa using h.f4, by simpa using h.f5, by simpa using h.f6⟩
end
/-- The tables that the lexer reads. -/
def LT (w : World) : Prop := Lib.Utf8Tabs 10 11 w ∧ Lib.WhiteTab 8 w
theorem LT.below {w w' : World} (h : LT w) (hb : Below w.heap.size w w') : LT w' := ⟨Utf8Tabs_below h.1 hb, WhiteTab_below h.2 hb⟩
/-- A world behind one that has the tables, and a lexer's block that lies above it. -/
structure Cx (w0 w : World) (B : Nat) : Prop where
  t : LT w0
  b : Below w0.heap.size w0 w
  h : w0.heap.size ≤ B
theorem Cx.lt {w0 w : World} {B : Nat} (h : Cx w0 w B) : LT w := h.t.below h.b
theorem Cx.kept {w0 w w' : World} {B o : Nat} (h : Cx w0 w B) (k : Kept B o w w') : Cx w0 w' B := ⟨h.t, h.b.trans (k.below h.h h.b.size), h.h⟩
theorem LexAt.far {w : World} {B o : Nat} {s : ByteArray} {e : Value} {a p wd ca c : Nat} (h : LexAt w B o s e a p wd ca c) {q : Addr} (hq : q.block ≠ B) (v : Value) : LexAt (w.setCell q v) B o s e a p wd ca c := by
  have hne : ∀ i, q ≠ ⟨B, i, none⟩ := fun i e => hq (by rw [e])
  exact ⟨(cs_other (hne _)).trans h.c0, (cs_other (hne _)).trans h.c1, (cs_other (hne _)).trans h.c2, (cs_other (hne _)).trans h.c3, (cs_other (hne _)).trans h.c4, (cs_other (hne _)).trans h.c5, (cs_other (hne _)).trans h.c6,
    by simpa using h.f1, by simpa using h.f2, by simpa using h.f3, by simpa using h.f4, by simpa using h.f5, by simpa using h.f6⟩
theorem Kept.far {B o : Nat} {w w' : World} (h : Kept B o w w') {q : Addr} (hq : w.heap.size ≤ q.block) (hB : B < w.heap.size) (v : Value) : Kept B o w (w'.setCell q v) :=
  ⟨h.os, h.tape, h.output, by simpa using h.size, fun k hk hb => (Below.heap_setCell w' _ v k (by omega)).trans (h.block k hk hb),
    fun j hj => (cs_other (by intro e; rw [e] at hq; simp at hq; omega)).trans (h.cell j hj), fun j => by rw [World.frozen?_setCell]; exact h.froz j⟩
theorem LexAt.farB {w : World} {B o g i : Nat} {s : ByteArray} {e : Value} {a p wd ca c : Nat} {v : Value} (hg : g ≠ B) (h : LexAt w B o s e a p wd ca c) : LexAt (w.setCell ⟨g, i, none⟩ v) B o s e a p wd ca c := h.far hg v
theorem Kept.farB {B o g i : Nat} {w w' : World} {v : Value} (hg : w.heap.size ≤ g) (hB : B < w.heap.size) (h : Kept B o w w') : Kept B o w (w'.setCell ⟨g, i, none⟩ v) := h.far hg hB v
theorem LexAt.drewN {w : World} {B o : Nat} {s : ByteArray} {e : Value} {a p wd ca c : Nat} (h : LexAt w B o s e a p wd ca c) (q : Nat) : LexAt (w.drewN q) B o s e a p wd ca c := h.below (pw_below_drewN (Below.refl w.heap.size w) q) h.lt
theorem Kept.drewN {B o : Nat} {w w' : World} (h : Kept B o w w') (hB : B < w.heap.size) (q : Nat) : Kept B o w (w'.drewN q) := h.trans (Kept.of_below (pw_below_drewN (Below.refl w'.heap.size w') q) (Nat.lt_of_lt_of_le hB h.size))
section
variable {w : World} {B o : Nat} {s : ByteArray} {e : Value} {a p wd ca c : Nat}
set_option maxRecDepth 100000 in
theorem next_eof (h : LexAt w B o s e a p wd ca c) (hp : ¬ p < s.size) :
    Calls Tryz.prog 47 #[.pointer (some ⟨B, o, none⟩)] w fun x w' => x = .returned (.int .i32 (-1)) ∧ LexAt w' B o s e a p 0 ca c ∧ Kept B o w w' := by
  have H := Aside0.mk h
  have HL := Aside0.mk h.lt
  obtain ⟨c0, c1, c2, c3, c4, c5, c6, f1, f2, f3, f4, f5, f6⟩ := h
  have hge : (p : Int) ≥ (s.size : Int) := by omega
  clear hp c1 c2 c5 c6 f1 f2 f3 f5 f6
  go_enter Tryz.func47, Tryz.ntmps47
  go_wp2
  go_quiet (fail)
  go_wp2
  go_ret
  exact ⟨rfl, by repeat (first | exact H.out | exact LexAt.set4 H.out rfl | exact LexAt.set4 (LexAt.drewN H.out _) rfl | apply LexAt.drewN), by repeat (first | exact Kept.refl _ _ _ | exact HL.out | apply Kept.drewN | (refine Kept.set ?_ (by omega) _))⟩
set_option maxRecDepth 100000 in
theorem skip_calls (h : LexAt w B o s e a p wd ca c) :
    Calls Tryz.prog 55 #[.pointer (some ⟨B, o, none⟩)] w fun x w' => x = .returned (.tuple #[]) ∧ LexAt w' B o s e p p wd c c ∧ Kept B o w w' := by
  have H := Aside0.mk h
  obtain ⟨c0, c1, c2, c3, c4, c5, c6, f1, f2, f3, f4, f5, f6⟩ := h
  clear c0 c1 c4 f1 f3 f4 f6
  go_enter Tryz.func55, Tryz.ntmps55
  go_wp2
  go_end0
  exact ⟨rfl, LexAt.set5 (LexAt.set2 H.out rfl) rfl, Kept.set (Kept.set (Kept.refl _ _ _) (by omega) _) (by omega) _⟩
theorem adv_le (s : ByteArray) (p : Nat) (hp : p < s.size) : p + wdt s p ≤ s.size := by
  have h := Lib.decodeL_le (s.data.toList.drop p) (by
    intro e
    have := congrArg List.length e
    rw [List.length_drop, Array.length_toList] at this
    have e1 : s.data.size = s.size := rfl
    simp at this
    omega)
  rw [Lib.decodeL_drop, List.length_drop, Array.length_toList] at h
  have e1 : s.data.size = s.size := rfl
  show p + (Utf8.decode s p).2 ≤ s.size
  omega
theorem adv_pos (s : ByteArray) (p : Nat) : 1 ≤ wdt s p := Lib.width_pos s p
theorem wrap_add {a b : Nat} (h : a + b ≤ 4294967295) : wrap64 ((a : Int) + (b : Int)) = ((a + b : Nat) : Int) := by unfold wrap64; omega
theorem wrap_one {a : Nat} (h : a ≤ 4294967295) : wrap64 ((a : Int) + 1) = ((a + 1 : Nat) : Int) := by unfold wrap64; omega
theorem suf_size (s : ByteArray) (p : Nat) (hp : p < s.size) : (Lib.decodeGo (s.extract p s.size)) = Utf8.decode s p := by
  have h := Lib.tail_decode s p 0
  unfold Lib.decodeGo
  rw [if_neg (by rw [ByteArray.size_extract]; omega)]
  exact h
set_option maxRecDepth 100000 in
theorem next_rune {w0 : World} (hX : Cx w0 w B) (h : LexAt w B o s e a p wd ca c) (hp : p < s.size) (hs : s.size ≤ 2147483647) (hc : c ≤ p) :
    Calls Tryz.prog 47 #[.pointer (some ⟨B, o, none⟩)] w fun x w' => x = .returned (.int .i32 (rn s p : Int)) ∧ LexAt w' B o s e a (p + wdt s p) (wdt s p) ca (c + 1) ∧ Kept B o w w' := by
  have H := Aside0.mk h
  have HL := Aside0.mk h.lt
  have HX := Aside0.mk hX
  obtain ⟨c0, c1, c2, c3, c4, c5, c6, f1, f2, f3, f4, f5, f6⟩ := h
  have hge : ¬ (p : Int) ≥ (s.size : Int) := by omega
  have hd := suf_size s p hp
  have D := Aside0.mk (fun W hT => Tryz.utf8_DecodeRuneInString (s.extract p s.size) W hT)
  rw [hd] at D
  clear hd c1 c2 c5 f1 f2 f5 hX
  go_enter Tryz.func47, Tryz.ntmps47
  go_wp2
  go_quiet (fail)
  go_wp2_with fail
  go_region_with (go_at_call 63; refine (D.out _ (HX.out.kept (Kept.drewN (Kept.refl B o w) HL.out _)).lt.1).mono ?_; rintro x w1 ⟨rfl, hb⟩; have H1 := Aside0.mk ((H.out.drewN _).below hb (H.out.drewN _).lt); have K1 := Aside0.mk ((Kept.drewN (Kept.refl B o w) HL.out _).trans (Kept.of_below hb (H.out.drewN _).lt)); clear hb c0 c3 c4 c6 f3 f4 f6; have c3 := H1.out.c3; have c4 := H1.out.c4; have c6 := H1.out.c6; have f3 := H1.out.f3; have f4 := H1.out.f4; have f6 := H1.out.f6)
  all_goals
    have e3 := wrap_add (a := p) (b := wdt s p) (by have := adv_le s p hp; omega)
    have e6 := wrap_one (a := c) (by omega)
    have E3 := Aside0.mk e3
    have E6 := Aside0.mk e6
    clear e3 e6
    go_wp2
    go_ret
    refine ⟨rfl, ?_, ?_⟩
    · exact LexAt.set6 (LexAt.set3 (LexAt.set4 H1.out rfl) (by first | exact congrArg (Value.int .i64) E3.out | rfl)) (by first | exact congrArg (Value.int .i64) E6.out | rfl)
    · exact Kept.set (Kept.set (Kept.set K1.out (by omega) _) (by omega) _) (by omega) _
end
end Go.Proofs.YtmjoebnphacadaaGreatDoor.Lex
/- parse.lexer: rewind, position, emit, accept, expect; parse.isReserved. -/
namespace Go.Proofs.YtmjoebnphacadaaGreatDoor.Lex
open Go.RowKit Go.Lib Go.Proofs.YtmjoebnphacadaaGreatDoorW.PrintWords Go.Proofs.YtmjoebnphacadaaGreatDoorW.PrintLast
set_option linter.unusedVariables false
set_option linter.unusedSimpArgs false
section
variable {w : World} {B o : Nat} {s : ByteArray} {e : Value} {a p wd ca c : Nat}
theorem wrap_sub {a b : Nat} (h : b ≤ a) (ha : a ≤ 4294967295) : wrap64 ((a : Int) - (b : Int)) = ((a - b : Nat) : Int) := by unfold wrap64; omega
theorem wrap_pred {a : Nat} (h : 1 ≤ a) (ha : a ≤ 4294967295) : wrap64 ((a : Int) - 1) = ((a - 1 : Nat) : Int) := by unfold wrap64; omega
set_option maxRecDepth 100000 in
theorem rewind_calls (h : LexAt w B o s e a p wd ca c) (hw : wd ≤ p) (hp : p ≤ 4294967295) (hc : 1 ≤ c ∨ wd = 0) (hc2 : c ≤ 4294967295) :
    Calls Tryz.prog 49 #[.pointer (some ⟨B, o, none⟩)] w fun x w' => x = .returned (.tuple #[]) ∧ LexAt w' B o s e a (p - wd) wd ca (if wd = 0 then c else c - 1) ∧ Kept B o w w' := by
  have H := Aside0.mk h
  have HL := Aside0.mk h.lt
  have E3 := Aside0.mk (wrap_sub hw hp)
  by_cases h0 : wd = 0
  · subst h0
    have g0 : ¬ (((0 : Nat) : Int) > 0) := by omega
    simp only [if_true]
    obtain ⟨c0, c1, c2, c3, c4, c5, c6, f1, f2, f3, f4, f5, f6⟩ := h
    have E3 := Aside0.mk (show Value.int .i64 (wrap64 (p : Int)) = .int .i64 ((p - 0 : Nat) : Int) by congr 1; unfold wrap64; omega)
    clear c0 c1 c2 c5 f1 f2 f5 hw hc hc2 hp
    go_enter Tryz.func49, Tryz.ntmps49
    go_wp2
    go_region
    all_goals
      go_wp2
      go_end0
      refine ⟨rfl, (H.out.set3 ?_).drew, ((Kept.refl B o w).set (by omega) _).drew⟩
      exact E3.out
  · have g0 : ((wd : Nat) : Int) > 0 := by omega
    rw [if_neg h0]
    have E6 := Aside0.mk (wrap_pred (a := c) (by omega) hc2)
    obtain ⟨c0, c1, c2, c3, c4, c5, c6, f1, f2, f3, f4, f5, f6⟩ := h
    clear c0 c1 c2 c5 f1 f2 f5 hw hc hc2 hp h0
    go_enter Tryz.func49, Tryz.ntmps49
    go_wp2
    go_region
    all_goals
      go_wp2
      go_end0
      refine ⟨rfl, ?_, ?_⟩
      · first
          | exact ((H.out.set3 (congrArg (Value.int .i64) E3.out)).set6 (congrArg (Value.int .i64) E6.out)).drew
          | exact ((H.out.set3 (congrArg (Value.int .i64) E3.out)).drew.set6 (congrArg (Value.int .i64) E6.out))
      · first
          | exact (((Kept.refl B o w).set (by omega) _).set (by omega) _).drew
          | exact (((Kept.refl B o w).set (by omega) _).drew.set (by omega) _)
set_option maxRecDepth 100000 in
theorem position_calls (h : LexAt w B o s e a p wd ca c) :
    Calls Tryz.prog 56 #[.pointer (some ⟨B, o, none⟩)] w fun x w' => x = .returned (.agg #[.int .i64 (a : Int), .int .i64 (p : Int), .int .i64 (ca : Int), .int .i64 (c : Int)]) ∧ Below w.heap.size w w' := by
  have HL := Aside0.mk h.lt
  obtain ⟨c0, c1, c2, c3, c4, c5, c6, f1, f2, f3, f4, f5, f6⟩ := h
  clear c0 c1 c4 f1 f2 f3 f4 f5 f6
  have hne : B ≠ w.heap.size := by have := HL.out; omega
  go_enter Tryz.func56, Tryz.ntmps56
  go_wp2
  go_region_held3 (fun w' => w'.cell? ⟨B, o + 2, none⟩ = some (.int .i64 (a : Int)) ∧ w'.cell? ⟨B, o + 3, none⟩ = some (.int .i64 (p : Int)) ∧ w'.cell? ⟨B, o + 5, none⟩ = some (.int .i64 (ca : Int)) ∧ w'.cell? ⟨B, o + 6, none⟩ = some (.int .i64 (c : Int))) (go_keep) (fail)
  all_goals (try go_wp2)
  refine bodyPost_ret (v := .agg #[.int .i64 (a : Int), .int .i64 (p : Int), .int .i64 (ca : Int), .int .i64 (c : Int)]) ?_ rfl ?_
  · simp [results]
    go_simp
  · exact ⟨rfl, by repeat (first | exact below_alloc (Below.refl _ _) _ | apply below_drew1 | apply pw_below_drewN)⟩
set_option maxHeartbeats 1600000 in
set_option maxRecDepth 100000 in
theorem emit_calls (k : Nat) (h : LexAt w B o s e a p wd ca c) (hap : a ≤ p) (hp : p ≤ s.size) :
    Calls Tryz.prog 48 #[.pointer (some ⟨B, o, none⟩), .int .i64 (k : Int)] w fun x w' =>
      x = .returned (.agg #[.int .i64 (k : Int), .string (s.extract a p), .int .i64 (a : Int), .int .i64 (p : Int), .int .i64 (ca : Int), .int .i64 (c : Int)]) ∧ LexAt w' B o s e p p wd c c ∧ Kept B o w w' := by
  have HL := Aside0.mk h.lt
  have H := Aside0.mk h
  have CS := Aside0.mk (show ∀ W, Below w.heap.size w W → LexAt W B o s e a p wd ca c from fun W hb => h.below hb h.lt)
  obtain ⟨c0, c1, c2, c3, c4, c5, c6, f1, f2, f3, f4, f5, f6⟩ := h
  clear c1 c4 f1 f2 f3 f4 f5 f6 c5 c6
  have q1 : ¬ ((p : Int) < (a : Int)) := by omega
  have q2 : ¬ ((s.size : Int) < (p : Int)) := by omega
  have hne : B ≠ w.heap.size := by have := HL.out; omega
  have hne' : w.heap.size ≠ B := fun e => hne e.symm
  have hne1 : B ≠ w.heap.size + 1 := by have := HL.out; omega
  have hne1' : w.heap.size + 1 ≠ B := fun e => hne1 e.symm
  go_enter Tryz.func48, Tryz.ntmps48
  go_wp2
  go_region_held3 (fun w' => w'.cell? ⟨B, o, none⟩ = some (.string s) ∧ w'.cell? ⟨B, o + 2, none⟩ = some (.int .i64 (a : Int)) ∧ w'.cell? ⟨B, o + 3, none⟩ = some (.int .i64 (p : Int))) (go_keep) (first
    | (go_at_call 56; refine (position_calls (CS.out _ (by repeat (first | exact Below.refl _ _ | apply below_drew1 | apply pw_below_drewN | apply below_alloc)))).mono ?_; rintro x w1 ⟨rfl, hb⟩; have HB1 := Aside0.mk (below_step (w := w) (by repeat (first | exact Below.refl _ _ | apply below_drew1 | apply pw_below_drewN | apply below_alloc)) hb); (first | (have k0 := (hb.block w.heap.size (by simp <;> omega)).trans ((Below.heap_alloc _ _ _ (by simp)).trans (heap_alloc_new w _)); have k1 := (hb.block (w.heap.size + 1) (by simp)).trans (new_alloc _ _ _ (by simp)); obtain ⟨⟨m0, m1, m2, m3, m4, m5⟩, z0, z1, z2, z3, z4, z5⟩ := cells6 k1; obtain ⟨⟨n0, n1, n2, n3, n4, n5⟩, y0, y1, y2, y3, y4, y5⟩ := cells6 k0; clear k0 k1) | (have k0 := (hb.block w.heap.size (by simp)).trans (heap_alloc_new w _); obtain ⟨⟨n0, n1, n2, n3, n4, n5⟩, y0, y1, y2, y3, y4, y5⟩ := cells6 k0; clear k0)); have HW1 := Aside0.mk (show w.heap.size < w1.heap.size by (have hz := hb.size; simp at hz; first | exact hz | omega)); clear hb c0 c2 c3; have H1 := Aside0.mk (CS.out _ HB1.out); have c0 := H1.out.c0; have c2 := H1.out.c2; have c3 := H1.out.c3; have c5 := H1.out.c5; have c6 := H1.out.c6; have f2 := H1.out.f2; have f5 := H1.out.f5; have hw1 : w.heap.size < w1.heap.size := HW1.out; have hne3 : B ≠ w1.heap.size := Nat.ne_of_lt (Nat.lt_trans HL.out HW1.out); have hne3' : w1.heap.size ≠ B := fun e => hne3 e.symm; have hne4 : w.heap.size ≠ w1.heap.size := Nat.ne_of_lt HW1.out; have hne4' : w1.heap.size ≠ w.heap.size := fun e => hne4 e.symm))
  all_goals
    have f2a := fun x => (H1.out.alloc x).f2
    have f5a := fun x => (H1.out.alloc x).f5
    have c2a := fun x => (H1.out.alloc x).c2
    have c3a := fun x => (H1.out.alloc x).c3
    have c5a := fun x => (H1.out.alloc x).c5
    have c6a := fun x => (H1.out.alloc x).c6
    go_wp2
  · refine bodyPost_ret (v := .agg #[.int .i64 (k : Int), .string (s.extract a p), .int .i64 (a : Int), .int .i64 (p : Int), .int .i64 (ca : Int), .int .i64 (c : Int)]) ?_ rfl ?_
    · simp [results]
      go_simp
    · refine ⟨rfl, ?_, ?_⟩
      · iterate 6 refine LexAt.farB (by assumption) ?_
        refine LexAt.set5 (ca := ca) ?_ rfl
        refine LexAt.set2 (a := a) ?_ rfl
        exact LexAt.alloc H1.out _
      · iterate 6 refine Kept.farB (by omega) HL.out ?_
        refine Kept.set ?_ (by omega) _
        refine Kept.set ?_ (by omega) _
        exact Kept.alloc (Kept.of_below HB1.out HL.out) HL.out _
  · refine bodyPost_ret (v := .agg #[.int .i64 (k : Int), .string (s.extract a p), .int .i64 (a : Int), .int .i64 (p : Int), .int .i64 (ca : Int), .int .i64 (c : Int)]) ?_ rfl ?_
    · simp [results]
      go_simp
    · refine ⟨rfl, ?_, ?_⟩
      · iterate 6 refine LexAt.farB (by assumption) ?_
        refine LexAt.set5 (ca := ca) ?_ rfl
        refine LexAt.set2 (a := a) ?_ rfl
        iterate 6 refine LexAt.farB (by assumption) ?_
        exact H1.out
      · iterate 6 refine Kept.farB (by omega) HL.out ?_
        refine Kept.set ?_ (by omega) _
        refine Kept.set ?_ (by omega) _
        iterate 6 refine Kept.farB (by omega) HL.out ?_
        exact Kept.of_below HB1.out HL.out
end
end Go.Proofs.YtmjoebnphacadaaGreatDoor.Lex
/- parse.isReserved; parse.lexer: accept, expect. -/
namespace Go.Proofs.YtmjoebnphacadaaGreatDoor.Lex
open Go.RowKit Go.Lib Go.Proofs.YtmjoebnphacadaaGreatDoorW.PrintWords Go.Proofs.YtmjoebnphacadaaGreatDoorW.PrintLast
set_option linter.unusedVariables false
set_option linter.unusedSimpArgs false
def resSet : ByteArray := ⟨#[123, 125, 33, 61, 126, 44, 92, 34, 39, 96]⟩
/-- parse.isReserved. -/
def resR (r : Int) : Bool := Lib.isSpaceZ r || decide (zzIdx resSet r ≥ 0)
set_option maxRecDepth 100000 in
theorem is_reserved (r : Int) (w : World) (h0 : -2147483648 ≤ r) (h1 : r ≤ 2147483647) (hT : LT w) :
    Calls Tryz.prog 52 #[.int .i32 r] w fun e w' => e = .returned (.bool (resR r)) ∧ Below w.heap.size w w' := by
  have H1 := Aside0.mk (Tryz.unicode_IsSpace_any r w h0 h1 hT.2)
  have H2 := Aside0.mk (fun W => zz_contains resSet r W (by decide) h0 h1)
  clear hT
  unfold resR
  generalize decide (zzIdx resSet r ≥ 0) = v at H2 ⊢
  cases hs : Lib.isSpaceZ r with
  | true =>
    rw [hs] at H1
    clear hs
    go_enter Tryz.func52, Tryz.ntmps52
    go_wp2_with fail
    refine H1.out.mono ?_
    rintro e w1 ⟨rfl, hb⟩
    go_wp2
    go_ret
    exact ⟨rfl, hb⟩
  | false =>
    rw [hs] at H1
    clear hs
    go_enter Tryz.func52, Tryz.ntmps52
    go_wp2_with fail
    refine H1.out.mono ?_
    rintro e w1 ⟨rfl, hb⟩
    have HB := Aside0.mk hb
    clear hb
    go_wp2_with fail
    refine (H2.out _).mono ?_
    rintro e w2 ⟨rfl, hb⟩
    have HB2 := Aside0.mk (below_step HB.out hb)
    clear hb
    go_wp2
    go_ret
    exact ⟨rfl, HB2.out⟩
theorem rn_lo (s : ByteArray) (p : Nat) : -2147483648 ≤ ((rn s p : Nat) : Int) := by omega
theorem rn_hi (s : ByteArray) (p : Nat) : ((rn s p : Nat) : Int) ≤ 2147483647 := by have h : rn s p ≤ 1114111 := Lib.rune_le s p; omega
/-- Is the next rune one of these? -/
def accB (s v : ByteArray) (p : Nat) : Bool := decide (p < s.size) && decide (zzIdx v (rn s p) ≥ 0)
def sel (b : Bool) (x y : Nat) : Nat := if b = true then x else y
theorem zzIdx_eof (v : ByteArray) : decide (zzIdx v (-1) ≥ 0) = false := by
  unfold zzIdx
  rw [if_pos (by decide)]
  rfl
section
variable {w : World} {B o : Nat} {s : ByteArray} {e : Value} {a p wd ca c : Nat}
set_option maxRecDepth 100000 in
theorem accept_calls {w0 : World} (hX : Cx w0 w B) (h : LexAt w B o s e a p wd ca c) (v : ByteArray) (hv : v.size ≤ 2147483647) (hs : s.size ≤ 2147483647) (hp : p ≤ s.size) (hc : c ≤ p) :
    Calls Tryz.prog 64 #[.pointer (some ⟨B, o, none⟩), .string v] w fun x w' => x = .returned (.bool (accB s v p)) ∧ (∃ wd', LexAt w' B o s e a (sel (accB s v p) (p + wdt s p) p) wd' ca (sel (accB s v p) (c + 1) c)) ∧ Kept B o w w' := by
  by_cases hlt : p < s.size
  · have N := Aside0.mk (next_rune hX h hlt hs hc)
    have Z := Aside0.mk (fun W => zz_contains v (rn s p) W hv (rn_lo s p) (rn_hi s p))
    have eB : accB s v p = decide (zzIdx v (rn s p) ≥ 0) := by unfold accB; rw [decide_eq_true hlt, Bool.true_and]
    have hle := adv_le s p hlt
    have hpos := adv_pos s p
    rw [eB]
    generalize decide (zzIdx v (rn s p) ≥ 0) = b at Z ⊢
    clear h eB hX
    have HA := Aside0.mk (And.intro hle (And.intro hpos (And.intro hs (And.intro hc hp))))
    clear hle hpos hs hc hp hlt
    cases b with
    | true =>
      go_enter Tryz.func64, Tryz.ntmps64
      go_wp2_with fail
      refine N.out.mono ?_
      rintro x w1 ⟨rfl, hl, hk⟩
      have HL1 := Aside0.mk hl
      have HK1 := Aside0.mk hk
      clear hl hk
      go_wp2_with fail
      refine (Z.out _).mono ?_
      rintro x w2 ⟨rfl, hb⟩
      have HL2 := Aside0.mk (HL1.out.below hb HL1.out.lt)
      have HK2 := Aside0.mk (HK1.out.trans (Kept.of_below hb HL1.out.lt))
      clear hb
      go_wp2
      go_ret
      exact ⟨rfl, ⟨_, HL2.out⟩, HK2.out⟩
    | false =>
      go_enter Tryz.func64, Tryz.ntmps64
      go_wp2_with fail
      refine N.out.mono ?_
      rintro x w1 ⟨rfl, hl, hk⟩
      have HL1 := Aside0.mk hl
      have HK1 := Aside0.mk hk
      clear hl hk
      go_wp2_with fail
      refine (Z.out _).mono ?_
      rintro x w2 ⟨rfl, hb⟩
      have HL2 := Aside0.mk (HL1.out.below hb HL1.out.lt)
      have HK2 := Aside0.mk (HK1.out.trans (Kept.of_below hb HL1.out.lt))
      clear hb
      go_wp2_with fail
      refine (rewind_calls HL2.out (by omega) (by have := HA.out; omega) (Or.inl (by omega)) (by have := HA.out; omega)).mono ?_
      rintro x w3 ⟨rfl, hl, hk⟩
      have e1 : p + wdt s p - wdt s p = p := by omega
      have e2 : (if wdt s p = 0 then c + 1 else c + 1 - 1) = c := by rw [if_neg (by have := HA.out; omega)]; omega
      rw [e1, e2] at hl
      have HL3 := Aside0.mk hl
      have HK3 := Aside0.mk (HK2.out.trans hk)
      clear hl hk e1 e2
      go_wp2
      go_ret
      exact ⟨rfl, ⟨_, HL3.out⟩, HK3.out⟩
  · have N := Aside0.mk (next_eof h hlt)
    have Z := Aside0.mk (fun W => zz_contains v (-1) W hv (by decide) (by decide))
    rw [zzIdx_eof] at Z
    have eB : accB s v p = false := by unfold accB; rw [decide_eq_false hlt, Bool.false_and]
    rw [eB]
    have HA := Aside0.mk (And.intro hs (And.intro hc hp))
    clear h eB hX hlt hs hc hp
    go_enter Tryz.func64, Tryz.ntmps64
    go_wp2_with fail
    refine N.out.mono ?_
    rintro x w1 ⟨rfl, hl, hk⟩
    have HL1 := Aside0.mk hl
    have HK1 := Aside0.mk hk
    clear hl hk
    go_wp2_with fail
    refine (Z.out _).mono ?_
    rintro x w2 ⟨rfl, hb⟩
    have HL2 := Aside0.mk (HL1.out.below hb HL1.out.lt)
    have HK2 := Aside0.mk (HK1.out.trans (Kept.of_below hb HL1.out.lt))
    clear hb
    go_wp2_with fail
    refine (rewind_calls HL2.out (by omega) (by have := HA.out; omega) (Or.inr rfl) (by have := HA.out; omega)).mono ?_
    rintro x w3 ⟨rfl, hl, hk⟩
    rw [if_pos rfl] at hl
    have HL3 := Aside0.mk hl
    have HK3 := Aside0.mk (HK2.out.trans hk)
    clear hl hk
    go_wp2
    go_ret
    exact ⟨rfl, ⟨_, HL3.out⟩, HK3.out⟩
end
end Go.Proofs.YtmjoebnphacadaaGreatDoor.Lex
/- parse.lexer: expect. -/
namespace Go.Proofs.YtmjoebnphacadaaGreatDoor.Lex
open Go.RowKit Go.Lib Go.Proofs.YtmjoebnphacadaaGreatDoorW.PrintWords Go.Proofs.YtmjoebnphacadaaGreatDoorW.PrintLast
set_option linter.unusedVariables false
set_option linter.unusedSimpArgs false
/-- An error of the lexer. -/
def LexErr (v : Value) : Prop := ∃ T cs, v = .iface T (.agg cs) ∧ (T = 123 ∨ T = 106 ∨ T = 125)
/-- What expect hands back. -/
def ExpR (b : Bool) (r : Value) : Prop := (b = true → r = .nilIface) ∧ (b = false → LexErr r)
section
variable {w : World} {B o : Nat} {s : ByteArray} {e : Value} {a p wd ca c : Nat}
set_option maxHeartbeats 1600000 in
set_option maxRecDepth 100000 in
theorem expect_calls {w0 : World} (hX : Cx w0 w B) (h : LexAt w B o s e a p wd ca c) (v : ByteArray) (hv : v.size ≤ 2147483647) (hs : s.size ≤ 2147483647) (hp : p ≤ s.size) (hc : c ≤ p) :
    Calls Tryz.prog 65 #[.pointer (some ⟨B, o, none⟩), .string v] w fun x w' => (∃ r, x = .returned r ∧ ExpR (accB s v p) r) ∧ (∃ wd', LexAt w' B o s e a (sel (accB s v p) (p + wdt s p) p) wd' ca (sel (accB s v p) (c + 1) c)) ∧ Kept B o w w' := by
  by_cases hlt : p < s.size
  · have N := Aside0.mk (next_rune hX h hlt hs hc)
    have Z := Aside0.mk (fun W => zz_contains v (rn s p) W hv (rn_lo s p) (rn_hi s p))
    have eB : accB s v p = decide (zzIdx v (rn s p) ≥ 0) := by unfold accB; rw [decide_eq_true hlt, Bool.true_and]
    have hle := adv_le s p hlt
    have hpos := adv_pos s p
    rw [eB]
    generalize decide (zzIdx v (rn s p) ≥ 0) = b at Z ⊢
    clear h eB hX
    have HA := Aside0.mk (And.intro hle (And.intro hpos (And.intro hs (And.intro hc hp))))
    clear hle hpos hs hc hp hlt
    cases b with
    | true =>
      go_enter Tryz.func65, Tryz.ntmps65
      go_wp2_with fail
      refine N.out.mono ?_
      rintro x w1 ⟨rfl, hl, hk⟩
      have HL1 := Aside0.mk hl
      have HK1 := Aside0.mk hk
      clear hl hk
      go_wp2_with fail
      refine (Z.out _).mono ?_
      rintro x w2 ⟨rfl, hb⟩
      have HL2 := Aside0.mk (HL1.out.below hb HL1.out.lt)
      have HK2 := Aside0.mk (HK1.out.trans (Kept.of_below hb HL1.out.lt))
      clear hb
      go_wp2
      go_ret
      exact ⟨⟨_, rfl, fun _ => rfl, fun h => Bool.noConfusion h⟩, ⟨_, HL2.out⟩, HK2.out⟩
    | false =>
      go_enter Tryz.func65, Tryz.ntmps65
      go_wp2_with fail
      refine N.out.mono ?_
      rintro x w1 ⟨rfl, hl, hk⟩
      have HL1 := Aside0.mk hl
      have HK1 := Aside0.mk hk
      clear hl hk
      go_wp2_with fail
      refine (Z.out _).mono ?_
      rintro x w2 ⟨rfl, hb⟩
      have HL2 := Aside0.mk (HL1.out.below hb HL1.out.lt)
      have HK2 := Aside0.mk (HK1.out.trans (Kept.of_below hb HL1.out.lt))
      clear hb
      go_wp2_with fail
      refine (rewind_calls HL2.out (by omega) (by have := HA.out; omega) (Or.inl (by omega)) (by have := HA.out; omega)).mono ?_
      rintro x w3 ⟨rfl, hl, hk⟩
      have e1 : p + wdt s p - wdt s p = p := by omega
      have e2 : (if wdt s p = 0 then c + 1 else c + 1 - 1) = c := by rw [if_neg (by have := HA.out; omega)]; omega
      rw [e1, e2] at hl
      have HL3 := Aside0.mk hl
      have HK3 := Aside0.mk (HK2.out.trans hk)
      have CS := Aside0.mk (show ∀ W, Below w3.heap.size w3 W → LexAt W B o s e a p (wdt s p) ca c from fun W hb => hl.below hb hl.lt)
      have c0 := hl.c0
      clear hl hk e1 e2
      go_wp2_with fail
      go_region_held3 (fun w' => w'.cell? ⟨B, o, none⟩ = some (.string s)) (go_keep) (first
        | (go_at_call 56; refine (position_calls (CS.out _ (by repeat (first | exact Below.refl _ _ | apply below_drew1 | apply pw_below_drewN)))).mono ?_; rintro x w4 ⟨rfl, hb⟩; have HB4 := Aside0.mk (below_step (w := w3) (by repeat (first | exact Below.refl _ _ | apply below_drew1 | apply pw_below_drewN)) hb); clear hb c0; have H4 := Aside0.mk (CS.out _ HB4.out); have c0 := H4.out.c0))
      all_goals
        go_wp2
        go_ret
        exact ⟨⟨_, rfl, fun h => Bool.noConfusion h, fun _ => ⟨_, _, rfl, Or.inl rfl⟩⟩, ⟨_, by repeat (first | exact H4.out | apply LexAt.drew | apply LexAt.drewN)⟩, by repeat (first | exact HK3.out.trans (Kept.of_below HB4.out HL3.out.lt) | apply Kept.drew)⟩
  · have N := Aside0.mk (next_eof h hlt)
    have Z := Aside0.mk (fun W => zz_contains v (-1) W hv (by decide) (by decide))
    rw [zzIdx_eof] at Z
    have eB : accB s v p = false := by unfold accB; rw [decide_eq_false hlt, Bool.false_and]
    rw [eB]
    have HA := Aside0.mk (And.intro hs (And.intro hc hp))
    clear h eB hX hlt hs hc hp
    go_enter Tryz.func65, Tryz.ntmps65
    go_wp2_with fail
    refine N.out.mono ?_
    rintro x w1 ⟨rfl, hl, hk⟩
    have HL1 := Aside0.mk hl
    have HK1 := Aside0.mk hk
    clear hl hk
    go_wp2_with fail
    refine (Z.out _).mono ?_
    rintro x w2 ⟨rfl, hb⟩
    have HL2 := Aside0.mk (HL1.out.below hb HL1.out.lt)
    have HK2 := Aside0.mk (HK1.out.trans (Kept.of_below hb HL1.out.lt))
    clear hb
    go_wp2_with fail
    refine (rewind_calls HL2.out (by omega) (by have := HA.out; omega) (Or.inr rfl) (by have := HA.out; omega)).mono ?_
    rintro x w3 ⟨rfl, hl, hk⟩
    rw [if_pos rfl] at hl
    have HL3 := Aside0.mk hl
    have HK3 := Aside0.mk (HK2.out.trans hk)
    have CS := Aside0.mk (show ∀ W, Below w3.heap.size w3 W → LexAt W B o s e a p 0 ca c from fun W hb => LexAt.below hl hb (LexAt.lt hl))
    have c0 := hl.c0
    clear hl hk
    go_wp2_with fail
    go_region_held3 (fun w' => w'.cell? ⟨B, o, none⟩ = some (.string s)) (go_keep) (first
      | (go_at_call 56; refine (position_calls (CS.out _ (by repeat (first | exact Below.refl _ _ | apply below_drew1 | apply pw_below_drewN)))).mono ?_; rintro x w4 ⟨rfl, hb⟩; have HB4 := Aside0.mk (below_step (w := w3) (by repeat (first | exact Below.refl _ _ | apply below_drew1 | apply pw_below_drewN)) hb); clear hb c0; have H4 := Aside0.mk (CS.out _ HB4.out); have c0 := H4.out.c0))
    all_goals
      go_wp2
      go_ret
      exact ⟨⟨_, rfl, fun h => Bool.noConfusion h, fun _ => ⟨_, _, rfl, Or.inl rfl⟩⟩, ⟨_, by repeat (first | exact H4.out | apply LexAt.drew | apply LexAt.drewN)⟩, by repeat (first | exact HK3.out.trans (Kept.of_below HB4.out HL3.out.lt) | apply Kept.drew)⟩
end
end Go.Proofs.YtmjoebnphacadaaGreatDoor.Lex
/- parse.lexer: scanOperator. -/
namespace Go.Proofs.YtmjoebnphacadaaGreatDoor.Lex
open Go.RowKit Go.Lib Go.Proofs.YtmjoebnphacadaaGreatDoorW.PrintWords Go.Proofs.YtmjoebnphacadaaGreatDoorW.PrintLast
set_option linter.unusedVariables false
set_option linter.unusedSimpArgs false
/-- A token as the lexer's own value. -/
def tokV (s : ByteArray) (k a p ca c : Nat) : Value := .agg #[.int .i64 (k : Int), .string (s.extract a p), .int .i64 (a : Int), .int .i64 (p : Int), .int .i64 (ca : Int), .int .i64 (c : Int)]
def noTok : Value := .agg #[.int .i64 0, .string ⟨#[]⟩, .int .i64 0, .int .i64 0, .int .i64 0, .int .i64 0]
def tB : ByteArray := ⟨#[126]⟩
def eB : ByteArray := ⟨#[61]⟩
def xB : ByteArray := ⟨#[33]⟩
section
variable {w : World} {B o : Nat} {s : ByteArray} {e : Value} {a p wd ca c : Nat}
theorem acc_le {v : ByteArray} (h : accB s v p = true) : p + wdt s p ≤ s.size ∧ 1 ≤ wdt s p := by
  unfold accB at h
  simp only [Bool.and_eq_true, decide_eq_true_eq] at h
  exact ⟨adv_le s p h.1, adv_pos s p⟩
end
end Go.Proofs.YtmjoebnphacadaaGreatDoor.Lex
/- parse.lexer: scanOperator, its ways (printed by wip/tools/gen_oper.py). -/
namespace Go.Proofs.YtmjoebnphacadaaGreatDoor.Lex
open Go.RowKit Go.Lib Go.Proofs.YtmjoebnphacadaaGreatDoorW.PrintWords Go.Proofs.YtmjoebnphacadaaGreatDoorW.PrintLast
set_option linter.unusedVariables false
set_option linter.unusedSimpArgs false
section
variable {w : World} {B o : Nat} {s : ByteArray} {e : Value} {p wd c : Nat}
set_option maxHeartbeats 3200000 in
set_option maxRecDepth 100000 in
theorem oper_five {w0 : World} (hX : Cx w0 w B) (h : LexAt w B o s e p p wd c c) (hs : s.size ≤ 2147483647) (hp : p ≤ s.size) (hc : c ≤ p) (h1 : accB s xB p = true) (h2 : accB s eB (p + wdt s p) = true) :
    Calls Tryz.prog 50 #[.pointer (some ⟨B, o, none⟩)] w fun x w' => x = .returned (.tuple #[tokV s 5 p (p + wdt s p + wdt s (p + wdt s p)) c (c + 2), .nilIface]) ∧ (∃ wd', LexAt w' B o s e (p + wdt s p + wdt s (p + wdt s p)) (p + wdt s p + wdt s (p + wdt s p)) wd' (c + 2) (c + 2)) ∧ Kept B o w w' := by
  have HX := Aside0.mk (hX.kept (Kept.alloc (Kept.refl B o w) h.lt (.cells #[.int .i64 0, .string ⟨#[]⟩, .int .i64 0, .int .i64 0, .int .i64 0, .int .i64 0] 88)))
  have HB := Aside0.mk h.lt
  have HL0 := Aside0.mk (h.alloc (.cells #[.int .i64 0, .string ⟨#[]⟩, .int .i64 0, .int .i64 0, .int .i64 0, .int .i64 0] 88))
  have A1 := Aside0.mk (acc_le h1)
  have A2 := Aside0.mk (acc_le h2)
  have HS := Aside0.mk (And.intro hs (And.intro hp hc))
  have HG := Aside0.mk (heap_alloc_new w (.cells #[.int .i64 0, .string ⟨#[]⟩, .int .i64 0, .int .i64 0, .int .i64 0, .int .i64 0] 88))
  have HK0 := Aside0.mk (Kept.refl B o (w.alloc (.cells #[.int .i64 0, .string ⟨#[]⟩, .int .i64 0, .int .i64 0, .int .i64 0, .int .i64 0] 88)))
  have HW := Aside0.mk (show Kept B o w (w.alloc (.cells #[.int .i64 0, .string ⟨#[]⟩, .int .i64 0, .int .i64 0, .int .i64 0, .int .i64 0] 88)) from Kept.alloc (Kept.refl B o w) h.lt _)
  have E1 := Aside0.mk h1
  have E2 := Aside0.mk h2
  clear hX h hs hp hc h1 h2
  go_enter Tryz.func50, Tryz.ntmps50
  go_wp2_with fail
  have C := accept_calls (HX.out.kept HK0.out) HL0.out xB (by decide) HS.out.1 (by have := HS.out; have := A1.out; have := A2.out; omega) (by have := HS.out; have := A1.out; have := A2.out; omega)
  rw [E1.out] at C
  refine C.mono ?_
  clear C
  rintro x w1 ⟨rfl, ⟨wd1, hl⟩, hk⟩
  have HL1 := Aside0.mk (show LexAt w1 B o s e p (p + wdt s p) wd1 c (c + 1) from hl)
  have HK1 := Aside0.mk (HK0.out.trans hk)
  clear hl hk
  go_wp2_with fail
  have C := accept_calls (HX.out.kept HK1.out) HL1.out eB (by decide) HS.out.1 (by have := HS.out; have := A1.out; have := A2.out; omega) (by have := HS.out; have := A1.out; have := A2.out; omega)
  rw [E2.out] at C
  refine C.mono ?_
  clear C
  rintro x w2 ⟨rfl, ⟨wd2, hl⟩, hk⟩
  have HL2 := Aside0.mk (show LexAt w2 B o s e p (p + wdt s p + wdt s (p + wdt s p)) wd2 c (c + 2) from hl)
  have HK2 := Aside0.mk (HK1.out.trans hk)
  clear hl hk
  go_wp2_with fail
  refine (emit_calls 5 HL2.out (by have := HS.out; have := A1.out; have := A2.out; omega) (by have := HS.out; have := A1.out; have := A2.out; omega)).mono ?_
  rintro x w9 ⟨rfl, hl, hk⟩
  have HL9 := Aside0.mk hl
  have HK9 := Aside0.mk (HK2.out.trans hk)
  have hg := (HK9.out.block w.heap.size (by simp) (by have := HB.out; omega)).trans HG.out
  obtain ⟨⟨n0, n1, n2, n3, n4, n5⟩, y0, y1, y2, y3, y4, y5⟩ := cells6 hg
  clear hl hk hg
  have hne : w.heap.size ≠ B := by have := HB.out; omega
  go_wp2
  refine bodyPost_ret (v := .tuple #[tokV s 5 p (p + wdt s p + wdt s (p + wdt s p)) c (c + 2), .nilIface]) ?_ rfl ?_
  · unfold tokV
    simp [results]
    go_simp
  · refine ⟨rfl, ⟨wd2, ?_⟩, ?_⟩
    · iterate 6 refine LexAt.farB hne ?_
      exact HL9.out
    · iterate 6 refine Kept.farB (Nat.le_refl _) HB.out ?_
      exact HW.out.trans HK9.out
set_option maxHeartbeats 3200000 in
set_option maxRecDepth 100000 in
theorem oper_seven {w0 : World} (hX : Cx w0 w B) (h : LexAt w B o s e p p wd c c) (hs : s.size ≤ 2147483647) (hp : p ≤ s.size) (hc : c ≤ p) (h1 : accB s xB p = true) (h2 : accB s eB (p + wdt s p) = false) (h3 : accB s tB (p + wdt s p) = true) :
    Calls Tryz.prog 50 #[.pointer (some ⟨B, o, none⟩)] w fun x w' => x = .returned (.tuple #[tokV s 7 p (p + wdt s p + wdt s (p + wdt s p)) c (c + 2), .nilIface]) ∧ (∃ wd', LexAt w' B o s e (p + wdt s p + wdt s (p + wdt s p)) (p + wdt s p + wdt s (p + wdt s p)) wd' (c + 2) (c + 2)) ∧ Kept B o w w' := by
  have HX := Aside0.mk (hX.kept (Kept.alloc (Kept.refl B o w) h.lt (.cells #[.int .i64 0, .string ⟨#[]⟩, .int .i64 0, .int .i64 0, .int .i64 0, .int .i64 0] 88)))
  have HB := Aside0.mk h.lt
  have HL0 := Aside0.mk (h.alloc (.cells #[.int .i64 0, .string ⟨#[]⟩, .int .i64 0, .int .i64 0, .int .i64 0, .int .i64 0] 88))
  have A1 := Aside0.mk (acc_le h1)
  have A3 := Aside0.mk (acc_le h3)
  have HS := Aside0.mk (And.intro hs (And.intro hp hc))
  have HG := Aside0.mk (heap_alloc_new w (.cells #[.int .i64 0, .string ⟨#[]⟩, .int .i64 0, .int .i64 0, .int .i64 0, .int .i64 0] 88))
  have HK0 := Aside0.mk (Kept.refl B o (w.alloc (.cells #[.int .i64 0, .string ⟨#[]⟩, .int .i64 0, .int .i64 0, .int .i64 0, .int .i64 0] 88)))
  have HW := Aside0.mk (show Kept B o w (w.alloc (.cells #[.int .i64 0, .string ⟨#[]⟩, .int .i64 0, .int .i64 0, .int .i64 0, .int .i64 0] 88)) from Kept.alloc (Kept.refl B o w) h.lt _)
  have E1 := Aside0.mk h1
  have E2 := Aside0.mk h2
  have E3 := Aside0.mk h3
  clear hX h hs hp hc h1 h2 h3
  go_enter Tryz.func50, Tryz.ntmps50
  go_wp2_with fail
  have C := accept_calls (HX.out.kept HK0.out) HL0.out xB (by decide) HS.out.1 (by have := HS.out; have := A1.out; have := A3.out; omega) (by have := HS.out; have := A1.out; have := A3.out; omega)
  rw [E1.out] at C
  refine C.mono ?_
  clear C
  rintro x w1 ⟨rfl, ⟨wd1, hl⟩, hk⟩
  have HL1 := Aside0.mk (show LexAt w1 B o s e p (p + wdt s p) wd1 c (c + 1) from hl)
  have HK1 := Aside0.mk (HK0.out.trans hk)
  clear hl hk
  go_wp2_with fail
  have C := accept_calls (HX.out.kept HK1.out) HL1.out eB (by decide) HS.out.1 (by have := HS.out; have := A1.out; have := A3.out; omega) (by have := HS.out; have := A1.out; have := A3.out; omega)
  rw [E2.out] at C
  refine C.mono ?_
  clear C
  rintro x w2 ⟨rfl, ⟨wd2, hl⟩, hk⟩
  have HL2 := Aside0.mk (show LexAt w2 B o s e p (p + wdt s p) wd2 c (c + 1) from hl)
  have HK2 := Aside0.mk (HK1.out.trans hk)
  clear hl hk
  go_wp2_with fail
  have C := accept_calls (HX.out.kept HK2.out) HL2.out tB (by decide) HS.out.1 (by have := HS.out; have := A1.out; have := A3.out; omega) (by have := HS.out; have := A1.out; have := A3.out; omega)
  rw [E3.out] at C
  refine C.mono ?_
  clear C
  rintro x w3 ⟨rfl, ⟨wd3, hl⟩, hk⟩
  have HL3 := Aside0.mk (show LexAt w3 B o s e p (p + wdt s p + wdt s (p + wdt s p)) wd3 c (c + 2) from hl)
  have HK3 := Aside0.mk (HK2.out.trans hk)
  clear hl hk
  go_wp2_with fail
  refine (emit_calls 7 HL3.out (by have := HS.out; have := A1.out; have := A3.out; omega) (by have := HS.out; have := A1.out; have := A3.out; omega)).mono ?_
  rintro x w9 ⟨rfl, hl, hk⟩
  have HL9 := Aside0.mk hl
  have HK9 := Aside0.mk (HK3.out.trans hk)
  have hg := (HK9.out.block w.heap.size (by simp) (by have := HB.out; omega)).trans HG.out
  obtain ⟨⟨n0, n1, n2, n3, n4, n5⟩, y0, y1, y2, y3, y4, y5⟩ := cells6 hg
  clear hl hk hg
  have hne : w.heap.size ≠ B := by have := HB.out; omega
  go_wp2
  refine bodyPost_ret (v := .tuple #[tokV s 7 p (p + wdt s p + wdt s (p + wdt s p)) c (c + 2), .nilIface]) ?_ rfl ?_
  · unfold tokV
    simp [results]
    go_simp
  · refine ⟨rfl, ⟨wd3, ?_⟩, ?_⟩
    · iterate 6 refine LexAt.farB hne ?_
      exact HL9.out
    · iterate 6 refine Kept.farB (Nat.le_refl _) HB.out ?_
      exact HW.out.trans HK9.out
set_option maxHeartbeats 3200000 in
set_option maxRecDepth 100000 in
theorem oper_bad1 {w0 : World} (hX : Cx w0 w B) (h : LexAt w B o s e p p wd c c) (hs : s.size ≤ 2147483647) (hp : p ≤ s.size) (hc : c ≤ p) (h1 : accB s xB p = true) (h2 : accB s eB (p + wdt s p) = false) (h3 : accB s tB (p + wdt s p) = false) :
    Calls Tryz.prog 50 #[.pointer (some ⟨B, o, none⟩)] w fun x w' => (∃ r, x = .returned (.tuple #[noTok, r]) ∧ LexErr r) ∧ (∃ a' p' wd' ca' c', LexAt w' B o s e a' p' wd' ca' c') ∧ Kept B o w w' := by
  have HX := Aside0.mk (hX.kept (Kept.alloc (Kept.refl B o w) h.lt (.cells #[.int .i64 0, .string ⟨#[]⟩, .int .i64 0, .int .i64 0, .int .i64 0, .int .i64 0] 88)))
  have HB := Aside0.mk h.lt
  have HL0 := Aside0.mk (h.alloc (.cells #[.int .i64 0, .string ⟨#[]⟩, .int .i64 0, .int .i64 0, .int .i64 0, .int .i64 0] 88))
  have A1 := Aside0.mk (acc_le h1)
  have HS := Aside0.mk (And.intro hs (And.intro hp hc))
  have HG := Aside0.mk (heap_alloc_new w (.cells #[.int .i64 0, .string ⟨#[]⟩, .int .i64 0, .int .i64 0, .int .i64 0, .int .i64 0] 88))
  have HK0 := Aside0.mk (Kept.refl B o (w.alloc (.cells #[.int .i64 0, .string ⟨#[]⟩, .int .i64 0, .int .i64 0, .int .i64 0, .int .i64 0] 88)))
  have HW := Aside0.mk (show Kept B o w (w.alloc (.cells #[.int .i64 0, .string ⟨#[]⟩, .int .i64 0, .int .i64 0, .int .i64 0, .int .i64 0] 88)) from Kept.alloc (Kept.refl B o w) h.lt _)
  have E1 := Aside0.mk h1
  have E2 := Aside0.mk h2
  have E3 := Aside0.mk h3
  clear hX h hs hp hc h1 h2 h3
  go_enter Tryz.func50, Tryz.ntmps50
  go_wp2_with fail
  have C := accept_calls (HX.out.kept HK0.out) HL0.out xB (by decide) HS.out.1 (by have := HS.out; have := A1.out; omega) (by have := HS.out; have := A1.out; omega)
  rw [E1.out] at C
  refine C.mono ?_
  clear C
  rintro x w1 ⟨rfl, ⟨wd1, hl⟩, hk⟩
  have HL1 := Aside0.mk (show LexAt w1 B o s e p (p + wdt s p) wd1 c (c + 1) from hl)
  have HK1 := Aside0.mk (HK0.out.trans hk)
  clear hl hk
  go_wp2_with fail
  have C := accept_calls (HX.out.kept HK1.out) HL1.out eB (by decide) HS.out.1 (by have := HS.out; have := A1.out; omega) (by have := HS.out; have := A1.out; omega)
  rw [E2.out] at C
  refine C.mono ?_
  clear C
  rintro x w2 ⟨rfl, ⟨wd2, hl⟩, hk⟩
  have HL2 := Aside0.mk (show LexAt w2 B o s e p (p + wdt s p) wd2 c (c + 1) from hl)
  have HK2 := Aside0.mk (HK1.out.trans hk)
  clear hl hk
  go_wp2_with fail
  have C := accept_calls (HX.out.kept HK2.out) HL2.out tB (by decide) HS.out.1 (by have := HS.out; have := A1.out; omega) (by have := HS.out; have := A1.out; omega)
  rw [E3.out] at C
  refine C.mono ?_
  clear C
  rintro x w3 ⟨rfl, ⟨wd3, hl⟩, hk⟩
  have HL3 := Aside0.mk (show LexAt w3 B o s e p (p + wdt s p) wd3 c (c + 1) from hl)
  have HK3 := Aside0.mk (HK2.out.trans hk)
  clear hl hk
  go_wp2_with fail
  have hg := (HK3.out.block w.heap.size (by simp) (by have := HB.out; omega)).trans HG.out
  have CS := Aside0.mk (show ∀ W, Below w3.heap.size w3 W → LexAt W B o s e p (p + wdt s p) wd3 c (c + 1) from fun W hb => HL3.out.below hb HL3.out.lt)
  have GS := Aside0.mk (show ∀ W, Below w3.heap.size w3 W → _ from fun W hb => (hb.block w.heap.size (by have := HK3.out.size; simp at this; omega)).trans hg)
  have c0 := HL3.out.c0
  obtain ⟨⟨n0, n1, n2, n3, n4, n5⟩, y0, y1, y2, y3, y4, y5⟩ := cells6 hg
  clear hg
  have hne : w.heap.size ≠ B := by have := HB.out; omega
  have hne' : B ≠ w.heap.size := fun e => hne e.symm
  go_region_held3 (fun w' => w'.cell? ⟨B, o, none⟩ = some (.string s)) (go_keep) (first
    | (go_at_call 56; refine (position_calls (CS.out _ (by repeat (first | exact Below.refl _ _ | apply below_drew1 | apply pw_below_drewN)))).mono ?_; rintro x w8 ⟨rfl, hb⟩; have HB4 := Aside0.mk (below_step (w := w3) (by repeat (first | exact Below.refl _ _ | apply below_drew1 | apply pw_below_drewN)) hb); clear hb c0 n0 n1 n2 n3 n4 n5 y0 y1 y2 y3 y4 y5; have H4 := Aside0.mk (CS.out _ HB4.out); have c0 := H4.out.c0; obtain ⟨⟨n0, n1, n2, n3, n4, n5⟩, y0, y1, y2, y3, y4, y5⟩ := cells6 (GS.out _ HB4.out)))
  go_wp2
  refine bodyPost_ret (v := .tuple #[noTok, .iface 123 (.agg #[.int .i64 (p : Int), .int .i64 ((p : Int) + (wdt s p : Int)), .int .i64 (c : Int), .int .i64 ((c : Int) + 1), .string s, .string ⟨#[61, 126]⟩])]) ?_ rfl ?_
  · unfold noTok
    simp [results]
    go_simp
  · refine ⟨⟨_, rfl, ⟨_, _, rfl, Or.inl rfl⟩⟩, ⟨p, (p + wdt s p), wd3, c, (c + 1), ?_⟩, ?_⟩
    · iterate 6 refine LexAt.farB hne ?_
      exact H4.out
    · iterate 6 refine Kept.farB (Nat.le_refl _) HB.out ?_
      exact HW.out.trans (HK3.out.trans (Kept.of_below HB4.out HL3.out.lt))
set_option maxHeartbeats 3200000 in
set_option maxRecDepth 100000 in
theorem oper_six {w0 : World} (hX : Cx w0 w B) (h : LexAt w B o s e p p wd c c) (hs : s.size ≤ 2147483647) (hp : p ≤ s.size) (hc : c ≤ p) (h1 : accB s xB p = false) (h2 : accB s eB p = true) (h3 : accB s tB (p + wdt s p) = true) :
    Calls Tryz.prog 50 #[.pointer (some ⟨B, o, none⟩)] w fun x w' => x = .returned (.tuple #[tokV s 6 p (p + wdt s p + wdt s (p + wdt s p)) c (c + 2), .nilIface]) ∧ (∃ wd', LexAt w' B o s e (p + wdt s p + wdt s (p + wdt s p)) (p + wdt s p + wdt s (p + wdt s p)) wd' (c + 2) (c + 2)) ∧ Kept B o w w' := by
  have HX := Aside0.mk (hX.kept (Kept.alloc (Kept.refl B o w) h.lt (.cells #[.int .i64 0, .string ⟨#[]⟩, .int .i64 0, .int .i64 0, .int .i64 0, .int .i64 0] 88)))
  have HB := Aside0.mk h.lt
  have HL0 := Aside0.mk (h.alloc (.cells #[.int .i64 0, .string ⟨#[]⟩, .int .i64 0, .int .i64 0, .int .i64 0, .int .i64 0] 88))
  have A2 := Aside0.mk (acc_le h2)
  have A3 := Aside0.mk (acc_le h3)
  have HS := Aside0.mk (And.intro hs (And.intro hp hc))
  have HG := Aside0.mk (heap_alloc_new w (.cells #[.int .i64 0, .string ⟨#[]⟩, .int .i64 0, .int .i64 0, .int .i64 0, .int .i64 0] 88))
  have HK0 := Aside0.mk (Kept.refl B o (w.alloc (.cells #[.int .i64 0, .string ⟨#[]⟩, .int .i64 0, .int .i64 0, .int .i64 0, .int .i64 0] 88)))
  have HW := Aside0.mk (show Kept B o w (w.alloc (.cells #[.int .i64 0, .string ⟨#[]⟩, .int .i64 0, .int .i64 0, .int .i64 0, .int .i64 0] 88)) from Kept.alloc (Kept.refl B o w) h.lt _)
  have E1 := Aside0.mk h1
  have E2 := Aside0.mk h2
  have E3 := Aside0.mk h3
  clear hX h hs hp hc h1 h2 h3
  go_enter Tryz.func50, Tryz.ntmps50
  go_wp2_with fail
  have C := accept_calls (HX.out.kept HK0.out) HL0.out xB (by decide) HS.out.1 (by have := HS.out; have := A2.out; have := A3.out; omega) (by have := HS.out; have := A2.out; have := A3.out; omega)
  rw [E1.out] at C
  refine C.mono ?_
  clear C
  rintro x w1 ⟨rfl, ⟨wd1, hl⟩, hk⟩
  have HL1 := Aside0.mk (show LexAt w1 B o s e p p wd1 c c from hl)
  have HK1 := Aside0.mk (HK0.out.trans hk)
  clear hl hk
  go_wp2_with fail
  have C := accept_calls (HX.out.kept HK1.out) HL1.out eB (by decide) HS.out.1 (by have := HS.out; have := A2.out; have := A3.out; omega) (by have := HS.out; have := A2.out; have := A3.out; omega)
  rw [E2.out] at C
  refine C.mono ?_
  clear C
  rintro x w2 ⟨rfl, ⟨wd2, hl⟩, hk⟩
  have HL2 := Aside0.mk (show LexAt w2 B o s e p (p + wdt s p) wd2 c (c + 1) from hl)
  have HK2 := Aside0.mk (HK1.out.trans hk)
  clear hl hk
  go_wp2_with fail
  have C := accept_calls (HX.out.kept HK2.out) HL2.out tB (by decide) HS.out.1 (by have := HS.out; have := A2.out; have := A3.out; omega) (by have := HS.out; have := A2.out; have := A3.out; omega)
  rw [E3.out] at C
  refine C.mono ?_
  clear C
  rintro x w3 ⟨rfl, ⟨wd3, hl⟩, hk⟩
  have HL3 := Aside0.mk (show LexAt w3 B o s e p (p + wdt s p + wdt s (p + wdt s p)) wd3 c (c + 2) from hl)
  have HK3 := Aside0.mk (HK2.out.trans hk)
  clear hl hk
  go_wp2_with fail
  refine (emit_calls 6 HL3.out (by have := HS.out; have := A2.out; have := A3.out; omega) (by have := HS.out; have := A2.out; have := A3.out; omega)).mono ?_
  rintro x w9 ⟨rfl, hl, hk⟩
  have HL9 := Aside0.mk hl
  have HK9 := Aside0.mk (HK3.out.trans hk)
  have hg := (HK9.out.block w.heap.size (by simp) (by have := HB.out; omega)).trans HG.out
  obtain ⟨⟨n0, n1, n2, n3, n4, n5⟩, y0, y1, y2, y3, y4, y5⟩ := cells6 hg
  clear hl hk hg
  have hne : w.heap.size ≠ B := by have := HB.out; omega
  go_wp2
  refine bodyPost_ret (v := .tuple #[tokV s 6 p (p + wdt s p + wdt s (p + wdt s p)) c (c + 2), .nilIface]) ?_ rfl ?_
  · unfold tokV
    simp [results]
    go_simp
  · refine ⟨rfl, ⟨wd3, ?_⟩, ?_⟩
    · iterate 6 refine LexAt.farB hne ?_
      exact HL9.out
    · iterate 6 refine Kept.farB (Nat.le_refl _) HB.out ?_
      exact HW.out.trans HK9.out
set_option maxHeartbeats 3200000 in
set_option maxRecDepth 100000 in
theorem oper_four {w0 : World} (hX : Cx w0 w B) (h : LexAt w B o s e p p wd c c) (hs : s.size ≤ 2147483647) (hp : p ≤ s.size) (hc : c ≤ p) (h1 : accB s xB p = false) (h2 : accB s eB p = true) (h3 : accB s tB (p + wdt s p) = false) :
    Calls Tryz.prog 50 #[.pointer (some ⟨B, o, none⟩)] w fun x w' => x = .returned (.tuple #[tokV s 4 p (p + wdt s p) c (c + 1), .nilIface]) ∧ (∃ wd', LexAt w' B o s e (p + wdt s p) (p + wdt s p) wd' (c + 1) (c + 1)) ∧ Kept B o w w' := by
  have HX := Aside0.mk (hX.kept (Kept.alloc (Kept.refl B o w) h.lt (.cells #[.int .i64 0, .string ⟨#[]⟩, .int .i64 0, .int .i64 0, .int .i64 0, .int .i64 0] 88)))
  have HB := Aside0.mk h.lt
  have HL0 := Aside0.mk (h.alloc (.cells #[.int .i64 0, .string ⟨#[]⟩, .int .i64 0, .int .i64 0, .int .i64 0, .int .i64 0] 88))
  have A2 := Aside0.mk (acc_le h2)
  have HS := Aside0.mk (And.intro hs (And.intro hp hc))
  have HG := Aside0.mk (heap_alloc_new w (.cells #[.int .i64 0, .string ⟨#[]⟩, .int .i64 0, .int .i64 0, .int .i64 0, .int .i64 0] 88))
  have HK0 := Aside0.mk (Kept.refl B o (w.alloc (.cells #[.int .i64 0, .string ⟨#[]⟩, .int .i64 0, .int .i64 0, .int .i64 0, .int .i64 0] 88)))
  have HW := Aside0.mk (show Kept B o w (w.alloc (.cells #[.int .i64 0, .string ⟨#[]⟩, .int .i64 0, .int .i64 0, .int .i64 0, .int .i64 0] 88)) from Kept.alloc (Kept.refl B o w) h.lt _)
  have E1 := Aside0.mk h1
  have E2 := Aside0.mk h2
  have E3 := Aside0.mk h3
  clear hX h hs hp hc h1 h2 h3
  go_enter Tryz.func50, Tryz.ntmps50
  go_wp2_with fail
  have C := accept_calls (HX.out.kept HK0.out) HL0.out xB (by decide) HS.out.1 (by have := HS.out; have := A2.out; omega) (by have := HS.out; have := A2.out; omega)
  rw [E1.out] at C
  refine C.mono ?_
  clear C
  rintro x w1 ⟨rfl, ⟨wd1, hl⟩, hk⟩
  have HL1 := Aside0.mk (show LexAt w1 B o s e p p wd1 c c from hl)
  have HK1 := Aside0.mk (HK0.out.trans hk)
  clear hl hk
  go_wp2_with fail
  have C := accept_calls (HX.out.kept HK1.out) HL1.out eB (by decide) HS.out.1 (by have := HS.out; have := A2.out; omega) (by have := HS.out; have := A2.out; omega)
  rw [E2.out] at C
  refine C.mono ?_
  clear C
  rintro x w2 ⟨rfl, ⟨wd2, hl⟩, hk⟩
  have HL2 := Aside0.mk (show LexAt w2 B o s e p (p + wdt s p) wd2 c (c + 1) from hl)
  have HK2 := Aside0.mk (HK1.out.trans hk)
  clear hl hk
  go_wp2_with fail
  have C := accept_calls (HX.out.kept HK2.out) HL2.out tB (by decide) HS.out.1 (by have := HS.out; have := A2.out; omega) (by have := HS.out; have := A2.out; omega)
  rw [E3.out] at C
  refine C.mono ?_
  clear C
  rintro x w3 ⟨rfl, ⟨wd3, hl⟩, hk⟩
  have HL3 := Aside0.mk (show LexAt w3 B o s e p (p + wdt s p) wd3 c (c + 1) from hl)
  have HK3 := Aside0.mk (HK2.out.trans hk)
  clear hl hk
  go_wp2_with fail
  refine (emit_calls 4 HL3.out (by have := HS.out; have := A2.out; omega) (by have := HS.out; have := A2.out; omega)).mono ?_
  rintro x w9 ⟨rfl, hl, hk⟩
  have HL9 := Aside0.mk hl
  have HK9 := Aside0.mk (HK3.out.trans hk)
  have hg := (HK9.out.block w.heap.size (by simp) (by have := HB.out; omega)).trans HG.out
  obtain ⟨⟨n0, n1, n2, n3, n4, n5⟩, y0, y1, y2, y3, y4, y5⟩ := cells6 hg
  clear hl hk hg
  have hne : w.heap.size ≠ B := by have := HB.out; omega
  go_wp2
  refine bodyPost_ret (v := .tuple #[tokV s 4 p (p + wdt s p) c (c + 1), .nilIface]) ?_ rfl ?_
  · unfold tokV
    simp [results]
    go_simp
  · refine ⟨rfl, ⟨wd3, ?_⟩, ?_⟩
    · iterate 6 refine LexAt.farB hne ?_
      exact HL9.out
    · iterate 6 refine Kept.farB (Nat.le_refl _) HB.out ?_
      exact HW.out.trans HK9.out
set_option maxHeartbeats 3200000 in
set_option maxRecDepth 100000 in
theorem oper_bad2 {w0 : World} (hX : Cx w0 w B) (h : LexAt w B o s e p p wd c c) (hs : s.size ≤ 2147483647) (hp : p ≤ s.size) (hc : c ≤ p) (h1 : accB s xB p = false) (h2 : accB s eB p = false) :
    Calls Tryz.prog 50 #[.pointer (some ⟨B, o, none⟩)] w fun x w' => (∃ r, x = .returned (.tuple #[noTok, r]) ∧ LexErr r) ∧ (∃ a' p' wd' ca' c', LexAt w' B o s e a' p' wd' ca' c') ∧ Kept B o w w' := by
  have HX := Aside0.mk (hX.kept (Kept.alloc (Kept.refl B o w) h.lt (.cells #[.int .i64 0, .string ⟨#[]⟩, .int .i64 0, .int .i64 0, .int .i64 0, .int .i64 0] 88)))
  have HB := Aside0.mk h.lt
  have HL0 := Aside0.mk (h.alloc (.cells #[.int .i64 0, .string ⟨#[]⟩, .int .i64 0, .int .i64 0, .int .i64 0, .int .i64 0] 88))
  have HS := Aside0.mk (And.intro hs (And.intro hp hc))
  have HG := Aside0.mk (heap_alloc_new w (.cells #[.int .i64 0, .string ⟨#[]⟩, .int .i64 0, .int .i64 0, .int .i64 0, .int .i64 0] 88))
  have HK0 := Aside0.mk (Kept.refl B o (w.alloc (.cells #[.int .i64 0, .string ⟨#[]⟩, .int .i64 0, .int .i64 0, .int .i64 0, .int .i64 0] 88)))
  have HW := Aside0.mk (show Kept B o w (w.alloc (.cells #[.int .i64 0, .string ⟨#[]⟩, .int .i64 0, .int .i64 0, .int .i64 0, .int .i64 0] 88)) from Kept.alloc (Kept.refl B o w) h.lt _)
  have E1 := Aside0.mk h1
  have E2 := Aside0.mk h2
  clear hX h hs hp hc h1 h2
  go_enter Tryz.func50, Tryz.ntmps50
  go_wp2_with fail
  have C := accept_calls (HX.out.kept HK0.out) HL0.out xB (by decide) HS.out.1 (by have := HS.out; omega) (by have := HS.out; omega)
  rw [E1.out] at C
  refine C.mono ?_
  clear C
  rintro x w1 ⟨rfl, ⟨wd1, hl⟩, hk⟩
  have HL1 := Aside0.mk (show LexAt w1 B o s e p p wd1 c c from hl)
  have HK1 := Aside0.mk (HK0.out.trans hk)
  clear hl hk
  go_wp2_with fail
  have C := accept_calls (HX.out.kept HK1.out) HL1.out eB (by decide) HS.out.1 (by have := HS.out; omega) (by have := HS.out; omega)
  rw [E2.out] at C
  refine C.mono ?_
  clear C
  rintro x w2 ⟨rfl, ⟨wd2, hl⟩, hk⟩
  have HL2 := Aside0.mk (show LexAt w2 B o s e p p wd2 c c from hl)
  have HK2 := Aside0.mk (HK1.out.trans hk)
  clear hl hk
  go_wp2_with fail
  have hg := (HK2.out.block w.heap.size (by simp) (by have := HB.out; omega)).trans HG.out
  have CS := Aside0.mk (show ∀ W, Below w2.heap.size w2 W → LexAt W B o s e p p wd2 c c from fun W hb => HL2.out.below hb HL2.out.lt)
  have GS := Aside0.mk (show ∀ W, Below w2.heap.size w2 W → _ from fun W hb => (hb.block w.heap.size (by have := HK2.out.size; simp at this; omega)).trans hg)
  have c0 := HL2.out.c0
  obtain ⟨⟨n0, n1, n2, n3, n4, n5⟩, y0, y1, y2, y3, y4, y5⟩ := cells6 hg
  clear hg
  have hne : w.heap.size ≠ B := by have := HB.out; omega
  have hne' : B ≠ w.heap.size := fun e => hne e.symm
  go_region_held3 (fun w' => w'.cell? ⟨B, o, none⟩ = some (.string s)) (go_keep) (first
    | (go_at_call 56; refine (position_calls (CS.out _ (by repeat (first | exact Below.refl _ _ | apply below_drew1 | apply pw_below_drewN)))).mono ?_; rintro x w8 ⟨rfl, hb⟩; have HB4 := Aside0.mk (below_step (w := w2) (by repeat (first | exact Below.refl _ _ | apply below_drew1 | apply pw_below_drewN)) hb); clear hb c0 n0 n1 n2 n3 n4 n5 y0 y1 y2 y3 y4 y5; have H4 := Aside0.mk (CS.out _ HB4.out); have c0 := H4.out.c0; obtain ⟨⟨n0, n1, n2, n3, n4, n5⟩, y0, y1, y2, y3, y4, y5⟩ := cells6 (GS.out _ HB4.out)))
  go_wp2
  refine bodyPost_ret (v := .tuple #[noTok, .iface 123 (.agg #[.int .i64 (p : Int), .int .i64 (p : Int), .int .i64 (c : Int), .int .i64 (c : Int), .string s, .string ⟨#[33, 61]⟩])]) ?_ rfl ?_
  · unfold noTok
    simp [results]
    go_simp
  · refine ⟨⟨_, rfl, ⟨_, _, rfl, Or.inl rfl⟩⟩, ⟨p, p, wd2, c, c, ?_⟩, ?_⟩
    · iterate 6 refine LexAt.farB hne ?_
      exact H4.out
    · iterate 6 refine Kept.farB (Nat.le_refl _) HB.out ?_
      exact HW.out.trans (HK2.out.trans (Kept.of_below HB4.out HL2.out.lt))
end
end Go.Proofs.YtmjoebnphacadaaGreatDoor.Lex
/- parse.lexer: scanUnquoted. -/
namespace Go.Proofs.YtmjoebnphacadaaGreatDoor.Lex
open Go.RowKit Go.Lib Go.Proofs.YtmjoebnphacadaaGreatDoorW.PrintWords Go.Proofs.YtmjoebnphacadaaGreatDoorW.PrintLast
set_option linter.unusedVariables false
set_option linter.unusedSimpArgs false
/-- What next hands back at a place, and the state behind it. -/
def nR (s : ByteArray) (q : Nat) : Int := if q < s.size then (rn s q : Int) else -1
def nP (s : ByteArray) (q : Nat) : Nat := if q < s.size then q + wdt s q else q
def nW (s : ByteArray) (q : Nat) : Nat := if q < s.size then wdt s q else 0
def nC (s : ByteArray) (q c : Nat) : Nat := if q < s.size then c + 1 else c
theorem nR_t {s : ByteArray} {q : Nat} (h : q < s.size) : nR s q = (rn s q : Int) := if_pos h
theorem nP_t {s : ByteArray} {q : Nat} (h : q < s.size) : nP s q = q + wdt s q := if_pos h
theorem nW_t {s : ByteArray} {q : Nat} (h : q < s.size) : nW s q = wdt s q := if_pos h
theorem nC_t {s : ByteArray} {q c : Nat} (h : q < s.size) : nC s q c = c + 1 := if_pos h
theorem nR_f {s : ByteArray} {q : Nat} (h : ¬ q < s.size) : nR s q = -1 := if_neg h
theorem nP_f {s : ByteArray} {q : Nat} (h : ¬ q < s.size) : nP s q = q := if_neg h
theorem nW_f {s : ByteArray} {q : Nat} (h : ¬ q < s.size) : nW s q = 0 := if_neg h
theorem nC_f {s : ByteArray} {q c : Nat} (h : ¬ q < s.size) : nC s q c = c := if_neg h
/-- The end of what is not reserved: its place, its column. -/
def unqE (s : ByteArray) : Nat → Nat → Nat → Nat × Nat
  | 0, p, c => (p, c)
  | f + 1, p, c => if p < s.size ∧ resR (rn s p) = false then unqE s f (p + wdt s p) (c + 1) else (p, c)
theorem unqE_step {s : ByteArray} {f p c : Nat} (h : p < s.size) (h2 : resR (rn s p) = false) : unqE s (f + 1) p c = unqE s f (p + wdt s p) (c + 1) := if_pos ⟨h, h2⟩
theorem unqE_stop {s : ByteArray} {f p c : Nat} (h : ¬ (p < s.size ∧ resR (rn s p) = false)) : unqE s f p c = (p, c) := by
  cases f with
  | zero => rfl
  | succ f => exact if_neg h
/-- Where a lexer in memory stands. -/
def posAt (w : World) (B o : Nat) : Nat := match w.cell? ⟨B, o + 3, none⟩ with | some (.int _ n) => n.toNat | _ => 0
theorem posAt_of {w : World} {B o : Nat} {s : ByteArray} {e : Value} {a p wd ca c : Nat} (h : LexAt w B o s e a p wd ca c) : posAt w B o = p := by
  unfold posAt
  rw [h.c3]
  simp
section
variable {w : World} {B o : Nat} {s : ByteArray} {e : Value} {a p wd ca c : Nat}
theorem next_calls {w0 : World} (hX : Cx w0 w B) (h : LexAt w B o s e a p wd ca c) (hs : s.size ≤ 2147483647) (hc : c ≤ p) :
    Calls Tryz.prog 47 #[.pointer (some ⟨B, o, none⟩)] w fun x w' => x = .returned (.int .i32 (nR s p)) ∧ LexAt w' B o s e a (nP s p) (nW s p) ca (nC s p c) ∧ Kept B o w w' := by
  by_cases hp : p < s.size
  · rw [nR_t hp, nP_t hp, nW_t hp, nC_t hp]
    exact next_rune hX h hp hs hc
  · rw [nR_f hp, nP_f hp, nW_f hp, nC_f hp]
    exact next_eof h hp
set_option maxHeartbeats 3200000 in
set_option maxRecDepth 100000 in
theorem unquoted_calls {w0 : World} (hX : Cx w0 w B) (h : LexAt w B o s e p p wd c c) (hs : s.size ≤ 2147483647) (hp : p ≤ s.size) (hc : c ≤ p) (E CE : Nat) (hE : unqE s s.size p c = (E, CE)) :
    Calls Tryz.prog 53 #[.pointer (some ⟨B, o, none⟩)] w fun x w' => x = .returned (.tuple #[tokV s 9 p E c CE, .nilIface]) ∧ (∃ wd', LexAt w' B o s e E E wd' CE CE) ∧ Kept B o w w' := by
  have HB := Aside0.mk h.lt
  have HX := Aside0.mk (hX.kept (Kept.alloc (Kept.refl B o w) h.lt (.cells #[.int .i64 0, .string ⟨#[]⟩, .int .i64 0, .int .i64 0, .int .i64 0, .int .i64 0] 88)))
  have HL0 := Aside0.mk (h.alloc (.cells #[.int .i64 0, .string ⟨#[]⟩, .int .i64 0, .int .i64 0, .int .i64 0, .int .i64 0] 88))
  have HS := Aside0.mk (And.intro hs (And.intro hp hc))
  have HG := Aside0.mk (heap_alloc_new w (.cells #[.int .i64 0, .string ⟨#[]⟩, .int .i64 0, .int .i64 0, .int .i64 0, .int .i64 0] 88))
  have HW := Aside0.mk (show Kept B o w (w.alloc (.cells #[.int .i64 0, .string ⟨#[]⟩, .int .i64 0, .int .i64 0, .int .i64 0, .int .i64 0] 88)) from Kept.alloc (Kept.refl B o w) h.lt _)
  have HE := Aside0.mk hE
  clear hX h hs hp hc hE
  have hne : w.heap.size ≠ B := by have := HB.out; omega
  go_enter Tryz.func53, Tryz.ntmps53
  go_wp2_with fail
  refine (next_calls HX.out HL0.out HS.out.1 HS.out.2.2).mono ?_
  rintro x w1 ⟨rfl, hl, hk⟩
  have HL1 := Aside0.mk hl
  have HK1 := Aside0.mk hk
  clear hl hk
  go_wp2
  go_loopw [4] (fun v4 wr => ∃ q cq fuel : Nat, v4 = .int .i32 (nR s q) ∧ Aside0 (unqE s fuel q cq = (E, CE) ∧ s.size ≤ q + fuel ∧ p ≤ q ∧ q ≤ s.size ∧ cq ≤ q) ∧ Aside0 (LexAt wr B o s e p (nP s q) (nW s q) c (nC s q cq)) ∧ Aside0 (Kept B o (w.alloc (.cells #[.int .i64 0, .string ⟨#[]⟩, .int .i64 0, .int .i64 0, .int .i64 0, .int .i64 0] 88)) wr)) (fun v4 wr => 2 * (s.size - posAt wr B o) + (if RowKit.intOf v4 = -1 then 0 else 1))
  case atStart => exact ⟨p, c, s.size, rfl, ⟨HE.out, by omega, by omega, HS.out.2.1, HS.out.2.2⟩, HL1, HK1⟩
  case round =>
    obtain ⟨q, cq, fuel, rfl, HR, HL, HK⟩ := hrel
    by_cases hq : q < s.size
    · have hle := adv_le s q hq
      have hpos := adv_pos s q
      have HA := Aside0.mk (And.intro hle hpos)
      have R := Aside0.mk (is_reserved (rn s q) wr (rn_lo s q) (rn_hi s q) (HX.out.kept HK.out).lt)
      have hne1 : ((nR s q : Int) != -1) = true := by rw [nR_t hq]; simp <;> omega
      rw [nR_t hq] at hne1 ⊢
      have HLq := Aside0.mk (show LexAt wr B o s e p (q + wdt s q) (wdt s q) c (cq + 1) by have := HL.out; rw [nP_t hq, nW_t hq, nC_t hq] at this; exact this)
      clear hle hpos
      cases hres : resR (rn s q) with
      | true =>
        rw [hres] at R
        have hEq := HR.out.1
        rw [unqE_stop (by rw [hres]; simp)] at hEq
        injection hEq with e1 e2
        subst e1 e2
        clear hres HL
        go_wp2_with fail
        refine R.out.mono ?_
        rintro x w2 ⟨rfl, hb⟩
        have HL2 := Aside0.mk (HLq.out.below hb HLq.out.lt)
        have HK2 := Aside0.mk (HK.out.trans (Kept.of_below hb HLq.out.lt))
        clear hb
        go_wp2_with fail
        refine (rewind_calls HL2.out (by omega) (by have := HA.out; have := HS.out; omega) (Or.inl (by omega)) (by have := HA.out; have := HS.out; have := HR.out; omega)).mono ?_
        rintro x w3 ⟨rfl, hl, hk⟩
        have e1 : q + wdt s q - wdt s q = q := by omega
        have e2 : (if wdt s q = 0 then cq + 1 else cq + 1 - 1) = cq := by rw [if_neg (by have := HA.out; omega)]; omega
        rw [e1, e2] at hl
        have HL3 := Aside0.mk hl
        have HK3 := Aside0.mk (HK2.out.trans hk)
        clear hl hk e1 e2
        go_wp2_with fail
        refine (emit_calls 9 HL3.out (by have := HR.out; omega) (by omega)).mono ?_
        rintro x w9 ⟨rfl, hl, hk⟩
        have HL9 := Aside0.mk hl
        have HK9 := Aside0.mk (HK3.out.trans hk)
        have hg := (HK9.out.block w.heap.size (by simp) (by have := HB.out; omega)).trans HG.out
        obtain ⟨⟨n0, n1, n2, n3, n4, n5⟩, y0, y1, y2, y3, y4, y5⟩ := cells6 hg
        clear hl hk hg
        go_wp2
        refine bodyPost_ret (v := .tuple #[tokV s 9 p q c cq, .nilIface]) ?_ rfl ?_
        · unfold tokV
          simp [results]
          go_simp
        · refine ⟨rfl, ⟨wdt s q, ?_⟩, ?_⟩
          · iterate 6 refine LexAt.farB hne ?_
            exact HL9.out
          · iterate 6 refine Kept.farB (Nat.le_refl _) HB.out ?_
            exact HW.out.trans HK9.out
      | false =>
        rw [hres] at R
        obtain ⟨f, rfl⟩ : ∃ f, fuel = f + 1 := ⟨fuel - 1, by have := HR.out; omega⟩
        have hEq := HR.out.1
        rw [unqE_step hq hres] at hEq
        have HR2 := Aside0.mk (show unqE s f (q + wdt s q) (cq + 1) = (E, CE) ∧ s.size ≤ q + wdt s q + f ∧ p ≤ q + wdt s q ∧ q + wdt s q ≤ s.size ∧ cq + 1 ≤ q + wdt s q from ⟨hEq, by have := HR.out; have := HA.out; omega, by have := HR.out; omega, HA.out.1, by have := HR.out; have := HA.out; omega⟩)
        clear hres HL hEq
        go_wp2_with fail
        refine R.out.mono ?_
        rintro x w2 ⟨rfl, hb⟩
        have HL2 := Aside0.mk (HLq.out.below hb HLq.out.lt)
        have HK2 := Aside0.mk (HK.out.trans (Kept.of_below hb HLq.out.lt))
        clear hb
        go_wp2_with fail
        refine (next_calls (HX.out.kept HK2.out) HL2.out HS.out.1 HR2.out.2.2.2.2).mono ?_
        rintro x w3 ⟨rfl, hl, hk⟩
        have HL3 := Aside0.mk hl
        have HK3 := Aside0.mk (HK2.out.trans hk)
        clear hl hk
        go_wp2
        go_roundw
        case rel => exact ⟨q + wdt s q, cq + 1, f, rfl, HR2, HL3, HK3⟩
        case measure =>
          rw [posAt_of HLq.out, posAt_of HL3.out]
          have h1 := HA.out
          by_cases hq2 : q + wdt s q < s.size
          · rw [nP_t hq2, nR_t hq2]
            have h2 := adv_pos s (q + wdt s q)
            simp [RowKit.intOf] <;> omega
          · rw [nP_f hq2, nR_f hq2]
            simp [RowKit.intOf] <;> omega
    · have hEq := HR.out.1
      rw [unqE_stop (fun h => hq h.1)] at hEq
      injection hEq with e1 e2
      subst e1 e2
      have HLq := Aside0.mk (show LexAt wr B o s e p q 0 c cq by have := HL.out; rw [nP_f hq, nW_f hq, nC_f hq] at this; exact this)
      rw [nR_f hq]
      clear HL
      go_wp2_with fail
      refine (emit_calls 9 HLq.out (by have := HR.out; omega) (by have := HR.out; omega)).mono ?_
      rintro x w9 ⟨rfl, hl, hk⟩
      have HL9 := Aside0.mk hl
      have HK9 := Aside0.mk (HK.out.trans hk)
      have hg := (HK9.out.block w.heap.size (by simp) (by have := HB.out; omega)).trans HG.out
      obtain ⟨⟨n0, n1, n2, n3, n4, n5⟩, y0, y1, y2, y3, y4, y5⟩ := cells6 hg
      clear hl hk hg
      go_wp2
      refine bodyPost_ret (v := .tuple #[tokV s 9 p q c cq, .nilIface]) ?_ rfl ?_
      · unfold tokV
        simp [results]
        go_simp
      · refine ⟨rfl, ⟨0, ?_⟩, ?_⟩
        · iterate 6 refine LexAt.farB hne ?_
          exact HL9.out
        · iterate 6 refine Kept.farB (Nat.le_refl _) HB.out ?_
          exact HW.out.trans HK9.out
end
end Go.Proofs.YtmjoebnphacadaaGreatDoor.Lex
/- parse.lexer: scanQuoted (printed by wip/tools/gen_quo.py). -/
namespace Go.Proofs.YtmjoebnphacadaaGreatDoor.Lex
open Go.RowKit Go.Lib Go.Proofs.YtmjoebnphacadaaGreatDoorW.PrintWords Go.Proofs.YtmjoebnphacadaaGreatDoorW.PrintLast
set_option linter.unusedVariables false
set_option linter.unusedSimpArgs false
def qB : ByteArray := ⟨#[34]⟩
/-- The closing quote of a quoted part: its place, its column. -/
def quoE (s : ByteArray) : Nat → Bool → Nat → Nat → Option (Nat × Nat)
  | 0, _, _, _ => none
  | f + 1, esc, p, c =>
    if p < s.size then
      (if esc = true then quoE s f false (p + wdt s p) (c + 1)
      else if rn s p = 92 then quoE s f true (p + wdt s p) (c + 1)
      else if rn s p = 34 then some (p, c)
      else quoE s f false (p + wdt s p) (c + 1))
    else none
theorem quoE_end {s : ByteArray} {f : Nat} {esc : Bool} {p c : Nat} (h : ¬ p < s.size) : quoE s f esc p c = none := by
  cases f with
  | zero => rfl
  | succ f => exact if_neg h
theorem quoE_esc {s : ByteArray} {f p c : Nat} (h : p < s.size) : quoE s (f + 1) true p c = quoE s f false (p + wdt s p) (c + 1) := (if_pos h).trans (if_pos rfl)
theorem quoE_back {s : ByteArray} {f p c : Nat} (h : p < s.size) (h2 : rn s p = 92) : quoE s (f + 1) false p c = quoE s f true (p + wdt s p) (c + 1) := (if_pos h).trans ((if_neg (by decide)).trans (if_pos h2))
theorem quoE_quote {s : ByteArray} {f p c : Nat} (h : p < s.size) (h2 : rn s p = 34) : quoE s (f + 1) false p c = some (p, c) := (if_pos h).trans ((if_neg (by decide)).trans ((if_neg (by omega)).trans (if_pos h2)))
theorem quoE_more {s : ByteArray} {f p c : Nat} (h : p < s.size) (h2 : ¬ rn s p = 92) (h3 : ¬ rn s p = 34) : quoE s (f + 1) false p c = quoE s f false (p + wdt s p) (c + 1) := (if_pos h).trans ((if_neg (by decide)).trans ((if_neg h2).trans (if_neg h3)))
theorem zz_quote : decide (zzIdx qB 34 ≥ 0) = true := by decide +kernel
theorem acc_quote {s : ByteArray} {p : Nat} (h : p < s.size) (h2 : rn s p = 34) : accB s qB p = true := by
  unfold accB
  rw [decide_eq_true h, Bool.true_and, h2]
  exact zz_quote
theorem acc_end {s v : ByteArray} {p : Nat} (h : ¬ p < s.size) : accB s v p = false := by
  unfold accB
  rw [decide_eq_false h, Bool.false_and]
section
variable {w : World} {B o : Nat} {s : ByteArray} {e : Value} {p wd c : Nat}
set_option maxHeartbeats 3200000 in
set_option maxRecDepth 100000 in
theorem quoted_ok {w0 : World} (hX : Cx w0 w B) (h : LexAt w B o s e p p wd c c) (hs : s.size ≤ 2147483647) (hp : p ≤ s.size) (hc : c ≤ p) (h1 : accB s qB p = true) (E CE : Nat) (hE : quoE s s.size false (p + wdt s p) (c + 1) = some (E, CE)) :
    Calls Tryz.prog 51 #[.pointer (some ⟨B, o, none⟩)] w fun x w' => x = .returned (.tuple #[tokV s 8 p (E + wdt s E) c (CE + 1), .nilIface]) ∧ (∃ wd', LexAt w' B o s e (E + wdt s E) (E + wdt s E) wd' (CE + 1) (CE + 1)) ∧ Kept B o w w' := by
  have HB := Aside0.mk h.lt
  have HX := Aside0.mk (hX.kept (Kept.alloc (Kept.refl B o w) h.lt (.cells #[.int .i64 0, .string ⟨#[]⟩, .int .i64 0, .int .i64 0, .int .i64 0, .int .i64 0] 88)))
  have HL0 := Aside0.mk (h.alloc (.cells #[.int .i64 0, .string ⟨#[]⟩, .int .i64 0, .int .i64 0, .int .i64 0, .int .i64 0] 88))
  have HS := Aside0.mk (And.intro hs (And.intro hp hc))
  have HG := Aside0.mk (heap_alloc_new w (.cells #[.int .i64 0, .string ⟨#[]⟩, .int .i64 0, .int .i64 0, .int .i64 0, .int .i64 0] 88))
  have HW := Aside0.mk (show Kept B o w (w.alloc (.cells #[.int .i64 0, .string ⟨#[]⟩, .int .i64 0, .int .i64 0, .int .i64 0, .int .i64 0] 88)) from Kept.alloc (Kept.refl B o w) h.lt _)
  have HE := Aside0.mk hE
  have A0 := Aside0.mk (acc_le h1)
  have E0 := Aside0.mk h1
  clear hX h hs hp hc hE h1
  have hne : w.heap.size ≠ B := by have := HB.out; omega
  have hne' : B ≠ w.heap.size := fun e => hne e.symm
  go_enter Tryz.func51, Tryz.ntmps51
  go_wp2_with fail
  have C := expect_calls HX.out HL0.out qB (by decide) HS.out.1 HS.out.2.1 HS.out.2.2
  rw [E0.out] at C
  refine C.mono ?_
  clear C
  rintro x w1 ⟨⟨r, rfl, hr⟩, ⟨wd1, hl⟩, hk⟩
  obtain rfl := hr.1 rfl
  have HL1 := Aside0.mk (show LexAt w1 B o s e p (p + wdt s p) wd1 c (c + 1) from hl)
  have HK1 := Aside0.mk hk
  clear hl hk hr
  go_wp2_with fail
  refine (next_calls (HX.out.kept HK1.out) HL1.out HS.out.1 (by have := HS.out; have := A0.out; omega)).mono ?_
  rintro x w2 ⟨rfl, hl, hk⟩
  have HL2 := Aside0.mk hl
  have HK2 := Aside0.mk (HK1.out.trans hk)
  clear hl hk
  go_wp2
  go_loopw [5, 6] (fun v5 v6 wr => ∃ (q cq fuel : Nat) (esc : Bool), v5 = .bool esc ∧ v6 = .int .i32 (nR s q) ∧ Aside0 (quoE s fuel esc q cq = some (E, CE) ∧ s.size ≤ q + fuel ∧ p ≤ q ∧ q ≤ s.size ∧ cq ≤ q) ∧ Aside0 (LexAt wr B o s e p (nP s q) (nW s q) c (nC s q cq)) ∧ Aside0 (Kept B o (w.alloc (.cells #[.int .i64 0, .string ⟨#[]⟩, .int .i64 0, .int .i64 0, .int .i64 0, .int .i64 0] 88)) wr)) (fun _ v6 wr => 2 * (s.size - posAt wr B o) + (if RowKit.intOf v6 = -1 then 0 else 1))
  case atStart => exact ⟨p + wdt s p, c + 1, s.size, false, rfl, rfl, ⟨HE.out, by omega, by omega, A0.out.1, by have := HS.out; have := A0.out; omega⟩, HL2, HK2⟩
  case round =>
    obtain ⟨q, cq, fuel, esc, rfl, rfl, HR, HL, HK⟩ := hrel
    by_cases hq : q < s.size
    · have hle := adv_le s q hq
      have hpos := adv_pos s q
      have HA := Aside0.mk (And.intro hle hpos)
      have hne1 : ((nR s q : Int) != -1) = true := by rw [nR_t hq]; simp <;> omega
      rw [nR_t hq] at hne1 ⊢
      have HLq := Aside0.mk (show LexAt wr B o s e p (q + wdt s q) (wdt s q) c (cq + 1) by have := HL.out; rw [nP_t hq, nW_t hq, nC_t hq] at this; exact this)
      have N := Aside0.mk (next_calls (HX.out.kept HK.out) HLq.out HS.out.1 (by have := HR.out; omega))
      obtain ⟨f, rfl⟩ : ∃ f, fuel = f + 1 := ⟨fuel - 1, by have := HR.out; omega⟩
      have hEq := HR.out.1
      clear hle hpos HL
      cases esc with
      | true =>
        rw [quoE_esc hq] at hEq
        have HR2 := Aside0.mk (show quoE s f false (q + wdt s q) (cq + 1) = some (E, CE) ∧ s.size ≤ q + wdt s q + f ∧ p ≤ q + wdt s q ∧ q + wdt s q ≤ s.size ∧ cq + 1 ≤ q + wdt s q from ⟨hEq, by have := HR.out; have := HA.out; omega, by have := HR.out; omega, HA.out.1, by have := HR.out; have := HA.out; omega⟩)
        clear hEq
        go_wp2_with fail
        refine N.out.mono ?_
        rintro x w3 ⟨rfl, hl, hk⟩
        have HL3 := Aside0.mk hl
        have HK3 := Aside0.mk (HK.out.trans hk)
        clear hl hk
        go_wp2
        go_roundw
        case rel => exact ⟨q + wdt s q, cq + 1, f, false, rfl, rfl, HR2, HL3, HK3⟩
        case measure =>
          rw [posAt_of HLq.out, posAt_of HL3.out]
          have h1 := HA.out
          by_cases hq2 : q + wdt s q < s.size
          · rw [nP_t hq2, nR_t hq2]
            have h2 := adv_pos s (q + wdt s q)
            simp [RowKit.intOf] <;> omega
          · rw [nP_f hq2, nR_f hq2]
            simp [RowKit.intOf] <;> omega
      | false =>
        by_cases h92 : rn s q = 92
        · have b92 : (((rn s q : Nat) : Int) == 92) = true := by simp; omega
          rw [quoE_back hq h92] at hEq
          have HR2 := Aside0.mk (show quoE s f true (q + wdt s q) (cq + 1) = some (E, CE) ∧ s.size ≤ q + wdt s q + f ∧ p ≤ q + wdt s q ∧ q + wdt s q ≤ s.size ∧ cq + 1 ≤ q + wdt s q from ⟨hEq, by have := HR.out; have := HA.out; omega, by have := HR.out; omega, HA.out.1, by have := HR.out; have := HA.out; omega⟩)
          clear hEq
          go_wp2_with fail
          refine N.out.mono ?_
          rintro x w3 ⟨rfl, hl, hk⟩
          have HL3 := Aside0.mk hl
          have HK3 := Aside0.mk (HK.out.trans hk)
          clear hl hk
          go_wp2
          go_roundw
          case rel => exact ⟨q + wdt s q, cq + 1, f, true, rfl, rfl, HR2, HL3, HK3⟩
          case measure =>
            rw [posAt_of HLq.out, posAt_of HL3.out]
            have h1 := HA.out
            by_cases hq2 : q + wdt s q < s.size
            · rw [nP_t hq2, nR_t hq2]
              have h2 := adv_pos s (q + wdt s q)
              simp [RowKit.intOf] <;> omega
            · rw [nP_f hq2, nR_f hq2]
              simp [RowKit.intOf] <;> omega
        · have b92 : (((rn s q : Nat) : Int) == 92) = false := by simp; omega
          by_cases h34 : rn s q = 34
          · have b34 : (((rn s q : Nat) : Int) == 34) = true := by simp; omega
            rw [quoE_quote hq h34] at hEq
            have hEq2 := Option.some.inj hEq
            injection hEq2 with e1 e2
            subst e1 e2
            have EQ := Aside0.mk (acc_quote hq h34)
            clear hEq h34 h92
            go_wp2_with fail
            refine (rewind_calls HLq.out (by omega) (by have := HA.out; have := HS.out; omega) (Or.inl (by omega)) (by have := HA.out; have := HS.out; have := HR.out; omega)).mono ?_
            rintro x w3 ⟨rfl, hl, hk⟩
            have e1 : q + wdt s q - wdt s q = q := by omega
            have e2 : (if wdt s q = 0 then cq + 1 else cq + 1 - 1) = cq := by rw [if_neg (by have := HA.out; omega)]; omega
            rw [e1, e2] at hl
            have HL3 := Aside0.mk hl
            have HK3 := Aside0.mk (HK.out.trans hk)
            clear hl hk e1 e2
            go_wp2_with fail
            have C := expect_calls (HX.out.kept HK3.out) HL3.out qB (by decide) HS.out.1 (by have := HR.out; omega) (by have := HR.out; omega)
            rw [EQ.out] at C
            refine C.mono ?_
            clear C
            rintro x w4 ⟨⟨r, rfl, hr⟩, ⟨wd4, hl⟩, hk⟩
            obtain rfl := hr.1 rfl
            have HL4 := Aside0.mk (show LexAt w4 B o s e p (q + wdt s q) wd4 c (cq + 1) from hl)
            have HK4 := Aside0.mk (HK3.out.trans hk)
            clear hl hk hr
            go_wp2_with fail
            refine (emit_calls 8 HL4.out (by have := HR.out; omega) HA.out.1).mono ?_
            rintro x w9 ⟨rfl, hl, hk⟩
            have HL9 := Aside0.mk hl
            have HK9 := Aside0.mk (HK4.out.trans hk)
            have hg := (HK9.out.block w.heap.size (by simp) (by have := HB.out; omega)).trans HG.out
            obtain ⟨⟨n0, n1, n2, n3, n4, n5⟩, y0, y1, y2, y3, y4, y5⟩ := cells6 hg
            clear hl hk hg
            go_wp2
            refine bodyPost_ret (v := .tuple #[tokV s 8 p (q + wdt s q) c (cq + 1), .nilIface]) ?_ rfl ?_
            · unfold tokV
              simp [results]
              go_simp
            · refine ⟨rfl, ⟨wd4, ?_⟩, ?_⟩
              · iterate 6 refine LexAt.farB hne ?_
                exact HL9.out
              · iterate 6 refine Kept.farB (Nat.le_refl _) HB.out ?_
                exact HW.out.trans HK9.out
          · have b34 : (((rn s q : Nat) : Int) == 34) = false := by simp; omega
            rw [quoE_more hq h92 h34] at hEq
            have HR2 := Aside0.mk (show quoE s f false (q + wdt s q) (cq + 1) = some (E, CE) ∧ s.size ≤ q + wdt s q + f ∧ p ≤ q + wdt s q ∧ q + wdt s q ≤ s.size ∧ cq + 1 ≤ q + wdt s q from ⟨hEq, by have := HR.out; have := HA.out; omega, by have := HR.out; omega, HA.out.1, by have := HR.out; have := HA.out; omega⟩)
            clear hEq
            go_wp2_with fail
            refine N.out.mono ?_
            rintro x w3 ⟨rfl, hl, hk⟩
            have HL3 := Aside0.mk hl
            have HK3 := Aside0.mk (HK.out.trans hk)
            clear hl hk
            go_wp2
            go_roundw
            case rel => exact ⟨q + wdt s q, cq + 1, f, false, rfl, rfl, HR2, HL3, HK3⟩
            case measure =>
              rw [posAt_of HLq.out, posAt_of HL3.out]
              have h1 := HA.out
              by_cases hq2 : q + wdt s q < s.size
              · rw [nP_t hq2, nR_t hq2]
                have h2 := adv_pos s (q + wdt s q)
                simp [RowKit.intOf] <;> omega
              · rw [nP_f hq2, nR_f hq2]
                simp [RowKit.intOf] <;> omega
    · exact absurd (HR.out.1.symm.trans (quoE_end hq)) (by simp)
set_option maxHeartbeats 3200000 in
set_option maxRecDepth 100000 in
theorem quoted_bad {w0 : World} (hX : Cx w0 w B) (h : LexAt w B o s e p p wd c c) (hs : s.size ≤ 2147483647) (hp : p ≤ s.size) (hc : c ≤ p) (h1 : accB s qB p = true) (hE : quoE s s.size false (p + wdt s p) (c + 1) = none) :
    Calls Tryz.prog 51 #[.pointer (some ⟨B, o, none⟩)] w fun x w' => (∃ r, x = .returned (.tuple #[noTok, r]) ∧ LexErr r) ∧ (∃ a' p' wd' ca' c', LexAt w' B o s e a' p' wd' ca' c') ∧ Kept B o w w' := by
  have HB := Aside0.mk h.lt
  have HX := Aside0.mk (hX.kept (Kept.alloc (Kept.refl B o w) h.lt (.cells #[.int .i64 0, .string ⟨#[]⟩, .int .i64 0, .int .i64 0, .int .i64 0, .int .i64 0] 88)))
  have HL0 := Aside0.mk (h.alloc (.cells #[.int .i64 0, .string ⟨#[]⟩, .int .i64 0, .int .i64 0, .int .i64 0, .int .i64 0] 88))
  have HS := Aside0.mk (And.intro hs (And.intro hp hc))
  have HG := Aside0.mk (heap_alloc_new w (.cells #[.int .i64 0, .string ⟨#[]⟩, .int .i64 0, .int .i64 0, .int .i64 0, .int .i64 0] 88))
  have HW := Aside0.mk (show Kept B o w (w.alloc (.cells #[.int .i64 0, .string ⟨#[]⟩, .int .i64 0, .int .i64 0, .int .i64 0, .int .i64 0] 88)) from Kept.alloc (Kept.refl B o w) h.lt _)
  have HE := Aside0.mk hE
  have A0 := Aside0.mk (acc_le h1)
  have E0 := Aside0.mk h1
  clear hX h hs hp hc hE h1
  have hne : w.heap.size ≠ B := by have := HB.out; omega
  have hne' : B ≠ w.heap.size := fun e => hne e.symm
  go_enter Tryz.func51, Tryz.ntmps51
  go_wp2_with fail
  have C := expect_calls HX.out HL0.out qB (by decide) HS.out.1 HS.out.2.1 HS.out.2.2
  rw [E0.out] at C
  refine C.mono ?_
  clear C
  rintro x w1 ⟨⟨r, rfl, hr⟩, ⟨wd1, hl⟩, hk⟩
  obtain rfl := hr.1 rfl
  have HL1 := Aside0.mk (show LexAt w1 B o s e p (p + wdt s p) wd1 c (c + 1) from hl)
  have HK1 := Aside0.mk hk
  clear hl hk hr
  go_wp2_with fail
  refine (next_calls (HX.out.kept HK1.out) HL1.out HS.out.1 (by have := HS.out; have := A0.out; omega)).mono ?_
  rintro x w2 ⟨rfl, hl, hk⟩
  have HL2 := Aside0.mk hl
  have HK2 := Aside0.mk (HK1.out.trans hk)
  clear hl hk
  go_wp2
  go_loopw [5, 6] (fun v5 v6 wr => ∃ (q cq fuel : Nat) (esc : Bool), v5 = .bool esc ∧ v6 = .int .i32 (nR s q) ∧ Aside0 (quoE s fuel esc q cq = none ∧ s.size ≤ q + fuel ∧ p ≤ q ∧ q ≤ s.size ∧ cq ≤ q) ∧ Aside0 (LexAt wr B o s e p (nP s q) (nW s q) c (nC s q cq)) ∧ Aside0 (Kept B o (w.alloc (.cells #[.int .i64 0, .string ⟨#[]⟩, .int .i64 0, .int .i64 0, .int .i64 0, .int .i64 0] 88)) wr)) (fun _ v6 wr => 2 * (s.size - posAt wr B o) + (if RowKit.intOf v6 = -1 then 0 else 1))
  case atStart => exact ⟨p + wdt s p, c + 1, s.size, false, rfl, rfl, ⟨HE.out, by omega, by omega, A0.out.1, by have := HS.out; have := A0.out; omega⟩, HL2, HK2⟩
  case round =>
    obtain ⟨q, cq, fuel, esc, rfl, rfl, HR, HL, HK⟩ := hrel
    by_cases hq : q < s.size
    · have hle := adv_le s q hq
      have hpos := adv_pos s q
      have HA := Aside0.mk (And.intro hle hpos)
      have hne1 : ((nR s q : Int) != -1) = true := by rw [nR_t hq]; simp <;> omega
      rw [nR_t hq] at hne1 ⊢
      have HLq := Aside0.mk (show LexAt wr B o s e p (q + wdt s q) (wdt s q) c (cq + 1) by have := HL.out; rw [nP_t hq, nW_t hq, nC_t hq] at this; exact this)
      have N := Aside0.mk (next_calls (HX.out.kept HK.out) HLq.out HS.out.1 (by have := HR.out; omega))
      obtain ⟨f, rfl⟩ : ∃ f, fuel = f + 1 := ⟨fuel - 1, by have := HR.out; omega⟩
      have hEq := HR.out.1
      clear hle hpos HL
      cases esc with
      | true =>
        rw [quoE_esc hq] at hEq
        have HR2 := Aside0.mk (show quoE s f false (q + wdt s q) (cq + 1) = none ∧ s.size ≤ q + wdt s q + f ∧ p ≤ q + wdt s q ∧ q + wdt s q ≤ s.size ∧ cq + 1 ≤ q + wdt s q from ⟨hEq, by have := HR.out; have := HA.out; omega, by have := HR.out; omega, HA.out.1, by have := HR.out; have := HA.out; omega⟩)
        clear hEq
        go_wp2_with fail
        refine N.out.mono ?_
        rintro x w3 ⟨rfl, hl, hk⟩
        have HL3 := Aside0.mk hl
        have HK3 := Aside0.mk (HK.out.trans hk)
        clear hl hk
        go_wp2
        go_roundw
        case rel => exact ⟨q + wdt s q, cq + 1, f, false, rfl, rfl, HR2, HL3, HK3⟩
        case measure =>
          rw [posAt_of HLq.out, posAt_of HL3.out]
          have h1 := HA.out
          by_cases hq2 : q + wdt s q < s.size
          · rw [nP_t hq2, nR_t hq2]
            have h2 := adv_pos s (q + wdt s q)
            simp [RowKit.intOf] <;> omega
          · rw [nP_f hq2, nR_f hq2]
            simp [RowKit.intOf] <;> omega
      | false =>
        by_cases h92 : rn s q = 92
        · have b92 : (((rn s q : Nat) : Int) == 92) = true := by simp; omega
          rw [quoE_back hq h92] at hEq
          have HR2 := Aside0.mk (show quoE s f true (q + wdt s q) (cq + 1) = none ∧ s.size ≤ q + wdt s q + f ∧ p ≤ q + wdt s q ∧ q + wdt s q ≤ s.size ∧ cq + 1 ≤ q + wdt s q from ⟨hEq, by have := HR.out; have := HA.out; omega, by have := HR.out; omega, HA.out.1, by have := HR.out; have := HA.out; omega⟩)
          clear hEq
          go_wp2_with fail
          refine N.out.mono ?_
          rintro x w3 ⟨rfl, hl, hk⟩
          have HL3 := Aside0.mk hl
          have HK3 := Aside0.mk (HK.out.trans hk)
          clear hl hk
          go_wp2
          go_roundw
          case rel => exact ⟨q + wdt s q, cq + 1, f, true, rfl, rfl, HR2, HL3, HK3⟩
          case measure =>
            rw [posAt_of HLq.out, posAt_of HL3.out]
            have h1 := HA.out
            by_cases hq2 : q + wdt s q < s.size
            · rw [nP_t hq2, nR_t hq2]
              have h2 := adv_pos s (q + wdt s q)
              simp [RowKit.intOf] <;> omega
            · rw [nP_f hq2, nR_f hq2]
              simp [RowKit.intOf] <;> omega
        · have b92 : (((rn s q : Nat) : Int) == 92) = false := by simp; omega
          by_cases h34 : rn s q = 34
          · exact absurd (hEq.symm.trans (quoE_quote hq h34)) (by simp)
          · have b34 : (((rn s q : Nat) : Int) == 34) = false := by simp; omega
            rw [quoE_more hq h92 h34] at hEq
            have HR2 := Aside0.mk (show quoE s f false (q + wdt s q) (cq + 1) = none ∧ s.size ≤ q + wdt s q + f ∧ p ≤ q + wdt s q ∧ q + wdt s q ≤ s.size ∧ cq + 1 ≤ q + wdt s q from ⟨hEq, by have := HR.out; have := HA.out; omega, by have := HR.out; omega, HA.out.1, by have := HR.out; have := HA.out; omega⟩)
            clear hEq
            go_wp2_with fail
            refine N.out.mono ?_
            rintro x w3 ⟨rfl, hl, hk⟩
            have HL3 := Aside0.mk hl
            have HK3 := Aside0.mk (HK.out.trans hk)
            clear hl hk
            go_wp2
            go_roundw
            case rel => exact ⟨q + wdt s q, cq + 1, f, false, rfl, rfl, HR2, HL3, HK3⟩
            case measure =>
              rw [posAt_of HLq.out, posAt_of HL3.out]
              have h1 := HA.out
              by_cases hq2 : q + wdt s q < s.size
              · rw [nP_t hq2, nR_t hq2]
                have h2 := adv_pos s (q + wdt s q)
                simp [RowKit.intOf] <;> omega
              · rw [nP_f hq2, nR_f hq2]
                simp [RowKit.intOf] <;> omega
    · have HLq := Aside0.mk (show LexAt wr B o s e p q 0 c cq by have := HL.out; rw [nP_f hq, nW_f hq, nC_f hq] at this; exact this)
      rw [nR_f hq]
      have EQ := Aside0.mk (acc_end (v := qB) hq)
      clear HL
      go_wp2_with fail
      have C := expect_calls (HX.out.kept HK.out) HLq.out qB (by decide) HS.out.1 (by have := HR.out; omega) (by have := HR.out; omega)
      rw [EQ.out] at C
      refine C.mono ?_
      clear C
      rintro x w4 ⟨⟨r, rfl, hr⟩, ⟨wd4, hl⟩, hk⟩
      obtain ⟨T, cs, rfl, hT⟩ := hr.2 rfl
      have HL4 := Aside0.mk (show LexAt w4 B o s e p q wd4 c cq from hl)
      have HK4 := Aside0.mk (HK.out.trans hk)
      clear hl hk hr hT
      have hg := (HK4.out.block w.heap.size (by simp) (by have := HB.out; omega)).trans HG.out
      have CS := Aside0.mk (show ∀ W, Below w4.heap.size w4 W → LexAt W B o s e p q wd4 c cq from fun W hb => HL4.out.below hb HL4.out.lt)
      have GS := Aside0.mk (show ∀ W, Below w4.heap.size w4 W → _ from fun W hb => (hb.block w.heap.size (by have := HK4.out.size; simp at this; omega)).trans hg)
      have c0 := HL4.out.c0
      obtain ⟨⟨n0, n1, n2, n3, n4, n5⟩, y0, y1, y2, y3, y4, y5⟩ := cells6 hg
      clear hg
      go_wp2_with fail
      go_region_held3 (fun w' => w'.cell? ⟨B, o, none⟩ = some (.string s)) (go_keep) (first
        | (go_at_call 56; refine (position_calls (CS.out _ (by repeat (first | exact Below.refl _ _ | apply below_drew1 | apply pw_below_drewN)))).mono ?_; rintro x w8 ⟨rfl, hb⟩; have HB4 := Aside0.mk (below_step (w := w4) (by repeat (first | exact Below.refl _ _ | apply below_drew1 | apply pw_below_drewN)) hb); clear hb c0 n0 n1 n2 n3 n4 n5 y0 y1 y2 y3 y4 y5; have H4 := Aside0.mk (CS.out _ HB4.out); have c0 := H4.out.c0; obtain ⟨⟨n0, n1, n2, n3, n4, n5⟩, y0, y1, y2, y3, y4, y5⟩ := cells6 (GS.out _ HB4.out)))
      go_wp2
      refine bodyPost_ret (v := .tuple #[noTok, .iface 125 (.agg #[.int .i64 (p : Int), .int .i64 (q : Int), .int .i64 (c : Int), .int .i64 (cq : Int), .string s, .int .i32 34])]) ?_ rfl ?_
      · unfold noTok
        simp [results]
        go_simp
      · refine ⟨⟨_, rfl, ⟨_, _, rfl, Or.inr (Or.inr rfl)⟩⟩, ⟨p, q, wd4, c, cq, ?_⟩, ?_⟩
        · iterate 6 refine LexAt.farB hne ?_
          exact H4.out
        · iterate 6 refine Kept.farB (Nat.le_refl _) HB.out ?_
          exact HW.out.trans (HK4.out.trans (Kept.of_below HB4.out HL4.out.lt))
end
end Go.Proofs.YtmjoebnphacadaaGreatDoor.Lex
/- parse.lexer: scan (printed by wip/tools/gen_scan.py). -/
namespace Go.Proofs.YtmjoebnphacadaaGreatDoor.Lex
open Go.RowKit Go.Lib Go.Proofs.YtmjoebnphacadaaGreatDoorW.PrintWords Go.Proofs.YtmjoebnphacadaaGreatDoorW.PrintLast
set_option linter.unusedVariables false
set_option linter.unusedSimpArgs false
/-- What a scan finds: the end of the text, no token, or a token: its kind, its begin and its end in bytes, then in runes. -/
inductive TR
  | eof (p c : Nat)
  | bad
  | tok (k a e ca ce : Nat)
/-- The operator at a place. -/
def opR (s : ByteArray) (p c : Nat) : TR :=
  if accB s xB p = true then
    (if accB s eB (p + wdt s p) = true then .tok 5 p (p + wdt s p + wdt s (p + wdt s p)) c (c + 2) else if accB s tB (p + wdt s p) = true then .tok 7 p (p + wdt s p + wdt s (p + wdt s p)) c (c + 2) else .bad)
  else if accB s eB p = true then
    (if accB s tB (p + wdt s p) = true then .tok 6 p (p + wdt s p + wdt s (p + wdt s p)) c (c + 2) else .tok 4 p (p + wdt s p) c (c + 1))
  else .bad
def quoR (s : ByteArray) (p c : Nat) : TR := match quoE s s.size false (p + wdt s p) (c + 1) with | some (E, CE) => .tok 8 p (E + wdt s E) c (CE + 1) | none => .bad
def unqR (s : ByteArray) (p c : Nat) : TR := .tok 9 p (unqE s s.size p c).1 c (unqE s s.size p c).2
/-- The next token from a place on. -/
def scanE (s : ByteArray) : Nat → Nat → Nat → TR
  | 0, p, c => .eof p c
  | f + 1, p, c =>
    if p < s.size then
      (if rn s p = 123 then .tok 1 p (p + wdt s p) c (c + 1)
      else if rn s p = 125 then .tok 2 p (p + wdt s p) c (c + 1)
      else if rn s p = 44 then .tok 3 p (p + wdt s p) c (c + 1)
      else if rn s p = 61 ∨ rn s p = 33 then opR s p c
      else if rn s p = 34 then quoR s p c
      else if resR (rn s p) = false then unqR s p c
      else if Lib.isSpaceZ (rn s p) = true then scanE s f (p + wdt s p) (c + 1)
      else .bad)
    else .eof p c
theorem scanE_end {s : ByteArray} {f p c : Nat} (h : ¬ p < s.size) : scanE s f p c = .eof p c := by
  cases f with
  | zero => rfl
  | succ f => exact if_neg h
/-- What the lexer has done behind a scan. -/
def SPost (w : World) (B o : Nat) (s : ByteArray) (R : TR) (x : Ending) (w' : World) : Prop := Kept B o w w' ∧ match R with
  | .tok k a E ca CE => x = .returned (.tuple #[tokV s k a E ca CE, .nilIface]) ∧ ∃ wd', LexAt w' B o s .nilIface E E wd' CE CE
  | .eof q cq => x = .returned (.tuple #[noTok, .nilIface]) ∧ ∃ wd', LexAt w' B o s .nilIface q q wd' cq cq
  | .bad => ∃ r, x = .returned (.tuple #[noTok, r]) ∧ LexErr r ∧ ∃ a p wd ca c, LexAt w' B o s r a p wd ca c
/-- What a part of a scan has done. -/
def OPost (w : World) (B o : Nat) (s : ByteArray) (e : Value) (R : TR) (x : Ending) (w' : World) : Prop := Kept B o w w' ∧ match R with
  | .tok k a E ca CE => x = .returned (.tuple #[tokV s k a E ca CE, .nilIface]) ∧ ∃ wd', LexAt w' B o s e E E wd' CE CE
  | .eof q cq => False
  | .bad => (∃ r, x = .returned (.tuple #[noTok, r]) ∧ LexErr r) ∧ ∃ a p wd ca c, LexAt w' B o s e a p wd ca c
section
variable {w : World} {B o : Nat} {s : ByteArray} {p wd c : Nat}
theorem oper_calls {w0 : World} {e : Value} (hX : Cx w0 w B) (h : LexAt w B o s e p p wd c c) (hs : s.size ≤ 2147483647) (hp : p ≤ s.size) (hc : c ≤ p) :
    Calls Tryz.prog 50 #[.pointer (some ⟨B, o, none⟩)] w (OPost w B o s e (opR s p c)) := by
  unfold opR
  cases h1 : accB s xB p with
  | true =>
    rw [if_pos rfl]
    cases h2 : accB s eB (p + wdt s p) with
    | true => rw [if_pos rfl]; exact (oper_five hX h hs hp hc h1 h2).mono fun x w' hh => ⟨hh.2.2, hh.1, hh.2.1⟩
    | false =>
      rw [if_neg (by decide)]
      cases h3 : accB s tB (p + wdt s p) with
      | true => rw [if_pos rfl]; exact (oper_seven hX h hs hp hc h1 h2 h3).mono fun x w' hh => ⟨hh.2.2, hh.1, hh.2.1⟩
      | false => rw [if_neg (by decide)]; exact (oper_bad1 hX h hs hp hc h1 h2 h3).mono fun x w' hh => ⟨hh.2.2, hh.1, hh.2.1⟩
  | false =>
    rw [if_neg (by decide)]
    cases h2 : accB s eB p with
    | true =>
      rw [if_pos rfl]
      cases h3 : accB s tB (p + wdt s p) with
      | true => rw [if_pos rfl]; exact (oper_six hX h hs hp hc h1 h2 h3).mono fun x w' hh => ⟨hh.2.2, hh.1, hh.2.1⟩
      | false => rw [if_neg (by decide)]; exact (oper_four hX h hs hp hc h1 h2 h3).mono fun x w' hh => ⟨hh.2.2, hh.1, hh.2.1⟩
    | false => rw [if_neg (by decide)]; exact (oper_bad2 hX h hs hp hc h1 h2).mono fun x w' hh => ⟨hh.2.2, hh.1, hh.2.1⟩
theorem quoted_calls {w0 : World} {e : Value} (hX : Cx w0 w B) (h : LexAt w B o s e p p wd c c) (hs : s.size ≤ 2147483647) (hp : p ≤ s.size) (hc : c ≤ p) (h1 : accB s qB p = true) :
    Calls Tryz.prog 51 #[.pointer (some ⟨B, o, none⟩)] w (OPost w B o s e (quoR s p c)) := by
  unfold quoR
  cases hE : quoE s s.size false (p + wdt s p) (c + 1) with
  | none => exact (quoted_bad hX h hs hp hc h1 hE).mono fun x w' hh => ⟨hh.2.2, hh.1, hh.2.1⟩
  | some r => exact (quoted_ok hX h hs hp hc h1 r.1 r.2 hE).mono fun x w' hh => ⟨hh.2.2, hh.1, hh.2.1⟩
theorem unq_calls {w0 : World} {e : Value} (hX : Cx w0 w B) (h : LexAt w B o s e p p wd c c) (hs : s.size ≤ 2147483647) (hp : p ≤ s.size) (hc : c ≤ p) :
    Calls Tryz.prog 53 #[.pointer (some ⟨B, o, none⟩)] w (OPost w B o s e (unqR s p c)) :=
  (unquoted_calls hX h hs hp hc (unqE s s.size p c).1 (unqE s s.size p c).2 rfl).mono fun x w' hh => ⟨hh.2.2, hh.1, hh.2.1⟩
set_option maxHeartbeats 12800000 in
set_option maxRecDepth 100000 in
theorem scan_calls {w0 : World} (hX : Cx w0 w B) (h : LexAt w B o s .nilIface p p wd c c) (hs : s.size ≤ 2147483647) (hp : p ≤ s.size) (hc : c ≤ p) (R : TR) (hR : scanE s (s.size + 1) p c = R) :
    Calls Tryz.prog 37 #[.pointer (some ⟨B, o, none⟩)] w (SPost w B o s R) := by
  have HB := Aside0.mk h.lt
  have HX := Aside0.mk (hX.kept (Kept.alloc (Kept.alloc (Kept.refl B o w) h.lt (.cells #[.int .i64 0, .string ⟨#[]⟩, .int .i64 0, .int .i64 0, .int .i64 0, .int .i64 0] 88)) h.lt (.cells #[.int .i64 0, .string ⟨#[]⟩, .int .i64 0, .int .i64 0, .int .i64 0, .int .i64 0] 88)))
  have HL0 := Aside0.mk ((h.alloc (.cells #[.int .i64 0, .string ⟨#[]⟩, .int .i64 0, .int .i64 0, .int .i64 0, .int .i64 0] 88)).alloc (.cells #[.int .i64 0, .string ⟨#[]⟩, .int .i64 0, .int .i64 0, .int .i64 0, .int .i64 0] 88))
  have HS := Aside0.mk (And.intro hs (And.intro hp hc))
  have HG := Aside0.mk (show ((w.alloc (.cells #[.int .i64 0, .string ⟨#[]⟩, .int .i64 0, .int .i64 0, .int .i64 0, .int .i64 0] 88)).alloc (.cells #[.int .i64 0, .string ⟨#[]⟩, .int .i64 0, .int .i64 0, .int .i64 0, .int .i64 0] 88)).heap[w.heap.size]? = _ from (Below.heap_alloc (w.alloc (.cells #[.int .i64 0, .string ⟨#[]⟩, .int .i64 0, .int .i64 0, .int .i64 0, .int .i64 0] 88)) (.cells #[.int .i64 0, .string ⟨#[]⟩, .int .i64 0, .int .i64 0, .int .i64 0, .int .i64 0] 88) _ (by simp)).trans (heap_alloc_new w (.cells #[.int .i64 0, .string ⟨#[]⟩, .int .i64 0, .int .i64 0, .int .i64 0, .int .i64 0] 88)))
  have HM := Aside0.mk (show ((w.alloc (.cells #[.int .i64 0, .string ⟨#[]⟩, .int .i64 0, .int .i64 0, .int .i64 0, .int .i64 0] 88)).alloc (.cells #[.int .i64 0, .string ⟨#[]⟩, .int .i64 0, .int .i64 0, .int .i64 0, .int .i64 0] 88)).heap[w.heap.size + 1]? = _ from new_alloc (w.alloc (.cells #[.int .i64 0, .string ⟨#[]⟩, .int .i64 0, .int .i64 0, .int .i64 0, .int .i64 0] 88)) (.cells #[.int .i64 0, .string ⟨#[]⟩, .int .i64 0, .int .i64 0, .int .i64 0, .int .i64 0] 88) _ (by simp))
  have HW := Aside0.mk (show Kept B o w ((w.alloc (.cells #[.int .i64 0, .string ⟨#[]⟩, .int .i64 0, .int .i64 0, .int .i64 0, .int .i64 0] 88)).alloc (.cells #[.int .i64 0, .string ⟨#[]⟩, .int .i64 0, .int .i64 0, .int .i64 0, .int .i64 0] 88)) from Kept.alloc (Kept.alloc (Kept.refl B o w) h.lt (.cells #[.int .i64 0, .string ⟨#[]⟩, .int .i64 0, .int .i64 0, .int .i64 0, .int .i64 0] 88)) h.lt (.cells #[.int .i64 0, .string ⟨#[]⟩, .int .i64 0, .int .i64 0, .int .i64 0, .int .i64 0] 88))
  have HR0 := Aside0.mk hR
  have c1 := HL0.out.c1
  clear hX h hs hp hc hR
  have hne : w.heap.size ≠ B := by have := HB.out; omega
  have hne' : B ≠ w.heap.size := fun e => hne e.symm
  have hnm : w.heap.size + 1 ≠ B := by have := HB.out; omega
  have hnm' : B ≠ w.heap.size + 1 := fun e => hnm e.symm
  go_enter Tryz.func37, Tryz.ntmps37
  go_wp2_with fail
  refine (next_calls HX.out HL0.out HS.out.1 HS.out.2.2).mono ?_
  rintro x w1 ⟨rfl, hl, hk⟩
  have HL1 := Aside0.mk hl
  have HK1 := Aside0.mk hk
  clear hl hk c1
  go_wp2_with fail
  go_loopw [5] (fun v5 wr => ∃ q cq fuel : Nat, v5 = .int .i32 (nR s q) ∧ Aside0 (scanE s fuel q cq = R ∧ s.size + 1 ≤ q + fuel ∧ q ≤ s.size ∧ cq ≤ q) ∧ Aside0 (LexAt wr B o s .nilIface q (nP s q) (nW s q) cq (nC s q cq)) ∧ Aside0 (Kept B o ((w.alloc (.cells #[.int .i64 0, .string ⟨#[]⟩, .int .i64 0, .int .i64 0, .int .i64 0, .int .i64 0] 88)).alloc (.cells #[.int .i64 0, .string ⟨#[]⟩, .int .i64 0, .int .i64 0, .int .i64 0, .int .i64 0] 88)) wr)) (fun v5 wr => 2 * (s.size - posAt wr B o) + (if RowKit.intOf v5 = -1 then 0 else 1))
  case atStart => exact ⟨p, c, s.size + 1, rfl, ⟨HR0.out, by omega, HS.out.2.1, HS.out.2.2⟩, HL1, HK1⟩
  case round =>
    obtain ⟨q, cq, fuel, rfl, HR, HL, HK⟩ := hrel
    by_cases hq : q < s.size
    · have hle := adv_le s q hq
      have hpos := adv_pos s q
      have HA := Aside0.mk (And.intro hle hpos)
      have hne1 : ((nR s q : Int) != -1) = true := by rw [nR_t hq]; simp <;> omega
      rw [nR_t hq] at hne1 ⊢
      have HLq := Aside0.mk (show LexAt wr B o s .nilIface q (q + wdt s q) (wdt s q) cq (cq + 1) by have := HL.out; rw [nP_t hq, nW_t hq, nC_t hq] at this; exact this)
      obtain ⟨f, rfl⟩ : ∃ f, fuel = f + 1 := ⟨fuel - 1, by have := HR.out; omega⟩
      have hEq := HR.out.1
      unfold scanE at hEq
      rw [if_pos hq] at hEq
      clear hle hpos HL
      by_cases h123 : rn s q = 123
      · have b123 : (((rn s q : Nat) : Int) == 123) = true := by simp; omega
        rw [if_pos h123] at hEq
        subst hEq
        clear h123
        go_wp2_with fail
        refine (emit_calls 1 HLq.out (by omega) HA.out.1).mono ?_
        rintro x w9 ⟨rfl, hl, hk⟩
        have HL9 := Aside0.mk hl
        have HK9 := Aside0.mk (HK.out.trans hk)
        clear hl hk
        have hg := (HK9.out.block w.heap.size (by simp <;> omega) hne).trans HG.out
        have hm := (HK9.out.block (w.heap.size + 1) (by simp) hnm).trans HM.out
        obtain ⟨⟨n0, n1, n2, n3, n4, n5⟩, y0, y1, y2, y3, y4, y5⟩ := cells6 hg
        obtain ⟨⟨m0, m1, m2, m3, m4, m5⟩, z0, z1, z2, z3, z4, z5⟩ := cells6 hm
        have c1 := HL9.out.c1
        have f1 := HL9.out.f1
        clear hg hm
        go_wp2_with fail

        go_region
        go_wp2
        refine bodyPost_ret (v := .tuple #[tokV s 1 q (q + wdt s q) cq (cq + 1), .nilIface]) ?_ rfl ?_
        · unfold tokV
          simp [results]
          go_simp
        · refine ⟨?_, rfl, wdt s q, ?_⟩
          · refine Kept.drew ?_
            iterate 12 refine Kept.farB (by omega) HB.out ?_
            exact HW.out.trans HK9.out
          · refine LexAt.drew ?_
            iterate 12 refine LexAt.farB (by assumption) ?_
            exact HL9.out
      · have b123 : (((rn s q : Nat) : Int) == 123) = false := by simp; omega
        rw [if_neg h123] at hEq
        by_cases h125 : rn s q = 125
        · have b125 : (((rn s q : Nat) : Int) == 125) = true := by simp; omega
          rw [if_pos h125] at hEq
          subst hEq
          clear h125
          go_wp2_with fail
          refine (emit_calls 2 HLq.out (by omega) HA.out.1).mono ?_
          rintro x w9 ⟨rfl, hl, hk⟩
          have HL9 := Aside0.mk hl
          have HK9 := Aside0.mk (HK.out.trans hk)
          clear hl hk
          have hg := (HK9.out.block w.heap.size (by simp <;> omega) hne).trans HG.out
          have hm := (HK9.out.block (w.heap.size + 1) (by simp) hnm).trans HM.out
          obtain ⟨⟨n0, n1, n2, n3, n4, n5⟩, y0, y1, y2, y3, y4, y5⟩ := cells6 hg
          obtain ⟨⟨m0, m1, m2, m3, m4, m5⟩, z0, z1, z2, z3, z4, z5⟩ := cells6 hm
          have c1 := HL9.out.c1
          have f1 := HL9.out.f1
          clear hg hm
          go_wp2_with fail

          go_region
          go_wp2
          refine bodyPost_ret (v := .tuple #[tokV s 2 q (q + wdt s q) cq (cq + 1), .nilIface]) ?_ rfl ?_
          · unfold tokV
            simp [results]
            go_simp
          · refine ⟨?_, rfl, wdt s q, ?_⟩
            · refine Kept.drew ?_
              iterate 12 refine Kept.farB (by omega) HB.out ?_
              exact HW.out.trans HK9.out
            · refine LexAt.drew ?_
              iterate 12 refine LexAt.farB (by assumption) ?_
              exact HL9.out
        · have b125 : (((rn s q : Nat) : Int) == 125) = false := by simp; omega
          rw [if_neg h125] at hEq
          by_cases h44 : rn s q = 44
          · have b44 : (((rn s q : Nat) : Int) == 44) = true := by simp; omega
            rw [if_pos h44] at hEq
            subst hEq
            clear h44
            go_wp2_with fail
            refine (emit_calls 3 HLq.out (by omega) HA.out.1).mono ?_
            rintro x w9 ⟨rfl, hl, hk⟩
            have HL9 := Aside0.mk hl
            have HK9 := Aside0.mk (HK.out.trans hk)
            clear hl hk
            have hg := (HK9.out.block w.heap.size (by simp <;> omega) hne).trans HG.out
            have hm := (HK9.out.block (w.heap.size + 1) (by simp) hnm).trans HM.out
            obtain ⟨⟨n0, n1, n2, n3, n4, n5⟩, y0, y1, y2, y3, y4, y5⟩ := cells6 hg
            obtain ⟨⟨m0, m1, m2, m3, m4, m5⟩, z0, z1, z2, z3, z4, z5⟩ := cells6 hm
            have c1 := HL9.out.c1
            have f1 := HL9.out.f1
            clear hg hm
            go_wp2_with fail

            go_region
            go_wp2
            refine bodyPost_ret (v := .tuple #[tokV s 3 q (q + wdt s q) cq (cq + 1), .nilIface]) ?_ rfl ?_
            · unfold tokV
              simp [results]
              go_simp
            · refine ⟨?_, rfl, wdt s q, ?_⟩
              · refine Kept.drew ?_
                iterate 12 refine Kept.farB (by omega) HB.out ?_
                exact HW.out.trans HK9.out
              · refine LexAt.drew ?_
                iterate 12 refine LexAt.farB (by assumption) ?_
                exact HL9.out
          · have b44 : (((rn s q : Nat) : Int) == 44) = false := by simp; omega
            rw [if_neg h44] at hEq
            by_cases hop : rn s q = 61 ∨ rn s q = 33
            · have b61 : (((rn s q : Nat) : Int) == 61) = decide (rn s q = 61) := by by_cases h : rn s q = 61 <;> simp [h] <;> omega
              rw [if_pos hop] at hEq
              subst hEq
              by_cases h61 : rn s q = 61
              · rw [decide_eq_true h61] at b61
                clear h61 hop
                go_wp2_with fail
                refine (rewind_calls HLq.out (by omega) (by have := HA.out; have := HS.out; omega) (Or.inl (by omega)) (by have := HA.out; have := HS.out; have := HR.out; omega)).mono ?_
                rintro x w3 ⟨rfl, hl, hk⟩
                have e1 : q + wdt s q - wdt s q = q := by omega
                have e2 : (if wdt s q = 0 then cq + 1 else cq + 1 - 1) = cq := by rw [if_neg (by have := HA.out; omega)]; omega
                rw [e1, e2] at hl
                have HL3 := Aside0.mk hl
                have HK3 := Aside0.mk (HK.out.trans hk)
                clear hl hk e1 e2
                go_wp2_with fail

                refine (oper_calls (HX.out.kept HK3.out) HL3.out HS.out.1 HR.out.2.2.1 HR.out.2.2.2).mono ?_
                intro x w9 hO
                cases hV : opR s q cq with
                | eof u v =>
                  rw [hV] at hO
                  exact hO.2.elim
                | bad =>
                  rw [hV] at hO
                  obtain ⟨hk, ⟨r, rfl, hr⟩, a9, p9, wd9, ca9, c9, hl⟩ := hO
                  have HL9 := Aside0.mk hl
                  have HK9 := Aside0.mk (HK3.out.trans hk)
                  obtain ⟨T, cs, rfl, hT⟩ := hr
                  have HER := Aside0.mk (show LexErr (.iface T (.agg cs)) from ⟨T, cs, rfl, hT⟩)
                  have HV := Aside0.mk hV
                  clear hl hk hT hV
                  unfold noTok
                  have hg := (HK9.out.block w.heap.size (by simp <;> omega) hne).trans HG.out
                  have hm := (HK9.out.block (w.heap.size + 1) (by simp) hnm).trans HM.out
                  obtain ⟨⟨n0, n1, n2, n3, n4, n5⟩, y0, y1, y2, y3, y4, y5⟩ := cells6 hg
                  obtain ⟨⟨m0, m1, m2, m3, m4, m5⟩, z0, z1, z2, z3, z4, z5⟩ := cells6 hm
                  have c1 := HL9.out.c1
                  have f1 := HL9.out.f1
                  clear hg hm
                  go_wp2_with fail
                  go_region
                  go_wp2
                  refine bodyPost_ret (v := .tuple #[noTok, .iface T (.agg cs)]) ?_ rfl ?_
                  · unfold noTok
                    simp [results]
                    go_simp
                  · refine (show SPost w B o s (opR s q cq) _ _ from ?_)
                    unfold SPost
                    rw [HV.out]
                    refine ⟨?_, _, rfl, HER.out, a9, p9, wd9, ca9, c9, ?_⟩
                    · refine Kept.drew ?_
                      iterate 6 refine Kept.farB (by omega) HB.out ?_
                      refine Kept.set ?_ (by omega) _
                      iterate 6 refine Kept.farB (by omega) HB.out ?_
                      exact HW.out.trans HK9.out
                    · refine LexAt.drew ?_
                      iterate 6 refine LexAt.farB (by assumption) ?_
                      refine LexAt.set1 (e := .nilIface) ?_ _
                      iterate 6 refine LexAt.farB (by assumption) ?_
                      exact HL9.out

                | tok k9 a9 E9 ca9 c9 =>
                  rw [hV] at hO
                  obtain ⟨hk, rfl, wd9, hl⟩ := hO
                  have HL9 := Aside0.mk hl
                  have HK9 := Aside0.mk (HK3.out.trans hk)
                  have HV := Aside0.mk hV
                  clear hl hk hV
                  unfold tokV
                  have hg := (HK9.out.block w.heap.size (by simp <;> omega) hne).trans HG.out
                  have hm := (HK9.out.block (w.heap.size + 1) (by simp) hnm).trans HM.out
                  obtain ⟨⟨n0, n1, n2, n3, n4, n5⟩, y0, y1, y2, y3, y4, y5⟩ := cells6 hg
                  obtain ⟨⟨m0, m1, m2, m3, m4, m5⟩, z0, z1, z2, z3, z4, z5⟩ := cells6 hm
                  have c1 := HL9.out.c1
                  have f1 := HL9.out.f1
                  clear hg hm
                  go_wp2_with fail
                  go_region
                  go_wp2
                  refine bodyPost_ret (v := .tuple #[tokV s k9 a9 E9 ca9 c9, .nilIface]) ?_ rfl ?_
                  · unfold tokV
                    simp [results]
                    go_simp
                  · refine (show SPost w B o s (opR s q cq) _ _ from ?_)
                    unfold SPost
                    rw [HV.out]
                    refine ⟨?_, rfl, wd9, ?_⟩
                    · refine Kept.drew ?_
                      iterate 6 refine Kept.farB (by omega) HB.out ?_
                      refine Kept.set ?_ (by omega) _
                      iterate 6 refine Kept.farB (by omega) HB.out ?_
                      exact HW.out.trans HK9.out
                    · refine LexAt.drew ?_
                      iterate 6 refine LexAt.farB (by assumption) ?_
                      refine LexAt.set1 (e := .nilIface) ?_ _
                      iterate 6 refine LexAt.farB (by assumption) ?_
                      exact HL9.out
              · rw [decide_eq_false h61] at b61
                have b33 : (((rn s q : Nat) : Int) == 33) = true := by simp; omega
                clear h61 hop
                go_wp2_with fail
                refine (rewind_calls HLq.out (by omega) (by have := HA.out; have := HS.out; omega) (Or.inl (by omega)) (by have := HA.out; have := HS.out; have := HR.out; omega)).mono ?_
                rintro x w3 ⟨rfl, hl, hk⟩
                have e1 : q + wdt s q - wdt s q = q := by omega
                have e2 : (if wdt s q = 0 then cq + 1 else cq + 1 - 1) = cq := by rw [if_neg (by have := HA.out; omega)]; omega
                rw [e1, e2] at hl
                have HL3 := Aside0.mk hl
                have HK3 := Aside0.mk (HK.out.trans hk)
                clear hl hk e1 e2
                go_wp2_with fail

                refine (oper_calls (HX.out.kept HK3.out) HL3.out HS.out.1 HR.out.2.2.1 HR.out.2.2.2).mono ?_
                intro x w9 hO
                cases hV : opR s q cq with
                | eof u v =>
                  rw [hV] at hO
                  exact hO.2.elim
                | bad =>
                  rw [hV] at hO
                  obtain ⟨hk, ⟨r, rfl, hr⟩, a9, p9, wd9, ca9, c9, hl⟩ := hO
                  have HL9 := Aside0.mk hl
                  have HK9 := Aside0.mk (HK3.out.trans hk)
                  obtain ⟨T, cs, rfl, hT⟩ := hr
                  have HER := Aside0.mk (show LexErr (.iface T (.agg cs)) from ⟨T, cs, rfl, hT⟩)
                  have HV := Aside0.mk hV
                  clear hl hk hT hV
                  unfold noTok
                  have hg := (HK9.out.block w.heap.size (by simp <;> omega) hne).trans HG.out
                  have hm := (HK9.out.block (w.heap.size + 1) (by simp) hnm).trans HM.out
                  obtain ⟨⟨n0, n1, n2, n3, n4, n5⟩, y0, y1, y2, y3, y4, y5⟩ := cells6 hg
                  obtain ⟨⟨m0, m1, m2, m3, m4, m5⟩, z0, z1, z2, z3, z4, z5⟩ := cells6 hm
                  have c1 := HL9.out.c1
                  have f1 := HL9.out.f1
                  clear hg hm
                  go_wp2_with fail
                  go_region
                  go_wp2
                  refine bodyPost_ret (v := .tuple #[noTok, .iface T (.agg cs)]) ?_ rfl ?_
                  · unfold noTok
                    simp [results]
                    go_simp
                  · refine (show SPost w B o s (opR s q cq) _ _ from ?_)
                    unfold SPost
                    rw [HV.out]
                    refine ⟨?_, _, rfl, HER.out, a9, p9, wd9, ca9, c9, ?_⟩
                    · refine Kept.drew ?_
                      iterate 6 refine Kept.farB (by omega) HB.out ?_
                      refine Kept.set ?_ (by omega) _
                      iterate 6 refine Kept.farB (by omega) HB.out ?_
                      exact HW.out.trans HK9.out
                    · refine LexAt.drew ?_
                      iterate 6 refine LexAt.farB (by assumption) ?_
                      refine LexAt.set1 (e := .nilIface) ?_ _
                      iterate 6 refine LexAt.farB (by assumption) ?_
                      exact HL9.out

                | tok k9 a9 E9 ca9 c9 =>
                  rw [hV] at hO
                  obtain ⟨hk, rfl, wd9, hl⟩ := hO
                  have HL9 := Aside0.mk hl
                  have HK9 := Aside0.mk (HK3.out.trans hk)
                  have HV := Aside0.mk hV
                  clear hl hk hV
                  unfold tokV
                  have hg := (HK9.out.block w.heap.size (by simp <;> omega) hne).trans HG.out
                  have hm := (HK9.out.block (w.heap.size + 1) (by simp) hnm).trans HM.out
                  obtain ⟨⟨n0, n1, n2, n3, n4, n5⟩, y0, y1, y2, y3, y4, y5⟩ := cells6 hg
                  obtain ⟨⟨m0, m1, m2, m3, m4, m5⟩, z0, z1, z2, z3, z4, z5⟩ := cells6 hm
                  have c1 := HL9.out.c1
                  have f1 := HL9.out.f1
                  clear hg hm
                  go_wp2_with fail
                  go_region
                  go_wp2
                  refine bodyPost_ret (v := .tuple #[tokV s k9 a9 E9 ca9 c9, .nilIface]) ?_ rfl ?_
                  · unfold tokV
                    simp [results]
                    go_simp
                  · refine (show SPost w B o s (opR s q cq) _ _ from ?_)
                    unfold SPost
                    rw [HV.out]
                    refine ⟨?_, rfl, wd9, ?_⟩
                    · refine Kept.drew ?_
                      iterate 6 refine Kept.farB (by omega) HB.out ?_
                      refine Kept.set ?_ (by omega) _
                      iterate 6 refine Kept.farB (by omega) HB.out ?_
                      exact HW.out.trans HK9.out
                    · refine LexAt.drew ?_
                      iterate 6 refine LexAt.farB (by assumption) ?_
                      refine LexAt.set1 (e := .nilIface) ?_ _
                      iterate 6 refine LexAt.farB (by assumption) ?_
                      exact HL9.out
            · have b61 : (((rn s q : Nat) : Int) == 61) = false := by simp; omega
              have b33 : (((rn s q : Nat) : Int) == 33) = false := by simp; omega
              rw [if_neg hop] at hEq
              by_cases h34 : rn s q = 34
              · have b34 : (((rn s q : Nat) : Int) == 34) = true := by simp; omega
                rw [if_pos h34] at hEq
                subst hEq
                have HQ := Aside0.mk (acc_quote hq h34)
                clear h34
                go_wp2_with fail
                refine (rewind_calls HLq.out (by omega) (by have := HA.out; have := HS.out; omega) (Or.inl (by omega)) (by have := HA.out; have := HS.out; have := HR.out; omega)).mono ?_
                rintro x w3 ⟨rfl, hl, hk⟩
                have e1 : q + wdt s q - wdt s q = q := by omega
                have e2 : (if wdt s q = 0 then cq + 1 else cq + 1 - 1) = cq := by rw [if_neg (by have := HA.out; omega)]; omega
                rw [e1, e2] at hl
                have HL3 := Aside0.mk hl
                have HK3 := Aside0.mk (HK.out.trans hk)
                clear hl hk e1 e2
                go_wp2_with fail

                refine (quoted_calls (HX.out.kept HK3.out) HL3.out HS.out.1 HR.out.2.2.1 HR.out.2.2.2 HQ.out).mono ?_
                intro x w9 hO
                cases hV : quoR s q cq with
                | eof u v =>
                  rw [hV] at hO
                  exact hO.2.elim
                | bad =>
                  rw [hV] at hO
                  obtain ⟨hk, ⟨r, rfl, hr⟩, a9, p9, wd9, ca9, c9, hl⟩ := hO
                  have HL9 := Aside0.mk hl
                  have HK9 := Aside0.mk (HK3.out.trans hk)
                  obtain ⟨T, cs, rfl, hT⟩ := hr
                  have HER := Aside0.mk (show LexErr (.iface T (.agg cs)) from ⟨T, cs, rfl, hT⟩)
                  have HV := Aside0.mk hV
                  clear hl hk hT hV
                  unfold noTok
                  have hg := (HK9.out.block w.heap.size (by simp <;> omega) hne).trans HG.out
                  have hm := (HK9.out.block (w.heap.size + 1) (by simp) hnm).trans HM.out
                  obtain ⟨⟨n0, n1, n2, n3, n4, n5⟩, y0, y1, y2, y3, y4, y5⟩ := cells6 hg
                  obtain ⟨⟨m0, m1, m2, m3, m4, m5⟩, z0, z1, z2, z3, z4, z5⟩ := cells6 hm
                  have c1 := HL9.out.c1
                  have f1 := HL9.out.f1
                  clear hg hm
                  go_wp2_with fail
                  go_region
                  go_wp2
                  refine bodyPost_ret (v := .tuple #[noTok, .iface T (.agg cs)]) ?_ rfl ?_
                  · unfold noTok
                    simp [results]
                    go_simp
                  · refine (show SPost w B o s (quoR s q cq) _ _ from ?_)
                    unfold SPost
                    rw [HV.out]
                    refine ⟨?_, _, rfl, HER.out, a9, p9, wd9, ca9, c9, ?_⟩
                    · refine Kept.drew ?_
                      iterate 6 refine Kept.farB (by omega) HB.out ?_
                      refine Kept.set ?_ (by omega) _
                      iterate 6 refine Kept.farB (by omega) HB.out ?_
                      exact HW.out.trans HK9.out
                    · refine LexAt.drew ?_
                      iterate 6 refine LexAt.farB (by assumption) ?_
                      refine LexAt.set1 (e := .nilIface) ?_ _
                      iterate 6 refine LexAt.farB (by assumption) ?_
                      exact HL9.out

                | tok k9 a9 E9 ca9 c9 =>
                  rw [hV] at hO
                  obtain ⟨hk, rfl, wd9, hl⟩ := hO
                  have HL9 := Aside0.mk hl
                  have HK9 := Aside0.mk (HK3.out.trans hk)
                  have HV := Aside0.mk hV
                  clear hl hk hV
                  unfold tokV
                  have hg := (HK9.out.block w.heap.size (by simp <;> omega) hne).trans HG.out
                  have hm := (HK9.out.block (w.heap.size + 1) (by simp) hnm).trans HM.out
                  obtain ⟨⟨n0, n1, n2, n3, n4, n5⟩, y0, y1, y2, y3, y4, y5⟩ := cells6 hg
                  obtain ⟨⟨m0, m1, m2, m3, m4, m5⟩, z0, z1, z2, z3, z4, z5⟩ := cells6 hm
                  have c1 := HL9.out.c1
                  have f1 := HL9.out.f1
                  clear hg hm
                  go_wp2_with fail
                  go_region
                  go_wp2
                  refine bodyPost_ret (v := .tuple #[tokV s k9 a9 E9 ca9 c9, .nilIface]) ?_ rfl ?_
                  · unfold tokV
                    simp [results]
                    go_simp
                  · refine (show SPost w B o s (quoR s q cq) _ _ from ?_)
                    unfold SPost
                    rw [HV.out]
                    refine ⟨?_, rfl, wd9, ?_⟩
                    · refine Kept.drew ?_
                      iterate 6 refine Kept.farB (by omega) HB.out ?_
                      refine Kept.set ?_ (by omega) _
                      iterate 6 refine Kept.farB (by omega) HB.out ?_
                      exact HW.out.trans HK9.out
                    · refine LexAt.drew ?_
                      iterate 6 refine LexAt.farB (by assumption) ?_
                      refine LexAt.set1 (e := .nilIface) ?_ _
                      iterate 6 refine LexAt.farB (by assumption) ?_
                      exact HL9.out
              · have b34 : (((rn s q : Nat) : Int) == 34) = false := by simp; omega
                rw [if_neg h34] at hEq
                have RS := Aside0.mk (is_reserved (rn s q) wr (rn_lo s q) (rn_hi s q) (HX.out.kept HK.out).lt)
                cases hres : resR (rn s q) with
                | false =>
                  rw [if_pos hres] at hEq
                  rw [hres] at RS
                  subst hEq
                  clear hres
                  go_wp2_with fail
                  refine RS.out.mono ?_
                  rintro x w2 ⟨rfl, hb⟩
                  have HLq0 := HLq
                  have HLq := Aside0.mk (HLq.out.below hb HLq.out.lt)
                  have HK := Aside0.mk (HK.out.trans (Kept.of_below hb (LexAt.lt HLq0.out)))
                  clear hb
                  go_wp2_with fail
                  refine (rewind_calls HLq.out (by omega) (by have := HA.out; have := HS.out; omega) (Or.inl (by omega)) (by have := HA.out; have := HS.out; have := HR.out; omega)).mono ?_
                  rintro x w3 ⟨rfl, hl, hk⟩
                  have e1 : q + wdt s q - wdt s q = q := by omega
                  have e2 : (if wdt s q = 0 then cq + 1 else cq + 1 - 1) = cq := by rw [if_neg (by have := HA.out; omega)]; omega
                  rw [e1, e2] at hl
                  have HL3 := Aside0.mk hl
                  have HK3 := Aside0.mk (HK.out.trans hk)
                  clear hl hk e1 e2
                  go_wp2_with fail

                  refine (unq_calls (HX.out.kept HK3.out) HL3.out HS.out.1 HR.out.2.2.1 HR.out.2.2.2).mono ?_
                  intro x w9 hO
                  cases hV : unqR s q cq with
                  | eof u v =>
                    rw [hV] at hO
                    exact hO.2.elim
                  | bad =>
                    rw [hV] at hO
                    obtain ⟨hk, ⟨r, rfl, hr⟩, a9, p9, wd9, ca9, c9, hl⟩ := hO
                    have HL9 := Aside0.mk hl
                    have HK9 := Aside0.mk (HK3.out.trans hk)
                    obtain ⟨T, cs, rfl, hT⟩ := hr
                    have HER := Aside0.mk (show LexErr (.iface T (.agg cs)) from ⟨T, cs, rfl, hT⟩)
                    have HV := Aside0.mk hV
                    clear hl hk hT hV
                    unfold noTok
                    have hg := (HK9.out.block w.heap.size (by simp <;> omega) hne).trans HG.out
                    have hm := (HK9.out.block (w.heap.size + 1) (by simp) hnm).trans HM.out
                    obtain ⟨⟨n0, n1, n2, n3, n4, n5⟩, y0, y1, y2, y3, y4, y5⟩ := cells6 hg
                    obtain ⟨⟨m0, m1, m2, m3, m4, m5⟩, z0, z1, z2, z3, z4, z5⟩ := cells6 hm
                    have c1 := HL9.out.c1
                    have f1 := HL9.out.f1
                    clear hg hm
                    go_wp2_with fail
                    go_region
                    go_wp2
                    refine bodyPost_ret (v := .tuple #[noTok, .iface T (.agg cs)]) ?_ rfl ?_
                    · unfold noTok
                      simp [results]
                      go_simp
                    · refine (show SPost w B o s (unqR s q cq) _ _ from ?_)
                      unfold SPost
                      rw [HV.out]
                      refine ⟨?_, _, rfl, HER.out, a9, p9, wd9, ca9, c9, ?_⟩
                      · refine Kept.drew ?_
                        iterate 6 refine Kept.farB (by omega) HB.out ?_
                        refine Kept.set ?_ (by omega) _
                        iterate 6 refine Kept.farB (by omega) HB.out ?_
                        exact HW.out.trans HK9.out
                      · refine LexAt.drew ?_
                        iterate 6 refine LexAt.farB (by assumption) ?_
                        refine LexAt.set1 (e := .nilIface) ?_ _
                        iterate 6 refine LexAt.farB (by assumption) ?_
                        exact HL9.out

                  | tok k9 a9 E9 ca9 c9 =>
                    rw [hV] at hO
                    obtain ⟨hk, rfl, wd9, hl⟩ := hO
                    have HL9 := Aside0.mk hl
                    have HK9 := Aside0.mk (HK3.out.trans hk)
                    have HV := Aside0.mk hV
                    clear hl hk hV
                    unfold tokV
                    have hg := (HK9.out.block w.heap.size (by simp <;> omega) hne).trans HG.out
                    have hm := (HK9.out.block (w.heap.size + 1) (by simp) hnm).trans HM.out
                    obtain ⟨⟨n0, n1, n2, n3, n4, n5⟩, y0, y1, y2, y3, y4, y5⟩ := cells6 hg
                    obtain ⟨⟨m0, m1, m2, m3, m4, m5⟩, z0, z1, z2, z3, z4, z5⟩ := cells6 hm
                    have c1 := HL9.out.c1
                    have f1 := HL9.out.f1
                    clear hg hm
                    go_wp2_with fail
                    go_region
                    go_wp2
                    refine bodyPost_ret (v := .tuple #[tokV s k9 a9 E9 ca9 c9, .nilIface]) ?_ rfl ?_
                    · unfold tokV
                      simp [results]
                      go_simp
                    · refine (show SPost w B o s (unqR s q cq) _ _ from ?_)
                      unfold SPost
                      rw [HV.out]
                      refine ⟨?_, rfl, wd9, ?_⟩
                      · refine Kept.drew ?_
                        iterate 6 refine Kept.farB (by omega) HB.out ?_
                        refine Kept.set ?_ (by omega) _
                        iterate 6 refine Kept.farB (by omega) HB.out ?_
                        exact HW.out.trans HK9.out
                      · refine LexAt.drew ?_
                        iterate 6 refine LexAt.farB (by assumption) ?_
                        refine LexAt.set1 (e := .nilIface) ?_ _
                        iterate 6 refine LexAt.farB (by assumption) ?_
                        exact HL9.out
                | true =>
                  rw [if_neg (by rw [hres]; decide)] at hEq
                  rw [hres] at RS
                  clear hres
                  go_wp2_with fail
                  refine RS.out.mono ?_
                  rintro x w2 ⟨rfl, hb⟩
                  have HL2 := Aside0.mk (HLq.out.below hb HLq.out.lt)
                  have HK2 := Aside0.mk (HK.out.trans (Kept.of_below hb HLq.out.lt))
                  clear hb
                  have SP := Aside0.mk (Tryz.unicode_IsSpace_any (rn s q) w2 (rn_lo s q) (rn_hi s q) (HX.out.kept HK2.out).lt.2)
                  cases hsp : Lib.isSpaceZ (rn s q) with
                  | true =>
                    rw [if_pos hsp] at hEq
                    rw [hsp] at SP
                    have HR2 := Aside0.mk (show scanE s f (q + wdt s q) (cq + 1) = R ∧ s.size + 1 ≤ q + wdt s q + f ∧ q + wdt s q ≤ s.size ∧ cq + 1 ≤ q + wdt s q from ⟨hEq, by have := HR.out; have := HA.out; omega, HA.out.1, by have := HR.out; have := HA.out; omega⟩)
                    clear hsp hEq
                    go_wp2_with fail
                    refine SP.out.mono ?_
                    rintro x w3 ⟨rfl, hb⟩
                    have HL3 := Aside0.mk (HL2.out.below hb HL2.out.lt)
                    have HK3 := Aside0.mk (HK2.out.trans (Kept.of_below hb HL2.out.lt))
                    clear hb
                    go_wp2_with fail
                    refine (skip_calls HL3.out).mono ?_
                    rintro x w4 ⟨rfl, hl, hk⟩
                    have HL4 := Aside0.mk hl
                    have HK4 := Aside0.mk (HK3.out.trans hk)
                    clear hl hk
                    go_wp2_with fail
                    refine (next_calls (HX.out.kept HK4.out) HL4.out HS.out.1 HR2.out.2.2.2).mono ?_
                    rintro x w5 ⟨rfl, hl, hk⟩
                    have HL5 := Aside0.mk hl
                    have HK5 := Aside0.mk (HK4.out.trans hk)
                    clear hl hk
                    go_wp2
                    go_roundw
                    case rel => exact ⟨q + wdt s q, cq + 1, f, rfl, HR2, HL5, HK5⟩
                    case measure =>
                      rw [posAt_of HLq.out, posAt_of HL5.out]
                      have h1 := HA.out
                      by_cases hq2 : q + wdt s q < s.size
                      · rw [nP_t hq2, nR_t hq2]
                        have h2 := adv_pos s (q + wdt s q)
                        simp [RowKit.intOf] <;> omega
                      · rw [nP_f hq2, nR_f hq2]
                        simp [RowKit.intOf] <;> omega
                  | false =>
                    rw [if_neg (by rw [hsp]; decide)] at hEq
                    rw [hsp] at SP
                    subst hEq
                    clear hsp
                    go_wp2_with fail
                    refine SP.out.mono ?_
                    rintro x w3 ⟨rfl, hb⟩
                    have HL3 := Aside0.mk (HL2.out.below hb HL2.out.lt)
                    have HK3 := Aside0.mk (HK2.out.trans (Kept.of_below hb HL2.out.lt))
                    clear hb
                    go_wp2_with fail
                    have CS := Aside0.mk (show ∀ W, Below w3.heap.size w3 W → LexAt W B o s .nilIface q (q + wdt s q) (wdt s q) cq (cq + 1) from fun W hb => HL3.out.below hb HL3.out.lt)
                    have c0 := HL3.out.c0
                    have c1 := HL3.out.c1
                    have f1 := HL3.out.f1
                    go_region_with (go_at_call 56; refine (position_calls (CS.out _ (by repeat (first | exact Below.refl _ _ | apply below_drew1 | apply pw_below_drewN)))).mono ?_; rintro x w9 ⟨rfl, hb⟩; have HB4 := Aside0.mk (below_step (w := w3) (by repeat (first | exact Below.refl _ _ | apply below_drew1 | apply pw_below_drewN)) hb); clear hb c0 c1 f1; have HL9 := Aside0.mk (CS.out _ HB4.out); have c0 := HL9.out.c0; have c1 := HL9.out.c1; have f1 := HL9.out.f1)
                    all_goals
                      have HK9 := Aside0.mk (HK3.out.trans (Kept.of_below HB4.out HL3.out.lt))
                      have hg := (HK9.out.block w.heap.size (by simp <;> omega) hne).trans HG.out
                      have hm := (HK9.out.block (w.heap.size + 1) (by simp) hnm).trans HM.out
                      obtain ⟨⟨n0, n1, n2, n3, n4, n5⟩, y0, y1, y2, y3, y4, y5⟩ := cells6 hg
                      obtain ⟨⟨m0, m1, m2, m3, m4, m5⟩, z0, z1, z2, z3, z4, z5⟩ := cells6 hm
                      clear hg hm
                      go_wp2_with fail

                      go_region
                      go_wp2
                      refine bodyPost_ret (v := .tuple #[noTok, .iface 106 (.agg #[.int .i64 (q : Int), .int .i64 ((q : Int) + (wdt s q : Int)), .int .i64 (cq : Int), .int .i64 ((cq : Int) + 1), .string s])]) ?_ rfl ?_
                      · unfold noTok
                        simp [results]
                        go_simp
                      · refine ⟨?_, _, rfl, ⟨_, _, rfl, Or.inr (Or.inl rfl)⟩, q, q + wdt s q, wdt s q, cq, cq + 1, ?_⟩
                        · refine Kept.drew ?_
                          iterate 6 refine Kept.farB (by omega) HB.out ?_
                          refine Kept.set ?_ (by omega) _
                          exact HW.out.trans HK9.out
                        · refine LexAt.drew ?_
                          iterate 6 refine LexAt.farB (by assumption) ?_
                          refine LexAt.set1 (e := .nilIface) ?_ _
                          exact HL9.out
    · have HLq := Aside0.mk (show LexAt wr B o s .nilIface q q 0 cq cq by have := HL.out; rw [nP_f hq, nW_f hq, nC_f hq] at this; exact this)
      have hEq := HR.out.1
      rw [scanE_end hq] at hEq
      subst hEq
      rw [nR_f hq]
      have HL9 := HLq
      have HK9 := HK
      clear HL
      have hg := (HK9.out.block w.heap.size (by simp <;> omega) hne).trans HG.out
      have hm := (HK9.out.block (w.heap.size + 1) (by simp) hnm).trans HM.out
      obtain ⟨⟨n0, n1, n2, n3, n4, n5⟩, y0, y1, y2, y3, y4, y5⟩ := cells6 hg
      obtain ⟨⟨m0, m1, m2, m3, m4, m5⟩, z0, z1, z2, z3, z4, z5⟩ := cells6 hm
      have c1 := HL9.out.c1
      have f1 := HL9.out.f1
      clear hg hm
      go_wp2_with fail

      go_region
      go_wp2
      refine bodyPost_ret (v := .tuple #[noTok, .nilIface]) ?_ rfl ?_
      · unfold noTok
        simp [results]
        go_simp
      · refine ⟨?_, rfl, 0, ?_⟩
        · refine Kept.drew ?_
          iterate 6 refine Kept.farB (by omega) HB.out ?_
          exact HW.out.trans HK9.out
        · refine LexAt.drew ?_
          iterate 6 refine LexAt.farB (by assumption) ?_
          exact HL9.out
end
end Go.Proofs.YtmjoebnphacadaaGreatDoor.Lex
/- parse.lexer.peek: a scan whose state is put back by a deferred closure. -/
namespace Go.Proofs.YtmjoebnphacadaaGreatDoor.Lex
open Go.RowKit Go.Lib Go.Proofs.YtmjoebnphacadaaGreatDoorW.PrintWords Go.Proofs.YtmjoebnphacadaaGreatDoorW.PrintLast
set_option linter.unusedVariables false
set_option linter.unusedSimpArgs false
theorem heap_set {w : World} {b i : Nat} {cs : Array Value} {T : TypeId} {fr : Nat × Nat} (hb : w.heap[b]? = some (.cells cs T fr)) (v : Value) : (w.setCell ⟨b, i, none⟩ v).heap[b]? = some (.cells (cs.setIfInBounds i v) T fr) := by
  simp [World.setCell, Array.getElem?_modify, hb]
theorem ne_blk {g h i j : Nat} (e : g ≠ h) : (⟨g, i, none⟩ : Addr) ≠ ⟨h, j, none⟩ := fun k => e (by injection k)
theorem one_cell {w : World} {g : Nat} {v : Value} {t : TypeId} (h : w.heap[g]? = some (.cells #[v] t (0, 0))) : w.cell? ⟨g, 0, none⟩ = some v := by
  unfold World.cell?
  rw [h]
  rfl
/-- Six stores into a block that is not the lexer's, and was made meanwhile. -/
theorem Kept.six {B o g : Nat} {w w1 : World} {v0 v1 v2 v3 v4 v5 : Value} (h : Kept B o w w1) (hg : w.heap.size ≤ g) (hB : B < w.heap.size) :
    Kept B o w ((((((w1.setCell ⟨g, 0, none⟩ v0).setCell ⟨g, 1, none⟩ v1).setCell ⟨g, 2, none⟩ v2).setCell ⟨g, 3, none⟩ v3).setCell ⟨g, 4, none⟩ v4).setCell ⟨g, 5, none⟩ v5) :=
  ((((((h.farB hg hB).farB hg hB).farB hg hB).farB hg hB).farB hg hB).farB hg hB)
section
variable {w : World} {B o : Nat} {s : ByteArray} {e : Value} {a p wd ca c : Nat}
set_option maxRecDepth 100000 in
theorem peek1_calls {a' p' wd' ca' c' ga gl gp gw gx gc : Nat} (h : LexAt w B o s e a' p' wd' ca' c') (u : FrameMode)
    (hl : w.cell? ⟨gl, 0, none⟩ = some (.pointer (some ⟨B, o, none⟩))) (ha : w.cell? ⟨ga, 0, none⟩ = some (.int .i64 (a : Int))) (hp : w.cell? ⟨gp, 0, none⟩ = some (.int .i64 (p : Int))) (hw : w.cell? ⟨gw, 0, none⟩ = some (.int .i64 (wd : Int)))
    (hx : w.cell? ⟨gx, 0, none⟩ = some (.int .i64 (ca : Int))) (hc : w.cell? ⟨gc, 0, none⟩ = some (.int .i64 (c : Int))) (n1 : B ≠ gl) (n2 : B ≠ ga) (n3 : B ≠ gp) (n4 : B ≠ gw) (n5 : B ≠ gx) (n6 : B ≠ gc) :
    CallsD Tryz.prog 57 #[.pointer (some ⟨ga, 0, none⟩), .pointer (some ⟨gl, 0, none⟩), .pointer (some ⟨gp, 0, none⟩), .pointer (some ⟨gw, 0, none⟩), .pointer (some ⟨gx, 0, none⟩), .pointer (some ⟨gc, 0, none⟩)] u w
      fun x u' w' => u' = u ∧ (x = .returned (.tuple #[]) ∧ LexAt w' B o s e a p wd ca c ∧ Kept B o w w') := by
  have H := Aside0.mk h
  obtain ⟨c0, c1, c2, c3, c4, c5, c6, f1, f2, f3, f4, f5, f6⟩ := h
  have n1' := n1.symm
  have n2' := n2.symm
  have n3' := n3.symm
  have n4' := n4.symm
  have n5' := n5.symm
  have n6' := n6.symm
  clear c0 c1 f1
  go_enter_d Tryz.func57, Tryz.ntmps57
  go_wp2
  go_end0
  refine ⟨rfl, ?_, ?_⟩
  · exact LexAt.set6 (LexAt.set5 (LexAt.set4 (LexAt.set3 (LexAt.set2 H.out rfl) rfl) rfl) rfl) rfl
  · exact Kept.set (Kept.set (Kept.set (Kept.set (Kept.set (Kept.refl B o w) (by omega) _) (by omega) _) (by omega) _) (by omega) _) (by omega) _
/-- What a look at the next token has done. -/
def PPost (w : World) (B o : Nat) (s : ByteArray) (p wd c : Nat) (R : TR) (x : Ending) (w' : World) : Prop := Kept B o w w' ∧ match R with
  | .tok k a E ca CE => x = .returned (.tuple #[tokV s k a E ca CE, .nilIface]) ∧ LexAt w' B o s .nilIface p p wd c c
  | .eof q cq => x = .returned (.tuple #[noTok, .nilIface]) ∧ LexAt w' B o s .nilIface p p wd c c
  | .bad => ∃ r, x = .returned (.tuple #[noTok, r]) ∧ LexErr r ∧ LexAt w' B o s r p p wd c c
set_option maxHeartbeats 3200000 in
set_option maxRecDepth 100000 in
theorem peek_calls {w0 : World} (hX : Cx w0 w B) (h : LexAt w B o s .nilIface p p wd c c) (hs : s.size ≤ 2147483647) (hp : p ≤ s.size) (hc : c ≤ p) :
    Calls Tryz.prog 41 #[.pointer (some ⟨B, o, none⟩)] w (PPost w B o s p wd c (scanE s (s.size + 1) p c)) := by
  have hmf : ∀ (fn : Fn) (first cap : Array Value) (w : World), (Instr.makeFunc fn first cap).run Tryz.prog w = .ok (.func fn first cap) w := fun _ _ _ _ => rfl
  have HB := Aside0.mk h.lt
  have CS := Aside0.mk (show ∀ W, Below w.heap.size w W → LexAt W B o s .nilIface p p wd c c from fun W hb => h.below hb h.lt)
  have HX := Aside0.mk hX
  have HS := Aside0.mk (And.intro hs (And.intro hp hc))
  have n1 : B ≠ w.heap.size := by have := h.lt; omega
  have n2 : B ≠ w.heap.size + 1 := by have := h.lt; omega
  have n3 : B ≠ w.heap.size + 2 := by have := h.lt; omega
  have n4 : B ≠ w.heap.size + 3 := by have := h.lt; omega
  have n5 : B ≠ w.heap.size + 4 := by have := h.lt; omega
  have n6 : B ≠ w.heap.size + 5 := by have := h.lt; omega
  have n7 : B ≠ w.heap.size + 6 := by have := h.lt; omega
  have n8 : B ≠ w.heap.size + 7 := by have := h.lt; omega
  have c2a := fun x1 x2 => (CS.out _ (below_alloc (below_alloc (Below.refl w.heap.size w) x1) x2)).c2
  have c3a := fun x1 x2 x3 => (CS.out _ (below_alloc (below_alloc (below_alloc (Below.refl w.heap.size w) x1) x2) x3)).c3
  have c4a := fun x1 x2 x3 x4 => (CS.out _ (below_alloc (below_alloc (below_alloc (below_alloc (Below.refl w.heap.size w) x1) x2) x3) x4)).c4
  have c5a := fun x1 x2 x3 x4 x5 => (CS.out _ (below_alloc (below_alloc (below_alloc (below_alloc (below_alloc (Below.refl w.heap.size w) x1) x2) x3) x4) x5)).c5
  have c6a := fun x1 x2 x3 x4 x5 x6 => (CS.out _ (below_alloc (below_alloc (below_alloc (below_alloc (below_alloc (below_alloc (Below.refl w.heap.size w) x1) x2) x3) x4) x5) x6)).c6
  clear h hX hs hp hc
  have HL7 := Aside0.mk (show LexAt (((((((w.alloc (.cells #[.pointer (some ⟨B, o, none⟩)] 69)).alloc (.cells #[.int .i64 0, .string ⟨#[]⟩, .int .i64 0, .int .i64 0, .int .i64 0, .int .i64 0] 88)).alloc (.cells #[.int .i64 (p : Int)] 3)).alloc (.cells #[.int .i64 (p : Int)] 3)).alloc (.cells #[.int .i64 (wd : Int)] 3)).alloc (.cells #[.int .i64 (c : Int)] 3)).alloc (.cells #[.int .i64 (c : Int)] 3)) B o s .nilIface p p wd c c from CS.out _ (below_alloc (below_alloc (below_alloc (below_alloc (below_alloc (below_alloc (below_alloc (Below.refl w.heap.size w) _) _) _) _) _) _) _))
  have HK7 := Aside0.mk (show Kept B o w (((((((w.alloc (.cells #[.pointer (some ⟨B, o, none⟩)] 69)).alloc (.cells #[.int .i64 0, .string ⟨#[]⟩, .int .i64 0, .int .i64 0, .int .i64 0, .int .i64 0] 88)).alloc (.cells #[.int .i64 (p : Int)] 3)).alloc (.cells #[.int .i64 (p : Int)] 3)).alloc (.cells #[.int .i64 (wd : Int)] 3)).alloc (.cells #[.int .i64 (c : Int)] 3)).alloc (.cells #[.int .i64 (c : Int)] 3)) from (Kept.alloc (Kept.alloc (Kept.alloc (Kept.alloc (Kept.alloc (Kept.alloc (Kept.alloc (Kept.refl B o w) HB.out _) HB.out _) HB.out _) HB.out _) HB.out _) HB.out _) HB.out _))
  have HX7 := Aside0.mk (HX.out.kept HK7.out)
  have G0 := Aside0.mk (show (((((((w.alloc (.cells #[.pointer (some ⟨B, o, none⟩)] 69)).alloc (.cells #[.int .i64 0, .string ⟨#[]⟩, .int .i64 0, .int .i64 0, .int .i64 0, .int .i64 0] 88)).alloc (.cells #[.int .i64 (p : Int)] 3)).alloc (.cells #[.int .i64 (p : Int)] 3)).alloc (.cells #[.int .i64 (wd : Int)] 3)).alloc (.cells #[.int .i64 (c : Int)] 3)).alloc (.cells #[.int .i64 (c : Int)] 3)).heap[w.heap.size]? = some (.cells #[.pointer (some ⟨B, o, none⟩)] 69) from (Below.heap_alloc _ _ _ (by simp <;> omega)).trans ((Below.heap_alloc _ _ _ (by simp <;> omega)).trans ((Below.heap_alloc _ _ _ (by simp <;> omega)).trans ((Below.heap_alloc _ _ _ (by simp <;> omega)).trans ((Below.heap_alloc _ _ _ (by simp <;> omega)).trans ((Below.heap_alloc _ _ _ (by simp <;> omega)).trans (new_alloc _ _ _ (by simp))))))))
  have G1 := Aside0.mk (show (((((((w.alloc (.cells #[.pointer (some ⟨B, o, none⟩)] 69)).alloc (.cells #[.int .i64 0, .string ⟨#[]⟩, .int .i64 0, .int .i64 0, .int .i64 0, .int .i64 0] 88)).alloc (.cells #[.int .i64 (p : Int)] 3)).alloc (.cells #[.int .i64 (p : Int)] 3)).alloc (.cells #[.int .i64 (wd : Int)] 3)).alloc (.cells #[.int .i64 (c : Int)] 3)).alloc (.cells #[.int .i64 (c : Int)] 3)).heap[w.heap.size + 1]? = some (.cells #[.int .i64 0, .string ⟨#[]⟩, .int .i64 0, .int .i64 0, .int .i64 0, .int .i64 0] 88) from (Below.heap_alloc _ _ _ (by simp <;> omega)).trans ((Below.heap_alloc _ _ _ (by simp <;> omega)).trans ((Below.heap_alloc _ _ _ (by simp <;> omega)).trans ((Below.heap_alloc _ _ _ (by simp <;> omega)).trans ((Below.heap_alloc _ _ _ (by simp <;> omega)).trans (new_alloc _ _ _ (by simp)))))))
  have G2 := Aside0.mk (show (((((((w.alloc (.cells #[.pointer (some ⟨B, o, none⟩)] 69)).alloc (.cells #[.int .i64 0, .string ⟨#[]⟩, .int .i64 0, .int .i64 0, .int .i64 0, .int .i64 0] 88)).alloc (.cells #[.int .i64 (p : Int)] 3)).alloc (.cells #[.int .i64 (p : Int)] 3)).alloc (.cells #[.int .i64 (wd : Int)] 3)).alloc (.cells #[.int .i64 (c : Int)] 3)).alloc (.cells #[.int .i64 (c : Int)] 3)).heap[w.heap.size + 1 + 1]? = some (.cells #[.int .i64 (p : Int)] 3) from (Below.heap_alloc _ _ _ (by simp <;> omega)).trans ((Below.heap_alloc _ _ _ (by simp <;> omega)).trans ((Below.heap_alloc _ _ _ (by simp <;> omega)).trans ((Below.heap_alloc _ _ _ (by simp <;> omega)).trans (new_alloc _ _ _ (by simp))))))
  have G3 := Aside0.mk (show (((((((w.alloc (.cells #[.pointer (some ⟨B, o, none⟩)] 69)).alloc (.cells #[.int .i64 0, .string ⟨#[]⟩, .int .i64 0, .int .i64 0, .int .i64 0, .int .i64 0] 88)).alloc (.cells #[.int .i64 (p : Int)] 3)).alloc (.cells #[.int .i64 (p : Int)] 3)).alloc (.cells #[.int .i64 (wd : Int)] 3)).alloc (.cells #[.int .i64 (c : Int)] 3)).alloc (.cells #[.int .i64 (c : Int)] 3)).heap[w.heap.size + 1 + 1 + 1]? = some (.cells #[.int .i64 (p : Int)] 3) from (Below.heap_alloc _ _ _ (by simp <;> omega)).trans ((Below.heap_alloc _ _ _ (by simp <;> omega)).trans ((Below.heap_alloc _ _ _ (by simp <;> omega)).trans (new_alloc _ _ _ (by simp)))))
  have G4 := Aside0.mk (show (((((((w.alloc (.cells #[.pointer (some ⟨B, o, none⟩)] 69)).alloc (.cells #[.int .i64 0, .string ⟨#[]⟩, .int .i64 0, .int .i64 0, .int .i64 0, .int .i64 0] 88)).alloc (.cells #[.int .i64 (p : Int)] 3)).alloc (.cells #[.int .i64 (p : Int)] 3)).alloc (.cells #[.int .i64 (wd : Int)] 3)).alloc (.cells #[.int .i64 (c : Int)] 3)).alloc (.cells #[.int .i64 (c : Int)] 3)).heap[w.heap.size + 1 + 1 + 1 + 1]? = some (.cells #[.int .i64 (wd : Int)] 3) from (Below.heap_alloc _ _ _ (by simp <;> omega)).trans ((Below.heap_alloc _ _ _ (by simp <;> omega)).trans (new_alloc _ _ _ (by simp))))
  have G5 := Aside0.mk (show (((((((w.alloc (.cells #[.pointer (some ⟨B, o, none⟩)] 69)).alloc (.cells #[.int .i64 0, .string ⟨#[]⟩, .int .i64 0, .int .i64 0, .int .i64 0, .int .i64 0] 88)).alloc (.cells #[.int .i64 (p : Int)] 3)).alloc (.cells #[.int .i64 (p : Int)] 3)).alloc (.cells #[.int .i64 (wd : Int)] 3)).alloc (.cells #[.int .i64 (c : Int)] 3)).alloc (.cells #[.int .i64 (c : Int)] 3)).heap[w.heap.size + 1 + 1 + 1 + 1 + 1]? = some (.cells #[.int .i64 (c : Int)] 3) from (Below.heap_alloc _ _ _ (by simp <;> omega)).trans (new_alloc _ _ _ (by simp)))
  have G6 := Aside0.mk (show (((((((w.alloc (.cells #[.pointer (some ⟨B, o, none⟩)] 69)).alloc (.cells #[.int .i64 0, .string ⟨#[]⟩, .int .i64 0, .int .i64 0, .int .i64 0, .int .i64 0] 88)).alloc (.cells #[.int .i64 (p : Int)] 3)).alloc (.cells #[.int .i64 (p : Int)] 3)).alloc (.cells #[.int .i64 (wd : Int)] 3)).alloc (.cells #[.int .i64 (c : Int)] 3)).alloc (.cells #[.int .i64 (c : Int)] 3)).heap[w.heap.size + 1 + 1 + 1 + 1 + 1 + 1]? = some (.cells #[.int .i64 (c : Int)] 3) from new_alloc _ _ _ (by simp))
  have SZ := Aside0.mk (show (((((((w.alloc (.cells #[.pointer (some ⟨B, o, none⟩)] 69)).alloc (.cells #[.int .i64 0, .string ⟨#[]⟩, .int .i64 0, .int .i64 0, .int .i64 0, .int .i64 0] 88)).alloc (.cells #[.int .i64 (p : Int)] 3)).alloc (.cells #[.int .i64 (p : Int)] 3)).alloc (.cells #[.int .i64 (wd : Int)] 3)).alloc (.cells #[.int .i64 (c : Int)] 3)).alloc (.cells #[.int .i64 (c : Int)] 3)).heap.size = w.heap.size + 7 by simp)
  have C := Aside0.mk (scan_calls HX7.out HL7.out HS.out.1 HS.out.2.1 HS.out.2.2 _ rfl)
  go_enter_defers Tryz.func41, Tryz.ntmps41
  go_wp2_with fail
  refine C.out.mono ?_
  clear C c2a c3a c4a c5a c6a
  intro x w1 hO
  cases hV : scanE s (s.size + 1) p c with
  | eof q cq =>
    rw [hV] at hO
    obtain ⟨hk, rfl, wd1, hl⟩ := hO
    have HK1 := Aside0.mk hk
    have HL1 := Aside0.mk hl
    have HV := Aside0.mk hV
    have HKW := Aside0.mk (HK7.out.trans hk)
    have B0 := Aside0.mk ((HK1.out.block (w.heap.size) (by rw [SZ.out]; omega) (by have := HB.out; omega)).trans G0.out)
    have B1 := Aside0.mk ((HK1.out.block (w.heap.size + 1) (by rw [SZ.out]; omega) (by have := HB.out; omega)).trans G1.out)
    have B2 := Aside0.mk ((HK1.out.block (w.heap.size + 1 + 1) (by rw [SZ.out]; omega) (by have := HB.out; omega)).trans G2.out)
    have B3 := Aside0.mk ((HK1.out.block (w.heap.size + 1 + 1 + 1) (by rw [SZ.out]; omega) (by have := HB.out; omega)).trans G3.out)
    have B4 := Aside0.mk ((HK1.out.block (w.heap.size + 1 + 1 + 1 + 1) (by rw [SZ.out]; omega) (by have := HB.out; omega)).trans G4.out)
    have B5 := Aside0.mk ((HK1.out.block (w.heap.size + 1 + 1 + 1 + 1 + 1) (by rw [SZ.out]; omega) (by have := HB.out; omega)).trans G5.out)
    have B6 := Aside0.mk ((HK1.out.block (w.heap.size + 1 + 1 + 1 + 1 + 1 + 1) (by rw [SZ.out]; omega) (by have := HB.out; omega)).trans G6.out)
    have nB : w.heap.size + 1 ≠ B := by have := HB.out; omega
    obtain ⟨⟨m0, m1, m2, m3, m4, m5⟩, z0, z1, z2, z3, z4, z5⟩ := cells6 B1.out
    clear hk hl hV
    unfold noTok
    go_wp2
    refine leaves_cons (f := 57) (args := #[.pointer (some ⟨w.heap.size + 1 + 1, 0, none⟩), .pointer (some ⟨w.heap.size, 0, none⟩), .pointer (some ⟨w.heap.size + 1 + 1 + 1, 0, none⟩), .pointer (some ⟨w.heap.size + 1 + 1 + 1 + 1, 0, none⟩), .pointer (some ⟨w.heap.size + 1 + 1 + 1 + 1 + 1, 0, none⟩), .pointer (some ⟨w.heap.size + 1 + 1 + 1 + 1 + 1 + 1, 0, none⟩)]) (by simp) (by simp [go_sem]) ?_
    have HLf := (LexAt.farB (i := 5) (v := .int .i64 0) nB (LexAt.farB (i := 4) (v := .int .i64 0) nB (LexAt.farB (i := 3) (v := .int .i64 0) nB (LexAt.farB (i := 2) (v := .int .i64 0) nB (LexAt.farB (i := 1) (v := .string ⟨#[]⟩) nB (LexAt.farB (i := 0) (v := .int .i64 0) nB HL1.out))))))
    refine (peek1_calls (a := p) (p := p) (wd := wd) (ca := c) (c := c) HLf .returning ?_ ?_ ?_ ?_ ?_ ?_ ?_ ?_ ?_ ?_ ?_ ?_).mono ?_
    · iterate 6 refine (cs_other (ne_blk (by omega))).trans ?_
      exact one_cell B0.out
    · iterate 6 refine (cs_other (ne_blk (by omega))).trans ?_
      exact one_cell B2.out
    · iterate 6 refine (cs_other (ne_blk (by omega))).trans ?_
      exact one_cell B3.out
    · iterate 6 refine (cs_other (ne_blk (by omega))).trans ?_
      exact one_cell B4.out
    · iterate 6 refine (cs_other (ne_blk (by omega))).trans ?_
      exact one_cell B5.out
    · iterate 6 refine (cs_other (ne_blk (by omega))).trans ?_
      exact one_cell B6.out
    · have := HB.out; omega
    · have := HB.out; omega
    · have := HB.out; omega
    · have := HB.out; omega
    · have := HB.out; omega
    · have := HB.out; omega
    rintro e1 u1 w2 ⟨rfl, rfl, hl2, hk2⟩
    have hg := (hk2.block (w.heap.size + 1) (by have h1 := HK1.out.size; rw [SZ.out] at h1; simp; omega) nB).trans (heap_set (i := 5) (heap_set (i := 4) (heap_set (i := 3) (heap_set (i := 2) (heap_set (i := 1) (heap_set (i := 0) B1.out (.int .i64 0)) (.string ⟨#[]⟩)) (.int .i64 0)) (.int .i64 0)) (.int .i64 0)) (.int .i64 0))
    refine ⟨_, results_ct rfl _ _ (w.heap.size + 1) 88 _ (0, 0) _ rfl hg Tryz.underlying88 rfl (by kernel_rfl), ?_⟩
    refine (show PPost w B o s p wd c (scanE s (s.size + 1) p c) _ _ from ?_)
    unfold PPost
    rw [HV.out]
    refine ⟨?_, rfl, hl2⟩
    exact Kept.trans (Kept.six HKW.out (by omega) HB.out) hk2
  | bad =>
    rw [hV] at hO
    obtain ⟨hk, r, rfl, hr, a1, p1, wd1, ca1, c1, hl⟩ := hO
    obtain ⟨T, cs, rfl, hT⟩ := hr
    have ER := Aside0.mk (show LexErr (.iface T (.agg cs)) from ⟨T, cs, rfl, hT⟩)
    clear hT
    have HK1 := Aside0.mk hk
    have HL1 := Aside0.mk hl
    have HV := Aside0.mk hV
    have HKW := Aside0.mk (HK7.out.trans hk)
    have B0 := Aside0.mk ((HK1.out.block (w.heap.size) (by rw [SZ.out]; omega) (by have := HB.out; omega)).trans G0.out)
    have B1 := Aside0.mk ((HK1.out.block (w.heap.size + 1) (by rw [SZ.out]; omega) (by have := HB.out; omega)).trans G1.out)
    have B2 := Aside0.mk ((HK1.out.block (w.heap.size + 1 + 1) (by rw [SZ.out]; omega) (by have := HB.out; omega)).trans G2.out)
    have B3 := Aside0.mk ((HK1.out.block (w.heap.size + 1 + 1 + 1) (by rw [SZ.out]; omega) (by have := HB.out; omega)).trans G3.out)
    have B4 := Aside0.mk ((HK1.out.block (w.heap.size + 1 + 1 + 1 + 1) (by rw [SZ.out]; omega) (by have := HB.out; omega)).trans G4.out)
    have B5 := Aside0.mk ((HK1.out.block (w.heap.size + 1 + 1 + 1 + 1 + 1) (by rw [SZ.out]; omega) (by have := HB.out; omega)).trans G5.out)
    have B6 := Aside0.mk ((HK1.out.block (w.heap.size + 1 + 1 + 1 + 1 + 1 + 1) (by rw [SZ.out]; omega) (by have := HB.out; omega)).trans G6.out)
    have nB : w.heap.size + 1 ≠ B := by have := HB.out; omega
    obtain ⟨⟨m0, m1, m2, m3, m4, m5⟩, z0, z1, z2, z3, z4, z5⟩ := cells6 B1.out
    clear hk hl hV
    unfold noTok
    go_wp2
    refine leaves_cons (f := 57) (args := #[.pointer (some ⟨w.heap.size + 1 + 1, 0, none⟩), .pointer (some ⟨w.heap.size, 0, none⟩), .pointer (some ⟨w.heap.size + 1 + 1 + 1, 0, none⟩), .pointer (some ⟨w.heap.size + 1 + 1 + 1 + 1, 0, none⟩), .pointer (some ⟨w.heap.size + 1 + 1 + 1 + 1 + 1, 0, none⟩), .pointer (some ⟨w.heap.size + 1 + 1 + 1 + 1 + 1 + 1, 0, none⟩)]) (by simp) (by simp [go_sem]) ?_
    have HLf := (LexAt.farB (i := 5) (v := .int .i64 0) nB (LexAt.farB (i := 4) (v := .int .i64 0) nB (LexAt.farB (i := 3) (v := .int .i64 0) nB (LexAt.farB (i := 2) (v := .int .i64 0) nB (LexAt.farB (i := 1) (v := .string ⟨#[]⟩) nB (LexAt.farB (i := 0) (v := .int .i64 0) nB HL1.out))))))
    refine (peek1_calls (a := p) (p := p) (wd := wd) (ca := c) (c := c) HLf .returning ?_ ?_ ?_ ?_ ?_ ?_ ?_ ?_ ?_ ?_ ?_ ?_).mono ?_
    · iterate 6 refine (cs_other (ne_blk (by omega))).trans ?_
      exact one_cell B0.out
    · iterate 6 refine (cs_other (ne_blk (by omega))).trans ?_
      exact one_cell B2.out
    · iterate 6 refine (cs_other (ne_blk (by omega))).trans ?_
      exact one_cell B3.out
    · iterate 6 refine (cs_other (ne_blk (by omega))).trans ?_
      exact one_cell B4.out
    · iterate 6 refine (cs_other (ne_blk (by omega))).trans ?_
      exact one_cell B5.out
    · iterate 6 refine (cs_other (ne_blk (by omega))).trans ?_
      exact one_cell B6.out
    · have := HB.out; omega
    · have := HB.out; omega
    · have := HB.out; omega
    · have := HB.out; omega
    · have := HB.out; omega
    · have := HB.out; omega
    rintro e1 u1 w2 ⟨rfl, rfl, hl2, hk2⟩
    have hg := (hk2.block (w.heap.size + 1) (by have h1 := HK1.out.size; rw [SZ.out] at h1; simp; omega) nB).trans (heap_set (i := 5) (heap_set (i := 4) (heap_set (i := 3) (heap_set (i := 2) (heap_set (i := 1) (heap_set (i := 0) B1.out (.int .i64 0)) (.string ⟨#[]⟩)) (.int .i64 0)) (.int .i64 0)) (.int .i64 0)) (.int .i64 0))
    refine ⟨_, results_ct rfl _ _ (w.heap.size + 1) 88 _ (0, 0) _ rfl hg Tryz.underlying88 rfl (by kernel_rfl), ?_⟩
    refine (show PPost w B o s p wd c (scanE s (s.size + 1) p c) _ _ from ?_)
    unfold PPost
    rw [HV.out]
    refine ⟨?_, _, rfl, ER.out, hl2⟩
    exact Kept.trans (Kept.six HKW.out (by omega) HB.out) hk2
  | tok k9 a9 E9 ca9 c9 =>
    rw [hV] at hO
    obtain ⟨hk, rfl, wd1, hl⟩ := hO
    have HK1 := Aside0.mk hk
    have HL1 := Aside0.mk hl
    have HV := Aside0.mk hV
    have HKW := Aside0.mk (HK7.out.trans hk)
    have B0 := Aside0.mk ((HK1.out.block (w.heap.size) (by rw [SZ.out]; omega) (by have := HB.out; omega)).trans G0.out)
    have B1 := Aside0.mk ((HK1.out.block (w.heap.size + 1) (by rw [SZ.out]; omega) (by have := HB.out; omega)).trans G1.out)
    have B2 := Aside0.mk ((HK1.out.block (w.heap.size + 1 + 1) (by rw [SZ.out]; omega) (by have := HB.out; omega)).trans G2.out)
    have B3 := Aside0.mk ((HK1.out.block (w.heap.size + 1 + 1 + 1) (by rw [SZ.out]; omega) (by have := HB.out; omega)).trans G3.out)
    have B4 := Aside0.mk ((HK1.out.block (w.heap.size + 1 + 1 + 1 + 1) (by rw [SZ.out]; omega) (by have := HB.out; omega)).trans G4.out)
    have B5 := Aside0.mk ((HK1.out.block (w.heap.size + 1 + 1 + 1 + 1 + 1) (by rw [SZ.out]; omega) (by have := HB.out; omega)).trans G5.out)
    have B6 := Aside0.mk ((HK1.out.block (w.heap.size + 1 + 1 + 1 + 1 + 1 + 1) (by rw [SZ.out]; omega) (by have := HB.out; omega)).trans G6.out)
    have nB : w.heap.size + 1 ≠ B := by have := HB.out; omega
    obtain ⟨⟨m0, m1, m2, m3, m4, m5⟩, z0, z1, z2, z3, z4, z5⟩ := cells6 B1.out
    clear hk hl hV
    unfold tokV
    go_wp2
    refine leaves_cons (f := 57) (args := #[.pointer (some ⟨w.heap.size + 1 + 1, 0, none⟩), .pointer (some ⟨w.heap.size, 0, none⟩), .pointer (some ⟨w.heap.size + 1 + 1 + 1, 0, none⟩), .pointer (some ⟨w.heap.size + 1 + 1 + 1 + 1, 0, none⟩), .pointer (some ⟨w.heap.size + 1 + 1 + 1 + 1 + 1, 0, none⟩), .pointer (some ⟨w.heap.size + 1 + 1 + 1 + 1 + 1 + 1, 0, none⟩)]) (by simp) (by simp [go_sem]) ?_
    have HLf := (LexAt.farB (i := 5) (v := .int .i64 (c9 : Int)) nB (LexAt.farB (i := 4) (v := .int .i64 (ca9 : Int)) nB (LexAt.farB (i := 3) (v := .int .i64 (E9 : Int)) nB (LexAt.farB (i := 2) (v := .int .i64 (a9 : Int)) nB (LexAt.farB (i := 1) (v := .string (s.extract a9 E9)) nB (LexAt.farB (i := 0) (v := .int .i64 (k9 : Int)) nB HL1.out))))))
    refine (peek1_calls (a := p) (p := p) (wd := wd) (ca := c) (c := c) HLf .returning ?_ ?_ ?_ ?_ ?_ ?_ ?_ ?_ ?_ ?_ ?_ ?_).mono ?_
    · iterate 6 refine (cs_other (ne_blk (by omega))).trans ?_
      exact one_cell B0.out
    · iterate 6 refine (cs_other (ne_blk (by omega))).trans ?_
      exact one_cell B2.out
    · iterate 6 refine (cs_other (ne_blk (by omega))).trans ?_
      exact one_cell B3.out
    · iterate 6 refine (cs_other (ne_blk (by omega))).trans ?_
      exact one_cell B4.out
    · iterate 6 refine (cs_other (ne_blk (by omega))).trans ?_
      exact one_cell B5.out
    · iterate 6 refine (cs_other (ne_blk (by omega))).trans ?_
      exact one_cell B6.out
    · have := HB.out; omega
    · have := HB.out; omega
    · have := HB.out; omega
    · have := HB.out; omega
    · have := HB.out; omega
    · have := HB.out; omega
    rintro e1 u1 w2 ⟨rfl, rfl, hl2, hk2⟩
    have hg := (hk2.block (w.heap.size + 1) (by have h1 := HK1.out.size; rw [SZ.out] at h1; simp; omega) nB).trans (heap_set (i := 5) (heap_set (i := 4) (heap_set (i := 3) (heap_set (i := 2) (heap_set (i := 1) (heap_set (i := 0) B1.out (.int .i64 (k9 : Int))) (.string (s.extract a9 E9))) (.int .i64 (a9 : Int))) (.int .i64 (E9 : Int))) (.int .i64 (ca9 : Int))) (.int .i64 (c9 : Int)))
    refine ⟨_, results_ct rfl _ _ (w.heap.size + 1) 88 _ (0, 0) _ rfl hg Tryz.underlying88 rfl (by kernel_rfl), ?_⟩
    refine (show PPost w B o s p wd c (scanE s (s.size + 1) p c) _ _ from ?_)
    unfold PPost
    rw [HV.out]
    refine ⟨?_, rfl, hl2⟩
    exact Kept.trans (Kept.six HKW.out (by omega) HB.out) hk2
end
end Go.Proofs.YtmjoebnphacadaaGreatDoor.Lex
/- parse.token: isEOF, isOneOf. -/
namespace Go.Proofs.YtmjoebnphacadaaGreatDoor.Lex
open Go.RowKit Go.Lib Go.Proofs.YtmjoebnphacadaaGreatDoorW.PrintWords Go.Proofs.YtmjoebnphacadaaGreatDoorW.PrintLast
set_option linter.unusedVariables false
set_option linter.unusedSimpArgs false
/-- A row of kinds in memory. -/
def KindsAt (w : World) (g : Nat) (ks : List Nat) : Prop := ∀ i, i < ks.length → w.cell? ⟨g, i, none⟩ = some (.int .i64 ((ks.getD i 0 : Nat) : Int))
theorem KindsAt.below {w w' : World} {g n : Nat} {ks : List Nat} (h : KindsAt w g ks) (hb : Below n w w') (hg : g < n) : KindsAt w' g ks := fun i hi => (hb.cell hg).trans (h i hi)
/-- The place of a kind from a place on. -/
def kIdx (k : Nat) : List Nat → Nat → Int
  | [], _ => -1
  | x :: r, i => if k = x then (i : Int) else kIdx k r (i + 1)
theorem kIdx_has (k : Nat) : ∀ (l : List Nat) (i : Nat), decide (kIdx k l i ≥ 0) = l.contains k
  | [], i => by simp [kIdx]
  | x :: r, i => by
    unfold kIdx
    by_cases h : k = x
    · rw [if_pos h]; simp [h]
    · rw [if_neg h, kIdx_has k r (i + 1)]
      simp [h]
theorem add_at (g i : Nat) : (⟨g, 0, none⟩ : Addr).add i = ⟨g, i, none⟩ := by unfold Addr.add; split <;> simp_all
set_option maxHeartbeats 1600000 in
set_option maxRecDepth 100000 in
theorem index_calls (g n cap : Nat) (ks : List Nat) (k : Nat) (w : World) (h : KindsAt w g ks) (hn : ks.length = n) (hn2 : n ≤ 1000) :
    Calls Tryz.prog 68 #[.slice (some ⟨g, 0, none⟩) n cap, .int .i64 (k : Int)] w fun x w' => x = .returned (.int .i64 (kIdx k ks 0)) ∧ w' = w := by
  have H := Aside0.mk h
  clear h
  obtain ⟨R, hR⟩ : ∃ R, kIdx k ks 0 = R := ⟨_, rfl⟩
  rw [hR]
  have HR := Aside0.mk hR
  clear hR
  go_enter Tryz.func68, Tryz.ntmps68
  go_wp2
  go_loopw [8] (fun v8 wr => ∃ i : Nat, v8 = .int .i64 (i : Int) ∧ i ≤ n ∧ Aside0 (wr = w) ∧ Aside0 (kIdx k (ks.drop i) i = R)) (fun v8 _ => n - (RowKit.intOf v8).toNat)
  case atStart => exact ⟨0, rfl, Nat.zero_le _, ⟨rfl⟩, HR⟩
  case round =>
    obtain ⟨i, rfl, hi, HW, HE⟩ := hrel
    obtain rfl := HW.out
    by_cases hlt : i < n
    · have hc := H.out i (by omega)
      have hd : ks.drop i = ks.getD i 0 :: ks.drop (i + 1) := by
        rw [List.drop_eq_getElem_cons (by omega), List.getD_eq_getElem?_getD, List.getElem?_eq_getElem (by omega)]
        rfl
      have hE := HE.out
      rw [hd] at hE
      unfold kIdx at hE
      have had := add_at g i
      generalize ks.getD i 0 = x at hc hE
      by_cases hk : k = x
      · rw [if_pos hk] at hE
        have hb : ((k : Int) == (x : Int)) = true := by simp [hk]
        subst hE
        clear HE hd
        go_wp2
        go_ret
        exact ⟨rfl, rfl⟩
      · rw [if_neg hk] at hE
        have hb : ((k : Int) == (x : Int)) = false := by simp; omega
        have HE2 := Aside0.mk hE
        clear HE hd hE
        go_wp2
        go_roundw
        case rel => exact ⟨i + 1, by go_num, by omega, ⟨by first | rfl | trivial⟩, HE2⟩
        case measure => simp [RowKit.intOf]; omega
    · have hi2 : i = n := by omega
      have hE := HE.out
      rw [List.drop_eq_nil_of_le (by omega)] at hE
      unfold kIdx at hE
      subst hE
      clear HE
      go_wp2
      go_ret
      exact ⟨rfl, rfl⟩
set_option maxRecDepth 100000 in
theorem contains_calls (g n cap : Nat) (ks : List Nat) (k : Nat) (w : World) (h : KindsAt w g ks) (hn : ks.length = n) (hn2 : n ≤ 1000) :
    Calls Tryz.prog 58 #[.slice (some ⟨g, 0, none⟩) n cap, .int .i64 (k : Int)] w fun x w' => x = .returned (.bool (ks.contains k)) ∧ w' = w := by
  have C := Aside0.mk (index_calls g n cap ks k w h hn hn2)
  rw [← kIdx_has k ks 0]
  generalize kIdx k ks 0 = v at C ⊢
  clear h
  go_enter Tryz.func58, Tryz.ntmps58
  go_wp2_with fail
  refine C.out.mono ?_
  rintro x w1 ⟨rfl, rfl⟩
  go_wp2
  go_ret
  exact ⟨rfl, rfl⟩
set_option maxRecDepth 100000 in
theorem oneOf_calls (k : Nat) (v : ByteArray) (z1 z2 z3 z4 : Int) (g n cap : Nat) (ks : List Nat) (w : World) (h : KindsAt w g ks) (hn : ks.length = n) (hn2 : n ≤ 1000) (hg : g < w.heap.size) :
    Calls Tryz.prog 42 #[.agg #[.int .i64 (k : Int), .string v, .int .i64 z1, .int .i64 z2, .int .i64 z3, .int .i64 z4], .slice (some ⟨g, 0, none⟩) n cap] w fun x w' => x = .returned (.bool (ks.contains k)) ∧ Below w.heap.size w w' := by
  have C := Aside0.mk (fun W (hb : Below w.heap.size w W) => contains_calls g n cap ks k W (h.below hb hg) hn hn2)
  generalize ks.contains k = b at C ⊢
  clear h
  go_enter Tryz.func42, Tryz.ntmps42
  go_wp2_with fail
  refine (C.out _ (below_alloc (Below.refl _ _) _)).mono ?_
  rintro x w1 ⟨rfl, rfl⟩
  go_wp2
  go_ret
  exact ⟨rfl, below_alloc (Below.refl _ _) _⟩
set_option maxRecDepth 100000 in
theorem isEOF_calls (k : Nat) (v : ByteArray) (z1 z2 z3 z4 : Int) (w : World) :
    Calls Tryz.prog 40 #[.agg #[.int .i64 (k : Int), .string v, .int .i64 z1, .int .i64 z2, .int .i64 z3, .int .i64 z4]] w fun x w' => x = .returned (.bool (decide (k = 0))) ∧ Below w.heap.size w w' := by
  have hk : ((k : Int) == 0) = decide (k = 0) := by by_cases h : k = 0 <;> simp [h] <;> omega
  rw [← hk]
  clear hk
  generalize ((k : Nat) : Int) = K
  go_enter Tryz.func40, Tryz.ntmps40
  go_wp2
  go_ret
  exact ⟨rfl, below_alloc (Below.refl _ _) _⟩
end Go.Proofs.YtmjoebnphacadaaGreatDoor.Lex
/- errors.Is, where the target is a sentinel of errors.New's make: the sentinel itself, another such error, an error of the lexer. -/
namespace Go.Proofs.YtmjoebnphacadaaGreatDoor.Lex
open Go.RowKit Go.Lib Go.Extern.Stop Go.Stop Go.Extern Go.Proofs.YtmjoebnphacadaaGreatDoorW.PrintWords Go.Proofs.YtmjoebnphacadaaGreatDoorW.PrintLast
set_option linter.unusedVariables false
set_option linter.unusedSimpArgs false
theorem isTypeOf (v : Value) (w : World) : (Extern.ReflectliteType.typeOf #[.iface 64 v]).run Tryz.prog w = .ok (.iface 108 (.agg #[.pointer (some ⟨16, 64, none⟩)])) w := by kernel_rfl
def cmpE : Array Value → Sem Value := Extern.ReflectliteType.method fun t => do Go.Extern.Rtype.noPackHeld "Comparable" t; pure (.bool (← typeInfo t).comparable)
theorem isComparable (w : World) : (cmpE #[.agg #[.pointer (some ⟨16, 64, none⟩)]]).run Tryz.prog w = .ok (.bool true) w := by kernel_rfl
theorem isMethodComparable (v : Value) (w : World) : (Go.method 292 108 v "Comparable").run Tryz.prog w = .ok (108, v) w := by kernel_rfl
theorem isComp : (Tryz.prog.info? 64).map (·.comparable) = some true := by kernel_rfl
theorem isSize : (Tryz.prog.info? 66).map (·.size) = some 1 := by kernel_rfl
theorem noIsE (v : Value) (xT : TypeId) (w : World) : (Instr.typeAssert (.iface 64 v) xT 110 true).run Tryz.prog w = .ok (.tuple #[.nilIface, .bool false]) w := run_typeAssert_lacksB Tryz.underlying110 (by kernel_rfl) (by kernel_rfl) v xT w
theorem noUnwrapE (v : Value) (xT : TypeId) (w : World) : (Instr.typeAssert (.iface 64 v) xT 113 true).run Tryz.prog w = .ok (.tuple #[.nilIface, .bool false]) w := run_typeAssert_lacksB Tryz.underlying113 (by kernel_rfl) (by kernel_rfl) v xT w
theorem noUnwrapsE (v : Value) (xT : TypeId) (w : World) : (Instr.typeAssert (.iface 64 v) xT 115 true).run Tryz.prog w = .ok (.tuple #[.nilIface, .bool false]) w := run_typeAssert_lacksB Tryz.underlying115 (by kernel_rfl) (by kernel_rfl) v xT w
structure LexT (T : TypeId) : Prop where
  a : ∀ (v : Value) (xT : TypeId) (w : World), (Instr.typeAssert (.iface T v) xT 110 true).run Tryz.prog w = .ok (.tuple #[.nilIface, .bool false]) w
  b : ∀ (v : Value) (xT : TypeId) (w : World), (Instr.typeAssert (.iface T v) xT 113 true).run Tryz.prog w = .ok (.tuple #[.nilIface, .bool false]) w
  c : ∀ (v : Value) (xT : TypeId) (w : World), (Instr.typeAssert (.iface T v) xT 115 true).run Tryz.prog w = .ok (.tuple #[.nilIface, .bool false]) w
  d : T ≠ 64
theorem lexT1 : LexT 123 := ⟨run_typeAssert_lacksB Tryz.underlying110 (by kernel_rfl) (by kernel_rfl), run_typeAssert_lacksB Tryz.underlying113 (by kernel_rfl) (by kernel_rfl), run_typeAssert_lacksB Tryz.underlying115 (by kernel_rfl) (by kernel_rfl), by decide⟩
theorem lexT2 : LexT 106 := ⟨run_typeAssert_lacksB Tryz.underlying110 (by kernel_rfl) (by kernel_rfl), run_typeAssert_lacksB Tryz.underlying113 (by kernel_rfl) (by kernel_rfl), run_typeAssert_lacksB Tryz.underlying115 (by kernel_rfl) (by kernel_rfl), by decide⟩
theorem lexT3 : LexT 125 := ⟨run_typeAssert_lacksB Tryz.underlying110 (by kernel_rfl) (by kernel_rfl), run_typeAssert_lacksB Tryz.underlying113 (by kernel_rfl) (by kernel_rfl), run_typeAssert_lacksB Tryz.underlying115 (by kernel_rfl) (by kernel_rfl), by decide⟩
set_option maxRecDepth 100000 in
theorem is_same (a : Addr) (w : World) :
    Calls Tryz.prog 31 #[.iface 64 (.pointer (some a)), .iface 64 (.pointer (some a))] w fun e w' => e = .returned (.bool true) ∧ w' = w := by
  obtain ⟨i, hi, hcmp⟩ := Option.map_eq_some_iff.1 isComp
  obtain ⟨j, hj, hjs⟩ := Option.map_eq_some_iff.1 isSize
  have h8 := @run_callFunc_extern Tryz.prog 38 _ Extern.ReflectliteType.typeOf Tryz.func38 (by kernel_rfl) (by kernel_rfl) (by kernel_rfl) (by kernel_rfl)
  have h32 := @run_callFunc_extern Tryz.prog 108 _ cmpE Tryz.func108 (by kernel_rfl) (by kernel_rfl) (by kernel_rfl) (by kernel_rfl)
  have tT := isTypeOf
  have cT := isComparable
  have mR := isMethodComparable
  have heq := run_eql_iface_ptr_same (P := Tryz.prog) w a Tryz.underlying37 Tryz.underlying64 hi hcmp hj
  go_enter Tryz.func31, Tryz.ntmps31
  go_wp2
  refine wp_loop_rounds 1 ?_
  rw [rounds_succ]
  go_wp2
  go_ret
  exact ⟨rfl, rfl⟩
set_option maxRecDepth 100000 in
theorem is_other (a b : Addr) (ca cb : Array Value) (ta tb : TypeId) (w : World) (hne : a ≠ b) (ha : w.heap[a.block]? = some (.cells ca ta (0, 0))) (hb : w.heap[b.block]? = some (.cells cb tb (0, 0))) :
    Calls Tryz.prog 31 #[.iface 64 (.pointer (some a)), .iface 64 (.pointer (some b))] w fun e w' => e = .returned (.bool false) ∧ w' = w := by
  obtain ⟨i, hi, hcmp⟩ := Option.map_eq_some_iff.1 isComp
  obtain ⟨j, hj, hjs⟩ := Option.map_eq_some_iff.1 isSize
  have h8 := @run_callFunc_extern Tryz.prog 38 _ Extern.ReflectliteType.typeOf Tryz.func38 (by kernel_rfl) (by kernel_rfl) (by kernel_rfl) (by kernel_rfl)
  have h32 := @run_callFunc_extern Tryz.prog 108 _ cmpE Tryz.func108 (by kernel_rfl) (by kernel_rfl) (by kernel_rfl) (by kernel_rfl)
  have tT := isTypeOf
  have cT := isComparable
  have mR := isMethodComparable
  have nE := noIsE
  have uE := noUnwrapE
  have vE := noUnwrapsE
  have heq := run_eql_iface_ptr_other (P := Tryz.prog) w Tryz.underlying37 Tryz.underlying64 hi hcmp hj (by rw [hjs]; decide) hne ha hb
  go_enter Tryz.func31, Tryz.ntmps31
  go_wp2
  refine wp_loop_rounds 1 ?_
  rw [rounds_succ]
  go_wp2
  go_ret
  exact ⟨rfl, rfl⟩
set_option maxRecDepth 100000 in
theorem is_lexT (T : TypeId) (v : Value) (hT : LexT T) (b : Addr) (w : World) :
    Calls Tryz.prog 31 #[.iface T v, .iface 64 (.pointer (some b))] w fun e w' => e = .returned (.bool false) ∧ w' = w := by
  have h8 := @run_callFunc_extern Tryz.prog 38 _ Extern.ReflectliteType.typeOf Tryz.func38 (by kernel_rfl) (by kernel_rfl) (by kernel_rfl) (by kernel_rfl)
  have h32 := @run_callFunc_extern Tryz.prog 108 _ cmpE Tryz.func108 (by kernel_rfl) (by kernel_rfl) (by kernel_rfl) (by kernel_rfl)
  have tT := isTypeOf
  have cT := isComparable
  have mR := isMethodComparable
  have nE := hT.a
  have uE := hT.b
  have vE := hT.c
  have hty := run_eql_iface_types (P := Tryz.prog) T 64 v (.pointer (some b)) Tryz.underlying37 hT.d w
  go_enter Tryz.func31, Tryz.ntmps31
  go_wp2
  refine wp_loop_rounds 1 ?_
  rw [rounds_succ]
  go_wp2
  go_ret
  exact ⟨rfl, rfl⟩
theorem is_lex {v : Value} (h : LexErr v) (b : Addr) (w : World) :
    Calls Tryz.prog 31 #[v, .iface 64 (.pointer (some b))] w fun e w' => e = .returned (.bool false) ∧ w' = w := by
  obtain ⟨T, cs, rfl, hT⟩ := h
  rcases hT with rfl | rfl | rfl
  · exact is_lexT _ _ lexT1 b w
  · exact is_lexT _ _ lexT2 b w
  · exact is_lexT _ _ lexT3 b w
end Go.Proofs.YtmjoebnphacadaaGreatDoor.Lex
/- What a scan's places say of the text: the steps of runes from place to place; runes counted, white space asked for, of a piece. -/
namespace Go.Proofs.YtmjoebnphacadaaGreatDoor.Lex
open Go.RowKit Go.Lib
set_option linter.unusedVariables false
theorem decodeN_cut {n n' b0 b1 b2 b3 c1 c2 c3 : Nat} (hn : 1 ≤ n) (hnn : n ≤ n') (hw : (Lib.decodeN n' b0 b1 b2 b3).2 ≤ n) (h1 : 1 < n → c1 = b1) (h2 : 2 < n → c2 = b2) (h3 : 3 < n → c3 = b3) :
    Lib.decodeN n b0 c1 c2 c3 = Lib.decodeN n' b0 b1 b2 b3 := by
  unfold Lib.decodeN at hw ⊢
  by_cases k1 : 1 < n
  · obtain rfl := h1 k1
    by_cases k2 : 2 < n
    · obtain rfl := h2 k2
      by_cases k3 : 3 < n
      · obtain rfl := h3 k3
        have e1 : 1 < n' := by omega
        have e2 : 2 < n' := by omega
        have e3 : 3 < n' := by omega
        simp only [k1, k2, k3, e1, e2, e3, true_and]
      · have e1 : 1 < n' := by omega
        have e2 : 2 < n' := by omega
        simp only [k1, k2, k3, e1, e2, true_and, false_and, and_false, if_false] at hw ⊢
        grind
    · have e1 : 1 < n' := by omega
      simp only [k1, k2, e1, true_and, false_and, and_false, if_false] at hw ⊢
      grind
  · simp only [k1, false_and, and_false, if_false] at hw ⊢
    grind
theorem ext_get {s : ByteArray} {a e j : Nat} (he : e ≤ s.size) (h : a + j < e) : (s.extract a e).get! j = s.get! (a + j) := by
  rw [← Lib.getD_get!', ← Lib.getD_get!', Lib.extract_data]
  simp only [List.getD, List.getElem?_take, List.getElem?_drop]
  rw [if_pos (by omega)]
theorem ext_size {s : ByteArray} {a e : Nat} (he : e ≤ s.size) : (s.extract a e).size = e - a := by
  rw [ByteArray.size_extract]
  omega
/-- A rune that ends within a piece is the same in the piece. -/
theorem ext_decode {s : ByteArray} {a e j : Nat} (he : e ≤ s.size) (hj : a + j < e) (hw : a + j + wdt s (a + j) ≤ e) : Utf8.decode (s.extract a e) j = Utf8.decode s (a + j) := by
  have hw' : a + j + (Utf8.decode s (a + j)).2 ≤ e := hw
  rw [Lib.decode_at, Lib.decode_at, ext_size he, ext_get he hj]
  rw [Lib.decode_at] at hw'
  refine decodeN_cut (by omega) (by omega) (by omega) (fun h => ?_) (fun h => ?_) (fun h => ?_)
  · rw [ext_get he (by omega)]; rfl
  · rw [ext_get he (by omega)]; rfl
  · rw [ext_get he (by omega)]; rfl
/-- From a place and its column on to another one, rune by rune. -/
inductive Steps (s : ByteArray) (P : Nat → Prop) : Nat → Nat → Nat → Nat → Prop
  | refl (p c : Nat) : Steps s P p c p c
  | step {p c e ce : Nat} (h : p < s.size) (hP : P (rn s p)) (t : Steps s P (p + wdt s p) (c + 1) e ce) : Steps s P p c e ce
theorem Steps.le {s : ByteArray} {P : Nat → Prop} {p c e ce : Nat} (h : Steps s P p c e ce) : p ≤ e ∧ c ≤ ce := by
  induction h with
  | refl => exact ⟨Nat.le_refl _, Nat.le_refl _⟩
  | step h hP t ih => omega
theorem Steps.trans {s : ByteArray} {P : Nat → Prop} {p c q cq e ce : Nat} (h : Steps s P p c q cq) (k : Steps s P q cq e ce) : Steps s P p c e ce := by
  induction h with
  | refl => exact k
  | step h hP t ih => exact .step h hP (ih k)
theorem Steps.one {s : ByteArray} {P : Nat → Prop} {p c : Nat} (h : p < s.size) (hP : P (rn s p)) : Steps s P p c (p + wdt s p) (c + 1) := .step h hP (.refl _ _)
def SpP (r : Nat) : Prop := Lib.isSpaceZ (r : Int) = true
def AnyP (_ : Nat) : Prop := True
theorem unqE_steps {s : ByteArray} : ∀ (f p c : Nat), Steps s AnyP p c (unqE s f p c).1 (unqE s f p c).2 := by
  intro f
  induction f with
  | zero => intro p c; exact .refl _ _
  | succ f ih =>
    intro p c
    by_cases h : p < s.size ∧ resR (rn s p) = false
    · rw [unqE_step h.1 h.2]
      exact .step h.1 trivial (ih _ _)
    · rw [unqE_stop h]
      exact .refl _ _
theorem quoE_steps {s : ByteArray} : ∀ (f : Nat) (esc : Bool) (p c E CE : Nat), quoE s f esc p c = some (E, CE) → Steps s AnyP p c E CE ∧ E < s.size := by
  intro f
  induction f with
  | zero => intro esc p c E CE h; exact nomatch h
  | succ f ih =>
    intro esc p c E CE h
    by_cases hp : p < s.size
    · cases esc with
      | true =>
        rw [quoE_esc hp] at h
        exact ⟨.step hp trivial (ih _ _ _ _ _ h).1, (ih _ _ _ _ _ h).2⟩
      | false =>
        by_cases h92 : rn s p = 92
        · rw [quoE_back hp h92] at h
          exact ⟨.step hp trivial (ih _ _ _ _ _ h).1, (ih _ _ _ _ _ h).2⟩
        · by_cases h34 : rn s p = 34
          · rw [quoE_quote hp h34] at h
            injection h with h
            injection h with e1 e2
            subst e1 e2
            exact ⟨.refl _ _, hp⟩
          · rw [quoE_more hp h92 h34] at h
            exact ⟨.step hp trivial (ih _ _ _ _ _ h).1, (ih _ _ _ _ _ h).2⟩
    · rw [quoE_end hp] at h
      exact nomatch h
theorem acc_lt {s v : ByteArray} {p : Nat} (h : accB s v p = true) : p < s.size := by
  unfold accB at h
  simp only [Bool.and_eq_true, decide_eq_true_eq] at h
  exact h.1
theorem opR_steps {s : ByteArray} {p c k a e ca ce : Nat} (h : opR s p c = .tok k a e ca ce) : a = p ∧ ca = c ∧ Steps s AnyP p c e ce := by
  unfold opR at h
  split at h
  · rename_i h1
    have A1 := acc_lt h1
    split at h
    · rename_i h2
      have A2 := acc_lt h2
      injection h with e1 e2 e3 e4 e5
      subst e2 e3 e4 e5
      exact ⟨rfl, rfl, .step A1 trivial (.one A2 trivial)⟩
    · split at h
      · rename_i h2
        have A2 := acc_lt h2
        injection h with e1 e2 e3 e4 e5
        subst e2 e3 e4 e5
        exact ⟨rfl, rfl, .step A1 trivial (.one A2 trivial)⟩
      · exact nomatch h
  · split at h
    · rename_i h1
      have A1 := acc_lt h1
      split at h
      · rename_i h2
        have A2 := acc_lt h2
        injection h with e1 e2 e3 e4 e5
        subst e2 e3 e4 e5
        exact ⟨rfl, rfl, .step A1 trivial (.one A2 trivial)⟩
      · injection h with e1 e2 e3 e4 e5
        subst e2 e3 e4 e5
        exact ⟨rfl, rfl, .one A1 trivial⟩
    · exact nomatch h
/-- Ahead of a token there is white space alone; its text goes from rune to rune. -/
theorem scanE_steps {s : ByteArray} : ∀ (f p c k a e ca ce : Nat), scanE s f p c = .tok k a e ca ce → Steps s SpP p c a ca ∧ Steps s AnyP a ca e ce := by
  intro f
  induction f with
  | zero => intro p c k a e ca ce h; exact nomatch h
  | succ f ih =>
    intro p c k a e ca ce h
    unfold scanE at h
    split at h
    · rename_i hlt
      split at h
      · injection h with e1 e2 e3 e4 e5
        subst e2 e3 e4 e5
        exact ⟨.refl _ _, .one hlt trivial⟩
      · split at h
        · injection h with e1 e2 e3 e4 e5
          subst e2 e3 e4 e5
          exact ⟨.refl _ _, .one hlt trivial⟩
        · split at h
          · injection h with e1 e2 e3 e4 e5
            subst e2 e3 e4 e5
            exact ⟨.refl _ _, .one hlt trivial⟩
          · split at h
            · obtain ⟨rfl, rfl, hs⟩ := opR_steps h
              exact ⟨.refl _ _, hs⟩
            · split at h
              · unfold quoR at h
                split at h
                · rename_i E CE hq
                  obtain ⟨h1, h2⟩ := quoE_steps _ _ _ _ _ _ hq
                  injection h with e1 e2 e3 e4 e5
                  subst e2 e3 e4 e5
                  exact ⟨.refl _ _, .step hlt trivial (h1.trans (.one h2 trivial))⟩
                · exact nomatch h
              · split at h
                · unfold unqR at h
                  injection h with e1 e2 e3 e4 e5
                  subst e2 e3 e4 e5
                  exact ⟨.refl _ _, unqE_steps _ _ _⟩
                · split at h
                  · rename_i hsp
                    have h3 := ih _ _ _ _ _ _ _ h
                    exact ⟨.step hlt hsp h3.1, h3.2⟩
                  · exact nomatch h
    · exact nomatch h
theorem unqE_le {s : ByteArray} : ∀ (f p c : Nat), p ≤ s.size → c ≤ p → p ≤ (unqE s f p c).1 ∧ (unqE s f p c).1 ≤ s.size ∧ (unqE s f p c).2 ≤ (unqE s f p c).1 := by
  intro f
  induction f with
  | zero => intro p c hp hc; exact ⟨Nat.le_refl _, hp, hc⟩
  | succ f ih =>
    intro p c hp hc
    by_cases h : p < s.size ∧ resR (rn s p) = false
    · rw [unqE_step h.1 h.2]
      have h1 := adv_le s p h.1
      have h2 := adv_pos s p
      have := ih (p + wdt s p) (c + 1) h1 (by omega)
      omega
    · rw [unqE_stop h]
      exact ⟨Nat.le_refl _, hp, hc⟩
theorem quoE_le {s : ByteArray} : ∀ (f : Nat) (esc : Bool) (p c E CE : Nat), c ≤ p → quoE s f esc p c = some (E, CE) → p ≤ E ∧ E < s.size ∧ CE ≤ E ∧ rn s E = 34 := by
  intro f
  induction f with
  | zero => intro esc p c E CE hc h; exact nomatch h
  | succ f ih =>
    intro esc p c E CE hc h
    by_cases hp : p < s.size
    · have h1 := adv_le s p hp
      have h2 := adv_pos s p
      cases esc with
      | true =>
        rw [quoE_esc hp] at h
        have := ih _ _ _ _ _ (by omega) h
        exact ⟨by omega, this.2⟩
      | false =>
        by_cases h92 : rn s p = 92
        · rw [quoE_back hp h92] at h
          have := ih _ _ _ _ _ (by omega) h
          exact ⟨by omega, this.2⟩
        · by_cases h34 : rn s p = 34
          · rw [quoE_quote hp h34] at h
            injection h with h
            injection h with e1 e2
            subst e1 e2
            exact ⟨Nat.le_refl _, hp, hc, h34⟩
          · rw [quoE_more hp h92 h34] at h
            have := ih _ _ _ _ _ (by omega) h
            exact ⟨by omega, this.2⟩
    · rw [quoE_end hp] at h
      exact nomatch h
theorem opR_le {s : ByteArray} {p c k a e ca ce : Nat} (hp : p ≤ s.size) (hc : c ≤ p) (h : opR s p c = .tok k a e ca ce) : a = p ∧ ca = c ∧ p < e ∧ e ≤ s.size ∧ ce ≤ e ∧ 4 ≤ k ∧ k ≤ 7 := by
  unfold opR at h
  split at h
  · rename_i h1
    have A1 := acc_le h1
    split at h
    · rename_i h2
      have A2 := acc_le h2
      injection h with e1 e2 e3 e4 e5
      omega
    · split at h
      · rename_i h2
        have A2 := acc_le h2
        injection h with e1 e2 e3 e4 e5
        omega
      · exact nomatch h
  · split at h
    · rename_i h1
      have A1 := acc_le h1
      split at h
      · rename_i h2
        have A2 := acc_le h2
        injection h with e1 e2 e3 e4 e5
        omega
      · injection h with e1 e2 e3 e4 e5
        omega
    · exact nomatch h
/-- A token's place: behind where the scan began, of at least one byte; its kind. -/
theorem scanE_le {s : ByteArray} : ∀ (f p c k a e ca ce : Nat), p ≤ s.size → c ≤ p → scanE s f p c = .tok k a e ca ce → p ≤ a ∧ a < e ∧ e ≤ s.size ∧ ca ≤ a ∧ ce ≤ e ∧ 1 ≤ k ∧ k ≤ 9 := by
  intro f
  induction f with
  | zero => intro p c k a e ca ce hp hc h; exact nomatch h
  | succ f ih =>
    intro p c k a e ca ce hp hc h
    unfold scanE at h
    split at h
    · rename_i hlt
      have h1 := adv_le s p hlt
      have h2 := adv_pos s p
      split at h
      · injection h with e1 e2 e3 e4 e5
        omega
      · split at h
        · injection h with e1 e2 e3 e4 e5
          omega
        · split at h
          · injection h with e1 e2 e3 e4 e5
            omega
          · split at h
            · have := opR_le hp hc h
              omega
            · split at h
              · unfold quoR at h
                split at h
                · rename_i E CE hq
                  have h3 := quoE_le _ _ _ _ _ _ (by omega) hq
                  have h4 := adv_le s E h3.2.1
                  have h5 := adv_pos s E
                  injection h with e1 e2 e3 e4 e5
                  omega
                · exact nomatch h
              · split at h
                · rename_i hr
                  unfold unqR at h
                  have h3 := unqE_le s.size p c hp hc
                  obtain ⟨g, hg⟩ : ∃ g, s.size = g + 1 := ⟨s.size - 1, by omega⟩
                  have h6 : p < (unqE s s.size p c).1 := by
                    have h7 := unqE_step (f := g) (c := c) hlt hr
                    rw [← hg] at h7
                    rw [h7]
                    have h8 := (unqE_le (s := s) g (p + wdt s p) (c + 1) h1 (by omega)).1
                    omega
                  injection h with e1 e2 e3 e4 e5
                  omega
                · split at h
                  · have h3 := ih _ _ _ _ _ _ _ h1 (by omega) h
                    omega
                  · exact nomatch h
    · exact nomatch h
end Go.Proofs.YtmjoebnphacadaaGreatDoor.Lex
/- parse.parser: acceptPeek, accept, expectPeek, expect. -/
namespace Go.Proofs.YtmjoebnphacadaaGreatDoor.Lex
open Go.RowKit Go.Lib Go.Proofs.YtmjoebnphacadaaGreatDoorW.PrintWords Go.Proofs.YtmjoebnphacadaaGreatDoorW.PrintLast
set_option linter.unusedVariables false
set_option linter.unusedSimpArgs false
/-- The package's errors, and strconv's, that the parser loads. -/
def errGs : List Nat := [0, 1, 3, 2, 4, 6, 5, 12, 7, 13, 9]
def errV (a : Addr) : Value := .iface 64 (.pointer (some a))
/-- The world's premise of the parser's walks; the address of errEOF's text. -/
structure ET (w0 : World) (ea : Addr) : Prop where
  t : LT w0
  e : w0.cell? ⟨0, 0, none⟩ = some (errV ea)
  r : ∃ cs t, w0.heap[ea.block]? = some (.cells cs t (0, 0))
  o : ∀ g ∈ errGs, ∃ b, w0.cell? ⟨g, 0, none⟩ = some (errV b)
structure Px (w0 w : World) (B : Nat) (ea : Addr) : Prop where
  t : ET w0 ea
  b : Below w0.heap.size w0 w
  h : w0.heap.size ≤ B
theorem Px.cx {w0 w : World} {B : Nat} {ea : Addr} (h : Px w0 w B ea) : Cx w0 w B := ⟨h.t.t, h.b, h.h⟩
theorem Px.kept {w0 w w' : World} {B o : Nat} {ea : Addr} (h : Px w0 w B ea) (k : Kept B o w w') : Px w0 w' B ea := ⟨h.t, h.b.trans (k.below h.h h.b.size), h.h⟩
theorem Px.err {w0 w : World} {B : Nat} {ea : Addr} (h : Px w0 w B ea) {g : Nat} (hg : g ∈ errGs) : ∃ b, w.cell? ⟨g, 0, none⟩ = some (errV b) := by
  obtain ⟨b, hb⟩ := h.t.o g hg
  exact ⟨b, (h.b.cell (World.block_lt_of_cell? w0 _ hb)).trans hb⟩
theorem Px.eof {w0 w : World} {B : Nat} {ea : Addr} (h : Px w0 w B ea) : w.cell? ⟨0, 0, none⟩ = some (errV ea) := (h.b.cell (World.block_lt_of_cell? w0 _ h.t.e)).trans h.t.e
theorem Px.row {w0 w : World} {B : Nat} {ea : Addr} (h : Px w0 w B ea) : ea.block < w0.heap.size ∧ ∃ cs t, w.heap[ea.block]? = some (.cells cs t (0, 0)) := by
  obtain ⟨cs, t, hr⟩ := h.t.r
  have hl := (Array.getElem?_eq_some_iff.1 hr).1
  exact ⟨hl, cs, t, (h.b.block _ hl).trans hr⟩
theorem KindsAt.kept {w w' : World} {g B o : Nat} {ks : List Nat} (h : KindsAt w g ks) (k : Kept B o w w') (hg : g < w.heap.size) (hne : g ≠ B) : KindsAt w' g ks := fun i hi => (World.cell?_of_block (w := w) (k.block g hg hne)).trans (h i hi)
theorem new_err (s : ByteArray) (w : World) : Calls Tryz.prog 15 #[.string s] w fun e w' => e = .returned (errV ⟨w.heap.size, 0, none⟩) ∧ w' = w.alloc (.cells #[.string s] 66) := by
  go_enter Tryz.func15, Tryz.ntmps15
  go_wp2
  go_ret
  exact ⟨rfl, rfl⟩
section
variable {w : World} {B o : Nat} {s : ByteArray} {e : Value} {p wd c : Nat} {ea : Addr}
/-- What acceptPeek has done. -/
def APost (w : World) (B o : Nat) (s : ByteArray) (p wd c : Nat) (ks : List Nat) (ea : Addr) (R : TR) (x : Ending) (w' : World) : Prop := Kept B o w w' ∧ match R with
  | .tok k a E ca CE => x = .returned (.tuple #[.bool (ks.contains k), .nilIface]) ∧ LexAt w' B o s .nilIface p p wd c c
  | .eof q cq => x = .returned (.tuple #[.bool false, errV ea]) ∧ LexAt w' B o s .nilIface p p wd c c
  | .bad => ∃ r, x = .returned (.tuple #[.bool false, r]) ∧ LexErr r ∧ LexAt w' B o s r p p wd c c
set_option maxHeartbeats 3200000 in
set_option maxRecDepth 100000 in
theorem acceptPeek_calls {w0 : World} (hX : Px w0 w B ea) (h : LexAt w B o s .nilIface p p wd c c) (hs : s.size ≤ 2147483647) (hp : p ≤ s.size) (hc : c ≤ p) (v0 : Value) (g n cap : Nat) (ks : List Nat) (hk : KindsAt w g ks) (hn : ks.length = n) (hn2 : n ≤ 1000) (hg : g < w.heap.size) (hgB : g ≠ B) :
    Calls Tryz.prog 33 #[v0, .pointer (some ⟨B, o, none⟩), .slice (some ⟨g, 0, none⟩) n cap] w (APost w B o s p wd c ks ea (scanE s (s.size + 1) p c)) := by
  have C := Aside0.mk (peek_calls hX.cx h hs hp hc)
  have HX := Aside0.mk hX
  have HB := Aside0.mk h.lt
  have HK := Aside0.mk hk
  have HG := Aside0.mk hg
  clear hX h hk hg
  have hnot : ∀ (x : Bool) (w : World), (Op.unary .not (.bool x)).run Tryz.prog w = .ok (.bool (!x)) w := fun _ _ => rfl
  go_enter Tryz.func33, Tryz.ntmps33
  go_wp2_with fail
  refine C.out.mono ?_
  clear C
  intro x w1 hO
  cases hV : scanE s (s.size + 1) p c with
  | eof q cq =>
    rw [hV] at hO
    obtain ⟨hk, rfl, hl⟩ := hO
    have HK1 := Aside0.mk hk
    have HL1 := Aside0.mk hl
    have HV := Aside0.mk hV
    clear hk hl hV
    unfold noTok
    go_wp2_with fail
    refine (isEOF_calls 0 _ _ _ _ _ _).mono ?_
    rintro x w2 ⟨rfl, hb⟩
    have HK2 := Aside0.mk ((HK1.out.alloc HB.out _).trans (Kept.of_below hb (by have := HL1.out.lt; simp; omega)))
    have HL2 := Aside0.mk ((HL1.out.alloc _).below hb (by have := HL1.out.lt; simp; omega))
    have hz := (HX.out.kept HK2.out).eof
    clear hb
    unfold errV at hz
    go_wp2
    go_quiet (fail)
    go_wp2
    go_ret2
    refine (show APost w B o s p wd c ks ea (scanE s (s.size + 1) p c) _ _ from ?_)
    unfold APost
    rw [HV.out]
    exact ⟨by repeat (first | exact HK2.out | refine Kept.drewN ?_ HB.out _), rfl, by repeat (first | exact HL2.out | refine LexAt.drewN ?_ _)⟩
  | bad =>
    rw [hV] at hO
    obtain ⟨hk, r, rfl, hr, hl⟩ := hO
    obtain ⟨T, cs, rfl, hT⟩ := hr
    have ER := Aside0.mk (show LexErr (.iface T (.agg cs)) from ⟨T, cs, rfl, hT⟩)
    have HK1 := Aside0.mk hk
    have HL1 := Aside0.mk hl
    have HV := Aside0.mk hV
    clear hk hl hV hT
    unfold noTok
    go_wp2
    go_ret2
    refine (show APost w B o s p wd c ks ea (scanE s (s.size + 1) p c) _ _ from ?_)
    unfold APost
    rw [HV.out]
    exact ⟨HK1.out.alloc HB.out _, _, rfl, ER.out, HL1.out.alloc _⟩
  | tok k9 a9 E9 ca9 c9 =>
    rw [hV] at hO
    obtain ⟨hk, rfl, hl⟩ := hO
    have HK1 := Aside0.mk hk
    have HL1 := Aside0.mk hl
    have HV := Aside0.mk hV
    have hk9 := (scanE_le _ _ _ _ _ _ _ _ hp hc hV).2.2.2.2.2.1
    clear hk hl hV
    unfold tokV
    have k0 : decide (k9 = 0) = false := decide_eq_false (by omega)
    go_wp2_with fail
    refine (isEOF_calls k9 _ _ _ _ _ _).mono ?_
    rintro x w2 ⟨rfl, hb⟩
    rw [k0]
    have HK2 := Aside0.mk ((HK1.out.alloc HB.out _).trans (Kept.of_below hb (by have := HL1.out.lt; simp; omega)))
    have HL2 := Aside0.mk ((HL1.out.alloc _).below hb (by have := HL1.out.lt; simp; omega))
    have hw1 : w1.heap.size < w2.heap.size := by have := hb.size; simp at this; omega
    obtain ⟨⟨m0, m1, m2, m3, m4, m5⟩, _, _, _, _, _, _⟩ := cells6 ((hb.block w1.heap.size (by simp)).trans (heap_alloc_new w1 _))
    clear hb k0
    go_wp2_with fail
    refine (oneOf_calls k9 _ _ _ _ _ g n cap ks w2 (HK.out.kept HK2.out HG.out hgB) hn hn2 (by have := HK2.out.size; have := HG.out; omega)).mono ?_
    rintro x w3 ⟨rfl, hb⟩
    have HK3 := Aside0.mk (HK2.out.trans (Kept.of_below hb HL2.out.lt))
    have HL3 := Aside0.mk (HL2.out.below hb HL2.out.lt)
    clear hb
    have hbb : ∃ b, ks.contains k9 = b := ⟨_, rfl⟩
    obtain ⟨b, hb⟩ := hbb
    rw [hb]
    have HBB := Aside0.mk hb
    clear hb
    go_wp2
    go_ret2
    refine (show APost w B o s p wd c ks ea (scanE s (s.size + 1) p c) _ _ from ?_)
    unfold APost
    rw [HV.out]
    exact ⟨HK3.out, by rw [HBB.out]; rfl, HL3.out⟩
end
end Go.Proofs.YtmjoebnphacadaaGreatDoor.Lex
/- The world's premise of the parser, without the address. -/
set_option linter.unusedVariables false
set_option linter.unusedSimpArgs false
namespace Go.Proofs.YtmjoebnphacadaaGreatDoor.Lex
open Go.RowKit Go.Lib
/-- The tables of the scanner, the parser's own errors. -/
def ETx (w : World) : Prop := ∃ ea, ET w ea
theorem ETx.below {w w' : World} (h : ETx w) (hb : Below w.heap.size w w') : ETx w' := by
  obtain ⟨ea, h⟩ := h
  refine ⟨ea, h.t.below hb, (hb.cell (World.block_lt_of_cell? w _ h.e)).trans h.e, ?_, ?_⟩
  · obtain ⟨cs, t, hr⟩ := h.r
    exact ⟨cs, t, (hb.block _ (Array.getElem?_eq_some_iff.1 hr).1).trans hr⟩
  · intro g hg
    obtain ⟨b, hb2⟩ := h.o g hg
    exact ⟨b, (hb.cell (World.block_lt_of_cell? w _ hb2)).trans hb2⟩
end Go.Proofs.YtmjoebnphacadaaGreatDoor.Lex
/- utf8.ValidString of the shelf at this seat's dump, in plain words. -/
set_option linter.unusedVariables false
set_option linter.unusedSimpArgs false
namespace Go.Proofs
open Go.RowKit Go.Shelf Go.Lib
def Tryz.laysV_ren : Go.Shelf.Ren := ⟨fun | 196 => 61 | 259 => 70 | n => n, fun | 0 => 0 | 3 => 3 | 4 => 4 | 5 => 5 | 9 => 9 | 12 => 12 | 46 => 138 | 53 => 155 | 119 => 134 | 138 => 136 | 139 => 137 | n => n, fun | 3 => 10 | 4 => 11 | n => n⟩
theorem Tryz.laysV : Go.Proofs.Lays.n196 Tryz.prog Tryz.laysV_ren := {
  mixed := by kernel_rfl
  f196 := Tryz.func61.trans (congrArg some (by kernel_rfl))
  f259 := Tryz.func70.trans (congrArg some (by kernel_rfl))
  t0 := Tryz.underlying0
  a0 := Tryz.isAgg0
  z0 := Tryz.sizeOf0
  v0 := Tryz.zeroValue0
  t3 := Tryz.underlying3
  a3 := Tryz.isAgg3
  z3 := Tryz.sizeOf3
  v3 := Tryz.zeroValue3
  t4 := Tryz.underlying4
  a4 := Tryz.isAgg4
  z4 := Tryz.sizeOf4
  v4 := Tryz.zeroValue4
  t5 := Tryz.underlying5
  a5 := Tryz.isAgg5
  z5 := Tryz.sizeOf5
  v5 := Tryz.zeroValue5
  t9 := Tryz.underlying9
  a9 := Tryz.isAgg9
  z9 := Tryz.sizeOf9
  v9 := Tryz.zeroValue9
  t12 := Tryz.underlying12
  a12 := Tryz.isAgg12
  z12 := Tryz.sizeOf12
  v12 := Tryz.zeroValue12
  t46 := Tryz.underlying138
  a46 := Tryz.isAgg138
  z46 := Tryz.sizeOf138
  v46 := Tryz.zeroValue138
  t53 := Tryz.underlying155
  a53 := Tryz.isAgg155
  z53 := Tryz.sizeOf155
  v53 := Tryz.zeroValue155
  t119 := Tryz.underlying134
  a119 := Tryz.isAgg134
  z119 := Tryz.sizeOf134
  t138 := Tryz.underlying136
  a138 := Tryz.isAgg136
  z138 := Tryz.sizeOf136
  v138 := Tryz.zeroValue136
  t139 := Tryz.underlying137
  a139 := Tryz.isAgg137
  z139 := Tryz.sizeOf137
  v139 := Tryz.zeroValue137
  g3 := by kernel_rfl
  g4 := by kernel_rfl }
/-- What the walks ask of the world: the two tables of unicode/utf8 as Go lays them. -/
def Tryz.Tabs (w : World) : Prop := Lib.Utf8Tabs 10 11 w
theorem Tryz.utf8_ValidString (s : ByteArray) (w : World) (hs : s.size ≤ 9223372036854775807) (hT : Tryz.Tabs w) :
    Calls Tryz.prog 61 #[.string s] w fun e w' => e = .returned (.bool (Lib.validD s.data.toList)) ∧ Below w.heap.size w w' := Any.utf8_ValidString Tryz.laysV s w hs hT
end Go.Proofs
