/- parse.zzIndexRune, parse.zzContainsRune: their walks. -/
import Derived.Test.YtmjoebnphacadaaDoorShelf
import Derived.Test.YtmjoebnphacadaaDoorWMore
import Derived.Lib.RuneCount
import Derived.WalkSmall
import Derived.LoopTactic
import Derived.BigCall
namespace Go.Proofs.YtmjoebnphacadaaDoor.Lex
open Go.RowKit Go.Lib Go.Proofs.YtmjoebnphacadaaDoorW.PrintWords Go.Proofs.YtmjoebnphacadaaDoorW.PrintLast
set_option linter.unusedVariables false
set_option linter.unusedSimpArgs false
/-- The first place of a rune from a place on; -1: none. -/
def idxR (r : Int) (s : ByteArray) : Nat → Nat → Int
  | 0, _ => -1
  | f + 1, pos => if pos < s.size then (if ((Utf8.decode s pos).1 : Int) = r then (pos : Int) else idxR r s f (pos + (Utf8.decode s pos).2)) else -1
def badR (r : Int) : Bool := !decide (r = 65533) && (decide (r < 0) || decide (r > 1114111) || (decide (55296 ≤ r) && decide (r ≤ 57343)))
def zzIdx (s : ByteArray) (r : Int) : Int := if badR r = true then -1 else idxR r s s.size 0
theorem idxR_end (r : Int) (s : ByteArray) (f pos : Nat) (h : ¬ pos < s.size) : idxR r s f pos = -1 := by
  cases f with
  | zero => rfl
  | succ f => simp [idxR, h]
theorem idxR_step {r : Int} {s : ByteArray} {f pos : Nat} (h : pos < s.size) : idxR r s (f + 1) pos = if ((Utf8.decode s pos).1 : Int) = r then (pos : Int) else idxR r s f (pos + (Utf8.decode s pos).2) := by simp [idxR, h]
set_option maxHeartbeats 4000000 in
set_option maxRecDepth 1000000 in
theorem zz_index (s : ByteArray) (r : Int) (w : World) (hs : s.size ≤ 2147483647) (h0 : -2147483648 ≤ r) (h1 : r ≤ 2147483647) :
    Calls Tryd.prog 59 #[.string s, .int .i32 r] w fun e w' => e = .returned (.int .i64 (zzIdx s r)) ∧ Below w.heap.size w w' := by
  cases hb : badR r with
  | true =>
    have hv : zzIdx s r = -1 := by unfold zzIdx; rw [hb, if_pos rfl]
    rw [hv]
    unfold badR at hb
    simp only [Bool.and_eq_true, Bool.or_eq_true, Bool.not_eq_true', decide_eq_true_eq, decide_eq_false_iff_not] at hb
    obtain ⟨n1, hb⟩ := hb
    have b1 : (r != 65533) = true := by simpa using n1
    clear hv n1
    rcases hb with (hb | hb) | ⟨hb, hc⟩
    · go_enter Tryd.func59, Tryd.ntmps59
      go_wp2
      go_ret
      exact ⟨rfl, Below.refl _ _⟩
    · have hn : ¬ r < 0 := by omega
      go_enter Tryd.func59, Tryd.ntmps59
      go_wp2
      go_ret
      exact ⟨rfl, Below.refl _ _⟩
    · have hn : ¬ r < 0 := by omega
      have hn2 : ¬ r > 1114111 := by omega
      go_enter Tryd.func59, Tryd.ntmps59
      go_wp2
      go_ret
      exact ⟨rfl, Below.refl _ _⟩
  | false =>
  obtain ⟨R, hR⟩ : ∃ R, zzIdx s r = R := ⟨_, rfl⟩
  rw [hR]
  unfold zzIdx at hR
  rw [hb, if_neg (by simp)] at hR
  have HR := Aside0.mk hR
  clear hR
  have h3 : r = 65533 ∨ (0 ≤ r ∧ r < 55296) ∨ (57343 < r ∧ r ≤ 1114111 ∧ r ≠ 65533) := by
    unfold badR at hb
    by_cases e : r = 65533
    · exact Or.inl e
    · simp [e] at hb
      omega
  clear hb
  rcases h3 with h3 | ⟨p1, p2⟩ | ⟨p1, p2, p3⟩
  · have b1 : (r != 65533) = false := by simpa using h3
    clear h3
    go_enter Tryd.func59, Tryd.ntmps59
    go_wp2
    go_loopw [] (fun wr => ∃ (pos fuel : Nat), Aside0 (wr.heap[w.heap.size]? = some (.stringIter s pos) ∧ Below w.heap.size w wr ∧ idxR r s fuel pos = R ∧ s.size ≤ pos + fuel)) (fun wr => s.size - wr.iterPos w.heap.size)
    case atStart => exact ⟨0, s.size, Aside0.mk ⟨World.iter_heap w s 0, (Below.refl _ w).alloc (Nat.le_refl _) _, HR.out, by omega⟩⟩
    case round =>
      obtain ⟨pos, fuel, HR⟩ := hrel
      obtain ⟨hit, hbw, hacc, hfu⟩ := HR.out
      clear HR
      have HA := Aside0.mk hacc
      clear hacc
      have hsz : w.heap.size < wr.heap.size := (Array.getElem?_eq_some_iff.1 hit).1
      by_cases hp : pos < s.size
      · have hnx : ∀ ty, (Instr.next (.pointer (some ⟨w.heap.size, 0, none⟩)) true ty).run Tryd.prog wr = _ := fun ty => Lib.run_next_any_at wr w.heap.size s pos ty hit hp
        have hwd := Lib.decode_width_pos s pos hp
        obtain ⟨f, rfl⟩ : ∃ f, fuel = f + 1 := ⟨fuel - 1, by omega⟩
        have hstep := idxR_step (r := r) (f := f) hp
        obtain ⟨⟨q, wd⟩, hq⟩ : ∃ q, Utf8.decode s pos = q := ⟨_, rfl⟩
        rw [hq] at hnx hwd hstep
        simp only at hnx hwd hstep
        rw [hstep] at HA
        have HT := Aside0.mk hit
        have HT2 := Aside0.mk (Lib.iterAt_heap wr w.heap.size s pos (pos + wd) hit)
        have HB2 := Aside0.mk (Lib.below_iterAt hbw (k := w.heap.size) (by omega) s (pos + wd))
        clear hq hstep hit hbw
        by_cases hr : (q : Int) = r
        · have hR : (pos : Int) = R := by rw [← HA.out, if_pos hr]
          subst hR
          have hrb : ((q : Int) == r) = true := by simpa using hr
          clear HA hr
          go_wp2
          go_ret
          exact ⟨rfl, HB2.out⟩
        · have HA2 := Aside0.mk (show idxR r s f (pos + wd) = R by rw [← HA.out, if_neg hr])
          have hrb : ((q : Int) == r) = false := by simpa using hr
          clear HA hr
          go_wp2
          go_roundw
          case rel => exact ⟨pos + wd, f, Aside0.mk ⟨HT2.out, HB2.out, HA2.out, by omega⟩⟩
          case measure =>
            have e1 : (wr.iterAt w.heap.size s (pos + wd)).iterPos w.heap.size = pos + wd := by
              have := HT2.out
              simp only [World.iterPos, this]
            have e2 : wr.iterPos w.heap.size = pos := by simp only [World.iterPos, HT.out]
            show s.size - (wr.iterAt w.heap.size s (pos + wd)).iterPos w.heap.size < s.size - wr.iterPos w.heap.size
            rw [e1, e2]
            omega
      · have hnx : ∀ ty, (Instr.next (.pointer (some ⟨w.heap.size, 0, none⟩)) true ty).run Tryd.prog wr = _ := fun ty => Lib.run_next_end_at wr w.heap.size s pos ty hit hp
        have HB := Aside0.mk hbw
        clear hbw
        have hR := HA.out
        rw [idxR_end r s fuel pos hp] at hR
        subst hR
        go_wp2
        go_ret
        exact ⟨rfl, HB.out⟩
  · have b1 : (r != 65533) = true := by simpa using (show ¬ r = 65533 by omega)
    have b2 : ¬ r < 0 := by omega
    have b3 : ¬ r > 1114111 := by omega
    have b4 : ¬ 55296 ≤ r := by omega
    clear p1 p2
    go_enter Tryd.func59, Tryd.ntmps59
    go_wp2
    go_loopw [] (fun wr => ∃ (pos fuel : Nat), Aside0 (wr.heap[w.heap.size]? = some (.stringIter s pos) ∧ Below w.heap.size w wr ∧ idxR r s fuel pos = R ∧ s.size ≤ pos + fuel)) (fun wr => s.size - wr.iterPos w.heap.size)
    case atStart => exact ⟨0, s.size, Aside0.mk ⟨World.iter_heap w s 0, (Below.refl _ w).alloc (Nat.le_refl _) _, HR.out, by omega⟩⟩
    case round =>
      obtain ⟨pos, fuel, HR⟩ := hrel
      obtain ⟨hit, hbw, hacc, hfu⟩ := HR.out
      clear HR
      have HA := Aside0.mk hacc
      clear hacc
      have hsz : w.heap.size < wr.heap.size := (Array.getElem?_eq_some_iff.1 hit).1
      by_cases hp : pos < s.size
      · have hnx : ∀ ty, (Instr.next (.pointer (some ⟨w.heap.size, 0, none⟩)) true ty).run Tryd.prog wr = _ := fun ty => Lib.run_next_any_at wr w.heap.size s pos ty hit hp
        have hwd := Lib.decode_width_pos s pos hp
        obtain ⟨f, rfl⟩ : ∃ f, fuel = f + 1 := ⟨fuel - 1, by omega⟩
        have hstep := idxR_step (r := r) (f := f) hp
        obtain ⟨⟨q, wd⟩, hq⟩ : ∃ q, Utf8.decode s pos = q := ⟨_, rfl⟩
        rw [hq] at hnx hwd hstep
        simp only at hnx hwd hstep
        rw [hstep] at HA
        have HT := Aside0.mk hit
        have HT2 := Aside0.mk (Lib.iterAt_heap wr w.heap.size s pos (pos + wd) hit)
        have HB2 := Aside0.mk (Lib.below_iterAt hbw (k := w.heap.size) (by omega) s (pos + wd))
        clear hq hstep hit hbw
        by_cases hr : (q : Int) = r
        · have hR : (pos : Int) = R := by rw [← HA.out, if_pos hr]
          subst hR
          have hrb : ((q : Int) == r) = true := by simpa using hr
          clear HA hr
          go_wp2
          go_ret
          exact ⟨rfl, HB2.out⟩
        · have HA2 := Aside0.mk (show idxR r s f (pos + wd) = R by rw [← HA.out, if_neg hr])
          have hrb : ((q : Int) == r) = false := by simpa using hr
          clear HA hr
          go_wp2
          go_roundw
          case rel => exact ⟨pos + wd, f, Aside0.mk ⟨HT2.out, HB2.out, HA2.out, by omega⟩⟩
          case measure =>
            have e1 : (wr.iterAt w.heap.size s (pos + wd)).iterPos w.heap.size = pos + wd := by
              have := HT2.out
              simp only [World.iterPos, this]
            have e2 : wr.iterPos w.heap.size = pos := by simp only [World.iterPos, HT.out]
            show s.size - (wr.iterAt w.heap.size s (pos + wd)).iterPos w.heap.size < s.size - wr.iterPos w.heap.size
            rw [e1, e2]
            omega
      · have hnx : ∀ ty, (Instr.next (.pointer (some ⟨w.heap.size, 0, none⟩)) true ty).run Tryd.prog wr = _ := fun ty => Lib.run_next_end_at wr w.heap.size s pos ty hit hp
        have HB := Aside0.mk hbw
        clear hbw
        have hR := HA.out
        rw [idxR_end r s fuel pos hp] at hR
        subst hR
        go_wp2
        go_ret
        exact ⟨rfl, HB.out⟩
  · have b1 : (r != 65533) = true := by simpa using p3
    have b2 : ¬ r < 0 := by omega
    have b3 : ¬ r > 1114111 := by omega
    have b4 : 55296 ≤ r := by omega
    have b5 : ¬ r ≤ 57343 := by omega
    clear p1 p2 p3
    go_enter Tryd.func59, Tryd.ntmps59
    go_wp2
    go_loopw [] (fun wr => ∃ (pos fuel : Nat), Aside0 (wr.heap[w.heap.size]? = some (.stringIter s pos) ∧ Below w.heap.size w wr ∧ idxR r s fuel pos = R ∧ s.size ≤ pos + fuel)) (fun wr => s.size - wr.iterPos w.heap.size)
    case atStart => exact ⟨0, s.size, Aside0.mk ⟨World.iter_heap w s 0, (Below.refl _ w).alloc (Nat.le_refl _) _, HR.out, by omega⟩⟩
    case round =>
      obtain ⟨pos, fuel, HR⟩ := hrel
      obtain ⟨hit, hbw, hacc, hfu⟩ := HR.out
      clear HR
      have HA := Aside0.mk hacc
      clear hacc
      have hsz : w.heap.size < wr.heap.size := (Array.getElem?_eq_some_iff.1 hit).1
      by_cases hp : pos < s.size
      · have hnx : ∀ ty, (Instr.next (.pointer (some ⟨w.heap.size, 0, none⟩)) true ty).run Tryd.prog wr = _ := fun ty => Lib.run_next_any_at wr w.heap.size s pos ty hit hp
        have hwd := Lib.decode_width_pos s pos hp
        obtain ⟨f, rfl⟩ : ∃ f, fuel = f + 1 := ⟨fuel - 1, by omega⟩
        have hstep := idxR_step (r := r) (f := f) hp
        obtain ⟨⟨q, wd⟩, hq⟩ : ∃ q, Utf8.decode s pos = q := ⟨_, rfl⟩
        rw [hq] at hnx hwd hstep
        simp only at hnx hwd hstep
        rw [hstep] at HA
        have HT := Aside0.mk hit
        have HT2 := Aside0.mk (Lib.iterAt_heap wr w.heap.size s pos (pos + wd) hit)
        have HB2 := Aside0.mk (Lib.below_iterAt hbw (k := w.heap.size) (by omega) s (pos + wd))
        clear hq hstep hit hbw
        by_cases hr : (q : Int) = r
        · have hR : (pos : Int) = R := by rw [← HA.out, if_pos hr]
          subst hR
          have hrb : ((q : Int) == r) = true := by simpa using hr
          clear HA hr
          go_wp2
          go_ret
          exact ⟨rfl, HB2.out⟩
        · have HA2 := Aside0.mk (show idxR r s f (pos + wd) = R by rw [← HA.out, if_neg hr])
          have hrb : ((q : Int) == r) = false := by simpa using hr
          clear HA hr
          go_wp2
          go_roundw
          case rel => exact ⟨pos + wd, f, Aside0.mk ⟨HT2.out, HB2.out, HA2.out, by omega⟩⟩
          case measure =>
            have e1 : (wr.iterAt w.heap.size s (pos + wd)).iterPos w.heap.size = pos + wd := by
              have := HT2.out
              simp only [World.iterPos, this]
            have e2 : wr.iterPos w.heap.size = pos := by simp only [World.iterPos, HT.out]
            show s.size - (wr.iterAt w.heap.size s (pos + wd)).iterPos w.heap.size < s.size - wr.iterPos w.heap.size
            rw [e1, e2]
            omega
      · have hnx : ∀ ty, (Instr.next (.pointer (some ⟨w.heap.size, 0, none⟩)) true ty).run Tryd.prog wr = _ := fun ty => Lib.run_next_end_at wr w.heap.size s pos ty hit hp
        have HB := Aside0.mk hbw
        clear hbw
        have hR := HA.out
        rw [idxR_end r s fuel pos hp] at hR
        subst hR
        go_wp2
        go_ret
        exact ⟨rfl, HB.out⟩
theorem zz_contains (s : ByteArray) (r : Int) (w : World) (hs : s.size ≤ 2147483647) (h0 : -2147483648 ≤ r) (h1 : r ≤ 2147483647) :
    Calls Tryd.prog 51 #[.string s, .int .i32 r] w fun e w' => e = .returned (.bool (decide (zzIdx s r ≥ 0))) ∧ Below w.heap.size w w' := by
  have H := Aside0.mk (zz_index s r w hs h0 h1)
  generalize zzIdx s r = v at H ⊢
  go_enter Tryd.func51, Tryd.ntmps51
  go_wp2_with fail
  refine H.out.mono ?_
  rintro e w1 ⟨rfl, hb⟩
  go_wp2
  go_ret
  exact ⟨rfl, hb⟩
end Go.Proofs.YtmjoebnphacadaaDoor.Lex
