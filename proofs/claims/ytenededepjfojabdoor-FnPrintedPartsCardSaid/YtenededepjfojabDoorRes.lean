/- labels.zzContainsRune, labels.isReserved: their walks. What the walks of this seat ask of the world: PT. -/
import Derived.Test.YtenededepjfojabDoorShelf
import Derived.Test.YtenededepjfojabDoorQb
import Derived.Test.YtenededepjfojabDoorWMore
import Derived.Lib.RuneCount
import Derived.WalkSmall
import Derived.Lib.PrintData
import Derived.LoopTactic
import Derived.BigCall
namespace Go.Proofs.YtenededepjfojabDoor.Door
open Go.RowKit Go.Lib Go.Proofs.YtenededepjfojabDoorW.PrintWords Go.Proofs.YtenededepjfojabDoorW.PrintLast
set_option linter.unusedVariables false
set_option linter.unusedSimpArgs false
/-- The first place of a rune from a place on; -1: none. -/
def idxR (r : Int) (s : ByteArray) : Nat → Nat → Int
  | 0, _ => -1
  | f + 1, pos => if pos < s.size then (if ((Utf8.decode s pos).1 : Int) = r then (pos : Int) else idxR r s f (pos + (Utf8.decode s pos).2)) else -1
def badR (r : Int) : Bool := !decide (r = 65533) && (decide (r < 0) || decide (r > 1114111) || (decide (55296 ≤ r) && decide (r ≤ 57343)))
def zzIdx (s : ByteArray) (r : Int) : Int := if badR r = true then -1 else idxR r s s.size 0
theorem idxR_end (r : Int) (s : ByteArray) (f pos : Nat) (h : ¬ pos < s.size) : idxR r s f pos = -1 := by
  cases f with
  | zero => rfl
  | succ f => simp [idxR, h]
theorem idxR_step {r : Int} {s : ByteArray} {f pos : Nat} (h : pos < s.size) : idxR r s (f + 1) pos = if ((Utf8.decode s pos).1 : Int) = r then (pos : Int) else idxR r s f (pos + (Utf8.decode s pos).2) := by simp [idxR, h]
set_option maxHeartbeats 4000000 in
set_option maxRecDepth 1000000 in
theorem zz_index (s : ByteArray) (r : Int) (w : World) (hs : s.size ≤ 2147483647) (h0 : -2147483648 ≤ r) (h1 : r ≤ 2147483647) :
    Calls Tryd.prog 33 #[.string s, .int .i32 r] w fun e w' => e = .returned (.int .i64 (zzIdx s r)) ∧ Below w.heap.size w w' := by
  cases hb : badR r with
  | true =>
    have hv : zzIdx s r = -1 := by unfold zzIdx; rw [hb, if_pos rfl]
    rw [hv]
    unfold badR at hb
    simp only [Bool.and_eq_true, Bool.or_eq_true, Bool.not_eq_true', decide_eq_true_eq, decide_eq_false_iff_not] at hb
    obtain ⟨n1, hb⟩ := hb
    have b1 : (r != 65533) = true := by simpa using n1
    clear hv n1
    rcases hb with (hb | hb) | ⟨hb, hc⟩
    · go_enter Tryd.func33, Tryd.ntmps33
      go_wp2
      go_ret
      exact ⟨rfl, Below.refl _ _⟩
    · have hn : ¬ r < 0 := by omega
      go_enter Tryd.func33, Tryd.ntmps33
      go_wp2
      go_ret
      exact ⟨rfl, Below.refl _ _⟩
    · have hn : ¬ r < 0 := by omega
      have hn2 : ¬ r > 1114111 := by omega
      go_enter Tryd.func33, Tryd.ntmps33
      go_wp2
      go_ret
      exact ⟨rfl, Below.refl _ _⟩
  | false =>
  obtain ⟨R, hR⟩ : ∃ R, zzIdx s r = R := ⟨_, rfl⟩
  rw [hR]
  unfold zzIdx at hR
  rw [hb, if_neg (by simp)] at hR
  have HR := Aside0.mk hR
  clear hR
  have h3 : r = 65533 ∨ (0 ≤ r ∧ r < 55296) ∨ (57343 < r ∧ r ≤ 1114111 ∧ r ≠ 65533) := by
    unfold badR at hb
    by_cases e : r = 65533
    · exact Or.inl e
    · simp [e] at hb
      omega
  clear hb
  rcases h3 with h3 | ⟨p1, p2⟩ | ⟨p1, p2, p3⟩
  · have b1 : (r != 65533) = false := by simpa using h3
    clear h3
    go_enter Tryd.func33, Tryd.ntmps33
    go_wp2
    go_loopw [] (fun wr => ∃ (pos fuel : Nat), Aside0 (wr.heap[w.heap.size]? = some (.stringIter s pos) ∧ Below w.heap.size w wr ∧ idxR r s fuel pos = R ∧ s.size ≤ pos + fuel)) (fun wr => s.size - wr.iterPos w.heap.size)
    case atStart => exact ⟨0, s.size, Aside0.mk ⟨World.iter_heap w s 0, (Below.refl _ w).alloc (Nat.le_refl _) _, HR.out, by omega⟩⟩
    case round =>
      obtain ⟨pos, fuel, HR⟩ := hrel
      obtain ⟨hit, hbw, hacc, hfu⟩ := HR.out
      clear HR
      have HA := Aside0.mk hacc
      clear hacc
      have hsz : w.heap.size < wr.heap.size := (Array.getElem?_eq_some_iff.1 hit).1
      by_cases hp : pos < s.size
      · have hnx : ∀ ty, (Instr.next (.pointer (some ⟨w.heap.size, 0, none⟩)) true ty).run Tryd.prog wr = _ := fun ty => Lib.run_next_any_at wr w.heap.size s pos ty hit hp
        have hwd := Lib.decode_width_pos s pos hp
        obtain ⟨f, rfl⟩ : ∃ f, fuel = f + 1 := ⟨fuel - 1, by omega⟩
        have hstep := idxR_step (r := r) (f := f) hp
        obtain ⟨⟨q, wd⟩, hq⟩ : ∃ q, Utf8.decode s pos = q := ⟨_, rfl⟩
        rw [hq] at hnx hwd hstep
        simp only at hnx hwd hstep
        rw [hstep] at HA
        have HT := Aside0.mk hit
        have HT2 := Aside0.mk (Lib.iterAt_heap wr w.heap.size s pos (pos + wd) hit)
        have HB2 := Aside0.mk (Lib.below_iterAt hbw (k := w.heap.size) (by omega) s (pos + wd))
        clear hq hstep hit hbw
        by_cases hr : (q : Int) = r
        · have hR : (pos : Int) = R := by rw [← HA.out, if_pos hr]
          subst hR
          have hrb : ((q : Int) == r) = true := by simpa using hr
          clear HA hr
          go_wp2
          go_ret
          exact ⟨rfl, HB2.out⟩
        · have HA2 := Aside0.mk (show idxR r s f (pos + wd) = R by rw [← HA.out, if_neg hr])
          have hrb : ((q : Int) == r) = false := by simpa using hr
          clear HA hr
          go_wp2
          go_roundw
          case rel => exact ⟨pos + wd, f, Aside0.mk ⟨HT2.out, HB2.out, HA2.out, by omega⟩⟩
          case measure =>
            have e1 : (wr.iterAt w.heap.size s (pos + wd)).iterPos w.heap.size = pos + wd := by
              have := HT2.out
              simp only [World.iterPos, this]
            have e2 : wr.iterPos w.heap.size = pos := by simp only [World.iterPos, HT.out]
            show s.size - (wr.iterAt w.heap.size s (pos + wd)).iterPos w.heap.size < s.size - wr.iterPos w.heap.size
            rw [e1, e2]
            omega
      · have hnx : ∀ ty, (Instr.next (.pointer (some ⟨w.heap.size, 0, none⟩)) true ty).run Tryd.prog wr = _ := fun ty => Lib.run_next_end_at wr w.heap.size s pos ty hit hp
        have HB := Aside0.mk hbw
        clear hbw
        have hR := HA.out
        rw [idxR_end r s fuel pos hp] at hR
        subst hR
        go_wp2
        go_ret
        exact ⟨rfl, HB.out⟩
  · have b1 : (r != 65533) = true := by simpa using (show ¬ r = 65533 by omega)
    have b2 : ¬ r < 0 := by omega
    have b3 : ¬ r > 1114111 := by omega
    have b4 : ¬ 55296 ≤ r := by omega
    clear p1 p2
    go_enter Tryd.func33, Tryd.ntmps33
    go_wp2
    go_loopw [] (fun wr => ∃ (pos fuel : Nat), Aside0 (wr.heap[w.heap.size]? = some (.stringIter s pos) ∧ Below w.heap.size w wr ∧ idxR r s fuel pos = R ∧ s.size ≤ pos + fuel)) (fun wr => s.size - wr.iterPos w.heap.size)
    case atStart => exact ⟨0, s.size, Aside0.mk ⟨World.iter_heap w s 0, (Below.refl _ w).alloc (Nat.le_refl _) _, HR.out, by omega⟩⟩
    case round =>
      obtain ⟨pos, fuel, HR⟩ := hrel
      obtain ⟨hit, hbw, hacc, hfu⟩ := HR.out
      clear HR
      have HA := Aside0.mk hacc
      clear hacc
      have hsz : w.heap.size < wr.heap.size := (Array.getElem?_eq_some_iff.1 hit).1
      by_cases hp : pos < s.size
      · have hnx : ∀ ty, (Instr.next (.pointer (some ⟨w.heap.size, 0, none⟩)) true ty).run Tryd.prog wr = _ := fun ty => Lib.run_next_any_at wr w.heap.size s pos ty hit hp
        have hwd := Lib.decode_width_pos s pos hp
        obtain ⟨f, rfl⟩ : ∃ f, fuel = f + 1 := ⟨fuel - 1, by omega⟩
        have hstep := idxR_step (r := r) (f := f) hp
        obtain ⟨⟨q, wd⟩, hq⟩ : ∃ q, Utf8.decode s pos = q := ⟨_, rfl⟩
        rw [hq] at hnx hwd hstep
        simp only at hnx hwd hstep
        rw [hstep] at HA
        have HT := Aside0.mk hit
        have HT2 := Aside0.mk (Lib.iterAt_heap wr w.heap.size s pos (pos + wd) hit)
        have HB2 := Aside0.mk (Lib.below_iterAt hbw (k := w.heap.size) (by omega) s (pos + wd))
        clear hq hstep hit hbw
        by_cases hr : (q : Int) = r
        · have hR : (pos : Int) = R := by rw [← HA.out, if_pos hr]
          subst hR
          have hrb : ((q : Int) == r) = true := by simpa using hr
          clear HA hr
          go_wp2
          go_ret
          exact ⟨rfl, HB2.out⟩
        · have HA2 := Aside0.mk (show idxR r s f (pos + wd) = R by rw [← HA.out, if_neg hr])
          have hrb : ((q : Int) == r) = false := by simpa using hr
          clear HA hr
          go_wp2
          go_roundw
          case rel => exact ⟨pos + wd, f, Aside0.mk ⟨HT2.out, HB2.out, HA2.out, by omega⟩⟩
          case measure =>
            have e1 : (wr.iterAt w.heap.size s (pos + wd)).iterPos w.heap.size = pos + wd := by
              have := HT2.out
              simp only [World.iterPos, this]
            have e2 : wr.iterPos w.heap.size = pos := by simp only [World.iterPos, HT.out]
            show s.size - (wr.iterAt w.heap.size s (pos + wd)).iterPos w.heap.size < s.size - wr.iterPos w.heap.size
            rw [e1, e2]
            omega
      · have hnx : ∀ ty, (Instr.next (.pointer (some ⟨w.heap.size, 0, none⟩)) true ty).run Tryd.prog wr = _ := fun ty => Lib.run_next_end_at wr w.heap.size s pos ty hit hp
        have HB := Aside0.mk hbw
        clear hbw
        have hR := HA.out
        rw [idxR_end r s fuel pos hp] at hR
        subst hR
        go_wp2
        go_ret
        exact ⟨rfl, HB.out⟩
  · have b1 : (r != 65533) = true := by simpa using p3
    have b2 : ¬ r < 0 := by omega
    have b3 : ¬ r > 1114111 := by omega
    have b4 : 55296 ≤ r := by omega
    have b5 : ¬ r ≤ 57343 := by omega
    clear p1 p2 p3
    go_enter Tryd.func33, Tryd.ntmps33
    go_wp2
    go_loopw [] (fun wr => ∃ (pos fuel : Nat), Aside0 (wr.heap[w.heap.size]? = some (.stringIter s pos) ∧ Below w.heap.size w wr ∧ idxR r s fuel pos = R ∧ s.size ≤ pos + fuel)) (fun wr => s.size - wr.iterPos w.heap.size)
    case atStart => exact ⟨0, s.size, Aside0.mk ⟨World.iter_heap w s 0, (Below.refl _ w).alloc (Nat.le_refl _) _, HR.out, by omega⟩⟩
    case round =>
      obtain ⟨pos, fuel, HR⟩ := hrel
      obtain ⟨hit, hbw, hacc, hfu⟩ := HR.out
      clear HR
      have HA := Aside0.mk hacc
      clear hacc
      have hsz : w.heap.size < wr.heap.size := (Array.getElem?_eq_some_iff.1 hit).1
      by_cases hp : pos < s.size
      · have hnx : ∀ ty, (Instr.next (.pointer (some ⟨w.heap.size, 0, none⟩)) true ty).run Tryd.prog wr = _ := fun ty => Lib.run_next_any_at wr w.heap.size s pos ty hit hp
        have hwd := Lib.decode_width_pos s pos hp
        obtain ⟨f, rfl⟩ : ∃ f, fuel = f + 1 := ⟨fuel - 1, by omega⟩
        have hstep := idxR_step (r := r) (f := f) hp
        obtain ⟨⟨q, wd⟩, hq⟩ : ∃ q, Utf8.decode s pos = q := ⟨_, rfl⟩
        rw [hq] at hnx hwd hstep
        simp only at hnx hwd hstep
        rw [hstep] at HA
        have HT := Aside0.mk hit
        have HT2 := Aside0.mk (Lib.iterAt_heap wr w.heap.size s pos (pos + wd) hit)
        have HB2 := Aside0.mk (Lib.below_iterAt hbw (k := w.heap.size) (by omega) s (pos + wd))
        clear hq hstep hit hbw
        by_cases hr : (q : Int) = r
        · have hR : (pos : Int) = R := by rw [← HA.out, if_pos hr]
          subst hR
          have hrb : ((q : Int) == r) = true := by simpa using hr
          clear HA hr
          go_wp2
          go_ret
          exact ⟨rfl, HB2.out⟩
        · have HA2 := Aside0.mk (show idxR r s f (pos + wd) = R by rw [← HA.out, if_neg hr])
          have hrb : ((q : Int) == r) = false := by simpa using hr
          clear HA hr
          go_wp2
          go_roundw
          case rel => exact ⟨pos + wd, f, Aside0.mk ⟨HT2.out, HB2.out, HA2.out, by omega⟩⟩
          case measure =>
            have e1 : (wr.iterAt w.heap.size s (pos + wd)).iterPos w.heap.size = pos + wd := by
              have := HT2.out
              simp only [World.iterPos, this]
            have e2 : wr.iterPos w.heap.size = pos := by simp only [World.iterPos, HT.out]
            show s.size - (wr.iterAt w.heap.size s (pos + wd)).iterPos w.heap.size < s.size - wr.iterPos w.heap.size
            rw [e1, e2]
            omega
      · have hnx : ∀ ty, (Instr.next (.pointer (some ⟨w.heap.size, 0, none⟩)) true ty).run Tryd.prog wr = _ := fun ty => Lib.run_next_end_at wr w.heap.size s pos ty hit hp
        have HB := Aside0.mk hbw
        clear hbw
        have hR := HA.out
        rw [idxR_end r s fuel pos hp] at hR
        subst hR
        go_wp2
        go_ret
        exact ⟨rfl, HB.out⟩
theorem zz_contains (s : ByteArray) (r : Int) (w : World) (hs : s.size ≤ 2147483647) (h0 : -2147483648 ≤ r) (h1 : r ≤ 2147483647) :
    Calls Tryd.prog 26 #[.string s, .int .i32 r] w fun e w' => e = .returned (.bool (decide (zzIdx s r ≥ 0))) ∧ Below w.heap.size w w' := by
  have H := Aside0.mk (zz_index s r w hs h0 h1)
  generalize zzIdx s r = v at H ⊢
  go_enter Tryd.func26, Tryd.ntmps26
  go_wp2_with fail
  refine H.out.mono ?_
  rintro e w1 ⟨rfl, hb⟩
  go_wp2
  go_ret
  exact ⟨rfl, hb⟩
/-- What the walks of this seat ask of the world: the library's tables as Go lays them. -/
def PT (w : World) : Prop := Lib.PrintTabsAt 4 5 6 7 Lib.goPrintTabs w ∧ Lib.Utf8Tabs 2 3 w ∧ Lib.WhiteTab 1 w
theorem PT.below {w w' : World} (h : PT w) (hb : Below w.heap.size w w') : PT w' := ⟨printTabs_below h.1 hb, Utf8Tabs_below h.2.1 hb, WhiteTab_below h.2.2 hb⟩
def resSet : ByteArray := ⟨#[123, 125, 33, 61, 126, 44, 92, 34, 39, 96]⟩
/-- labels.isReserved. -/
def resR (r : Int) : Bool := Lib.isSpaceZ r || decide (zzIdx resSet r ≥ 0)
theorem is_reserved (r : Int) (w : World) (h0 : -2147483648 ≤ r) (h1 : r ≤ 2147483647) (hT : PT w) :
    Calls Tryd.prog 18 #[.int .i32 r] w fun e w' => e = .returned (.bool (resR r)) ∧ Below w.heap.size w w' := by
  have H1 := Aside0.mk (Tryd.unicode_IsSpace_any r w h0 h1 hT.2.2)
  have H2 := Aside0.mk (fun W => zz_contains resSet r W (by decide) h0 h1)
  clear hT
  unfold resR
  generalize decide (zzIdx resSet r ≥ 0) = v at H2 ⊢
  cases hs : Lib.isSpaceZ r with
  | true =>
    rw [hs] at H1
    clear hs
    go_enter Tryd.func18, Tryd.ntmps18
    go_wp2_with fail
    refine H1.out.mono ?_
    rintro e w1 ⟨rfl, hb⟩
    go_wp2
    go_ret
    exact ⟨rfl, hb⟩
  | false =>
    rw [hs] at H1
    clear hs
    go_enter Tryd.func18, Tryd.ntmps18
    go_wp2_with fail
    refine H1.out.mono ?_
    rintro e w1 ⟨rfl, hb⟩
    have HB := Aside0.mk hb
    clear hb
    go_wp2_with fail
    refine (H2.out _).mono ?_
    rintro e w2 ⟨rfl, hb⟩
    have HB2 := Aside0.mk (below_step HB.out hb)
    clear hb
    go_wp2
    go_ret
    exact ⟨rfl, HB2.out⟩
theorem contains_res (s : ByteArray) (w : World) (hT : PT w) :
    Calls Tryd.prog 17 #[.string s, .func (.func 18) #[] #[]] w fun e w' => e = .returned (.bool (decide (0 ≤ Lib.idxFunc (fun r => resR (r : Int)) true s))) ∧ Below w.heap.size w w' := by
  refine Tryd.strings_ContainsFunc_grows 18 #[] (fun args w => enters_of Tryd.func18 (by kernel_rfl) rfl args w) (fun r => resR (r : Int)) s w ?_
  intro W x hx hb
  exact is_reserved (x : Int) W (by omega) (by omega) (hT.below hb)
def conB (n : ByteArray) : Bool := decide (0 ≤ Lib.idxFunc (fun r => resR (r : Int)) true n)
end Go.Proofs.YtenededepjfojabDoor.Door
