/- model.EscapeName by values, IsValidLegacyMetricName: their walks. -/
import Derived.Test.YtnjghpoeokfekaaDoorBuilder
import Derived.Test.YtnjghpoeokfekaaDoorFmt16
import Derived.Test.YtnjghpoeokfekaaDoorQx3
import Derived.Test.YtnjghpoeokfekaaDoorQx2
import Derived.BigCall
import Derived.Test.YtnjghpoeokfekaaDoorLib
import Derived.Lib.RuneCount
import Derived.WalkSmall
namespace Go.Proofs.YtnjghpoeokfekaaDoor.Door
open Go.RowKit Go.Lib Go.Proofs.YtnjghpoeokfekaaDoor.Q Go.Proofs.YtnjghpoeokfekaaDoor.Pure Go.Proofs.YtnjghpoeokfekaaDoorW.PrintWords Go.Proofs.YtnjghpoeokfekaaDoorW.PrintLast
set_option linter.unusedVariables false
set_option linter.unusedSimpArgs false
theorem builderAt_below {T e : TypeId} {B b : Nat} {p : Value} {bs : List Value} {w w' : World} (h : BuilderAtF T e B b p bs w) (hb : Below w.heap.size w w') : BuilderAtF T e B b p bs w' := by
  obtain ⟨h1, v, h2, ⟨h3, h4⟩, h5⟩ := h
  refine ⟨h1, v, (hb.block b (Array.getElem?_eq_some_iff.1 h2).1).trans h2, ⟨h3, ?_⟩, h5⟩
  rcases h4 with h4 | ⟨g, cap, cur, fz, e1, e2, e3, r⟩
  · exact Or.inl h4
  · exact Or.inr ⟨g, cap, cur, fz, e1, e2, (hb.block g (Array.getElem?_eq_some_iff.1 e3).1).trans e3, r⟩
theorem builder_below {T e : TypeId} {B b : Nat} {bs : List Value} {w w' : World} (h : IsBuilderF T e B b bs w) (hb : Below w.heap.size w w') : IsBuilderF T e B b bs w' := by
  rcases h with h | h
  · exact Or.inl (builderAt_below h hb)
  · exact Or.inr (builderAt_below h hb)
def validR (r : Nat) : Bool := decide (r < 55296) || (decide (57343 < r) && decide (r ≤ 1114111))
theorem valid_rune (r : Nat) (w : World) :
    Calls Tryd.prog 30 #[.int .i32 r] w fun e w' => e = .returned (.bool (validR r)) ∧ ∃ n, w' = w.drewN n := by
  have h : utf8_ValidRune.f 1 (r : Int) = some (validR r) := by
    unfold utf8_ValidRune.f validR
    rw [if_pos (by omega)]
    simp only [utf8_ValidRune.j0]
    by_cases h1 : r < 55296
    · rw [decide_eq_true (show (r : Int) < 55296 by omega), if_pos rfl, decide_eq_true h1]
      rfl
    · rw [decide_eq_false (show ¬ (r : Int) < 55296 by omega), if_neg (by simp), decide_eq_false h1]
      by_cases h2 : 57343 < r
      · rw [if_pos (by omega), decide_eq_true h2]
        by_cases h3 : r ≤ 1114111
        · rw [if_pos (by omega), decide_eq_true h3]; rfl
        · rw [if_neg (by omega), decide_eq_false h3]; rfl
      · rw [if_neg (by omega), decide_eq_false h2]; rfl
  exact (utf8_ValidRune.calls 1 _ _ w h).mono fun e w' ⟨h, hd⟩ => ⟨h, hd.out⟩
def valsP (r pos : Nat) : List UInt8 := if r = 95 then [95, 95] else if legR r pos = true then Lib.encodeRune (r : Int) else if validR r = true then 95 :: (hexN r ++ [95]) else [95, 70, 70, 70, 68, 95]
theorem hexN_len : ∀ (n u : Nat), u < 16 ^ (n + 1) → (hexN u).length ≤ n + 1
  | 0, u, h => by
    rw [hexN_small (by omega)]
    exact Nat.le_refl _
  | n + 1, u, h => by
    by_cases hu : u < 16
    · rw [hexN_small hu]
      simp
    · rw [hexN_great hu, List.length_append]
      have := hexN_len n (u / 16) (by rw [Nat.pow_succ] at h; omega)
      simp
      omega
/-- Whether all characters from a place on are of a legacy name. -/
def legFrom (s : ByteArray) : Nat → Nat → Bool
  | 0, _ => true
  | fuel + 1, pos => if pos < s.size then legR (Utf8.decode s pos).1 pos && legFrom s fuel (pos + (Utf8.decode s pos).2) else true
theorem legFrom_end (s : ByteArray) (fuel pos : Nat) (h : ¬ pos < s.size) : legFrom s fuel pos = true := by
  cases fuel with
  | zero => rfl
  | succ n => simp [legFrom, h]
theorem legFrom_step {s : ByteArray} {fuel pos : Nat} (h : pos < s.size) : legFrom s (fuel + 1) pos = (legR (Utf8.decode s pos).1 pos && legFrom s fuel (pos + (Utf8.decode s pos).2)) := by simp [legFrom, h]
set_option maxHeartbeats 4000000 in
set_option maxRecDepth 1000000 in
theorem legacy_name (s : ByteArray) (w : World) (h0 : s.size ≠ 0) (hs : s.size ≤ 2147483647) :
    Calls Tryd.prog 25 #[.string s] w fun e w' => e = .returned (.bool (legFrom s s.size 0)) ∧ Below w.heap.size w w' := by
  have hz0 : ((s.size : Int) == 0) = false := by simpa using h0
  obtain ⟨R, hR⟩ : ∃ R, legFrom s s.size 0 = R := ⟨_, rfl⟩
  rw [hR]
  have HR := Aside0.mk hR
  clear hR h0
  go_enter Tryd.func25, Tryd.ntmps25
  go_wp2
  go_loopw [] (fun wr => ∃ (pos fuel : Nat), Aside0 (wr.heap[w.heap.size]? = some (.stringIter s pos) ∧ Below w.heap.size w wr ∧ legFrom s fuel pos = R ∧ s.size ≤ pos + fuel)) (fun wr => s.size - wr.iterPos w.heap.size)
  case atStart =>
    refine ⟨0, s.size, Aside0.mk ⟨?_, (Below.refl _ w).alloc (Nat.le_refl _) _, HR.out, by omega⟩⟩
    exact World.iter_heap w s 0
  case round =>
    obtain ⟨pos, fuel, HR⟩ := hrel
    obtain ⟨hit, hbw, hacc, hfu⟩ := HR.out
    clear HR
    have HA := Aside0.mk hacc
    clear hacc
    have hsz : w.heap.size < wr.heap.size := (Array.getElem?_eq_some_iff.1 hit).1
    by_cases hp : pos < s.size
    · have hnx : ∀ ty, (Instr.next (.pointer (some ⟨w.heap.size, 0, none⟩)) true ty).run Tryd.prog wr = _ := fun ty => Lib.run_next_any_at wr w.heap.size s pos ty hit hp
      have hwd := Lib.decode_width_pos s pos hp
      have hd1 := decode_le s pos
      obtain ⟨f, rfl⟩ : ∃ f, fuel = f + 1 := ⟨fuel - 1, by omega⟩
      have hstep := legFrom_step (fuel := f) hp
      obtain ⟨⟨r, wd⟩, hq⟩ : ∃ q, Utf8.decode s pos = q := ⟨_, rfl⟩
      rw [hq] at hnx hwd hd1 hstep
      simp only at hnx hwd hd1 hstep
      rw [hstep] at HA
      have hit2 := Lib.iterAt_heap wr w.heap.size s pos (pos + wd) hit
      have hbw2 := Lib.below_iterAt hbw (k := w.heap.size) (by omega) s (pos + wd)
      have HT := Aside0.mk hit
      have HT2 := Aside0.mk hit2
      have HB2 := Aside0.mk hbw2
      clear hq hstep hit hit2 hbw hbw2
      go_wp2_with fail
      refine (legacy_rune r pos _).mono ?_
      rintro e W0 ⟨rfl, n0, rfl⟩
      cases hL : legR r pos with
      | true =>
        have HA2 := Aside0.mk (show legFrom s f (pos + wd) = R by rw [← HA.out, hL]; rfl)
        clear hL
        go_wp2
        go_roundw
        case rel => exact ⟨pos + wd, f, Aside0.mk ⟨HT2.out, below_drewN HB2.out n0, HA2.out, by omega⟩⟩
        case measure =>
          have e1 : ((wr.iterAt w.heap.size s (pos + wd)).drewN n0).iterPos w.heap.size = pos + wd := by
            have := HT2.out
            simp only [World.iterPos, World.heap_drewN, this]
          have e2 : wr.iterPos w.heap.size = pos := by simp only [World.iterPos, HT.out]
          show s.size - ((wr.iterAt w.heap.size s (pos + wd)).drewN n0).iterPos w.heap.size < s.size - wr.iterPos w.heap.size
          rw [e1, e2]
          omega
      | false =>
        have hR : false = R := by rw [← HA.out, hL]; rfl
        subst hR
        clear hL
        go_wp2
        go_ret
        exact ⟨rfl, below_drewN HB2.out n0⟩
    · have hnx : ∀ ty, (Instr.next (.pointer (some ⟨w.heap.size, 0, none⟩)) true ty).run Tryd.prog wr = _ := fun ty => Lib.run_next_end_at wr w.heap.size s pos ty hit hp
      have HB := Aside0.mk hbw
      clear hbw
      have hR := HA.out
      rw [legFrom_end s fuel pos hp] at hR
      subst hR
      go_wp2
      go_ret
      exact ⟨rfl, HB.out⟩
/-- Where the name is none of the old kind. -/
theorem escape_same (s : ByteArray) (w : World) (h0 : s.size ≠ 0) (hs : s.size ≤ 2147483647) (hl : legFrom s s.size 0 = true) :
    Calls Tryd.prog 20 #[.string s, .int .i64 3] w fun e w' => e = .returned (.string s) ∧ Below w.heap.size w w' := by
  have hz0 : ((s.size : Int) == 0) = false := by simpa using h0
  have H := Aside0.mk (fun W => legacy_name s W h0 hs)
  rw [hl] at H
  clear h0 hl
  go_enter Tryd.func20, Tryd.ntmps20
  go_wp2_with fail
  refine (H.out _).mono ?_
  rintro e w1 ⟨rfl, hb⟩
  go_wp2
  go_ret
  exact ⟨rfl, below_step (below_alloc (Below.refl _ _) _) hb⟩
theorem escape_none (s : ByteArray) (w : World) : Calls Tryd.prog 20 #[.string s, .int .i64 0] w fun e w' => e = .returned (.string s) ∧ Below w.heap.size w w' := by
  by_cases h0 : s.size = 0
  · have hz0 : ((s.size : Int) == 0) = true := by simpa using h0
    clear h0
    go_enter Tryd.func20, Tryd.ntmps20
    go_wp2
    go_ret
    exact ⟨rfl, Below.refl _ _⟩
  · have hz0 : ((s.size : Int) == 0) = false := by simpa using h0
    clear h0
    go_enter Tryd.func20, Tryd.ntmps20
    go_wp2
    go_ret
    exact ⟨rfl, below_alloc (Below.refl _ _) _⟩
set_option maxHeartbeats 4000000 in
set_option maxRecDepth 1000000 in
theorem escape_vals (s : ByteArray) (w : World) (h0 : s.size ≠ 0) (hs : s.size ≤ 2147483647) (hl : legFrom s s.size 0 = false) (hT : TZ w) :
    Calls Tryd.prog 20 #[.string s, .int .i64 3] w fun e w' => e = .returned (.string ⟨([85, 95, 95] ++ escFrom valsP s s.size 0).toArray⟩) ∧ Below w.heap.size w w' := by
  have hz0 : ((s.size : Int) == 0) = false := by simpa using h0
  have HL := Aside0.mk (fun W => legacy_name s W h0 hs)
  rw [hl] at HL
  obtain ⟨R, hR⟩ : ∃ R, [85, 95, 95] ++ escFrom valsP s s.size 0 = R := ⟨_, rfl⟩
  rw [hR]
  have HR := Aside0.mk hR
  have HZ := Aside0.mk hT
  clear hR h0 hl hT
  go_enter Tryd.func20, Tryd.ntmps20
  go_wp2_with fail
  refine (HL.out _).mono ?_
  rintro e w1 ⟨rfl, hb⟩
  have HI1 := Aside0.mk (builder_below (Lib.IsBuilderF.of (Lib.fresh_isBuilder 52 5 w)) hb)
  have hsz1 : w.heap.size + 1 ≤ w1.heap.size := by have := hb.size; simpa using this
  have HB1 := Aside0.mk (((Below.refl w.heap.size w).alloc (Nat.le_refl _) _).trans (hb.mono (by simp)))
  clear hb HL
  go_wp2_with (go_at_call 35; refine (Tryd.sbWriteString w.heap.size w.heap.size (Lib.byteCells []) ⟨#[85, 95, 95]⟩ _ HI1.out (by decide) (by omega)).mono ?_)
  rintro e w2 ⟨rfl, h1, b1, k1⟩
  have HI2 := Aside0.mk (show Lib.IsBuilderF 52 5 w.heap.size w.heap.size (Lib.byteCells [85, 95, 95]) w2 from Or.inr h1)
  have hsz2 : w.heap.size + 1 ≤ w2.heap.size := (Array.getElem?_eq_some_iff.1 h1.2.choose_spec.1).1
  have HB2 := Aside0.mk (HB1.out.trans b1)
  clear h1 b1 k1 HI1 HB1
  go_wp2
  -- MARK vals (printed by tools/gen_esc.py)
  go_loopw [] (fun wr => ∃ (pos fuel : Nat) (acc : List UInt8), Aside0 (Lib.IsBuilderF 52 5 w.heap.size w.heap.size (Lib.byteCells acc) wr ∧ wr.heap[w2.heap.size]? = some (.stringIter s pos) ∧ Below w.heap.size w wr ∧ acc ++ escFrom valsP s fuel pos = R ∧ s.size ≤ pos + fuel ∧ acc.length ≤ 16 * pos + 16)) (fun wr => s.size - wr.iterPos (w2.heap.size))
  case atStart =>
    refine ⟨0, s.size, [85, 95, 95], Aside0.mk ⟨HI2.out.alloc _, World.iter_heap w2 s 0, HB2.out.alloc (by omega) _, HR.out, by omega, by simp⟩⟩
  case round =>
    obtain ⟨pos, fuel, acc, HR⟩ := hrel
    obtain ⟨hI, hit, hbw, hacc, hfu, hal⟩ := HR.out
    clear HR
    have HA := Aside0.mk hacc
    clear hacc
    have hsz : w2.heap.size < wr.heap.size := (Array.getElem?_eq_some_iff.1 hit).1
    by_cases hp : pos < s.size
    · have hnx : ∀ ty, (Instr.next (.pointer (some ⟨w2.heap.size, 0, none⟩)) true ty).run Tryd.prog wr = _ := fun ty => Lib.run_next_any_at wr (w2.heap.size) s pos ty hit hp
      have hwd := Lib.decode_width_pos s pos hp
      have hd1 := decode_le s pos
      obtain ⟨f, rfl⟩ : ∃ f, fuel = f + 1 := ⟨fuel - 1, by omega⟩
      have hstep := escFrom_step (f := valsP) (fuel := f) hp
      obtain ⟨⟨r, wd⟩, hq⟩ : ∃ q, Utf8.decode s pos = q := ⟨_, rfl⟩
      rw [hq] at hnx hwd hd1 hstep
      simp only at hnx hwd hd1 hstep
      rw [hstep] at HA
      have hI2 := hI.iterAt hit (pos + wd)
      have hit2 := Lib.iterAt_heap wr (w2.heap.size) s pos (pos + wd) hit
      have hbw2 := Lib.below_iterAt hbw (k := w2.heap.size) (by omega) s (pos + wd)
      have hsz2 : w.heap.size ≤ (wr.iterAt (w2.heap.size) s (pos + wd)).heap.size := by rw [Lib.iterAt_size]; omega
      have HQ := Aside0.mk hq
      have HI := Aside0.mk hI
      have HI2 := Aside0.mk hI2
      have HT := Aside0.mk hit
      have HT2 := Aside0.mk hit2
      have HB2 := Aside0.mk hbw2
      have hacl : (Lib.byteCells acc).length ≤ 16 * pos + 16 := by rw [Lib.byteCells_length]; exact hal
      clear hq hstep hI hI2 hit hit2 hbw hbw2
      by_cases h95 : r = 95
      · subst h95
        go_wp2_with (go_at_call 35; refine (Tryd.sbWriteString w.heap.size w.heap.size (Lib.byteCells acc) ⟨#[95, 95]⟩ _ HI2.out (by show _ + 2 ≤ _; omega) hsz2).mono ?_)
        rintro e W1 ⟨rfl, h1, b1, k1⟩
        have H2 := Aside0.mk (show Lib.IsBuilderF 52 5 w.heap.size w.heap.size (Lib.byteCells (acc ++ [95, 95])) W1 by rw [Lib.byteCells_append]; exact Or.inr h1)
        have HB3 := Aside0.mk (HB2.out.trans b1)
        have HT3 := Aside0.mk (k1.iter HT2.out (by omega))
        have HA3 := Aside0.mk (show (acc ++ [95, 95]) ++ escFrom valsP s f (pos + wd) = R by rw [← HA.out, List.append_assoc, show valsP 95 pos = [95, 95] from by unfold valsP; rw [if_pos rfl]])
        clear h1 b1 k1
        go_wp2
        go_roundw
        case rel => exact ⟨pos + wd, f, acc ++ [95, 95], Aside0.mk ⟨H2.out, HT3.out, HB3.out, HA3.out, by omega, by rw [List.length_append]; simp only [List.length_cons, List.length_nil]; omega⟩⟩
        case measure =>
          simp only [World.iterPos, HT3.out, HT.out]
          omega
      have n95 : ((r : Int) == 95) = false := by simp; omega
      go_wp2_with fail
      refine (legacy_rune r pos _).mono ?_
      rintro e W0 ⟨rfl, n0, rfl⟩
      replace HI2 := Aside0.mk (show Lib.IsBuilderF 52 5 w.heap.size w.heap.size (Lib.byteCells acc) ((wr.iterAt (w2.heap.size) s (pos + wd)).drewN n0) from HI2.out)
      replace HT2 := Aside0.mk (show ((wr.iterAt (w2.heap.size) s (pos + wd)).drewN n0).heap[w2.heap.size]? = some (.stringIter s (pos + wd)) from HT2.out)
      replace HB2 := Aside0.mk (below_drewN HB2.out n0)
      replace hsz2 : w.heap.size ≤ ((wr.iterAt (w2.heap.size) s (pos + wd)).drewN n0).heap.size := hsz2
      cases hL : legR r pos with
      | true =>
        have HL := Aside0.mk hL
        clear hL
        have hl4 : (Lib.encodeRune (r : Int)).length ≤ 4 := by have := Lib.runeCells_le (r : Int); rw [Lib.runeCells_length] at this; exact this.2
        go_wp2_with (go_at_call 31; refine (Tryd.sbWriteRune w.heap.size w.heap.size (Lib.byteCells acc) (r : Int) (by omega) (by omega) _ HI2.out (by omega) hsz2).mono ?_)
        rintro e W1 ⟨rfl, h1, b1, k1⟩
        have H2 := Aside0.mk (show Lib.IsBuilderF 52 5 w.heap.size w.heap.size (Lib.byteCells (acc ++ Lib.encodeRune (r : Int))) W1 by rw [Lib.byteCells_append, Lib.byteCells_encodeRune]; exact Or.inr h1)
        have HB3 := Aside0.mk (HB2.out.trans b1)
        have HT3 := Aside0.mk (k1.iter HT2.out (by omega))
        have HA3 := Aside0.mk (show (acc ++ Lib.encodeRune (r : Int)) ++ escFrom valsP s f (pos + wd) = R by rw [← HA.out, List.append_assoc, show valsP r pos = Lib.encodeRune (r : Int) from by unfold valsP; rw [if_neg h95, if_pos HL.out]])
        clear h1 b1 k1
        go_wp2
        go_roundw
        case rel => exact ⟨pos + wd, f, acc ++ Lib.encodeRune (r : Int), Aside0.mk ⟨H2.out, HT3.out, HB3.out, HA3.out, by omega, by rw [List.length_append]; omega⟩⟩
        case measure =>
          simp only [World.iterPos, HT3.out, HT.out]
          omega
      | false =>
        have HL := Aside0.mk hL
        clear hL
        go_wp2_with fail
        refine (valid_rune r _).mono ?_
        rintro e W5 ⟨rfl, n1, rfl⟩
        replace HI2 := Aside0.mk (show Lib.IsBuilderF 52 5 w.heap.size w.heap.size (Lib.byteCells acc) (((wr.iterAt (w2.heap.size) s (pos + wd)).drewN n0).drewN n1) from HI2.out)
        replace HT2 := Aside0.mk (show (((wr.iterAt (w2.heap.size) s (pos + wd)).drewN n0).drewN n1).heap[w2.heap.size]? = some (.stringIter s (pos + wd)) from HT2.out)
        replace HB2 := Aside0.mk (below_drewN HB2.out n1)
        replace hsz2 : w.heap.size ≤ (((wr.iterAt (w2.heap.size) s (pos + wd)).drewN n0).drewN n1).heap.size := hsz2
        rw [World.drewN_drewN] at HI2 HT2 HB2 hsz2
        cases hV : validR r with
        | false =>
          have HV := Aside0.mk hV
          clear hV
          go_wp2_with (go_at_call 35; refine (Tryd.sbWriteString w.heap.size w.heap.size (Lib.byteCells acc) ⟨#[95, 70, 70, 70, 68, 95]⟩ _ HI2.out (by show _ + 6 ≤ _; omega) hsz2).mono ?_)
          rintro e W1 ⟨rfl, h1, b1, k1⟩
          have H2 := Aside0.mk (show Lib.IsBuilderF 52 5 w.heap.size w.heap.size (Lib.byteCells (acc ++ [95, 70, 70, 70, 68, 95])) W1 by rw [Lib.byteCells_append]; exact Or.inr h1)
          have HB3 := Aside0.mk (HB2.out.trans b1)
          have HT3 := Aside0.mk (k1.iter HT2.out (by omega))
          have HA3 := Aside0.mk (show (acc ++ [95, 70, 70, 70, 68, 95]) ++ escFrom valsP s f (pos + wd) = R by rw [← HA.out, List.append_assoc, show valsP r pos = [95, 70, 70, 70, 68, 95] from by unfold valsP; rw [if_neg h95, if_neg (by rw [HL.out]; simp), if_neg (by rw [HV.out]; simp)]])
          clear h1 b1 k1
          go_wp2
          go_roundw
          case rel => exact ⟨pos + wd, f, acc ++ [95, 70, 70, 70, 68, 95], Aside0.mk ⟨H2.out, HT3.out, HB3.out, HA3.out, by omega, by rw [List.length_append]; simp only [List.length_cons, List.length_nil]; omega⟩⟩
          case measure =>
            simp only [World.iterPos, HT3.out, HT.out]
            omega
        | true =>
          have HV := Aside0.mk hV
          clear hV
          have hF : (hexN r).length ≤ 8 := hexN_len 7 r (by omega)
          go_wp2_with (go_at_call 31; refine (Tryd.sbWriteRune w.heap.size w.heap.size (Lib.byteCells acc) 95 (by omega) (by omega) _ HI2.out (by omega) hsz2).mono ?_)
          rintro e W1 ⟨rfl, h1, b1, k1⟩
          have I1 := Aside0.mk (show Lib.IsBuilderF 52 5 w.heap.size w.heap.size (Lib.byteCells (acc ++ [95])) W1 by rw [Lib.byteCells_append]; exact Or.inr h1)
          have B1 := Aside0.mk (HB2.out.trans b1)
          have T1 := Aside0.mk (k1.iter HT2.out (by omega))
          have s1 : w.heap.size ≤ W1.heap.size := Nat.le_trans hsz2 b1.size
          clear h1 b1 k1 HI2 HT2 HB2 hsz2
          go_wp2_with fail
          refine (strconv_FormatInt16 r _ (by omega) (HZ.out.below B1.out)).mono ?_
          rintro e W2 ⟨rfl, hb⟩
          have I2 := Aside0.mk (builder_below I1.out hb)
          have B2 := Aside0.mk (B1.out.trans (hb.mono s1))
          have T2 := Aside0.mk ((hb.block _ (Array.getElem?_eq_some_iff.1 T1.out).1).trans T1.out)
          have s2 : w.heap.size ≤ W2.heap.size := Nat.le_trans s1 hb.size
          clear hb I1 B1 T1 s1
          obtain ⟨F, hFF⟩ : ∃ F, hexN r = F := ⟨_, rfl⟩
          rw [hFF] at hF ⊢
          have HF := Aside0.mk hFF
          clear hFF
          have hFz : (⟨F.toArray⟩ : ByteArray).size = F.length := by show F.toArray.size = _; simp
          have hl1 : (Lib.byteCells (acc ++ [95])).length ≤ 16 * pos + 17 := by rw [Lib.byteCells_length, List.length_append]; simp; omega
          go_wp2_with (go_at_call 35; refine (Tryd.sbWriteString w.heap.size w.heap.size (Lib.byteCells (acc ++ [95])) ⟨F.toArray⟩ _ I2.out (by omega) s2).mono ?_)
          rintro e W3 ⟨rfl, h1, b1, k1⟩
          have HI2 := Aside0.mk (show Lib.IsBuilderF 52 5 w.heap.size w.heap.size (Lib.byteCells ((acc ++ [95]) ++ F)) W3 by rw [Lib.byteCells_append]; exact Or.inr h1)
          have HB2 := Aside0.mk (B2.out.trans b1)
          have HT2 := Aside0.mk (k1.iter T2.out (by omega))
          have hsz2 : w.heap.size ≤ W3.heap.size := Nat.le_trans s2 b1.size
          have hl2 : (Lib.byteCells ((acc ++ [95]) ++ F)).length ≤ 16 * pos + 25 := by rw [Lib.byteCells_length, List.length_append, List.length_append]; simp; omega
          clear h1 b1 k1 I2 B2 T2 s2 hl1 hFz
          go_wp2_with (go_at_call 31; refine (Tryd.sbWriteRune w.heap.size w.heap.size (Lib.byteCells ((acc ++ [95]) ++ F)) 95 (by omega) (by omega) _ HI2.out (by omega) hsz2).mono ?_)
          rintro e W1 ⟨rfl, h1, b1, k1⟩
          have H2 := Aside0.mk (show Lib.IsBuilderF 52 5 w.heap.size w.heap.size (Lib.byteCells (acc ++ (95 :: (F ++ [95])))) W1 by
            have e : acc ++ (95 :: (F ++ [95])) = ((acc ++ [95]) ++ F) ++ [95] := by simp
            rw [e, Lib.byteCells_append]
            exact Or.inr h1)
          have HB3 := Aside0.mk (HB2.out.trans b1)
          have HT3 := Aside0.mk (k1.iter HT2.out (by omega))
          have HA3 := Aside0.mk (show (acc ++ (95 :: (F ++ [95]))) ++ escFrom valsP s f (pos + wd) = R by rw [← HA.out, List.append_assoc, show valsP r pos = 95 :: (F ++ [95]) from by unfold valsP; rw [if_neg h95, if_neg (by rw [HL.out]; simp), if_pos HV.out, HF.out]])
          clear h1 b1 k1
          go_wp2
          go_roundw
          case rel => exact ⟨pos + wd, f, acc ++ (95 :: (F ++ [95])), Aside0.mk ⟨H2.out, HT3.out, HB3.out, HA3.out, by omega, by rw [List.length_append, List.length_cons, List.length_append]; simp; omega⟩⟩
          case measure =>
            simp only [World.iterPos, HT3.out, HT.out]
            omega
    · have hnx : ∀ ty, (Instr.next (.pointer (some ⟨w2.heap.size, 0, none⟩)) true ty).run Tryd.prog wr = _ := fun ty => Lib.run_next_end_at wr (w2.heap.size) s pos ty hit hp
      have HI := Aside0.mk hI
      have HB := Aside0.mk hbw
      clear hI hbw
      go_wp2_with (go_at_call 33; refine (Tryd.sbString w.heap.size w.heap.size acc _ HI.out (by omega)).mono ?_)
      rintro e W1 ⟨rfl, _, b1, _⟩
      have hR := HA.out
      rw [escFrom_end valsP s fuel pos hp, List.append_nil] at hR
      subst hR
      go_wp2
      go_ret
      exact ⟨rfl, HB.out.trans b1⟩
end Go.Proofs.YtnjghpoeokfekaaDoor.Door
