/- What the two laws over EscapeName and UnescapeName share: the ways round by values, laws.low, the wrappers of impl. -/
import Derived.Test.YtnjghpoeokfekaaDoorUnescV
import Derived.Test.YtnjghpoeokfekaaDoorRuneList
import Derived.Lib.QuoteLoop
import Derived.Lib.LaidTab
import Derived.OpenShut
import Derived.Lib.LaidU8
import Derived.LaidLaws
namespace Go.Proofs.YtnjghpoeokfekaaDoor.Door
open Go.RowKit Go.Lib Go.Proofs.YtnjghpoeokfekaaDoor.Q Go.Proofs.YtnjghpoeokfekaaDoor.Pure Go.Proofs.YtnjghpoeokfekaaDoorW.PrintWords Go.Proofs.YtnjghpoeokfekaaDoorW.PrintLast
set_option linter.unusedVariables false
set_option linter.unusedSimpArgs false
def deB64 : List Int := [0, 1, 56, 2, 57, 49, 28, 3, 61, 58, 42, 50, 38, 29, 17, 4, 62, 47, 59, 36, 45, 43, 51, 22, 53, 39, 33, 30, 24, 18, 12, 5, 63, 55, 48, 27, 60, 41, 37, 16, 46, 35, 44, 21, 52, 32, 23, 11, 54, 26, 40, 15, 34, 20, 31, 10, 25, 14, 19, 9, 13, 8, 7, 6]
theorem tz_of_reads {w : World} (h : Lib.VarReads Tryd.prog w "math/bits.deBruijn64tab" (tabData .u8 deB64)) : TZ w := by
  obtain ⟨g', t, cs, fuel, p, hg, hty, hvar, hd⟩ := h
  obtain rfl := Option.some.inj ((show Tryd.prog.globalNamed "math/bits.deBruijn64tab" = some 4 by kernel_rfl).symm.trans hg)
  obtain rfl := Option.some.inj ((show (Tryd.prog.globals[4]?).map (·.type) = some 97 by kernel_rfl).symm.trans hty)
  have hT : Lib.TabIs Tryd.prog w "math/bits.deBruijn64tab" .u8 deB64 := by
    unfold Lib.TabIs
    rw [hvar, ← cells_of_tab Tryd.underlying97 Tryd.underlying5 (by kernel_rfl) (by kernel_rfl) hd]
  exact hT.cell (by kernel_rfl) 15 (by decide)
theorem rune_ok (s : ByteArray) (pos : Nat) : validR (Utf8.decode s pos).1 = true := by
  have h := decodeN_valid (s.size - pos) (s.get! pos).toNat (s.get! (pos + 1)).toNat (s.get! (pos + 2)).toNat (s.get! (pos + 3)).toNat (UInt8.toNat_lt _)
  rw [← decode_at] at h
  unfold validR
  generalize (Utf8.decode s pos).1 = r at h
  rcases h with h | ⟨h1, h2⟩
  · rw [decide_eq_true h]; rfl
  · rw [decide_eq_true h1, decide_eq_true h2]; simp
theorem good_step (s : ByteArray) (pos : Nat) (hp : pos < s.size) (hb : ¬ ((Utf8.decode s pos).1 = 65533 ∧ (Utf8.decode s pos).2 = 1)) (hl : (Utf8.decode s pos).1 < 1048576) :
    s.data.toList.take (pos + (Utf8.decode s pos).2) = s.data.toList.take pos ++ Lib.encodeRune ((Utf8.decode s pos).1 : Int) ∧ validR (Utf8.decode s pos).1 = true ∧ (Utf8.decode s pos).1 < 1048576 ∧ pos + (Utf8.decode s pos).2 ≤ s.size := by
  have hz : s.data.toList.length = s.size := by rw [Array.length_toList]; rfl
  have hne : s.data.toList.drop pos ≠ [] := fun e => by have := congrArg List.length e; rw [List.length_drop] at this; simp at this; omega
  have he := decodeL_drop s pos
  rw [← he] at hb
  have h1 := encode_decode _ hne hb
  rw [he] at h1
  have h2 := decodeN_width_le (s.size - pos) (s.get! pos).toNat (s.get! (pos + 1)).toNat (s.get! (pos + 2)).toNat (s.get! (pos + 3)).toNat (by omega)
  rw [← decode_at] at h2
  exact ⟨by rw [h1, List.take_add], rune_ok s pos, hl, by omega⟩
/-- Whether a test holds of all runes from a place on. -/
def allFrom (t : Nat → Bool) (s : ByteArray) : Nat → Nat → Bool
  | 0, _ => true
  | fuel + 1, pos => if pos < s.size then t (Utf8.decode s pos).1 && allFrom t s fuel (pos + (Utf8.decode s pos).2) else true
theorem allFrom_end (t : Nat → Bool) (s : ByteArray) (fuel pos : Nat) (h : ¬ pos < s.size) : allFrom t s fuel pos = true := by
  cases fuel with
  | zero => rfl
  | succ n => simp [allFrom, h]
theorem allFrom_step {t : Nat → Bool} {s : ByteArray} {fuel pos : Nat} (h : pos < s.size) : allFrom t s (fuel + 1) pos = (t (Utf8.decode s pos).1 && allFrom t s fuel (pos + (Utf8.decode s pos).2)) := by simp [allFrom, h]
def lowT (r : Nat) : Bool := decide (r < 1048576)
def simpT (r : Nat) : Bool := !decide (r = 126) && !decide (r = 65533)
theorem good_simple (s : ByteArray) : ∀ (fuel pos : Nat), allFrom lowT s fuel pos = true → allFrom simpT s fuel pos = true → goodFrom s fuel pos
  | 0, _, _, _ => trivial
  | fuel + 1, pos, h1, h2 => by
    intro hp
    rw [allFrom_step hp, Bool.and_eq_true] at h1 h2
    have hb : ¬ ((Utf8.decode s pos).1 = 65533 ∧ (Utf8.decode s pos).2 = 1) := fun e => by
      have := h2.1
      unfold simpT at this
      rw [e.1] at this
      simp at this
    exact ⟨good_step s pos hp hb (by have := h1.1; unfold lowT at this; simpa using this), good_simple s fuel _ h1.2 h2.2⟩
theorem good_valid (s : ByteArray) : ∀ (fuel pos : Nat), allFrom lowT s fuel pos = true → validD (s.data.toList.drop pos) = true → goodFrom s fuel pos
  | 0, _, _, _ => trivial
  | fuel + 1, pos, h1, hv => by
    intro hp
    have hz : s.data.toList.length = s.size := by rw [Array.length_toList]; rfl
    rw [allFrom_step hp, Bool.and_eq_true] at h1
    have hne : s.data.toList.drop pos ≠ [] := fun e => by have := congrArg List.length e; rw [List.length_drop] at this; simp at this; omega
    obtain ⟨g1, g2⟩ := valid_good _ hne hv
    have hcl := clen_decode _ hne
    have he := decodeL_drop s pos
    have hb : ¬ ((decodeL (s.data.toList.drop pos)).1 = 65533 ∧ (decodeL (s.data.toList.drop pos)).2 = 1) := fun e => by
      rw [validD_step _ hne, if_pos e] at hv
      cases hv
    rw [← hcl, he, List.drop_drop] at g2
    rw [he] at hb
    exact ⟨good_step s pos hp hb (by have := h1.1; unfold lowT at this; simpa using this), good_valid s fuel _ h1.2 g2⟩
set_option maxHeartbeats 4000000 in
set_option maxRecDepth 1000000 in
theorem laws_low (s : ByteArray) (w : World) (hs : s.size ≤ 2147483647) :
    Calls Tryd.prog 14 #[.string s] w fun e w' => e = .returned (.bool (allFrom lowT s s.size 0)) ∧ Below w.heap.size w w' := by
  obtain ⟨R, hR⟩ : ∃ R, allFrom lowT s s.size 0 = R := ⟨_, rfl⟩
  rw [hR]
  have HR := Aside0.mk hR
  clear hR
  go_enter Tryd.func14, Tryd.ntmps14
  go_wp2
  go_loopw [] (fun wr => ∃ (pos fuel : Nat), Aside0 (wr.heap[w.heap.size]? = some (.stringIter s pos) ∧ Below w.heap.size w wr ∧ allFrom lowT s fuel pos = R ∧ s.size ≤ pos + fuel)) (fun wr => s.size - wr.iterPos w.heap.size)
  case atStart => exact ⟨0, s.size, Aside0.mk ⟨World.iter_heap w s 0, (Below.refl _ w).alloc (Nat.le_refl _) _, HR.out, by omega⟩⟩
  case round =>
    obtain ⟨pos, fuel, HR⟩ := hrel
    obtain ⟨hit, hbw, hacc, hfu⟩ := HR.out
    clear HR
    have HA := Aside0.mk hacc
    clear hacc
    have hsz : w.heap.size < wr.heap.size := (Array.getElem?_eq_some_iff.1 hit).1
    by_cases hp : pos < s.size
    · have hnx : ∀ ty, (Instr.next (.pointer (some ⟨w.heap.size, 0, none⟩)) true ty).run Tryd.prog wr = _ := fun ty => Lib.run_next_any_at wr w.heap.size s pos ty hit hp
      have hwd := Lib.decode_width_pos s pos hp
      have hd1 := decode_le s pos
      obtain ⟨f, rfl⟩ : ∃ f, fuel = f + 1 := ⟨fuel - 1, by omega⟩
      have hstep := allFrom_step (t := lowT) (fuel := f) hp
      obtain ⟨⟨r, wd⟩, hq⟩ : ∃ q, Utf8.decode s pos = q := ⟨_, rfl⟩
      rw [hq] at hnx hwd hd1 hstep
      simp only at hnx hwd hd1 hstep
      rw [hstep] at HA
      have HT := Aside0.mk hit
      have HT2 := Aside0.mk (Lib.iterAt_heap wr w.heap.size s pos (pos + wd) hit)
      have HB2 := Aside0.mk (Lib.below_iterAt hbw (k := w.heap.size) (by omega) s (pos + wd))
      clear hq hstep hit hbw
      by_cases hr : r < 1048576
      · have HA2 := Aside0.mk (show allFrom lowT s f (pos + wd) = R by rw [← HA.out, show lowT r = true from decide_eq_true hr]; rfl)
        have hri : ¬ (1048576 : Int) ≤ (r : Int) := by omega
        have hrb := decide_eq_false hri
        clear HA hr hd1
        go_wp2
        go_roundw
        case rel => exact ⟨pos + wd, f, Aside0.mk ⟨HT2.out, HB2.out, HA2.out, by omega⟩⟩
        case measure =>
          have e1 : (wr.iterAt w.heap.size s (pos + wd)).iterPos w.heap.size = pos + wd := by
            have := HT2.out
            simp only [World.iterPos, this]
          have e2 : wr.iterPos w.heap.size = pos := by simp only [World.iterPos, HT.out]
          show s.size - (wr.iterAt w.heap.size s (pos + wd)).iterPos w.heap.size < s.size - wr.iterPos w.heap.size
          rw [e1, e2]
          omega
      · have hR : false = R := by rw [← HA.out, show lowT r = false from decide_eq_false hr]; rfl
        subst hR
        have hri : (1048576 : Int) ≤ (r : Int) := by omega
        have hrb := decide_eq_true hri
        clear HA hr hd1
        go_wp2
        go_ret
        exact ⟨rfl, HB2.out⟩
    · have hnx : ∀ ty, (Instr.next (.pointer (some ⟨w.heap.size, 0, none⟩)) true ty).run Tryd.prog wr = _ := fun ty => Lib.run_next_end_at wr w.heap.size s pos ty hit hp
      have HB := Aside0.mk hbw
      clear hbw
      have hR := HA.out
      rw [allFrom_end lowT s fuel pos hp] at hR
      subst hR
      go_wp2
      go_ret
      exact ⟨rfl, HB.out⟩
theorem impl_wrapE (s t : ByteArray) (k : Int) (w : World) (h : Calls Tryd.prog 20 #[.string s, .int .i64 k] w fun e w' => e = .returned (.string t) ∧ Below w.heap.size w w') :
    Calls Tryd.prog 13 #[.string s, .int .i64 k] w fun e w' => e = .returned (.string t) ∧ Below w.heap.size w w' := by
  have H := Aside0.mk h
  clear h
  go_enter Tryd.func13, Tryd.ntmps13
  go_wp2_with fail
  refine H.out.mono ?_
  rintro e w1 ⟨rfl, hb⟩
  go_wp2
  go_ret
  exact ⟨rfl, hb⟩
theorem impl_wrapU (s t : ByteArray) (k : Int) (w : World) (h : Calls Tryd.prog 19 #[.string s, .int .i64 k] w fun e w' => e = .returned (.string t) ∧ Below w.heap.size w w') :
    Calls Tryd.prog 12 #[.string s, .int .i64 k] w fun e w' => e = .returned (.string t) ∧ Below w.heap.size w w' := by
  have H := Aside0.mk h
  clear h
  go_enter Tryd.func12, Tryd.ntmps12
  go_wp2_with fail
  refine H.out.mono ?_
  rintro e w1 ⟨rfl, hb⟩
  go_wp2
  go_ret
  exact ⟨rfl, hb⟩
/-- There and back: between the two calls stands some text. -/
def BackOk (s : ByteArray) (k : Int) : Prop := ∀ w, TZ w → ∃ t : ByteArray,
  Calls Tryd.prog 13 #[.string s, .int .i64 k] w (fun e w' => e = .returned (.string t) ∧ Below w.heap.size w w') ∧
  ∀ w, Calls Tryd.prog 12 #[.string t, .int .i64 k] w (fun e w' => e = .returned (.string s) ∧ Below w.heap.size w w')
theorem back_none (s : ByteArray) : BackOk s 0 := fun w _ => ⟨s, impl_wrapE _ _ _ _ (escape_none s w), fun w => impl_wrapU _ _ _ _ (unescape_none s w)⟩
theorem back_empty (s : ByteArray) (k : Int) (h : s.size = 0) : BackOk s k := fun w _ => ⟨s, impl_wrapE _ _ _ _ (escape_empty s k w h), fun w => impl_wrapU _ _ _ _ (unescape_empty s k w h)⟩
theorem back_vals (s : ByteArray) (h0 : s.size ≠ 0) (hs : s.size ≤ 5000) (hl : legFrom s s.size 0 = false) (hg : goodFrom s s.size 0) : BackOk s 3 :=
  fun w hT => ⟨_, impl_wrapE _ _ _ _ (escape_vals s w h0 (by omega) hl hT), fun w => impl_wrapU _ _ _ _ (unescape_vals s w hs hg)⟩
theorem back_same (s : ByteArray) (h0 : s.size ≠ 0) (hs : s.size ≤ 5000) (hl : legFrom s s.size 0 = true) (hp : strings_CutPrefix.f s ⟨#[85, 95, 95]⟩ = some (s, false)) : BackOk s 3 :=
  fun w hT => ⟨_, impl_wrapE _ _ _ _ (escape_same s w h0 (by omega) hl), fun w => impl_wrapU _ _ _ _ (unescape_plain s w h0 hp)⟩
theorem back_ab : BackOk ⟨#[97, 46, 98]⟩ 3 := by
  have hz : (⟨#[97, 46, 98]⟩ : ByteArray).size = 3 := rfl
  have d0 : Utf8.decode ⟨#[97, 46, 98]⟩ 0 = (97, 1) := by decide +kernel
  have d1 : Utf8.decode ⟨#[97, 46, 98]⟩ 1 = (46, 1) := by decide +kernel
  have d2 : Utf8.decode ⟨#[97, 46, 98]⟩ 2 = (98, 1) := by decide +kernel
  refine back_vals _ (by rw [hz]; omega) (by rw [hz]; omega) ?_ ?_
  · rw [hz, legFrom_step (by rw [hz]; omega), d0, legFrom_step (by rw [hz]; omega)]
    show (legR 97 0 && (legR (Utf8.decode ⟨#[97, 46, 98]⟩ 1).1 1 && _)) = false
    rw [d1]
    decide
  · rw [hz]
    refine good_simple _ 3 0 ?_ ?_
    · rw [allFrom_step (by rw [hz]; omega), d0, allFrom_step (by rw [hz]; omega)]
      show (lowT 97 && (lowT (Utf8.decode ⟨#[97, 46, 98]⟩ 1).1 && allFrom lowT _ 1 (1 + (Utf8.decode ⟨#[97, 46, 98]⟩ 1).2))) = true
      rw [d1, allFrom_step (by rw [hz]; omega)]
      show (lowT 97 && (lowT 46 && (lowT (Utf8.decode ⟨#[97, 46, 98]⟩ 2).1 && true))) = true
      rw [d2]
      decide
    · rw [allFrom_step (by rw [hz]; omega), d0, allFrom_step (by rw [hz]; omega)]
      show (simpT 97 && (simpT (Utf8.decode ⟨#[97, 46, 98]⟩ 1).1 && allFrom simpT _ 1 (1 + (Utf8.decode ⟨#[97, 46, 98]⟩ 1).2))) = true
      rw [d1, allFrom_step (by rw [hz]; omega)]
      show (simpT 97 && (simpT 46 && (simpT (Utf8.decode ⟨#[97, 46, 98]⟩ 2).1 && true))) = true
      rw [d2]
      decide
end Go.Proofs.YtnjghpoeokfekaaDoor.Door
