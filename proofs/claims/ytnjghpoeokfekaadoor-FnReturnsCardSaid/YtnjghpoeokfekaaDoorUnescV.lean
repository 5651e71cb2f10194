/- model.UnescapeName by values: its walk over what EscapeName wrote. -/
import Derived.Test.YtnjghpoeokfekaaDoorEscV
import Derived.WalkMore
import Derived.Deep.LoopGhost
import Derived.Test.YtnjghpoeokfekaaDoorQx2
import Derived.Test.YtnjghpoeokfekaaDoorQx2
namespace Go.Proofs.YtnjghpoeokfekaaDoor.Door
open Go.RowKit Go.Lib Go.Proofs.YtnjghpoeokfekaaDoor.Q Go.Proofs.YtnjghpoeokfekaaDoor.Pure Go.Proofs.YtnjghpoeokfekaaDoorW.PrintWords Go.Proofs.YtnjghpoeokfekaaDoorW.PrintLast
set_option linter.unusedVariables false
set_option linter.unusedSimpArgs false
theorem model_lower1 (c : Int) (w : World) :
    Calls Tryd.prog 32 #[.int .u8 c] w fun e w' => e = .returned (.int .u8 (bits .or .u8 c 32)) ∧ w = w' := by
  go_enter Tryd.func32, Tryd.ntmps32
  go_wp2
  go_ret
  exact ⟨rfl, rfl⟩
theorem hexN_digs : ∀ (n u : Nat), u ≤ n → ∃ dl : List Nat, hexN u = dl.map hexc ∧ (∀ d ∈ dl, d < 16) ∧ dl.foldl (fun a d => a * 16 + d) 0 = u
  | 0, u, h => ⟨[u], by rw [hexN_small (by omega)]; rfl, fun d hd => by rw [List.mem_singleton] at hd; omega, by simp⟩
  | n + 1, u, h => by
    by_cases hu : u < 16
    · exact ⟨[u], by rw [hexN_small hu]; rfl, fun d hd => by rw [List.mem_singleton] at hd; omega, by simp⟩
    · obtain ⟨dl, h1, h2, h3⟩ := hexN_digs n (u / 16) (by omega)
      refine ⟨dl ++ [u % 16], by rw [hexN_great hu, h1, List.map_append]; rfl, fun d hd => ?_, ?_⟩
      · rcases List.mem_append.1 hd with h | h
        · exact h2 d h
        · rw [List.mem_singleton] at h; omega
      · rw [List.foldl_append, h3]
        show u / 16 * 16 + u % 16 = u
        omega
theorem hexc_or : ∀ d < 16, bits .or .u8 ((hexc d).toNat : Int) 32 = ((hexc d).toNat : Int) := by decide +kernel
theorem hexc_lo : ∀ d < 10, (hexc d).toNat = 48 + d := by decide +kernel
theorem hexc_hi (d : Nat) (h1 : ¬ d < 10) (h2 : d < 16) : (hexc d).toNat = 87 + d := by
  have : ∀ d < 16, ¬ d < 10 → (hexc d).toNat = 87 + d := by decide +kernel
  exact this d h2 h1
theorem at_drop {E : ByteArray} {i : Nat} {c : UInt8} {t : List UInt8} (h : E.data.toList.drop i = c :: t) : i < E.size ∧ (∀ h, (E[i]'h) = c) ∧ E.data.toList.drop (i + 1) = t := by
  have hz : E.data.toList.length = E.size := by rw [Array.length_toList]; rfl
  have hi : i < E.size := by
    rcases Nat.lt_or_ge i E.size with h1 | h1
    · exact h1
    · rw [List.drop_eq_nil_of_le (by omega)] at h
      cases h
  refine ⟨hi, fun h' => ?_, ?_⟩
  · have := List.drop_eq_getElem_cons (l := E.data.toList) (i := i) (by omega)
    rw [h] at this
    injection this with e _
    rw [e]
    rfl
  · rw [← List.drop_drop, h]
    rfl
/-- From a place on every rune is whole, a code point, and below 0x100000. -/
def goodFrom (s : ByteArray) : Nat → Nat → Prop
  | 0, _ => True
  | f + 1, pos => pos < s.size → (s.data.toList.take (pos + (Utf8.decode s pos).2) = s.data.toList.take pos ++ Lib.encodeRune ((Utf8.decode s pos).1 : Int) ∧ validR (Utf8.decode s pos).1 = true ∧ (Utf8.decode s pos).1 < 1048576 ∧ pos + (Utf8.decode s pos).2 ≤ s.size) ∧ goodFrom s f (pos + (Utf8.decode s pos).2)
theorem leg_one (r pos : Nat) (h : legR r pos = true) (h95 : r ≠ 95) : ∃ c : UInt8, Lib.encodeRune (r : Int) = [c] ∧ c.toNat ≠ 95 := by
  have hr : r < 128 := by
    unfold legR at h
    simp at h
    omega
  have h1 : ∀ r : Nat, r < 128 → Lib.encodeRune (r : Int) = [UInt8.ofNat r] := by decide +kernel
  have h2 : ∀ r : Nat, r < 128 → (UInt8.ofNat r).toNat = r := by decide +kernel
  exact ⟨UInt8.ofNat r, h1 r hr, by rw [h2 r hr]; exact h95⟩
theorem unescape_none (s : ByteArray) (w : World) : Calls Tryd.prog 19 #[.string s, .int .i64 0] w fun e w' => e = .returned (.string s) ∧ Below w.heap.size w w' := by
  by_cases h0 : s.size = 0
  · have hz0 : ((s.size : Int) == 0) = true := by simpa using h0
    clear h0
    go_enter Tryd.func19, Tryd.ntmps19
    go_wp2
    go_ret
    exact ⟨rfl, Below.refl _ _⟩
  · have hz0 : ((s.size : Int) == 0) = false := by simpa using h0
    clear h0
    go_enter Tryd.func19, Tryd.ntmps19
    go_wp2
    go_ret
    exact ⟨rfl, Below.refl _ _⟩
/-- The empty name, any way. -/
theorem unescape_empty (s : ByteArray) (k : Int) (w : World) (h0 : s.size = 0) : Calls Tryd.prog 19 #[.string s, .int .i64 k] w fun e w' => e = .returned (.string s) ∧ Below w.heap.size w w' := by
  have hz0 : ((s.size : Int) == 0) = true := by simpa using h0
  clear h0
  go_enter Tryd.func19, Tryd.ntmps19
  go_wp2
  go_ret
  exact ⟨rfl, Below.refl _ _⟩
theorem escape_empty (s : ByteArray) (k : Int) (w : World) (h0 : s.size = 0) : Calls Tryd.prog 20 #[.string s, .int .i64 k] w fun e w' => e = .returned (.string s) ∧ Below w.heap.size w w' := by
  have hz0 : ((s.size : Int) == 0) = true := by simpa using h0
  clear h0
  go_enter Tryd.func20, Tryd.ntmps20
  go_wp2
  go_ret
  exact ⟨rfl, Below.refl _ _⟩
theorem unescape_plain (s : ByteArray) (w : World) (h0 : s.size ≠ 0) (hp : strings_CutPrefix.f s ⟨#[85, 95, 95]⟩ = some (s, false)) : Calls Tryd.prog 19 #[.string s, .int .i64 3] w fun e w' => e = .returned (.string s) ∧ Below w.heap.size w w' := by
  have hz0 : ((s.size : Int) == 0) = false := by simpa using h0
  have H := Aside0.mk hp
  clear h0 hp
  go_enter Tryd.func19, Tryd.ntmps19
  go_wp2
  go_step3
  go_wp2_with fail
  refine (strings_CutPrefix.calls _ _ s false _ H.out).mono ?_
  rintro e w1 ⟨rfl, ⟨n, rfl⟩⟩
  go_wp2
  try rw [Exit.noGoto_ret]
  go_ret
  exact ⟨rfl, below_drewN (Below.refl _ _) n⟩
theorem escFrom_len (f : Nat → Nat → List UInt8) (s : ByteArray) (hf : ∀ r pos, r ≤ 2147483647 → (f r pos).length ≤ 16) : ∀ (fuel pos : Nat), (escFrom f s fuel pos).length ≤ 16 * fuel
  | 0, pos => by simp [escFrom]
  | fuel + 1, pos => by
    by_cases hp : pos < s.size
    · rw [escFrom_step hp, List.length_append]
      have h1 := hf (Utf8.decode s pos).1 pos (decode_le s pos)
      have h2 := escFrom_len f s hf fuel (pos + (Utf8.decode s pos).2)
      omega
    · rw [escFrom_end f s _ _ hp]
      simp
theorem valsP_len (r pos : Nat) (hr : r ≤ 2147483647) : (valsP r pos).length ≤ 16 := by
  have h1 := (Lib.runeCells_le (r : Int)).2
  rw [Lib.runeCells_length] at h1
  have h2 := hexN_len 7 r (by omega)
  unfold valsP
  split
  · simp
  · split
    · omega
    · split
      · simp; omega
      · simp
theorem cut_vals (T : List UInt8) : strings_CutPrefix.f ⟨([85, 95, 95] ++ T).toArray⟩ ⟨#[85, 95, 95]⟩ = some (⟨T.toArray⟩, true) := by
  have hz : (⟨([85, 95, 95] ++ T).toArray⟩ : ByteArray).size = T.length + 3 := by show ([85, 95, 95] ++ T).toArray.size = _; simp
  have h3 : (⟨#[85, 95, 95]⟩ : ByteArray).size = 3 := rfl
  have e1 : ((⟨([85, 95, 95] ++ T).toArray⟩ : ByteArray).extract 0 3).data.toList = [85, 95, 95] := by
    rw [ByteArray.data_extract, Array.toList_extract, List.extract_eq_take_drop]
    simp
  have e2 : (⟨([85, 95, 95] ++ T).toArray⟩ : ByteArray).extract 3 (T.length + 3) = ⟨T.toArray⟩ := by
    apply ByteArray.ext
    apply Array.ext'
    rw [ByteArray.data_extract, Array.toList_extract, List.extract_eq_take_drop]
    simp
  unfold strings_CutPrefix.f stringslite_CutPrefix.f stringslite_HasPrefix.f
  rw [hz, h3, if_pos (by omega), if_pos (by omega), if_pos (by omega), show ((3 : Nat) : Int).toNat = 3 from rfl, Lib.toList_data, e1, Lib.toList_data]
  simp only [Option.bind_some]
  rw [if_pos (by rfl), if_pos (by omega), if_pos (by omega), e2]
  rfl
set_option maxHeartbeats 8000000 in
set_option maxRecDepth 1000000 in
theorem unescape_vals (s : ByteArray) (w : World) (hs : s.size ≤ 5000) (hg : goodFrom s s.size 0) :
    Calls Tryd.prog 19 #[.string ⟨([85, 95, 95] ++ escFrom valsP s s.size 0).toArray⟩, .int .i64 3] w fun e w' => e = .returned (.string s) ∧ Below w.heap.size w w' := by
  have hlen := escFrom_len valsP s valsP_len s.size 0
  obtain ⟨E, hE⟩ : ∃ E : ByteArray, E.data.toList = escFrom valsP s s.size 0 := ⟨⟨(escFrom valsP s s.size 0).toArray⟩, rfl⟩
  have hcut := cut_vals (escFrom valsP s s.size 0)
  rw [← hE] at hcut hlen
  have hEz : E.size ≤ 80000 := by rw [show E.size = E.data.toList.length from by rw [Array.length_toList]; rfl]; omega
  rw [show (⟨E.data.toList.toArray⟩ : ByteArray) = E from rfl] at hcut
  rw [← hE]
  obtain ⟨F, hF⟩ : ∃ F : ByteArray, F = ⟨([85, 95, 95] ++ E.data.toList).toArray⟩ := ⟨_, rfl⟩
  have hFz : F.size ≠ 0 := by rw [hF]; show ([85, 95, 95] ++ E.data.toList).toArray.size ≠ 0; simp
  rw [← hF] at hcut ⊢
  have hz0 : ((F.size : Int) == 0) = false := by simpa using hFz
  have HC := Aside0.mk hcut
  have HE := Aside0.mk hE
  have HG := Aside0.mk hg
  clear hcut hE hg hF hFz hlen
  go_enter Tryd.func19, Tryd.ntmps19
  go_wp2
  go_step3
  go_wp2_with fail
  refine (strings_CutPrefix.calls _ _ E true _ HC.out).mono ?_
  rintro e w1 ⟨rfl, ⟨n, rfl⟩⟩
  go_wp2
  go_step3
  go_wp2
  go_loopg [8] E.size (fun g v8 wr => ∃ (i pos fuel : Nat), v8 = .int .i64 i ∧ i + g = E.size ∧ pos ≤ s.size ∧ Aside0 (Lib.IsBuilderF 52 5 w.heap.size w.heap.size (Lib.byteCells (s.data.toList.take pos)) wr ∧ Below w.heap.size w wr ∧ E.data.toList.drop i = escFrom valsP s fuel pos ∧ s.size ≤ pos + fuel ∧ goodFrom s fuel pos))
  case atStart =>
    refine ⟨0, 0, s.size, rfl, by omega, by omega, Aside0.mk ⟨?_, ((below_drewN (Below.refl w.heap.size w) n)).alloc (by simp) _, HE.out, by omega, HG.out⟩⟩
    exact Lib.IsBuilderF.of (Lib.fresh_isBuilder 52 5 (w.drewN n))
  case round =>
    clear HE HG
    obtain ⟨i, pos, fuel, rfl, hi, hpos, HR⟩ := hrel
    obtain ⟨G, hG⟩ : ∃ G, G = gk := ⟨_, rfl⟩
    subst hG
    obtain ⟨hI, hB, hD, hf, hg⟩ := HR.out
    clear HR
    have hsz : w.heap.size ≤ wr.heap.size := hB.size
    have hbc : (Lib.byteCells (s.data.toList.take pos)).length ≤ 5000 := by rw [Lib.byteCells_length, List.length_take]; omega
    by_cases hp : pos < s.size
    · obtain ⟨f, rfl⟩ : ∃ f, fuel = f + 1 := ⟨fuel - 1, by omega⟩
      rw [escFrom_step hp] at hD
      obtain ⟨⟨g1, g2, g3, g4⟩, g5⟩ := hg hp
      have hwd := Lib.decode_width_pos s pos hp
      obtain ⟨⟨r, wd⟩, hq⟩ : ∃ q, Utf8.decode s pos = q := ⟨_, rfl⟩
      rw [hq] at hD g1 g2 g3 g4 g5 hwd
      simp only at hD g1 g2 g3 g4 g5 hwd
      clear hq hg
      have HI := Aside0.mk hI
      have HB := Aside0.mk hB
      have HG := Aside0.mk g5
      have HT := Aside0.mk g1
      have HV := Aside0.mk g2
      clear hI hB g5 g1 g2
      by_cases h95 : r = 95
      · subst h95
        rw [show valsP 95 pos = [95, 95] from by unfold valsP; rw [if_pos rfl]] at hD
        obtain ⟨k1, k2, k3⟩ := at_drop hD
        obtain ⟨m1, m2, m3⟩ := at_drop k3
        have k2' : ∀ h, (E[i]'h).toNat = 95 := fun h => by rw [k2 h]; rfl
        have m2' : ∀ h, (E[i + 1]'h).toNat = 95 := fun h => by rw [m2 h]; rfl
        have HD := Aside0.mk m3
        clear hD k2 k3 m2 m3
        go_wp2_with (go_at_call 29; refine (Tryd.sbWriteByte w.heap.size w.heap.size (Lib.byteCells (s.data.toList.take pos)) 95 _ HI.out (by omega) hsz).mono ?_)
        rintro e W1 ⟨rfl, h1, b1, k9⟩
        have H2 := Aside0.mk (show Lib.IsBuilderF 52 5 w.heap.size w.heap.size (Lib.byteCells (s.data.toList.take (pos + wd))) W1 by rw [HT.out, Lib.byteCells_append]; exact Or.inr h1)
        have B2 := Aside0.mk (HB.out.trans b1)
        clear h1 b1 k9
        go_wp2
        go_roundg (G - 2)
        case measure => omega
        case rel => exact ⟨i + 2, pos + wd, f, rfl, by omega, by omega, Aside0.mk ⟨H2.out, B2.out, HD.out, by omega, HG.out⟩⟩
      cases hL : legR r pos with
      | true =>
        obtain ⟨c, hc, hc95⟩ := leg_one r pos hL h95
        rw [show valsP r pos = [c] from by unfold valsP; rw [if_neg h95, if_pos hL, hc]] at hD
        obtain ⟨k1, k2, k3⟩ := at_drop hD
        have k2' : ∀ h, (E[i]'h).toNat = c.toNat := fun h => by rw [k2 h]
        have hcb : ((c.toNat : Int) == 95) = false := by simpa using (show ¬ (c.toNat : Int) = 95 by omega)
        have HD := Aside0.mk k3
        have HC1 := Aside0.mk hc
        clear hD k2 k3 hL hc
        go_wp2_with (go_at_call 29; refine (Tryd.sbWriteByte w.heap.size w.heap.size (Lib.byteCells (s.data.toList.take pos)) (c.toNat : Int) _ HI.out (by omega) hsz).mono ?_)
        rintro e W1 ⟨rfl, h1, b1, k9⟩
        have H2 := Aside0.mk (show Lib.IsBuilderF 52 5 w.heap.size w.heap.size (Lib.byteCells (s.data.toList.take (pos + wd))) W1 by rw [HT.out, HC1.out, Lib.byteCells_append]; exact Or.inr h1)
        have B2 := Aside0.mk (HB.out.trans b1)
        clear h1 b1 k9
        go_wp2
        go_roundg (G - 1)
        case measure => omega
        case rel => exact ⟨i + 1, pos + wd, f, rfl, by omega, by omega, Aside0.mk ⟨H2.out, B2.out, HD.out, by omega, HG.out⟩⟩
      | false =>
        rw [show valsP r pos = 95 :: (hexN r ++ [95]) from by unfold valsP; rw [if_neg h95, if_neg (by rw [hL]; simp), if_pos HV.out]] at hD
        obtain ⟨dl, e1, e2, e3⟩ := hexN_digs r r (Nat.le_refl _)
        have e4 : dl.length ≤ 5 := by have := hexN_len 4 r (by omega); rw [e1, List.length_map] at this; exact this
        rw [e1] at hD
        obtain ⟨k1, k2, k3⟩ := at_drop hD
        have k2' : ∀ h, (E[i]'h).toNat = 95 := fun h => by rw [k2 h]; rfl
        have k4 : E.data.toList.drop (i + 1) = dl.map hexc ++ 95 :: escFrom valsP s f (pos + wd) := by rw [k3]; show (dl.map hexc ++ [95]) ++ _ = _; rw [List.append_assoc]; rfl
        clear hD k3 k2 hL
        obtain ⟨d0, dt, hdl⟩ : ∃ d0 dt, dl = d0 :: dt := by
          cases dl with
          | nil => exfalso; simp at e1; have := congrArg List.length e1; rw [hexN] at this; split at this <;> simp at this
          | cons a b => exact ⟨a, b, rfl⟩
        have hd16 : d0 < 16 := e2 d0 (by rw [hdl]; exact .head _)
        obtain ⟨m1, m2, m3⟩ := at_drop (show E.data.toList.drop (i + 1) = hexc d0 :: (dt.map hexc ++ 95 :: escFrom valsP s f (pos + wd)) by rw [k4, hdl]; rfl)
        obtain ⟨c0, hc0⟩ : ∃ c0, hexc d0 = c0 := ⟨_, rfl⟩
        have hcb : ((c0.toNat : Int) == 95) = false := by
          have : ∀ d < 16, (((hexc d).toNat : Int) == 95) = false := by decide +kernel
          rw [← hc0]
          exact this d0 hd16
        rw [hc0] at m2
        have m2' : ∀ h, (E[i + 1]'h).toNat = c0.toNat := fun h => by rw [m2 h]
        clear hc0
        have HD := Aside0.mk (And.intro k4 (And.intro e2 (And.intro e3 e4)))
        clear k4 e1 e2 e3 e4 m2 m3 hdl
        go_wp2
        go_loopg [8, 9, 10] (E.size - (i + 1)) (fun g v8 v9 v10 wy => ∃ (x val j : Nat) (el : List Nat), v8 = .int .i64 x ∧ v9 = .int .u64 val ∧ v10 = .int .i64 j ∧ x + g = E.size ∧ j ≤ 5 ∧ val < 1048576 ∧ i < x ∧ Aside0 (Lib.IsBuilderF 52 5 w.heap.size w.heap.size (Lib.byteCells (s.data.toList.take pos)) wy ∧ Below w.heap.size w wy ∧ E.data.toList.drop x = el.map hexc ++ 95 :: escFrom valsP s f (pos + wd) ∧ (∀ d ∈ el, d < 16) ∧ el.foldl (fun a d => a * 16 + d) val = r ∧ j + el.length ≤ 5 ∧ val < 16 ^ j))
        case atStart => exact ⟨i + 1, 0, 0, dl, rfl, rfl, rfl, by omega, by omega, by omega, by omega, Aside0.mk ⟨HI.out, HB.out, HD.out.1, HD.out.2.1, HD.out.2.2.1, by have := HD.out.2.2.2; omega, by decide⟩⟩
        case round =>
          clear HI HB HD m2' hcb k2' m1 hd16
          obtain ⟨x, val, j, el, rfl, rfl, rfl, hx, hj, hval, hix, HR⟩ := hrel
          obtain ⟨hI, hB, hD, e2, e3, e4, e5⟩ := HR.out
          clear HR
          have hsy : w.heap.size ≤ wr.heap.size := hB.size
          cases el with
          | nil =>
            obtain ⟨k1, k2, k3⟩ := at_drop hD
            have k2' : ∀ h, (E[x]'h).toNat = 95 := fun h => by rw [k2 h]; rfl
            have hvr : val = r := e3
            subst hvr
            have HI := Aside0.mk hI
            have HB := Aside0.mk hB
            have HD := Aside0.mk k3
            clear hI hB hD e2 e3 e4 e5 k2 k3
            go_wp2_with fail
            refine (valid_rune val _).mono ?_
            rintro e W0 ⟨rfl, n0, rfl⟩
            rw [HV.out]
            replace HI := Aside0.mk (show Lib.IsBuilderF 52 5 w.heap.size w.heap.size (Lib.byteCells (s.data.toList.take pos)) (wr.drewN n0) from HI.out)
            replace HB := Aside0.mk (below_drewN HB.out n0)
            have hsy' : w.heap.size ≤ (wr.drewN n0).heap.size := hsy
            go_wp2_with (go_at_call 31; refine (Tryd.sbWriteRune w.heap.size w.heap.size (Lib.byteCells (s.data.toList.take pos)) (val : Int) (by omega) (by omega) _ HI.out (by omega) hsy').mono ?_)
            rintro e W1 ⟨rfl, h1, b1, k9⟩
            have H2 := Aside0.mk (show Lib.IsBuilderF 52 5 w.heap.size w.heap.size (Lib.byteCells (s.data.toList.take (pos + wd))) W1 by rw [HT.out, Lib.byteCells_append, Lib.byteCells_encodeRune]; exact Or.inr h1)
            have B2 := Aside0.mk (HB.out.trans b1)
            clear h1 b1 k9
            go_wp2
            go_roundg (G - (x - i + 1))
            case measure => omega
            case rel => exact ⟨x + 1, pos + wd, f, rfl, by omega, by omega, Aside0.mk ⟨H2.out, B2.out, HD.out, by omega, HG.out⟩⟩
          | cons d el =>
            have hd16 : d < 16 := e2 d (.head _)
            have hor := hexc_or d hd16
            have hlo := hexc_lo d
            have hhi := hexc_hi d
            obtain ⟨c0, hc0⟩ : ∃ c0, hexc d = c0 := ⟨_, rfl⟩
            have hcb : ((c0.toNat : Int) == 95) = false := by
              have : ∀ d < 16, (((hexc d).toNat : Int) == 95) = false := by decide +kernel
              rw [← hc0]
              exact this d hd16
            rw [List.map_cons, hc0] at hD
            rw [hc0] at hor hlo hhi
            obtain ⟨k1, k2, k3⟩ := at_drop hD
            have k2' : ∀ h, (E[x]'h).toNat = c0.toNat := fun h => by rw [k2 h]
            have hj4 : j ≤ 4 := by rw [List.length_cons] at e4; omega
            have h16 : val * 16 + d < 16 ^ (j + 1) := by rw [Nat.pow_succ]; omega
            have hp16 : (16 : Nat) ^ (j + 1) ≤ 16 ^ 5 := Nat.pow_le_pow_right (by omega) (by omega)
            have hval2 : val * 16 + d < 1048576 := Nat.lt_of_lt_of_le h16 hp16
            have HX := Aside0.mk (And.intro h16 (And.intro (show ∀ d ∈ el, d < 16 from fun y hy => e2 y (.tail _ hy)) (And.intro (show el.foldl (fun a d => a * 16 + d) (val * 16 + d) = r from e3) (show j + 1 + el.length ≤ 5 by rw [List.length_cons] at e4; omega))))
            have HI := Aside0.mk hI
            have HB := Aside0.mk hB
            have HD := Aside0.mk k3
            clear hI hB hD e2 e3 e4 e5 k2 k3 hp16 h16 hc0
            by_cases h10 : d < 10
            · have hc48 := hlo h10
              have hz1 : (48 : Int) ≤ (c0.toNat : Int) := by omega
              have hz2 : (c0.toNat : Int) ≤ 57 := by omega
              have HY := Aside0.mk (show (val : Int) * 16 + ((c0.toNat : Int) - 48) = ((val * 16 + d : Nat) : Int) by omega)
              clear hlo hhi hc48 hd16 h10
              go_wp2_with (go_at_call 32; refine (model_lower1 _ _).mono ?_; rintro e w' ⟨rfl, rfl⟩)
              go_roundg (gk - 1)
              case measure => omega
              case rel => exact ⟨x + 1, val * 16 + d, j + 1, el, rfl, by rw [← HY.out], rfl, by omega, by omega, hval2, by omega, Aside0.mk ⟨HI.out, HB.out, HD.out, HX.out.2.1, HX.out.2.2.1, HX.out.2.2.2, HX.out.1⟩⟩
            · have hc87 := hhi h10 hd16
              have hz1 : (97 : Int) ≤ (c0.toNat : Int) := by omega
              have hz2 : (c0.toNat : Int) ≤ 102 := by omega
              have hz3 : ¬ (c0.toNat : Int) ≤ 57 := by omega
              have HY := Aside0.mk (show (val : Int) * 16 + ((c0.toNat : Int) - 97 + 10) = ((val * 16 + d : Nat) : Int) by omega)
              clear hlo hhi hc87 hd16 h10
              go_wp2_with (go_at_call 32; refine (model_lower1 _ _).mono ?_; rintro e w' ⟨rfl, rfl⟩)
              go_roundg (gk - 1)
              case measure => omega
              case rel => exact ⟨x + 1, val * 16 + d, j + 1, el, rfl, by rw [← HY.out], rfl, by omega, by omega, hval2, by omega, Aside0.mk ⟨HI.out, HB.out, HD.out, HX.out.2.1, HX.out.2.2.1, HX.out.2.2.2, HX.out.1⟩⟩
    · have hi2 : ¬ (i : Int) < (E.size : Int) := by
        rw [escFrom_end valsP s fuel pos hp] at hD
        have := List.drop_eq_nil_iff.1 hD
        have hz : E.data.toList.length = E.size := by rw [Array.length_toList]; rfl
        omega
      have HI := Aside0.mk hI
      have HB := Aside0.mk hB
      clear hI hB hD hf hg
      go_wp2_with (go_at_call 33; refine (Tryd.sbString w.heap.size w.heap.size (s.data.toList.take pos) _ HI.out (by omega)).mono ?_)
      rintro e W1 rfl _ b1 _
      have HS := Aside0.mk (show (⟨(s.data.toList.take pos).toArray⟩ : ByteArray) = s by rw [List.take_of_length_le (by rw [Array.length_toList]; show s.size ≤ pos; omega)])
      have B2 := Aside0.mk (HB.out.trans b1)
      clear b1
      go_wp2
      try rw [Exit.noGoto_ret]
      go_ret
      exact ⟨by rw [HS.out]; rfl, B2.out⟩
end Go.Proofs.YtnjghpoeokfekaaDoor.Door
