/- laws.begins: how far two texts are alike, in whole characters. -/
import Derived.Test.YthpaplpnbklojaaDoorShelf
import Derived.Test.YthpaplpnbklojaaDoorRunesCount
import Derived.Lib.OthersKept
import Derived.LoopTactic
import Derived.BigQuiet
import Derived.Deep.QuietTactic
import Derived.Deep.RegionHeld3
import Derived.Laws.DeepStrings4
import Derived.WalkKit
import Derived.ProofKit
namespace Go.Proofs.YthpaplpnbklojaaDoor.Door
open Go.RowKit Go.Shelf Go.Lib Go.Proofs.YthpaplpnbklojaaDoor.Q Go.Proofs.YthpaplpnbklojaaDoor.Pure Go.Proofs.YthpaplpnbklojaaDoorW.PrintWords Go.Proofs.YthpaplpnbklojaaDoorW.PrintLast
set_option linter.unusedVariables false
set_option linter.unusedSimpArgs false
def bgL : Nat → List UInt8 → List UInt8 → Nat
  | 0, _, _ => 0
  | f + 1, a, b => if a = [] then 0 else if clen a ≤ b.length ∧ a.take (clen a) = b.take (clen a) then clen a + bgL f (a.drop (clen a)) (b.drop (clen a)) else 0
theorem bgL_nil : ∀ f b, bgL f [] b = 0
  | 0, _ => rfl
  | _ + 1, _ => rfl
theorem bgL_fuel : ∀ (n m : Nat) (a b : List UInt8), a.length ≤ n → a.length ≤ m → bgL n a b = bgL m a b
  | 0, m, a, b, hn, _ => by
    have : a = [] := List.eq_nil_of_length_eq_zero (by omega)
    subst this
    rw [bgL_nil, bgL_nil]
  | n + 1, 0, a, b, _, hm => by
    have : a = [] := List.eq_nil_of_length_eq_zero (by omega)
    subst this
    rw [bgL_nil, bgL_nil]
  | n + 1, m + 1, a, b, hn, hm => by
    unfold bgL
    by_cases hne : a = []
    · rw [if_pos hne, if_pos hne]
    · have := clen_pos a hne
      rw [if_neg hne, if_neg hne, bgL_fuel n m _ _ (by rw [List.length_drop]; omega) (by rw [List.length_drop]; omega)]
def bg (a b : List UInt8) : Nat := bgL a.length a b
theorem bg_nil (b : List UInt8) : bg [] b = 0 := rfl
theorem bg_step (a b : List UInt8) (hne : a ≠ []) : bg a b = if clen a ≤ b.length ∧ a.take (clen a) = b.take (clen a) then clen a + bg (a.drop (clen a)) (b.drop (clen a)) else 0 := by
  have hl : 0 < a.length := List.length_pos_iff.2 hne
  have := clen_pos a hne
  obtain ⟨n, hn⟩ : ∃ n, a.length = n + 1 := ⟨a.length - 1, by omega⟩
  unfold bg
  rw [hn]
  show (if a = [] then 0 else _) = _
  rw [if_neg hne, bgL_fuel n (a.drop (clen a)).length _ _ (by rw [List.length_drop]; omega) (Nat.le_refl _)]
theorem step_facts (a : ByteArray) (pos : Nat) (h : pos < a.size) (hv : validD (a.data.toList.drop pos) = true) :
    ∃ D L : Nat, Utf8.decode a pos = (D, L) ∧ (Utf8.encode (D : Int)).size = L ∧ L = clen (a.data.toList.drop pos) ∧ 1 ≤ L ∧ pos + L ≤ a.size ∧ validD (a.data.toList.drop (pos + L)) = true := by
  have hne : a.data.toList.drop pos ≠ [] := fun e => by have := congrArg List.length e; rw [List.length_drop, size_length] at this; simp at this; omega
  obtain ⟨p1, p2⟩ := clen_pos _ hne
  rw [List.length_drop, size_length] at p2
  obtain ⟨g1, g2⟩ := valid_good _ hne hv
  have hb : ¬ ((decodeL (a.data.toList.drop pos)).1 = 65533 ∧ (decodeL (a.data.toList.drop pos)).2 = 1) := fun e => by
    rw [validD_step _ hne, if_pos e] at hv
    cases hv
  refine ⟨(decodeL (a.data.toList.drop pos)).1, clen (a.data.toList.drop pos), ?_, ?_, rfl, p1, by omega, ?_⟩
  · rw [← decodeL_drop, ← clen_decode _ hne]
  · rw [← size_length, encode_list, encode_decode _ hne hb, clen_decode _ hne, List.length_take, List.length_drop, size_length]
    omega
  · rw [← List.drop_drop]
    exact g2
theorem extract_mid (s : ByteArray) (i n : Nat) : (s.extract i (i + n)).data.toList = (s.data.toList.drop i).take n := by
  rw [ByteArray.data_extract, Array.toList_extract, List.extract_eq_take_drop, show i + n - i = n by omega]
theorem bg_more {a b : ByteArray} {pos L q : Nat} (hp : pos < a.size) (hL : L = clen (a.data.toList.drop pos)) (hb : pos + L ≤ b.size)
    (he : ((a.extract pos (pos + L)).toList == (b.extract pos (pos + L)).toList) = true) (hq : pos + bg (a.data.toList.drop pos) (b.data.toList.drop pos) = q) :
    pos + L + bg (a.data.toList.drop (pos + L)) (b.data.toList.drop (pos + L)) = q := by
  have hne : a.data.toList.drop pos ≠ [] := fun e => by have := congrArg List.length e; rw [List.length_drop, size_length] at this; simp at this; omega
  have he' := eq_of_beq he
  rw [Lib.toList_data, Lib.toList_data, extract_mid, extract_mid, hL] at he'
  rw [bg_step _ _ hne, if_pos ⟨by rw [List.length_drop, size_length, ← hL]; omega, he'⟩, ← hL, List.drop_drop, List.drop_drop] at hq
  omega
theorem bg_stop {a b : ByteArray} {pos L q : Nat} (hp : pos < a.size) (hL : L = clen (a.data.toList.drop pos)) (hb : pos + L ≤ b.size)
    (he : ((a.extract pos (pos + L)).toList == (b.extract pos (pos + L)).toList) = false) (hq : pos + bg (a.data.toList.drop pos) (b.data.toList.drop pos) = q) : q = pos := by
  have hne : a.data.toList.drop pos ≠ [] := fun e => by have := congrArg List.length e; rw [List.length_drop, size_length] at this; simp at this; omega
  have he' : ¬ (a.data.toList.drop pos).take (clen (a.data.toList.drop pos)) = (b.data.toList.drop pos).take (clen (a.data.toList.drop pos)) := fun e => by
    rw [Lib.toList_data, Lib.toList_data, extract_mid, extract_mid, hL, e] at he
    simp at he
  rw [bg_step _ _ hne, if_neg (fun h => he' h.2)] at hq
  omega
theorem bg_far {a b : ByteArray} {pos L q : Nat} (hp : pos < a.size) (hL : L = clen (a.data.toList.drop pos)) (hb : ¬ pos + L ≤ b.size) (h1 : 1 ≤ L)
    (hq : pos + bg (a.data.toList.drop pos) (b.data.toList.drop pos) = q) : q = pos := by
  have hne : a.data.toList.drop pos ≠ [] := fun e => by have := congrArg List.length e; rw [List.length_drop, size_length] at this; simp at this; omega
  rw [bg_step _ _ hne, if_neg (fun h => by have := h.1; rw [List.length_drop, size_length, ← hL] at this; omega)] at hq
  omega
theorem bg_end {a b : ByteArray} {pos q : Nat} (hle : pos ≤ a.size) (hp : ¬ pos < a.size) (hq : pos + bg (a.data.toList.drop pos) (b.data.toList.drop pos) = q) : q = pos := by
  rw [List.drop_of_length_le (by rw [size_length]; omega : a.data.toList.length ≤ pos), bg_nil] at hq
  omega
theorem iterPos_of {w : World} {k : Nat} {s : ByteArray} {p : Nat} (h : w.heap[k]? = some (.stringIter s p)) : w.iterPos k = p := by
  unfold World.iterPos
  rw [h]
theorem slice_at (s : ByteArray) (i n : Nat) (h : i + n ≤ s.size) (W : World) :
    (Instr.slice 9 (.string s) (some (.int .i64 (i : Int))) (some (.int .i64 ((i : Int) + (n : Int)))) none).run Tryd.prog W = .ok (.string (s.extract i (i + n))) W := by
  rw [run_slice_string_if W 9 s .i64 .i64 _ _ Tryd.underlying9, if_pos ⟨by omega, by omega⟩, if_pos ⟨by omega, by omega⟩, Int.toNat_natCast, show ((i : Int) + (n : Int)).toNat = i + n by omega]
theorem laws_begins (a b : ByteArray) (w : World) (ha : a.size ≤ 2147483647) (hb : b.size ≤ 2147483647) (hv : validD a.data.toList = true) :
    Calls Tryd.prog 6 #[.string a, .string b] w fun e w' => e = .returned (.int .i64 (bg a.data.toList b.data.toList : Int)) ∧ Below w.heap.size w w' := by
  obtain ⟨q, hq⟩ : ∃ q, bg a.data.toList b.data.toList = q := ⟨_, rfl⟩
  rw [hq]
  have HV := Aside0.mk hv
  have HQ := Aside0.mk (show 0 + bg (a.data.toList.drop 0) (b.data.toList.drop 0) = q by rw [List.drop_zero, List.drop_zero, Nat.zero_add]; exact hq)
  have HI := Aside0.mk (World.iter_heap w a 0)
  have HB := Aside0.mk (show Below w.heap.size w (w.iter a 0) from below_alloc (Below.refl _ _) _)
  clear hq hv
  go_enter Tryd.func6, Tryd.ntmps6
  go_wp2
  go_loopw [5] (fun v5 wr => ∃ pos : Nat, pos ≤ a.size ∧ v5 = .int .i64 pos ∧ Aside0 (wr.heap[w.heap.size]? = some (.stringIter a pos)) ∧ Aside0 (Below w.heap.size w wr) ∧ Aside0 (validD (a.data.toList.drop pos) = true) ∧ Aside0 (pos + bg (a.data.toList.drop pos) (b.data.toList.drop pos) = q)) (fun _ wr => a.size - wr.iterPos w.heap.size)
  case atStart => exact ⟨0, Nat.zero_le _, rfl, HI, HB, HV, HQ⟩
  case round =>
    clear HI HB HV HQ
    obtain ⟨pos, hle, rfl, HI, HB, HV, HQ⟩ := hrel
    by_cases hp : pos < a.size
    · obtain ⟨D, L, hD, hE, hL, h1, h2, hv2⟩ := step_facts a pos hp HV.out
      have HN := Aside0.mk (run_next_any_at (P := Tryd.prog) wr w.heap.size a pos 4 HI.out hp)
      have HI2 := Aside0.mk (iterAt_heap wr w.heap.size a pos (pos + L) HI.out)
      have HB2 := Aside0.mk (below_iterAt HB.out (Nat.le_refl _) a (pos + L))
      have HV2 := Aside0.mk hv2
      have hL2 := Aside0.mk hL
      have hE2 := Aside0.mk hE
      clear hv2 HB HV hL hE HN
      go_wp2_with (first | (rw [run_next_any_at (P := Tryd.prog) _ _ a pos _ HI.out hp, hD]; skip))
      rw [hE2.out]
      have hW : IntKind.i64.wrap ((pos : Int) + (L : Int)) = (pos : Int) + (L : Int) := by unfold IntKind.wrap; simp [IntKind.signed, IntKind.bits]; omega
      have hA1 : (pos : Int) + (L : Int) ≤ (a.size : Int) := by omega
      have hA2 : ¬ (a.size : Int) < (pos : Int) + (L : Int) := by omega
      by_cases c1 : pos + L ≤ b.size
      · have hB1 : (pos : Int) + (L : Int) ≤ (b.size : Int) := by omega
        have hB2 : ¬ (b.size : Int) < (pos : Int) + (L : Int) := by omega
        have SA := Aside0.mk (slice_at a pos L h2)
        have SB := Aside0.mk (slice_at b pos L c1)
        cases c2 : ((a.extract pos (pos + L)).toList == (b.extract pos (pos + L)).toList) with
        | true =>
          go_quiet (first | (rw [SA.out]; exact ⟨rfl, rfl⟩) | (rw [SB.out]; exact ⟨rfl, rfl⟩))
          go_wp2
          go_roundw
          case rel => exact ⟨pos + L, h2, by simp, Aside0.mk HI2.out, Aside0.mk (pw_below_drewN HB2.out nq), HV2, Aside0.mk (bg_more hp hL2.out c1 c2 HQ.out)⟩
          case measure =>
            rw [iterPos_of HI.out, iterPos_of (show ((wr.iterAt w.heap.size a (pos + L)).drewN nq).heap[w.heap.size]? = _ from HI2.out)]
            omega
        | false =>
          go_quiet (first | (rw [SA.out]; exact ⟨rfl, rfl⟩) | (rw [SB.out]; exact ⟨rfl, rfl⟩))
          go_wp2
          go_ret
          exact ⟨by rw [bg_stop hp hL2.out c1 c2 HQ.out]; rfl, pw_below_drewN HB2.out nq⟩
      · have hB2 : (b.size : Int) < (pos : Int) + (L : Int) := by omega
        go_quiet (fail)
        go_wp2
        go_ret
        exact ⟨by rw [bg_far hp hL2.out c1 h1 HQ.out]; rfl, pw_below_drewN HB2.out nq⟩
    · go_wp2_with (first | (rw [run_next_end_at (P := Tryd.prog) _ _ a pos _ HI.out hp]; skip))
      go_ret
      exact ⟨by rw [bg_end hle hp HQ.out]; rfl, HB.out⟩
end Go.Proofs.YthpaplpnbklojaaDoor.Door
