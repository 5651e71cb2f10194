/- strconv.FormatInt(r, 16) of a number below 2^31: its walk. -/
import Derived.Test.YtnjghpoeokfekaaDoorTurn
import Derived.Deep.RegionHeld3
import Derived.Laws.Bits64b
namespace Go.Proofs.YtnjghpoeokfekaaDoor.Door
open Go.RowKit Go.Lib
set_option linter.unusedVariables false
set_option linter.unusedSimpArgs false
/-- What the walk asks of the world: the place of math/bits.deBruijn64tab that TrailingZeros64(16) reads. -/
def TZ (w : World) : Prop := w.cell? ⟨4, 15, none⟩ = some (.int .u8 4)
theorem bits_TrailingZeros (w : World) (hT : TZ w) :
    Calls Tryd.prog 68 #[.int .u64 16] w fun e w' => e = .returned (.int .i64 4) ∧ Below w.heap.size w w' := by
  have H : Calls Tryd.prog 71 #[.int .u64 16] w fun e w' => e = .returned (.int .i64 4) ∧ Below w.heap.size w w' := by
    unfold TZ at hT
    have hq : IntKind.u64.wrap (bits .and .u64 16 (IntKind.u64.wrap (-16)) * 285870213051353865) / 288230376151711744 = 15 := by decide +kernel
    go_enter Tryd.func71, Tryd.ntmps71
    go_wp2
    go_ret
    exact ⟨rfl, Below.refl _ _⟩
  have HH := Lib.hid H
  clear H hT
  go_enter Tryd.func68, Tryd.ntmps68
  go_wp2_with fail
  refine HH.out.mono ?_
  rintro e w1 ⟨rfl, hb⟩
  go_wp2
  go_ret
  exact ⟨rfl, hb⟩
def hexc (d : Nat) : UInt8 := UInt8.ofNat (if d < 10 then 48 + d else 87 + d)
/-- The hexadecimal digits of a number, the first ahead. -/
def hexN (u : Nat) : List UInt8 := if h : u < 16 then [hexc u] else hexN (u / 16) ++ [hexc (u % 16)]
termination_by u
decreasing_by omega
theorem hexN_small {u : Nat} (h : u < 16) : hexN u = [hexc u] := by rw [hexN, dif_pos h]
theorem hexN_great {u : Nat} (h : ¬ u < 16) : hexN u = hexN (u / 16) ++ [hexc (u % 16)] := by rw [hexN, dif_neg h]
theorem and15 (u : Nat) (h : u < 18446744073709551616) : bits .and .u64 (u : Int) 15 = ((u % 16 : Nat) : Int) := by
  have h1 := bits_and_u64_nat u 15 h (by omega)
  have h2 := Nat.and_two_pow_sub_one_eq_mod u 4
  have e15 : (2 : Nat) ^ 4 - 1 = 15 := rfl
  rw [e15] at h2
  rw [h2] at h1
  exact h1
/-- The row behind one digit more. -/
theorem row_set (i : Nat) (ds : List UInt8) (c : UInt8) (h : 1 ≤ i) : (List.replicate i 0 ++ ds).set (i - 1) c = List.replicate (i - 1) 0 ++ (c :: ds) := by
  obtain ⟨j, rfl⟩ : ∃ j, i = j + 1 := ⟨i - 1, by omega⟩
  rw [Nat.add_sub_cancel, List.replicate_succ', List.append_assoc, List.set_append_right _ _ (by simp)]
  simp
theorem back_at {w : World} {B cap i : Nat} {ds : List UInt8} (h : BRow w B (List.replicate i 0 ++ ds)) (src dst e : TypeId) (hs : Tryd.prog.underlying src = some (.slice e)) (he : Tryd.prog.underlying e = some (.int .u8)) (hd : Tryd.prog.underlying dst = some .string) :
    (convert src dst (.slice (some ⟨B, i, none⟩) ds.length cap)).run Tryd.prog w = .ok (.string ⟨ds.toArray⟩) w := by
  refine run_convert_bytes_back w src dst e ⟨B, i, none⟩ cap ds hs he hd (fun j hj => ?_)
  have h1 := (h (i + j) (by rw [List.length_append, List.length_replicate]; omega)).1
  have : (⟨B, i, none⟩ : Addr).add j = ⟨B, i + j, none⟩ := by unfold Addr.add; split <;> simp_all
  rw [this, h1]
  simp [List.getD, hj]
theorem isPower16 (w : World) : Calls Tryd.prog 67 #[.int .i64 16] w fun e w' => e = .returned (.bool true) ∧ w = w' := by
  have hq : bits .and .i64 16 15 = 0 := by decide +kernel
  go_enter Tryd.func67, Tryd.ntmps67
  go_wp2
  go_ret
  exact ⟨rfl, rfl⟩
theorem zeros65 : Tryd.zeroCells89 = (List.replicate 65 (Value.int .u8 0)).toArray := by kernel_rfl
theorem rep_get (n j : Nat) (v : Value) (h : j < n) : ((List.replicate n v).toArray)[j]? = some v := by simp [h]
theorem rep_getD (n j : Nat) (h : j < n) : (List.replicate n (0 : UInt8) ++ []).getD j 0 = 0 := by simp [List.getD, h]
theorem row65 (w : World) : BRow (w.alloc (.cells Tryd.zeroCells89 89)) w.heap.size (List.replicate 65 0 ++ []) := by
  intro j hj
  have hj' : j < 65 := by simpa using hj
  have hb := heap_alloc_new w (.cells Tryd.zeroCells89 89)
  constructor
  · unfold World.cell?
    rw [hb, zeros65, rep_getD 65 j hj']
    exact rep_get 65 j _ hj'
  · unfold World.frozen?
    rw [hb]
    simp
theorem TZ.below {w w' : World} (h : TZ w) (hb : Below w.heap.size w w') : TZ w' := (hb.cell (World.block_lt_of_cell? w _ h)).trans h
theorem dig36 : ∀ x < 16, ∀ h, ((⟨#[48, 49, 50, 51, 52, 53, 54, 55, 56, 57, 97, 98, 99, 100, 101, 102, 103, 104, 105, 106, 107, 108, 109, 110, 111, 112, 113, 114, 115, 116, 117, 118, 119, 120, 121, 122]⟩ : ByteArray)[x]'h).toNat = (hexc x).toNat := by decide +kernel
theorem slice65 (B j : Nat) (hj : j ≤ 64) (W : World) : (Instr.sliceAt 89 (.pointer (some ⟨B, 0, none⟩)) (some (.int .i64 (j : Int))) none none).run Tryd.prog W = .ok (.slice (some ⟨B, j, none⟩) (65 - j) (65 - j)) W := by
  have hl : Tryd.prog.arrayLen 89 = 65 := by kernel_rfl
  have he : Tryd.prog.elem 89 = 5 := by kernel_rfl
  rw [run_sliceAt_array_l (P := Tryd.prog) W 89 ⟨B, 0, none⟩ (by kernel_rfl) .i64 (j : Int) (by omega) (by rw [hl]; omega), he, hl]
  have hs : (sizeOf 5).run Tryd.prog W = .ok 1 W := by kernel_rfl
  rw [hs]
  have ha : (⟨B, 0, none⟩ : Addr).add (j * 1) = ⟨B, j, none⟩ := by unfold Addr.add; split <;> simp_all
  simp only [Result.andThen, slicedAt, Int.toNat_natCast]
  rw [if_neg (by omega), ha]
set_option maxHeartbeats 4000000 in
set_option maxRecDepth 100000 in
theorem formatBits16 (u : Nat) (w : World) (hu : u < 2147483648) (hT : TZ w) :
    Calls Tryd.prog 60 #[.slice none 0 0, .int .u64 u, .int .i64 16, .bool false, .bool false] w fun e w' => e = .returned (.tuple #[.slice none 0 0, .string ⟨(hexN u).toArray⟩]) ∧ Below w.heap.size w w' := by
  have HT := Lib.hid hT
  obtain ⟨T, hTe⟩ : ∃ T, hexN u = T := ⟨_, rfl⟩
  rw [hTe]
  have HTe := Lib.hid hTe
  clear hT hTe
  go_enter Tryd.func60, Tryd.ntmps60
  go_wp2_with fail
  refine (isPower16 _).mono ?_
  rintro e w1 ⟨rfl, rfl⟩
  go_wp2_with fail
  refine (bits_TrailingZeros _ (HT.out.below ((Below.refl _ w).alloc (Nat.le_refl _) _))).mono ?_
  rintro e w2 ⟨rfl, hb⟩
  have hsz : w.heap.size + 1 ≤ w2.heap.size := by have := hb.size; simpa using this
  have HR := Lib.hid ((row65 w).below hb (by simp))
  have HB := Lib.hid (((Below.refl _ w).alloc (Nat.le_refl _) _).trans (hb.mono (by simp)))
  clear hb
  go_wp2
  go_loopw [1, 13] (fun v1 v13 wr => ∃ (u i : Nat) (ds : List UInt8), v1 = .int .u64 u ∧ v13 = .int .i64 i ∧ u < 2147483648 ∧ i ≤ 65 ∧ Hid (hexN u ++ ds = T ∧ i + ds.length = 65 ∧ u < 16 ^ (i - 57) ∧ 58 ≤ i ∧ BRow wr w.heap.size (List.replicate i 0 ++ ds) ∧ Below w.heap.size w wr)) (fun v1 _ _ => (RowKit.intOf v1).toNat)
  case atStart => exact ⟨u, 65, [], rfl, rfl, hu, by omega, Lib.hid ⟨by rw [List.append_nil]; exact HTe.out, rfl, by omega, by omega, HR.out, HB.out⟩⟩
  case round =>
    clear HR HB HTe hsz
    obtain ⟨x, i, ds, rfl, rfl, hx, hi, hh⟩ := hrel
    obtain ⟨h1, h2, h3, h4, h5, h6⟩ := hh.out
    clear hh
    by_cases hlt : x < 16
    · have hi' : (0 : Int) ≤ (i : Int) - 1 := by omega
      have hx' : (x : Int) < 16 := by omega
      obtain ⟨g1, g2⟩ := h5 (i - 1) (by rw [List.length_append, List.length_replicate]; omega)
      have H := Lib.hid (And.intro h1 (And.intro h2 (And.intro h5 h6)))
      clear h1 h2 h3 h5 h6
      have hsl := slice65 w.heap.size (i - 1) (by omega)
      have ei : ((i - 1 : Nat) : Int) = (i : Int) - 1 := by omega
      rw [ei] at hsl
      clear ei
      have hdig := dig36 x hlt
      obtain ⟨c, hc⟩ : ∃ c, hexc x = c := ⟨_, rfl⟩
      rw [hc] at hdig
      have hrow := H.out.2.2.1.set (i - 1) (by rw [List.length_append, List.length_replicate]; omega) c
      rw [row_set i ds c (by omega)] at hrow
      have hlen : (c :: ds).length = 65 - (i - 1) := by have := H.out.2.1; rw [List.length_cons]; omega
      have hcv := back_at (cap := 65 - (i - 1)) hrow 41 9 5 Tryd.underlying41 Tryd.underlying5 Tryd.underlying9
      rw [hlen] at hcv
      have HC := Lib.hid hc
      clear hc hrow hlen
      go_wp2
      go_ret2
      have hT := H.out.1
      rw [hexN_small hlt, HC.out] at hT
      exact ⟨by rw [← hT]; rfl, H.out.2.2.2.setCell (Nat.le_refl _) _⟩
    · have hi' : (0 : Int) ≤ (i : Int) - 1 := by omega
      have hx' : ¬ (x : Int) < 16 := by omega
      obtain ⟨g1, g2⟩ := h5 (i - 1) (by rw [List.length_append, List.length_replicate]; omega)
      have h15 := and15 x (by omega)
      have hq : x % 16 < 16 := Nat.mod_lt _ (by omega)
      have hdig := dig36 (x % 16) hq
      obtain ⟨q, hqq⟩ : ∃ q, x % 16 = q := ⟨_, rfl⟩
      rw [hqq] at h15 hq hdig
      obtain ⟨c, hc⟩ : ∃ c, hexc q = c := ⟨_, rfl⟩
      rw [hc] at hdig
      have hi3 : 58 ≤ i - 1 := by
        rcases Nat.lt_or_ge 58 i with h | h
        · omega
        · exfalso
          have : i - 57 = 1 := by omega
          rw [this] at h3
          omega
      have h3' : x / 16 < 16 ^ (i - 1 - 57) := by
        have e : i - 57 = (i - 1 - 57) + 1 := by omega
        rw [e, Nat.pow_succ] at h3
        omega
      have hrow := h5.set (i - 1) (by rw [List.length_append, List.length_replicate]; omega) c
      rw [row_set i ds c (by omega)] at hrow
      have hN : hexN (x / 16) ++ (c :: ds) = T := by rw [← h1, hexN_great hlt, hqq, hc, List.append_assoc]; rfl
      have H := Lib.hid (And.intro hN (And.intro h2 (And.intro hrow (And.intro h6 h3'))))
      have hq' : (q : Int) < 36 := by omega
      have hq0 : (0 : Int) ≤ (q : Int) := by omega
      clear h1 h2 h3 h5 h6 hrow hN h3' hc hqq
      go_wp2
      have e1 : (x : Int) / 16 = ((x / 16 : Nat) : Int) := by omega
      have e2 : (i : Int) - 1 = ((i - 1 : Nat) : Int) := by omega
      refine ⟨⟨x / 16, i - 1, c :: ds, by rw [e1], by rw [e2], by omega, by omega, Lib.hid ⟨H.out.1, by have := H.out.2.1; rw [List.length_cons]; omega, H.out.2.2.2.2, hi3, H.out.2.2.1, H.out.2.2.2.1.setCell (Nat.le_refl _) _⟩⟩, by simp [RowKit.intOf]; omega⟩
theorem istrconv_FormatInt16 (u : Nat) (w : World) (hu : u < 2147483648) (hT : TZ w) :
    Calls Tryd.prog 47 #[.int .i64 u, .int .i64 16] w fun e w' => e = .returned (.string ⟨(hexN u).toArray⟩) ∧ Below w.heap.size w w' := by
  have H := Lib.hid (formatBits16 u w hu hT)
  have h0 : ¬ (u : Int) < 0 := by omega
  have hd : decide ((u : Int) < 0) = false := decide_eq_false h0
  clear hT
  go_enter Tryd.func47, Tryd.ntmps47
  go_wp2_with fail
  refine H.out.mono ?_
  rintro e w1 ⟨rfl, hb⟩
  go_wp2
  go_ret
  exact ⟨rfl, hb⟩
theorem strconv_FormatInt16 (u : Nat) (w : World) (hu : u < 2147483648) (hT : TZ w) :
    Calls Tryd.prog 36 #[.int .i64 u, .int .i64 16] w fun e w' => e = .returned (.string ⟨(hexN u).toArray⟩) ∧ Below w.heap.size w w' := by
  have H := Lib.hid (istrconv_FormatInt16 u w hu hT)
  clear hT
  go_enter Tryd.func36, Tryd.ntmps36
  go_wp2_with fail
  refine H.out.mono ?_
  rintro e w1 ⟨rfl, hb⟩
  go_wp2
  go_ret
  exact ⟨rfl, hb⟩
end Go.Proofs.YtnjghpoeokfekaaDoor.Door
