-- printed by this project's own program wip/tools/mkprint.py (the kit's print.py with hand-proved contracts put in)
import Derived.Test.YtpdfokdhnalfaaaDoorQx0
import Derived.Test.YtpdfokdhnalfaaaDoorQx1
import Derived.Test.YtpdfokdhnalfaaaDoorQx2
import Derived.Test.YtpdfokdhnalfaaaDoorQx3
import Derived.Test.YtpdfokdhnalfaaaDoorQx4
namespace Go.Proofs.YtpdfokdhnalfaaaDoor.Q
open Go.RowKit Go.Proofs.YtpdfokdhnalfaaaDoorW.PrintWords Go.Proofs.YtpdfokdhnalfaaaDoorW.PrintLast Go.Proofs.YtpdfokdhnalfaaaDoorW.PrintMore
attribute [local go_sem] max2_int min2_int max_two min_two max_three min_three max_four min_four   -- for this text's walks alone
set_option linter.unusedVariables false
set_option linter.unusedSimpArgs false

/-! ### labels_Matchers_String: function 31 -/
-- contracts that were proved by hand
def zMatS : S72 := ⟨0, ⟨#[]⟩, ⟨#[]⟩⟩
theorem kMatS_at {w : World} {A : Option Addr} {n : Nat} {l : List S72} (h : Kd.C kMat w A n l) (i : Int) (h0 : 0 ≤ i) (h1 : i < n) :
    ∃ ad g, A = some ad ∧ w.cell? (ad.add i.toNat) = some (.pointer (some ⟨g, 0, none⟩)) ∧ w.heap[g]? = some (.cells #[.int .i64 (l.getD i.toNat zMatS).f0, .string (l.getD i.toNat zMatS).f1, .string (l.getD i.toNat zMatS).f2] 72 (0, 0)) := by
  obtain ⟨ad, c, e, _, hK, hc0⟩ := Kd.C_get h zMatS i h0 h1
  obtain ⟨g, rfl, hb⟩ := kMat_open hK
  refine ⟨ad, g, e, ?_, hb⟩
  have := hc0 0 _ rfl
  simpa [kMat, Box.box] using this
/-- What the matchers of a list are written as. -/
def mtexts (k : Nat) : List S72 → Option (List (List UInt8))
  | [] => some []
  | a :: r => (mtext k a.f0 a.f1 a.f2).bind fun t => (mtexts k r).map fun q => t.data.toList :: q
theorem mtexts_mono (k : Nat) : ∀ l, LeO (mtexts k l) (mtexts (k + 1) l)
  | [] => fun r h => h
  | a :: l => fun r h => by
    unfold mtexts at h ⊢
    obtain ⟨t, ht, h⟩ := Option.bind_eq_some_iff.1 h
    obtain ⟨q, hq, h⟩ := Option.map_eq_some_iff.1 h
    rw [mtext_mono _ _ _ k t ht, mtexts_mono k l q hq]
    subst h
    rfl
theorem mtexts_at (k : Nat) : ∀ (l : List S72) {ts : List (List UInt8)}, mtexts k l = some ts → ts.length = l.length ∧ ∀ (j : Nat), j < l.length → ∃ t, mtext k (l.getD j zMatS).f0 (l.getD j zMatS).f1 (l.getD j zMatS).f2 = some t ∧ ts[j]? = some t.data.toList
  | [], ts, h => by
    obtain rfl := Option.some.inj h
    exact ⟨rfl, fun j hj => absurd hj (Nat.not_lt_zero _)⟩
  | a :: l, ts, h => by
    unfold mtexts at h
    obtain ⟨t, ht, h⟩ := Option.bind_eq_some_iff.1 h
    obtain ⟨q, hq, h⟩ := Option.map_eq_some_iff.1 h
    obtain ⟨h1, h2⟩ := mtexts_at k l hq
    subst h
    refine ⟨by simp [h1], fun j hj => ?_⟩
    cases j with
    | zero => exact ⟨t, ht, rfl⟩
    | succ j => exact h2 j (by simpa using hj)
theorem join_take (ts : List (List UInt8)) (sep : List UInt8) (j : Nat) (t : List UInt8) (h : ts[j]? = some t) : Go.Lib.join (ts.take (j + 1)) sep = if j = 0 then t else Go.Lib.join (ts.take j) sep ++ sep ++ t := by
  have hj : j < ts.length := (List.getElem?_eq_some_iff.1 h).1
  have e : ts.take (j + 1) = ts.take j ++ [t] := by rw [List.take_add_one, h]; rfl
  by_cases h0 : j = 0
  · subst h0
    rw [e, if_pos rfl, List.take_zero, List.nil_append, Go.Lib.join_one]
  · rw [e, if_neg h0]
    have hne : ts.take j ≠ [] := fun hn => by
      have := congrArg List.length hn
      rw [List.length_take, List.length_nil] at this
      omega
    obtain ⟨y, r, hy⟩ := List.exists_cons_of_ne_nil hne
    rw [hy, List.cons_append, Go.Lib.join_cons, Go.Lib.join_cons]
    simp [Go.Lib.joinTail, List.append_assoc]
theorem join_take_len (ts : List (List UInt8)) (sep : List UInt8) : ∀ d j, j + d = ts.length → (Go.Lib.join (ts.take j) sep).length ≤ (Go.Lib.join ts sep).length
  | 0, j, h => by rw [List.take_of_length_le (by omega)]; exact Nat.le_refl _
  | d + 1, j, h => by
    refine Nat.le_trans ?_ (join_take_len ts sep d (j + 1) (by omega))
    rw [join_take ts sep j (ts[j]'(by omega)) (by simp)]
    by_cases h0 : j = 0
    · subst h0
      rw [List.take_zero, Go.Lib.join_nil]
      exact Nat.zero_le _
    · rw [if_neg h0]
      simp only [List.length_append]
      omega
open Go.Lib Go.Proofs.YtpdfokdhnalfaaaDoor.Door in
set_option maxHeartbeats 4000000 in
set_option maxRecDepth 100000 in
theorem labels_Matchers_String.calls (A0 : Option Addr) (c0 : Nat) (l : List S72) (k : Nat) (ts : List (List UInt8)) (w : World) (hr : Kd.C kMat w A0 l.length l) (hl : l.length ≤ maxLen) (hT_ : PT w)
    (h : mtexts k l = some ts) (hs : (Go.Lib.join ts [44]).length ≤ 140737488355300) :
    Calls Tryd.prog 31 #[.slice A0 l.length c0] w fun e w' => e = .returned (.string ⟨(123 :: Go.Lib.join ts [44] ++ [125]).toArray⟩) ∧ Below w.heap.size w w' := by
  obtain ⟨hlen, hat⟩ := mtexts_at k l h
  have HA := Aside0.mk hat
  have HR := Aside0.mk hr
  have HT := Aside0.mk hT_
  have HL := Aside0.mk hlen
  have HS := Aside0.mk hs
  have JL := Aside0.mk (fun j (hj : j ≤ l.length) => join_take_len ts [44] (ts.length - j) j (by omega))
  have JT := Aside0.mk (join_take ts [44])
  unfold maxLen at hl
  clear hat hr hT_ h hs hlen
  go_enter Tryd.func31, Tryd.ntmps31
  go_wp2_with fail
  refine (buf_byte (w0 := w) (b := w.heap.size) (l := []) (buf_new w) 123 123 rfl (by simp)).mono ?_
  rintro e w1 ⟨rfl, hb⟩
  have HB := Aside0.mk hb
  clear hb
  go_wp2
  go_loopw [9] (fun v9 wr => ∃ j : Nat, j ≤ l.length ∧ v9 = .int .i64 j ∧ Aside0 (Buf w w.heap.size (123 :: Go.Lib.join (ts.take j) [44]) wr)) (fun v9 _ => l.length - (intOf v9).toNat)
  case atStart => exact ⟨0, Nat.zero_le _, rfl, HB⟩
  case round =>
    clear HB
    obtain ⟨j, hj, rfl, HB⟩ := hrel
    by_cases hlt : j < l.length
    · obtain ⟨ad, g, e0, hx, hg0⟩ := kMatS_at HR.out (j : Int) (by omega) (by omega)
      cases e0
      simp only [Int.toNat_natCast] at hx hg0
      have hgl := (Array.getElem?_eq_some_iff.1 hg0).1
      replace hx := (HB.out.below.cell (World.block_lt_of_cell? w _ hx)).trans hx
      obtain ⟨t, ht, hts⟩ := HA.out j hlt
      have hjt := JT.out j _ hts
      have h1 := JL.out (j + 1) (by omega)
      have HMS := Aside0.mk (fun W hP hG => matcher_string k _ _ _ t g W hP hG ht)
      have HG := Aside0.mk (fun W (hW : Below w.heap.size w W) => (hW.block g hgl).trans hg0)
      have hs := HS.out
      clear ht hts hg0 hgl
      by_cases h0 : j = 0
      · rw [if_pos h0] at hjt
        have e0 : Go.Lib.join (ts.take j) [44] = [] := by rw [h0, List.take_zero, Go.Lib.join_nil]
        have h2 : (Go.Lib.join (ts.take j) [44]).length + t.size ≤ 140737488355300 := by
          rw [hjt] at h1
          have : t.data.toList.length = t.size := rfl
          rw [e0, List.length_nil]
          omega
        have HJ := Aside0.mk hjt
        have H2 := Aside0.mk h2
        have HE0 := Aside0.mk e0
        have hnot : ¬ (0 : Int) < (j : Int) := by omega
        clear hjt h1 hs h2 e0 h0
        go_wp2_with fail
        refine (HMS.out wr (PT.below HT.out HB.out.below) (HG.out _ HB.out.below)).mono ?_
        rintro e w2 ⟨rfl, hb⟩
        have HB2 := Aside0.mk (HB.out.old hb)
        clear hb HB HMS HG
        go_wp2_with fail
        refine (buf_text HB2.out t (by have := H2.out; simp only [List.length_cons]; omega)).mono ?_
        rintro e w3 ⟨rfl, hb⟩
        have HB3 := Aside0.mk (show Buf w w.heap.size (123 :: Go.Lib.join (ts.take (j + 1)) [44]) w3 by rw [HJ.out]; rw [HE0.out] at hb; simpa using hb)
        clear hb HB2
        go_wp2
        go_roundw
        case rel => exact ⟨j + 1, by omega, by go_num, HB3⟩
        case measure => simp [intOf]; omega
      · rw [if_neg h0] at hjt
        have h2 : (Go.Lib.join (ts.take j) [44]).length + 1 + t.size ≤ 140737488355300 := by
          rw [hjt] at h1
          have : t.data.toList.length = t.size := rfl
          simp only [List.length_append, List.length_cons, List.length_nil] at h1
          omega
        have HJ := Aside0.mk hjt
        have H2 := Aside0.mk h2
        have hpos : (0 : Int) < (j : Int) := by omega
        clear hjt h1 hs h2 h0
        go_wp2_with fail
        refine (buf_byte HB.out 44 44 rfl (by have := H2.out; simp only [List.length_cons]; omega)).mono ?_
        rintro e w1 ⟨rfl, hb⟩
        have HB1 := Aside0.mk hb
        clear hb HB
        go_wp2_with fail
        refine (HMS.out w1 (PT.below HT.out HB1.out.below) (HG.out _ HB1.out.below)).mono ?_
        rintro e w2 ⟨rfl, hb⟩
        have HB2 := Aside0.mk (HB1.out.old hb)
        clear hb HB1 HMS HG
        go_wp2_with fail
        refine (buf_text HB2.out t (by have := H2.out; simp only [List.length_append, List.length_cons, List.length_nil]; omega)).mono ?_
        rintro e w3 ⟨rfl, hb⟩
        have HB3 := Aside0.mk (show Buf w w.heap.size (123 :: Go.Lib.join (ts.take (j + 1)) [44]) w3 by rw [HJ.out]; simpa [List.append_assoc] using hb)
        clear hb HB2
        go_wp2
        go_roundw
        case rel => exact ⟨j + 1, by omega, by go_num, HB3⟩
        case measure => simp [intOf]; omega
    · have hj2 : j = l.length := by omega
      subst hj2
      have h1 := JL.out l.length (Nat.le_refl _)
      have hs := HS.out
      have e1 : ts.take l.length = ts := List.take_of_length_le (by rw [HL.out]; exact Nat.le_refl _)
      have HB1 := Aside0.mk (show Buf w w.heap.size (123 :: Go.Lib.join ts [44]) wr by have := HB.out; rwa [e1] at this)
      clear HB e1 h1 hs
      go_wp2_with fail
      refine (buf_byte HB1.out 125 125 rfl (by have := HS.out; simp only [List.length_cons]; omega)).mono ?_
      rintro e w2 ⟨rfl, hb⟩
      have HB2 := Aside0.mk hb
      clear hb HB1
      go_wp2_with fail
      refine (buf_end HB2.out).mono ?_
      rintro e w3 ⟨rfl, hb⟩
      have HB3 := Aside0.mk hb
      clear hb HB2
      go_wp2
      go_ret
      exact ⟨rfl, HB3.out⟩


/-! ### impl_PrintMatchers: function 12 -/
-- a contract that was proved by hand
def impl_PrintMatchers.f (k : Nat) (l0 : List S23) : Option ByteArray :=
  if l0.length ≤ 17592186044416 then (mtexts k (l0.map toMat)).bind fun ts => if (Go.Lib.join ts [44]).length ≤ 140737488355300 then some ⟨(123 :: Go.Lib.join ts [44] ++ [125]).toArray⟩ else none else none
theorem impl_PrintMatchers.mono : ∀ l0 k, LeO (impl_PrintMatchers.f k l0) (impl_PrintMatchers.f (k + 1) l0) := by
  intro l k r h
  unfold impl_PrintMatchers.f at h ⊢
  by_cases hl : l.length ≤ 17592186044416
  · rw [if_pos hl] at h ⊢
    obtain ⟨ts, ht, h⟩ := Option.bind_eq_some_iff.1 h
    rw [mtexts_mono k _ ts ht]
    exact h
  · rw [if_neg hl] at h
    cases h
open Go.Lib Go.Proofs.YtpdfokdhnalfaaaDoor.Door in
set_option maxHeartbeats 1600000 in
theorem impl_PrintMatchers.calls (k : Nat) (A0 : Option Addr) (c0 : Nat) (l0 : List S23) (r : ByteArray) (w : World) (hr0 : Kd.C k23 w A0 l0.length l0) (hc0 : l0.length ≤ c0) (hT_ : PT w) (h : impl_PrintMatchers.f k l0 = some r) :
    Calls Tryd.prog 12 #[.slice A0 l0.length c0] w fun e w' => e = .returned (.string r) ∧ Below w.heap.size w w' := by
  unfold impl_PrintMatchers.f at h
  by_cases hl : l0.length ≤ 17592186044416
  · rw [if_pos hl] at h
    obtain ⟨ts, ht, h⟩ := Option.bind_eq_some_iff.1 h
    by_cases hs : (Go.Lib.join ts [44]).length ≤ 140737488355300
    · rw [if_pos hs] at h
      obtain rfl := Option.some.inj h
      have C0 := Aside0.mk (impl_inners.calls A0 c0 l0 w hr0 hc0 hl)
      have hlm : (l0.map toMat).length ≤ maxLen := by rw [List.length_map]; unfold maxLen; omega
      generalize l0.map toMat = l at *
      have HQ := Aside0.mk (fun A c W hC hP => labels_Matchers_String.calls A c l k ts W hC hlm hP ht hs)
      have HT := Aside0.mk hT_
      clear h ht hs hlm hr0 hc0 hl hT_
      go_enter Tryd.func12, Tryd.ntmps12
      go_wp2_with fail
      refine C0.out.mono ?_
      rintro e w1 ⟨v, rfl, hO, hB⟩
      obtain ⟨A, c, rfl, hlc, hC⟩ := Kd.R_reads hO
      have HC := Aside0.mk hC
      have HB := Aside0.mk hB
      clear hO hB hC hlc
      go_wp2_with fail
      refine (HQ.out A c w1 HC.out (PT.below HT.out HB.out)).mono ?_
      rintro e w2 ⟨rfl, hb⟩
      have HB2 := Aside0.mk (below_step HB.out hb)
      clear hb
      go_wp2
      go_ret
      exact ⟨rfl, HB2.out⟩
    · rw [if_neg hs] at h
      cases h
  · rw [if_neg hl] at h
    cases h


/-! ### spec_PrintMatchers: function 13 -/
def spec_PrintMatchers.l0 : Nat → List (S28) → ByteArray → Int → Int → Option (ByteArray × Int)
  | 0, _, _, _, _ => none
  | k + 1, x0, x4, x9, x10 => if x10 < x9 then (if 0 ≤ x10 then (if x10 < (x0.length : Int) then ((spec_PrintMatcher.f k ((rd_T28 x0 x10).f0) ((rd_T28 x0 x10).f1) ((rd_T28 x0 x10).f2)).bind fun bt171 => (if bt171.2 = 1 then (if x10 > 0 then (if x4.size + 1 ≤ 9223372036854775807 then (if (x4 ++ (⟨#[44]⟩ : ByteArray)).size + bt171.1.size ≤ 9223372036854775807 then (spec_PrintMatchers.l0 k x0 ((x4 ++ (⟨#[44]⟩ : ByteArray)) ++ bt171.1) x9 (wrap64 (x10 + 1))) else (none)) else (none)) else (if x4.size + bt171.1.size ≤ 9223372036854775807 then (spec_PrintMatchers.l0 k x0 (x4 ++ bt171.1) x9 (wrap64 (x10 + 1))) else (none))) else (some ((⟨#[]⟩ : ByteArray), 2)))) else (none)) else (none)) else (if x4.size + 1 ≤ 9223372036854775807 then (some (x4 ++ (⟨#[125]⟩ : ByteArray), 1)) else (none))
def spec_PrintMatchers.f (k : Nat) (l0 : List (S28)) : Option (ByteArray × Int) := spec_PrintMatchers.l0 k l0 (⟨#[123]⟩ : ByteArray) (l0.length : Int) 0
theorem spec_PrintMatchers.mono_l : ∀ k, (∀ y0 y1 y2 y3, LeO (spec_PrintMatchers.l0 k y0 y1 y2 y3) (spec_PrintMatchers.l0 (k + 1) y0 y1 y2 y3))
  | 0 => fun _ _ _ _ r h => by simp [spec_PrintMatchers.l0] at h
  | k + 1 => by
    have ih0 := spec_PrintMatchers.mono_l k
    · intro y0 y1 y2 y3
      unfold spec_PrintMatchers.l0
      repeat' first
      | (with_reducible exact ih0 _ _ _ _)
      | (with_reducible exact spec_PrintMatcher.mono _ _ _ _)
      | (with_reducible exact LeO.refl _)
      | (with_reducible exact LeO.none _)
      | (with_reducible refine LeO.ite ?_ ?_)
      | (with_reducible refine LeO.bind ?_ (fun _ => ?_))
      | exact ih0 _ _ _ _
      | exact spec_PrintMatcher.mono _ _ _ _
      | exact LeO.none _
      | refine LeO.ite ?_ ?_
      | refine LeO.bind ?_ (fun _ => ?_)
theorem spec_PrintMatchers.mono : ∀ a0 k, LeO (spec_PrintMatchers.f k a0) (spec_PrintMatchers.f (k + 1) a0) := by
  intro a0 k
  have ih0 := spec_PrintMatchers.mono_l k
  unfold spec_PrintMatchers.f
  repeat' first
      | (with_reducible exact ih0 _ _ _ _)
      | (with_reducible exact spec_PrintMatcher.mono _ _ _ _)
      | (with_reducible exact LeO.refl _)
      | (with_reducible exact LeO.none _)
      | (with_reducible refine LeO.ite ?_ ?_)
      | (with_reducible refine LeO.bind ?_ (fun _ => ?_))
      | exact ih0 _ _ _ _
      | exact spec_PrintMatcher.mono _ _ _ _
      | exact LeO.none _
      | refine LeO.ite ?_ ?_
      | refine LeO.bind ?_ (fun _ => ?_)
set_option maxHeartbeats 8000000 in
set_option maxRecDepth 100000 in
theorem spec_PrintMatchers.calls (k : Nat) (A0 : Option Addr) (c0 : Nat) (l0 : List (S28)) (r1 : ByteArray) (r2 : Int) (w : World) (hr0 : Kd.C k28 w A0 l0.length l0) (hc0 : l0.length ≤ c0) (h : spec_PrintMatchers.f k l0 = some (r1, r2)) :
    Calls Tryd.prog 13 #[.slice A0 l0.length c0] w fun e w' => e = .returned (.tuple #[.string r1, .int .i64 r2]) ∧ Below w.heap.size w w' := by
  have hu28 := Tryd.underlying28
  have HR0 := Aside0.mk hr0
  have HC0 := Aside0.mk hc0
  clear hr0 hc0
  have HB := Aside0.mk (Below.refl w.heap.size w)
  have H : (spec_PrintMatchers.l0 k l0 (⟨#[123]⟩ : ByteArray) (l0.length : Int) 0) = some (r1, r2) := h
  clear h
  have H' := Aside0.mk H
  clear H
  go_enter Tryd.func13, Tryd.ntmps13
  go_wp2
  go_loopg [4, 10] k (fun kq v4 v10 w' => ∃ (x4_1 : ByteArray) (x10_1 : Int), v4 = .string x4_1 ∧ v10 = .int .i64 x10_1 ∧ Aside0 (spec_PrintMatchers.l0 kq l0 x4_1 (l0.length : Int) x10_1 = some (r1, r2)) ∧ Aside0 (kq ≤ k) ∧ Aside0 (Below w.heap.size w w'))
  case atStart => exact ⟨((⟨#[123]⟩ : ByteArray)), (0), (by first | rfl | (simp; done) | (simp [*]; done)), (by first | rfl | (simp; done) | (simp [*]; done)), H', ⟨Nat.le_refl _⟩, ⟨by repeat (first | (with_reducible first | exact HB.out | apply below_alloc | apply pw_below_drewN | apply below_drew1) | exact HB.out)⟩⟩
  case round =>
    clear H'
    try clear c1
    obtain ⟨x4_1, x10_1, rfl, rfl, HA, HK1, HB⟩ := hrel
    cases gk with
    | zero => exact absurd HA.out (by simp [spec_PrintMatchers.l0])
    | succ k1 =>
      have H := HA.out
      clear HA
      simp only [spec_PrintMatchers.l0] at H
      by_cases c2 : x10_1 < (l0.length : Int)
      · rw [if_pos c2] at H
        have c2b0 : decide (x10_1 < (l0.length : Int)) = true := decide_eq_true c2
        clear c2
        by_cases c3 : 0 ≤ x10_1
        · rw [if_pos c3] at H
          have c3b0 : decide (0 ≤ x10_1) = true := decide_eq_true c3
          clear c3
          by_cases c4 : x10_1 < (l0.length : Int)
          · rw [if_pos c4] at H
            have c4b0 : decide (x10_1 < (l0.length : Int)) = true := decide_eq_true c4
            clear c4
            replace H := Option.bind_eq_some_iff.mp H
            obtain ⟨⟨t171, t172⟩, A50, H⟩ := H
            replace H : (if t172 = 1 then (if x10_1 > 0 then (if x4_1.size + 1 ≤ 9223372036854775807 then (if (x4_1 ++ (⟨#[44]⟩ : ByteArray)).size + t171.size ≤ 9223372036854775807 then (spec_PrintMatchers.l0 k1 l0 ((x4_1 ++ (⟨#[44]⟩ : ByteArray)) ++ t171) (l0.length : Int) (wrap64 (x10_1 + 1))) else (none)) else (none)) else (if x4_1.size + t171.size ≤ 9223372036854775807 then (spec_PrintMatchers.l0 k1 l0 (x4_1 ++ t171) (l0.length : Int) (wrap64 (x10_1 + 1))) else (none))) else (some ((⟨#[]⟩ : ByteArray), 2))) = some (r1, r2) := H
            have A5 := Aside0.mk A50
            clear A50
            by_cases c6 : t172 = 1
            · rw [if_pos c6] at H
              have c6b0 : (t172 == 1) = true := beq_iff_eq.mpr c6
              have c6b1 : (t172 != 1) = false := bne_eq_false_iff_eq.mpr c6
              clear c6
              by_cases c7 : x10_1 > 0
              · rw [if_pos c7] at H
                have c7b0 : decide (0 < x10_1) = true := decide_eq_true c7
                clear c7
                by_cases c8 : x4_1.size + 1 ≤ 9223372036854775807
                · rw [if_pos c8] at H
                  have c8b0 := eq_true c8
                  have c8b1 : decide (x4_1.size + 1 ≤ 9223372036854775807) = true := decide_eq_true c8
                  try have c8b2 : (9223372036854775807 < x4_1.size + 1) = False := eq_false (Nat.not_lt.2 c8)
                  by_cases c9 : (x4_1 ++ (⟨#[44]⟩ : ByteArray)).size + t171.size ≤ 9223372036854775807
                  · rw [if_pos c9] at H
                    have c9b0 := eq_true c9
                    have c9b1 : decide ((x4_1 ++ (⟨#[44]⟩ : ByteArray)).size + t171.size ≤ 9223372036854775807) = true := decide_eq_true c9
                    try have c9b2 : (9223372036854775807 < (x4_1 ++ (⟨#[44]⟩ : ByteArray)).size + t171.size) = False := eq_false (Nat.not_lt.2 c9)
                    try have c9b3 := c9b2
                    try simp only [ByteArray.size_append, show (⟨#[44]⟩ : ByteArray).size = 1 from rfl] at c9b3
                    have H' := Aside0.mk H
                    clear H
                    have p170 : 0 ≤ (x10_1 : Int) := of_decide_eq_true (by first | (with_reducible assumption) | assumption)
                    have q170 : x10_1 < (l0.length : Int) := of_decide_eq_true (by first | (with_reducible assumption) | assumption)
                    obtain ⟨ad170, e170, hx170_0, hx170_1, hx170_2⟩ := at_T28 HR0.out x10_1 p170 q170
                    cases e170
                    replace hx170_0 := (HB.out.cell (World.block_lt_of_cell? w _ hx170_0)).trans hx170_0
                    replace hx170_1 := (HB.out.cell (World.block_lt_of_cell? w _ hx170_1)).trans hx170_1
                    replace hx170_2 := (HB.out.cell (World.block_lt_of_cell? w _ hx170_2)).trans hx170_2
                    replace p170 := eq_true p170
                    replace q170 := eq_true q170
                    go_wp2_with (first | ((with_reducible refine gate_callee (f := 10) rfl ?_); refine goesL_ (some 18) rfl rfl Tryd.func10 (by kernel_rfl) rfl #[.agg #[.int .i64 ((rd_T28 l0 x10_1).f0), .string ((rd_T28 l0 x10_1).f1), .string ((rd_T28 l0 x10_1).f2)]] rfl (by (try simp only [List.map_toArray, List.map_cons, List.map_nil]); first | done | rfl | (simp only [List.length_drop, List.length_take]; rfl)) ?_; (with_reducible refine (spec_PrintMatcher.calls k1 ((rd_T28 l0 x10_1).f0) ((rd_T28 l0 x10_1).f1) ((rd_T28 l0 x10_1).f2) t171 t172 _ A5.out).mono ?_); rintro e w10 ⟨rfl, hb⟩; refine ⟨_, rfl, ?_⟩; have n0_ := Aside0.mk (below_step (by repeat (first | (with_reducible first | exact HB.out | apply below_alloc | apply pw_below_drewN | apply below_drew1) | exact HB.out)) hb); clear HB; have HB := n0_; clear n0_; (try clear hb); (try clear hb2); (try clear hk); (try clear hi)))
                    go_roundg k1
                    case measure => have := HK1.out; omega
                    case rel => exact ⟨((x4_1 ++ (⟨#[44]⟩ : ByteArray)) ++ t171), (wrap64 (x10_1 + 1)), (by first | rfl | (simp; done) | (simp [*]; done)), (by first | rfl | (simp; done) | (simp [*]; done)), H', ⟨by have := HK1.out; omega⟩, ⟨by repeat (first | (with_reducible first | exact HB.out | apply below_alloc | apply pw_below_drewN | apply below_drew1) | exact HB.out)⟩⟩
                  · rw [if_neg c9] at H
                    exact absurd H (by simp)
                · rw [if_neg c8] at H
                  exact absurd H (by simp)
              · rw [if_neg c7] at H
                have c7b0 : decide (0 < x10_1) = false := decide_eq_false c7
                clear c7
                by_cases c11 : x4_1.size + t171.size ≤ 9223372036854775807
                · rw [if_pos c11] at H
                  have c11b0 := eq_true c11
                  have c11b1 : decide (x4_1.size + t171.size ≤ 9223372036854775807) = true := decide_eq_true c11
                  try have c11b2 : (9223372036854775807 < x4_1.size + t171.size) = False := eq_false (Nat.not_lt.2 c11)
                  have H' := Aside0.mk H
                  clear H
                  have p170 : 0 ≤ (x10_1 : Int) := of_decide_eq_true (by first | (with_reducible assumption) | assumption)
                  have q170 : x10_1 < (l0.length : Int) := of_decide_eq_true (by first | (with_reducible assumption) | assumption)
                  obtain ⟨ad170, e170, hx170_0, hx170_1, hx170_2⟩ := at_T28 HR0.out x10_1 p170 q170
                  cases e170
                  replace hx170_0 := (HB.out.cell (World.block_lt_of_cell? w _ hx170_0)).trans hx170_0
                  replace hx170_1 := (HB.out.cell (World.block_lt_of_cell? w _ hx170_1)).trans hx170_1
                  replace hx170_2 := (HB.out.cell (World.block_lt_of_cell? w _ hx170_2)).trans hx170_2
                  replace p170 := eq_true p170
                  replace q170 := eq_true q170
                  go_wp2_with (first | ((with_reducible refine gate_callee (f := 10) rfl ?_); refine goesL_ (some 18) rfl rfl Tryd.func10 (by kernel_rfl) rfl #[.agg #[.int .i64 ((rd_T28 l0 x10_1).f0), .string ((rd_T28 l0 x10_1).f1), .string ((rd_T28 l0 x10_1).f2)]] rfl (by (try simp only [List.map_toArray, List.map_cons, List.map_nil]); first | done | rfl | (simp only [List.length_drop, List.length_take]; rfl)) ?_; (with_reducible refine (spec_PrintMatcher.calls k1 ((rd_T28 l0 x10_1).f0) ((rd_T28 l0 x10_1).f1) ((rd_T28 l0 x10_1).f2) t171 t172 _ A5.out).mono ?_); rintro e w12 ⟨rfl, hb⟩; refine ⟨_, rfl, ?_⟩; have n0_ := Aside0.mk (below_step (by repeat (first | (with_reducible first | exact HB.out | apply below_alloc | apply pw_below_drewN | apply below_drew1) | exact HB.out)) hb); clear HB; have HB := n0_; clear n0_; (try clear hb); (try clear hb2); (try clear hk); (try clear hi)))
                  go_roundg k1
                  case measure => have := HK1.out; omega
                  case rel => exact ⟨(x4_1 ++ t171), (wrap64 (x10_1 + 1)), (by first | rfl | (simp; done) | (simp [*]; done)), (by first | rfl | (simp; done) | (simp [*]; done)), H', ⟨by have := HK1.out; omega⟩, ⟨by repeat (first | (with_reducible first | exact HB.out | apply below_alloc | apply pw_below_drewN | apply below_drew1) | exact HB.out)⟩⟩
                · rw [if_neg c11] at H
                  exact absurd H (by simp)
            · rw [if_neg c6] at H
              have c6b0 : (t172 == 1) = false := beq_eq_false_iff_ne.mpr c6
              have c6b1 : (t172 != 1) = true := bne_iff_ne.mpr c6
              simp only [Option.some.injEq, Prod.mk.injEq] at H
              obtain ⟨rfl, rfl⟩ := H
              have p170 : 0 ≤ (x10_1 : Int) := of_decide_eq_true (by first | (with_reducible assumption) | assumption)
              have q170 : x10_1 < (l0.length : Int) := of_decide_eq_true (by first | (with_reducible assumption) | assumption)
              obtain ⟨ad170, e170, hx170_0, hx170_1, hx170_2⟩ := at_T28 HR0.out x10_1 p170 q170
              cases e170
              replace hx170_0 := (HB.out.cell (World.block_lt_of_cell? w _ hx170_0)).trans hx170_0
              replace hx170_1 := (HB.out.cell (World.block_lt_of_cell? w _ hx170_1)).trans hx170_1
              replace hx170_2 := (HB.out.cell (World.block_lt_of_cell? w _ hx170_2)).trans hx170_2
              replace p170 := eq_true p170
              replace q170 := eq_true q170
              go_wp2_with (first | ((with_reducible refine gate_callee (f := 10) rfl ?_); refine goesL_ (some 18) rfl rfl Tryd.func10 (by kernel_rfl) rfl #[.agg #[.int .i64 ((rd_T28 l0 x10_1).f0), .string ((rd_T28 l0 x10_1).f1), .string ((rd_T28 l0 x10_1).f2)]] rfl (by (try simp only [List.map_toArray, List.map_cons, List.map_nil]); first | done | rfl | (simp only [List.length_drop, List.length_take]; rfl)) ?_; (with_reducible refine (spec_PrintMatcher.calls k1 ((rd_T28 l0 x10_1).f0) ((rd_T28 l0 x10_1).f1) ((rd_T28 l0 x10_1).f2) t171 t172 _ A5.out).mono ?_); rintro e w13 ⟨rfl, hb⟩; refine ⟨_, rfl, ?_⟩; have n0_ := Aside0.mk (below_step (by repeat (first | (with_reducible first | exact HB.out | apply below_alloc | apply pw_below_drewN | apply below_drew1) | exact HB.out)) hb); clear HB; have HB := n0_; clear n0_; (try clear hb); (try clear hb2); (try clear hk); (try clear hi)))
              go_ret2
              exact ⟨by first | rfl | (simp [errW_none, errW_some] <;> rfl) | (simp [*, errW_none, errW_some] <;> rfl), by repeat (first | (with_reducible first | exact HB.out | apply below_alloc | apply pw_below_drewN | apply below_drew1) | exact HB.out)⟩
          · rw [if_neg c4] at H
            exact absurd H (by simp)
        · rw [if_neg c3] at H
          exact absurd H (by simp)
      · rw [if_neg c2] at H
        have c2b0 : decide (x10_1 < (l0.length : Int)) = false := decide_eq_false c2
        clear c2
        by_cases c14 : x4_1.size + 1 ≤ 9223372036854775807
        · rw [if_pos c14] at H
          have c14b0 := eq_true c14
          have c14b1 : decide (x4_1.size + 1 ≤ 9223372036854775807) = true := decide_eq_true c14
          try have c14b2 : (9223372036854775807 < x4_1.size + 1) = False := eq_false (Nat.not_lt.2 c14)
          simp only [Option.some.injEq, Prod.mk.injEq] at H
          obtain ⟨rfl, rfl⟩ := H
          go_wp2
          go_ret2
          exact ⟨by first | rfl | (simp [errW_none, errW_some] <;> rfl) | (simp [*, errW_none, errW_some] <;> rfl), by repeat (first | (with_reducible first | exact HB.out | apply below_alloc | apply pw_below_drewN | apply below_drew1) | exact HB.out)⟩
        · rw [if_neg c14] at H
          exact absurd H (by simp)

/-! ### laws_matchers: function 14 -/
def laws_matchers.l0 : Nat → List (S28) → List (S23) → Int → Int → Option ((List (S28)))
  | 0, _, _, _, _ => none
  | k + 1, x3, x6, x7, x8 => if x8 < x7 then (if 0 ≤ x8 then (if x8 < (x6.length : Int) then (if x3.length < 3518437208883 then (laws_matchers.l0 k (x3 ++ [(⟨(rd_T23 x6 x8).f0, (rd_T23 x6 x8).f1, (rd_T23 x6 x8).f2⟩ : S28)]) x6 x7 (wrap64 (x8 + 1))) else (none)) else (none)) else (none)) else (some x3)
def laws_matchers.f (k : Nat) (l0 : List (S23)) : Option ((List (S28))) := laws_matchers.l0 k ([] : List (S28)) l0 (l0.length : Int) 0
theorem laws_matchers.mono_l : ∀ k, (∀ y0 y1 y2 y3, LeO (laws_matchers.l0 k y0 y1 y2 y3) (laws_matchers.l0 (k + 1) y0 y1 y2 y3))
  | 0 => fun _ _ _ _ r h => by simp [laws_matchers.l0] at h
  | k + 1 => by
    have ih0 := laws_matchers.mono_l k
    · intro y0 y1 y2 y3
      unfold laws_matchers.l0
      repeat' first
      | (with_reducible exact ih0 _ _ _ _)
      | (with_reducible exact LeO.refl _)
      | (with_reducible exact LeO.none _)
      | (with_reducible refine LeO.ite ?_ ?_)
      | (with_reducible refine LeO.bind ?_ (fun _ => ?_))
      | exact ih0 _ _ _ _
      | exact LeO.none _
      | refine LeO.ite ?_ ?_
      | refine LeO.bind ?_ (fun _ => ?_)
theorem laws_matchers.mono : ∀ a0 k, LeO (laws_matchers.f k a0) (laws_matchers.f (k + 1) a0) := by
  intro a0 k
  have ih0 := laws_matchers.mono_l k
  unfold laws_matchers.f
  repeat' first
      | (with_reducible exact ih0 _ _ _ _)
      | (with_reducible exact LeO.refl _)
      | (with_reducible exact LeO.none _)
      | (with_reducible refine LeO.ite ?_ ?_)
      | (with_reducible refine LeO.bind ?_ (fun _ => ?_))
      | exact ih0 _ _ _ _
      | exact LeO.none _
      | refine LeO.ite ?_ ?_
      | refine LeO.bind ?_ (fun _ => ?_)
set_option maxHeartbeats 8000000 in
set_option maxRecDepth 100000 in
theorem laws_matchers.calls (k : Nat) (A0 : Option Addr) (c0 : Nat) (l0 : List (S23)) (r : List (S28)) (w : World) (hr0 : Kd.C k23 w A0 l0.length l0) (hc0 : l0.length ≤ c0) (h : laws_matchers.f k l0 = some r) :
    Calls Tryd.prog 14 #[.slice A0 l0.length c0] w fun e w' => ∃ v0_ : Value, e = .returned (v0_) ∧ Kd.R k28 28 w' w.heap.size (fun _ => True) v0_ r ∧ Below w.heap.size w w' := by
  have hu23 := Tryd.underlying23
  have HR0 := Aside0.mk hr0
  have HC0 := Aside0.mk hc0
  clear hr0 hc0
  have HB := Aside0.mk (Below.refl w.heap.size w)
  have H : (laws_matchers.l0 k ([] : List (S28)) l0 (l0.length : Int) 0) = some r := h
  clear h
  have H' := Aside0.mk H
  clear H
  go_enter Tryd.func14, Tryd.ntmps14
  go_wp2
  go_loopg [3, 8] k (fun kq v3 v8 w' => ∃ (x3_1 : List (S28)) (x8_1 : Int), v8 = .int .i64 x8_1 ∧ Aside0 (laws_matchers.l0 kq x3_1 l0 (l0.length : Int) x8_1 = some r) ∧ Aside0 (kq ≤ k) ∧ Aside0 (Kd.R k28 28 w' w.heap.size (fun _ => True) v3 x3_1) ∧ Aside0 (Below w.heap.size w w'))
  case atStart => exact ⟨(([] : List (S28))), (0), (by first | rfl | (simp; done) | (simp [*]; done)), H', ⟨Nat.le_refl _⟩, ⟨by first | exact Kd.R_nil _ _ _ _ _ | exact Kd.N_nil _ _ _ _ _ | exact Kd.V_nil _ _ _ _ _ | exact Kd.Q_nil _ _ _ _ _ | exact Kd.S_nil _ _ _ _ _⟩, ⟨by repeat (first | (with_reducible first | exact HB.out | apply below_alloc | apply pw_below_drewN | apply below_drew1) | exact HB.out)⟩⟩
  case round =>
    clear H'
    try clear c1
    obtain ⟨x3_1, x8_1, rfl, HA, HK1, HO_3, HB⟩ := hrel
    cases gk with
    | zero => exact absurd HA.out (by simp [laws_matchers.l0])
    | succ k1 =>
      have H := HA.out
      clear HA
      simp only [laws_matchers.l0] at H
      by_cases c2 : x8_1 < (l0.length : Int)
      · rw [if_pos c2] at H
        have c2b0 : decide (x8_1 < (l0.length : Int)) = true := decide_eq_true c2
        clear c2
        by_cases c3 : 0 ≤ x8_1
        · rw [if_pos c3] at H
          have c3b0 : decide (0 ≤ x8_1) = true := decide_eq_true c3
          clear c3
          by_cases c4 : x8_1 < (l0.length : Int)
          · rw [if_pos c4] at H
            have c4b0 : decide (x8_1 < (l0.length : Int)) = true := decide_eq_true c4
            clear c4
            by_cases c5 : x3_1.length < 3518437208883
            · rw [if_pos c5] at H
              have LMc5 := Aside0.mk c5
              clear c5
              obtain ⟨y175, hy175⟩ : ∃ y_ : List (S28), y_ = (x3_1 ++ [(⟨(rd_T23 l0 x8_1).f0, (rd_T23 l0 x8_1).f1, (rd_T23 l0 x8_1).f2⟩ : S28)]) := ⟨_, rfl⟩
              replace H : (laws_matchers.l0 k1 y175 l0 (l0.length : Int) (wrap64 (x8_1 + 1))) = some r := by first | (rw [hy175]; with_reducible exact H) | (have H2_ := (Option.bind_some _ _).symm.trans H; rw [hy175]; with_reducible exact H2_) | (have H2_ := (Option.bind_some _ _).symm.trans H; with_reducible exact H2_) | with_reducible exact H | (rw [hy175]; exact H) | exact H
              have Ny175 := Aside0.mk hy175
              clear hy175
              have H' := Aside0.mk H
              clear H
              have p173 : 0 ≤ (x8_1 : Int) := of_decide_eq_true (by first | (with_reducible assumption) | assumption)
              have q173 : x8_1 < (l0.length : Int) := of_decide_eq_true (by first | (with_reducible assumption) | assumption)
              obtain ⟨ad173, e173, hx173_0, hx173_1, hx173_2⟩ := at_T23 HR0.out x8_1 p173 q173
              cases e173
              replace hx173_0 := (HB.out.cell (World.block_lt_of_cell? w _ hx173_0)).trans hx173_0
              replace hx173_1 := (HB.out.cell (World.block_lt_of_cell? w _ hx173_1)).trans hx173_1
              replace hx173_2 := (HB.out.cell (World.block_lt_of_cell? w _ hx173_2)).trans hx173_2
              replace p173 := eq_true p173
              replace q173 := eq_true q173
              go_wp2_with (first | ((with_reducible refine gate_dst (N := 5) rfl ?_); refine box_event ?hg (N := 5) ?hd (cs := #[.int .i64 0, .string (⟨#[]⟩ : ByteArray), .string (⟨#[]⟩ : ByteArray)]) (t := 23) ?hr ?_; (case hd => rfl); (case hg => rfl); (case hr => first | (go_simp; done) | (go_simp; rfl)); intro gb174 hg w6 hbox hb; have n0_ := Aside0.mk (Kd.R_below (by (with_reducible repeat (first | apply Kd.R_alloc | apply Kd.R_drewN | apply Kd.R_drew)); exact HO_3.out) hb); have n1_ := Aside0.mk (below_step (by repeat (first | (with_reducible first | exact HB.out | apply below_alloc | apply pw_below_drewN | apply below_drew1) | exact HB.out)) hb); have n2_ := Aside0.mk (hbox); have n3_ := Aside0.mk ((by rw [hg]; exact (below_size (by repeat (first | (with_reducible first | exact HB.out | apply below_alloc | apply pw_below_drewN | apply below_drew1) | exact HB.out))) : w.heap.size ≤ gb174)); have n4_ := Aside0.mk ((by rw [hg]; exact (below_size (by repeat (first | (with_reducible first | exact HB.out | apply below_alloc | apply pw_below_drewN | apply below_drew1) | exact HB.out))) : w.heap.size ≤ gb174)); clear HO_3; clear HB; have HO_3 := n0_; have HB := n1_; have BK174 := n2_; have GW174 := n3_; have GE174 := n4_; clear n0_ n1_ n2_ n3_ n4_; clear hb hbox hg; have hcz7_0 : w6.cell? ⟨gb174, 0, none⟩ = some (.int .i64 0) := (blk_cell BK174.out 0).trans rfl; have hcz7_1 : w6.cell? ⟨gb174, 1, none⟩ = some (.string (⟨#[]⟩ : ByteArray)) := (blk_cell BK174.out 1).trans rfl; have hcz7_2 : w6.cell? ⟨gb174, 2, none⟩ = some (.string (⟨#[]⟩ : ByteArray)) := (blk_cell BK174.out 2).trans rfl; have hfz7_0 := blk_frozen BK174.out 0; have hfz7_1 := blk_frozen BK174.out 1; have hfz7_2 := blk_frozen BK174.out 2) | ((with_reducible refine gate_builtin (b := .append) (xs := #[.tmp 12, .tmp 14]) rfl ?_); at_builtin; refine Kd.R_append k28 (w0 := w) w.heap.size rfl (.tmp 12) (.tmp 14) 33 28 (.agg #[(.int .i64 0), (.string ⟨#[]⟩), (.string ⟨#[]⟩)]) 40 rfl Tryd.underlying33 info28 rfl (by decide) (by omega) u3 x3_1 (⟨(rd_T23 l0 x8_1).f0, (rd_T23 l0 x8_1).f1, (rd_T23 l0 x8_1).f2⟩ : S28) [.int .i64 ((rd_T23 l0 x8_1).f0), .string ((rd_T23 l0 x8_1).f1), .string ((rd_T23 l0 x8_1).f2)] (fun _ => True) (fun _ => False) rfl (by first | (go_simp; done) | (go_simp; rfl)) ?aP (fun _ hk => hk.elim) ?aF ?aO ?aB ?aS ?aL ?_; (case aP => exact k28_mkM _ _ _ (⟨(rd_T23 l0 x8_1).f0, (rd_T23 l0 x8_1).f1, (rd_T23 l0 x8_1).f2⟩ : S28)); (case aB => exact (by repeat (first | (with_reducible first | exact HB.out | apply below_alloc | apply pw_below_drewN | apply below_drew1 | refine below_set ?_ GE174.out) | exact HB.out))); (case aF => exact (fun _ _ => trivial)); (case aO => exact (by (with_reducible repeat (first | apply Kd.R_alloc | apply Kd.R_drewN | apply Kd.R_drew)); exact Kd.R_mono (Kd.R_far (p := ⟨gb174, 2, none⟩) (Kd.R_far (p := ⟨gb174, 1, none⟩) (Kd.R_far (p := ⟨gb174, 0, none⟩) (Kd.R_types HO_3.out BK174.out (by decide)) (fun _ hk => hk.2) (.int .i64 ((rd_T23 l0 x8_1).f0))) (fun _ hk => hk.2) (.string ((rd_T23 l0 x8_1).f1))) (fun _ hk => hk.2) (.string ((rd_T23 l0 x8_1).f2))) (fun _ hk => trivial))); (case aS => exact (below_size (by repeat (first | (with_reducible first | exact HB.out | apply below_alloc | apply pw_below_drewN | apply below_drew1 | refine below_set ?_ GE174.out) | exact HB.out)))); (case aL => have := LMc5.out; first | omega | exact this | exact Nat.le_of_lt this); intro v176 w8 ho hb hg hat; rw [← Ny175.out] at ho; have n0_ := Aside0.mk (blk_grown (g := gb174) (o := .cells #[.int .i64 ((rd_T23 l0 x8_1).f0), .string ((rd_T23 l0 x8_1).f1), .string ((rd_T23 l0 x8_1).f2)] 23 (0, 0)) (by (with_reducible repeat (first | refine blk_drewN ?_ _ | refine blk_drew ?_ | refine blk_alloc ?_ _)); refine blk_put (cs := #[.int .i64 ((rd_T23 l0 x8_1).f0), .string ((rd_T23 l0 x8_1).f1), .string (⟨#[]⟩ : ByteArray)]) ?_ 2 _ rfl; (with_reducible repeat (first | refine blk_drewN ?_ _ | refine blk_drew ?_ | refine blk_alloc ?_ _)); refine blk_put (cs := #[.int .i64 ((rd_T23 l0 x8_1).f0), .string (⟨#[]⟩ : ByteArray), .string (⟨#[]⟩ : ByteArray)]) ?_ 1 _ rfl; (with_reducible repeat (first | refine blk_drewN ?_ _ | refine blk_drew ?_ | refine blk_alloc ?_ _)); refine blk_put (cs := #[.int .i64 0, .string (⟨#[]⟩ : ByteArray), .string (⟨#[]⟩ : ByteArray)]) ?_ 0 _ rfl; (with_reducible repeat (first | refine blk_drewN ?_ _ | refine blk_drew ?_ | refine blk_alloc ?_ _)); exact BK174.out) hg (Kd.R_ne HO_3.out BK174.out (by decide))); have n1_ := Aside0.mk (hb); have n2_ := Aside0.mk (ho); clear BK174; clear HB; clear HO_3; have BK174 := n0_; have HB := n1_; have HO177 := n2_; clear n0_ n1_ n2_; clear ho hb hg hat))
              go_roundg k1
              case measure => have := HK1.out; omega
              case rel => exact ⟨(y175), (wrap64 (x8_1 + 1)), (by first | rfl | (simp; done) | (simp [*]; done)), H', ⟨by have := HK1.out; omega⟩, ⟨by (with_reducible repeat (first | apply Kd.R_alloc | apply Kd.R_drewN | apply Kd.R_drew)); exact HO177.out⟩, ⟨by repeat (first | (with_reducible first | exact HB.out | apply below_alloc | apply pw_below_drewN | apply below_drew1 | refine below_set ?_ GE174.out) | exact HB.out)⟩⟩
            · rw [if_neg c5] at H
              exact absurd H (by simp)
          · rw [if_neg c4] at H
            exact absurd H (by simp)
        · rw [if_neg c3] at H
          exact absurd H (by simp)
      · rw [if_neg c2] at H
        have c2b0 : decide (x8_1 < (l0.length : Int)) = false := decide_eq_false c2
        clear c2
        obtain rfl := Option.some.inj H
        go_wp2
        go_ret
        exact ⟨_, by first | rfl | (simp [errW_none, errW_some] <;> rfl) | (simp [*, errW_none, errW_some] <;> rfl), by (with_reducible repeat (first | apply Kd.R_alloc | apply Kd.R_drewN | apply Kd.R_drew)); exact HO_3.out, by repeat (first | (with_reducible first | exact HB.out | apply below_alloc | apply pw_below_drewN | apply below_drew1) | exact HB.out)⟩

end Go.Proofs.YtpdfokdhnalfaaaDoor.Q
