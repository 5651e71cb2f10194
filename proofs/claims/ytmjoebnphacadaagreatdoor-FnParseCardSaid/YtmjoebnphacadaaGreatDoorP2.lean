/- Joined by wip/tools/pack.py: what the claim uses of Mb. No conditions beyond each theorem's own. -/
import Derived.Test.YtmjoebnphacadaaGreatDoorP1
import Derived.Lib.Bytealg
import Derived.OwnWalk
import Derived.Laws.DeepStrings4
/- The parser, joined by wip/tools/merge.py: UqU UqA UqB UqC UqD UqE UqF UqG UqH Acd St Su Sv So. No conditions beyond each theorem's own. -/
/- strconv.unhex, as wip/tools/mkprint.py prints it. -/
namespace Go.Proofs.YtmjoebnphacadaaGreatDoor.Q
open Go.RowKit Go.Proofs.YtmjoebnphacadaaGreatDoorW.PrintWords Go.Proofs.YtmjoebnphacadaaGreatDoorW.PrintLast Go.Proofs.YtmjoebnphacadaaGreatDoorW.PrintMore
attribute [local go_sem] max2_int min2_int max_two min_two max_three min_three max_four min_four   -- for this text's walks alone
set_option linter.unusedVariables false
set_option linter.unusedSimpArgs false
/-! ### strconv_unhex: function -/
mutual
def strconv_unhex.j0 : Nat → Int → Bool → Int → Bool → Option (Int × Bool)
  | 0, _, _, _, _ => none
  | k + 1, x2, x3, x4, x7 => if x7 = true then (some (wrap32 (x4 - 48), true)) else (if 97 ≤ x4 then (strconv_unhex.j1 k x2 x3 x4 (decide (x4 ≤ 102))) else (strconv_unhex.j1 k x2 x3 x4 false))
def strconv_unhex.j1 : Nat → Int → Bool → Int → Bool → Option (Int × Bool)
  | 0, _, _, _, _ => none
  | k + 1, x2, x3, x4, x16 => if x16 = true then (some (wrap32 ((wrap32 (x4 - 97)) + 10), true)) else (if 65 ≤ x4 then (if x4 ≤ 70 then (some (wrap32 ((wrap32 (x4 - 65)) + 10), true)) else (some (x2, x3))) else (some (x2, x3)))
end
def strconv_unhex.f (k : Nat) (a0 : Int) : Option (Int × Bool) := if 48 ≤ (wrap32 (a0)) then (strconv_unhex.j0 k 0 false (wrap32 (a0)) (decide ((wrap32 (a0)) ≤ 57))) else (strconv_unhex.j0 k 0 false (wrap32 (a0)) false)
theorem strconv_unhex.mono_l : ∀ k, (∀ y0 y1 y2 y3, LeO (strconv_unhex.j0 k y0 y1 y2 y3) (strconv_unhex.j0 (k + 1) y0 y1 y2 y3)) ∧ (∀ y0 y1 y2 y3, LeO (strconv_unhex.j1 k y0 y1 y2 y3) (strconv_unhex.j1 (k + 1) y0 y1 y2 y3))
  | 0 => ⟨fun _ _ _ _ r h => by simp [strconv_unhex.j0] at h, fun _ _ _ _ r h => by simp [strconv_unhex.j1] at h⟩
  | k + 1 => by
    obtain ⟨ih0, ih1⟩ := strconv_unhex.mono_l k
    refine ⟨?_, ?_⟩
    · intro y0 y1 y2 y3
      unfold strconv_unhex.j0
      repeat' first
      | (with_reducible exact ih0 _ _ _ _)
      | (with_reducible exact ih1 _ _ _ _)
      | (with_reducible exact LeO.refl _)
      | (with_reducible exact LeO.none _)
      | (with_reducible refine LeO.ite ?_ ?_)
      | (with_reducible refine LeO.bind ?_ (fun _ => ?_))
      | exact ih0 _ _ _ _
      | exact ih1 _ _ _ _
      | exact LeO.none _
      | refine LeO.ite ?_ ?_
      | refine LeO.bind ?_ (fun _ => ?_)
    · intro y0 y1 y2 y3
      unfold strconv_unhex.j1
      repeat' first
      | (with_reducible exact ih0 _ _ _ _)
      | (with_reducible exact ih1 _ _ _ _)
      | (with_reducible exact LeO.refl _)
      | (with_reducible exact LeO.none _)
      | (with_reducible refine LeO.ite ?_ ?_)
      | (with_reducible refine LeO.bind ?_ (fun _ => ?_))
      | exact ih0 _ _ _ _
      | exact ih1 _ _ _ _
      | exact LeO.none _
      | refine LeO.ite ?_ ?_
      | refine LeO.bind ?_ (fun _ => ?_)
theorem strconv_unhex.mono : ∀ a0 k, LeO (strconv_unhex.f k a0) (strconv_unhex.f (k + 1) a0) := by
  intro a0 k
  obtain ⟨ih0, ih1⟩ := strconv_unhex.mono_l k
  unfold strconv_unhex.f
  repeat' first
      | (with_reducible exact ih0 _ _ _ _)
      | (with_reducible exact ih1 _ _ _ _)
      | (with_reducible exact LeO.refl _)
      | (with_reducible exact LeO.none _)
      | (with_reducible refine LeO.ite ?_ ?_)
      | (with_reducible refine LeO.bind ?_ (fun _ => ?_))
      | exact ih0 _ _ _ _
      | exact ih1 _ _ _ _
      | exact LeO.none _
      | refine LeO.ite ?_ ?_
      | refine LeO.bind ?_ (fun _ => ?_)
set_option maxHeartbeats 8000000 in
set_option maxRecDepth 100000 in
theorem strconv_unhex.calls (k : Nat) (a0 : Int) (r1 : Int) (r2 : Bool) (w : World) (h : strconv_unhex.f k a0 = some (r1, r2)) :
    Calls Tryz.prog 80 #[.int .u8 a0] w fun e w' => e = .returned (.tuple #[.int .i32 r1, .bool r2]) ∧ Drawn0 w w' := by
  have H : (if 48 ≤ (wrap32 (a0)) then (strconv_unhex.j0 k 0 false (wrap32 (a0)) (decide ((wrap32 (a0)) ≤ 57))) else (strconv_unhex.j0 k 0 false (wrap32 (a0)) false)) = some (r1, r2) := h
  clear h
  have HC2 := Aside0.mk H
  clear H
  go_enter Tryz.func80, Tryz.ntmps80
  go_upto_region 2 with (fail)
  go_cut [7] (fun v7 wc => ∃ (kq : Nat) (x7_1 : Bool), v7 = .bool x7_1 ∧ Aside0 (strconv_unhex.j0 kq 0 false (wrap32 (a0)) x7_1 = some (r1, r2)) ∧ Aside0 (kq ≤ k) ∧ Drawn0 w wc)
  case first =>
    have H := HC2.out
    clear HC2
    by_cases c3 : 48 ≤ (wrap32 (a0))
    · rw [if_pos c3] at H
      have c3b0 : decide (48 ≤ (wrap32 (a0))) = true := decide_eq_true c3
      clear c3
      (first | rw [c3b0] | (simp only [i64_w, i32_w]; rw [c3b0]) | skip)
      have H' := Aside0.mk H
      clear H
      go_wp2
      go_meet
      case rel => exact ⟨_, (decide ((wrap32 (a0)) ≤ 57)), (by first | rfl | (simp; done) | (simp [*]; done)), H', ⟨by first | omega | exact Nat.le_refl _⟩, by repeat (first | exact Drawn0.refl _ | apply Drawn0.step)⟩
    · rw [if_neg c3] at H
      have c3b0 : decide (48 ≤ (wrap32 (a0))) = false := decide_eq_false c3
      clear c3
      (first | rw [c3b0] | (simp only [i64_w, i32_w]; rw [c3b0]) | skip)
      have H' := Aside0.mk H
      clear H
      go_wp2
      go_meet
      case rel => exact ⟨_, (false), (by first | rfl | (simp; done) | (simp [*]; done)), H', ⟨by first | omega | exact Nat.le_refl _⟩, by repeat (first | exact Drawn0.refl _ | apply Drawn0.step)⟩
  case rest =>
    clear HC2
    try clear p2
    try clear c3
    try clear c3b0
    try clear p3
    obtain ⟨kq, x7_1, rfl, HA, HJ1, ⟨mc1, rfl⟩⟩ := hcut
    cases kq with
    | zero => exact absurd HA.out (by simp [strconv_unhex.j0])
    | succ kj1 =>
      have H := HA.out
      clear HA
      simp only [strconv_unhex.j0] at H
      by_cases c4 : x7_1 = true
      · subst c4
        have H1 : (some (wrap32 ((wrap32 (a0)) - 48), true)) = some (r1, r2) := by rw [if_pos rfl] at H; exact H
        clear H
        have H := H1
        clear H1
        simp only [Option.some.injEq, Prod.mk.injEq] at H
        obtain ⟨rfl, rfl⟩ := H
        go_wp2
        go_ret2
        exact ⟨by first | rfl | (simp; done) | (simp [*]; done), by repeat (first | exact Drawn0.refl _ | apply Drawn0.step)⟩
      · replace c4 := Bool.eq_false_iff.mpr c4
        subst c4
        have H1 : (if 97 ≤ (wrap32 (a0)) then (strconv_unhex.j1 kj1 0 false (wrap32 (a0)) (decide ((wrap32 (a0)) ≤ 102))) else (strconv_unhex.j1 kj1 0 false (wrap32 (a0)) false)) = some (r1, r2) := by rw [if_neg (show ¬ (false = true) by decide)] at H; exact H
        clear H
        have H := H1
        clear H1
        have HC5 := Aside0.mk H
        clear H
        go_upto_region 4 with (fail)
        go_cut [16] (fun v16 wc => ∃ (kq : Nat) (x16_4 : Bool), v16 = .bool x16_4 ∧ Aside0 (strconv_unhex.j1 kq 0 false (wrap32 (a0)) x16_4 = some (r1, r2)) ∧ Aside0 (kq ≤ kj1) ∧ Drawn0 w wc)
        case first =>
          have H := HC5.out
          clear HC5
          by_cases c6 : 97 ≤ (wrap32 (a0))
          · rw [if_pos c6] at H
            have c6b0 : decide (97 ≤ (wrap32 (a0))) = true := decide_eq_true c6
            clear c6
            (first | rw [c6b0] | (simp only [i64_w, i32_w]; rw [c6b0]) | skip)
            have H' := Aside0.mk H
            clear H
            go_wp2
            go_meet
            case rel => exact ⟨_, (decide ((wrap32 (a0)) ≤ 102)), (by first | rfl | (simp; done) | (simp [*]; done)), H', ⟨by have := HJ1.out; first | omega | exact Nat.le_refl _⟩, by repeat (first | exact Drawn0.refl _ | apply Drawn0.step)⟩
          · rw [if_neg c6] at H
            have c6b0 : decide (97 ≤ (wrap32 (a0))) = false := decide_eq_false c6
            clear c6
            (first | rw [c6b0] | (simp only [i64_w, i32_w]; rw [c6b0]) | skip)
            have H' := Aside0.mk H
            clear H
            go_wp2
            go_meet
            case rel => exact ⟨_, (false), (by first | rfl | (simp; done) | (simp [*]; done)), H', ⟨by have := HJ1.out; first | omega | exact Nat.le_refl _⟩, by repeat (first | exact Drawn0.refl _ | apply Drawn0.step)⟩
        case rest =>
          clear HC5
          try clear c1
          try clear p2
          try clear c3
          try clear c3b0
          try clear p3
          try clear c4
          try clear c6
          try clear c6b0
          try clear p2
          try clear p3
          obtain ⟨kq, x16_4, rfl, HA, HJ4, ⟨mc4, rfl⟩⟩ := hcut
          cases kq with
          | zero => exact absurd HA.out (by simp [strconv_unhex.j1])
          | succ kj4 =>
            have H := HA.out
            clear HA
            simp only [strconv_unhex.j1] at H
            by_cases c7 : x16_4 = true
            · subst c7
              have H1 : (some (wrap32 ((wrap32 ((wrap32 (a0)) - 97)) + 10), true)) = some (r1, r2) := by rw [if_pos rfl] at H; exact H
              clear H
              have H := H1
              clear H1
              simp only [Option.some.injEq, Prod.mk.injEq] at H
              obtain ⟨rfl, rfl⟩ := H
              go_wp2
              go_ret2
              exact ⟨by first | rfl | (simp; done) | (simp [*]; done), by repeat (first | exact Drawn0.refl _ | apply Drawn0.step)⟩
            · replace c7 := Bool.eq_false_iff.mpr c7
              subst c7
              have H1 : (if 65 ≤ (wrap32 (a0)) then (if (wrap32 (a0)) ≤ 70 then (some (wrap32 ((wrap32 ((wrap32 (a0)) - 65)) + 10), true)) else (some (0, false))) else (some (0, false))) = some (r1, r2) := by rw [if_neg (show ¬ (false = true) by decide)] at H; exact H
              clear H
              have H := H1
              clear H1
              by_cases c8 : 65 ≤ (wrap32 (a0))
              · rw [if_pos c8] at H
                have c8b0 : decide (65 ≤ (wrap32 (a0))) = true := decide_eq_true c8
                clear c8
                by_cases c9 : (wrap32 (a0)) ≤ 70
                · rw [if_pos c9] at H
                  have c9b0 : decide ((wrap32 (a0)) ≤ 70) = true := decide_eq_true c9
                  clear c9
                  simp only [Option.some.injEq, Prod.mk.injEq] at H
                  obtain ⟨rfl, rfl⟩ := H
                  go_wp2
                  go_ret2
                  exact ⟨by first | rfl | (simp; done) | (simp [*]; done), by repeat (first | exact Drawn0.refl _ | apply Drawn0.step)⟩
                · rw [if_neg c9] at H
                  have c9b0 : decide ((wrap32 (a0)) ≤ 70) = false := decide_eq_false c9
                  clear c9
                  simp only [Option.some.injEq, Prod.mk.injEq] at H
                  obtain ⟨rfl, rfl⟩ := H
                  go_wp2
                  go_ret2
                  exact ⟨by first | rfl | (simp; done) | (simp [*]; done), by repeat (first | exact Drawn0.refl _ | apply Drawn0.step)⟩
              · rw [if_neg c8] at H
                have c8b0 : decide (65 ≤ (wrap32 (a0))) = false := decide_eq_false c8
                clear c8
                simp only [Option.some.injEq, Prod.mk.injEq] at H
                obtain ⟨rfl, rfl⟩ := H
                go_wp2
                go_ret2
                exact ⟨by first | rfl | (simp; done) | (simp [*]; done), by repeat (first | exact Drawn0.refl _ | apply Drawn0.step)⟩
end Go.Proofs.YtmjoebnphacadaaGreatDoor.Q
/- strconv: index, contains, UnquoteChar at '"'. -/
namespace Go.Proofs.YtmjoebnphacadaaGreatDoor.Lex
open Go.RowKit Go.Lib Go.Proofs.YtmjoebnphacadaaGreatDoorW.PrintWords Go.Proofs.YtmjoebnphacadaaGreatDoorW.PrintLast Go.Proofs.YtmjoebnphacadaaGreatDoor.Q
set_option linter.unusedVariables false
set_option linter.unusedSimpArgs false
/-- The premise of strconv's walks. -/
structure UX (w : World) : Prop where
  t : LT w
  s : ∃ b, w.cell? ⟨9, 0, none⟩ = some (errV b)
theorem LT.below' {w0 w : World} (h : LT w0) (hb : Below w0.heap.size w0 w) : LT w := h.below hb
theorem UX.below {w0 w : World} (h : UX w0) (hb : Below w0.heap.size w0 w) : UX w := by
  obtain ⟨t, b, hs⟩ := h
  exact ⟨t.below' hb, b, (hb.cell (World.block_lt_of_cell? w0 _ hs)).trans hs⟩
theorem Px.ux {w0 w : World} {B : Nat} {ea : Addr} (h : Px w0 w B ea) : UX w := ⟨h.t.t.below' h.b, h.err (by decide)⟩
set_option maxRecDepth 100000 in
theorem sindex_calls (t : ByteArray) (c : Nat) (w : World) :
    Calls Tryz.prog 75 #[.string t, .int .u8 (c : Int)] w fun x w' => x = .returned (.int .i64 (Lib.indexByte t.data.toList (UInt8.ofNat c))) ∧ w' = w := by
  go_enter Tryz.func75, Tryz.ntmps75
  go_wp2
  rw [run_callFunc_extern Tryz.func79 (by kernel_rfl) (by kernel_rfl) (by kernel_rfl) (e := Extern.BytealgIndexByte.indexByte) (by kernel_rfl), Lib.run_indexByteString]
  simp only [Result.andThen]
  rw [Oper.upon_value]
  go_wp2
  go_ret
  exact ⟨rfl, rfl⟩
theorem indexByte_neg (l : List UInt8) (c : UInt8) : (Lib.indexByte l c != -1) = l.contains c := by
  induction l with
  | nil => rfl
  | cons b l ih =>
    have hg := Lib.indexByte_ge l c
    unfold Lib.indexByte
    by_cases hb : (b == c) = true
    · rw [if_pos hb]
      have : b = c := by simpa using hb
      subst this
      simp
    · rw [if_neg hb]
      have hne : ¬ c = b := fun h => hb (by rw [h]; exact beq_self_eq_true b)
      by_cases hi : (Lib.indexByte l c == -1) = true
      · rw [if_pos hi]
        have : Lib.indexByte l c = -1 := by simpa using hi
        rw [this] at ih
        have h2 : l.contains c = false := by rw [← ih]; rfl
        rw [List.contains_cons, h2]
        simp [hne]
      · rw [if_neg hi]
        have hi2 : ¬ Lib.indexByte l c = -1 := by simpa using hi
        have h2 : l.contains c = true := by rw [← ih]; simpa using hi2
        rw [List.contains_cons, h2, Bool.or_true]
        simp only [bne_iff_ne, ne_eq]
        omega
theorem scontains_calls (t : ByteArray) (c : Nat) (w : World) :
    Calls Tryz.prog 76 #[.string t, .int .u8 (c : Int)] w fun x w' => x = .returned (.bool (t.data.toList.contains (UInt8.ofNat c))) ∧ w' = w := by
  go_enter Tryz.func76, Tryz.ntmps76
  go_wp2_with fail
  refine (sindex_calls t c w).mono ?_
  rintro x w1 ⟨rfl, rfl⟩
  go_wp2
  go_ret
  exact ⟨by rw [← indexByte_neg]; rfl, rfl⟩
end Go.Proofs.YtmjoebnphacadaaGreatDoor.Lex
/- strconv.UnquoteChar at '"' (printed by wip/tools/gen_uq.py). -/
namespace Go.Proofs.YtmjoebnphacadaaGreatDoor.Lex
open Go.RowKit Go.Lib Go.Proofs.YtmjoebnphacadaaGreatDoorW.PrintWords Go.Proofs.YtmjoebnphacadaaGreatDoorW.PrintLast Go.Proofs.YtmjoebnphacadaaGreatDoor.Q
set_option linter.unusedVariables false
set_option linter.unusedSimpArgs false
theorem hx_is (c : Int) : (strconv_unhex.f 8 c).isSome = true := by
  unfold strconv_unhex.f
  simp only [strconv_unhex.j0, strconv_unhex.j1]
  repeat' split
  all_goals rfl
theorem hx_ex (c : Nat) : ∃ r, strconv_unhex.f 8 (c : Int) = some r := Option.isSome_iff_exists.1 (hx_is (c : Int))
/-- A digit's value, and whether it is one. -/
noncomputable def hx (c : Nat) : Int × Bool := (hx_ex c).choose
theorem hx_some (c : Nat) : strconv_unhex.f 8 (c : Int) = some (hx c) := (hx_ex c).choose_spec
theorem unhex_calls (c : Nat) (w : World) : Calls Tryz.prog 80 #[.int .u8 (c : Int)] w fun x w' => x = .returned (.tuple #[.int .i32 (hx c).1, .bool (hx c).2]) ∧ Drawn0 w w' :=
  strconv_unhex.calls 8 (c : Int) (hx c).1 (hx c).2 w (hx_some c)
/-- What it returns of a text: the rune, whether it is one of many bytes, what is left. -/
structure UC where
  v : Int
  m : Bool
  r : ByteArray
def UPost (w : World) (R : Option UC) (x : Ending) (w' : World) : Prop := Below w.heap.size w w' ∧ match R with
  | some u => x = .returned (.tuple #[.int .i32 u.v, .bool u.m, .string u.r, .nilIface])
  | none => ∃ v m r b, x = .returned (.tuple #[.int .i32 v, .bool m, .string r, errV b])
/-- What a byte is not, and how it stands to another one. -/
theorem ne_b {n : Nat} (k : Nat) (h : n ≠ k) : ((n : Int) == (k : Int)) = false := by rw [beq_eq_false_iff_ne]; omega
theorem ne_c {n : Nat} (k : Nat) (h : n ≠ k) : ((n : Int) != (k : Int)) = true := by rw [bne, ne_b k h]; rfl
theorem results_tmp4 {fn : Func} {t u v x : Tmp} (h : fn.results = #[.tmp t, .tmp u, .tmp v, .tmp x]) (tmps : Array Value) (P : Program) (w : World) :
    (results fn tmps).run P w = .ok (.tuple #[tmps.getD t undef, tmps.getD u undef, tmps.getD v undef, tmps.getD x undef]) w := by
  simp [results, h]
section
variable {t : ByteArray} {w : World} {n0 n1 : Nat}
set_option maxHeartbeats 3200000 in
set_option maxRecDepth 100000 in
theorem uqc_ascii (hs : t.size ≤ 2147483647) (h0 : 0 < t.size) (e0 : (t[0]'h0).toNat = n0) (hq : n0 ≠ 34) (hl : n0 < 128) (hb : n0 ≠ 92) :
    Calls Tryz.prog 77 #[.string t, .int .u8 34] w (UPost w (some ⟨n0, false, t.extract 1 t.size⟩)) := by
  have q1 : ((n0 : Int) == 34) = false := ne_b 34 hq
  have q2 : decide ((n0 : Int) ≥ 128) = false := decide_eq_false (by omega)
  have q3 : ((n0 : Int) != 92) = true := ne_c 92 hb
  have q4 : decide ((128 : Int) ≤ n0) = false := q2
  have q5 : ((t.size : Int) == 0) = false := by rw [beq_eq_false_iff_ne]; omega
  go_enter Tryz.func77, Tryz.ntmps77
  go_wp2
  go_quiet (fail)
  go_wp2
  ((try simp only [Exit.inBlock, Exit.then]); refine bodyPost_ret (results_tmp4 rfl _ _ _) rfl ?_)
  exact ⟨by (repeat (first | exact Below.refl _ _ | apply pw_below_drewN | apply below_drew1)), rfl⟩
set_option maxHeartbeats 3200000 in
set_option maxRecDepth 100000 in
theorem uqc_many (hT : LT w) (hs : t.size ≤ 2147483647) (h0 : 0 < t.size) (e0 : (t[0]'h0).toNat = n0) (hl : 128 ≤ n0) :
    Calls Tryz.prog 77 #[.string t, .int .u8 34] w (UPost w (some ⟨(rn t 0 : Nat), true, t.extract (wdt t 0) t.size⟩)) := by
  have D := Tryz.utf8_DecodeRuneInString t w hT.1
  have q1 : ((n0 : Int) == 34) = false := ne_b 34 (by omega)
  have q2 : decide ((n0 : Int) ≥ 128) = true := decide_eq_true (by omega)
  have q4 : decide ((128 : Int) ≤ n0) = true := q2
  have q5 : ((t.size : Int) == 0) = false := by rw [beq_eq_false_iff_ne]; omega
  have hw : (Utf8.decode t 0).2 ≤ t.size := by have h := adv_le t 0 h0; rw [Nat.zero_add] at h; exact h
  have hd : Lib.decodeGo t = Utf8.decode t 0 := by unfold Lib.decodeGo; rw [if_neg (by omega)]
  rw [hd] at D
  replace D := Aside0.mk D
  clear hd

  go_enter Tryz.func77, Tryz.ntmps77
  go_wp2_with fail
  refine D.out.mono ?_
  clear D
  rintro x w1 ⟨rfl, hb⟩
  have HB := Aside0.mk hb
  clear hb
  go_wp2
  go_quiet (fail)
  go_wp2
  ((try simp only [Exit.inBlock, Exit.then]); refine bodyPost_ret (results_tmp4 rfl _ _ _) rfl ?_)
  exact ⟨by repeat (first | exact HB.out | apply pw_below_drewN | apply below_drew1), rfl⟩
set_option maxHeartbeats 3200000 in
set_option maxRecDepth 100000 in
theorem uqc_e97 (hs : t.size ≤ 2147483647) (h1 : 1 < t.size) (e0 : (t[0]'(Nat.lt_of_succ_lt h1)).toNat = 92) (e1 : (t[1]'h1).toNat = 97) :
    Calls Tryz.prog 77 #[.string t, .int .u8 34] w (UPost w (some ⟨7, false, t.extract 2 t.size⟩)) := by
  have q5 : ((t.size : Int) == 0) = false := by rw [beq_eq_false_iff_ne]; omega
  go_enter Tryz.func77, Tryz.ntmps77
  go_wp2
  ((try simp only [Exit.inBlock, Exit.then]); refine bodyPost_ret (results_tmp4 rfl _ _ _) rfl ?_)
  exact ⟨by (repeat (first | exact Below.refl _ _ | apply pw_below_drewN | apply below_drew1)), rfl⟩
set_option maxHeartbeats 3200000 in
set_option maxRecDepth 100000 in
theorem uqc_e98 (hs : t.size ≤ 2147483647) (h1 : 1 < t.size) (e0 : (t[0]'(Nat.lt_of_succ_lt h1)).toNat = 92) (e1 : (t[1]'h1).toNat = 98) :
    Calls Tryz.prog 77 #[.string t, .int .u8 34] w (UPost w (some ⟨8, false, t.extract 2 t.size⟩)) := by
  have q5 : ((t.size : Int) == 0) = false := by rw [beq_eq_false_iff_ne]; omega
  go_enter Tryz.func77, Tryz.ntmps77
  go_wp2
  ((try simp only [Exit.inBlock, Exit.then]); refine bodyPost_ret (results_tmp4 rfl _ _ _) rfl ?_)
  exact ⟨by (repeat (first | exact Below.refl _ _ | apply pw_below_drewN | apply below_drew1)), rfl⟩
set_option maxHeartbeats 3200000 in
set_option maxRecDepth 100000 in
theorem uqc_e102 (hs : t.size ≤ 2147483647) (h1 : 1 < t.size) (e0 : (t[0]'(Nat.lt_of_succ_lt h1)).toNat = 92) (e1 : (t[1]'h1).toNat = 102) :
    Calls Tryz.prog 77 #[.string t, .int .u8 34] w (UPost w (some ⟨12, false, t.extract 2 t.size⟩)) := by
  have q5 : ((t.size : Int) == 0) = false := by rw [beq_eq_false_iff_ne]; omega
  go_enter Tryz.func77, Tryz.ntmps77
  go_wp2
  ((try simp only [Exit.inBlock, Exit.then]); refine bodyPost_ret (results_tmp4 rfl _ _ _) rfl ?_)
  exact ⟨by (repeat (first | exact Below.refl _ _ | apply pw_below_drewN | apply below_drew1)), rfl⟩
set_option maxHeartbeats 3200000 in
set_option maxRecDepth 100000 in
theorem uqc_e110 (hs : t.size ≤ 2147483647) (h1 : 1 < t.size) (e0 : (t[0]'(Nat.lt_of_succ_lt h1)).toNat = 92) (e1 : (t[1]'h1).toNat = 110) :
    Calls Tryz.prog 77 #[.string t, .int .u8 34] w (UPost w (some ⟨10, false, t.extract 2 t.size⟩)) := by
  have q5 : ((t.size : Int) == 0) = false := by rw [beq_eq_false_iff_ne]; omega
  go_enter Tryz.func77, Tryz.ntmps77
  go_wp2
  ((try simp only [Exit.inBlock, Exit.then]); refine bodyPost_ret (results_tmp4 rfl _ _ _) rfl ?_)
  exact ⟨by (repeat (first | exact Below.refl _ _ | apply pw_below_drewN | apply below_drew1)), rfl⟩
set_option maxHeartbeats 3200000 in
set_option maxRecDepth 100000 in
theorem uqc_e114 (hs : t.size ≤ 2147483647) (h1 : 1 < t.size) (e0 : (t[0]'(Nat.lt_of_succ_lt h1)).toNat = 92) (e1 : (t[1]'h1).toNat = 114) :
    Calls Tryz.prog 77 #[.string t, .int .u8 34] w (UPost w (some ⟨13, false, t.extract 2 t.size⟩)) := by
  have q5 : ((t.size : Int) == 0) = false := by rw [beq_eq_false_iff_ne]; omega
  go_enter Tryz.func77, Tryz.ntmps77
  go_wp2
  ((try simp only [Exit.inBlock, Exit.then]); refine bodyPost_ret (results_tmp4 rfl _ _ _) rfl ?_)
  exact ⟨by (repeat (first | exact Below.refl _ _ | apply pw_below_drewN | apply below_drew1)), rfl⟩
set_option maxHeartbeats 3200000 in
set_option maxRecDepth 100000 in
theorem uqc_e116 (hs : t.size ≤ 2147483647) (h1 : 1 < t.size) (e0 : (t[0]'(Nat.lt_of_succ_lt h1)).toNat = 92) (e1 : (t[1]'h1).toNat = 116) :
    Calls Tryz.prog 77 #[.string t, .int .u8 34] w (UPost w (some ⟨9, false, t.extract 2 t.size⟩)) := by
  have q5 : ((t.size : Int) == 0) = false := by rw [beq_eq_false_iff_ne]; omega
  go_enter Tryz.func77, Tryz.ntmps77
  go_wp2
  ((try simp only [Exit.inBlock, Exit.then]); refine bodyPost_ret (results_tmp4 rfl _ _ _) rfl ?_)
  exact ⟨by (repeat (first | exact Below.refl _ _ | apply pw_below_drewN | apply below_drew1)), rfl⟩
set_option maxHeartbeats 3200000 in
set_option maxRecDepth 100000 in
theorem uqc_e118 (hs : t.size ≤ 2147483647) (h1 : 1 < t.size) (e0 : (t[0]'(Nat.lt_of_succ_lt h1)).toNat = 92) (e1 : (t[1]'h1).toNat = 118) :
    Calls Tryz.prog 77 #[.string t, .int .u8 34] w (UPost w (some ⟨11, false, t.extract 2 t.size⟩)) := by
  have q5 : ((t.size : Int) == 0) = false := by rw [beq_eq_false_iff_ne]; omega
  go_enter Tryz.func77, Tryz.ntmps77
  go_wp2
  ((try simp only [Exit.inBlock, Exit.then]); refine bodyPost_ret (results_tmp4 rfl _ _ _) rfl ?_)
  exact ⟨by (repeat (first | exact Below.refl _ _ | apply pw_below_drewN | apply below_drew1)), rfl⟩
set_option maxHeartbeats 3200000 in
set_option maxRecDepth 100000 in
theorem uqc_e92 (hs : t.size ≤ 2147483647) (h1 : 1 < t.size) (e0 : (t[0]'(Nat.lt_of_succ_lt h1)).toNat = 92) (e1 : (t[1]'h1).toNat = 92) :
    Calls Tryz.prog 77 #[.string t, .int .u8 34] w (UPost w (some ⟨92, false, t.extract 2 t.size⟩)) := by
  have q5 : ((t.size : Int) == 0) = false := by rw [beq_eq_false_iff_ne]; omega
  go_enter Tryz.func77, Tryz.ntmps77
  go_wp2
  ((try simp only [Exit.inBlock, Exit.then]); refine bodyPost_ret (results_tmp4 rfl _ _ _) rfl ?_)
  exact ⟨by (repeat (first | exact Below.refl _ _ | apply pw_below_drewN | apply below_drew1)), rfl⟩
set_option maxHeartbeats 3200000 in
set_option maxRecDepth 100000 in
theorem uqc_e34 (hs : t.size ≤ 2147483647) (h1 : 1 < t.size) (e0 : (t[0]'(Nat.lt_of_succ_lt h1)).toNat = 92) (e1 : (t[1]'h1).toNat = 34) :
    Calls Tryz.prog 77 #[.string t, .int .u8 34] w (UPost w (some ⟨34, false, t.extract 2 t.size⟩)) := by
  have q5 : ((t.size : Int) == 0) = false := by rw [beq_eq_false_iff_ne]; omega
  go_enter Tryz.func77, Tryz.ntmps77
  go_wp2
  ((try simp only [Exit.inBlock, Exit.then]); refine bodyPost_ret (results_tmp4 rfl _ _ _) rfl ?_)
  exact ⟨by (repeat (first | exact Below.refl _ _ | apply pw_below_drewN | apply below_drew1)), rfl⟩
set_option maxHeartbeats 3200000 in
set_option maxRecDepth 100000 in
theorem uqc_short (hX : UX w) (hs : t.size = 1) (e0 : (t[0]'(by omega)).toNat = 92) :
    Calls Tryz.prog 77 #[.string t, .int .u8 34] w (UPost w (none)) := by
  obtain ⟨ez, hz⟩ := hX.s
  unfold errV at hz
  go_enter Tryz.func77, Tryz.ntmps77
  go_wp2
  ((try simp only [Exit.inBlock, Exit.then]); refine bodyPost_ret (results_tmp4 rfl _ _ _) rfl ?_)
  exact ⟨by (repeat (first | exact Below.refl _ _ | apply pw_below_drewN | apply below_drew1)), _, _, _, _, rfl⟩
set_option maxHeartbeats 3200000 in
set_option maxRecDepth 100000 in
theorem uqc_other (hX : UX w) (hs : t.size ≤ 2147483647) (h1 : 1 < t.size) (e0 : (t[0]'(Nat.lt_of_succ_lt h1)).toNat = 92) (e1 : (t[1]'h1).toNat = n1) (hn : n1 ∉ ([97, 98, 102, 110, 114, 116, 118, 92, 34, 120, 117, 85, 48, 49, 50, 51, 52, 53, 54, 55] : List Nat)) :
    Calls Tryz.prog 77 #[.string t, .int .u8 34] w (UPost w (none)) := by
  obtain ⟨ez, hz⟩ := hX.s
  unfold errV at hz
  have q5 : ((t.size : Int) == 0) = false := by rw [beq_eq_false_iff_ne]; omega
  have n97 : ((n1 : Int) == 97) = false := ne_b 97 (by rintro rfl; exact hn (by decide))
  have n98 : ((n1 : Int) == 98) = false := ne_b 98 (by rintro rfl; exact hn (by decide))
  have n102 : ((n1 : Int) == 102) = false := ne_b 102 (by rintro rfl; exact hn (by decide))
  have n110 : ((n1 : Int) == 110) = false := ne_b 110 (by rintro rfl; exact hn (by decide))
  have n114 : ((n1 : Int) == 114) = false := ne_b 114 (by rintro rfl; exact hn (by decide))
  have n116 : ((n1 : Int) == 116) = false := ne_b 116 (by rintro rfl; exact hn (by decide))
  have n118 : ((n1 : Int) == 118) = false := ne_b 118 (by rintro rfl; exact hn (by decide))
  have n92 : ((n1 : Int) == 92) = false := ne_b 92 (by rintro rfl; exact hn (by decide))
  have n34 : ((n1 : Int) == 34) = false := ne_b 34 (by rintro rfl; exact hn (by decide))
  have n120 : ((n1 : Int) == 120) = false := ne_b 120 (by rintro rfl; exact hn (by decide))
  have n117 : ((n1 : Int) == 117) = false := ne_b 117 (by rintro rfl; exact hn (by decide))
  have n85 : ((n1 : Int) == 85) = false := ne_b 85 (by rintro rfl; exact hn (by decide))
  have n48 : ((n1 : Int) == 48) = false := ne_b 48 (by rintro rfl; exact hn (by decide))
  have n49 : ((n1 : Int) == 49) = false := ne_b 49 (by rintro rfl; exact hn (by decide))
  have n50 : ((n1 : Int) == 50) = false := ne_b 50 (by rintro rfl; exact hn (by decide))
  have n51 : ((n1 : Int) == 51) = false := ne_b 51 (by rintro rfl; exact hn (by decide))
  have n52 : ((n1 : Int) == 52) = false := ne_b 52 (by rintro rfl; exact hn (by decide))
  have n53 : ((n1 : Int) == 53) = false := ne_b 53 (by rintro rfl; exact hn (by decide))
  have n54 : ((n1 : Int) == 54) = false := ne_b 54 (by rintro rfl; exact hn (by decide))
  have n55 : ((n1 : Int) == 55) = false := ne_b 55 (by rintro rfl; exact hn (by decide))
  have n39 : ((n1 : Int) != 34) = true := by rw [bne, n34]; rfl
  by_cases h39 : n1 = 39
  · subst h39
    go_enter Tryz.func77, Tryz.ntmps77
    go_wp2
    ((try simp only [Exit.inBlock, Exit.then]); refine bodyPost_ret (results_tmp4 rfl _ _ _) rfl ?_)
    exact ⟨by (repeat (first | exact Below.refl _ _ | apply pw_below_drewN | apply below_drew1)), _, _, _, _, rfl⟩
  · have n40 : ((n1 : Int) == 39) = false := ne_b 39 h39
    go_enter Tryz.func77, Tryz.ntmps77
    go_wp2
    ((try simp only [Exit.inBlock, Exit.then]); refine bodyPost_ret (results_tmp4 rfl _ _ _) rfl ?_)
    exact ⟨by (repeat (first | exact Below.refl _ _ | apply pw_below_drewN | apply below_drew1)), _, _, _, _, rfl⟩
end
end Go.Proofs.YtmjoebnphacadaaGreatDoor.Lex
/- strconv.UnquoteChar at '"': the escapes of hexadecimal digits (printed by wip/tools/gen_ur.py). -/
namespace Go.Proofs.YtmjoebnphacadaaGreatDoor.Lex
open Go.RowKit Go.Lib Go.Proofs.YtmjoebnphacadaaGreatDoorW.PrintWords Go.Proofs.YtmjoebnphacadaaGreatDoorW.PrintLast Go.Proofs.YtmjoebnphacadaaGreatDoor.Q
set_option linter.unusedVariables false
set_option linter.unusedSimpArgs false
/-- A byte of a text. -/
def bN (r : ByteArray) (j : Nat) : Nat := if h : j < r.size then (r[j]'h).toNat else 0
theorem bN_at {r : ByteArray} {j : Nat} (h : j < r.size) : (r[j]'h).toNat = bN r j := by unfold bN; rw [dif_pos h]
/-- What the digits from a place on say. -/
noncomputable def hexR (r : ByteArray) : Nat → Nat → Int → Option Int
  | 0, _, v => some v
  | k + 1, j, v => if (hx (bN r j)).2 = true then hexR r k (j + 1) (bits .or .i32 (wrap32 (v * 16)) (hx (bN r j)).1) else none
section
variable {t : ByteArray} {w : World} {n0 n1 : Nat}
set_option maxHeartbeats 3200000 in
set_option maxRecDepth 100000 in
theorem uqc_h120s (hX : UX w) (hs : t.size ≤ 2147483647) (h1 : 1 < t.size) (e0 : (t[0]'(Nat.lt_of_succ_lt h1)).toNat = 92) (e1 : (t[1]'h1).toNat = 120) (hn : (t.extract 2 t.size).size < 2) :
    Calls Tryz.prog 77 #[.string t, .int .u8 34] w (UPost w (none)) := by
  obtain ⟨ez, hz⟩ := hX.s
  unfold errV at hz
  have q5 : ((t.size : Int) == 0) = false := by rw [beq_eq_false_iff_ne]; omega
  obtain ⟨r, hr⟩ : ∃ r, t.extract 2 t.size = r := ⟨_, rfl⟩
  rw [hr] at hn
  go_enter Tryz.func77, Tryz.ntmps77
  go_wp2
  ((try simp only [Exit.inBlock, Exit.then]); refine bodyPost_ret (results_tmp4 rfl _ _ _) rfl ?_)
  exact ⟨by (repeat (first | exact Below.refl _ _ | apply pw_below_drewN | apply below_drew1)), _, _, _, _, rfl⟩
set_option maxHeartbeats 3200000 in
set_option maxRecDepth 100000 in
theorem uqc_h120 (hX : UX w) (hs : t.size ≤ 2147483647) (h1 : 1 < t.size) (e0 : (t[0]'(Nat.lt_of_succ_lt h1)).toNat = 92) (e1 : (t[1]'h1).toNat = 120) (hn : 2 ≤ (t.extract 2 t.size).size) :
    Calls Tryz.prog 77 #[.string t, .int .u8 34] w (UPost w ((hexR (t.extract 2 t.size) 2 0 0).map fun v => (⟨v, false, (t.extract 2 t.size).extract 2 (t.extract 2 t.size).size⟩ : UC))) := by
  have HX := Aside0.mk hX
  have q5 : ((t.size : Int) == 0) = false := by rw [beq_eq_false_iff_ne]; omega
  obtain ⟨r, hr⟩ : ∃ r, t.extract 2 t.size = r := ⟨_, rfl⟩
  rw [hr] at hn
  rw [hr]
  obtain ⟨R, hR⟩ : ∃ R, hexR r 2 0 0 = R := ⟨_, rfl⟩
  rw [hR]
  have HR := Aside0.mk hR
  clear hR hX
  have hnot : ∀ (x : Bool) (w : World), (Op.unary .not (.bool x)).run Tryz.prog w = .ok (.bool (!x)) w := fun _ _ => rfl
  go_enter Tryz.func77, Tryz.ntmps77
  go_wp2
  go_loopw [7, 13, 14] (fun v7 v13 v14 wr => ∃ (v : Int) (j : Nat), v7 = .nilIface ∧ v13 = .int .i32 v ∧ v14 = .int .i64 (j : Int) ∧ j ≤ 2 ∧ Aside0 (Below w.heap.size w wr) ∧ Aside0 (hexR r (2 - j) j v = R)) (fun _ _ v14 _ => 2 - (RowKit.intOf v14).toNat)
  case atStart => exact ⟨0, 0, rfl, rfl, rfl, Nat.zero_le _, ⟨by (repeat (first | exact Below.refl _ _ | apply pw_below_drewN | apply below_drew1))⟩, HR⟩
  case round =>
    obtain ⟨v, j, rfl, rfl, rfl, hj, HB, HE⟩ := hrel
    by_cases hlt : j < 2
    · have hjs : j < r.size := by omega
      have hb := bN_at hjs
      have hE := HE.out
      rw [show 2 - j = (2 - (j + 1)) + 1 by omega] at hE
      unfold hexR at hE
      generalize bN r j = c at hb hE
      have U := Aside0.mk (unhex_calls c)
      generalize hx c = p at hE U
      obtain ⟨x, b⟩ := p
      cases b with
      | true =>
        rw [if_pos rfl] at hE
        have HE2 := Aside0.mk hE
        clear hE HE
        go_wp2_with fail
        refine (U.out _).mono ?_
        rintro y w2 ⟨rfl, ⟨nd, rfl⟩⟩
        go_wp2
        go_roundw
        case rel => exact ⟨_, j + 1, rfl, by first | rfl | trace_state, by go_num, by omega, ⟨by repeat (first | exact HB.out | apply pw_below_drewN | apply below_drew1)⟩, HE2⟩
        case measure => simp [RowKit.intOf]; omega
      | false =>
        rw [if_neg (by simp)] at hE
        subst hE
        clear HE
        have hX2 := HX.out.below HB.out
        obtain ⟨ez, hz⟩ := hX2.s
        unfold errV at hz
        clear hX2
        go_wp2_with fail
        refine (U.out _).mono ?_
        rintro y w2 ⟨rfl, ⟨nd, rfl⟩⟩
        go_wp2
        ((try simp only [Exit.inBlock, Exit.then]); refine bodyPost_ret (results_tmp4 rfl _ _ _) rfl ?_)
        exact ⟨by repeat (first | exact HB.out | apply pw_below_drewN | apply below_drew1), _, _, _, _, rfl⟩
    · have hje : j = 2 := by omega
      subst hje
      have hE := HE.out
      rw [Nat.sub_self] at hE
      unfold hexR at hE
      subst hE
      clear HE
      go_wp2
      ((try simp only [Exit.inBlock, Exit.then]); refine bodyPost_ret (results_tmp4 rfl _ _ _) rfl ?_)
      exact ⟨by repeat (first | exact HB.out | apply pw_below_drewN | apply below_drew1), rfl⟩
set_option maxHeartbeats 3200000 in
set_option maxRecDepth 100000 in
theorem uqc_h117s (hX : UX w) (hs : t.size ≤ 2147483647) (h1 : 1 < t.size) (e0 : (t[0]'(Nat.lt_of_succ_lt h1)).toNat = 92) (e1 : (t[1]'h1).toNat = 117) (hn : (t.extract 2 t.size).size < 4) :
    Calls Tryz.prog 77 #[.string t, .int .u8 34] w (UPost w (none)) := by
  obtain ⟨ez, hz⟩ := hX.s
  unfold errV at hz
  have q5 : ((t.size : Int) == 0) = false := by rw [beq_eq_false_iff_ne]; omega
  obtain ⟨r, hr⟩ : ∃ r, t.extract 2 t.size = r := ⟨_, rfl⟩
  rw [hr] at hn
  go_enter Tryz.func77, Tryz.ntmps77
  go_wp2
  ((try simp only [Exit.inBlock, Exit.then]); refine bodyPost_ret (results_tmp4 rfl _ _ _) rfl ?_)
  exact ⟨by (repeat (first | exact Below.refl _ _ | apply pw_below_drewN | apply below_drew1)), _, _, _, _, rfl⟩
set_option maxHeartbeats 3200000 in
set_option maxRecDepth 100000 in
theorem uqc_h117 (hX : UX w) (hs : t.size ≤ 2147483647) (h1 : 1 < t.size) (e0 : (t[0]'(Nat.lt_of_succ_lt h1)).toNat = 92) (e1 : (t[1]'h1).toNat = 117) (hn : 4 ≤ (t.extract 2 t.size).size) :
    Calls Tryz.prog 77 #[.string t, .int .u8 34] w (UPost w ((hexR (t.extract 2 t.size) 4 0 0).bind fun v => if Lib.validRune v = true then some (⟨v, true, (t.extract 2 t.size).extract 4 (t.extract 2 t.size).size⟩ : UC) else none)) := by
  have HX := Aside0.mk hX
  have q5 : ((t.size : Int) == 0) = false := by rw [beq_eq_false_iff_ne]; omega
  obtain ⟨r, hr⟩ : ∃ r, t.extract 2 t.size = r := ⟨_, rfl⟩
  rw [hr] at hn
  rw [hr]
  obtain ⟨R, hR⟩ : ∃ R, hexR r 4 0 0 = R := ⟨_, rfl⟩
  rw [hR]
  have HR := Aside0.mk hR
  clear hR hX
  have hnot : ∀ (x : Bool) (w : World), (Op.unary .not (.bool x)).run Tryz.prog w = .ok (.bool (!x)) w := fun _ _ => rfl
  go_enter Tryz.func77, Tryz.ntmps77
  go_wp2
  go_loopw [7, 13, 14] (fun v7 v13 v14 wr => ∃ (v : Int) (j : Nat), v7 = .nilIface ∧ v13 = .int .i32 v ∧ v14 = .int .i64 (j : Int) ∧ j ≤ 4 ∧ Aside0 (Below w.heap.size w wr) ∧ Aside0 (hexR r (4 - j) j v = R)) (fun _ _ v14 _ => 4 - (RowKit.intOf v14).toNat)
  case atStart => exact ⟨0, 0, rfl, rfl, rfl, Nat.zero_le _, ⟨by (repeat (first | exact Below.refl _ _ | apply pw_below_drewN | apply below_drew1))⟩, HR⟩
  case round =>
    obtain ⟨v, j, rfl, rfl, rfl, hj, HB, HE⟩ := hrel
    by_cases hlt : j < 4
    · have hjs : j < r.size := by omega
      have hb := bN_at hjs
      have hE := HE.out
      rw [show 4 - j = (4 - (j + 1)) + 1 by omega] at hE
      unfold hexR at hE
      generalize bN r j = c at hb hE
      have U := Aside0.mk (unhex_calls c)
      generalize hx c = p at hE U
      obtain ⟨x, b⟩ := p
      cases b with
      | true =>
        rw [if_pos rfl] at hE
        have HE2 := Aside0.mk hE
        clear hE HE
        go_wp2_with fail
        refine (U.out _).mono ?_
        rintro y w2 ⟨rfl, ⟨nd, rfl⟩⟩
        go_wp2
        go_roundw
        case rel => exact ⟨_, j + 1, rfl, by first | rfl | trace_state, by go_num, by omega, ⟨by repeat (first | exact HB.out | apply pw_below_drewN | apply below_drew1)⟩, HE2⟩
        case measure => simp [RowKit.intOf]; omega
      | false =>
        rw [if_neg (by simp)] at hE
        subst hE
        clear HE
        have hX2 := HX.out.below HB.out
        obtain ⟨ez, hz⟩ := hX2.s
        unfold errV at hz
        clear hX2
        go_wp2_with fail
        refine (U.out _).mono ?_
        rintro y w2 ⟨rfl, ⟨nd, rfl⟩⟩
        go_wp2
        ((try simp only [Exit.inBlock, Exit.then]); refine bodyPost_ret (results_tmp4 rfl _ _ _) rfl ?_)
        exact ⟨by repeat (first | exact HB.out | apply pw_below_drewN | apply below_drew1), _, _, _, _, rfl⟩
    · have hje : j = 4 := by omega
      subst hje
      have hE := HE.out
      rw [Nat.sub_self] at hE
      unfold hexR at hE
      subst hE
      clear HE
      have V := Aside0.mk (fun W => Tryz.utf8_ValidRune v W)
      have hX2 := HX.out.below HB.out
      obtain ⟨ez, hz⟩ := hX2.s
      unfold errV at hz
      clear hX2
      cases hv : Lib.validRune v with
      | true =>
        rw [hv] at V
        have HV := Aside0.mk hv
        clear hv
        go_wp2_with fail
        refine (V.out _).mono ?_
        rintro y w2 ⟨rfl, rfl⟩
        go_wp2
        ((try simp only [Exit.inBlock, Exit.then]); refine bodyPost_ret (results_tmp4 rfl _ _ _) rfl ?_)
        refine ⟨by repeat (first | exact HB.out | apply pw_below_drewN | apply below_drew1), ?_⟩
        dsimp only [Option.bind]
        rw [if_pos HV.out]
        rfl
      | false =>
        rw [hv] at V
        have HV := Aside0.mk hv
        clear hv
        go_wp2_with fail
        refine (V.out _).mono ?_
        rintro y w2 ⟨rfl, rfl⟩
        go_wp2
        ((try simp only [Exit.inBlock, Exit.then]); refine bodyPost_ret (results_tmp4 rfl _ _ _) rfl ?_)
        refine ⟨by repeat (first | exact HB.out | apply pw_below_drewN | apply below_drew1), ?_⟩
        dsimp only [Option.bind]
        rw [if_neg (by rw [HV.out]; decide)]
        exact ⟨_, _, _, _, rfl⟩
set_option maxHeartbeats 3200000 in
set_option maxRecDepth 100000 in
theorem uqc_h85s (hX : UX w) (hs : t.size ≤ 2147483647) (h1 : 1 < t.size) (e0 : (t[0]'(Nat.lt_of_succ_lt h1)).toNat = 92) (e1 : (t[1]'h1).toNat = 85) (hn : (t.extract 2 t.size).size < 8) :
    Calls Tryz.prog 77 #[.string t, .int .u8 34] w (UPost w (none)) := by
  obtain ⟨ez, hz⟩ := hX.s
  unfold errV at hz
  have q5 : ((t.size : Int) == 0) = false := by rw [beq_eq_false_iff_ne]; omega
  obtain ⟨r, hr⟩ : ∃ r, t.extract 2 t.size = r := ⟨_, rfl⟩
  rw [hr] at hn
  go_enter Tryz.func77, Tryz.ntmps77
  go_wp2
  ((try simp only [Exit.inBlock, Exit.then]); refine bodyPost_ret (results_tmp4 rfl _ _ _) rfl ?_)
  exact ⟨by (repeat (first | exact Below.refl _ _ | apply pw_below_drewN | apply below_drew1)), _, _, _, _, rfl⟩
set_option maxHeartbeats 3200000 in
set_option maxRecDepth 100000 in
theorem uqc_h85 (hX : UX w) (hs : t.size ≤ 2147483647) (h1 : 1 < t.size) (e0 : (t[0]'(Nat.lt_of_succ_lt h1)).toNat = 92) (e1 : (t[1]'h1).toNat = 85) (hn : 8 ≤ (t.extract 2 t.size).size) :
    Calls Tryz.prog 77 #[.string t, .int .u8 34] w (UPost w ((hexR (t.extract 2 t.size) 8 0 0).bind fun v => if Lib.validRune v = true then some (⟨v, true, (t.extract 2 t.size).extract 8 (t.extract 2 t.size).size⟩ : UC) else none)) := by
  have HX := Aside0.mk hX
  have q5 : ((t.size : Int) == 0) = false := by rw [beq_eq_false_iff_ne]; omega
  obtain ⟨r, hr⟩ : ∃ r, t.extract 2 t.size = r := ⟨_, rfl⟩
  rw [hr] at hn
  rw [hr]
  obtain ⟨R, hR⟩ : ∃ R, hexR r 8 0 0 = R := ⟨_, rfl⟩
  rw [hR]
  have HR := Aside0.mk hR
  clear hR hX
  have hnot : ∀ (x : Bool) (w : World), (Op.unary .not (.bool x)).run Tryz.prog w = .ok (.bool (!x)) w := fun _ _ => rfl
  go_enter Tryz.func77, Tryz.ntmps77
  go_wp2
  go_loopw [7, 13, 14] (fun v7 v13 v14 wr => ∃ (v : Int) (j : Nat), v7 = .nilIface ∧ v13 = .int .i32 v ∧ v14 = .int .i64 (j : Int) ∧ j ≤ 8 ∧ Aside0 (Below w.heap.size w wr) ∧ Aside0 (hexR r (8 - j) j v = R)) (fun _ _ v14 _ => 8 - (RowKit.intOf v14).toNat)
  case atStart => exact ⟨0, 0, rfl, rfl, rfl, Nat.zero_le _, ⟨by (repeat (first | exact Below.refl _ _ | apply pw_below_drewN | apply below_drew1))⟩, HR⟩
  case round =>
    obtain ⟨v, j, rfl, rfl, rfl, hj, HB, HE⟩ := hrel
    by_cases hlt : j < 8
    · have hjs : j < r.size := by omega
      have hb := bN_at hjs
      have hE := HE.out
      rw [show 8 - j = (8 - (j + 1)) + 1 by omega] at hE
      unfold hexR at hE
      generalize bN r j = c at hb hE
      have U := Aside0.mk (unhex_calls c)
      generalize hx c = p at hE U
      obtain ⟨x, b⟩ := p
      cases b with
      | true =>
        rw [if_pos rfl] at hE
        have HE2 := Aside0.mk hE
        clear hE HE
        go_wp2_with fail
        refine (U.out _).mono ?_
        rintro y w2 ⟨rfl, ⟨nd, rfl⟩⟩
        go_wp2
        go_roundw
        case rel => exact ⟨_, j + 1, rfl, by first | rfl | trace_state, by go_num, by omega, ⟨by repeat (first | exact HB.out | apply pw_below_drewN | apply below_drew1)⟩, HE2⟩
        case measure => simp [RowKit.intOf]; omega
      | false =>
        rw [if_neg (by simp)] at hE
        subst hE
        clear HE
        have hX2 := HX.out.below HB.out
        obtain ⟨ez, hz⟩ := hX2.s
        unfold errV at hz
        clear hX2
        go_wp2_with fail
        refine (U.out _).mono ?_
        rintro y w2 ⟨rfl, ⟨nd, rfl⟩⟩
        go_wp2
        ((try simp only [Exit.inBlock, Exit.then]); refine bodyPost_ret (results_tmp4 rfl _ _ _) rfl ?_)
        exact ⟨by repeat (first | exact HB.out | apply pw_below_drewN | apply below_drew1), _, _, _, _, rfl⟩
    · have hje : j = 8 := by omega
      subst hje
      have hE := HE.out
      rw [Nat.sub_self] at hE
      unfold hexR at hE
      subst hE
      clear HE
      have V := Aside0.mk (fun W => Tryz.utf8_ValidRune v W)
      have hX2 := HX.out.below HB.out
      obtain ⟨ez, hz⟩ := hX2.s
      unfold errV at hz
      clear hX2
      cases hv : Lib.validRune v with
      | true =>
        rw [hv] at V
        have HV := Aside0.mk hv
        clear hv
        go_wp2_with fail
        refine (V.out _).mono ?_
        rintro y w2 ⟨rfl, rfl⟩
        go_wp2
        ((try simp only [Exit.inBlock, Exit.then]); refine bodyPost_ret (results_tmp4 rfl _ _ _) rfl ?_)
        refine ⟨by repeat (first | exact HB.out | apply pw_below_drewN | apply below_drew1), ?_⟩
        dsimp only [Option.bind]
        rw [if_pos HV.out]
        rfl
      | false =>
        rw [hv] at V
        have HV := Aside0.mk hv
        clear hv
        go_wp2_with fail
        refine (V.out _).mono ?_
        rintro y w2 ⟨rfl, rfl⟩
        go_wp2
        ((try simp only [Exit.inBlock, Exit.then]); refine bodyPost_ret (results_tmp4 rfl _ _ _) rfl ?_)
        refine ⟨by repeat (first | exact HB.out | apply pw_below_drewN | apply below_drew1), ?_⟩
        dsimp only [Option.bind]
        rw [if_neg (by rw [HV.out]; decide)]
        exact ⟨_, _, _, _, rfl⟩
end
end Go.Proofs.YtmjoebnphacadaaGreatDoor.Lex
/- strconv.UnquoteChar at '"': the escapes of octal digits; all of it (printed by wip/tools/gen_us.py). -/
namespace Go.Proofs.YtmjoebnphacadaaGreatDoor.Lex
open Go.RowKit Go.Lib Go.Proofs.YtmjoebnphacadaaGreatDoorW.PrintWords Go.Proofs.YtmjoebnphacadaaGreatDoorW.PrintLast Go.Proofs.YtmjoebnphacadaaGreatDoor.Q
set_option linter.unusedVariables false
set_option linter.unusedSimpArgs false
/-- What the digits from a place on say. -/
def octR (r : ByteArray) : Nat → Nat → Int → Option Int
  | 0, _, v => some v
  | k + 1, j, v => if wrap32 (wrap32 (bN r j : Int) - 48) < 0 then none else if wrap32 (wrap32 (bN r j : Int) - 48) > 7 then none else octR r k (j + 1) (bits .or .i32 (wrap32 (v * 8)) (wrap32 (wrap32 (bN r j : Int) - 48)))
section
variable {t : ByteArray} {w : World} {n0 n1 : Nat}
set_option maxHeartbeats 3200000 in
set_option maxRecDepth 100000 in
theorem uqc_o48s (hX : UX w) (hs : t.size ≤ 2147483647) (h1 : 1 < t.size) (e0 : (t[0]'(Nat.lt_of_succ_lt h1)).toNat = 92) (e1 : (t[1]'h1).toNat = 48) (hn : (t.extract 2 t.size).size < 2) :
    Calls Tryz.prog 77 #[.string t, .int .u8 34] w (UPost w (none)) := by
  obtain ⟨ez, hz⟩ := hX.s
  unfold errV at hz
  have q5 : ((t.size : Int) == 0) = false := by rw [beq_eq_false_iff_ne]; omega
  obtain ⟨r, hr⟩ : ∃ r, t.extract 2 t.size = r := ⟨_, rfl⟩
  rw [hr] at hn
  go_enter Tryz.func77, Tryz.ntmps77
  go_wp2
  ((try simp only [Exit.inBlock, Exit.then]); refine bodyPost_ret (results_tmp4 rfl _ _ _) rfl ?_)
  exact ⟨by (repeat (first | exact Below.refl _ _ | apply pw_below_drewN | apply below_drew1)), _, _, _, _, rfl⟩
set_option maxHeartbeats 3200000 in
set_option maxRecDepth 100000 in
theorem uqc_o48 (hX : UX w) (hs : t.size ≤ 2147483647) (h1 : 1 < t.size) (e0 : (t[0]'(Nat.lt_of_succ_lt h1)).toNat = 92) (e1 : (t[1]'h1).toNat = 48) (hn : 2 ≤ (t.extract 2 t.size).size) :
    Calls Tryz.prog 77 #[.string t, .int .u8 34] w (UPost w ((octR (t.extract 2 t.size) 2 0 0).bind fun v => if v > 255 then none else some (⟨v, false, (t.extract 2 t.size).extract 2 (t.extract 2 t.size).size⟩ : UC))) := by
  have HX := Aside0.mk hX
  have q5 : ((t.size : Int) == 0) = false := by rw [beq_eq_false_iff_ne]; omega
  obtain ⟨r, hr⟩ : ∃ r, t.extract 2 t.size = r := ⟨_, rfl⟩
  rw [hr] at hn
  rw [hr]
  obtain ⟨R, hR⟩ : ∃ R, octR r 2 0 0 = R := ⟨_, rfl⟩
  rw [hR]
  have HR := Aside0.mk hR
  clear hR hX
  have hnot : ∀ (x : Bool) (w : World), (Op.unary .not (.bool x)).run Tryz.prog w = .ok (.bool (!x)) w := fun _ _ => rfl
  go_enter Tryz.func77, Tryz.ntmps77
  go_wp2
  go_loopw [7, 17, 18] (fun v7 v17 v18 wr => ∃ (v : Int) (j : Nat), v7 = .nilIface ∧ v17 = .int .i32 v ∧ v18 = .int .i64 (j : Int) ∧ j ≤ 2 ∧ Aside0 (Below w.heap.size w wr) ∧ Aside0 (octR r (2 - j) j v = R)) (fun _ _ v18 _ => 2 - (RowKit.intOf v18).toNat)
  case atStart => exact ⟨0, 0, rfl, rfl, rfl, Nat.zero_le _, ⟨by (repeat (first | exact Below.refl _ _ | apply pw_below_drewN | apply below_drew1))⟩, HR⟩
  case round =>
    obtain ⟨v, j, rfl, rfl, rfl, hj, HB, HE⟩ := hrel
    have hX2 := HX.out.below HB.out
    obtain ⟨ez, hz⟩ := hX2.s
    unfold errV at hz
    clear hX2
    by_cases hlt : j < 2
    · have hjs : j < r.size := by omega
      have hb := bN_at hjs
      have hE := HE.out
      rw [show 2 - j = (2 - (j + 1)) + 1 by omega] at hE
      unfold octR at hE
      generalize bN r j = c at hb hE
      obtain ⟨x, hx⟩ : ∃ x, wrap32 (wrap32 (c : Int) - 48) = x := ⟨_, rfl⟩
      rw [hx] at hE
      by_cases h0 : x < 0
      · rw [if_pos h0] at hE
        subst hE
        clear HE
        have d0 : decide (x < 0) = true := decide_eq_true h0
        clear h0
        go_wp2
        ((try simp only [Exit.inBlock, Exit.then]); refine bodyPost_ret (results_tmp4 rfl _ _ _) rfl ?_)
        exact ⟨by repeat (first | exact HB.out | apply pw_below_drewN | apply below_drew1), _, _, _, _, rfl⟩
      · rw [if_neg h0] at hE
        have d0 : decide (x < 0) = false := decide_eq_false h0
        clear h0
        by_cases h7 : x > 7
        · rw [if_pos h7] at hE
          subst hE
          clear HE
          have d7 : decide (7 < x) = true := decide_eq_true h7
          have d7b : decide (x > 7) = true := decide_eq_true h7
          clear h7
          go_wp2
          ((try simp only [Exit.inBlock, Exit.then]); refine bodyPost_ret (results_tmp4 rfl _ _ _) rfl ?_)
          exact ⟨by repeat (first | exact HB.out | apply pw_below_drewN | apply below_drew1), _, _, _, _, rfl⟩
        · rw [if_neg h7] at hE
          have d7 : decide (7 < x) = false := decide_eq_false h7
          have d7b : decide (x > 7) = false := decide_eq_false h7
          clear h7
          have HE2 := Aside0.mk hE
          clear hE HE
          go_wp2
          go_roundw
          case rel => exact ⟨_, j + 1, rfl, by first | rfl | trace_state, by go_num, by omega, ⟨by repeat (first | exact HB.out | apply pw_below_drewN | apply below_drew1)⟩, HE2⟩
          case measure => simp [RowKit.intOf]; omega
    · have hje : j = 2 := by omega
      subst hje
      have hE := HE.out
      rw [Nat.sub_self] at hE
      unfold octR at hE
      subst hE
      clear HE
      by_cases h2 : v > 255
      · have d2 : decide (v > 255) = true := decide_eq_true h2
        have d3 : decide (255 < v) = true := decide_eq_true h2
        have H2 := Aside0.mk h2
        clear h2
        go_wp2
        ((try simp only [Exit.inBlock, Exit.then]); refine bodyPost_ret (results_tmp4 rfl _ _ _) rfl ?_)
        refine ⟨by repeat (first | exact HB.out | apply pw_below_drewN | apply below_drew1), ?_⟩
        dsimp only [Option.bind]
        rw [if_pos (by have := H2.out; omega)]
        exact ⟨_, _, _, _, rfl⟩
      · have d2 : decide (v > 255) = false := decide_eq_false h2
        have d3 : decide (255 < v) = false := decide_eq_false h2
        have H2 := Aside0.mk (show v ≤ 255 by omega)
        clear h2
        go_wp2
        ((try simp only [Exit.inBlock, Exit.then]); refine bodyPost_ret (results_tmp4 rfl _ _ _) rfl ?_)
        refine ⟨by repeat (first | exact HB.out | apply pw_below_drewN | apply below_drew1), ?_⟩
        dsimp only [Option.bind]
        rw [if_neg (by have := H2.out; omega)]
        rfl
set_option maxHeartbeats 3200000 in
set_option maxRecDepth 100000 in
theorem uqc_o49s (hX : UX w) (hs : t.size ≤ 2147483647) (h1 : 1 < t.size) (e0 : (t[0]'(Nat.lt_of_succ_lt h1)).toNat = 92) (e1 : (t[1]'h1).toNat = 49) (hn : (t.extract 2 t.size).size < 2) :
    Calls Tryz.prog 77 #[.string t, .int .u8 34] w (UPost w (none)) := by
  obtain ⟨ez, hz⟩ := hX.s
  unfold errV at hz
  have q5 : ((t.size : Int) == 0) = false := by rw [beq_eq_false_iff_ne]; omega
  obtain ⟨r, hr⟩ : ∃ r, t.extract 2 t.size = r := ⟨_, rfl⟩
  rw [hr] at hn
  go_enter Tryz.func77, Tryz.ntmps77
  go_wp2
  ((try simp only [Exit.inBlock, Exit.then]); refine bodyPost_ret (results_tmp4 rfl _ _ _) rfl ?_)
  exact ⟨by (repeat (first | exact Below.refl _ _ | apply pw_below_drewN | apply below_drew1)), _, _, _, _, rfl⟩
set_option maxHeartbeats 3200000 in
set_option maxRecDepth 100000 in
theorem uqc_o49 (hX : UX w) (hs : t.size ≤ 2147483647) (h1 : 1 < t.size) (e0 : (t[0]'(Nat.lt_of_succ_lt h1)).toNat = 92) (e1 : (t[1]'h1).toNat = 49) (hn : 2 ≤ (t.extract 2 t.size).size) :
    Calls Tryz.prog 77 #[.string t, .int .u8 34] w (UPost w ((octR (t.extract 2 t.size) 2 0 1).bind fun v => if v > 255 then none else some (⟨v, false, (t.extract 2 t.size).extract 2 (t.extract 2 t.size).size⟩ : UC))) := by
  have HX := Aside0.mk hX
  have q5 : ((t.size : Int) == 0) = false := by rw [beq_eq_false_iff_ne]; omega
  obtain ⟨r, hr⟩ : ∃ r, t.extract 2 t.size = r := ⟨_, rfl⟩
  rw [hr] at hn
  rw [hr]
  obtain ⟨R, hR⟩ : ∃ R, octR r 2 0 1 = R := ⟨_, rfl⟩
  rw [hR]
  have HR := Aside0.mk hR
  clear hR hX
  have hnot : ∀ (x : Bool) (w : World), (Op.unary .not (.bool x)).run Tryz.prog w = .ok (.bool (!x)) w := fun _ _ => rfl
  go_enter Tryz.func77, Tryz.ntmps77
  go_wp2
  go_loopw [7, 17, 18] (fun v7 v17 v18 wr => ∃ (v : Int) (j : Nat), v7 = .nilIface ∧ v17 = .int .i32 v ∧ v18 = .int .i64 (j : Int) ∧ j ≤ 2 ∧ Aside0 (Below w.heap.size w wr) ∧ Aside0 (octR r (2 - j) j v = R)) (fun _ _ v18 _ => 2 - (RowKit.intOf v18).toNat)
  case atStart => exact ⟨1, 0, rfl, rfl, rfl, Nat.zero_le _, ⟨by (repeat (first | exact Below.refl _ _ | apply pw_below_drewN | apply below_drew1))⟩, HR⟩
  case round =>
    obtain ⟨v, j, rfl, rfl, rfl, hj, HB, HE⟩ := hrel
    have hX2 := HX.out.below HB.out
    obtain ⟨ez, hz⟩ := hX2.s
    unfold errV at hz
    clear hX2
    by_cases hlt : j < 2
    · have hjs : j < r.size := by omega
      have hb := bN_at hjs
      have hE := HE.out
      rw [show 2 - j = (2 - (j + 1)) + 1 by omega] at hE
      unfold octR at hE
      generalize bN r j = c at hb hE
      obtain ⟨x, hx⟩ : ∃ x, wrap32 (wrap32 (c : Int) - 48) = x := ⟨_, rfl⟩
      rw [hx] at hE
      by_cases h0 : x < 0
      · rw [if_pos h0] at hE
        subst hE
        clear HE
        have d0 : decide (x < 0) = true := decide_eq_true h0
        clear h0
        go_wp2
        ((try simp only [Exit.inBlock, Exit.then]); refine bodyPost_ret (results_tmp4 rfl _ _ _) rfl ?_)
        exact ⟨by repeat (first | exact HB.out | apply pw_below_drewN | apply below_drew1), _, _, _, _, rfl⟩
      · rw [if_neg h0] at hE
        have d0 : decide (x < 0) = false := decide_eq_false h0
        clear h0
        by_cases h7 : x > 7
        · rw [if_pos h7] at hE
          subst hE
          clear HE
          have d7 : decide (7 < x) = true := decide_eq_true h7
          have d7b : decide (x > 7) = true := decide_eq_true h7
          clear h7
          go_wp2
          ((try simp only [Exit.inBlock, Exit.then]); refine bodyPost_ret (results_tmp4 rfl _ _ _) rfl ?_)
          exact ⟨by repeat (first | exact HB.out | apply pw_below_drewN | apply below_drew1), _, _, _, _, rfl⟩
        · rw [if_neg h7] at hE
          have d7 : decide (7 < x) = false := decide_eq_false h7
          have d7b : decide (x > 7) = false := decide_eq_false h7
          clear h7
          have HE2 := Aside0.mk hE
          clear hE HE
          go_wp2
          go_roundw
          case rel => exact ⟨_, j + 1, rfl, by first | rfl | trace_state, by go_num, by omega, ⟨by repeat (first | exact HB.out | apply pw_below_drewN | apply below_drew1)⟩, HE2⟩
          case measure => simp [RowKit.intOf]; omega
    · have hje : j = 2 := by omega
      subst hje
      have hE := HE.out
      rw [Nat.sub_self] at hE
      unfold octR at hE
      subst hE
      clear HE
      by_cases h2 : v > 255
      · have d2 : decide (v > 255) = true := decide_eq_true h2
        have d3 : decide (255 < v) = true := decide_eq_true h2
        have H2 := Aside0.mk h2
        clear h2
        go_wp2
        ((try simp only [Exit.inBlock, Exit.then]); refine bodyPost_ret (results_tmp4 rfl _ _ _) rfl ?_)
        refine ⟨by repeat (first | exact HB.out | apply pw_below_drewN | apply below_drew1), ?_⟩
        dsimp only [Option.bind]
        rw [if_pos (by have := H2.out; omega)]
        exact ⟨_, _, _, _, rfl⟩
      · have d2 : decide (v > 255) = false := decide_eq_false h2
        have d3 : decide (255 < v) = false := decide_eq_false h2
        have H2 := Aside0.mk (show v ≤ 255 by omega)
        clear h2
        go_wp2
        ((try simp only [Exit.inBlock, Exit.then]); refine bodyPost_ret (results_tmp4 rfl _ _ _) rfl ?_)
        refine ⟨by repeat (first | exact HB.out | apply pw_below_drewN | apply below_drew1), ?_⟩
        dsimp only [Option.bind]
        rw [if_neg (by have := H2.out; omega)]
        rfl
set_option maxHeartbeats 3200000 in
set_option maxRecDepth 100000 in
theorem uqc_o50s (hX : UX w) (hs : t.size ≤ 2147483647) (h1 : 1 < t.size) (e0 : (t[0]'(Nat.lt_of_succ_lt h1)).toNat = 92) (e1 : (t[1]'h1).toNat = 50) (hn : (t.extract 2 t.size).size < 2) :
    Calls Tryz.prog 77 #[.string t, .int .u8 34] w (UPost w (none)) := by
  obtain ⟨ez, hz⟩ := hX.s
  unfold errV at hz
  have q5 : ((t.size : Int) == 0) = false := by rw [beq_eq_false_iff_ne]; omega
  obtain ⟨r, hr⟩ : ∃ r, t.extract 2 t.size = r := ⟨_, rfl⟩
  rw [hr] at hn
  go_enter Tryz.func77, Tryz.ntmps77
  go_wp2
  ((try simp only [Exit.inBlock, Exit.then]); refine bodyPost_ret (results_tmp4 rfl _ _ _) rfl ?_)
  exact ⟨by (repeat (first | exact Below.refl _ _ | apply pw_below_drewN | apply below_drew1)), _, _, _, _, rfl⟩
set_option maxHeartbeats 3200000 in
set_option maxRecDepth 100000 in
theorem uqc_o50 (hX : UX w) (hs : t.size ≤ 2147483647) (h1 : 1 < t.size) (e0 : (t[0]'(Nat.lt_of_succ_lt h1)).toNat = 92) (e1 : (t[1]'h1).toNat = 50) (hn : 2 ≤ (t.extract 2 t.size).size) :
    Calls Tryz.prog 77 #[.string t, .int .u8 34] w (UPost w ((octR (t.extract 2 t.size) 2 0 2).bind fun v => if v > 255 then none else some (⟨v, false, (t.extract 2 t.size).extract 2 (t.extract 2 t.size).size⟩ : UC))) := by
  have HX := Aside0.mk hX
  have q5 : ((t.size : Int) == 0) = false := by rw [beq_eq_false_iff_ne]; omega
  obtain ⟨r, hr⟩ : ∃ r, t.extract 2 t.size = r := ⟨_, rfl⟩
  rw [hr] at hn
  rw [hr]
  obtain ⟨R, hR⟩ : ∃ R, octR r 2 0 2 = R := ⟨_, rfl⟩
  rw [hR]
  have HR := Aside0.mk hR
  clear hR hX
  have hnot : ∀ (x : Bool) (w : World), (Op.unary .not (.bool x)).run Tryz.prog w = .ok (.bool (!x)) w := fun _ _ => rfl
  go_enter Tryz.func77, Tryz.ntmps77
  go_wp2
  go_loopw [7, 17, 18] (fun v7 v17 v18 wr => ∃ (v : Int) (j : Nat), v7 = .nilIface ∧ v17 = .int .i32 v ∧ v18 = .int .i64 (j : Int) ∧ j ≤ 2 ∧ Aside0 (Below w.heap.size w wr) ∧ Aside0 (octR r (2 - j) j v = R)) (fun _ _ v18 _ => 2 - (RowKit.intOf v18).toNat)
  case atStart => exact ⟨2, 0, rfl, rfl, rfl, Nat.zero_le _, ⟨by (repeat (first | exact Below.refl _ _ | apply pw_below_drewN | apply below_drew1))⟩, HR⟩
  case round =>
    obtain ⟨v, j, rfl, rfl, rfl, hj, HB, HE⟩ := hrel
    have hX2 := HX.out.below HB.out
    obtain ⟨ez, hz⟩ := hX2.s
    unfold errV at hz
    clear hX2
    by_cases hlt : j < 2
    · have hjs : j < r.size := by omega
      have hb := bN_at hjs
      have hE := HE.out
      rw [show 2 - j = (2 - (j + 1)) + 1 by omega] at hE
      unfold octR at hE
      generalize bN r j = c at hb hE
      obtain ⟨x, hx⟩ : ∃ x, wrap32 (wrap32 (c : Int) - 48) = x := ⟨_, rfl⟩
      rw [hx] at hE
      by_cases h0 : x < 0
      · rw [if_pos h0] at hE
        subst hE
        clear HE
        have d0 : decide (x < 0) = true := decide_eq_true h0
        clear h0
        go_wp2
        ((try simp only [Exit.inBlock, Exit.then]); refine bodyPost_ret (results_tmp4 rfl _ _ _) rfl ?_)
        exact ⟨by repeat (first | exact HB.out | apply pw_below_drewN | apply below_drew1), _, _, _, _, rfl⟩
      · rw [if_neg h0] at hE
        have d0 : decide (x < 0) = false := decide_eq_false h0
        clear h0
        by_cases h7 : x > 7
        · rw [if_pos h7] at hE
          subst hE
          clear HE
          have d7 : decide (7 < x) = true := decide_eq_true h7
          have d7b : decide (x > 7) = true := decide_eq_true h7
          clear h7
          go_wp2
          ((try simp only [Exit.inBlock, Exit.then]); refine bodyPost_ret (results_tmp4 rfl _ _ _) rfl ?_)
          exact ⟨by repeat (first | exact HB.out | apply pw_below_drewN | apply below_drew1), _, _, _, _, rfl⟩
        · rw [if_neg h7] at hE
          have d7 : decide (7 < x) = false := decide_eq_false h7
          have d7b : decide (x > 7) = false := decide_eq_false h7
          clear h7
          have HE2 := Aside0.mk hE
          clear hE HE
          go_wp2
          go_roundw
          case rel => exact ⟨_, j + 1, rfl, by first | rfl | trace_state, by go_num, by omega, ⟨by repeat (first | exact HB.out | apply pw_below_drewN | apply below_drew1)⟩, HE2⟩
          case measure => simp [RowKit.intOf]; omega
    · have hje : j = 2 := by omega
      subst hje
      have hE := HE.out
      rw [Nat.sub_self] at hE
      unfold octR at hE
      subst hE
      clear HE
      by_cases h2 : v > 255
      · have d2 : decide (v > 255) = true := decide_eq_true h2
        have d3 : decide (255 < v) = true := decide_eq_true h2
        have H2 := Aside0.mk h2
        clear h2
        go_wp2
        ((try simp only [Exit.inBlock, Exit.then]); refine bodyPost_ret (results_tmp4 rfl _ _ _) rfl ?_)
        refine ⟨by repeat (first | exact HB.out | apply pw_below_drewN | apply below_drew1), ?_⟩
        dsimp only [Option.bind]
        rw [if_pos (by have := H2.out; omega)]
        exact ⟨_, _, _, _, rfl⟩
      · have d2 : decide (v > 255) = false := decide_eq_false h2
        have d3 : decide (255 < v) = false := decide_eq_false h2
        have H2 := Aside0.mk (show v ≤ 255 by omega)
        clear h2
        go_wp2
        ((try simp only [Exit.inBlock, Exit.then]); refine bodyPost_ret (results_tmp4 rfl _ _ _) rfl ?_)
        refine ⟨by repeat (first | exact HB.out | apply pw_below_drewN | apply below_drew1), ?_⟩
        dsimp only [Option.bind]
        rw [if_neg (by have := H2.out; omega)]
        rfl
set_option maxHeartbeats 3200000 in
set_option maxRecDepth 100000 in
theorem uqc_o51s (hX : UX w) (hs : t.size ≤ 2147483647) (h1 : 1 < t.size) (e0 : (t[0]'(Nat.lt_of_succ_lt h1)).toNat = 92) (e1 : (t[1]'h1).toNat = 51) (hn : (t.extract 2 t.size).size < 2) :
    Calls Tryz.prog 77 #[.string t, .int .u8 34] w (UPost w (none)) := by
  obtain ⟨ez, hz⟩ := hX.s
  unfold errV at hz
  have q5 : ((t.size : Int) == 0) = false := by rw [beq_eq_false_iff_ne]; omega
  obtain ⟨r, hr⟩ : ∃ r, t.extract 2 t.size = r := ⟨_, rfl⟩
  rw [hr] at hn
  go_enter Tryz.func77, Tryz.ntmps77
  go_wp2
  ((try simp only [Exit.inBlock, Exit.then]); refine bodyPost_ret (results_tmp4 rfl _ _ _) rfl ?_)
  exact ⟨by (repeat (first | exact Below.refl _ _ | apply pw_below_drewN | apply below_drew1)), _, _, _, _, rfl⟩
set_option maxHeartbeats 3200000 in
set_option maxRecDepth 100000 in
theorem uqc_o51 (hX : UX w) (hs : t.size ≤ 2147483647) (h1 : 1 < t.size) (e0 : (t[0]'(Nat.lt_of_succ_lt h1)).toNat = 92) (e1 : (t[1]'h1).toNat = 51) (hn : 2 ≤ (t.extract 2 t.size).size) :
    Calls Tryz.prog 77 #[.string t, .int .u8 34] w (UPost w ((octR (t.extract 2 t.size) 2 0 3).bind fun v => if v > 255 then none else some (⟨v, false, (t.extract 2 t.size).extract 2 (t.extract 2 t.size).size⟩ : UC))) := by
  have HX := Aside0.mk hX
  have q5 : ((t.size : Int) == 0) = false := by rw [beq_eq_false_iff_ne]; omega
  obtain ⟨r, hr⟩ : ∃ r, t.extract 2 t.size = r := ⟨_, rfl⟩
  rw [hr] at hn
  rw [hr]
  obtain ⟨R, hR⟩ : ∃ R, octR r 2 0 3 = R := ⟨_, rfl⟩
  rw [hR]
  have HR := Aside0.mk hR
  clear hR hX
  have hnot : ∀ (x : Bool) (w : World), (Op.unary .not (.bool x)).run Tryz.prog w = .ok (.bool (!x)) w := fun _ _ => rfl
  go_enter Tryz.func77, Tryz.ntmps77
  go_wp2
  go_loopw [7, 17, 18] (fun v7 v17 v18 wr => ∃ (v : Int) (j : Nat), v7 = .nilIface ∧ v17 = .int .i32 v ∧ v18 = .int .i64 (j : Int) ∧ j ≤ 2 ∧ Aside0 (Below w.heap.size w wr) ∧ Aside0 (octR r (2 - j) j v = R)) (fun _ _ v18 _ => 2 - (RowKit.intOf v18).toNat)
  case atStart => exact ⟨3, 0, rfl, rfl, rfl, Nat.zero_le _, ⟨by (repeat (first | exact Below.refl _ _ | apply pw_below_drewN | apply below_drew1))⟩, HR⟩
  case round =>
    obtain ⟨v, j, rfl, rfl, rfl, hj, HB, HE⟩ := hrel
    have hX2 := HX.out.below HB.out
    obtain ⟨ez, hz⟩ := hX2.s
    unfold errV at hz
    clear hX2
    by_cases hlt : j < 2
    · have hjs : j < r.size := by omega
      have hb := bN_at hjs
      have hE := HE.out
      rw [show 2 - j = (2 - (j + 1)) + 1 by omega] at hE
      unfold octR at hE
      generalize bN r j = c at hb hE
      obtain ⟨x, hx⟩ : ∃ x, wrap32 (wrap32 (c : Int) - 48) = x := ⟨_, rfl⟩
      rw [hx] at hE
      by_cases h0 : x < 0
      · rw [if_pos h0] at hE
        subst hE
        clear HE
        have d0 : decide (x < 0) = true := decide_eq_true h0
        clear h0
        go_wp2
        ((try simp only [Exit.inBlock, Exit.then]); refine bodyPost_ret (results_tmp4 rfl _ _ _) rfl ?_)
        exact ⟨by repeat (first | exact HB.out | apply pw_below_drewN | apply below_drew1), _, _, _, _, rfl⟩
      · rw [if_neg h0] at hE
        have d0 : decide (x < 0) = false := decide_eq_false h0
        clear h0
        by_cases h7 : x > 7
        · rw [if_pos h7] at hE
          subst hE
          clear HE
          have d7 : decide (7 < x) = true := decide_eq_true h7
          have d7b : decide (x > 7) = true := decide_eq_true h7
          clear h7
          go_wp2
          ((try simp only [Exit.inBlock, Exit.then]); refine bodyPost_ret (results_tmp4 rfl _ _ _) rfl ?_)
          exact ⟨by repeat (first | exact HB.out | apply pw_below_drewN | apply below_drew1), _, _, _, _, rfl⟩
        · rw [if_neg h7] at hE
          have d7 : decide (7 < x) = false := decide_eq_false h7
          have d7b : decide (x > 7) = false := decide_eq_false h7
          clear h7
          have HE2 := Aside0.mk hE
          clear hE HE
          go_wp2
          go_roundw
          case rel => exact ⟨_, j + 1, rfl, by first | rfl | trace_state, by go_num, by omega, ⟨by repeat (first | exact HB.out | apply pw_below_drewN | apply below_drew1)⟩, HE2⟩
          case measure => simp [RowKit.intOf]; omega
    · have hje : j = 2 := by omega
      subst hje
      have hE := HE.out
      rw [Nat.sub_self] at hE
      unfold octR at hE
      subst hE
      clear HE
      by_cases h2 : v > 255
      · have d2 : decide (v > 255) = true := decide_eq_true h2
        have d3 : decide (255 < v) = true := decide_eq_true h2
        have H2 := Aside0.mk h2
        clear h2
        go_wp2
        ((try simp only [Exit.inBlock, Exit.then]); refine bodyPost_ret (results_tmp4 rfl _ _ _) rfl ?_)
        refine ⟨by repeat (first | exact HB.out | apply pw_below_drewN | apply below_drew1), ?_⟩
        dsimp only [Option.bind]
        rw [if_pos (by have := H2.out; omega)]
        exact ⟨_, _, _, _, rfl⟩
      · have d2 : decide (v > 255) = false := decide_eq_false h2
        have d3 : decide (255 < v) = false := decide_eq_false h2
        have H2 := Aside0.mk (show v ≤ 255 by omega)
        clear h2
        go_wp2
        ((try simp only [Exit.inBlock, Exit.then]); refine bodyPost_ret (results_tmp4 rfl _ _ _) rfl ?_)
        refine ⟨by repeat (first | exact HB.out | apply pw_below_drewN | apply below_drew1), ?_⟩
        dsimp only [Option.bind]
        rw [if_neg (by have := H2.out; omega)]
        rfl
set_option maxHeartbeats 3200000 in
set_option maxRecDepth 100000 in
theorem uqc_o52s (hX : UX w) (hs : t.size ≤ 2147483647) (h1 : 1 < t.size) (e0 : (t[0]'(Nat.lt_of_succ_lt h1)).toNat = 92) (e1 : (t[1]'h1).toNat = 52) (hn : (t.extract 2 t.size).size < 2) :
    Calls Tryz.prog 77 #[.string t, .int .u8 34] w (UPost w (none)) := by
  obtain ⟨ez, hz⟩ := hX.s
  unfold errV at hz
  have q5 : ((t.size : Int) == 0) = false := by rw [beq_eq_false_iff_ne]; omega
  obtain ⟨r, hr⟩ : ∃ r, t.extract 2 t.size = r := ⟨_, rfl⟩
  rw [hr] at hn
  go_enter Tryz.func77, Tryz.ntmps77
  go_wp2
  ((try simp only [Exit.inBlock, Exit.then]); refine bodyPost_ret (results_tmp4 rfl _ _ _) rfl ?_)
  exact ⟨by (repeat (first | exact Below.refl _ _ | apply pw_below_drewN | apply below_drew1)), _, _, _, _, rfl⟩
set_option maxHeartbeats 3200000 in
set_option maxRecDepth 100000 in
theorem uqc_o52 (hX : UX w) (hs : t.size ≤ 2147483647) (h1 : 1 < t.size) (e0 : (t[0]'(Nat.lt_of_succ_lt h1)).toNat = 92) (e1 : (t[1]'h1).toNat = 52) (hn : 2 ≤ (t.extract 2 t.size).size) :
    Calls Tryz.prog 77 #[.string t, .int .u8 34] w (UPost w ((octR (t.extract 2 t.size) 2 0 4).bind fun v => if v > 255 then none else some (⟨v, false, (t.extract 2 t.size).extract 2 (t.extract 2 t.size).size⟩ : UC))) := by
  have HX := Aside0.mk hX
  have q5 : ((t.size : Int) == 0) = false := by rw [beq_eq_false_iff_ne]; omega
  obtain ⟨r, hr⟩ : ∃ r, t.extract 2 t.size = r := ⟨_, rfl⟩
  rw [hr] at hn
  rw [hr]
  obtain ⟨R, hR⟩ : ∃ R, octR r 2 0 4 = R := ⟨_, rfl⟩
  rw [hR]
  have HR := Aside0.mk hR
  clear hR hX
  have hnot : ∀ (x : Bool) (w : World), (Op.unary .not (.bool x)).run Tryz.prog w = .ok (.bool (!x)) w := fun _ _ => rfl
  go_enter Tryz.func77, Tryz.ntmps77
  go_wp2
  go_loopw [7, 17, 18] (fun v7 v17 v18 wr => ∃ (v : Int) (j : Nat), v7 = .nilIface ∧ v17 = .int .i32 v ∧ v18 = .int .i64 (j : Int) ∧ j ≤ 2 ∧ Aside0 (Below w.heap.size w wr) ∧ Aside0 (octR r (2 - j) j v = R)) (fun _ _ v18 _ => 2 - (RowKit.intOf v18).toNat)
  case atStart => exact ⟨4, 0, rfl, rfl, rfl, Nat.zero_le _, ⟨by (repeat (first | exact Below.refl _ _ | apply pw_below_drewN | apply below_drew1))⟩, HR⟩
  case round =>
    obtain ⟨v, j, rfl, rfl, rfl, hj, HB, HE⟩ := hrel
    have hX2 := HX.out.below HB.out
    obtain ⟨ez, hz⟩ := hX2.s
    unfold errV at hz
    clear hX2
    by_cases hlt : j < 2
    · have hjs : j < r.size := by omega
      have hb := bN_at hjs
      have hE := HE.out
      rw [show 2 - j = (2 - (j + 1)) + 1 by omega] at hE
      unfold octR at hE
      generalize bN r j = c at hb hE
      obtain ⟨x, hx⟩ : ∃ x, wrap32 (wrap32 (c : Int) - 48) = x := ⟨_, rfl⟩
      rw [hx] at hE
      by_cases h0 : x < 0
      · rw [if_pos h0] at hE
        subst hE
        clear HE
        have d0 : decide (x < 0) = true := decide_eq_true h0
        clear h0
        go_wp2
        ((try simp only [Exit.inBlock, Exit.then]); refine bodyPost_ret (results_tmp4 rfl _ _ _) rfl ?_)
        exact ⟨by repeat (first | exact HB.out | apply pw_below_drewN | apply below_drew1), _, _, _, _, rfl⟩
      · rw [if_neg h0] at hE
        have d0 : decide (x < 0) = false := decide_eq_false h0
        clear h0
        by_cases h7 : x > 7
        · rw [if_pos h7] at hE
          subst hE
          clear HE
          have d7 : decide (7 < x) = true := decide_eq_true h7
          have d7b : decide (x > 7) = true := decide_eq_true h7
          clear h7
          go_wp2
          ((try simp only [Exit.inBlock, Exit.then]); refine bodyPost_ret (results_tmp4 rfl _ _ _) rfl ?_)
          exact ⟨by repeat (first | exact HB.out | apply pw_below_drewN | apply below_drew1), _, _, _, _, rfl⟩
        · rw [if_neg h7] at hE
          have d7 : decide (7 < x) = false := decide_eq_false h7
          have d7b : decide (x > 7) = false := decide_eq_false h7
          clear h7
          have HE2 := Aside0.mk hE
          clear hE HE
          go_wp2
          go_roundw
          case rel => exact ⟨_, j + 1, rfl, by first | rfl | trace_state, by go_num, by omega, ⟨by repeat (first | exact HB.out | apply pw_below_drewN | apply below_drew1)⟩, HE2⟩
          case measure => simp [RowKit.intOf]; omega
    · have hje : j = 2 := by omega
      subst hje
      have hE := HE.out
      rw [Nat.sub_self] at hE
      unfold octR at hE
      subst hE
      clear HE
      by_cases h2 : v > 255
      · have d2 : decide (v > 255) = true := decide_eq_true h2
        have d3 : decide (255 < v) = true := decide_eq_true h2
        have H2 := Aside0.mk h2
        clear h2
        go_wp2
        ((try simp only [Exit.inBlock, Exit.then]); refine bodyPost_ret (results_tmp4 rfl _ _ _) rfl ?_)
        refine ⟨by repeat (first | exact HB.out | apply pw_below_drewN | apply below_drew1), ?_⟩
        dsimp only [Option.bind]
        rw [if_pos (by have := H2.out; omega)]
        exact ⟨_, _, _, _, rfl⟩
      · have d2 : decide (v > 255) = false := decide_eq_false h2
        have d3 : decide (255 < v) = false := decide_eq_false h2
        have H2 := Aside0.mk (show v ≤ 255 by omega)
        clear h2
        go_wp2
        ((try simp only [Exit.inBlock, Exit.then]); refine bodyPost_ret (results_tmp4 rfl _ _ _) rfl ?_)
        refine ⟨by repeat (first | exact HB.out | apply pw_below_drewN | apply below_drew1), ?_⟩
        dsimp only [Option.bind]
        rw [if_neg (by have := H2.out; omega)]
        rfl
set_option maxHeartbeats 3200000 in
set_option maxRecDepth 100000 in
theorem uqc_o53s (hX : UX w) (hs : t.size ≤ 2147483647) (h1 : 1 < t.size) (e0 : (t[0]'(Nat.lt_of_succ_lt h1)).toNat = 92) (e1 : (t[1]'h1).toNat = 53) (hn : (t.extract 2 t.size).size < 2) :
    Calls Tryz.prog 77 #[.string t, .int .u8 34] w (UPost w (none)) := by
  obtain ⟨ez, hz⟩ := hX.s
  unfold errV at hz
  have q5 : ((t.size : Int) == 0) = false := by rw [beq_eq_false_iff_ne]; omega
  obtain ⟨r, hr⟩ : ∃ r, t.extract 2 t.size = r := ⟨_, rfl⟩
  rw [hr] at hn
  go_enter Tryz.func77, Tryz.ntmps77
  go_wp2
  ((try simp only [Exit.inBlock, Exit.then]); refine bodyPost_ret (results_tmp4 rfl _ _ _) rfl ?_)
  exact ⟨by (repeat (first | exact Below.refl _ _ | apply pw_below_drewN | apply below_drew1)), _, _, _, _, rfl⟩
set_option maxHeartbeats 3200000 in
set_option maxRecDepth 100000 in
theorem uqc_o53 (hX : UX w) (hs : t.size ≤ 2147483647) (h1 : 1 < t.size) (e0 : (t[0]'(Nat.lt_of_succ_lt h1)).toNat = 92) (e1 : (t[1]'h1).toNat = 53) (hn : 2 ≤ (t.extract 2 t.size).size) :
    Calls Tryz.prog 77 #[.string t, .int .u8 34] w (UPost w ((octR (t.extract 2 t.size) 2 0 5).bind fun v => if v > 255 then none else some (⟨v, false, (t.extract 2 t.size).extract 2 (t.extract 2 t.size).size⟩ : UC))) := by
  have HX := Aside0.mk hX
  have q5 : ((t.size : Int) == 0) = false := by rw [beq_eq_false_iff_ne]; omega
  obtain ⟨r, hr⟩ : ∃ r, t.extract 2 t.size = r := ⟨_, rfl⟩
  rw [hr] at hn
  rw [hr]
  obtain ⟨R, hR⟩ : ∃ R, octR r 2 0 5 = R := ⟨_, rfl⟩
  rw [hR]
  have HR := Aside0.mk hR
  clear hR hX
  have hnot : ∀ (x : Bool) (w : World), (Op.unary .not (.bool x)).run Tryz.prog w = .ok (.bool (!x)) w := fun _ _ => rfl
  go_enter Tryz.func77, Tryz.ntmps77
  go_wp2
  go_loopw [7, 17, 18] (fun v7 v17 v18 wr => ∃ (v : Int) (j : Nat), v7 = .nilIface ∧ v17 = .int .i32 v ∧ v18 = .int .i64 (j : Int) ∧ j ≤ 2 ∧ Aside0 (Below w.heap.size w wr) ∧ Aside0 (octR r (2 - j) j v = R)) (fun _ _ v18 _ => 2 - (RowKit.intOf v18).toNat)
  case atStart => exact ⟨5, 0, rfl, rfl, rfl, Nat.zero_le _, ⟨by (repeat (first | exact Below.refl _ _ | apply pw_below_drewN | apply below_drew1))⟩, HR⟩
  case round =>
    obtain ⟨v, j, rfl, rfl, rfl, hj, HB, HE⟩ := hrel
    have hX2 := HX.out.below HB.out
    obtain ⟨ez, hz⟩ := hX2.s
    unfold errV at hz
    clear hX2
    by_cases hlt : j < 2
    · have hjs : j < r.size := by omega
      have hb := bN_at hjs
      have hE := HE.out
      rw [show 2 - j = (2 - (j + 1)) + 1 by omega] at hE
      unfold octR at hE
      generalize bN r j = c at hb hE
      obtain ⟨x, hx⟩ : ∃ x, wrap32 (wrap32 (c : Int) - 48) = x := ⟨_, rfl⟩
      rw [hx] at hE
      by_cases h0 : x < 0
      · rw [if_pos h0] at hE
        subst hE
        clear HE
        have d0 : decide (x < 0) = true := decide_eq_true h0
        clear h0
        go_wp2
        ((try simp only [Exit.inBlock, Exit.then]); refine bodyPost_ret (results_tmp4 rfl _ _ _) rfl ?_)
        exact ⟨by repeat (first | exact HB.out | apply pw_below_drewN | apply below_drew1), _, _, _, _, rfl⟩
      · rw [if_neg h0] at hE
        have d0 : decide (x < 0) = false := decide_eq_false h0
        clear h0
        by_cases h7 : x > 7
        · rw [if_pos h7] at hE
          subst hE
          clear HE
          have d7 : decide (7 < x) = true := decide_eq_true h7
          have d7b : decide (x > 7) = true := decide_eq_true h7
          clear h7
          go_wp2
          ((try simp only [Exit.inBlock, Exit.then]); refine bodyPost_ret (results_tmp4 rfl _ _ _) rfl ?_)
          exact ⟨by repeat (first | exact HB.out | apply pw_below_drewN | apply below_drew1), _, _, _, _, rfl⟩
        · rw [if_neg h7] at hE
          have d7 : decide (7 < x) = false := decide_eq_false h7
          have d7b : decide (x > 7) = false := decide_eq_false h7
          clear h7
          have HE2 := Aside0.mk hE
          clear hE HE
          go_wp2
          go_roundw
          case rel => exact ⟨_, j + 1, rfl, by first | rfl | trace_state, by go_num, by omega, ⟨by repeat (first | exact HB.out | apply pw_below_drewN | apply below_drew1)⟩, HE2⟩
          case measure => simp [RowKit.intOf]; omega
    · have hje : j = 2 := by omega
      subst hje
      have hE := HE.out
      rw [Nat.sub_self] at hE
      unfold octR at hE
      subst hE
      clear HE
      by_cases h2 : v > 255
      · have d2 : decide (v > 255) = true := decide_eq_true h2
        have d3 : decide (255 < v) = true := decide_eq_true h2
        have H2 := Aside0.mk h2
        clear h2
        go_wp2
        ((try simp only [Exit.inBlock, Exit.then]); refine bodyPost_ret (results_tmp4 rfl _ _ _) rfl ?_)
        refine ⟨by repeat (first | exact HB.out | apply pw_below_drewN | apply below_drew1), ?_⟩
        dsimp only [Option.bind]
        rw [if_pos (by have := H2.out; omega)]
        exact ⟨_, _, _, _, rfl⟩
      · have d2 : decide (v > 255) = false := decide_eq_false h2
        have d3 : decide (255 < v) = false := decide_eq_false h2
        have H2 := Aside0.mk (show v ≤ 255 by omega)
        clear h2
        go_wp2
        ((try simp only [Exit.inBlock, Exit.then]); refine bodyPost_ret (results_tmp4 rfl _ _ _) rfl ?_)
        refine ⟨by repeat (first | exact HB.out | apply pw_below_drewN | apply below_drew1), ?_⟩
        dsimp only [Option.bind]
        rw [if_neg (by have := H2.out; omega)]
        rfl
set_option maxHeartbeats 3200000 in
set_option maxRecDepth 100000 in
theorem uqc_o54s (hX : UX w) (hs : t.size ≤ 2147483647) (h1 : 1 < t.size) (e0 : (t[0]'(Nat.lt_of_succ_lt h1)).toNat = 92) (e1 : (t[1]'h1).toNat = 54) (hn : (t.extract 2 t.size).size < 2) :
    Calls Tryz.prog 77 #[.string t, .int .u8 34] w (UPost w (none)) := by
  obtain ⟨ez, hz⟩ := hX.s
  unfold errV at hz
  have q5 : ((t.size : Int) == 0) = false := by rw [beq_eq_false_iff_ne]; omega
  obtain ⟨r, hr⟩ : ∃ r, t.extract 2 t.size = r := ⟨_, rfl⟩
  rw [hr] at hn
  go_enter Tryz.func77, Tryz.ntmps77
  go_wp2
  ((try simp only [Exit.inBlock, Exit.then]); refine bodyPost_ret (results_tmp4 rfl _ _ _) rfl ?_)
  exact ⟨by (repeat (first | exact Below.refl _ _ | apply pw_below_drewN | apply below_drew1)), _, _, _, _, rfl⟩
set_option maxHeartbeats 3200000 in
set_option maxRecDepth 100000 in
theorem uqc_o54 (hX : UX w) (hs : t.size ≤ 2147483647) (h1 : 1 < t.size) (e0 : (t[0]'(Nat.lt_of_succ_lt h1)).toNat = 92) (e1 : (t[1]'h1).toNat = 54) (hn : 2 ≤ (t.extract 2 t.size).size) :
    Calls Tryz.prog 77 #[.string t, .int .u8 34] w (UPost w ((octR (t.extract 2 t.size) 2 0 6).bind fun v => if v > 255 then none else some (⟨v, false, (t.extract 2 t.size).extract 2 (t.extract 2 t.size).size⟩ : UC))) := by
  have HX := Aside0.mk hX
  have q5 : ((t.size : Int) == 0) = false := by rw [beq_eq_false_iff_ne]; omega
  obtain ⟨r, hr⟩ : ∃ r, t.extract 2 t.size = r := ⟨_, rfl⟩
  rw [hr] at hn
  rw [hr]
  obtain ⟨R, hR⟩ : ∃ R, octR r 2 0 6 = R := ⟨_, rfl⟩
  rw [hR]
  have HR := Aside0.mk hR
  clear hR hX
  have hnot : ∀ (x : Bool) (w : World), (Op.unary .not (.bool x)).run Tryz.prog w = .ok (.bool (!x)) w := fun _ _ => rfl
  go_enter Tryz.func77, Tryz.ntmps77
  go_wp2
  go_loopw [7, 17, 18] (fun v7 v17 v18 wr => ∃ (v : Int) (j : Nat), v7 = .nilIface ∧ v17 = .int .i32 v ∧ v18 = .int .i64 (j : Int) ∧ j ≤ 2 ∧ Aside0 (Below w.heap.size w wr) ∧ Aside0 (octR r (2 - j) j v = R)) (fun _ _ v18 _ => 2 - (RowKit.intOf v18).toNat)
  case atStart => exact ⟨6, 0, rfl, rfl, rfl, Nat.zero_le _, ⟨by (repeat (first | exact Below.refl _ _ | apply pw_below_drewN | apply below_drew1))⟩, HR⟩
  case round =>
    obtain ⟨v, j, rfl, rfl, rfl, hj, HB, HE⟩ := hrel
    have hX2 := HX.out.below HB.out
    obtain ⟨ez, hz⟩ := hX2.s
    unfold errV at hz
    clear hX2
    by_cases hlt : j < 2
    · have hjs : j < r.size := by omega
      have hb := bN_at hjs
      have hE := HE.out
      rw [show 2 - j = (2 - (j + 1)) + 1 by omega] at hE
      unfold octR at hE
      generalize bN r j = c at hb hE
      obtain ⟨x, hx⟩ : ∃ x, wrap32 (wrap32 (c : Int) - 48) = x := ⟨_, rfl⟩
      rw [hx] at hE
      by_cases h0 : x < 0
      · rw [if_pos h0] at hE
        subst hE
        clear HE
        have d0 : decide (x < 0) = true := decide_eq_true h0
        clear h0
        go_wp2
        ((try simp only [Exit.inBlock, Exit.then]); refine bodyPost_ret (results_tmp4 rfl _ _ _) rfl ?_)
        exact ⟨by repeat (first | exact HB.out | apply pw_below_drewN | apply below_drew1), _, _, _, _, rfl⟩
      · rw [if_neg h0] at hE
        have d0 : decide (x < 0) = false := decide_eq_false h0
        clear h0
        by_cases h7 : x > 7
        · rw [if_pos h7] at hE
          subst hE
          clear HE
          have d7 : decide (7 < x) = true := decide_eq_true h7
          have d7b : decide (x > 7) = true := decide_eq_true h7
          clear h7
          go_wp2
          ((try simp only [Exit.inBlock, Exit.then]); refine bodyPost_ret (results_tmp4 rfl _ _ _) rfl ?_)
          exact ⟨by repeat (first | exact HB.out | apply pw_below_drewN | apply below_drew1), _, _, _, _, rfl⟩
        · rw [if_neg h7] at hE
          have d7 : decide (7 < x) = false := decide_eq_false h7
          have d7b : decide (x > 7) = false := decide_eq_false h7
          clear h7
          have HE2 := Aside0.mk hE
          clear hE HE
          go_wp2
          go_roundw
          case rel => exact ⟨_, j + 1, rfl, by first | rfl | trace_state, by go_num, by omega, ⟨by repeat (first | exact HB.out | apply pw_below_drewN | apply below_drew1)⟩, HE2⟩
          case measure => simp [RowKit.intOf]; omega
    · have hje : j = 2 := by omega
      subst hje
      have hE := HE.out
      rw [Nat.sub_self] at hE
      unfold octR at hE
      subst hE
      clear HE
      by_cases h2 : v > 255
      · have d2 : decide (v > 255) = true := decide_eq_true h2
        have d3 : decide (255 < v) = true := decide_eq_true h2
        have H2 := Aside0.mk h2
        clear h2
        go_wp2
        ((try simp only [Exit.inBlock, Exit.then]); refine bodyPost_ret (results_tmp4 rfl _ _ _) rfl ?_)
        refine ⟨by repeat (first | exact HB.out | apply pw_below_drewN | apply below_drew1), ?_⟩
        dsimp only [Option.bind]
        rw [if_pos (by have := H2.out; omega)]
        exact ⟨_, _, _, _, rfl⟩
      · have d2 : decide (v > 255) = false := decide_eq_false h2
        have d3 : decide (255 < v) = false := decide_eq_false h2
        have H2 := Aside0.mk (show v ≤ 255 by omega)
        clear h2
        go_wp2
        ((try simp only [Exit.inBlock, Exit.then]); refine bodyPost_ret (results_tmp4 rfl _ _ _) rfl ?_)
        refine ⟨by repeat (first | exact HB.out | apply pw_below_drewN | apply below_drew1), ?_⟩
        dsimp only [Option.bind]
        rw [if_neg (by have := H2.out; omega)]
        rfl
set_option maxHeartbeats 3200000 in
set_option maxRecDepth 100000 in
theorem uqc_o55s (hX : UX w) (hs : t.size ≤ 2147483647) (h1 : 1 < t.size) (e0 : (t[0]'(Nat.lt_of_succ_lt h1)).toNat = 92) (e1 : (t[1]'h1).toNat = 55) (hn : (t.extract 2 t.size).size < 2) :
    Calls Tryz.prog 77 #[.string t, .int .u8 34] w (UPost w (none)) := by
  obtain ⟨ez, hz⟩ := hX.s
  unfold errV at hz
  have q5 : ((t.size : Int) == 0) = false := by rw [beq_eq_false_iff_ne]; omega
  obtain ⟨r, hr⟩ : ∃ r, t.extract 2 t.size = r := ⟨_, rfl⟩
  rw [hr] at hn
  go_enter Tryz.func77, Tryz.ntmps77
  go_wp2
  ((try simp only [Exit.inBlock, Exit.then]); refine bodyPost_ret (results_tmp4 rfl _ _ _) rfl ?_)
  exact ⟨by (repeat (first | exact Below.refl _ _ | apply pw_below_drewN | apply below_drew1)), _, _, _, _, rfl⟩
set_option maxHeartbeats 3200000 in
set_option maxRecDepth 100000 in
theorem uqc_o55 (hX : UX w) (hs : t.size ≤ 2147483647) (h1 : 1 < t.size) (e0 : (t[0]'(Nat.lt_of_succ_lt h1)).toNat = 92) (e1 : (t[1]'h1).toNat = 55) (hn : 2 ≤ (t.extract 2 t.size).size) :
    Calls Tryz.prog 77 #[.string t, .int .u8 34] w (UPost w ((octR (t.extract 2 t.size) 2 0 7).bind fun v => if v > 255 then none else some (⟨v, false, (t.extract 2 t.size).extract 2 (t.extract 2 t.size).size⟩ : UC))) := by
  have HX := Aside0.mk hX
  have q5 : ((t.size : Int) == 0) = false := by rw [beq_eq_false_iff_ne]; omega
  obtain ⟨r, hr⟩ : ∃ r, t.extract 2 t.size = r := ⟨_, rfl⟩
  rw [hr] at hn
  rw [hr]
  obtain ⟨R, hR⟩ : ∃ R, octR r 2 0 7 = R := ⟨_, rfl⟩
  rw [hR]
  have HR := Aside0.mk hR
  clear hR hX
  have hnot : ∀ (x : Bool) (w : World), (Op.unary .not (.bool x)).run Tryz.prog w = .ok (.bool (!x)) w := fun _ _ => rfl
  go_enter Tryz.func77, Tryz.ntmps77
  go_wp2
  go_loopw [7, 17, 18] (fun v7 v17 v18 wr => ∃ (v : Int) (j : Nat), v7 = .nilIface ∧ v17 = .int .i32 v ∧ v18 = .int .i64 (j : Int) ∧ j ≤ 2 ∧ Aside0 (Below w.heap.size w wr) ∧ Aside0 (octR r (2 - j) j v = R)) (fun _ _ v18 _ => 2 - (RowKit.intOf v18).toNat)
  case atStart => exact ⟨7, 0, rfl, rfl, rfl, Nat.zero_le _, ⟨by (repeat (first | exact Below.refl _ _ | apply pw_below_drewN | apply below_drew1))⟩, HR⟩
  case round =>
    obtain ⟨v, j, rfl, rfl, rfl, hj, HB, HE⟩ := hrel
    have hX2 := HX.out.below HB.out
    obtain ⟨ez, hz⟩ := hX2.s
    unfold errV at hz
    clear hX2
    by_cases hlt : j < 2
    · have hjs : j < r.size := by omega
      have hb := bN_at hjs
      have hE := HE.out
      rw [show 2 - j = (2 - (j + 1)) + 1 by omega] at hE
      unfold octR at hE
      generalize bN r j = c at hb hE
      obtain ⟨x, hx⟩ : ∃ x, wrap32 (wrap32 (c : Int) - 48) = x := ⟨_, rfl⟩
      rw [hx] at hE
      by_cases h0 : x < 0
      · rw [if_pos h0] at hE
        subst hE
        clear HE
        have d0 : decide (x < 0) = true := decide_eq_true h0
        clear h0
        go_wp2
        ((try simp only [Exit.inBlock, Exit.then]); refine bodyPost_ret (results_tmp4 rfl _ _ _) rfl ?_)
        exact ⟨by repeat (first | exact HB.out | apply pw_below_drewN | apply below_drew1), _, _, _, _, rfl⟩
      · rw [if_neg h0] at hE
        have d0 : decide (x < 0) = false := decide_eq_false h0
        clear h0
        by_cases h7 : x > 7
        · rw [if_pos h7] at hE
          subst hE
          clear HE
          have d7 : decide (7 < x) = true := decide_eq_true h7
          have d7b : decide (x > 7) = true := decide_eq_true h7
          clear h7
          go_wp2
          ((try simp only [Exit.inBlock, Exit.then]); refine bodyPost_ret (results_tmp4 rfl _ _ _) rfl ?_)
          exact ⟨by repeat (first | exact HB.out | apply pw_below_drewN | apply below_drew1), _, _, _, _, rfl⟩
        · rw [if_neg h7] at hE
          have d7 : decide (7 < x) = false := decide_eq_false h7
          have d7b : decide (x > 7) = false := decide_eq_false h7
          clear h7
          have HE2 := Aside0.mk hE
          clear hE HE
          go_wp2
          go_roundw
          case rel => exact ⟨_, j + 1, rfl, by first | rfl | trace_state, by go_num, by omega, ⟨by repeat (first | exact HB.out | apply pw_below_drewN | apply below_drew1)⟩, HE2⟩
          case measure => simp [RowKit.intOf]; omega
    · have hje : j = 2 := by omega
      subst hje
      have hE := HE.out
      rw [Nat.sub_self] at hE
      unfold octR at hE
      subst hE
      clear HE
      by_cases h2 : v > 255
      · have d2 : decide (v > 255) = true := decide_eq_true h2
        have d3 : decide (255 < v) = true := decide_eq_true h2
        have H2 := Aside0.mk h2
        clear h2
        go_wp2
        ((try simp only [Exit.inBlock, Exit.then]); refine bodyPost_ret (results_tmp4 rfl _ _ _) rfl ?_)
        refine ⟨by repeat (first | exact HB.out | apply pw_below_drewN | apply below_drew1), ?_⟩
        dsimp only [Option.bind]
        rw [if_pos (by have := H2.out; omega)]
        exact ⟨_, _, _, _, rfl⟩
      · have d2 : decide (v > 255) = false := decide_eq_false h2
        have d3 : decide (255 < v) = false := decide_eq_false h2
        have H2 := Aside0.mk (show v ≤ 255 by omega)
        clear h2
        go_wp2
        ((try simp only [Exit.inBlock, Exit.then]); refine bodyPost_ret (results_tmp4 rfl _ _ _) rfl ?_)
        refine ⟨by repeat (first | exact HB.out | apply pw_below_drewN | apply below_drew1), ?_⟩
        dsimp only [Option.bind]
        rw [if_neg (by have := H2.out; omega)]
        rfl
/-- What it makes of a backslash's letter. -/
noncomputable def uqE (c : Nat) (r : ByteArray) : Option UC :=
  if c = 97 then some ⟨7, false, r⟩ else
  if c = 98 then some ⟨8, false, r⟩ else
  if c = 102 then some ⟨12, false, r⟩ else
  if c = 110 then some ⟨10, false, r⟩ else
  if c = 114 then some ⟨13, false, r⟩ else
  if c = 116 then some ⟨9, false, r⟩ else
  if c = 118 then some ⟨11, false, r⟩ else
  if c = 92 then some ⟨92, false, r⟩ else
  if c = 34 then some ⟨34, false, r⟩ else
  if c = 120 then (if r.size < 2 then none else (hexR r 2 0 0).map fun v => (⟨v, false, r.extract 2 r.size⟩ : UC)) else
  if c = 117 then (if r.size < 4 then none else (hexR r 4 0 0).bind fun v => if Lib.validRune v = true then some (⟨v, true, r.extract 4 r.size⟩ : UC) else none) else
  if c = 85 then (if r.size < 8 then none else (hexR r 8 0 0).bind fun v => if Lib.validRune v = true then some (⟨v, true, r.extract 8 r.size⟩ : UC) else none) else
  if 48 ≤ c ∧ c ≤ 55 then (if r.size < 2 then none else (octR r 2 0 ((c : Int) - 48)).bind fun v => if v > 255 then none else some (⟨v, false, r.extract 2 r.size⟩ : UC)) else none
/-- What it makes of a text's first rune. -/
noncomputable def uqC (t : ByteArray) : Option UC :=
  if 128 ≤ bN t 0 then some ⟨(rn t 0 : Nat), true, t.extract (wdt t 0) t.size⟩ else if bN t 0 ≠ 92 then some ⟨(bN t 0 : Nat), false, t.extract 1 t.size⟩ else
  if t.size = 1 then none else uqE (bN t 1) (t.extract 2 t.size)
theorem uqE_none {c : Nat} {r : ByteArray} (hn : c ∉ ([97, 98, 102, 110, 114, 116, 118, 92, 34, 120, 117, 85, 48, 49, 50, 51, 52, 53, 54, 55] : List Nat)) : uqE c r = none := by
  unfold uqE
  rw [if_neg (by rintro rfl; exact hn (by decide))]
  rw [if_neg (by rintro rfl; exact hn (by decide))]
  rw [if_neg (by rintro rfl; exact hn (by decide))]
  rw [if_neg (by rintro rfl; exact hn (by decide))]
  rw [if_neg (by rintro rfl; exact hn (by decide))]
  rw [if_neg (by rintro rfl; exact hn (by decide))]
  rw [if_neg (by rintro rfl; exact hn (by decide))]
  rw [if_neg (by rintro rfl; exact hn (by decide))]
  rw [if_neg (by rintro rfl; exact hn (by decide))]
  rw [if_neg (by rintro rfl; exact hn (by decide))]
  rw [if_neg (by rintro rfl; exact hn (by decide))]
  rw [if_neg (by rintro rfl; exact hn (by decide))]
  rw [if_neg (by
    rintro ⟨h1, h2⟩
    apply hn
    have : c = 48 ∨ c = 49 ∨ c = 50 ∨ c = 51 ∨ c = 52 ∨ c = 53 ∨ c = 54 ∨ c = 55 := by omega
    rcases this with rfl | rfl | rfl | rfl | rfl | rfl | rfl | rfl <;> decide)]
theorem uqE_120 (r : ByteArray) : uqE 120 r = if r.size < 2 then none else ((hexR r 2 0 0).map fun v => (⟨v, false, r.extract 2 r.size⟩ : UC)) := by
  unfold uqE
  rw [if_neg (by decide), if_neg (by decide), if_neg (by decide), if_neg (by decide), if_neg (by decide), if_neg (by decide), if_neg (by decide), if_neg (by decide), if_neg (by decide), if_pos rfl]
theorem uqE_117 (r : ByteArray) : uqE 117 r = if r.size < 4 then none else ((hexR r 4 0 0).bind fun v => if Lib.validRune v = true then some (⟨v, true, r.extract 4 r.size⟩ : UC) else none) := by
  unfold uqE
  rw [if_neg (by decide), if_neg (by decide), if_neg (by decide), if_neg (by decide), if_neg (by decide), if_neg (by decide), if_neg (by decide), if_neg (by decide), if_neg (by decide), if_neg (by decide), if_pos rfl]
theorem uqE_85 (r : ByteArray) : uqE 85 r = if r.size < 8 then none else ((hexR r 8 0 0).bind fun v => if Lib.validRune v = true then some (⟨v, true, r.extract 8 r.size⟩ : UC) else none) := by
  unfold uqE
  rw [if_neg (by decide), if_neg (by decide), if_neg (by decide), if_neg (by decide), if_neg (by decide), if_neg (by decide), if_neg (by decide), if_neg (by decide), if_neg (by decide), if_neg (by decide), if_neg (by decide), if_pos rfl]
theorem uqE_48 (r : ByteArray) : uqE 48 r = if r.size < 2 then none else ((octR r 2 0 0).bind fun v => if v > 255 then none else some (⟨v, false, r.extract 2 r.size⟩ : UC)) := by
  unfold uqE
  rw [if_neg (by decide), if_neg (by decide), if_neg (by decide), if_neg (by decide), if_neg (by decide), if_neg (by decide), if_neg (by decide), if_neg (by decide), if_neg (by decide), if_neg (by decide), if_neg (by decide), if_neg (by decide), if_pos (by decide)]
  rfl
theorem uqE_49 (r : ByteArray) : uqE 49 r = if r.size < 2 then none else ((octR r 2 0 1).bind fun v => if v > 255 then none else some (⟨v, false, r.extract 2 r.size⟩ : UC)) := by
  unfold uqE
  rw [if_neg (by decide), if_neg (by decide), if_neg (by decide), if_neg (by decide), if_neg (by decide), if_neg (by decide), if_neg (by decide), if_neg (by decide), if_neg (by decide), if_neg (by decide), if_neg (by decide), if_neg (by decide), if_pos (by decide)]
  rfl
theorem uqE_50 (r : ByteArray) : uqE 50 r = if r.size < 2 then none else ((octR r 2 0 2).bind fun v => if v > 255 then none else some (⟨v, false, r.extract 2 r.size⟩ : UC)) := by
  unfold uqE
  rw [if_neg (by decide), if_neg (by decide), if_neg (by decide), if_neg (by decide), if_neg (by decide), if_neg (by decide), if_neg (by decide), if_neg (by decide), if_neg (by decide), if_neg (by decide), if_neg (by decide), if_neg (by decide), if_pos (by decide)]
  rfl
theorem uqE_51 (r : ByteArray) : uqE 51 r = if r.size < 2 then none else ((octR r 2 0 3).bind fun v => if v > 255 then none else some (⟨v, false, r.extract 2 r.size⟩ : UC)) := by
  unfold uqE
  rw [if_neg (by decide), if_neg (by decide), if_neg (by decide), if_neg (by decide), if_neg (by decide), if_neg (by decide), if_neg (by decide), if_neg (by decide), if_neg (by decide), if_neg (by decide), if_neg (by decide), if_neg (by decide), if_pos (by decide)]
  rfl
theorem uqE_52 (r : ByteArray) : uqE 52 r = if r.size < 2 then none else ((octR r 2 0 4).bind fun v => if v > 255 then none else some (⟨v, false, r.extract 2 r.size⟩ : UC)) := by
  unfold uqE
  rw [if_neg (by decide), if_neg (by decide), if_neg (by decide), if_neg (by decide), if_neg (by decide), if_neg (by decide), if_neg (by decide), if_neg (by decide), if_neg (by decide), if_neg (by decide), if_neg (by decide), if_neg (by decide), if_pos (by decide)]
  rfl
theorem uqE_53 (r : ByteArray) : uqE 53 r = if r.size < 2 then none else ((octR r 2 0 5).bind fun v => if v > 255 then none else some (⟨v, false, r.extract 2 r.size⟩ : UC)) := by
  unfold uqE
  rw [if_neg (by decide), if_neg (by decide), if_neg (by decide), if_neg (by decide), if_neg (by decide), if_neg (by decide), if_neg (by decide), if_neg (by decide), if_neg (by decide), if_neg (by decide), if_neg (by decide), if_neg (by decide), if_pos (by decide)]
  rfl
theorem uqE_54 (r : ByteArray) : uqE 54 r = if r.size < 2 then none else ((octR r 2 0 6).bind fun v => if v > 255 then none else some (⟨v, false, r.extract 2 r.size⟩ : UC)) := by
  unfold uqE
  rw [if_neg (by decide), if_neg (by decide), if_neg (by decide), if_neg (by decide), if_neg (by decide), if_neg (by decide), if_neg (by decide), if_neg (by decide), if_neg (by decide), if_neg (by decide), if_neg (by decide), if_neg (by decide), if_pos (by decide)]
  rfl
theorem uqE_55 (r : ByteArray) : uqE 55 r = if r.size < 2 then none else ((octR r 2 0 7).bind fun v => if v > 255 then none else some (⟨v, false, r.extract 2 r.size⟩ : UC)) := by
  unfold uqE
  rw [if_neg (by decide), if_neg (by decide), if_neg (by decide), if_neg (by decide), if_neg (by decide), if_neg (by decide), if_neg (by decide), if_neg (by decide), if_neg (by decide), if_neg (by decide), if_neg (by decide), if_neg (by decide), if_pos (by decide)]
  rfl
set_option maxHeartbeats 1000000 in
theorem uqc_calls (hX : UX w) (hs : t.size ≤ 2147483647) (h0 : 0 < t.size) (hq : bN t 0 ≠ 34) :
    Calls Tryz.prog 77 #[.string t, .int .u8 34] w (UPost w (uqC t)) := by
  have e0 := bN_at h0
  unfold uqC
  by_cases hm : 128 ≤ bN t 0
  · rw [if_pos hm]; exact uqc_many hX.t hs h0 e0 hm
  rw [if_neg hm]
  by_cases hb : bN t 0 ≠ 92
  · rw [if_pos hb]; exact uqc_ascii hs h0 e0 hq (by omega) hb
  rw [if_neg hb]
  have e0b : (t[0]'h0).toNat = 92 := e0.trans (by omega)
  by_cases h1 : t.size = 1
  · rw [if_pos h1]; exact uqc_short hX h1 e0b
  rw [if_neg h1]
  have h1' : 1 < t.size := by omega
  have e1 := bN_at h1'
  by_cases hn : bN t 1 ∈ ([97, 98, 102, 110, 114, 116, 118, 92, 34, 120, 117, 85, 48, 49, 50, 51, 52, 53, 54, 55] : List Nat)
  · simp only [List.mem_cons, List.not_mem_nil, or_false] at hn
    rcases hn with hn | hn | hn | hn | hn | hn | hn | hn | hn | hn | hn | hn | hn | hn | hn | hn | hn | hn | hn | hn
    · rw [hn] at e1 ⊢; exact uqc_e97 hs h1' e0b e1
    · rw [hn] at e1 ⊢; exact uqc_e98 hs h1' e0b e1
    · rw [hn] at e1 ⊢; exact uqc_e102 hs h1' e0b e1
    · rw [hn] at e1 ⊢; exact uqc_e110 hs h1' e0b e1
    · rw [hn] at e1 ⊢; exact uqc_e114 hs h1' e0b e1
    · rw [hn] at e1 ⊢; exact uqc_e116 hs h1' e0b e1
    · rw [hn] at e1 ⊢; exact uqc_e118 hs h1' e0b e1
    · rw [hn] at e1 ⊢; exact uqc_e92 hs h1' e0b e1
    · rw [hn] at e1 ⊢; exact uqc_e34 hs h1' e0b e1
    · rw [hn] at e1 ⊢
      by_cases hz : (t.extract 2 t.size).size < 2
      · rw [uqE_120, if_pos hz]; exact uqc_h120s hX hs h1' e0b e1 hz
      · rw [uqE_120, if_neg hz]; exact uqc_h120 hX hs h1' e0b e1 (by omega)
    · rw [hn] at e1 ⊢
      by_cases hz : (t.extract 2 t.size).size < 4
      · rw [uqE_117, if_pos hz]; exact uqc_h117s hX hs h1' e0b e1 hz
      · rw [uqE_117, if_neg hz]; exact uqc_h117 hX hs h1' e0b e1 (by omega)
    · rw [hn] at e1 ⊢
      by_cases hz : (t.extract 2 t.size).size < 8
      · rw [uqE_85, if_pos hz]; exact uqc_h85s hX hs h1' e0b e1 hz
      · rw [uqE_85, if_neg hz]; exact uqc_h85 hX hs h1' e0b e1 (by omega)
    · rw [hn] at e1 ⊢
      by_cases hz : (t.extract 2 t.size).size < 2
      · rw [uqE_48, if_pos hz]; exact uqc_o48s hX hs h1' e0b e1 hz
      · rw [uqE_48, if_neg hz]; exact uqc_o48 hX hs h1' e0b e1 (by omega)
    · rw [hn] at e1 ⊢
      by_cases hz : (t.extract 2 t.size).size < 2
      · rw [uqE_49, if_pos hz]; exact uqc_o49s hX hs h1' e0b e1 hz
      · rw [uqE_49, if_neg hz]; exact uqc_o49 hX hs h1' e0b e1 (by omega)
    · rw [hn] at e1 ⊢
      by_cases hz : (t.extract 2 t.size).size < 2
      · rw [uqE_50, if_pos hz]; exact uqc_o50s hX hs h1' e0b e1 hz
      · rw [uqE_50, if_neg hz]; exact uqc_o50 hX hs h1' e0b e1 (by omega)
    · rw [hn] at e1 ⊢
      by_cases hz : (t.extract 2 t.size).size < 2
      · rw [uqE_51, if_pos hz]; exact uqc_o51s hX hs h1' e0b e1 hz
      · rw [uqE_51, if_neg hz]; exact uqc_o51 hX hs h1' e0b e1 (by omega)
    · rw [hn] at e1 ⊢
      by_cases hz : (t.extract 2 t.size).size < 2
      · rw [uqE_52, if_pos hz]; exact uqc_o52s hX hs h1' e0b e1 hz
      · rw [uqE_52, if_neg hz]; exact uqc_o52 hX hs h1' e0b e1 (by omega)
    · rw [hn] at e1 ⊢
      by_cases hz : (t.extract 2 t.size).size < 2
      · rw [uqE_53, if_pos hz]; exact uqc_o53s hX hs h1' e0b e1 hz
      · rw [uqE_53, if_neg hz]; exact uqc_o53 hX hs h1' e0b e1 (by omega)
    · rw [hn] at e1 ⊢
      by_cases hz : (t.extract 2 t.size).size < 2
      · rw [uqE_54, if_pos hz]; exact uqc_o54s hX hs h1' e0b e1 hz
      · rw [uqE_54, if_neg hz]; exact uqc_o54 hX hs h1' e0b e1 (by omega)
    · rw [hn] at e1 ⊢
      by_cases hz : (t.extract 2 t.size).size < 2
      · rw [uqE_55, if_pos hz]; exact uqc_o55s hX hs h1' e0b e1 hz
      · rw [uqE_55, if_neg hz]; exact uqc_o55 hX hs h1' e0b e1 (by omega)
  · rw [uqE_none hn]; exact uqc_other hX hs h1' e0b e1 hn
end
end Go.Proofs.YtmjoebnphacadaaGreatDoor.Lex
/- strconv.unquote at '"'. -/
namespace Go.Proofs.YtmjoebnphacadaaGreatDoor.Lex
open Go.RowKit Go.Lib Go.Proofs.YtmjoebnphacadaaGreatDoorW.PrintWords Go.Proofs.YtmjoebnphacadaaGreatDoorW.PrintLast Go.Proofs.YtmjoebnphacadaaGreatDoor.Q
set_option linter.unusedVariables false
set_option linter.unusedSimpArgs false
/-- Does a text have a byte? -/
def hasB (s : ByteArray) (c : UInt8) : Bool := s.data.toList.contains c
/-- What unquote has done: the text, what is left; or none. -/
def QPost (w : World) (s : ByteArray) (R : Option (ByteArray × ByteArray)) (x : Ending) (w' : World) : Prop := Below w.heap.size w w' ∧ match R with
  | some u => x = .returned (.tuple #[.string u.1, .string u.2, .nilIface])
  | none => ∃ o b, x = .returned (.tuple #[.string o, .string s, errV b])
section
variable {s : ByteArray} {w : World} {k : Nat}
set_option maxHeartbeats 3200000 in
set_option maxRecDepth 100000 in
theorem unq_fast (hX : UX w) (hs : s.size ≤ 2147483647) (h2 : 2 ≤ s.size) (e0 : (s[0]'(by omega)).toNat = 34) (hi : Lib.indexByte (s.extract 1 s.size).data.toList (UInt8.ofNat 34) = (k : Int)) (hk : k + 1 < s.size)
    (h92 : hasB (s.extract 0 (k + 2)) (UInt8.ofNat 92) = false) (h10 : hasB (s.extract 0 (k + 2)) (UInt8.ofNat 10) = false) (hv : Lib.validD (s.extract 1 (k + 1)).data.toList = true) :
    Calls Tryz.prog 69 #[.string s, .bool true] w (QPost w s (some (s.extract 1 (k + 1), s.extract (k + 2) s.size))) := by
  have I := sindex_calls (s.extract 1 s.size) 34 w
  rw [hi] at I
  replace I := Aside0.mk I
  have C1 := scontains_calls (s.extract 0 (k + 2)) 92 w
  rw [show (s.extract 0 (k + 2)).data.toList.contains (UInt8.ofNat 92) = false from h92] at C1
  replace C1 := Aside0.mk C1
  have C2 := scontains_calls (s.extract 0 (k + 2)) 10 w
  rw [show (s.extract 0 (k + 2)).data.toList.contains (UInt8.ofNat 10) = false from h10] at C2
  replace C2 := Aside0.mk C2
  have V := Tryz.utf8_ValidString (s.extract 1 (k + 1)) w (by rw [ext_size (by omega)]; omega) hX.t.1
  rw [hv] at V
  replace V := Aside0.mk V
  have hnot : ∀ (x : Bool) (w : World), (Op.unary .not (.bool x)).run Tryz.prog w = .ok (.bool (!x)) w := fun _ _ => rfl
  clear hi h92 h10 hv hX
  go_enter Tryz.func69, Tryz.ntmps69
  go_wp2_with fail
  refine I.out.mono ?_
  rintro x w1 ⟨rfl, rfl⟩
  clear I
  go_wp2_with fail
  refine C1.out.mono ?_
  rintro x w1 ⟨rfl, rfl⟩
  clear C1
  go_wp2_with fail
  refine C2.out.mono ?_
  rintro x w1 ⟨rfl, rfl⟩
  clear C2
  have hsl : ∀ W, (Instr.slice 9 (.string s) (some (.int .i64 1)) (some (.int .i64 ((k : Int) + 2 - 1))) none).run Tryz.prog W = .ok (.string (s.extract 1 (k + 1))) W := by
    intro W
    rw [show (k : Int) + 2 - 1 = ((k + 1 : Nat) : Int) by omega, run_slice_string_if _ _ s .i64 .i64 1 _ Tryz.underlying9, if_pos (by omega), if_pos (by omega)]
    rfl
  have hsz : (s.extract 0 (k + 2)).size = k + 2 := by rw [ext_size (by omega)]; omega
  have hsm : ∀ W, (Instr.slice 9 (.string (s.extract 0 (k + 2))) (some (.int .i64 1)) (some (.int .i64 ((k : Int) + 2 - 1))) none).run Tryz.prog W = .ok (.string (s.extract 1 (k + 1))) W := by
    intro W
    rw [show (k : Int) + 2 - 1 = ((k + 1 : Nat) : Int) by omega, run_slice_string_if _ _ _ .i64 .i64 1 _ Tryz.underlying9, if_pos (by rw [hsz]; omega), if_pos (by omega)]
    show Result.ok (Value.string ((s.extract 0 (k + 2)).extract 1 (k + 1))) W = _
    rw [ByteArray.extract_extract]
    congr 3 <;> omega
  go_wp2_with fail
  refine V.out.mono ?_
  rintro x w1 ⟨rfl, hb⟩
  clear V
  have HB := Aside0.mk hb
  clear hb
  go_wp2
  go_quiet (fail)
  go_wp2
  go_ret3
  exact ⟨by repeat (first | exact HB.out | apply pw_below_drewN | apply below_drew1), rfl⟩
end
end Go.Proofs.YtmjoebnphacadaaGreatDoor.Lex
/- strconv.unquote at '"': the loop's law. -/
namespace Go.Proofs.YtmjoebnphacadaaGreatDoor.Lex
open Go.RowKit Go.Lib Go.Proofs.YtmjoebnphacadaaGreatDoorW.PrintWords Go.Proofs.YtmjoebnphacadaaGreatDoorW.PrintLast Go.Proofs.YtmjoebnphacadaaGreatDoor.Q
set_option linter.unusedVariables false
set_option linter.unusedSimpArgs false
/-- What stands of an UnquoteChar: less is left; a rune of many bytes is one. -/
def UOk (n : Nat) (u : UC) : Prop := u.r.size ≤ n ∧ (u.m = true → 0 ≤ u.v ∧ u.v ≤ 2147483647)
theorem uok_plain {n : Nat} {v : Int} {r : ByteArray} (h : r.size ≤ n) : UOk n ⟨v, false, r⟩ := ⟨h, fun h => by simp at h⟩
theorem ext_le (r : ByteArray) (a : Nat) : (r.extract a r.size).size ≤ r.size := by rw [ByteArray.size_extract]; omega
theorem uok_hex {r : ByteArray} {N : Nat} {u : UC} {o : Option Int} (h : (if r.size < N then none else (o.bind fun v => if Lib.validRune v = true then some (⟨v, true, r.extract N r.size⟩ : UC) else none)) = some u) : UOk r.size u := by
  by_cases hz : r.size < N
  · rw [if_pos hz] at h; simp at h
  · rw [if_neg hz] at h
    cases o with
    | none => simp at h
    | some v =>
      rw [Option.bind_some] at h
      by_cases hv : Lib.validRune v = true
      · rw [if_pos hv] at h
        obtain rfl := Option.some.inj h
        refine ⟨ext_le _ _, fun _ => ?_⟩
        unfold Lib.validRune at hv
        have := of_decide_eq_true hv
        show 0 ≤ v ∧ v ≤ 2147483647
        omega
      · rw [if_neg hv] at h; simp at h
theorem ite_some {p : Prop} [Decidable p] {a b : Option UC} {u : UC} (h : (if p then a else b) = some u) : a = some u ∨ b = some u := by
  by_cases hp : p
  · rw [if_pos hp] at h; exact .inl h
  · rw [if_neg hp] at h; exact .inr h
theorem ite_plain {p : Prop} [Decidable p] {v : Int} {r : ByteArray} {b : Option UC} {u : UC} (h : (if p then some ⟨v, false, r⟩ else b) = some u) (hb : b = some u → UOk r.size u) : UOk r.size u := by
  rcases ite_some h with h | h
  · obtain rfl := Option.some.inj h; exact uok_plain (Nat.le_refl _)
  · exact hb h
theorem uqE_ok {c : Nat} {r : ByteArray} {u : UC} (h : uqE c r = some u) : UOk r.size u := by
  unfold uqE at h
  refine ite_plain h fun h => ite_plain h fun h => ite_plain h fun h => ite_plain h fun h => ite_plain h fun h => ite_plain h fun h => ite_plain h fun h => ite_plain h fun h => ite_plain h fun h => ?_
  rcases ite_some h with h | h
  · by_cases hz : r.size < 2
    · rw [if_pos hz] at h; simp at h
    · rw [if_neg hz] at h
      obtain ⟨v, _, rfl⟩ := Option.map_eq_some_iff.1 h
      exact uok_plain (ext_le _ _)
  rcases ite_some h with h | h
  · exact uok_hex h
  rcases ite_some h with h | h
  · exact uok_hex h
  rcases ite_some h with h | h
  · by_cases hz : r.size < 2
    · rw [if_pos hz] at h; simp at h
    · rw [if_neg hz] at h
      obtain ⟨v, _, hv⟩ := Option.bind_eq_some_iff.1 h
      by_cases h5 : v > 255
      · rw [if_pos h5] at hv; simp at hv
      · rw [if_neg h5] at hv
        obtain rfl := Option.some.inj hv
        exact uok_plain (ext_le _ _)
  · simp at h
theorem uqC_ok {t : ByteArray} {u : UC} (h0 : 0 < t.size) (h : uqC t = some u) : u.r.size < t.size ∧ (u.m = true → 0 ≤ u.v ∧ u.v ≤ 2147483647) := by
  unfold uqC at h
  split at h
  · obtain rfl := Option.some.inj h
    refine ⟨?_, fun _ => ⟨by show (0 : Int) ≤ ((rn t 0 : Nat) : Int); omega, ?_⟩⟩
    · have := adv_pos t 0
      show (t.extract (wdt t 0) t.size).size < t.size
      rw [ByteArray.size_extract]
      omega
    · have := rn_hi t 0
      show ((rn t 0 : Nat) : Int) ≤ 2147483647
      omega
  split at h
  · obtain rfl := Option.some.inj h
    refine ⟨?_, fun h => by simp at h⟩
    show (t.extract 1 t.size).size < t.size
    rw [ByteArray.size_extract]
    omega
  split at h
  · simp at h
  · have := uqE_ok h
    obtain ⟨h1, h2⟩ := this
    rw [ByteArray.size_extract] at h1
    exact ⟨by omega, h2⟩
/-- What one rune puts into the row. -/
def uqB (u : UC) : List UInt8 := if u.v < 128 ∨ u.m = false then [UInt8.ofNat (u.v % 256).toNat] else Lib.encodeRune u.v
theorem uqB_len (u : UC) : 1 ≤ (uqB u).length ∧ (uqB u).length ≤ 4 := by
  unfold uqB
  split
  · simp
  · rw [← Lib.runeCells_length]; exact Lib.runeCells_le _
/-- The loop: what is in the row at the end, and what is left; none: it stops with an error. -/
noncomputable def uqL : Nat → ByteArray → List UInt8 → Option (List UInt8 × ByteArray)
  | 0, _, _ => none
  | f + 1, t, b => if t.size = 0 ∨ bN t 0 = 34 then some (b, t) else
    match uqC t with
    | none => none
    | some u => if bN t 0 = 10 then none else uqL f u.r (b ++ uqB u)
theorem uqL_end {f : Nat} {t : ByteArray} {b : List UInt8} (h : t.size = 0 ∨ bN t 0 = 34) : uqL (f + 1) t b = some (b, t) := if_pos h
theorem uqL_bad {f : Nat} {t : ByteArray} {b : List UInt8} (h : ¬ (t.size = 0 ∨ bN t 0 = 34)) (hc : uqC t = none) : uqL (f + 1) t b = none := by
  unfold uqL
  rw [if_neg h, hc]
theorem uqL_nl {f : Nat} {t : ByteArray} {b : List UInt8} {u : UC} (h : ¬ (t.size = 0 ∨ bN t 0 = 34)) (hc : uqC t = some u) (hn : bN t 0 = 10) : uqL (f + 1) t b = none := by
  rw [uqL, if_neg h, hc]
  exact if_pos hn
theorem uqL_step {f : Nat} {t : ByteArray} {b : List UInt8} {u : UC} (h : ¬ (t.size = 0 ∨ bN t 0 = 34)) (hc : uqC t = some u) (hn : ¬ bN t 0 = 10) : uqL (f + 1) t b = uqL f u.r (b ++ uqB u) := by
  rw [uqL, if_neg h, hc]
  exact if_neg hn
/-- What unquote makes of what the loop leaves. -/
def uqR (R : Option (List UInt8 × ByteArray)) : Option (ByteArray × ByteArray) :=
  match R with
  | none => none
  | some (b, t) => if 0 < t.size ∧ bN t 0 = 34 then some (⟨b.toArray⟩, t.extract 1 t.size) else none
def vSize : Value → Nat
  | .string s => s.size
  | _ => 0
/-- 'string(b)' of the row. -/
theorem conv_row {B n : Nat} {v : Value} {b : List UInt8} {W : World} (hn : n = b.length) (h : W.ownsRow B 5 1 v n (Lib.byteCells b)) :
    (convert 83 9 v).run Tryz.prog W = .ok (.string ⟨b.toArray⟩) W := by
  subst hn
  rcases h.2 with ⟨rfl, h0⟩ | ⟨g, cap, cur, rfl, _⟩
  · have : b = [] := List.eq_nil_of_length_eq_zero h0
    subst this
    rw [run_convert_bytes_string W 83 9 5 none 0 0 Tryz.underlying83 Tryz.underlying5 Tryz.underlying9]
    rfl
  · refine run_convert_bytes_back (P := Tryz.prog) W 83 9 5 ⟨g, 0, none⟩ cap b Tryz.underlying83 Tryz.underlying5 Tryz.underlying9 (fun j hj => ?_)
    refine World.ownsRow.cells h rfl j _ ?_
    unfold Lib.byteCells
    simp [hj]
theorem own_below {B e z n m : Nat} {v : Value} {xs : List Value} {W W' : World} (h : W.ownsRow B e z v n xs) (hb : Below m W W') (hm : W.heap.size ≤ m) : W'.ownsRow B e z v n xs :=
  h.kept (row := none) ⟨hb.os, hb.tape, hb.output, hb.size, fun k hk _ => hb.block k (Nat.lt_of_lt_of_le hk hm)⟩ (by cases hv : v.ownBlock <;> simp)
theorem infoU8 : (Tryz.prog.info? 5).map (fun i => (i.zero, i.size, i.bytes)) = some (some (.int .u8 0), 1, 1) := by kernel_rfl
end Go.Proofs.YtmjoebnphacadaaGreatDoor.Lex
/- strconv.unquote at '"': the loop (printed by wip/tools/gen_uw.py). -/
namespace Go.Proofs.YtmjoebnphacadaaGreatDoor.Lex
open Go.RowKit Go.Lib Go.Proofs.YtmjoebnphacadaaGreatDoorW.PrintWords Go.Proofs.YtmjoebnphacadaaGreatDoorW.PrintLast Go.Proofs.YtmjoebnphacadaaGreatDoor.Q
set_option linter.unusedVariables false
set_option linter.unusedSimpArgs false
section
variable {s : ByteArray} {w : World} {k : Nat}
set_option maxHeartbeats 6400000 in
set_option maxRecDepth 100000 in
theorem unq_slow_a (hX : UX w) (hs : s.size ≤ 2147483647) (h2 : 2 ≤ s.size) (e0 : (s[0]'(by omega)).toNat = 34) (hi : Lib.indexByte (s.extract 1 s.size).data.toList (UInt8.ofNat 34) = (k : Int)) (hk : k + 1 < s.size)
    (h92 : hasB (s.extract 0 (k + 2)) (UInt8.ofNat 92) = true) :
    Calls Tryz.prog 69 #[.string s, .bool true] w (QPost w s (uqR (uqL (s.size + 1) (s.extract 1 s.size) []))) := by
  have I := sindex_calls (s.extract 1 s.size) 34 w
  rw [hi] at I
  replace I := Aside0.mk I
  have C1 := scontains_calls (s.extract 0 (k + 2)) 92 w
  rw [show (s.extract 0 (k + 2)).data.toList.contains (UInt8.ofNat 92) = true from h92] at C1
  replace C1 := Aside0.mk C1
  have HX := Aside0.mk hX
  have hnot : ∀ (x : Bool) (w : World), (Op.unary .not (.bool x)).run Tryz.prog w = .ok (.bool (!x)) w := fun _ _ => rfl
  obtain ⟨i0, ti, hz0, hz1, hz2⟩ := info_parts infoU8
  obtain ⟨R, hR⟩ : ∃ R, uqL (s.size + 1) (s.extract 1 s.size) [] = R := ⟨_, rfl⟩
  have hsz : (s.extract 1 s.size).size = s.size - 1 := by rw [ByteArray.size_extract]; omega
  have HR := Aside0.mk (And.intro hR hsz)
  clear hsz
  rw [hR]
  clear hi h92 hX hR
  go_enter Tryz.func69, Tryz.ntmps69
  go_wp2_with fail
  refine I.out.mono ?_
  rintro x w1 ⟨rfl, e⟩
  obtain rfl := e.symm
  clear I
  go_wp2_with fail
  refine C1.out.mono ?_
  rintro x w1 ⟨rfl, e⟩
  obtain rfl := e.symm
  clear C1
  have HB0 := Aside0.mk (Below.refl w.heap.size w)
  go_wp2_with (at_make; refine wpList_make_own _ rfl _ _ 83 rfl w.heap.size 5 i0 (.int .u8 0) 1 Tryz.underlying83 ti hz0 hz1 .i64 .i64 _ (3 * (k + 2) / 2) rfl rfl ?hC (by rw [hz2]; omega) (by unfold maxLen; omega) (by have := HB0.out.size; omega) ?_; (case hC => first | (go_simp; omega) | omega | trace_state); intro w1 hown hgrow)
  have HB1 := Aside0.mk (HB0.out.grown hgrow HB0.out.size (fun k e => by cases e))
  clear hgrow
  go_loopw [0, 14] (fun v0 v14 wr => ∃ (t : ByteArray) (b : List UInt8) (f : Nat), v0 = .string t ∧ Aside0 (wr.ownsRow w.heap.size 5 1 v14 b.length (Lib.byteCells b)) ∧ Aside0 (Below w.heap.size w wr) ∧ Aside0 (uqL f t b = R ∧ t.size < f ∧ b.length + 4 * t.size ≤ 4 * s.size ∧ t.size < s.size)) (fun v0 _ _ => vSize v0)
  case atStart => exact ⟨_, [], s.size + 1, rfl, ⟨hown⟩, HB1, ⟨HR.out.1, by have := HR.out.2; omega, by have := HR.out.2; simp; omega, by have := HR.out.2; omega⟩⟩
  case round =>
    clear hown HB1
    obtain ⟨t, b, f, rfl, HO, HB, HU⟩ := hrel
    obtain ⟨g, rfl⟩ : ∃ g, f = g + 1 := ⟨f - 1, by have := HU.out.2.1; omega⟩
    by_cases ht : t.size = 0
    · have hR := (uqL_end (f := g) (b := b) (.inl ht)).symm.trans HU.out.1
      subst hR
      have q1 : decide ((t.size : Int) > 0) = false := decide_eq_false (by omega)
      have q2 : decide ((0 : Int) < t.size) = false := q1
      have hX2 := HX.out.below HB.out
      obtain ⟨ez, hz⟩ := hX2.s
      unfold errV at hz
      clear hX2
      have HT := Aside0.mk ht
      go_wp2
      go_quiet (fail)
      go_wp2
      go_ret3
      refine (show QPost w s (uqR (some (b, t))) _ _ from ?_)
      unfold uqR
      dsimp only
      rw [if_neg (by rw [HT.out]; rintro ⟨h, _⟩; exact absurd h (by decide))]
      exact ⟨by repeat (first | exact HB.out | apply pw_below_drewN | apply below_drew1), _, _, rfl⟩
    · have ht0 : 0 < t.size := by omega
      have hb0 := bN_at ht0
      have q1 : decide ((t.size : Int) > 0) = true := decide_eq_true (by omega)
      have q2 : decide ((0 : Int) < t.size) = true := q1
      by_cases h34 : bN t 0 = 34
      · have hR := (uqL_end (f := g) (b := b) (.inr h34)).symm.trans HU.out.1
        subst hR
        have HT := Aside0.mk (show 0 < t.size ∧ bN t 0 = 34 from ⟨ht0, h34⟩)
        rw [h34] at hb0
        have hcv := conv_row rfl HO.out
        have hcv2 : ∀ n, (convert 83 9 u14).run Tryz.prog (wr.drewN n) = .ok (.string ⟨b.toArray⟩) (wr.drewN n) := fun n => conv_row rfl (own_below HO.out (pw_below_drewN (Below.refl wr.heap.size wr) n) (Nat.le_refl _))
        go_wp2
        go_ret3
        refine (show QPost w s (uqR (some (b, t))) _ _ from ?_)
        unfold uqR
        dsimp only
        rw [if_pos HT.out]
        exact ⟨by repeat (first | exact HB.out | apply pw_below_drewN | apply below_drew1), rfl⟩
      · have HN := Aside0.mk (show ¬ (t.size = 0 ∨ bN t 0 = 34) by omega)
        have C := Aside0.mk (uqc_calls (t := t) (w := wr) (HX.out.below HB.out) (by have := HU.out.2.2.2; omega) ht0 h34)
        have q3 : ((bN t 0 : Int) != 34) = true := ne_c 34 h34
        have q4 : ((bN t 0 : Int) == 34) = false := ne_b 34 h34
        obtain ⟨c, hc⟩ : ∃ c, bN t 0 = c := ⟨_, rfl⟩
        have HC := Aside0.mk hc
        rw [hc] at hb0 q3 q4
        clear hc h34
        go_wp2_with fail
        refine C.out.mono ?_
        clear C
        rintro x w2 hO
        have HB2 := Aside0.mk (below_step HB.out hO.1)
        have HO2 := Aside0.mk (own_below HO.out hO.1 (Nat.le_refl _))
        have hX2 := HX.out.below HB2.out
        obtain ⟨ez, hz⟩ := hX2.s
        unfold errV at hz
        clear hX2
        cases hU : uqC t with
        | none =>
          rw [hU] at hO
          obtain ⟨hb, ev, em, er, eb, rfl⟩ := hO
          have hR := (uqL_bad (f := g) (b := b) HN.out hU).symm.trans HU.out.1
          subst hR
          clear hb hU
          unfold errV
          cases q5 : ((c : Int) == 10)
          · go_wp2
            go_quiet (fail)
            go_wp2
            go_ret3
            exact ⟨by repeat (first | exact HB2.out | apply pw_below_drewN | apply below_drew1), _, _, rfl⟩
          · go_wp2
            go_quiet (fail)
            go_wp2
            go_ret3
            exact ⟨by repeat (first | exact HB2.out | apply pw_below_drewN | apply below_drew1), _, _, rfl⟩
        | some u =>
          rw [hU] at hO
          obtain ⟨hb, rfl⟩ := hO
          have UK := Aside0.mk (uqC_ok ht0 hU)
          have HV := Aside0.mk hU
          clear hb hU
          by_cases h10 : c = 10
          · have hR := (uqL_nl (f := g) (b := b) HN.out HV.out (HC.out.trans h10)).symm.trans HU.out.1
            subst hR
            subst h10
            go_wp2
            go_quiet (fail)
            go_wp2
            go_ret3
            exact ⟨by repeat (first | exact HB2.out | apply pw_below_drewN | apply below_drew1), _, _, rfl⟩
          · have q5 : ((c : Int) == 10) = false := ne_b 10 h10
            have HU2 := Aside0.mk ((uqL_step (f := g) (b := b) HN.out HV.out (by rw [HC.out]; exact h10)).symm.trans HU.out.1)
            have HL := Aside0.mk (show (b ++ uqB u).length ≤ b.length + 4 ∧ (b ++ uqB u).length + 4 * u.r.size ≤ 4 * s.size ∧ u.r.size < g ∧ u.r.size < s.size by
              have h1 := uqB_len u
              have h2 := HU.out.2
              have h3 := UK.out.1
              rw [List.length_append]
              omega)
            obtain ⟨uv, um, ur⟩ := u
            by_cases hsm : uv < 128 ∨ um = false
            · have HS := Aside0.mk (show uqB ⟨uv, um, ur⟩ = [UInt8.ofNat (uv % 256).toNat] from if_pos hsm)
              rw [HS.out] at HU2 HL
              have hvl : (uv % 256).toNat < 256 := by omega
              have hcv : Lib.byteCells [UInt8.ofNat (uv % 256).toNat] = [.int .u8 (uv % 256)] := by
                unfold Lib.byteCells
                have : (UInt8.ofNat (uv % 256).toNat).toNat = (uv % 256).toNat := by rw [UInt8.toNat_ofNat']; exact Nat.mod_eq_of_lt hvl
                simp only [List.map_cons, List.map_nil, this]
                congr 2
                omega
              have HCV := Aside0.mk hcv
              clear hcv hvl
              rcases (show uv < 128 ∨ (¬ uv < 128 ∧ um = false) by rcases hsm with h | h; exact .inl h; by_cases h2 : uv < 128; exact .inl h2; exact .inr ⟨h2, h⟩) with h128 | ⟨h128, hm⟩
              · have q6 : decide (uv < 128) = true := decide_eq_true h128
                go_wp2_with (at_builtin; refine wpList_append_own _ rfl _ _ 83 rfl w.heap.size 5 i0 (.int .u8 0) 1 1 Tryz.underlying83 ti hz0 hz1 hz2 rfl (by decide) _ _ _ rfl (HO2.out.alloc _) ⟨w2.heap.size, 0, none⟩ 1 1 [.int .u8 (uv % 256)] rfl rfl ?c1 ?c2 ?c3 ?c4 ?c5 ?_)
                case c1 =>
                  intro j u hj
                  match j, hj with
                  | 0, hj => simp at hj; subst hj; simp [Addr.add]
                case c2 => intro u hu; simp at hu; subst hu; rfl
                case c3 => have := HU.out.2; unfold maxLen; omega
                case c4 => have := HU.out.2; omega
                case c5 => have := HB2.out.size; simp; omega
                intro v' w3 hown' hgrow' _
                have HB3 := Aside0.mk ((below_alloc HB2.out _).grown hgrow' (by have := HB2.out.size; simp; omega) (fun j hj => (HO2.out.lt j hj).1))
                rw [← HCV.out] at hown'
                have HO3 := Aside0.mk (show w3.ownsRow w.heap.size 5 1 v' (b ++ [UInt8.ofNat (uv % 256).toNat]).length (Lib.byteCells (b ++ [UInt8.ofNat (uv % 256).toNat])) by
                  rw [List.length_append, Lib.byteCells_append]; exact hown')
                clear hown' hgrow'
                go_wp2
                go_roundw
                case rel => exact ⟨ur, b ++ [UInt8.ofNat (uv % 256).toNat], g, rfl, HO3, HB3, HU2.out, by have := HL.out; omega, by have := HL.out; omega, by have := HL.out; omega⟩
                case measure => have := UK.out.1; simp [vSize]; omega
              · have q6 : decide (uv < 128) = false := decide_eq_false h128
                subst hm
                go_wp2_with (at_builtin; refine wpList_append_own _ rfl _ _ 83 rfl w.heap.size 5 i0 (.int .u8 0) 1 1 Tryz.underlying83 ti hz0 hz1 hz2 rfl (by decide) _ _ _ rfl (HO2.out.alloc _) ⟨w2.heap.size, 0, none⟩ 1 1 [.int .u8 (uv % 256)] rfl rfl ?c1 ?c2 ?c3 ?c4 ?c5 ?_)
                case c1 =>
                  intro j u hj
                  match j, hj with
                  | 0, hj => simp at hj; subst hj; simp [Addr.add]
                case c2 => intro u hu; simp at hu; subst hu; rfl
                case c3 => have := HU.out.2; unfold maxLen; omega
                case c4 => have := HU.out.2; omega
                case c5 => have := HB2.out.size; simp; omega
                intro v' w3 hown' hgrow' _
                have HB3 := Aside0.mk ((below_alloc HB2.out _).grown hgrow' (by have := HB2.out.size; simp; omega) (fun j hj => (HO2.out.lt j hj).1))
                rw [← HCV.out] at hown'
                have HO3 := Aside0.mk (show w3.ownsRow w.heap.size 5 1 v' (b ++ [UInt8.ofNat (uv % 256).toNat]).length (Lib.byteCells (b ++ [UInt8.ofNat (uv % 256).toNat])) by
                  rw [List.length_append, Lib.byteCells_append]; exact hown')
                clear hown' hgrow'
                go_wp2
                go_roundw
                case rel => exact ⟨ur, b ++ [UInt8.ofNat (uv % 256).toNat], g, rfl, HO3, HB3, HU2.out, by have := HL.out; omega, by have := HL.out; omega, by have := HL.out; omega⟩
                case measure => have := UK.out.1; simp [vSize]; omega
            · have HS := Aside0.mk (show uqB ⟨uv, um, ur⟩ = Lib.encodeRune uv from if_neg hsm)
              rw [HS.out] at HU2 HL
              have h128 : ¬ uv < 128 := fun h => hsm (.inl h)
              have q6 : decide (uv < 128) = false := decide_eq_false h128
              have hm : um = true := by cases um; exact absurd (.inr rfl) hsm; rfl
              subst hm
              have AR := Aside0.mk (fun W (hb : Below w2.heap.size w2 W) => Tryz.utf8_AppendRune_plain w.heap.size u14 b.length (Lib.byteCells b) uv (by omega) (UK.out.2 rfl).2 W (own_below HO2.out hb (Nat.le_refl _)) (by have := HU.out.2; omega) (Nat.le_trans HB2.out.size hb.size))
              go_wp2_with fail
              refine (AR.out _ (Below.refl _ _)).mono ?_
              clear AR
              rintro x w3 ⟨v', rfl, hown', o, hg⟩
              have HB3 := Aside0.mk ((below_alloc HB2.out o).grown hg (by have := HB2.out.size; simp; omega) (fun j hj => (HO2.out.lt j hj).1))
              have HO3 := Aside0.mk (show w3.ownsRow w.heap.size 5 1 v' (b ++ Lib.encodeRune uv).length (Lib.byteCells (b ++ Lib.encodeRune uv)) by
                rw [List.length_append, Lib.byteCells_append, Lib.byteCells_encodeRune, ← Lib.runeCells_length]; exact hown')
              clear hown' hg
              go_wp2
              go_roundw
              case rel => exact ⟨ur, b ++ Lib.encodeRune uv, g, rfl, HO3, HB3, HU2.out, by have := HL.out; omega, by have := HL.out; omega, by have := HL.out; omega⟩
              case measure => have := UK.out.1; simp [vSize]; omega
set_option maxHeartbeats 6400000 in
set_option maxRecDepth 100000 in
theorem unq_slow_b (hX : UX w) (hs : s.size ≤ 2147483647) (h2 : 2 ≤ s.size) (e0 : (s[0]'(by omega)).toNat = 34) (hi : Lib.indexByte (s.extract 1 s.size).data.toList (UInt8.ofNat 34) = (k : Int)) (hk : k + 1 < s.size)
    (h92 : hasB (s.extract 0 (k + 2)) (UInt8.ofNat 92) = false) (h10 : hasB (s.extract 0 (k + 2)) (UInt8.ofNat 10) = true) :
    Calls Tryz.prog 69 #[.string s, .bool true] w (QPost w s (uqR (uqL (s.size + 1) (s.extract 1 s.size) []))) := by
  have I := sindex_calls (s.extract 1 s.size) 34 w
  rw [hi] at I
  replace I := Aside0.mk I
  have C1 := scontains_calls (s.extract 0 (k + 2)) 92 w
  rw [show (s.extract 0 (k + 2)).data.toList.contains (UInt8.ofNat 92) = false from h92] at C1
  replace C1 := Aside0.mk C1
  have C2 := scontains_calls (s.extract 0 (k + 2)) 10 w
  rw [show (s.extract 0 (k + 2)).data.toList.contains (UInt8.ofNat 10) = true from h10] at C2
  replace C2 := Aside0.mk C2
  have HX := Aside0.mk hX
  have hnot : ∀ (x : Bool) (w : World), (Op.unary .not (.bool x)).run Tryz.prog w = .ok (.bool (!x)) w := fun _ _ => rfl
  obtain ⟨i0, ti, hz0, hz1, hz2⟩ := info_parts infoU8
  obtain ⟨R, hR⟩ : ∃ R, uqL (s.size + 1) (s.extract 1 s.size) [] = R := ⟨_, rfl⟩
  have hsz : (s.extract 1 s.size).size = s.size - 1 := by rw [ByteArray.size_extract]; omega
  have HR := Aside0.mk (And.intro hR hsz)
  clear hsz
  rw [hR]
  clear hi h92 h10 hX hR
  go_enter Tryz.func69, Tryz.ntmps69
  go_wp2_with fail
  refine I.out.mono ?_
  rintro x w1 ⟨rfl, e⟩
  obtain rfl := e.symm
  clear I
  go_wp2_with fail
  refine C1.out.mono ?_
  rintro x w1 ⟨rfl, e⟩
  obtain rfl := e.symm
  clear C1
  go_wp2_with fail
  refine C2.out.mono ?_
  rintro x w1 ⟨rfl, e⟩
  obtain rfl := e.symm
  clear C2
  have HB0 := Aside0.mk (Below.refl w.heap.size w)
  go_wp2_with (at_make; refine wpList_make_own _ rfl _ _ 83 rfl w.heap.size 5 i0 (.int .u8 0) 1 Tryz.underlying83 ti hz0 hz1 .i64 .i64 _ (3 * (k + 2) / 2) rfl rfl ?hC (by rw [hz2]; omega) (by unfold maxLen; omega) (by have := HB0.out.size; omega) ?_; (case hC => first | (go_simp; omega) | omega | trace_state); intro w1 hown hgrow)
  have HB1 := Aside0.mk (HB0.out.grown hgrow HB0.out.size (fun k e => by cases e))
  clear hgrow
  go_loopw [0, 14] (fun v0 v14 wr => ∃ (t : ByteArray) (b : List UInt8) (f : Nat), v0 = .string t ∧ Aside0 (wr.ownsRow w.heap.size 5 1 v14 b.length (Lib.byteCells b)) ∧ Aside0 (Below w.heap.size w wr) ∧ Aside0 (uqL f t b = R ∧ t.size < f ∧ b.length + 4 * t.size ≤ 4 * s.size ∧ t.size < s.size)) (fun v0 _ _ => vSize v0)
  case atStart => exact ⟨_, [], s.size + 1, rfl, ⟨hown⟩, HB1, ⟨HR.out.1, by have := HR.out.2; omega, by have := HR.out.2; simp; omega, by have := HR.out.2; omega⟩⟩
  case round =>
    clear hown HB1
    obtain ⟨t, b, f, rfl, HO, HB, HU⟩ := hrel
    obtain ⟨g, rfl⟩ : ∃ g, f = g + 1 := ⟨f - 1, by have := HU.out.2.1; omega⟩
    by_cases ht : t.size = 0
    · have hR := (uqL_end (f := g) (b := b) (.inl ht)).symm.trans HU.out.1
      subst hR
      have q1 : decide ((t.size : Int) > 0) = false := decide_eq_false (by omega)
      have q2 : decide ((0 : Int) < t.size) = false := q1
      have hX2 := HX.out.below HB.out
      obtain ⟨ez, hz⟩ := hX2.s
      unfold errV at hz
      clear hX2
      have HT := Aside0.mk ht
      go_wp2
      go_quiet (fail)
      go_wp2
      go_ret3
      refine (show QPost w s (uqR (some (b, t))) _ _ from ?_)
      unfold uqR
      dsimp only
      rw [if_neg (by rw [HT.out]; rintro ⟨h, _⟩; exact absurd h (by decide))]
      exact ⟨by repeat (first | exact HB.out | apply pw_below_drewN | apply below_drew1), _, _, rfl⟩
    · have ht0 : 0 < t.size := by omega
      have hb0 := bN_at ht0
      have q1 : decide ((t.size : Int) > 0) = true := decide_eq_true (by omega)
      have q2 : decide ((0 : Int) < t.size) = true := q1
      by_cases h34 : bN t 0 = 34
      · have hR := (uqL_end (f := g) (b := b) (.inr h34)).symm.trans HU.out.1
        subst hR
        have HT := Aside0.mk (show 0 < t.size ∧ bN t 0 = 34 from ⟨ht0, h34⟩)
        rw [h34] at hb0
        have hcv := conv_row rfl HO.out
        have hcv2 : ∀ n, (convert 83 9 u14).run Tryz.prog (wr.drewN n) = .ok (.string ⟨b.toArray⟩) (wr.drewN n) := fun n => conv_row rfl (own_below HO.out (pw_below_drewN (Below.refl wr.heap.size wr) n) (Nat.le_refl _))
        go_wp2
        go_ret3
        refine (show QPost w s (uqR (some (b, t))) _ _ from ?_)
        unfold uqR
        dsimp only
        rw [if_pos HT.out]
        exact ⟨by repeat (first | exact HB.out | apply pw_below_drewN | apply below_drew1), rfl⟩
      · have HN := Aside0.mk (show ¬ (t.size = 0 ∨ bN t 0 = 34) by omega)
        have C := Aside0.mk (uqc_calls (t := t) (w := wr) (HX.out.below HB.out) (by have := HU.out.2.2.2; omega) ht0 h34)
        have q3 : ((bN t 0 : Int) != 34) = true := ne_c 34 h34
        have q4 : ((bN t 0 : Int) == 34) = false := ne_b 34 h34
        obtain ⟨c, hc⟩ : ∃ c, bN t 0 = c := ⟨_, rfl⟩
        have HC := Aside0.mk hc
        rw [hc] at hb0 q3 q4
        clear hc h34
        go_wp2_with fail
        refine C.out.mono ?_
        clear C
        rintro x w2 hO
        have HB2 := Aside0.mk (below_step HB.out hO.1)
        have HO2 := Aside0.mk (own_below HO.out hO.1 (Nat.le_refl _))
        have hX2 := HX.out.below HB2.out
        obtain ⟨ez, hz⟩ := hX2.s
        unfold errV at hz
        clear hX2
        cases hU : uqC t with
        | none =>
          rw [hU] at hO
          obtain ⟨hb, ev, em, er, eb, rfl⟩ := hO
          have hR := (uqL_bad (f := g) (b := b) HN.out hU).symm.trans HU.out.1
          subst hR
          clear hb hU
          unfold errV
          cases q5 : ((c : Int) == 10)
          · go_wp2
            go_quiet (fail)
            go_wp2
            go_ret3
            exact ⟨by repeat (first | exact HB2.out | apply pw_below_drewN | apply below_drew1), _, _, rfl⟩
          · go_wp2
            go_quiet (fail)
            go_wp2
            go_ret3
            exact ⟨by repeat (first | exact HB2.out | apply pw_below_drewN | apply below_drew1), _, _, rfl⟩
        | some u =>
          rw [hU] at hO
          obtain ⟨hb, rfl⟩ := hO
          have UK := Aside0.mk (uqC_ok ht0 hU)
          have HV := Aside0.mk hU
          clear hb hU
          by_cases h10 : c = 10
          · have hR := (uqL_nl (f := g) (b := b) HN.out HV.out (HC.out.trans h10)).symm.trans HU.out.1
            subst hR
            subst h10
            go_wp2
            go_quiet (fail)
            go_wp2
            go_ret3
            exact ⟨by repeat (first | exact HB2.out | apply pw_below_drewN | apply below_drew1), _, _, rfl⟩
          · have q5 : ((c : Int) == 10) = false := ne_b 10 h10
            have HU2 := Aside0.mk ((uqL_step (f := g) (b := b) HN.out HV.out (by rw [HC.out]; exact h10)).symm.trans HU.out.1)
            have HL := Aside0.mk (show (b ++ uqB u).length ≤ b.length + 4 ∧ (b ++ uqB u).length + 4 * u.r.size ≤ 4 * s.size ∧ u.r.size < g ∧ u.r.size < s.size by
              have h1 := uqB_len u
              have h2 := HU.out.2
              have h3 := UK.out.1
              rw [List.length_append]
              omega)
            obtain ⟨uv, um, ur⟩ := u
            by_cases hsm : uv < 128 ∨ um = false
            · have HS := Aside0.mk (show uqB ⟨uv, um, ur⟩ = [UInt8.ofNat (uv % 256).toNat] from if_pos hsm)
              rw [HS.out] at HU2 HL
              have hvl : (uv % 256).toNat < 256 := by omega
              have hcv : Lib.byteCells [UInt8.ofNat (uv % 256).toNat] = [.int .u8 (uv % 256)] := by
                unfold Lib.byteCells
                have : (UInt8.ofNat (uv % 256).toNat).toNat = (uv % 256).toNat := by rw [UInt8.toNat_ofNat']; exact Nat.mod_eq_of_lt hvl
                simp only [List.map_cons, List.map_nil, this]
                congr 2
                omega
              have HCV := Aside0.mk hcv
              clear hcv hvl
              rcases (show uv < 128 ∨ (¬ uv < 128 ∧ um = false) by rcases hsm with h | h; exact .inl h; by_cases h2 : uv < 128; exact .inl h2; exact .inr ⟨h2, h⟩) with h128 | ⟨h128, hm⟩
              · have q6 : decide (uv < 128) = true := decide_eq_true h128
                go_wp2_with (at_builtin; refine wpList_append_own _ rfl _ _ 83 rfl w.heap.size 5 i0 (.int .u8 0) 1 1 Tryz.underlying83 ti hz0 hz1 hz2 rfl (by decide) _ _ _ rfl (HO2.out.alloc _) ⟨w2.heap.size, 0, none⟩ 1 1 [.int .u8 (uv % 256)] rfl rfl ?c1 ?c2 ?c3 ?c4 ?c5 ?_)
                case c1 =>
                  intro j u hj
                  match j, hj with
                  | 0, hj => simp at hj; subst hj; simp [Addr.add]
                case c2 => intro u hu; simp at hu; subst hu; rfl
                case c3 => have := HU.out.2; unfold maxLen; omega
                case c4 => have := HU.out.2; omega
                case c5 => have := HB2.out.size; simp; omega
                intro v' w3 hown' hgrow' _
                have HB3 := Aside0.mk ((below_alloc HB2.out _).grown hgrow' (by have := HB2.out.size; simp; omega) (fun j hj => (HO2.out.lt j hj).1))
                rw [← HCV.out] at hown'
                have HO3 := Aside0.mk (show w3.ownsRow w.heap.size 5 1 v' (b ++ [UInt8.ofNat (uv % 256).toNat]).length (Lib.byteCells (b ++ [UInt8.ofNat (uv % 256).toNat])) by
                  rw [List.length_append, Lib.byteCells_append]; exact hown')
                clear hown' hgrow'
                go_wp2
                go_roundw
                case rel => exact ⟨ur, b ++ [UInt8.ofNat (uv % 256).toNat], g, rfl, HO3, HB3, HU2.out, by have := HL.out; omega, by have := HL.out; omega, by have := HL.out; omega⟩
                case measure => have := UK.out.1; simp [vSize]; omega
              · have q6 : decide (uv < 128) = false := decide_eq_false h128
                subst hm
                go_wp2_with (at_builtin; refine wpList_append_own _ rfl _ _ 83 rfl w.heap.size 5 i0 (.int .u8 0) 1 1 Tryz.underlying83 ti hz0 hz1 hz2 rfl (by decide) _ _ _ rfl (HO2.out.alloc _) ⟨w2.heap.size, 0, none⟩ 1 1 [.int .u8 (uv % 256)] rfl rfl ?c1 ?c2 ?c3 ?c4 ?c5 ?_)
                case c1 =>
                  intro j u hj
                  match j, hj with
                  | 0, hj => simp at hj; subst hj; simp [Addr.add]
                case c2 => intro u hu; simp at hu; subst hu; rfl
                case c3 => have := HU.out.2; unfold maxLen; omega
                case c4 => have := HU.out.2; omega
                case c5 => have := HB2.out.size; simp; omega
                intro v' w3 hown' hgrow' _
                have HB3 := Aside0.mk ((below_alloc HB2.out _).grown hgrow' (by have := HB2.out.size; simp; omega) (fun j hj => (HO2.out.lt j hj).1))
                rw [← HCV.out] at hown'
                have HO3 := Aside0.mk (show w3.ownsRow w.heap.size 5 1 v' (b ++ [UInt8.ofNat (uv % 256).toNat]).length (Lib.byteCells (b ++ [UInt8.ofNat (uv % 256).toNat])) by
                  rw [List.length_append, Lib.byteCells_append]; exact hown')
                clear hown' hgrow'
                go_wp2
                go_roundw
                case rel => exact ⟨ur, b ++ [UInt8.ofNat (uv % 256).toNat], g, rfl, HO3, HB3, HU2.out, by have := HL.out; omega, by have := HL.out; omega, by have := HL.out; omega⟩
                case measure => have := UK.out.1; simp [vSize]; omega
            · have HS := Aside0.mk (show uqB ⟨uv, um, ur⟩ = Lib.encodeRune uv from if_neg hsm)
              rw [HS.out] at HU2 HL
              have h128 : ¬ uv < 128 := fun h => hsm (.inl h)
              have q6 : decide (uv < 128) = false := decide_eq_false h128
              have hm : um = true := by cases um; exact absurd (.inr rfl) hsm; rfl
              subst hm
              have AR := Aside0.mk (fun W (hb : Below w2.heap.size w2 W) => Tryz.utf8_AppendRune_plain w.heap.size u14 b.length (Lib.byteCells b) uv (by omega) (UK.out.2 rfl).2 W (own_below HO2.out hb (Nat.le_refl _)) (by have := HU.out.2; omega) (Nat.le_trans HB2.out.size hb.size))
              go_wp2_with fail
              refine (AR.out _ (Below.refl _ _)).mono ?_
              clear AR
              rintro x w3 ⟨v', rfl, hown', o, hg⟩
              have HB3 := Aside0.mk ((below_alloc HB2.out o).grown hg (by have := HB2.out.size; simp; omega) (fun j hj => (HO2.out.lt j hj).1))
              have HO3 := Aside0.mk (show w3.ownsRow w.heap.size 5 1 v' (b ++ Lib.encodeRune uv).length (Lib.byteCells (b ++ Lib.encodeRune uv)) by
                rw [List.length_append, Lib.byteCells_append, Lib.byteCells_encodeRune, ← Lib.runeCells_length]; exact hown')
              clear hown' hg
              go_wp2
              go_roundw
              case rel => exact ⟨ur, b ++ Lib.encodeRune uv, g, rfl, HO3, HB3, HU2.out, by have := HL.out; omega, by have := HL.out; omega, by have := HL.out; omega⟩
              case measure => have := UK.out.1; simp [vSize]; omega
set_option maxHeartbeats 6400000 in
set_option maxRecDepth 100000 in
theorem unq_slow_c (hX : UX w) (hs : s.size ≤ 2147483647) (h2 : 2 ≤ s.size) (e0 : (s[0]'(by omega)).toNat = 34) (hi : Lib.indexByte (s.extract 1 s.size).data.toList (UInt8.ofNat 34) = (k : Int)) (hk : k + 1 < s.size)
    (h92 : hasB (s.extract 0 (k + 2)) (UInt8.ofNat 92) = false) (h10 : hasB (s.extract 0 (k + 2)) (UInt8.ofNat 10) = false) (hv : Lib.validD (s.extract 1 (k + 1)).data.toList = false) :
    Calls Tryz.prog 69 #[.string s, .bool true] w (QPost w s (uqR (uqL (s.size + 1) (s.extract 1 s.size) []))) := by
  have I := sindex_calls (s.extract 1 s.size) 34 w
  rw [hi] at I
  replace I := Aside0.mk I
  have C1 := scontains_calls (s.extract 0 (k + 2)) 92 w
  rw [show (s.extract 0 (k + 2)).data.toList.contains (UInt8.ofNat 92) = false from h92] at C1
  replace C1 := Aside0.mk C1
  have C2 := scontains_calls (s.extract 0 (k + 2)) 10 w
  rw [show (s.extract 0 (k + 2)).data.toList.contains (UInt8.ofNat 10) = false from h10] at C2
  replace C2 := Aside0.mk C2
  have V := Tryz.utf8_ValidString (s.extract 1 (k + 1)) w (by rw [ext_size (by omega)]; omega) hX.t.1
  rw [hv] at V
  replace V := Aside0.mk V
  have HX := Aside0.mk hX
  have hnot : ∀ (x : Bool) (w : World), (Op.unary .not (.bool x)).run Tryz.prog w = .ok (.bool (!x)) w := fun _ _ => rfl
  obtain ⟨i0, ti, hz0, hz1, hz2⟩ := info_parts infoU8
  obtain ⟨R, hR⟩ : ∃ R, uqL (s.size + 1) (s.extract 1 s.size) [] = R := ⟨_, rfl⟩
  have hsz : (s.extract 1 s.size).size = s.size - 1 := by rw [ByteArray.size_extract]; omega
  have HR := Aside0.mk (And.intro hR hsz)
  clear hsz
  rw [hR]
  clear hi h92 h10 hv hX hR
  go_enter Tryz.func69, Tryz.ntmps69
  go_wp2_with fail
  refine I.out.mono ?_
  rintro x w1 ⟨rfl, e⟩
  obtain rfl := e.symm
  clear I
  go_wp2_with fail
  refine C1.out.mono ?_
  rintro x w1 ⟨rfl, e⟩
  obtain rfl := e.symm
  clear C1
  go_wp2_with fail
  refine C2.out.mono ?_
  rintro x w1 ⟨rfl, e⟩
  obtain rfl := e.symm
  clear C2
  have hsl : ∀ W, (Instr.slice 9 (.string s) (some (.int .i64 1)) (some (.int .i64 ((k : Int) + 2 - 1))) none).run Tryz.prog W = .ok (.string (s.extract 1 (k + 1))) W := by
    intro W
    rw [show (k : Int) + 2 - 1 = ((k + 1 : Nat) : Int) by omega, run_slice_string_if _ _ s .i64 .i64 1 _ Tryz.underlying9, if_pos (by omega), if_pos (by omega)]
    rfl
  go_wp2_with fail
  refine V.out.mono ?_
  rintro x w1 ⟨rfl, hb⟩
  clear V
  have HB0 := Aside0.mk hb
  clear hb
  go_wp2_with (at_make; refine wpList_make_own _ rfl _ _ 83 rfl w.heap.size 5 i0 (.int .u8 0) 1 Tryz.underlying83 ti hz0 hz1 .i64 .i64 _ (3 * (k + 2) / 2) rfl rfl ?hC (by rw [hz2]; omega) (by unfold maxLen; omega) (by have := HB0.out.size; omega) ?_; (case hC => first | (go_simp; omega) | omega | trace_state); intro w1 hown hgrow)
  have HB1 := Aside0.mk (HB0.out.grown hgrow HB0.out.size (fun k e => by cases e))
  clear hgrow
  go_loopw [0, 14] (fun v0 v14 wr => ∃ (t : ByteArray) (b : List UInt8) (f : Nat), v0 = .string t ∧ Aside0 (wr.ownsRow w.heap.size 5 1 v14 b.length (Lib.byteCells b)) ∧ Aside0 (Below w.heap.size w wr) ∧ Aside0 (uqL f t b = R ∧ t.size < f ∧ b.length + 4 * t.size ≤ 4 * s.size ∧ t.size < s.size)) (fun v0 _ _ => vSize v0)
  case atStart => exact ⟨_, [], s.size + 1, rfl, ⟨hown⟩, HB1, ⟨HR.out.1, by have := HR.out.2; omega, by have := HR.out.2; simp; omega, by have := HR.out.2; omega⟩⟩
  case round =>
    clear hown HB1
    obtain ⟨t, b, f, rfl, HO, HB, HU⟩ := hrel
    obtain ⟨g, rfl⟩ : ∃ g, f = g + 1 := ⟨f - 1, by have := HU.out.2.1; omega⟩
    by_cases ht : t.size = 0
    · have hR := (uqL_end (f := g) (b := b) (.inl ht)).symm.trans HU.out.1
      subst hR
      have q1 : decide ((t.size : Int) > 0) = false := decide_eq_false (by omega)
      have q2 : decide ((0 : Int) < t.size) = false := q1
      have hX2 := HX.out.below HB.out
      obtain ⟨ez, hz⟩ := hX2.s
      unfold errV at hz
      clear hX2
      have HT := Aside0.mk ht
      go_wp2
      go_quiet (fail)
      go_wp2
      go_ret3
      refine (show QPost w s (uqR (some (b, t))) _ _ from ?_)
      unfold uqR
      dsimp only
      rw [if_neg (by rw [HT.out]; rintro ⟨h, _⟩; exact absurd h (by decide))]
      exact ⟨by repeat (first | exact HB.out | apply pw_below_drewN | apply below_drew1), _, _, rfl⟩
    · have ht0 : 0 < t.size := by omega
      have hb0 := bN_at ht0
      have q1 : decide ((t.size : Int) > 0) = true := decide_eq_true (by omega)
      have q2 : decide ((0 : Int) < t.size) = true := q1
      by_cases h34 : bN t 0 = 34
      · have hR := (uqL_end (f := g) (b := b) (.inr h34)).symm.trans HU.out.1
        subst hR
        have HT := Aside0.mk (show 0 < t.size ∧ bN t 0 = 34 from ⟨ht0, h34⟩)
        rw [h34] at hb0
        have hcv := conv_row rfl HO.out
        have hcv2 : ∀ n, (convert 83 9 u14).run Tryz.prog (wr.drewN n) = .ok (.string ⟨b.toArray⟩) (wr.drewN n) := fun n => conv_row rfl (own_below HO.out (pw_below_drewN (Below.refl wr.heap.size wr) n) (Nat.le_refl _))
        go_wp2
        go_ret3
        refine (show QPost w s (uqR (some (b, t))) _ _ from ?_)
        unfold uqR
        dsimp only
        rw [if_pos HT.out]
        exact ⟨by repeat (first | exact HB.out | apply pw_below_drewN | apply below_drew1), rfl⟩
      · have HN := Aside0.mk (show ¬ (t.size = 0 ∨ bN t 0 = 34) by omega)
        have C := Aside0.mk (uqc_calls (t := t) (w := wr) (HX.out.below HB.out) (by have := HU.out.2.2.2; omega) ht0 h34)
        have q3 : ((bN t 0 : Int) != 34) = true := ne_c 34 h34
        have q4 : ((bN t 0 : Int) == 34) = false := ne_b 34 h34
        obtain ⟨c, hc⟩ : ∃ c, bN t 0 = c := ⟨_, rfl⟩
        have HC := Aside0.mk hc
        rw [hc] at hb0 q3 q4
        clear hc h34
        go_wp2_with fail
        refine C.out.mono ?_
        clear C
        rintro x w2 hO
        have HB2 := Aside0.mk (below_step HB.out hO.1)
        have HO2 := Aside0.mk (own_below HO.out hO.1 (Nat.le_refl _))
        have hX2 := HX.out.below HB2.out
        obtain ⟨ez, hz⟩ := hX2.s
        unfold errV at hz
        clear hX2
        cases hU : uqC t with
        | none =>
          rw [hU] at hO
          obtain ⟨hb, ev, em, er, eb, rfl⟩ := hO
          have hR := (uqL_bad (f := g) (b := b) HN.out hU).symm.trans HU.out.1
          subst hR
          clear hb hU
          unfold errV
          cases q5 : ((c : Int) == 10)
          · go_wp2
            go_quiet (fail)
            go_wp2
            go_ret3
            exact ⟨by repeat (first | exact HB2.out | apply pw_below_drewN | apply below_drew1), _, _, rfl⟩
          · go_wp2
            go_quiet (fail)
            go_wp2
            go_ret3
            exact ⟨by repeat (first | exact HB2.out | apply pw_below_drewN | apply below_drew1), _, _, rfl⟩
        | some u =>
          rw [hU] at hO
          obtain ⟨hb, rfl⟩ := hO
          have UK := Aside0.mk (uqC_ok ht0 hU)
          have HV := Aside0.mk hU
          clear hb hU
          by_cases h10 : c = 10
          · have hR := (uqL_nl (f := g) (b := b) HN.out HV.out (HC.out.trans h10)).symm.trans HU.out.1
            subst hR
            subst h10
            go_wp2
            go_quiet (fail)
            go_wp2
            go_ret3
            exact ⟨by repeat (first | exact HB2.out | apply pw_below_drewN | apply below_drew1), _, _, rfl⟩
          · have q5 : ((c : Int) == 10) = false := ne_b 10 h10
            have HU2 := Aside0.mk ((uqL_step (f := g) (b := b) HN.out HV.out (by rw [HC.out]; exact h10)).symm.trans HU.out.1)
            have HL := Aside0.mk (show (b ++ uqB u).length ≤ b.length + 4 ∧ (b ++ uqB u).length + 4 * u.r.size ≤ 4 * s.size ∧ u.r.size < g ∧ u.r.size < s.size by
              have h1 := uqB_len u
              have h2 := HU.out.2
              have h3 := UK.out.1
              rw [List.length_append]
              omega)
            obtain ⟨uv, um, ur⟩ := u
            by_cases hsm : uv < 128 ∨ um = false
            · have HS := Aside0.mk (show uqB ⟨uv, um, ur⟩ = [UInt8.ofNat (uv % 256).toNat] from if_pos hsm)
              rw [HS.out] at HU2 HL
              have hvl : (uv % 256).toNat < 256 := by omega
              have hcv : Lib.byteCells [UInt8.ofNat (uv % 256).toNat] = [.int .u8 (uv % 256)] := by
                unfold Lib.byteCells
                have : (UInt8.ofNat (uv % 256).toNat).toNat = (uv % 256).toNat := by rw [UInt8.toNat_ofNat']; exact Nat.mod_eq_of_lt hvl
                simp only [List.map_cons, List.map_nil, this]
                congr 2
                omega
              have HCV := Aside0.mk hcv
              clear hcv hvl
              rcases (show uv < 128 ∨ (¬ uv < 128 ∧ um = false) by rcases hsm with h | h; exact .inl h; by_cases h2 : uv < 128; exact .inl h2; exact .inr ⟨h2, h⟩) with h128 | ⟨h128, hm⟩
              · have q6 : decide (uv < 128) = true := decide_eq_true h128
                go_wp2_with (at_builtin; refine wpList_append_own _ rfl _ _ 83 rfl w.heap.size 5 i0 (.int .u8 0) 1 1 Tryz.underlying83 ti hz0 hz1 hz2 rfl (by decide) _ _ _ rfl (HO2.out.alloc _) ⟨w2.heap.size, 0, none⟩ 1 1 [.int .u8 (uv % 256)] rfl rfl ?c1 ?c2 ?c3 ?c4 ?c5 ?_)
                case c1 =>
                  intro j u hj
                  match j, hj with
                  | 0, hj => simp at hj; subst hj; simp [Addr.add]
                case c2 => intro u hu; simp at hu; subst hu; rfl
                case c3 => have := HU.out.2; unfold maxLen; omega
                case c4 => have := HU.out.2; omega
                case c5 => have := HB2.out.size; simp; omega
                intro v' w3 hown' hgrow' _
                have HB3 := Aside0.mk ((below_alloc HB2.out _).grown hgrow' (by have := HB2.out.size; simp; omega) (fun j hj => (HO2.out.lt j hj).1))
                rw [← HCV.out] at hown'
                have HO3 := Aside0.mk (show w3.ownsRow w.heap.size 5 1 v' (b ++ [UInt8.ofNat (uv % 256).toNat]).length (Lib.byteCells (b ++ [UInt8.ofNat (uv % 256).toNat])) by
                  rw [List.length_append, Lib.byteCells_append]; exact hown')
                clear hown' hgrow'
                go_wp2
                go_roundw
                case rel => exact ⟨ur, b ++ [UInt8.ofNat (uv % 256).toNat], g, rfl, HO3, HB3, HU2.out, by have := HL.out; omega, by have := HL.out; omega, by have := HL.out; omega⟩
                case measure => have := UK.out.1; simp [vSize]; omega
              · have q6 : decide (uv < 128) = false := decide_eq_false h128
                subst hm
                go_wp2_with (at_builtin; refine wpList_append_own _ rfl _ _ 83 rfl w.heap.size 5 i0 (.int .u8 0) 1 1 Tryz.underlying83 ti hz0 hz1 hz2 rfl (by decide) _ _ _ rfl (HO2.out.alloc _) ⟨w2.heap.size, 0, none⟩ 1 1 [.int .u8 (uv % 256)] rfl rfl ?c1 ?c2 ?c3 ?c4 ?c5 ?_)
                case c1 =>
                  intro j u hj
                  match j, hj with
                  | 0, hj => simp at hj; subst hj; simp [Addr.add]
                case c2 => intro u hu; simp at hu; subst hu; rfl
                case c3 => have := HU.out.2; unfold maxLen; omega
                case c4 => have := HU.out.2; omega
                case c5 => have := HB2.out.size; simp; omega
                intro v' w3 hown' hgrow' _
                have HB3 := Aside0.mk ((below_alloc HB2.out _).grown hgrow' (by have := HB2.out.size; simp; omega) (fun j hj => (HO2.out.lt j hj).1))
                rw [← HCV.out] at hown'
                have HO3 := Aside0.mk (show w3.ownsRow w.heap.size 5 1 v' (b ++ [UInt8.ofNat (uv % 256).toNat]).length (Lib.byteCells (b ++ [UInt8.ofNat (uv % 256).toNat])) by
                  rw [List.length_append, Lib.byteCells_append]; exact hown')
                clear hown' hgrow'
                go_wp2
                go_roundw
                case rel => exact ⟨ur, b ++ [UInt8.ofNat (uv % 256).toNat], g, rfl, HO3, HB3, HU2.out, by have := HL.out; omega, by have := HL.out; omega, by have := HL.out; omega⟩
                case measure => have := UK.out.1; simp [vSize]; omega
            · have HS := Aside0.mk (show uqB ⟨uv, um, ur⟩ = Lib.encodeRune uv from if_neg hsm)
              rw [HS.out] at HU2 HL
              have h128 : ¬ uv < 128 := fun h => hsm (.inl h)
              have q6 : decide (uv < 128) = false := decide_eq_false h128
              have hm : um = true := by cases um; exact absurd (.inr rfl) hsm; rfl
              subst hm
              have AR := Aside0.mk (fun W (hb : Below w2.heap.size w2 W) => Tryz.utf8_AppendRune_plain w.heap.size u14 b.length (Lib.byteCells b) uv (by omega) (UK.out.2 rfl).2 W (own_below HO2.out hb (Nat.le_refl _)) (by have := HU.out.2; omega) (Nat.le_trans HB2.out.size hb.size))
              go_wp2_with fail
              refine (AR.out _ (Below.refl _ _)).mono ?_
              clear AR
              rintro x w3 ⟨v', rfl, hown', o, hg⟩
              have HB3 := Aside0.mk ((below_alloc HB2.out o).grown hg (by have := HB2.out.size; simp; omega) (fun j hj => (HO2.out.lt j hj).1))
              have HO3 := Aside0.mk (show w3.ownsRow w.heap.size 5 1 v' (b ++ Lib.encodeRune uv).length (Lib.byteCells (b ++ Lib.encodeRune uv)) by
                rw [List.length_append, Lib.byteCells_append, Lib.byteCells_encodeRune, ← Lib.runeCells_length]; exact hown')
              clear hown' hg
              go_wp2
              go_roundw
              case rel => exact ⟨ur, b ++ Lib.encodeRune uv, g, rfl, HO3, HB3, HU2.out, by have := HL.out; omega, by have := HL.out; omega, by have := HL.out; omega⟩
              case measure => have := UK.out.1; simp [vSize]; omega
end
end Go.Proofs.YtmjoebnphacadaaGreatDoor.Lex
/- strconv.Unquote at a text in '"'; parse.token's unquote. -/
namespace Go.Proofs.YtmjoebnphacadaaGreatDoor.Lex
open Go.RowKit Go.Lib Go.Proofs.YtmjoebnphacadaaGreatDoorW.PrintWords Go.Proofs.YtmjoebnphacadaaGreatDoorW.PrintLast Go.Proofs.YtmjoebnphacadaaGreatDoor.Q
set_option linter.unusedVariables false
set_option linter.unusedSimpArgs false
theorem indexByte_has (l : List UInt8) (c : UInt8) (h : c ∈ l) : ∃ k : Nat, Lib.indexByte l c = (k : Int) ∧ k < l.length := by
  induction l with
  | nil => simp at h
  | cons b l ih =>
    unfold Lib.indexByte
    by_cases hb : (b == c) = true
    · rw [if_pos hb]; exact ⟨0, rfl, by simp⟩
    · rw [if_neg hb]
      have hl : c ∈ l := by
        rcases List.mem_cons.1 h with h | h
        · exact absurd (by simp [h]) hb
        · exact h
      obtain ⟨k, hk, hlt⟩ := ih hl
      rw [hk, if_neg (by simp)]
      exact ⟨k + 1, by omega, by simp; omega⟩
/-- A text in '"'. -/
structure Quo (s : ByteArray) : Prop where
  n : 2 ≤ s.size
  a : bN s 0 = 34
  z : bN s (s.size - 1) = 34
theorem Quo.idx {s : ByteArray} (h : Quo s) : ∃ k : Nat, Lib.indexByte (s.extract 1 s.size).data.toList (UInt8.ofNat 34) = (k : Int) ∧ k + 1 < s.size := by
  have hsz : (s.extract 1 s.size).size = s.size - 1 := by rw [ByteArray.size_extract]; omega
  have hn := h.n
  have hm : (UInt8.ofNat 34) ∈ (s.extract 1 s.size).data.toList := by
    have hj : s.size - 2 < (s.extract 1 s.size).size := by omega
    have he : (s.extract 1 s.size)[s.size - 2]'hj = UInt8.ofNat 34 := by
      rw [ByteArray.getElem_extract]
      have hz := h.z
      unfold bN at hz
      rw [dif_pos (by omega)] at hz
      apply UInt8.toNat_inj.1
      rw [show (UInt8.ofNat 34).toNat = 34 from rfl, ← hz]
      congr 2
      omega
    have := List.getElem_mem (l := (s.extract 1 s.size).data.toList) (n := s.size - 2) (by rw [Array.length_toList]; exact hj)
    rw [Array.getElem_toList] at this
    rw [← he]
    exact this
  obtain ⟨k, hk, hlt⟩ := indexByte_has _ _ hm
  refine ⟨k, hk, ?_⟩
  rw [Array.length_toList] at hlt
  have : (s.extract 1 s.size).data.size = (s.extract 1 s.size).size := rfl
  omega
/-- What unquote makes of a text in '"', its first further '"' standing at a place. -/
noncomputable def unqK (s : ByteArray) (k : Nat) : Option (ByteArray × ByteArray) :=
  if hasB (s.extract 0 (k + 2)) (UInt8.ofNat 92) = false ∧ hasB (s.extract 0 (k + 2)) (UInt8.ofNat 10) = false ∧ Lib.validD (s.extract 1 (k + 1)).data.toList = true then some (s.extract 1 (k + 1), s.extract (k + 2) s.size)
  else uqR (uqL (s.size + 1) (s.extract 1 s.size) [])
noncomputable def untR (s : ByteArray) : Option (ByteArray × ByteArray) := unqK s (Lib.indexByte (s.extract 1 s.size).data.toList (UInt8.ofNat 34)).toNat
section
variable {s : ByteArray} {w : World}
theorem unt_calls (hX : UX w) (hs : s.size ≤ 2147483647) (hq : Quo s) : Calls Tryz.prog 69 #[.string s, .bool true] w (QPost w s (untR s)) := by
  obtain ⟨k, hi, hk⟩ := hq.idx
  have e0 := (bN_at (r := s) (j := 0) (by have := hq.n; omega)).trans hq.a
  unfold untR
  rw [show (Lib.indexByte (s.extract 1 s.size).data.toList (UInt8.ofNat 34)).toNat = k by rw [hi]; rfl]
  unfold unqK
  cases h1 : hasB (s.extract 0 (k + 2)) (UInt8.ofNat 92) with
  | true => rw [if_neg (by rintro ⟨h, _⟩; exact absurd h (by decide))]; exact unq_slow_a hX hs hq.n e0 hi hk h1
  | false =>
    cases h2 : hasB (s.extract 0 (k + 2)) (UInt8.ofNat 10) with
    | true => rw [if_neg (by rintro ⟨_, h, _⟩; exact absurd h (by decide))]; exact unq_slow_b hX hs hq.n e0 hi hk h1 h2
    | false =>
      cases h3 : Lib.validD (s.extract 1 (k + 1)).data.toList with
      | false => rw [if_neg (by rintro ⟨_, _, h⟩; exact absurd h (by decide))]; exact unq_slow_c hX hs hq.n e0 hi hk h1 h2 h3
      | true => rw [if_pos ⟨rfl, rfl, rfl⟩]; exact unq_fast hX hs hq.n e0 hi hk h1 h2 h3
/-- What Unquote makes of a text in '"'. -/
noncomputable def unqS (s : ByteArray) : Option ByteArray :=
  match untR s with
  | none => none
  | some (o, r) => if 0 < r.size then none else some o
def VPost (w : World) (R : Option ByteArray) (x : Ending) (w' : World) : Prop := Below w.heap.size w w' ∧ match R with
  | some o => x = .returned (.tuple #[.string o, .nilIface])
  | none => ∃ o b, x = .returned (.tuple #[.string o, errV b])
set_option maxRecDepth 100000 in
set_option maxHeartbeats 1600000 in
theorem unquote_calls (hX : UX w) (hs : s.size ≤ 2147483647) (hq : Quo s) : Calls Tryz.prog 60 #[.string s] w (VPost w (unqS s)) := by
  have C := Aside0.mk (unt_calls hX hs hq)
  have HX := Aside0.mk hX
  have hn := hq.n
  clear hX hq
  go_enter Tryz.func60, Tryz.ntmps60
  go_wp2_with fail
  refine C.out.mono ?_
  clear C
  rintro x w1 hO
  have HB := Aside0.mk hO.1
  have hX2 := HX.out.below HB.out
  obtain ⟨ez, hz⟩ := hX2.s
  unfold errV at hz
  clear hX2
  cases hR : untR s with
  | none =>
    rw [hR] at hO
    obtain ⟨hb, o, b, rfl⟩ := hO
    have HR := Aside0.mk (show unqS s = none by unfold unqS; rw [hR])
    clear hb hR
    have q1 : decide ((s.size : Int) > 0) = true := decide_eq_true (by omega)
    unfold errV
    go_wp2
    go_quiet (fail)
    go_wp2
    go_ret2
    refine (show VPost w (unqS s) _ _ from ?_)
    unfold VPost
    rw [HR.out]
    exact ⟨by repeat (first | exact HB.out | apply pw_below_drewN | apply below_drew1), _, _, rfl⟩
  | some u =>
    obtain ⟨o, r⟩ := u
    rw [hR] at hO
    obtain ⟨hb, rfl⟩ := hO
    by_cases hr : r.size = 0
    · have HR := Aside0.mk (show unqS s = some o by unfold unqS; rw [hR]; exact if_neg (by omega))
      clear hb hR
      go_wp2
      go_ret2
      refine (show VPost w (unqS s) _ _ from ?_)
      unfold VPost
      rw [HR.out]
      exact ⟨by repeat (first | exact HB.out | apply pw_below_drewN | apply below_drew1), rfl⟩
    · have HR := Aside0.mk (show unqS s = none by unfold unqS; rw [hR]; exact if_pos (by omega))
      clear hb hR
      have hr0 : 0 < r.size := by omega
      have q1 : decide ((r.size : Int) > 0) = true := decide_eq_true (by omega)
      go_wp2
      go_quiet (fail)
      go_wp2
      go_ret2
      refine (show VPost w (unqS s) _ _ from ?_)
      unfold VPost
      rw [HR.out]
      exact ⟨by repeat (first | exact HB.out | apply pw_below_drewN | apply below_drew1), _, _, rfl⟩
theorem uqL_len : ∀ (f : Nat) (t : ByteArray) (b : List UInt8) (b' : List UInt8) (t' : ByteArray), uqL f t b = some (b', t') → b'.length ≤ b.length + 4 * t.size
  | 0, _, _, _, _, h => by simp [uqL] at h
  | f + 1, t, b, b', t', h => by
    by_cases he : t.size = 0 ∨ bN t 0 = 34
    · rw [uqL_end he] at h
      cases h
      omega
    · cases hc : uqC t with
      | none => rw [uqL_bad he hc] at h; simp at h
      | some u =>
        by_cases hn : bN t 0 = 10
        · rw [uqL_nl he hc hn] at h; simp at h
        · rw [uqL_step he hc hn] at h
          have h1 := uqL_len f _ _ _ _ h
          have h2 := (uqC_ok (by omega) hc).1
          have h3 := uqB_len u
          rw [List.length_append] at h1
          omega
theorem unqS_len {o : ByteArray} (h : unqS s = some o) : o.size ≤ 4 * s.size := by
  unfold unqS at h
  cases hR : untR s with
  | none => rw [hR] at h; simp at h
  | some u =>
    obtain ⟨p, r⟩ := u
    rw [hR] at h
    dsimp only at h
    by_cases hr : 0 < r.size
    · rw [if_pos hr] at h; simp at h
    · rw [if_neg hr] at h
      obtain rfl := Option.some.inj h
      unfold untR at hR
      generalize (Lib.indexByte (s.extract 1 s.size).data.toList (UInt8.ofNat 34)).toNat = k at hR
      unfold unqK at hR
      split at hR
      · have e := congrArg Prod.fst (Option.some.inj hR)
        dsimp only at e
        rw [← e, ByteArray.size_extract]
        omega
      · generalize hL : uqL (s.size + 1) (s.extract 1 s.size) [] = L at hR
        cases L with
        | none => simp [uqR] at hR
        | some q =>
          obtain ⟨b, t⟩ := q
          have h1 := uqL_len _ _ _ _ _ hL
          unfold uqR at hR
          dsimp only at hR
          split at hR
          · have e := congrArg Prod.fst (Option.some.inj hR)
            dsimp only at e
            rw [← e]
            rw [ByteArray.size_extract] at h1
            have : (⟨b.toArray⟩ : ByteArray).size = b.length := by show b.toArray.size = _; simp
            simp only [List.length_nil] at h1
            omega
          · simp at hR
/-- What a token says: its text, or what stands in its '"'. -/
noncomputable def unqT (k : Nat) (v : ByteArray) : Option ByteArray := if k = 8 then (match unqS v with | none => none | some o => if Lib.validD o.data.toList = true then some o else none) else some v
set_option maxRecDepth 100000 in
set_option maxHeartbeats 1600000 in
theorem tunq_calls (k : Nat) (z1 z2 z3 z4 : Int) (hX : UX w) (hs : s.size ≤ 2147483647) (hq : k = 8 → Quo s) :
    Calls Tryz.prog 44 #[.agg #[.int .i64 (k : Int), .string s, .int .i64 z1, .int .i64 z2, .int .i64 z3, .int .i64 z4]] w (VPost w (unqT k s)) := by
  have HX := Aside0.mk hX
  have hnot : ∀ (x : Bool) (w : World), (Op.unary .not (.bool x)).run Tryz.prog w = .ok (.bool (!x)) w := fun _ _ => rfl
  have HS := Aside0.mk hs
  clear hX hs
  by_cases hk : k = 8
  · subst hk
    have HQ := Aside0.mk (hq rfl)
    clear hq
    have C := Aside0.mk (fun W (hb : Below w.heap.size w W) => unquote_calls (HX.out.below hb) HS.out HQ.out)
    go_enter Tryz.func44, Tryz.ntmps44
    go_wp2_with fail
    refine (C.out _ (below_alloc (Below.refl _ _) _)).mono ?_
    clear C
    rintro x w1 hO
    have HB := Aside0.mk (below_step (below_alloc (Below.refl w.heap.size w) _) hO.1)
    cases hR : unqS s with
    | none =>
      rw [hR] at hO
      obtain ⟨hb, o, b, rfl⟩ := hO
      have HR := Aside0.mk (show unqT 8 s = none by unfold unqT; rw [if_pos rfl, hR])
      clear hb hR
      unfold errV
      go_wp2
      go_ret2
      refine (show VPost w (unqT 8 s) _ _ from ?_)
      unfold VPost
      rw [HR.out]
      exact ⟨by repeat (first | exact HB.out | apply pw_below_drewN | apply below_drew1), _, _, rfl⟩
    | some o =>
      rw [hR] at hO
      obtain ⟨hb, rfl⟩ := hO
      have hlen := unqS_len hR
      have VV := Tryz.utf8_ValidString o w1 (by have := HS.out; omega) (HX.out.below HB.out).t.1
      cases hv : Lib.validD o.data.toList with
      | true =>
        rw [hv] at VV
        have V := Aside0.mk VV
        have HR := Aside0.mk (show unqT 8 s = some o by unfold unqT; rw [if_pos rfl, hR]; exact if_pos hv)
        clear hb hR hv VV hlen
        go_wp2_with fail
        refine V.out.mono ?_
        clear V
        rintro x w2 ⟨rfl, hb⟩
        have HB2 := Aside0.mk (below_step HB.out hb)
        clear hb
        go_wp2
        go_ret2
        refine (show VPost w (unqT 8 s) _ _ from ?_)
        unfold VPost
        rw [HR.out]
        exact ⟨by repeat (first | exact HB2.out | apply pw_below_drewN | apply below_drew1), rfl⟩
      | false =>
        rw [hv] at VV
        have V := Aside0.mk VV
        have HR := Aside0.mk (show unqT 8 s = none by unfold unqT; rw [if_pos rfl, hR]; exact if_neg (by rw [hv]; decide))
        clear hb hR hv VV hlen
        go_wp2_with fail
        refine V.out.mono ?_
        clear V
        rintro x w2 ⟨rfl, hb⟩
        have HB2 := Aside0.mk (below_step HB.out hb)
        clear hb
        go_wp2_with fail
        refine (new_err _ _).mono ?_
        rintro x w3 ⟨rfl, rfl⟩
        unfold errV
        go_wp2
        go_ret2
        refine (show VPost w (unqT 8 s) _ _ from ?_)
        unfold VPost
        rw [HR.out]
        exact ⟨by repeat (first | exact HB2.out | apply below_alloc | apply pw_below_drewN | apply below_drew1), _, _, rfl⟩
  · have q1 : ((k : Int) == 8) = false := ne_b 8 hk
    have HR := Aside0.mk (show unqT k s = some s by unfold unqT; exact if_neg hk)
    clear hq
    go_enter Tryz.func44, Tryz.ntmps44
    go_wp2
    go_ret2
    refine (show VPost w (unqT k s) _ _ from ?_)
    unfold VPost
    rw [HR.out]
    exact ⟨by repeat (first | exact Below.refl _ _ | apply below_alloc | apply pw_below_drewN | apply below_drew1), rfl⟩
end
end Go.Proofs.YtmjoebnphacadaaGreatDoor.Lex
/- parse.parser: accept, expectPeek, expect (printed by wip/tools/gen_exp.py). -/
namespace Go.Proofs.YtmjoebnphacadaaGreatDoor.Lex
open Go.RowKit Go.Lib Go.Proofs.YtmjoebnphacadaaGreatDoorW.PrintWords Go.Proofs.YtmjoebnphacadaaGreatDoorW.PrintLast
set_option linter.unusedVariables false
set_option linter.unusedSimpArgs false
/-- An error that was made meanwhile. -/
def NewErr (w w' : World) (v : Value) : Prop := ∃ a : Addr, v = errV a ∧ w.heap.size ≤ a.block ∧ ∃ cs t, w'.heap[a.block]? = some (.cells cs t (0, 0))
section
variable {w : World} {B o : Nat} {s : ByteArray} {e : Value} {p wd c : Nat} {ea : Addr}
/-- What accept has done. -/
def BPost (w : World) (B o : Nat) (s : ByteArray) (p wd c : Nat) (ks : List Nat) (ea : Addr) (R : TR) (x : Ending) (w' : World) : Prop := Kept B o w w' ∧ match R with
  | .tok k a E ca CE => x = .returned (.tuple #[.bool (ks.contains k), .nilIface]) ∧ ∃ wd', LexAt w' B o s .nilIface (sel (ks.contains k) E p) (sel (ks.contains k) E p) wd' (sel (ks.contains k) CE c) (sel (ks.contains k) CE c)
  | .eof q cq => x = .returned (.tuple #[.bool false, errV ea]) ∧ LexAt w' B o s .nilIface p p wd c c
  | .bad => ∃ r, x = .returned (.tuple #[.bool false, r]) ∧ LexErr r ∧ LexAt w' B o s r p p wd c c
/-- What expectPeek has done. -/
def EPost (w : World) (B o : Nat) (s : ByteArray) (p wd c : Nat) (ks : List Nat) (ea : Addr) (R : TR) (x : Ending) (w' : World) : Prop := Kept B o w w' ∧ match R with
  | .tok k a E ca CE => ∃ r, x = .returned (.tuple #[tokV s k a E ca CE, r]) ∧ (ks.contains k = true → r = .nilIface) ∧ (ks.contains k = false → NewErr w w' r) ∧ LexAt w' B o s .nilIface p p wd c c
  | .eof q cq => x = .returned (.tuple #[noTok, errV ea]) ∧ LexAt w' B o s .nilIface p p wd c c
  | .bad => ∃ r, x = .returned (.tuple #[noTok, r]) ∧ LexErr r ∧ LexAt w' B o s r p p wd c c
/-- What expect has done. -/
def FPost (w : World) (B o : Nat) (s : ByteArray) (p wd c : Nat) (ks : List Nat) (ea : Addr) (R : TR) (x : Ending) (w' : World) : Prop := Kept B o w w' ∧ match R with
  | .tok k a E ca CE => ∃ r, x = .returned (.tuple #[tokV s k a E ca CE, r]) ∧ (ks.contains k = true → r = .nilIface) ∧ (ks.contains k = false → NewErr w w' r) ∧ ∃ wd', LexAt w' B o s .nilIface (sel (ks.contains k) E p) (sel (ks.contains k) E p) wd' (sel (ks.contains k) CE c) (sel (ks.contains k) CE c)
  | .eof q cq => x = .returned (.tuple #[noTok, errV ea]) ∧ LexAt w' B o s .nilIface p p wd c c
  | .bad => ∃ r, x = .returned (.tuple #[noTok, r]) ∧ LexErr r ∧ LexAt w' B o s r p p wd c c
set_option maxHeartbeats 3200000 in
set_option maxRecDepth 100000 in
theorem accept2_calls {w0 : World} (hX : Px w0 w B ea) (h : LexAt w B o s .nilIface p p wd c c) (hs : s.size ≤ 2147483647) (hp : p ≤ s.size) (hc : c ≤ p) (v0 : Value) (g n cap : Nat) (ks : List Nat) (hk : KindsAt w g ks) (hn : ks.length = n) (hn2 : n ≤ 1000) (hg : g < w.heap.size) (hgB : g ≠ B) :
    Calls Tryz.prog 30 #[v0, .pointer (some ⟨B, o, none⟩), .slice (some ⟨g, 0, none⟩) n cap] w (BPost w B o s p wd c ks ea (scanE s (s.size + 1) p c)) := by
  have C := Aside0.mk (acceptPeek_calls hX h hs hp hc v0 g n cap ks hk hn hn2 hg hgB)
  have HX := Aside0.mk hX
  have HB := Aside0.mk h.lt
  have HS := Aside0.mk (And.intro hs (And.intro hp hc))
  clear hX h hk hg hs hp hc
  go_enter Tryz.func30, Tryz.ntmps30
  go_wp2_with fail
  refine C.out.mono ?_
  clear C
  intro x w1 hO
  cases hV : scanE s (s.size + 1) p c with
  | eof q cq =>
    rw [hV] at hO
    obtain ⟨hk, rfl, hl⟩ := hO
    have HK1 := Aside0.mk hk
    have HL1 := Aside0.mk hl
    have HV := Aside0.mk hV
    clear hk hl hV
    unfold errV
    go_wp2
    go_ret2
    refine (show BPost w B o s p wd c ks ea (scanE s (s.size + 1) p c) _ _ from ?_)
    unfold BPost
    rw [HV.out]
    exact ⟨HK1.out, rfl, HL1.out⟩
  | bad =>
    rw [hV] at hO
    obtain ⟨hk, r, rfl, hr, hl⟩ := hO
    have ER := Aside0.mk hr
    have HK1 := Aside0.mk hk
    have HL1 := Aside0.mk hl
    have HV := Aside0.mk hV
    clear hk hl hV hr
    go_wp2
    go_ret2
    refine (show BPost w B o s p wd c ks ea (scanE s (s.size + 1) p c) _ _ from ?_)
    unfold BPost
    rw [HV.out]
    exact ⟨HK1.out, _, rfl, ER.out, HL1.out⟩
  | tok k9 a9 E9 ca9 c9 =>
    rw [hV] at hO
    obtain ⟨hk, rfl, hl⟩ := hO
    have HK1 := Aside0.mk hk
    have HL1 := Aside0.mk hl
    have HV := Aside0.mk hV
    clear hk hl hV
    cases hb : ks.contains k9 with
    | true =>
      have HBB := Aside0.mk hb
      clear hb
      have S := Aside0.mk (scan_calls (HX.out.kept HK1.out).cx HL1.out HS.out.1 HS.out.2.1 HS.out.2.2 _ HV.out)
      go_wp2_with fail
      refine S.out.mono ?_
      rintro x w2 ⟨hk, rfl, wd2, hl⟩
      have HK2 := Aside0.mk (HK1.out.trans hk)
      have HL2 := Aside0.mk hl
      clear hk hl S
      unfold tokV
      go_wp2
      go_ret2
      refine (show BPost w B o s p wd c ks ea (scanE s (s.size + 1) p c) _ _ from ?_)
      unfold BPost
      rw [HV.out]
      dsimp only
      rw [HBB.out]
      exact ⟨HK2.out, rfl, wd2, HL2.out⟩
    | false =>
      have HBB := Aside0.mk hb
      clear hb
      go_wp2
      go_ret2
      refine (show BPost w B o s p wd c ks ea (scanE s (s.size + 1) p c) _ _ from ?_)
      unfold BPost
      rw [HV.out]
      dsimp only
      rw [HBB.out]
      exact ⟨HK1.out, rfl, wd, HL1.out⟩
set_option maxHeartbeats 2000000 in
set_option maxRecDepth 100000 in
theorem expectPeek_calls {w0 : World} (hX : Px w0 w B ea) (h : LexAt w B o s .nilIface p p wd c c) (hs : s.size ≤ 2147483647) (hp : p ≤ s.size) (hc : c ≤ p) (v0 : Value) (g n cap : Nat) (ks : List Nat) (hk : KindsAt w g ks) (hn : ks.length = n) (hn2 : n ≤ 1000) (hg : g < w.heap.size) (hgB : g ≠ B) :
    Calls Tryz.prog 59 #[v0, .pointer (some ⟨B, o, none⟩), .slice (some ⟨g, 0, none⟩) n cap] w (EPost w B o s p wd c ks ea (scanE s (s.size + 1) p c)) := by
  have HB := Aside0.mk h.lt
  have HW := Aside0.mk (show Kept B o w (w.alloc (.cells #[.int .i64 0, .string ⟨#[]⟩, .int .i64 0, .int .i64 0, .int .i64 0, .int .i64 0] 88)) from Kept.alloc (Kept.refl B o w) h.lt _)
  have HG0 := Aside0.mk (heap_alloc_new w (.cells #[.int .i64 0, .string ⟨#[]⟩, .int .i64 0, .int .i64 0, .int .i64 0, .int .i64 0] 88))
  have HX := Aside0.mk (hX.kept HW.out)
  have C := Aside0.mk (peek_calls HX.out.cx (h.alloc (.cells #[.int .i64 0, .string ⟨#[]⟩, .int .i64 0, .int .i64 0, .int .i64 0, .int .i64 0] 88)) hs hp hc)
  have HK := Aside0.mk (hk.kept HW.out hg hgB)
  have HG := Aside0.mk (show g < (w.alloc (.cells #[.int .i64 0, .string ⟨#[]⟩, .int .i64 0, .int .i64 0, .int .i64 0, .int .i64 0] 88)).heap.size by simp; omega)
  have HS := Aside0.mk (And.intro hs (And.intro hp hc))
  have hne : w.heap.size ≠ B := by have := HB.out; omega
  have hn3 : w.heap.size ≠ 0 := by have := World.block_lt_of_cell? w0 _ hX.t.e; have := hX.b.size; simp only at *; omega
  have hn3' : 0 ≠ w.heap.size := fun e => hn3 e.symm
  clear hX h hk hg hs hp hc
  have hnot : ∀ (x : Bool) (w : World), (Op.unary .not (.bool x)).run Tryz.prog w = .ok (.bool (!x)) w := fun _ _ => rfl
  go_enter Tryz.func59, Tryz.ntmps59
  go_wp2_with fail
  refine C.out.mono ?_
  clear C
  intro x w1 hO
  cases hV : scanE s (s.size + 1) p c with
  | eof q cq =>
    rw [hV] at hO
    obtain ⟨hk, rfl, hl⟩ := hO
    have HK1 := Aside0.mk hk
    have HL1 := Aside0.mk hl
    have HV := Aside0.mk hV
    have hw1 : w.heap.size < w1.heap.size := by have := hk.size; simp at this; omega
    have hnn : w.heap.size ≠ w1.heap.size := by omega
    have hnn' : w1.heap.size ≠ w.heap.size := by omega
    clear hk hl hV
    unfold noTok
    go_wp2_with fail
    refine (isEOF_calls 0 _ _ _ _ _ _).mono ?_
    rintro x w2 ⟨rfl, hb⟩
    have HK2 := Aside0.mk ((HK1.out.alloc (by have := HB.out; simp; omega) _).trans (Kept.of_below hb (by have := HL1.out.lt; simp; omega)))
    have HL2 := Aside0.mk ((HL1.out.alloc _).below hb (by have := HL1.out.lt; simp; omega))
    have hz := (HX.out.kept HK2.out).eof
    have hw2 : w1.heap.size < w2.heap.size := by have := hb.size; simp at this; omega
    obtain ⟨⟨m0, m1, m2, m3, m4, m5⟩, _, _, _, _, _, _⟩ := cells6 ((hb.block w1.heap.size (by simp)).trans (heap_alloc_new w1 _))
    have hg1 := (HK2.out.block w.heap.size (by simp <;> omega) hne).trans HG0.out
    obtain ⟨⟨n0, n1, n2, n3, n4, n5⟩, y0, y1, y2, y3, y4, y5⟩ := cells6 hg1
    clear hg1
    clear hb
    unfold errV at hz
    go_wp2
    go_region
    go_wp2
    refine bodyPost_ret (v := .tuple #[noTok, errV ea]) ?_ rfl ?_
    · unfold noTok errV
      simp [results]
      go_simp
    · refine (show EPost w B o s p wd c ks ea (scanE s (s.size + 1) p c) _ _ from ?_)
      unfold EPost
      rw [HV.out]
      refine ⟨?_, rfl, ?_⟩
      · refine Kept.drew ?_
        exact Kept.six (HW.out.trans HK2.out) (Nat.le_refl _) HB.out
      · refine LexAt.drew ?_
        iterate 6 refine LexAt.farB hne ?_
        exact HL2.out
  | bad =>
    rw [hV] at hO
    obtain ⟨hk, r, rfl, hr, hl⟩ := hO
    obtain ⟨T, cs, rfl, hT⟩ := hr
    have ER := Aside0.mk (show LexErr (.iface T (.agg cs)) from ⟨T, cs, rfl, hT⟩)
    have HK0 := Aside0.mk hk
    have HL0 := Aside0.mk hl
    have HK1 := Aside0.mk (hk.alloc (by have := HB.out; simp; omega) (.cells #[.int .i64 0, .string ⟨#[]⟩, .int .i64 0, .int .i64 0, .int .i64 0, .int .i64 0] 88))
    have HL1 := Aside0.mk (hl.alloc (.cells #[.int .i64 0, .string ⟨#[]⟩, .int .i64 0, .int .i64 0, .int .i64 0, .int .i64 0] 88))
    have HV := Aside0.mk hV
    have hw1 : w.heap.size < w1.heap.size := by have := hk.size; simp at this; omega
    have hnn : w.heap.size ≠ w1.heap.size := by omega
    have hnn' : w1.heap.size ≠ w.heap.size := by omega
    have hg1 := (HK0.out.block w.heap.size (by simp <;> omega) hne).trans HG0.out
    obtain ⟨⟨n0, n1, n2, n3, n4, n5⟩, y0, y1, y2, y3, y4, y5⟩ := cells6 hg1
    clear hg1
    clear hk hl hV hT
    unfold noTok
    go_wp2
    refine bodyPost_ret (v := .tuple #[noTok, .iface T (.agg cs)]) ?_ rfl ?_
    · unfold noTok
      simp [results]
      go_simp
    · refine (show EPost w B o s p wd c ks ea (scanE s (s.size + 1) p c) _ _ from ?_)
      unfold EPost
      rw [HV.out]
      refine ⟨?_, _, rfl, ER.out, ?_⟩
      · exact Kept.alloc (Kept.six (HW.out.trans HK0.out) (Nat.le_refl _) HB.out) HB.out _
      · refine LexAt.alloc ?_ _
        iterate 6 refine LexAt.farB hne ?_
        exact HL0.out
  | tok k9 a9 E9 ca9 c9 =>
    rw [hV] at hO
    obtain ⟨hk, rfl, hl⟩ := hO
    have HK1 := Aside0.mk hk
    have HL1 := Aside0.mk hl
    have HV := Aside0.mk hV
    have hk9 := (scanE_le _ _ _ _ _ _ _ _ HS.out.2.1 HS.out.2.2 hV).2.2.2.2.2.1
    have hw1 : w.heap.size < w1.heap.size := by have := hk.size; simp at this; omega
    have hnn : w.heap.size ≠ w1.heap.size := by omega
    have hnn' : w1.heap.size ≠ w.heap.size := by omega
    clear hk hl hV
    unfold tokV
    have k0 : decide (k9 = 0) = false := decide_eq_false (by omega)
    go_wp2_with fail
    refine (isEOF_calls k9 _ _ _ _ _ _).mono ?_
    rintro x w2 ⟨rfl, hb⟩
    rw [k0]
    have HK2 := Aside0.mk ((HK1.out.alloc (by have := HB.out; simp; omega) _).trans (Kept.of_below hb (by have := HL1.out.lt; simp; omega)))
    have HL2 := Aside0.mk ((HL1.out.alloc _).below hb (by have := HL1.out.lt; simp; omega))
    have hw2 : w1.heap.size < w2.heap.size := by have := hb.size; simp at this; omega
    have HT8 := Aside0.mk ((hb.block w1.heap.size (by simp)).trans (heap_alloc_new w1 _))
    obtain ⟨⟨m0, m1, m2, m3, m4, m5⟩, _, _, _, _, _, _⟩ := cells6 HT8.out
    clear hb k0
    go_wp2_with fail
    refine (oneOf_calls k9 _ _ _ _ _ g n cap ks w2 (HK.out.kept HK2.out HG.out hgB) hn hn2 (by have := HK2.out.size; have := HG.out; omega)).mono ?_
    rintro x w3 ⟨rfl, hb⟩
    have HK3 := Aside0.mk (HK2.out.trans (Kept.of_below hb HL2.out.lt))
    have HL3 := Aside0.mk (HL2.out.below hb HL2.out.lt)
    have HT9 := Aside0.mk ((hb.block w1.heap.size hw2).trans HT8.out)
    have hw3 : w2.heap.size ≤ w3.heap.size := hb.size
    clear hb m0 m1 m2 m3 m4 m5
    obtain ⟨⟨m0, m1, m2, m3, m4, m5⟩, _, _, _, _, _, _⟩ := cells6 HT9.out
    cases hb : ks.contains k9 with
    | true =>
      have HBB := Aside0.mk hb
      clear hb
      have hg1 := (HK3.out.block w.heap.size (by simp <;> omega) hne).trans HG0.out
      obtain ⟨⟨n0, n1, n2, n3, n4, n5⟩, y0, y1, y2, y3, y4, y5⟩ := cells6 hg1
      clear hg1
      go_wp2
      refine bodyPost_ret (v := .tuple #[tokV s k9 a9 E9 ca9 c9, .nilIface]) ?_ rfl ?_
      · unfold tokV
        simp [results]
        go_simp
      · refine (show EPost w B o s p wd c ks ea (scanE s (s.size + 1) p c) _ _ from ?_)
        unfold EPost
        rw [HV.out]
        refine ⟨?_, _, rfl, fun _ => rfl, fun h => absurd (h.symm.trans HBB.out) (by decide), ?_⟩
        · exact Kept.six (HW.out.trans HK3.out) (Nat.le_refl _) HB.out
        · iterate 6 refine LexAt.farB hne ?_
          exact HL3.out
    | false =>
      have HBB := Aside0.mk hb
      clear hb
      have hg1 := (HK3.out.block w.heap.size (by simp <;> omega) hne).trans HG0.out
      obtain ⟨⟨n0, n1, n2, n3, n4, n5⟩, y0, y1, y2, y3, y4, y5⟩ := cells6 hg1
      clear hg1
      go_wp2_with fail
      have hw13 : w1.heap.size < w3.heap.size := by omega
      have GS := Aside0.mk (show ∀ W, Below w3.heap.size w3 W → W.heap[w1.heap.size]? = _ ∧ W.heap[w.heap.size]? = _ from fun W hb => ⟨(hb.block w1.heap.size hw13).trans HT9.out, (hb.block w.heap.size (by omega)).trans ((HK3.out.block w.heap.size (by simp <;> omega) hne).trans HG0.out)⟩)
      go_region_held3 (fun w' => w'.cell? ⟨w1.heap.size, 0, none⟩ = some (.int .i64 (k9 : Int)) ∧ w'.cell? ⟨w1.heap.size, 1, none⟩ = some (.string (s.extract a9 E9)) ∧ w'.cell? ⟨w1.heap.size, 2, none⟩ = some (.int .i64 (a9 : Int)) ∧ w'.cell? ⟨w1.heap.size, 3, none⟩ = some (.int .i64 (E9 : Int)) ∧ w'.cell? ⟨w1.heap.size, 4, none⟩ = some (.int .i64 (ca9 : Int)) ∧ w'.cell? ⟨w1.heap.size, 5, none⟩ = some (.int .i64 (c9 : Int))) (go_keep) (first
        | (go_at_call 15; refine (new_err _ _).mono ?_; rintro x w4 ⟨rfl, hw4⟩; have hb4 : Below w3.heap.size w3 w4 := (by rw [hw4]; exact below_alloc (by repeat (first | exact Below.refl _ _ | apply below_drew1 | apply pw_below_drewN)) _); have HB4 := Aside0.mk hb4; have HNW := Aside0.mk (show w4.heap[w3.heap.size]? = some _ by rw [hw4]; exact heap_alloc_new _ _); clear hw4 hb4 m0 m1 m2 m3 m4 m5 n0 n1 n2 n3 n4 n5 y0 y1 y2 y3 y4 y5; obtain ⟨⟨m0, m1, m2, m3, m4, m5⟩, _, _, _, _, _, _⟩ := cells6 (GS.out _ HB4.out).1; obtain ⟨⟨n0, n1, n2, n3, n4, n5⟩, y0, y1, y2, y3, y4, y5⟩ := cells6 (GS.out _ HB4.out).2))
      go_wp2
      refine bodyPost_ret (v := .tuple #[tokV s k9 a9 E9 ca9 c9, errV ⟨w3.heap.size, 0, none⟩]) ?_ rfl ?_
      · unfold tokV
        simp [results]
        go_simp
      · refine (show EPost w B o s p wd c ks ea (scanE s (s.size + 1) p c) _ _ from ?_)
        unfold EPost
        rw [HV.out]
        obtain ⟨ncs, nt, hnw⟩ : ∃ cs t, w4.heap[w3.heap.size]? = some (.cells cs t (0, 0)) := ⟨_, _, HNW.out⟩
        refine ⟨?_, _, rfl, fun h => absurd (h.symm.trans HBB.out) (by decide), fun _ => ⟨_, rfl, ?_, ncs, nt, ?_⟩, ?_⟩
        · exact Kept.six (HW.out.trans (HK3.out.trans (Kept.of_below HB4.out HL3.out.lt))) (Nat.le_refl _) HB.out
        · show w.heap.size ≤ w3.heap.size
          omega
        · have hnb : w3.heap.size ≠ w.heap.size := by omega
          exact (Below.heap_setCell _ _ _ _ hnb).trans ((Below.heap_setCell _ _ _ _ hnb).trans ((Below.heap_setCell _ _ _ _ hnb).trans ((Below.heap_setCell _ _ _ _ hnb).trans ((Below.heap_setCell _ _ _ _ hnb).trans ((Below.heap_setCell _ _ _ _ hnb).trans hnw)))))
        · iterate 6 refine LexAt.farB hne ?_
          exact HL3.out.below HB4.out HL3.out.lt
set_option maxHeartbeats 2000000 in
set_option maxRecDepth 100000 in
theorem expect2_calls {w0 : World} (hX : Px w0 w B ea) (h : LexAt w B o s .nilIface p p wd c c) (hs : s.size ≤ 2147483647) (hp : p ≤ s.size) (hc : c ≤ p) (v0 : Value) (g n cap : Nat) (ks : List Nat) (hk : KindsAt w g ks) (hn : ks.length = n) (hn2 : n ≤ 1000) (hg : g < w.heap.size) (hgB : g ≠ B) :
    Calls Tryz.prog 43 #[v0, .pointer (some ⟨B, o, none⟩), .slice (some ⟨g, 0, none⟩) n cap] w (FPost w B o s p wd c ks ea (scanE s (s.size + 1) p c)) := by
  have HB := Aside0.mk h.lt
  have HW := Aside0.mk (show Kept B o w (w.alloc (.cells #[.int .i64 0, .string ⟨#[]⟩, .int .i64 0, .int .i64 0, .int .i64 0, .int .i64 0] 88)) from Kept.alloc (Kept.refl B o w) h.lt _)
  have HG0 := Aside0.mk (heap_alloc_new w (.cells #[.int .i64 0, .string ⟨#[]⟩, .int .i64 0, .int .i64 0, .int .i64 0, .int .i64 0] 88))
  have HX := Aside0.mk (hX.kept HW.out)
  have C := Aside0.mk (expectPeek_calls HX.out (h.alloc (.cells #[.int .i64 0, .string ⟨#[]⟩, .int .i64 0, .int .i64 0, .int .i64 0, .int .i64 0] 88)) hs hp hc v0 g n cap ks (hk.kept HW.out hg hgB) hn hn2 (by simp; omega) hgB)
  have HS := Aside0.mk (And.intro hs (And.intro hp hc))
  have hne : w.heap.size ≠ B := by have := HB.out; omega
  clear hX h hk hg hs hp hc
  go_enter Tryz.func43, Tryz.ntmps43
  go_wp2_with fail
  refine C.out.mono ?_
  clear C
  intro x w1 hO
  have hw1 : w.heap.size < w1.heap.size := by have := hO.1.size; simp at this; omega
  have hnn : w.heap.size ≠ w1.heap.size := by omega
  have hnn' : w1.heap.size ≠ w.heap.size := by omega
  have HK0 := Aside0.mk hO.1
  have hg1 := (HK0.out.block w.heap.size (by simp <;> omega) hne).trans HG0.out
  obtain ⟨⟨n0, n1, n2, n3, n4, n5⟩, y0, y1, y2, y3, y4, y5⟩ := cells6 hg1
  clear hg1
  cases hV : scanE s (s.size + 1) p c with
  | eof q cq =>
    rw [hV] at hO
    obtain ⟨hk, rfl, hl⟩ := hO
    have HL0 := Aside0.mk hl
    have HV := Aside0.mk hV
    clear hk hl hV
    unfold noTok errV
    go_wp2
    refine bodyPost_ret (v := .tuple #[noTok, errV ea]) ?_ rfl ?_
    · unfold noTok errV
      simp [results]
      go_simp
    · refine (show FPost w B o s p wd c ks ea (scanE s (s.size + 1) p c) _ _ from ?_)
      unfold FPost
      rw [HV.out]
      refine ⟨?_, rfl, ?_⟩
      · exact Kept.alloc (Kept.six (HW.out.trans HK0.out) (Nat.le_refl _) HB.out) HB.out _
      · refine LexAt.alloc ?_ _
        iterate 6 refine LexAt.farB hne ?_
        exact HL0.out
  | bad =>
    rw [hV] at hO
    obtain ⟨hk, r, rfl, hr, hl⟩ := hO
    obtain ⟨T, cs, rfl, hT⟩ := hr
    have ER := Aside0.mk (show LexErr (.iface T (.agg cs)) from ⟨T, cs, rfl, hT⟩)
    have HL0 := Aside0.mk hl
    have HV := Aside0.mk hV
    clear hk hl hV hT
    unfold noTok
    go_wp2
    refine bodyPost_ret (v := .tuple #[noTok, .iface T (.agg cs)]) ?_ rfl ?_
    · unfold noTok
      simp [results]
      go_simp
    · refine (show FPost w B o s p wd c ks ea (scanE s (s.size + 1) p c) _ _ from ?_)
      unfold FPost
      rw [HV.out]
      refine ⟨?_, _, rfl, ER.out, ?_⟩
      · exact Kept.alloc (Kept.six (HW.out.trans HK0.out) (Nat.le_refl _) HB.out) HB.out _
      · refine LexAt.alloc ?_ _
        iterate 6 refine LexAt.farB hne ?_
        exact HL0.out
  | tok k9 a9 E9 ca9 c9 =>
    rw [hV] at hO
    obtain ⟨hk, r, rfl, hr1, hr2, hl⟩ := hO
    have HL0 := Aside0.mk hl
    have HV := Aside0.mk hV
    clear hk hl hV
    cases hb : ks.contains k9 with
    | true =>
      obtain rfl := hr1 hb
      have HBB := Aside0.mk hb
      clear hb hr1 hr2
      have HW1 := Aside0.mk (show Kept B o w1 (w1.alloc (.cells #[.int .i64 (k9 : Int), .string (s.extract a9 E9), .int .i64 (a9 : Int), .int .i64 (E9 : Int), .int .i64 (ca9 : Int), .int .i64 (c9 : Int)] 88)) from Kept.alloc (Kept.refl B o w1) HL0.out.lt _)
      have HT8 := Aside0.mk (heap_alloc_new w1 (.cells #[.int .i64 (k9 : Int), .string (s.extract a9 E9), .int .i64 (a9 : Int), .int .i64 (E9 : Int), .int .i64 (ca9 : Int), .int .i64 (c9 : Int)] 88))
      have S := Aside0.mk (scan_calls ((HX.out.kept HK0.out).kept HW1.out).cx (HL0.out.alloc _) HS.out.1 HS.out.2.1 HS.out.2.2 _ HV.out)
      clear n0 n1 n2 n3 n4 n5 y0 y1 y2 y3 y4 y5
      unfold tokV
      go_wp2_with fail
      refine S.out.mono ?_
      rintro x w2 ⟨hk, rfl, wd2, hl⟩
      have HK2 := Aside0.mk (HK0.out.trans (HW1.out.trans hk))
      have HL2 := Aside0.mk hl
      have hB1 : w1.heap.size ≠ B := by have := HL0.out.lt; omega
      obtain ⟨⟨m0, m1, m2, m3, m4, m5⟩, _, _, _, _, _, _⟩ := cells6 ((hk.block w1.heap.size (by simp) hB1).trans HT8.out)
      clear hk hl S
      have hg1 := (HK2.out.block w.heap.size (by simp <;> omega) hne).trans HG0.out
      obtain ⟨⟨n0, n1, n2, n3, n4, n5⟩, y0, y1, y2, y3, y4, y5⟩ := cells6 hg1
      clear hg1
      unfold tokV
      go_wp2
      refine bodyPost_ret (v := .tuple #[tokV s k9 a9 E9 ca9 c9, .nilIface]) ?_ rfl ?_
      · unfold tokV
        simp [results]
        go_simp
      · refine (show FPost w B o s p wd c ks ea (scanE s (s.size + 1) p c) _ _ from ?_)
        unfold FPost
        rw [HV.out]
        dsimp only
        rw [HBB.out]
        refine ⟨?_, _, rfl, fun _ => rfl, fun h => absurd h (by decide), wd2, ?_⟩
        · exact Kept.six (HW.out.trans HK2.out) (Nat.le_refl _) HB.out
        · iterate 6 refine LexAt.farB hne ?_
          exact HL2.out
    | false =>
      obtain ⟨na, rfl, hna, ncs, nt, hnr⟩ := hr2 hb
      have HBB := Aside0.mk hb
      have HN := Aside0.mk (And.intro hna hnr)
      clear hb hr1 hr2 hna hnr
      unfold tokV errV
      go_wp2
      refine bodyPost_ret (v := .tuple #[tokV s k9 a9 E9 ca9 c9, errV na]) ?_ rfl ?_
      · unfold tokV errV
        simp [results]
        go_simp
      · refine (show FPost w B o s p wd c ks ea (scanE s (s.size + 1) p c) _ _ from ?_)
        unfold FPost
        rw [HV.out]
        dsimp only
        rw [HBB.out]
        have hna := HN.out.1
        have hnl : na.block < w1.heap.size := (Array.getElem?_eq_some_iff.1 HN.out.2).1
        have hnb : na.block ≠ w.heap.size := by simp at hna; omega
        refine ⟨?_, _, rfl, fun h => absurd h (by decide), fun _ => ⟨na, rfl, by simp at hna; omega, ncs, nt, ?_⟩, wd, ?_⟩
        · exact Kept.alloc (Kept.six (HW.out.trans HK0.out) (Nat.le_refl _) HB.out) HB.out _
        · refine (Below.heap_alloc _ _ _ (by simp; omega)).trans ?_
          exact (Below.heap_setCell _ _ _ _ hnb).trans ((Below.heap_setCell _ _ _ _ hnb).trans ((Below.heap_setCell _ _ _ _ hnb).trans ((Below.heap_setCell _ _ _ _ hnb).trans ((Below.heap_setCell _ _ _ _ hnb).trans ((Below.heap_setCell _ _ _ _ hnb).trans HN.out.2)))))
        · refine LexAt.alloc ?_ _
          iterate 6 refine LexAt.farB hne ?_
          exact HL0.out
end
end Go.Proofs.YtmjoebnphacadaaGreatDoor.Lex
/- parse.parser: its states; parseEOF, parseCloseBrace. -/
namespace Go.Proofs.YtmjoebnphacadaaGreatDoor.Lex
open Go.RowKit Go.Lib Go.Proofs.YtmjoebnphacadaaGreatDoorW.PrintWords Go.Proofs.YtmjoebnphacadaaGreatDoorW.PrintLast
set_option linter.unusedVariables false
set_option linter.unusedSimpArgs false
inductive PS | opn | cls | mat | emt | com | eof
  deriving DecidableEq
def psF : PS → Nat
  | .opn => 23
  | .cls => 34
  | .mat => 35
  | .emt => 46
  | .com => 62
  | .eof => 32
/-- A state as the function value that it is. -/
def psV (P : Nat) (q : PS) : Value := .func (.func (psF q)) #[.pointer (some ⟨P, 0, none⟩)] #[]
inductive SR
  | fail
  | done
  | next (q : PS) (has : Bool) (p c : Nat)
def sc (s : ByteArray) (p c : Nat) : TR := scanE s (s.size + 1) p c
def stEof (s : ByteArray) (p c : Nat) : SR := match sc s p c with | .eof _ _ => .done | _ => .fail
def stCls (s : ByteArray) (has : Bool) (p c : Nat) : SR :=
  match sc s p c with
  | .tok k a E ca CE => if k = 2 then (if has = true then .next .eof has E CE else .fail) else (if has = true then .fail else .next .eof has p c)
  | _ => if has = true then .fail else .next .eof has p c
def stEmt (s : ByteArray) (has : Bool) (p c : Nat) : SR :=
  match sc s p c with
  | .bad => .fail
  | .eof _ _ => .next .cls has p c
  | .tok k a E ca CE => if k = 3 then .next .com has p c else if k = 2 then .next .cls has p c else .fail
def stCom (s : ByteArray) (has : Bool) (p c : Nat) : SR :=
  match sc s p c with
  | .tok k a E ca CE => if k = 3 then
      (match sc s E CE with
      | .bad => .fail
      | .eof _ _ => .next .cls has E CE
      | .tok k2 _ _ _ _ => if k2 = 2 then .next .cls has E CE else if k2 = 9 ∨ k2 = 8 then .next .mat has E CE else .fail) else .fail
  | _ => .fail
def stOpn2 (s : ByteArray) (has : Bool) (p c : Nat) : SR :=
  match sc s p c with
  | .bad => .fail
  | .eof _ _ => .next .cls has p c
  | .tok k _ _ _ _ => if k = 2 then .next .cls has p c else .next .mat has p c
def stOpn (s : ByteArray) (p c : Nat) : SR :=
  match sc s p c with
  | .bad => .fail
  | .eof _ _ => .next .eof false p c
  | .tok k a E ca CE => if k = 1 then stOpn2 s true E CE else stOpn2 s false p c
/-- An error that is none of nil. -/
def IsErr (v : Value) : Prop := ∃ T u, v = .iface T u
theorem LexErr.is {v : Value} (h : LexErr v) : IsErr v := by obtain ⟨T, cs, rfl, _⟩ := h; exact ⟨_, _, rfl⟩
/-- What a state has done. -/
def StPost (w : World) (P : Nat) (s : ByteArray) (R : SR) (x : Ending) (w' : World) : Prop := Kept P 1 w w' ∧ match R with
  | .fail => ∃ f er, x = .returned (.tuple #[f, er]) ∧ IsErr er
  | .done => x = .returned (.tuple #[.nilFunc, .nilIface])
  | .next q has p c => x = .returned (.tuple #[psV P q, .nilIface]) ∧ w'.cell? ⟨P, 1, none⟩ = some (.bool has) ∧ ∃ wd, LexAt w' P 2 s .nilIface p p wd c c
theorem Kept.weak {B o o' : Nat} {w w' : World} (h : Kept B o w w') (ho : o' ≤ o) : Kept B o' w w' := ⟨h.os, h.tape, h.output, h.size, h.block, fun i hi => h.cell i (by omega), h.froz⟩
theorem Kept.w1 {P : Nat} {w w' : World} (h : Kept P 2 w w') : Kept P 1 w w' := h.weak (by omega)
section
variable {w : World} {P : Nat} {s : ByteArray} {e : Value} {p wd c : Nat} {ea : Addr}
set_option maxHeartbeats 2000000 in
set_option maxRecDepth 100000 in
theorem st_eof {w0 : World} (hX : Px w0 w P ea) (h : LexAt w P 2 s .nilIface p p wd c c) (hs : s.size ≤ 2147483647) (hp : p ≤ s.size) (hc : c ≤ p) :
    Calls Tryz.prog 32 #[.pointer (some ⟨P, 0, none⟩), .pointer (some ⟨P, 2, none⟩)] w (StPost w P s (stEof s p c)) := by
  have C := Aside0.mk (scan_calls hX.cx h hs hp hc _ rfl)
  have HX := Aside0.mk hX
  have HB := Aside0.mk h.lt
  have HPC := Aside0.mk (And.intro hp hc)
  clear hX h hs hp hc
  have hnot : ∀ (x : Bool) (w : World), (Op.unary .not (.bool x)).run Tryz.prog w = .ok (.bool (!x)) w := fun _ _ => rfl
  have hmf : ∀ (fn : Fn) (first cap : Array Value) (w : World), (Instr.makeFunc fn first cap).run Tryz.prog w = .ok (.func fn first cap) w := fun _ _ _ _ => rfl
  go_enter Tryz.func32, Tryz.ntmps32
  go_wp2_with fail
  refine C.out.mono ?_
  clear C
  intro x w1 hO
  cases hV : scanE s (s.size + 1) p c with
  | eof q cq =>
    rw [hV] at hO
    obtain ⟨hk, rfl, wd1, hl⟩ := hO
    have HK1 := Aside0.mk hk
    have HL1 := Aside0.mk hl
    have HV := Aside0.mk hV
    clear hk hl hV
    unfold noTok
    go_wp2_with fail
    refine (isEOF_calls 0 _ _ _ _ _ _).mono ?_
    rintro x w2 ⟨rfl, hb⟩
    have HK2 := Aside0.mk ((HK1.out.alloc HB.out _).trans (Kept.of_below hb (by have := HL1.out.lt; simp; omega)))
    clear hb
    go_wp2
    go_ret2
    refine (show StPost w P s (stEof s p c) _ _ from ?_)
    unfold StPost stEof sc
    rw [HV.out]
    exact ⟨HK2.out.w1, rfl⟩
  | bad =>
    rw [hV] at hO
    obtain ⟨hk, r, rfl, hr, a1, p1, wd1, ca1, c1, hl⟩ := hO
    obtain ⟨T, cs, rfl, hT⟩ := hr
    obtain ⟨b, hz⟩ := (HX.out.kept (hk.alloc HB.out (.cells #[.int .i64 0, .string ⟨#[]⟩, .int .i64 0, .int .i64 0, .int .i64 0, .int .i64 0] 88))).err (g := 1) (by simp [errGs])
    have HK1 := Aside0.mk hk
    have HV := Aside0.mk hV
    clear hk hl hV hT
    unfold noTok
    unfold errV at hz
    go_wp2
    go_quiet (fail)
    go_wp2
    go_ret2
    refine (show StPost w P s (stEof s p c) _ _ from ?_)
    unfold StPost stEof sc
    rw [HV.out]
    exact ⟨Kept.w1 (by repeat (first | refine Kept.drewN ?_ HB.out _ | exact HK1.out.alloc HB.out _)), _, _, rfl, _, _, rfl⟩
  | tok k9 a9 E9 ca9 c9 =>
    rw [hV] at hO
    obtain ⟨hk, rfl, wd1, hl⟩ := hO
    have HK1 := Aside0.mk hk
    have HL1 := Aside0.mk hl
    have HV := Aside0.mk hV
    have hk9 := (scanE_le _ _ _ _ _ _ _ _ HPC.out.1 HPC.out.2 hV).2.2.2.2.2.1
    clear hk hl hV
    unfold tokV
    have k0 : decide (k9 = 0) = false := decide_eq_false (by omega)
    go_wp2_with fail
    refine (isEOF_calls k9 _ _ _ _ _ _).mono ?_
    rintro x w2 ⟨rfl, hb⟩
    rw [k0]
    have HK2 := Aside0.mk ((HK1.out.alloc HB.out _).trans (Kept.of_below hb (by have := HL1.out.lt; simp; omega)))
    obtain ⟨b, hz⟩ := (HX.out.kept HK2.out).err (g := 1) (by simp [errGs])
    clear hb k0
    unfold errV at hz
    go_wp2
    go_quiet (fail)
    go_wp2
    go_ret2
    refine (show StPost w P s (stEof s p c) _ _ from ?_)
    unfold StPost stEof sc
    rw [HV.out]
    exact ⟨Kept.w1 (by repeat (first | refine Kept.drewN ?_ HB.out _ | exact HK2.out)), _, _, rfl, _, _, rfl⟩
end
end Go.Proofs.YtmjoebnphacadaaGreatDoor.Lex
/- parse.parser: parseCloseBrace, parseEndOfMatcher, parseComma, parseOpenBrace (printed by wip/tools/gen_st.py). -/
namespace Go.Proofs.YtmjoebnphacadaaGreatDoor.Lex
open Go.RowKit Go.Lib Go.Proofs.YtmjoebnphacadaaGreatDoorW.PrintWords Go.Proofs.YtmjoebnphacadaaGreatDoorW.PrintLast
set_option linter.unusedVariables false
set_option linter.unusedSimpArgs false
theorem kinds1 {w : World} {g k1 : Nat} {t : TypeId} (h : w.heap[g]? = some (.cells #[.int .i64 (k1 : Int)] t (0, 0))) : KindsAt w g [k1] := by
  intro i hi
  obtain rfl : i = 0 := by simp at hi; omega
  unfold World.cell?
  rw [h]
  rfl
theorem kinds2 {w : World} {g k1 k2 : Nat} {t : TypeId} (h : w.heap[g]? = some (.cells #[.int .i64 (k1 : Int), .int .i64 (k2 : Int)] t (0, 0))) : KindsAt w g [k1, k2] := by
  intro i hi
  obtain rfl | rfl : i = 0 ∨ i = 1 := by simp at hi; omega
  all_goals
    unfold World.cell?
    rw [h]
    rfl
theorem kinds3 {w : World} {g k1 k2 k3 : Nat} {t : TypeId} (h : w.heap[g]? = some (.cells #[.int .i64 (k1 : Int), .int .i64 (k2 : Int), .int .i64 (k3 : Int)] t (0, 0))) : KindsAt w g [k1, k2, k3] := by
  intro i hi
  obtain rfl | rfl | rfl : i = 0 ∨ i = 1 ∨ i = 2 := by simp at hi; omega
  all_goals
    unfold World.cell?
    rw [h]
    rfl
theorem kinds4 {w : World} {g k1 k2 k3 k4 : Nat} {t : TypeId} (h : w.heap[g]? = some (.cells #[.int .i64 (k1 : Int), .int .i64 (k2 : Int), .int .i64 (k3 : Int), .int .i64 (k4 : Int)] t (0, 0))) : KindsAt w g [k1, k2, k3, k4] := by
  intro i hi
  obtain rfl | rfl | rfl | rfl : i = 0 ∨ i = 1 ∨ i = 2 ∨ i = 3 := by simp at hi; omega
  all_goals
    unfold World.cell?
    rw [h]
    rfl
theorem kl1 (k a : Nat) : ([a] : List Nat).contains k = decide (k = a) := by simp
theorem kl2 (k a b : Nat) : ([a, b] : List Nat).contains k = decide (k = a ∨ k = b) := by simp
theorem kl3 (k a b d : Nat) : ([a, b, d] : List Nat).contains k = decide (k = a ∨ k = b ∨ k = d) := by simp
section
variable {w : World} {P : Nat} {s : ByteArray} {e : Value} {p wd c : Nat} {ea : Addr}
set_option maxHeartbeats 2000000 in
set_option maxRecDepth 100000 in
theorem st_cls (has : Bool) {w0 : World} (hX : Px w0 w P ea) (h : LexAt w P 2 s .nilIface p p wd c c) (hc1 : w.cell? ⟨P, 1, none⟩ = some (.bool has)) (hs : s.size ≤ 2147483647) (hp : p ≤ s.size) (hc : c ≤ p) (hnb : has = false → sc s p c ≠ .bad) :
    Calls Tryz.prog 34 #[.pointer (some ⟨P, 0, none⟩), .pointer (some ⟨P, 2, none⟩)] w (StPost w P s (stCls s has p c)) := by
  have HK0 := Aside0.mk (show Kept P 2 w (w.alloc (.cells #[.int .i64 2] 79)) from Kept.alloc (Kept.refl P 2 w) h.lt _)
  have C := Aside0.mk (expect2_calls (hX.kept HK0.out) (h.alloc (.cells #[.int .i64 2] 79)) hs hp hc (.pointer (some ⟨P, 0, none⟩)) w.heap.size 1 1 [2] (kinds1 (heap_alloc_new w (.cells #[.int .i64 2] 79))) rfl (by omega) (by simp) (by have := h.lt; omega))
  have HX := Aside0.mk hX
  have HB := Aside0.mk h.lt
  have HC1 := Aside0.mk hc1
  clear hX h hs hp hc hc1
  have hnot : ∀ (x : Bool) (w : World), (Op.unary .not (.bool x)).run Tryz.prog w = .ok (.bool (!x)) w := fun _ _ => rfl
  have hmf : ∀ (fn : Fn) (first cap : Array Value) (w : World), (Instr.makeFunc fn first cap).run Tryz.prog w = .ok (.func fn first cap) w := fun _ _ _ _ => rfl
  cases has with
  | true =>
    have c1 := HC1.out
    go_enter Tryz.func34, Tryz.ntmps34
    go_wp2_with fail
    refine C.out.mono ?_
    clear C c1
    intro x w1 hO
    have HK1 := Aside0.mk (HK0.out.trans hO.1)
    cases hV : scanE s (s.size + 1) p c with
    | eof q cq =>
      rw [hV] at hO
      obtain ⟨hk, rfl, hl⟩ := hO
      have HV := Aside0.mk hV
      obtain ⟨b, hz⟩ := (HX.out.kept (HK1.out.alloc HB.out (.cells #[.int .i64 0, .string ⟨#[]⟩, .int .i64 0, .int .i64 0, .int .i64 0, .int .i64 0] 88))).err (g := 2) (by simp [errGs])
      unfold errV at hz
      clear hk hl hV
      unfold noTok errV
      go_wp2
      go_quiet (fail)
      go_wp2
      go_ret2
      refine (show StPost w P s (stCls s true p c) _ _ from ?_)
      unfold StPost stCls sc
      rw [HV.out]
      exact ⟨Kept.w1 (by repeat (first | refine Kept.drewN ?_ HB.out _ | exact HK1.out.alloc HB.out _)), _, _, rfl, _, _, rfl⟩
    | bad =>
      rw [hV] at hO
      obtain ⟨hk, r, rfl, hr, hl⟩ := hO
      obtain ⟨T, cs, rfl, hT⟩ := hr
      have HV := Aside0.mk hV
      obtain ⟨b, hz⟩ := (HX.out.kept (HK1.out.alloc HB.out (.cells #[.int .i64 0, .string ⟨#[]⟩, .int .i64 0, .int .i64 0, .int .i64 0, .int .i64 0] 88))).err (g := 2) (by simp [errGs])
      unfold errV at hz
      clear hk hl hV hT
      unfold noTok
      go_wp2
      go_quiet (fail)
      go_wp2
      go_ret2
      refine (show StPost w P s (stCls s true p c) _ _ from ?_)
      unfold StPost stCls sc
      rw [HV.out]
      exact ⟨Kept.w1 (by repeat (first | refine Kept.drewN ?_ HB.out _ | exact HK1.out.alloc HB.out _)), _, _, rfl, _, _, rfl⟩
    | tok k9 a9 E9 ca9 c9 =>
      rw [hV] at hO
      obtain ⟨hk, r, rfl, hr1, hr2, wd2, hl⟩ := hO
      have HV := Aside0.mk hV
      clear hV
      by_cases h2 : k9 = 2
      · have hb : ([2] : List Nat).contains k9 = true := by rw [kl1]; exact decide_eq_true h2
        obtain rfl := hr1 hb
        rw [hb] at hl
        have HL2 := Aside0.mk (show LexAt w1 P 2 s .nilIface E9 E9 wd2 c9 c9 from hl)
        have H2 := Aside0.mk h2
        clear hr1 hr2 hl hk hb h2
        unfold tokV
        go_wp2
        go_ret2
        refine (show StPost w P s (stCls s true p c) _ _ from ?_)
        unfold StPost stCls sc
        rw [HV.out]
        dsimp only
        rw [if_pos H2.out, if_pos rfl]
        exact ⟨Kept.w1 (by repeat (first | refine Kept.drewN ?_ HB.out _ | exact HK1.out.alloc HB.out _)), rfl, (Kept.cell (show Kept P 2 w _ by repeat (first | refine Kept.drewN ?_ HB.out _ | exact HK1.out.alloc HB.out _)) 1 (by omega)).trans HC1.out, _, by repeat (first | refine LexAt.drewN ?_ _ | exact HL2.out.alloc _)⟩
      · have hb : ([2] : List Nat).contains k9 = false := by rw [kl1]; exact decide_eq_false h2
        obtain ⟨na, rfl, _, _, _, _⟩ := hr2 hb
        have H2 := Aside0.mk h2
        obtain ⟨b, hz⟩ := (HX.out.kept (HK1.out.alloc HB.out (.cells #[.int .i64 (k9 : Int), .string (s.extract a9 E9), .int .i64 (a9 : Int), .int .i64 (E9 : Int), .int .i64 (ca9 : Int), .int .i64 (c9 : Int)] 88))).err (g := 2) (by simp [errGs])
        unfold errV at hz
        clear hr1 hr2 hl hk hb h2
        unfold tokV errV
        go_wp2
        go_quiet (fail)
        go_wp2
        go_ret2
        refine (show StPost w P s (stCls s true p c) _ _ from ?_)
        unfold StPost stCls sc
        rw [HV.out]
        dsimp only
        rw [if_neg H2.out, if_pos rfl]
        exact ⟨Kept.w1 (by repeat (first | refine Kept.drewN ?_ HB.out _ | exact HK1.out.alloc HB.out _)), _, _, rfl, _, _, rfl⟩
  | false =>
    have c1 := HC1.out
    have HNB := Aside0.mk (hnb rfl)
    clear hnb
    go_enter Tryz.func34, Tryz.ntmps34
    go_wp2_with fail
    refine C.out.mono ?_
    clear C c1
    intro x w1 hO
    have HK1 := Aside0.mk (HK0.out.trans hO.1)
    cases hV : scanE s (s.size + 1) p c with
    | eof q cq =>
      rw [hV] at hO
      obtain ⟨hk, rfl, hl⟩ := hO
      have HV := Aside0.mk hV
      have HL2 := Aside0.mk hl
      clear hk hl hV
      unfold noTok errV
      go_wp2
      go_ret2
      refine (show StPost w P s (stCls s false p c) _ _ from ?_)
      unfold StPost stCls sc
      rw [HV.out]
      dsimp only
      rw [if_neg (by decide)]
      exact ⟨Kept.w1 (by repeat (first | refine Kept.drewN ?_ HB.out _ | exact HK1.out.alloc HB.out _)), rfl, (Kept.cell (show Kept P 2 w _ by repeat (first | refine Kept.drewN ?_ HB.out _ | exact HK1.out.alloc HB.out _)) 1 (by omega)).trans HC1.out, _, by repeat (first | refine LexAt.drewN ?_ _ | exact HL2.out.alloc _)⟩
    | bad => exact absurd hV HNB.out
    | tok k9 a9 E9 ca9 c9 =>
      rw [hV] at hO
      obtain ⟨hk, r, rfl, hr1, hr2, wd2, hl⟩ := hO
      have HV := Aside0.mk hV
      clear hV
      by_cases h2 : k9 = 2
      · have hb : ([2] : List Nat).contains k9 = true := by rw [kl1]; exact decide_eq_true h2
        obtain rfl := hr1 hb
        have H2 := Aside0.mk h2
        obtain ⟨b, hz⟩ := (HX.out.kept (HK1.out.alloc HB.out (.cells #[.int .i64 (k9 : Int), .string (s.extract a9 E9), .int .i64 (a9 : Int), .int .i64 (E9 : Int), .int .i64 (ca9 : Int), .int .i64 (c9 : Int)] 88))).err (g := 3) (by simp [errGs])
        unfold errV at hz
        clear hr1 hr2 hl hk hb h2
        unfold tokV
        go_wp2
        go_quiet (fail)
        go_wp2
        go_ret2
        refine (show StPost w P s (stCls s false p c) _ _ from ?_)
        unfold StPost stCls sc
        rw [HV.out]
        dsimp only
        rw [if_pos H2.out, if_neg (by decide)]
        exact ⟨Kept.w1 (by repeat (first | refine Kept.drewN ?_ HB.out _ | exact HK1.out.alloc HB.out _)), _, _, rfl, _, _, rfl⟩
      · have hb : ([2] : List Nat).contains k9 = false := by rw [kl1]; exact decide_eq_false h2
        obtain ⟨na, rfl, _, _, _, _⟩ := hr2 hb
        rw [hb] at hl
        have HL2 := Aside0.mk (show LexAt w1 P 2 s .nilIface p p wd2 c c from hl)
        have H2 := Aside0.mk h2
        clear hr1 hr2 hl hk hb h2
        unfold tokV errV
        go_wp2
        go_ret2
        refine (show StPost w P s (stCls s false p c) _ _ from ?_)
        unfold StPost stCls sc
        rw [HV.out]
        dsimp only
        rw [if_neg H2.out, if_neg (by decide)]
        exact ⟨Kept.w1 (by repeat (first | refine Kept.drewN ?_ HB.out _ | exact HK1.out.alloc HB.out _)), rfl, (Kept.cell (show Kept P 2 w _ by repeat (first | refine Kept.drewN ?_ HB.out _ | exact HK1.out.alloc HB.out _)) 1 (by omega)).trans HC1.out, _, by repeat (first | refine LexAt.drewN ?_ _ | exact HL2.out.alloc _)⟩
set_option maxHeartbeats 2000000 in
set_option maxRecDepth 100000 in
theorem st_emt (has : Bool) {w0 : World} (hX : Px w0 w P ea) (h : LexAt w P 2 s .nilIface p p wd c c) (hc1 : w.cell? ⟨P, 1, none⟩ = some (.bool has)) (hs : s.size ≤ 2147483647) (hp : p ≤ s.size) (hc : c ≤ p) :
    Calls Tryz.prog 46 #[.pointer (some ⟨P, 0, none⟩), .pointer (some ⟨P, 2, none⟩)] w (StPost w P s (stEmt s has p c)) := by
  have HK0 := Aside0.mk (show Kept P 2 w (w.alloc (.cells #[.int .i64 3, .int .i64 2] 79)) from Kept.alloc (Kept.refl P 2 w) h.lt _)
  have C := Aside0.mk (expectPeek_calls (hX.kept HK0.out) (h.alloc (.cells #[.int .i64 3, .int .i64 2] 79)) hs hp hc (.pointer (some ⟨P, 0, none⟩)) w.heap.size 2 2 [3, 2] (kinds2 (heap_alloc_new w (.cells #[.int .i64 3, .int .i64 2] 79))) rfl (by omega) (by simp) (by have := h.lt; omega))
  have HX := Aside0.mk hX
  have HB := Aside0.mk h.lt
  have HC1 := Aside0.mk hc1
  clear hX h hs hp hc hc1
  have hnot : ∀ (x : Bool) (w : World), (Op.unary .not (.bool x)).run Tryz.prog w = .ok (.bool (!x)) w := fun _ _ => rfl
  have hmf : ∀ (fn : Fn) (first cap : Array Value) (w : World), (Instr.makeFunc fn first cap).run Tryz.prog w = .ok (.func fn first cap) w := fun _ _ _ _ => rfl
  go_enter Tryz.func46, Tryz.ntmps46
  go_wp2_with fail
  refine C.out.mono ?_
  clear C
  intro x w1 hO
  have HK1 := Aside0.mk (HK0.out.trans hO.1)
  cases hV : scanE s (s.size + 1) p c with
  | eof q cq =>
    rw [hV] at hO
    obtain ⟨hk, rfl, hl⟩ := hO
    have HV := Aside0.mk hV
    have HL2 := Aside0.mk hl
    have hz := (HX.out.kept (HK1.out.alloc HB.out (.cells #[.int .i64 0, .string ⟨#[]⟩, .int .i64 0, .int .i64 0, .int .i64 0, .int .i64 0] 88))).eof
    unfold errV at hz
    clear hk hl hV
    unfold noTok errV
    go_wp2_with fail
    refine (is_same ea _).mono ?_
    rintro x w2 ⟨rfl, rfl⟩
    go_wp2
    go_ret2
    refine (show StPost w P s (stEmt s has p c) _ _ from ?_)
    unfold StPost stEmt sc
    rw [HV.out]
    exact ⟨Kept.w1 (by repeat (first | refine Kept.drewN ?_ HB.out _ | exact HK1.out.alloc HB.out _)), rfl, (Kept.cell (show Kept P 2 w _ by repeat (first | refine Kept.drewN ?_ HB.out _ | exact HK1.out.alloc HB.out _)) 1 (by omega)).trans HC1.out, _, by repeat (first | refine LexAt.drewN ?_ _ | exact HL2.out.alloc _)⟩
  | bad =>
    rw [hV] at hO
    obtain ⟨hk, r, rfl, hr, hl⟩ := hO
    have ER := Aside0.mk hr
    obtain ⟨T, cs, rfl, hT⟩ := hr
    have HV := Aside0.mk hV
    have hz := (HX.out.kept (HK1.out.alloc HB.out (.cells #[.int .i64 0, .string ⟨#[]⟩, .int .i64 0, .int .i64 0, .int .i64 0, .int .i64 0] 88))).eof
    unfold errV at hz
    obtain ⟨b, hz2⟩ := (HX.out.kept (HK1.out.alloc HB.out (.cells #[.int .i64 0, .string ⟨#[]⟩, .int .i64 0, .int .i64 0, .int .i64 0, .int .i64 0] 88))).err (g := 7) (by simp [errGs])
    unfold errV at hz2
    clear hk hl hV hT
    unfold noTok
    go_wp2_with fail
    refine (is_lex ER.out ea _).mono ?_
    rintro x w2 ⟨rfl, rfl⟩
    go_wp2
    go_quiet (fail)
    go_wp2
    go_ret2
    refine (show StPost w P s (stEmt s has p c) _ _ from ?_)
    unfold StPost stEmt sc
    rw [HV.out]
    exact ⟨Kept.w1 (by repeat (first | refine Kept.drewN ?_ HB.out _ | exact HK1.out.alloc HB.out _)), _, _, rfl, _, _, rfl⟩
  | tok k9 a9 E9 ca9 c9 =>
    rw [hV] at hO
    obtain ⟨hk, r, rfl, hr1, hr2, hl⟩ := hO
    have HV := Aside0.mk hV
    have HL2 := Aside0.mk hl
    clear hV
    by_cases h3 : k9 = 3
    · have hb : ([3, 2] : List Nat).contains k9 = true := by rw [kl2]; exact decide_eq_true (Or.inl h3)
      obtain rfl := hr1 hb
      have H3 := Aside0.mk h3
      have b3 : ((k9 : Int) == 3) = true := by simp [h3]
      clear hr1 hr2 hl hk hb h3
      unfold tokV
      go_wp2
      go_ret2
      refine (show StPost w P s (stEmt s has p c) _ _ from ?_)
      unfold StPost stEmt sc
      rw [HV.out]
      dsimp only
      rw [if_pos H3.out]
      exact ⟨Kept.w1 (by repeat (first | refine Kept.drewN ?_ HB.out _ | exact HK1.out.alloc HB.out _)), rfl, (Kept.cell (show Kept P 2 w _ by repeat (first | refine Kept.drewN ?_ HB.out _ | exact HK1.out.alloc HB.out _)) 1 (by omega)).trans HC1.out, _, by repeat (first | refine LexAt.drewN ?_ _ | exact HL2.out.alloc _)⟩
    · have b3 : ((k9 : Int) == 3) = false := by simp; omega
      by_cases h2 : k9 = 2
      · have hb : ([3, 2] : List Nat).contains k9 = true := by rw [kl2]; exact decide_eq_true (Or.inr h2)
        obtain rfl := hr1 hb
        have H3 := Aside0.mk h3
        have H2 := Aside0.mk h2
        have b2 : ((k9 : Int) == 2) = true := by simp [h2]
        clear hr1 hr2 hl hk hb h3 h2
        unfold tokV
        go_wp2
        go_ret2
        refine (show StPost w P s (stEmt s has p c) _ _ from ?_)
        unfold StPost stEmt sc
        rw [HV.out]
        dsimp only
        rw [if_neg H3.out, if_pos H2.out]
        exact ⟨Kept.w1 (by repeat (first | refine Kept.drewN ?_ HB.out _ | exact HK1.out.alloc HB.out _)), rfl, (Kept.cell (show Kept P 2 w _ by repeat (first | refine Kept.drewN ?_ HB.out _ | exact HK1.out.alloc HB.out _)) 1 (by omega)).trans HC1.out, _, by repeat (first | refine LexAt.drewN ?_ _ | exact HL2.out.alloc _)⟩
      · have hb : ([3, 2] : List Nat).contains k9 = false := by rw [kl2]; exact decide_eq_false (by omega)
        obtain ⟨na, rfl, hna, ncs, nt, hnr⟩ := hr2 hb
        have H3 := Aside0.mk h3
        have H2 := Aside0.mk h2
        have hz := (HX.out.kept (HK1.out.alloc HB.out (.cells #[.int .i64 (k9 : Int), .string (s.extract a9 E9), .int .i64 (a9 : Int), .int .i64 (E9 : Int), .int .i64 (ca9 : Int), .int .i64 (c9 : Int)] 88))).eof
        unfold errV at hz
        obtain ⟨b, hz2⟩ := (HX.out.kept (HK1.out.alloc HB.out (.cells #[.int .i64 (k9 : Int), .string (s.extract a9 E9), .int .i64 (a9 : Int), .int .i64 (E9 : Int), .int .i64 (ca9 : Int), .int .i64 (c9 : Int)] 88))).err (g := 7) (by simp [errGs])
        unfold errV at hz2
        obtain ⟨hel, ecs, et, her⟩ := (HX.out.kept (HK1.out.alloc HB.out (.cells #[.int .i64 (k9 : Int), .string (s.extract a9 E9), .int .i64 (a9 : Int), .int .i64 (E9 : Int), .int .i64 (ca9 : Int), .int .i64 (c9 : Int)] 88))).row
        have hnl : na.block < w1.heap.size := (Array.getElem?_eq_some_iff.1 hnr).1
        have hnr2 := (Below.heap_alloc w1 (.cells #[.int .i64 (k9 : Int), .string (s.extract a9 E9), .int .i64 (a9 : Int), .int .i64 (E9 : Int), .int .i64 (ca9 : Int), .int .i64 (c9 : Int)] 88) na.block hnl).trans hnr
        have hneq : na ≠ ea := by
          intro e
          subst e
          have := HX.out.b.size
          simp at hna
          omega
        have IS := Aside0.mk (is_other na ea _ _ _ _ _ hneq hnr2 her)
        clear hr1 hr2 hl hk hb h3 h2 hna hnr hel her hnl hnr2 hneq b3
        unfold tokV errV
        go_wp2_with fail
        refine IS.out.mono ?_
        rintro x w2 ⟨rfl, rfl⟩
        go_wp2
        go_quiet (fail)
        go_wp2
        go_ret2
        refine (show StPost w P s (stEmt s has p c) _ _ from ?_)
        unfold StPost stEmt sc
        rw [HV.out]
        dsimp only
        rw [if_neg H3.out, if_neg H2.out]
        exact ⟨Kept.w1 (by repeat (first | refine Kept.drewN ?_ HB.out _ | exact HK1.out.alloc HB.out _)), _, _, rfl, _, _, rfl⟩
end
end Go.Proofs.YtmjoebnphacadaaGreatDoor.Lex
/- parse.parser: parseComma, parseOpenBrace (printed by wip/tools/gen_sv.py). -/
namespace Go.Proofs.YtmjoebnphacadaaGreatDoor.Lex
open Go.RowKit Go.Lib Go.Proofs.YtmjoebnphacadaaGreatDoorW.PrintWords Go.Proofs.YtmjoebnphacadaaGreatDoorW.PrintLast
set_option linter.unusedVariables false
set_option linter.unusedSimpArgs false
theorem LexAt.setLow {w : World} {B o i : Nat} {s : ByteArray} {e v : Value} {a p wd ca c : Nat} (h : LexAt w B o s e a p wd ca c) (hi : i < o) : LexAt (w.setCell ⟨B, i, none⟩ v) B o s e a p wd ca c :=
  ⟨(cs_other (ne_at (by omega))).trans h.c0, (cs_other (ne_at (by omega))).trans h.c1, (cs_other (ne_at (by omega))).trans h.c2, (cs_other (ne_at (by omega))).trans h.c3, (cs_other (ne_at (by omega))).trans h.c4, (cs_other (ne_at (by omega))).trans h.c5, (cs_other (ne_at (by omega))).trans h.c6,
    by simpa using h.f1, by simpa using h.f2, by simpa using h.f3, by simpa using h.f4, by simpa using h.f5, by simpa using h.f6⟩
section
variable {w : World} {P : Nat} {s : ByteArray} {e : Value} {p wd c : Nat} {ea : Addr}
set_option maxHeartbeats 4000000 in
set_option maxRecDepth 100000 in
theorem st_com (has : Bool) {w0 : World} (hX : Px w0 w P ea) (h : LexAt w P 2 s .nilIface p p wd c c) (hc1 : w.cell? ⟨P, 1, none⟩ = some (.bool has)) (hs : s.size ≤ 2147483647) (hp : p ≤ s.size) (hc : c ≤ p) :
    Calls Tryz.prog 62 #[.pointer (some ⟨P, 0, none⟩), .pointer (some ⟨P, 2, none⟩)] w (StPost w P s (stCom s has p c)) := by
  have HK0 := Aside0.mk (show Kept P 2 w (w.alloc (.cells #[.int .i64 3] 79)) from Kept.alloc (Kept.refl P 2 w) h.lt _)
  have C := Aside0.mk (expect2_calls (hX.kept HK0.out) (h.alloc (.cells #[.int .i64 3] 79)) hs hp hc (.pointer (some ⟨P, 0, none⟩)) w.heap.size 1 1 [3] (kinds1 (heap_alloc_new w (.cells #[.int .i64 3] 79))) rfl (by omega) (by simp) (by have := h.lt; omega))
  have HS := Aside0.mk (And.intro hs (And.intro hp hc))
  have HX := Aside0.mk hX
  have HB := Aside0.mk h.lt
  have HC1 := Aside0.mk hc1
  clear hX h hs hp hc hc1
  have hnot : ∀ (x : Bool) (w : World), (Op.unary .not (.bool x)).run Tryz.prog w = .ok (.bool (!x)) w := fun _ _ => rfl
  have hmf : ∀ (fn : Fn) (first cap : Array Value) (w : World), (Instr.makeFunc fn first cap).run Tryz.prog w = .ok (.func fn first cap) w := fun _ _ _ _ => rfl
  go_enter Tryz.func62, Tryz.ntmps62
  go_wp2_with fail
  refine C.out.mono ?_
  clear C
  intro x w1 hO
  have HK1 := Aside0.mk (HK0.out.trans hO.1)
  cases hV : scanE s (s.size + 1) p c with
  | eof q cq =>
    rw [hV] at hO
    obtain ⟨hk, rfl, hl⟩ := hO
    have HV := Aside0.mk hV
    obtain ⟨b, hz⟩ := (HX.out.kept (HK1.out.alloc HB.out (.cells #[.int .i64 0, .string ⟨#[]⟩, .int .i64 0, .int .i64 0, .int .i64 0, .int .i64 0] 88))).err (g := 12) (by simp [errGs])
    unfold errV at hz
    clear hk hl hV
    unfold noTok errV
    go_wp2
    go_quiet (fail)
    go_wp2
    go_ret2
    refine (show StPost w P s (stCom s has p c) _ _ from ?_)
    unfold StPost stCom sc
    rw [HV.out]
    exact ⟨Kept.w1 (by repeat (first | refine Kept.drewN ?_ HB.out _ | exact HK1.out.alloc HB.out _)), _, _, rfl, _, _, rfl⟩
  | bad =>
    rw [hV] at hO
    obtain ⟨hk, r, rfl, hr, hl⟩ := hO
    obtain ⟨T, cs, rfl, hT⟩ := hr
    have HV := Aside0.mk hV
    obtain ⟨b, hz⟩ := (HX.out.kept (HK1.out.alloc HB.out (.cells #[.int .i64 0, .string ⟨#[]⟩, .int .i64 0, .int .i64 0, .int .i64 0, .int .i64 0] 88))).err (g := 12) (by simp [errGs])
    unfold errV at hz
    clear hk hl hV hT
    unfold noTok
    go_wp2
    go_quiet (fail)
    go_wp2
    go_ret2
    refine (show StPost w P s (stCom s has p c) _ _ from ?_)
    unfold StPost stCom sc
    rw [HV.out]
    exact ⟨Kept.w1 (by repeat (first | refine Kept.drewN ?_ HB.out _ | exact HK1.out.alloc HB.out _)), _, _, rfl, _, _, rfl⟩
  | tok k9 a9 E9 ca9 c9 =>
    rw [hV] at hO
    obtain ⟨hk, r, rfl, hr1, hr2, wd2, hl⟩ := hO
    have HV := Aside0.mk hV
    have hle := scanE_le _ _ _ _ _ _ _ _ HS.out.2.1 HS.out.2.2 hV
    clear hV
    by_cases h3 : k9 = 3
    · have hb : ([3] : List Nat).contains k9 = true := by rw [kl1]; exact decide_eq_true h3
      obtain rfl := hr1 hb
      rw [hb] at hl
      have HL1 := Aside0.mk (show LexAt w1 P 2 s .nilIface E9 E9 wd2 c9 c9 from hl)
      have H3 := Aside0.mk h3
      have hP1 : P < w1.heap.size := HL1.out.lt
      have HK2 := Aside0.mk (show Kept P 2 w ((w1.alloc (.cells #[.int .i64 (k9 : Int), .string (s.extract a9 E9), .int .i64 (a9 : Int), .int .i64 (E9 : Int), .int .i64 (ca9 : Int), .int .i64 (c9 : Int)] 88)).alloc (.cells #[.int .i64 2, .int .i64 9, .int .i64 8] 79)) from (HK1.out.alloc HB.out _).alloc HB.out _)
      have HKW := Aside0.mk (show Kept P 2 w ((w1.alloc (.cells #[.int .i64 (k9 : Int), .string (s.extract a9 E9), .int .i64 (a9 : Int), .int .i64 (E9 : Int), .int .i64 (ca9 : Int), .int .i64 (c9 : Int)] 88)).alloc (.cells #[.int .i64 2, .int .i64 9, .int .i64 8] 79)) from HK2.out)
      have C := Aside0.mk (expectPeek_calls (HX.out.kept HK2.out) ((HL1.out.alloc (.cells #[.int .i64 (k9 : Int), .string (s.extract a9 E9), .int .i64 (a9 : Int), .int .i64 (E9 : Int), .int .i64 (ca9 : Int), .int .i64 (c9 : Int)] 88)).alloc (.cells #[.int .i64 2, .int .i64 9, .int .i64 8] 79)) HS.out.1 (show E9 ≤ s.size by omega) (show c9 ≤ E9 by omega) (.pointer (some ⟨P, 0, none⟩)) (w1.alloc (.cells #[.int .i64 (k9 : Int), .string (s.extract a9 E9), .int .i64 (a9 : Int), .int .i64 (E9 : Int), .int .i64 (ca9 : Int), .int .i64 (c9 : Int)] 88)).heap.size 3 3 [2, 9, 8] (kinds3 (heap_alloc_new _ (.cells #[.int .i64 2, .int .i64 9, .int .i64 8] 79))) rfl (by omega) (by simp) (by simp; omega))
      clear hr1 hr2 hl hk hb h3 hle
      unfold tokV
      go_wp2_with fail
      have e0 : (w1.alloc (.cells #[.int .i64 (k9 : Int), .string (s.extract a9 E9), .int .i64 (a9 : Int), .int .i64 (E9 : Int), .int .i64 (ca9 : Int), .int .i64 (c9 : Int)] 88)).heap.size = w1.heap.size + 1 := by simp
      have C2 := C.out
      rw [e0] at C2
      refine C2.mono ?_
      clear C C2 e0
      intro x w2 hO
      have HK3 := Aside0.mk (HK2.out.trans hO.1)
      cases hV2 : scanE s (s.size + 1) E9 c9 with
      | eof q cq =>
        rw [hV2] at hO
        obtain ⟨hk, rfl, hl⟩ := hO
        have HV2 := Aside0.mk hV2
        have HL2 := Aside0.mk hl
        have hz := (HX.out.kept (HK3.out.alloc HB.out (.cells #[.int .i64 0, .string ⟨#[]⟩, .int .i64 0, .int .i64 0, .int .i64 0, .int .i64 0] 88))).eof
        unfold errV at hz
        clear hk hl hV2
        unfold noTok errV
        go_wp2_with fail
        refine (is_same ea _).mono ?_
        rintro x w3 ⟨rfl, rfl⟩
        go_wp2
        go_ret2
        refine (show StPost w P s (stCom s has p c) _ _ from ?_)
        unfold StPost stCom sc
        rw [HV.out]
        dsimp only
        rw [if_pos H3.out, HV2.out]
        exact ⟨Kept.w1 (by repeat (first | refine Kept.drewN ?_ HB.out _ | exact HK3.out.alloc HB.out _)), rfl, (Kept.cell (show Kept P 2 w _ by repeat (first | refine Kept.drewN ?_ HB.out _ | exact HK3.out.alloc HB.out _)) 1 (by omega)).trans HC1.out, _, by repeat (first | refine LexAt.drewN ?_ _ | exact HL2.out.alloc _)⟩
      | bad =>
        rw [hV2] at hO
        obtain ⟨hk, r, rfl, hr, hl⟩ := hO
        have ER := Aside0.mk hr
        obtain ⟨T, cs, rfl, hT⟩ := hr
        have HV2 := Aside0.mk hV2
        have hz := (HX.out.kept (HK3.out.alloc HB.out (.cells #[.int .i64 0, .string ⟨#[]⟩, .int .i64 0, .int .i64 0, .int .i64 0, .int .i64 0] 88))).eof
        unfold errV at hz
        obtain ⟨b, hz2⟩ := (HX.out.kept (HK3.out.alloc HB.out (.cells #[.int .i64 0, .string ⟨#[]⟩, .int .i64 0, .int .i64 0, .int .i64 0, .int .i64 0] 88))).err (g := 13) (by simp [errGs])
        unfold errV at hz2
        clear hk hl hV2 hT
        unfold noTok
        go_wp2_with fail
        refine (is_lex ER.out ea _).mono ?_
        rintro x w3 ⟨rfl, rfl⟩
        go_wp2
        go_quiet (fail)
        go_wp2
        go_ret2
        refine (show StPost w P s (stCom s has p c) _ _ from ?_)
        unfold StPost stCom sc
        rw [HV.out]
        dsimp only
        rw [if_pos H3.out, HV2.out]
        exact ⟨Kept.w1 (by repeat (first | refine Kept.drewN ?_ HB.out _ | exact HK3.out.alloc HB.out _)), _, _, rfl, _, _, rfl⟩
      | tok k8 a8 E8 ca8 c8 =>
        rw [hV2] at hO
        obtain ⟨hk, r, rfl, hr1, hr2, hl⟩ := hO
        have HV2 := Aside0.mk hV2
        have HL2 := Aside0.mk hl
        clear hV2
        by_cases h2 : k8 = 2
        · have hb : ([2, 9, 8] : List Nat).contains k8 = true := by rw [kl3]; exact decide_eq_true (Or.inl h2)
          obtain rfl := hr1 hb
          have H2 := Aside0.mk h2
          have b2 : ((k8 : Int) == 2) = true := by simp [h2]
          clear hr1 hr2 hl hk hb h2
          unfold tokV
          go_wp2
          go_ret2
          refine (show StPost w P s (stCom s has p c) _ _ from ?_)
          unfold StPost stCom sc
          rw [HV.out]
          dsimp only
          rw [if_pos H3.out, HV2.out]
          dsimp only
          rw [if_pos H2.out]
          exact ⟨Kept.w1 (by repeat (first | refine Kept.drewN ?_ HB.out _ | exact HK3.out.alloc HB.out _)), rfl, (Kept.cell (show Kept P 2 w _ by repeat (first | refine Kept.drewN ?_ HB.out _ | exact HK3.out.alloc HB.out _)) 1 (by omega)).trans HC1.out, _, by repeat (first | refine LexAt.drewN ?_ _ | exact HL2.out.alloc _)⟩
        · have b2 : ((k8 : Int) == 2) = false := by simp; omega
          by_cases h9 : k8 = 9 ∨ k8 = 8
          · have hb : ([2, 9, 8] : List Nat).contains k8 = true := by rw [kl3]; exact decide_eq_true (Or.inr h9)
            obtain rfl := hr1 hb
            have H2 := Aside0.mk h2
            have H9 := Aside0.mk h9
            clear hr1 hr2 hl hk hb h2 h9
            unfold tokV
            go_wp2
            go_ret2
            refine (show StPost w P s (stCom s has p c) _ _ from ?_)
            unfold StPost stCom sc
            rw [HV.out]
            dsimp only
            rw [if_pos H3.out, HV2.out]
            dsimp only
            rw [if_neg H2.out, if_pos H9.out]
            exact ⟨Kept.w1 (by repeat (first | refine Kept.drewN ?_ HB.out _ | exact HK3.out.alloc HB.out _)), rfl, (Kept.cell (show Kept P 2 w _ by repeat (first | refine Kept.drewN ?_ HB.out _ | exact HK3.out.alloc HB.out _)) 1 (by omega)).trans HC1.out, _, by repeat (first | refine LexAt.drewN ?_ _ | exact HL2.out.alloc _)⟩
          · have hb : ([2, 9, 8] : List Nat).contains k8 = false := by rw [kl3]; exact decide_eq_false (by omega)
            obtain ⟨na, rfl, hna, ncs, nt, hnr⟩ := hr2 hb
            have H2 := Aside0.mk h2
            have H9 := Aside0.mk h9
            have hz := (HX.out.kept (HK3.out.alloc HB.out (.cells #[.int .i64 (k8 : Int), .string (s.extract a8 E8), .int .i64 (a8 : Int), .int .i64 (E8 : Int), .int .i64 (ca8 : Int), .int .i64 (c8 : Int)] 88))).eof
            unfold errV at hz
            obtain ⟨b, hz2⟩ := (HX.out.kept (HK3.out.alloc HB.out (.cells #[.int .i64 (k8 : Int), .string (s.extract a8 E8), .int .i64 (a8 : Int), .int .i64 (E8 : Int), .int .i64 (ca8 : Int), .int .i64 (c8 : Int)] 88))).err (g := 13) (by simp [errGs])
            unfold errV at hz2
            obtain ⟨hel, ecs, et, her⟩ := (HX.out.kept (HK3.out.alloc HB.out (.cells #[.int .i64 (k8 : Int), .string (s.extract a8 E8), .int .i64 (a8 : Int), .int .i64 (E8 : Int), .int .i64 (ca8 : Int), .int .i64 (c8 : Int)] 88))).row
            have hnl : na.block < w2.heap.size := (Array.getElem?_eq_some_iff.1 hnr).1
            have hnr2 := (Below.heap_alloc w2 (.cells #[.int .i64 (k8 : Int), .string (s.extract a8 E8), .int .i64 (a8 : Int), .int .i64 (E8 : Int), .int .i64 (ca8 : Int), .int .i64 (c8 : Int)] 88) na.block hnl).trans hnr
            have hneq : na ≠ ea := by
              intro e
              subst e
              have h1 := HX.out.b.size
              have h2 := HK1.out.size
              simp at hna
              omega
            have IS := Aside0.mk (is_other na ea _ _ _ _ _ hneq hnr2 her)
            clear hr1 hr2 hl hk hb h2 h9 hna hnr hel her hnl hnr2 hneq b2
            unfold tokV errV
            go_wp2_with fail
            refine IS.out.mono ?_
            rintro x w3 ⟨rfl, rfl⟩
            go_wp2
            go_quiet (fail)
            go_wp2
            go_ret2
            refine (show StPost w P s (stCom s has p c) _ _ from ?_)
            unfold StPost stCom sc
            rw [HV.out]
            dsimp only
            rw [if_pos H3.out, HV2.out]
            dsimp only
            rw [if_neg H2.out, if_neg H9.out]
            exact ⟨Kept.w1 (by repeat (first | refine Kept.drewN ?_ HB.out _ | exact HK3.out.alloc HB.out _)), _, _, rfl, _, _, rfl⟩
    · have hb : ([3] : List Nat).contains k9 = false := by rw [kl1]; exact decide_eq_false h3
      obtain ⟨na, rfl, _, _, _, _⟩ := hr2 hb
      have H3 := Aside0.mk h3
      obtain ⟨b, hz⟩ := (HX.out.kept (HK1.out.alloc HB.out (.cells #[.int .i64 (k9 : Int), .string (s.extract a9 E9), .int .i64 (a9 : Int), .int .i64 (E9 : Int), .int .i64 (ca9 : Int), .int .i64 (c9 : Int)] 88))).err (g := 12) (by simp [errGs])
      unfold errV at hz
      clear hr1 hr2 hl hk hb h3 hle
      unfold tokV errV
      go_wp2
      go_quiet (fail)
      go_wp2
      go_ret2
      refine (show StPost w P s (stCom s has p c) _ _ from ?_)
      unfold StPost stCom sc
      rw [HV.out]
      dsimp only
      rw [if_neg H3.out]
      exact ⟨Kept.w1 (by repeat (first | refine Kept.drewN ?_ HB.out _ | exact HK1.out.alloc HB.out _)), _, _, rfl, _, _, rfl⟩
end
end Go.Proofs.YtmjoebnphacadaaGreatDoor.Lex
/- parse.parser: parseOpenBrace (printed by wip/tools/gen_so.py). -/
namespace Go.Proofs.YtmjoebnphacadaaGreatDoor.Lex
open Go.RowKit Go.Lib Go.Proofs.YtmjoebnphacadaaGreatDoorW.PrintWords Go.Proofs.YtmjoebnphacadaaGreatDoorW.PrintLast
set_option linter.unusedVariables false
set_option linter.unusedSimpArgs false
section
variable {w : World} {P : Nat} {s : ByteArray} {e : Value} {p wd c : Nat} {ea : Addr}
set_option maxHeartbeats 4000000 in
set_option maxRecDepth 100000 in
theorem st_opn (has : Bool) {w0 : World} (hX : Px w0 w P ea) (h : LexAt w P 2 s .nilIface p p wd c c) (hc1 : w.cell? ⟨P, 1, none⟩ = some (.bool has)) (hf1 : w.frozen? ⟨P, 1, none⟩ = false) (hs : s.size ≤ 2147483647) (hp : p ≤ s.size) (hc : c ≤ p) :
    Calls Tryz.prog 23 #[.pointer (some ⟨P, 0, none⟩), .pointer (some ⟨P, 2, none⟩)] w (StPost w P s (stOpn s p c)) := by
  have HK0 := Aside0.mk (show Kept P 2 w (w.alloc (.cells #[.int .i64 1] 79)) from Kept.alloc (Kept.refl P 2 w) h.lt _)
  have C := Aside0.mk (accept2_calls (hX.kept HK0.out) (h.alloc (.cells #[.int .i64 1] 79)) hs hp hc (.pointer (some ⟨P, 0, none⟩)) w.heap.size 1 1 [1] (kinds1 (heap_alloc_new w (.cells #[.int .i64 1] 79))) rfl (by omega) (by simp) (by have := h.lt; omega))
  have HS := Aside0.mk (And.intro hs (And.intro hp hc))
  have HF1 := Aside0.mk hf1
  clear hf1
  have HX := Aside0.mk hX
  have HB := Aside0.mk h.lt
  have HC1 := Aside0.mk hc1
  clear hX h hs hp hc hc1
  have hnot : ∀ (x : Bool) (w : World), (Op.unary .not (.bool x)).run Tryz.prog w = .ok (.bool (!x)) w := fun _ _ => rfl
  have hmf : ∀ (fn : Fn) (first cap : Array Value) (w : World), (Instr.makeFunc fn first cap).run Tryz.prog w = .ok (.func fn first cap) w := fun _ _ _ _ => rfl
  go_enter Tryz.func23, Tryz.ntmps23
  go_wp2_with fail
  refine C.out.mono ?_
  clear C
  intro x w1 hO
  have HK1 := Aside0.mk (HK0.out.trans hO.1)
  have k1 := (HK1.out.cell 1 (by omega)).trans HC1.out
  have kf1 := (HK1.out.froz 1).trans HF1.out
  cases hV : scanE s (s.size + 1) p c with
  | eof q cq =>
    rw [hV] at hO
    obtain ⟨hk, rfl, hl⟩ := hO
    have HV := Aside0.mk hV
    have HL2 := Aside0.mk (hl.setLow (i := 1) (v := .bool false) (by omega))
    have HK2 := Aside0.mk (show Kept P 1 w (w1.setCell ⟨P, 1, none⟩ (.bool false)) from Kept.set HK1.out.w1 (by omega) _)
    have HN := Aside0.mk (cs_same (v := .bool false) k1)
    have hz := (HX.out.kept HK2.out).eof
    unfold errV at hz
    clear hk hl hV
    unfold errV
    go_wp2_with fail
    refine (is_same ea _).mono ?_
    rintro x w2 ⟨rfl, rfl⟩
    go_wp2
    go_ret2
    refine (show StPost w P s (stOpn s p c) _ _ from ?_)
    unfold StPost stOpn sc
    rw [HV.out]
    exact ⟨HK2.out, rfl, HN.out, _, HL2.out⟩
  | bad =>
    rw [hV] at hO
    obtain ⟨hk, r, rfl, hr, hl⟩ := hO
    have ER := Aside0.mk hr
    obtain ⟨T, cs, rfl, hT⟩ := hr
    have HV := Aside0.mk hV
    have HK2 := Aside0.mk (show Kept P 1 w (w1.setCell ⟨P, 1, none⟩ (.bool false)) from Kept.set HK1.out.w1 (by omega) _)
    have hz := (HX.out.kept HK2.out).eof
    unfold errV at hz
    clear hk hl hV hT
    go_wp2_with fail
    refine (is_lex ER.out ea _).mono ?_
    rintro x w2 ⟨rfl, rfl⟩
    go_wp2
    go_ret2
    refine (show StPost w P s (stOpn s p c) _ _ from ?_)
    unfold StPost stOpn sc
    rw [HV.out]
    exact ⟨HK2.out, _, _, rfl, _, _, rfl⟩
  | tok k9 a9 E9 ca9 c9 =>
    rw [hV] at hO
    obtain ⟨hk, rfl, wd2, hl⟩ := hO
    have HV := Aside0.mk hV
    have hle := scanE_le _ _ _ _ _ _ _ _ HS.out.2.1 HS.out.2.2 hV
    obtain ⟨b, hb⟩ : ∃ b, ([1] : List Nat).contains k9 = b := ⟨_, rfl⟩
    rw [hb] at hl
    obtain ⟨p1, hp1⟩ : ∃ p1, sel b E9 p = p1 := ⟨_, rfl⟩
    obtain ⟨c1, hq1⟩ : ∃ c1, sel b c9 c = c1 := ⟨_, rfl⟩
    rw [hp1, hq1] at hl
    have hb1 : p1 ≤ s.size ∧ c1 ≤ p1 := by
      have := HS.out
      subst hp1 hq1
      cases b
      · exact ⟨HS.out.2.1, HS.out.2.2⟩
      · exact ⟨(show E9 ≤ s.size by omega), (show c9 ≤ E9 by omega)⟩
    have HEQ := Aside0.mk (show stOpn s p c = stOpn2 s b p1 c1 by
      unfold stOpn
      rw [show sc s p c = _ from hV]
      dsimp only
      rw [kl1] at hb
      subst hp1 hq1
      cases b
      · rw [if_neg (of_decide_eq_false hb)]; rfl
      · rw [if_pos (of_decide_eq_true hb)]; rfl)
    have HB1 := Aside0.mk hb
    have HLs := Aside0.mk (hl.setLow (i := 1) (v := .bool b) (by omega))
    have HK2 := Aside0.mk (show Kept P 1 w (w1.setCell ⟨P, 1, none⟩ (.bool b)) from Kept.set HK1.out.w1 (by omega) _)
    have HN := Aside0.mk (cs_same (v := .bool b) k1)
    have hPs : P < (w1.setCell ⟨P, 1, none⟩ (.bool b)).heap.size := HLs.out.lt
    have HK3 := Aside0.mk (show Kept P 2 (w1.setCell ⟨P, 1, none⟩ (.bool b)) ((w1.setCell ⟨P, 1, none⟩ (.bool b)).alloc (.cells #[.int .i64 2] 79)) from Kept.alloc (Kept.refl P 2 _) hPs _)
    have C := Aside0.mk (acceptPeek_calls ((HX.out.kept HK2.out).kept HK3.out) (HLs.out.alloc (.cells #[.int .i64 2] 79)) HS.out.1 hb1.1 hb1.2 (.pointer (some ⟨P, 0, none⟩)) (w1.setCell ⟨P, 1, none⟩ (.bool b)).heap.size 1 1 [2] (kinds1 (heap_alloc_new _ (.cells #[.int .i64 2] 79))) rfl (by omega) (by simp) (by omega))
    have e0 : (w1.setCell ⟨P, 1, none⟩ (.bool b)).heap.size = w1.heap.size := by simp
    have C2 := C.out
    rw [e0] at C2
    have C3 := Aside0.mk C2
    clear hk hl hV hle hb hb1 C C2 hp1 hq1 e0 hPs
    rw [HB1.out]
    go_wp2_with fail
    refine C3.out.mono ?_
    clear C3
    intro x w2 hO
    have HK4 := Aside0.mk (HK3.out.trans hO.1)
    have HN2 := Aside0.mk ((HK4.out.cell 1 (by omega)).trans HN.out)
    have HK5 := Aside0.mk (HK2.out.trans HK4.out.w1)
    cases hV2 : scanE s (s.size + 1) p1 c1 with
    | eof q cq =>
      rw [hV2] at hO
      obtain ⟨hk, rfl, hl⟩ := hO
      have HV2 := Aside0.mk hV2
      have HL2 := Aside0.mk hl
      have hz := (HX.out.kept HK5.out).eof
      unfold errV at hz
      clear hk hl hV2
      unfold errV
      go_wp2_with fail
      refine (is_same ea _).mono ?_
      rintro x w3 ⟨rfl, rfl⟩
      go_wp2
      go_ret2
      refine (show StPost w P s (stOpn s p c) _ _ from ?_)
      rw [HEQ.out]
      unfold StPost stOpn2 sc
      rw [HV2.out]
      exact ⟨HK5.out, rfl, HN2.out, _, HL2.out⟩
    | bad =>
      rw [hV2] at hO
      obtain ⟨hk, r, rfl, hr, hl⟩ := hO
      have ER := Aside0.mk hr
      obtain ⟨T, cs, rfl, hT⟩ := hr
      have HV2 := Aside0.mk hV2
      have hz := (HX.out.kept HK5.out).eof
      unfold errV at hz
      clear hk hl hV2 hT
      go_wp2_with fail
      refine (is_lex ER.out ea _).mono ?_
      rintro x w3 ⟨rfl, rfl⟩
      go_wp2
      go_ret2
      refine (show StPost w P s (stOpn s p c) _ _ from ?_)
      rw [HEQ.out]
      unfold StPost stOpn2 sc
      rw [HV2.out]
      exact ⟨HK5.out, _, _, rfl, _, _, rfl⟩
    | tok k8 a8 E8 ca8 c8 =>
      rw [hV2] at hO
      obtain ⟨hk, rfl, hl⟩ := hO
      have HV2 := Aside0.mk hV2
      have HL2 := Aside0.mk hl
      clear hk hl hV2
      by_cases h2 : k8 = 2
      · have hb : ([2] : List Nat).contains k8 = true := by rw [kl1]; exact decide_eq_true h2
        have H2 := Aside0.mk h2
        rw [hb]
        clear hb h2
        go_wp2
        go_ret2
        refine (show StPost w P s (stOpn s p c) _ _ from ?_)
        rw [HEQ.out]
        unfold StPost stOpn2 sc
        rw [HV2.out]
        dsimp only
        rw [if_pos H2.out]
        exact ⟨HK5.out, rfl, HN2.out, _, HL2.out⟩
      · have hb : ([2] : List Nat).contains k8 = false := by rw [kl1]; exact decide_eq_false h2
        have H2 := Aside0.mk h2
        rw [hb]
        clear hb h2
        go_wp2
        go_ret2
        refine (show StPost w P s (stOpn s p c) _ _ from ?_)
        rw [HEQ.out]
        unfold StPost stOpn2 sc
        rw [HV2.out]
        dsimp only
        rw [if_neg H2.out]
        exact ⟨HK5.out, rfl, HN2.out, _, HL2.out⟩
end
end Go.Proofs.YtmjoebnphacadaaGreatDoor.Lex
