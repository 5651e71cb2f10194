/- What spec.runeLen answers, over the bytes of a text: the size of the first character, as utf8's own switch has it. -/
import Derived.Test.YtnjghpoeokfekaaDoorQx5
import Derived.Test.YtnjghpoeokfekaaDoorLib
import Derived.Lib.ValidLaws
set_option linter.unusedVariables false
set_option linter.unusedSimpArgs false
namespace Go.Proofs.YtnjghpoeokfekaaDoor.Pure
open Go.RowKit Go.Lib Go.Proofs.YtnjghpoeokfekaaDoor.Q Go.Proofs.YtnjghpoeokfekaaDoorW.PrintWords Go.Proofs.YtnjghpoeokfekaaDoorW.PrintLast
/-- The byte at a place, as a number; 0 past the end. -/
abbrev bn (s : ByteArray) (i : Nat) : Nat := (s.data.toList.getD i 0).toNat
theorem bt_bn (s : ByteArray) (i : Nat) : bt s (i : Int) = (bn s i : Int) := by
  have hz : s.data.toList.length = s.size := by rw [Array.length_toList]; rfl
  unfold bt bn
  split
  · rename_i h
    simp only [Int.toNat_natCast] at h ⊢
    rw [List.getD_eq_getElem?_getD, List.getElem?_eq_getElem (by omega)]
    rfl
  · rename_i h
    simp only [Int.toNat_natCast] at h
    rw [List.getD_eq_getElem?_getD, List.getElem?_eq_none (by omega)]
    rfl
theorem bt0 (s : ByteArray) : bt s 0 = (bn s 0 : Int) := bt_bn s 0
theorem bt1 (s : ByteArray) : bt s 1 = (bn s 1 : Int) := bt_bn s 1
theorem bt2 (s : ByteArray) : bt s 2 = (bn s 2 : Int) := bt_bn s 2
theorem bt3 (s : ByteArray) : bt s 3 = (bn s 3 : Int) := bt_bn s 3
theorem check_two (n b1 b2 b3 lo hi : Nat) : checkN n b1 b2 b3 2 lo hi = if n < 2 ∨ b1 < lo ∨ hi < b1 then none else some 2 := rfl
theorem check_three (n b1 b2 b3 lo hi : Nat) : checkN n b1 b2 b3 3 lo hi = if n < 3 ∨ b1 < lo ∨ hi < b1 ∨ b2 < 128 ∨ 191 < b2 then none else some 3 := rfl
theorem check_four (n b1 b2 b3 lo hi : Nat) : checkN n b1 b2 b3 4 lo hi = if n < 4 ∨ b1 < lo ∨ hi < b1 ∨ b2 < 128 ∨ 191 < b2 ∨ b3 < 128 ∨ 191 < b3 then none else some 4 := rfl
def sizeOr : Option Nat → Nat
  | none => 1
  | some k => k
theorem lo_one : wrap64 (1 + 1) = 2 := by unfold wrap64; omega
theorem lo_two : wrap64 (2 + 1) = 3 := by unfold wrap64; omega
theorem lo_three : wrap64 (3 + 1) = 4 := by unfold wrap64; omega
theorem j3_one (s : ByteArray) (a b : Int) (h : 0 < s.size) : Ev (fun k => spec_runeLen.j3 k s 1 a b) ((1 : Nat) : Int) := by
  refine ⟨10, fun k hk => ?_⟩
  obtain ⟨k, rfl⟩ : ∃ j, k = j + 10 := ⟨k - 10, by omega⟩
  simp only [spec_runeLen.j3, spec_runeLen.l0]
  rw [if_neg (by omega), if_neg (by omega)]
  rfl
theorem j3_two (s : ByteArray) (lo hi : Nat) : Ev (fun k => spec_runeLen.j3 k s 2 (lo : Int) (hi : Int)) ((sizeOr (checkN s.size (bn s 1) (bn s 2) (bn s 3) 2 lo hi) : Nat) : Int) := by
  refine ⟨3, fun k hk => ?_⟩
  obtain ⟨k, rfl⟩ : ∃ j, k = j + 3 := ⟨k - 3, by omega⟩
  simp only [spec_runeLen.j3, spec_runeLen.l0, check_two, lo_one, bt1, Int.reduceLT, Int.reduceLE, if_true, if_false]
  repeat' split
  all_goals first | rfl | (exfalso; omega)
theorem j3_three (s : ByteArray) (lo hi : Nat) : Ev (fun k => spec_runeLen.j3 k s 3 (lo : Int) (hi : Int)) ((sizeOr (checkN s.size (bn s 1) (bn s 2) (bn s 3) 3 lo hi) : Nat) : Int) := by
  refine ⟨4, fun k hk => ?_⟩
  obtain ⟨k, rfl⟩ : ∃ j, k = j + 4 := ⟨k - 4, by omega⟩
  simp only [spec_runeLen.j3, spec_runeLen.l0, check_three, lo_one, lo_two, bt1, bt2, Int.reduceLT, Int.reduceLE, if_true, if_false]
  repeat' split
  all_goals first | rfl | (exfalso; omega)
theorem j3_four (s : ByteArray) (lo hi : Nat) : Ev (fun k => spec_runeLen.j3 k s 4 (lo : Int) (hi : Int)) ((sizeOr (checkN s.size (bn s 1) (bn s 2) (bn s 3) 4 lo hi) : Nat) : Int) := by
  refine ⟨5, fun k hk => ?_⟩
  obtain ⟨k, rfl⟩ : ∃ j, k = j + 5 := ⟨k - 5, by omega⟩
  simp only [spec_runeLen.j3, spec_runeLen.l0, check_four, lo_one, lo_two, lo_three, bt1, bt2, bt3, Int.reduceLT, Int.reduceLE, if_true, if_false]
  repeat' split
  all_goals first | rfl | (exfalso; omega)
/-- The size of the first character; 1 for a byte that is part of none. -/
def clen (l : List UInt8) : Nat :=
  if (l.getD 0 0).toNat < 128 then 1
  else sizeOr (checkN l.length (l.getD 1 0).toNat (l.getD 2 0).toNat (l.getD 3 0).toNat (firstT (l.getD 0 0).toNat % 8) (accLo (firstT (l.getD 0 0).toNat / 16)) (accHi (firstT (l.getD 0 0).toNat / 16)))
theorem size_length (s : ByteArray) : s.data.toList.length = s.size := by rw [Array.length_toList]; rfl
theorem ft3 {c : Nat} (h : 224 < c ∧ c < 240 ∧ c ≠ 237) : firstT c = 3 := by
  unfold firstT
  repeat' split
  all_goals first | rfl | omega
theorem ft4 {c : Nat} (h : 240 < c ∧ c < 244) : firstT c = 4 := by
  unfold firstT
  repeat' split
  all_goals first | rfl | omega
theorem ft5 {c : Nat} (h : 244 < c) : firstT c = 241 := by
  unfold firstT
  repeat' split
  all_goals first | rfl | omega
set_option maxHeartbeats 4000000 in
theorem runeLen_ev (s : ByteArray) (h : 0 < s.size) : Ev (fun k => spec_runeLen.f k s) ((clen s.data.toList : Nat) : Int) := by
  have hb : bn s 0 < 256 := (s.data.toList.getD 0 0).toNat_lt
  have ec : clen s.data.toList = (if bn s 0 < 128 then 1 else sizeOr (checkN s.size (bn s 1) (bn s 2) (bn s 3) (firstT (bn s 0) % 8) (accLo (firstT (bn s 0) / 16)) (accHi (firstT (bn s 0) / 16)))) := by unfold clen; rw [size_length]
  unfold spec_runeLen.f
  rw [ec, bt0]
  generalize hc : bn s 0 = c at *
  by_cases c0 : c < 194
  · have er : (if c < 128 then 1 else sizeOr (checkN s.size (bn s 1) (bn s 2) (bn s 3) (firstT c % 8) (accLo (firstT c / 16)) (accHi (firstT c / 16)))) = 1 := by
      by_cases c1 : c < 128
      · rw [if_pos c1]
      · rw [if_neg c1]
        simp [firstT, checkN, c1, c0, sizeOr]
    rw [er]
    refine ev_ite_pos (by omega) (ev_ite_neg (by omega) ?_)
    refine Ev.step (f := fun k => spec_runeLen.j1 k s c 1 128 191 false) (fun k => ?_) (Ev.step (f := fun k => spec_runeLen.j2 k s c 1 128 191 false) (fun k => ?_) (Ev.step (fun k => ?_) (j3_one s 128 191 h)))
    all_goals simp only [spec_runeLen.j0, spec_runeLen.j1, spec_runeLen.j2, Bool.false_eq_true, if_false]
    · rw [if_neg (by omega)]
    · rw [if_neg (by omega)]
  rw [if_neg (show ¬ c < 128 by omega)]
  refine ev_ite_pos (by omega) (ev_ite_pos (by omega) ?_)
  have fin : ∀ sz lo hi, firstT c % 8 = sz → accLo (firstT c / 16) = lo → accHi (firstT c / 16) = hi → (sz = 2 ∨ sz = 3 ∨ sz = 4) →
      Ev (fun k => spec_runeLen.j3 k s (sz : Int) (lo : Int) (hi : Int)) ((sizeOr (checkN s.size (bn s 1) (bn s 2) (bn s 3) (firstT c % 8) (accLo (firstT c / 16)) (accHi (firstT c / 16))) : Nat) : Int) := fun sz lo hi e1 e2 e3 e => by
    rw [e1, e2, e3]
    rcases e with rfl | rfl | rfl
    · exact j3_two s lo hi
    · exact j3_three s lo hi
    · exact j3_four s lo hi
  by_cases c1 : c < 224
  · refine Ev.step (fun k => ?_) (fin 2 128 191 (by simp [firstT, show ¬ c < 128 by omega, c0, c1]) (by simp [firstT, accLo, show ¬ c < 128 by omega, c0, c1]) (by simp [firstT, accHi, show ¬ c < 128 by omega, c0, c1]) (by omega))
    simp only [spec_runeLen.j0]
    rw [if_pos (decide_eq_true (by omega))]
    rfl
  have g0 : decide ((c : Int) ≤ 223) = false := decide_eq_false (by omega)
  rw [g0]
  by_cases c2 : c < 240
  · refine Ev.step (f := fun k => spec_runeLen.j1 k s c 1 128 191 true) (fun k => ?_) ?_
    · simp only [spec_runeLen.j0, Bool.false_eq_true, if_false]
      rw [if_pos (by omega), decide_eq_true (by omega)]
    by_cases c3 : c = 224
    · subst c3
      refine Ev.step (fun k => ?_) (fin 3 160 191 (by decide) (by decide) (by decide) (by omega))
      simp only [spec_runeLen.j1]
      rfl
    by_cases c4 : c = 237
    · subst c4
      refine Ev.step (fun k => ?_) (fin 3 128 159 (by decide) (by decide) (by decide) (by omega))
      simp only [spec_runeLen.j1]
      rfl
    refine Ev.step (fun k => ?_) (fin 3 128 191 (by rw [ft3 (by omega)]) (by rw [ft3 (by omega)]; rfl) (by rw [ft3 (by omega)]; rfl) (by omega))
    simp only [spec_runeLen.j1, if_true]
    rw [if_neg (by omega), if_neg (by omega)]
    rfl
  refine Ev.step (f := fun k => spec_runeLen.j1 k s c 1 128 191 false) (fun k => ?_) ?_
  · simp only [spec_runeLen.j0, Bool.false_eq_true, if_false]
    rw [if_pos (by omega), decide_eq_false (by omega)]
  refine Ev.step (f := fun k => spec_runeLen.j2 k s c 1 128 191 (decide ((c : Int) ≤ 244))) (fun k => ?_) ?_
  · simp only [spec_runeLen.j1, Bool.false_eq_true, if_false]
    rw [if_pos (by omega)]
  by_cases c5 : c ≤ 244
  · rw [decide_eq_true (by omega)]
    by_cases c6 : c = 240
    · subst c6
      refine Ev.step (fun k => ?_) (fin 4 144 191 (by decide) (by decide) (by decide) (by omega))
      simp only [spec_runeLen.j2]
      rfl
    by_cases c7 : c = 244
    · subst c7
      refine Ev.step (fun k => ?_) (fin 4 128 143 (by decide) (by decide) (by decide) (by omega))
      simp only [spec_runeLen.j2]
      rfl
    refine Ev.step (fun k => ?_) (fin 4 128 191 (by rw [ft4 (by omega)]) (by rw [ft4 (by omega)]; rfl) (by rw [ft4 (by omega)]; rfl) (by omega))
    simp only [spec_runeLen.j2, if_true]
    rw [if_neg (by omega), if_neg (by omega)]
    rfl
  · rw [decide_eq_false (by omega)]
    have er : sizeOr (checkN s.size (bn s 1) (bn s 2) (bn s 3) (firstT c % 8) (accLo (firstT c / 16)) (accHi (firstT c / 16))) = 1 := by
      have e : firstT c = 241 := ft5 (by omega)
      rw [e]
      rfl
    rw [er]
    refine Ev.step (fun k => ?_) (j3_one s 128 191 h)
    simp only [spec_runeLen.j2, Bool.false_eq_true, if_false]
end Go.Proofs.YtnjghpoeokfekaaDoor.Pure
