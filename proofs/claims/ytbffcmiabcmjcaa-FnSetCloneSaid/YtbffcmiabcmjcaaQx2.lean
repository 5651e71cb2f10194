-- printed by this project's own program wip/tools/mkprint.py (the kit's print.py with hand-proved contracts put in)
import Derived.Test.YtbffcmiabcmjcaaQx0
namespace Go.Proofs.Ytbffcmiabcmjcaa.Q
open Go.RowKit Go.Proofs.YtbffcmiabcmjcaaW.PrintWords Go.Proofs.YtbffcmiabcmjcaaW.PrintLast Go.Proofs.YtbffcmiabcmjcaaW.PrintMore
attribute [local go_sem] max2_int min2_int max_two min_two max_three min_three max_four min_four   -- for this text's walks alone
set_option linter.unusedVariables false
set_option linter.unusedSimpArgs false

/-! ### laws_eqPairs: function 14 -/
-- a contract that was proved by hand
theorem eqSP (d : Nat) (w : World) (x0 y0 : ByteArray) (x1 y1 : ByteArray) :
    (Op.equalIn (d + 2) 44 (.agg #[.string x0, .string x1]) (.agg #[.string y0, .string y1])).run Try.prog w = .ok (x0.toList == y0.toList && (x1.toList == y1.toList)) w := by
  refine eqA_of Try.underlying44 (by kernel_rfl) ?_
  refine eqf_cons (by rfl) (by go_simp; rfl) (by go_simp; rfl) (by go_simp) ?_
  exact eqf_last (by rfl) (by go_simp; rfl) (by go_simp; rfl) (by go_simp)
attribute [local go_sem high] eqSP
def neP (p : S26) (s : S44) : Bool := !(p.f0.toList == s.f0.toList && (p.f1.toList == s.f1.toList))
def eqP : List S26 → List S44 → Bool
  | p :: r, s :: t => if neP p s = true then false else eqP r t
  | [], [] => true
  | _, _ => false
def laws_eqPairs.f (l0 : List S26) (l1 : List S44) : Option Bool := if l0.length ≤ maxLen then some (eqP l0 l1) else none
theorem eqP_len : ∀ {l0 : List S26} {l1 : List S44}, l0.length ≠ l1.length → eqP l0 l1 = false
  | [], [], h => absurd rfl h
  | [], _ :: _, _ => rfl
  | _ :: _, [], _ => rfl
  | p :: r, s :: t, h => by
    unfold eqP
    split
    · rfl
    · exact eqP_len (fun e => h (by rw [List.length_cons, List.length_cons, e]))
set_option maxHeartbeats 1600000 in
set_option maxRecDepth 100000 in
theorem laws_eqPairs.calls (A0 : Option Addr) (c0 : Nat) (l0 : List S26) (A1 : Option Addr) (c1 : Nat) (l1 : List S44) (r : Bool) (w : World) (hr0 : Kd.C k26 w A0 l0.length l0) (hc0 : l0.length ≤ c0) (hr1 : Kd.C k44 w A1 l1.length l1) (hc1 : l1.length ≤ c1) (h : laws_eqPairs.f l0 l1 = some r) :
    Calls Try.prog 14 #[.slice A0 l0.length c0, .slice A1 l1.length c1] w fun e w' => e = .returned (.bool r) ∧ Drawn0 w w' := by
  unfold laws_eqPairs.f at h
  split at h
  · rename_i hl
    have HQ := Aside0.mk (Option.some.inj h)
    have R0 := Aside0.mk hr0
    have R1 := Aside0.mk hr1
    unfold maxLen at hl
    clear h hr0 hr1 hc0 hc1
    by_cases hlen : l0.length = l1.length
    · have c1 : ((l0.length : Int) == (l1.length : Int)) = true := by simp [hlen]
      have c2 : ((l0.length : Int) != (l1.length : Int)) = false := by simp [hlen]
      go_enter Try.func14, Try.ntmps14
      go_wp2
      go_loopw [13] (fun v13 wr => ∃ j : Nat, j ≤ l0.length ∧ v13 = .int .i64 j ∧ Aside0 (eqP (l0.drop j) (l1.drop j) = r) ∧ Aside0 (Drawn0 w wr)) (fun v13 _ => l0.length - (intOf v13).toNat)
      case atStart => exact ⟨0, Nat.zero_le _, rfl, HQ, ⟨Drawn0.refl _⟩⟩
      case round =>
        clear HQ
        obtain ⟨j, hj, rfl, HQ, HD⟩ := hrel
        by_cases hlt : j < l0.length
        · obtain ⟨ad, e0, hx0, hx1⟩ := at_T26 (Kd.C_below R0.out HD.out.below) (j : Int) (by omega) (by omega)
          obtain ⟨ad', e1, hy0, hy1⟩ := at_T44 (Kd.C_below R1.out HD.out.below) (j : Int) (by omega) (by omega)
          cases e0
          cases e1
          simp only [Int.toNat_natCast] at hx0 hx1 hy0 hy1
          have hlt1 : j < l1.length := by omega
          have g0 : rd_T26 l0 (j : Int) = l0[j] := by simp [rd_T26, hlt]
          have g1 : rd_T44 l1 (j : Int) = l1[j] := by simp [rd_T44, hlt1]
          rw [g0] at hx0 hx1
          rw [g1] at hy0 hy1
          have hq := HQ.out
          rw [List.drop_eq_getElem_cons hlt, List.drop_eq_getElem_cons hlt1] at hq
          unfold eqP neP at hq
          clear g0 g1 HQ
          generalize l0[j] = p at *
          generalize l1[j] = s at *
          obtain ⟨x, y⟩ := p
          obtain ⟨x', y'⟩ := s
          simp only at hx0 hx1 hy0 hy1 hq
          have HD2 := Aside0.mk HD.out
          obtain ⟨q, hq2⟩ : ∃ q, (x.toList == x'.toList && (y.toList == y'.toList)) = q := ⟨_, rfl⟩
          rw [hq2] at hq
          have HQ2 := Aside0.mk hq
          clear hq
          go_wp2
          go_quiet (fail)
          cases q with
          | false =>
            obtain rfl : false = r := HQ2.out
            go_wp2
            go_ret
            exact ⟨rfl, by repeat (first | exact HD2.out | apply Drawn0.step)⟩
          | true =>
            have hq3 := HQ2.out
            simp only [Bool.not_true, Bool.false_eq_true, if_false] at hq3
            have HQ3 := Aside0.mk hq3
            clear hq3
            go_wp2
            go_roundw
            case rel => exact ⟨j + 1, by omega, by go_num, HQ3, ⟨by repeat (first | exact HD2.out | apply Drawn0.step)⟩⟩
            case measure => simp [intOf]; omega
        · have hj2 : j = l0.length := by omega
          subst hj2
          have hq := HQ.out
          rw [List.drop_of_length_le (Nat.le_refl _), List.drop_of_length_le (by omega)] at hq
          obtain rfl : true = r := hq
          go_wp2
          go_ret
          exact ⟨rfl, HD.out⟩
    · have c1 : ((l0.length : Int) == (l1.length : Int)) = false := beq_eq_false_iff_ne.2 (fun e => hlen (by omega))
      have c2 : ((l0.length : Int) != (l1.length : Int)) = true := bne_iff_ne.2 (fun e => hlen (by omega))
      obtain rfl : false = r := by rw [← HQ.out, eqP_len hlen]
      go_enter Try.func14, Try.ntmps14
      go_wp2
      go_ret
      exact ⟨rfl, Drawn0.refl _⟩
  · cases h


end Go.Proofs.Ytbffcmiabcmjcaa.Q
