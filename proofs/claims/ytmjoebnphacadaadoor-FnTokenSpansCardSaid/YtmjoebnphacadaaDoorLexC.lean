/- parse.isReserved; parse.lexer: accept, expect. -/
import Derived.Test.YtmjoebnphacadaaDoorLexB
namespace Go.Proofs.YtmjoebnphacadaaDoor.Lex
open Go.RowKit Go.Lib Go.Proofs.YtmjoebnphacadaaDoorW.PrintWords Go.Proofs.YtmjoebnphacadaaDoorW.PrintLast
set_option linter.unusedVariables false
set_option linter.unusedSimpArgs false
def resSet : ByteArray := ⟨#[123, 125, 33, 61, 126, 44, 92, 34, 39, 96]⟩
/-- parse.isReserved. -/
def resR (r : Int) : Bool := Lib.isSpaceZ r || decide (zzIdx resSet r ≥ 0)
set_option maxRecDepth 100000 in
theorem is_reserved (r : Int) (w : World) (h0 : -2147483648 ≤ r) (h1 : r ≤ 2147483647) (hT : LT w) :
    Calls Tryd.prog 41 #[.int .i32 r] w fun e w' => e = .returned (.bool (resR r)) ∧ Below w.heap.size w w' := by
  have H1 := Aside0.mk (Tryd.unicode_IsSpace_any r w h0 h1 hT.2)
  have H2 := Aside0.mk (fun W => zz_contains resSet r W (by decide) h0 h1)
  clear hT
  unfold resR
  generalize decide (zzIdx resSet r ≥ 0) = v at H2 ⊢
  cases hs : Lib.isSpaceZ r with
  | true =>
    rw [hs] at H1
    clear hs
    go_enter Tryd.func41, Tryd.ntmps41
    go_wp2_with fail
    refine H1.out.mono ?_
    rintro e w1 ⟨rfl, hb⟩
    go_wp2
    go_ret
    exact ⟨rfl, hb⟩
  | false =>
    rw [hs] at H1
    clear hs
    go_enter Tryd.func41, Tryd.ntmps41
    go_wp2_with fail
    refine H1.out.mono ?_
    rintro e w1 ⟨rfl, hb⟩
    have HB := Aside0.mk hb
    clear hb
    go_wp2_with fail
    refine (H2.out _).mono ?_
    rintro e w2 ⟨rfl, hb⟩
    have HB2 := Aside0.mk (below_step HB.out hb)
    clear hb
    go_wp2
    go_ret
    exact ⟨rfl, HB2.out⟩
theorem rn_lo (s : ByteArray) (p : Nat) : -2147483648 ≤ ((rn s p : Nat) : Int) := by omega
theorem rn_hi (s : ByteArray) (p : Nat) : ((rn s p : Nat) : Int) ≤ 2147483647 := by have h : rn s p ≤ 1114111 := Lib.rune_le s p; omega
/-- Is the next rune one of these? -/
def accB (s v : ByteArray) (p : Nat) : Bool := decide (p < s.size) && decide (zzIdx v (rn s p) ≥ 0)
def sel (b : Bool) (x y : Nat) : Nat := if b = true then x else y
theorem zzIdx_eof (v : ByteArray) : decide (zzIdx v (-1) ≥ 0) = false := by
  unfold zzIdx
  rw [if_pos (by decide)]
  rfl
section
variable {w : World} {B o : Nat} {s : ByteArray} {e : Value} {a p wd ca c : Nat}
set_option maxRecDepth 100000 in
theorem accept_calls {w0 : World} (hX : Cx w0 w B) (h : LexAt w B o s e a p wd ca c) (v : ByteArray) (hv : v.size ≤ 2147483647) (hs : s.size ≤ 2147483647) (hp : p ≤ s.size) (hc : c ≤ p) :
    Calls Tryd.prog 49 #[.pointer (some ⟨B, o, none⟩), .string v] w fun x w' => x = .returned (.bool (accB s v p)) ∧ (∃ wd', LexAt w' B o s e a (sel (accB s v p) (p + wdt s p) p) wd' ca (sel (accB s v p) (c + 1) c)) ∧ Kept B o w w' := by
  by_cases hlt : p < s.size
  · have N := Aside0.mk (next_rune hX h hlt hs hc)
    have Z := Aside0.mk (fun W => zz_contains v (rn s p) W hv (rn_lo s p) (rn_hi s p))
    have eB : accB s v p = decide (zzIdx v (rn s p) ≥ 0) := by unfold accB; rw [decide_eq_true hlt, Bool.true_and]
    have hle := adv_le s p hlt
    have hpos := adv_pos s p
    rw [eB]
    generalize decide (zzIdx v (rn s p) ≥ 0) = b at Z ⊢
    clear h eB hX
    have HA := Aside0.mk (And.intro hle (And.intro hpos (And.intro hs (And.intro hc hp))))
    clear hle hpos hs hc hp hlt
    cases b with
    | true =>
      go_enter Tryd.func49, Tryd.ntmps49
      go_wp2_with fail
      refine N.out.mono ?_
      rintro x w1 ⟨rfl, hl, hk⟩
      have HL1 := Aside0.mk hl
      have HK1 := Aside0.mk hk
      clear hl hk
      go_wp2_with fail
      refine (Z.out _).mono ?_
      rintro x w2 ⟨rfl, hb⟩
      have HL2 := Aside0.mk (HL1.out.below hb HL1.out.lt)
      have HK2 := Aside0.mk (HK1.out.trans (Kept.of_below hb HL1.out.lt))
      clear hb
      go_wp2
      go_ret
      exact ⟨rfl, ⟨_, HL2.out⟩, HK2.out⟩
    | false =>
      go_enter Tryd.func49, Tryd.ntmps49
      go_wp2_with fail
      refine N.out.mono ?_
      rintro x w1 ⟨rfl, hl, hk⟩
      have HL1 := Aside0.mk hl
      have HK1 := Aside0.mk hk
      clear hl hk
      go_wp2_with fail
      refine (Z.out _).mono ?_
      rintro x w2 ⟨rfl, hb⟩
      have HL2 := Aside0.mk (HL1.out.below hb HL1.out.lt)
      have HK2 := Aside0.mk (HK1.out.trans (Kept.of_below hb HL1.out.lt))
      clear hb
      go_wp2_with fail
      refine (rewind_calls HL2.out (by omega) (by have := HA.out; omega) (Or.inl (by omega)) (by have := HA.out; omega)).mono ?_
      rintro x w3 ⟨rfl, hl, hk⟩
      have e1 : p + wdt s p - wdt s p = p := by omega
      have e2 : (if wdt s p = 0 then c + 1 else c + 1 - 1) = c := by rw [if_neg (by have := HA.out; omega)]; omega
      rw [e1, e2] at hl
      have HL3 := Aside0.mk hl
      have HK3 := Aside0.mk (HK2.out.trans hk)
      clear hl hk e1 e2
      go_wp2
      go_ret
      exact ⟨rfl, ⟨_, HL3.out⟩, HK3.out⟩
  · have N := Aside0.mk (next_eof h hlt)
    have Z := Aside0.mk (fun W => zz_contains v (-1) W hv (by decide) (by decide))
    rw [zzIdx_eof] at Z
    have eB : accB s v p = false := by unfold accB; rw [decide_eq_false hlt, Bool.false_and]
    rw [eB]
    have HA := Aside0.mk (And.intro hs (And.intro hc hp))
    clear h eB hX hlt hs hc hp
    go_enter Tryd.func49, Tryd.ntmps49
    go_wp2_with fail
    refine N.out.mono ?_
    rintro x w1 ⟨rfl, hl, hk⟩
    have HL1 := Aside0.mk hl
    have HK1 := Aside0.mk hk
    clear hl hk
    go_wp2_with fail
    refine (Z.out _).mono ?_
    rintro x w2 ⟨rfl, hb⟩
    have HL2 := Aside0.mk (HL1.out.below hb HL1.out.lt)
    have HK2 := Aside0.mk (HK1.out.trans (Kept.of_below hb HL1.out.lt))
    clear hb
    go_wp2_with fail
    refine (rewind_calls HL2.out (by omega) (by have := HA.out; omega) (Or.inr rfl) (by have := HA.out; omega)).mono ?_
    rintro x w3 ⟨rfl, hl, hk⟩
    rw [if_pos rfl] at hl
    have HL3 := Aside0.mk hl
    have HK3 := Aside0.mk (HK2.out.trans hk)
    clear hl hk
    go_wp2
    go_ret
    exact ⟨rfl, ⟨_, HL3.out⟩, HK3.out⟩
end
end Go.Proofs.YtmjoebnphacadaaDoor.Lex
