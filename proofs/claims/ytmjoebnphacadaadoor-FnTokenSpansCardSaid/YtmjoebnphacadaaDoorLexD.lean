/- parse.lexer: expect. -/
import Derived.Test.YtmjoebnphacadaaDoorLexC
namespace Go.Proofs.YtmjoebnphacadaaDoor.Lex
open Go.RowKit Go.Lib Go.Proofs.YtmjoebnphacadaaDoorW.PrintWords Go.Proofs.YtmjoebnphacadaaDoorW.PrintLast
set_option linter.unusedVariables false
set_option linter.unusedSimpArgs false
/-- An error of the lexer. -/
def LexErr (v : Value) : Prop := ∃ T cs, v = .iface T (.agg cs) ∧ (T = 121 ∨ T = 99 ∨ T = 123)
/-- What expect hands back. -/
def ExpR (b : Bool) (r : Value) : Prop := (b = true → r = .nilIface) ∧ (b = false → LexErr r)
section
variable {w : World} {B o : Nat} {s : ByteArray} {e : Value} {a p wd ca c : Nat}
set_option maxHeartbeats 1600000 in
set_option maxRecDepth 100000 in
theorem expect_calls {w0 : World} (hX : Cx w0 w B) (h : LexAt w B o s e a p wd ca c) (v : ByteArray) (hv : v.size ≤ 2147483647) (hs : s.size ≤ 2147483647) (hp : p ≤ s.size) (hc : c ≤ p) :
    Calls Tryd.prog 50 #[.pointer (some ⟨B, o, none⟩), .string v] w fun x w' => (∃ r, x = .returned r ∧ ExpR (accB s v p) r) ∧ (∃ wd', LexAt w' B o s e a (sel (accB s v p) (p + wdt s p) p) wd' ca (sel (accB s v p) (c + 1) c)) ∧ Kept B o w w' := by
  by_cases hlt : p < s.size
  · have N := Aside0.mk (next_rune hX h hlt hs hc)
    have Z := Aside0.mk (fun W => zz_contains v (rn s p) W hv (rn_lo s p) (rn_hi s p))
    have eB : accB s v p = decide (zzIdx v (rn s p) ≥ 0) := by unfold accB; rw [decide_eq_true hlt, Bool.true_and]
    have hle := adv_le s p hlt
    have hpos := adv_pos s p
    rw [eB]
    generalize decide (zzIdx v (rn s p) ≥ 0) = b at Z ⊢
    clear h eB hX
    have HA := Aside0.mk (And.intro hle (And.intro hpos (And.intro hs (And.intro hc hp))))
    clear hle hpos hs hc hp hlt
    cases b with
    | true =>
      go_enter Tryd.func50, Tryd.ntmps50
      go_wp2_with fail
      refine N.out.mono ?_
      rintro x w1 ⟨rfl, hl, hk⟩
      have HL1 := Aside0.mk hl
      have HK1 := Aside0.mk hk
      clear hl hk
      go_wp2_with fail
      refine (Z.out _).mono ?_
      rintro x w2 ⟨rfl, hb⟩
      have HL2 := Aside0.mk (HL1.out.below hb HL1.out.lt)
      have HK2 := Aside0.mk (HK1.out.trans (Kept.of_below hb HL1.out.lt))
      clear hb
      go_wp2
      go_ret
      exact ⟨⟨_, rfl, fun _ => rfl, fun h => Bool.noConfusion h⟩, ⟨_, HL2.out⟩, HK2.out⟩
    | false =>
      go_enter Tryd.func50, Tryd.ntmps50
      go_wp2_with fail
      refine N.out.mono ?_
      rintro x w1 ⟨rfl, hl, hk⟩
      have HL1 := Aside0.mk hl
      have HK1 := Aside0.mk hk
      clear hl hk
      go_wp2_with fail
      refine (Z.out _).mono ?_
      rintro x w2 ⟨rfl, hb⟩
      have HL2 := Aside0.mk (HL1.out.below hb HL1.out.lt)
      have HK2 := Aside0.mk (HK1.out.trans (Kept.of_below hb HL1.out.lt))
      clear hb
      go_wp2_with fail
      refine (rewind_calls HL2.out (by omega) (by have := HA.out; omega) (Or.inl (by omega)) (by have := HA.out; omega)).mono ?_
      rintro x w3 ⟨rfl, hl, hk⟩
      have e1 : p + wdt s p - wdt s p = p := by omega
      have e2 : (if wdt s p = 0 then c + 1 else c + 1 - 1) = c := by rw [if_neg (by have := HA.out; omega)]; omega
      rw [e1, e2] at hl
      have HL3 := Aside0.mk hl
      have HK3 := Aside0.mk (HK2.out.trans hk)
      have CS := Aside0.mk (show ∀ W, Below w3.heap.size w3 W → LexAt W B o s e a p (wdt s p) ca c from fun W hb => hl.below hb hl.lt)
      have c0 := hl.c0
      clear hl hk e1 e2
      go_wp2_with fail
      go_region_held3 (fun w' => w'.cell? ⟨B, o, none⟩ = some (.string s)) (go_keep) (first
        | (go_at_call 44; refine (position_calls (CS.out _ (by repeat (first | exact Below.refl _ _ | apply below_drew1 | apply pw_below_drewN)))).mono ?_; rintro x w4 ⟨rfl, hb⟩; have HB4 := Aside0.mk (below_step (w := w3) (by repeat (first | exact Below.refl _ _ | apply below_drew1 | apply pw_below_drewN)) hb); clear hb c0; have H4 := Aside0.mk (CS.out _ HB4.out); have c0 := H4.out.c0))
      all_goals
        go_wp2
        go_ret
        exact ⟨⟨_, rfl, fun h => Bool.noConfusion h, fun _ => ⟨_, _, rfl, Or.inl rfl⟩⟩, ⟨_, by repeat (first | exact H4.out | apply LexAt.drew | apply LexAt.drewN)⟩, by repeat (first | exact HK3.out.trans (Kept.of_below HB4.out HL3.out.lt) | apply Kept.drew)⟩
  · have N := Aside0.mk (next_eof h hlt)
    have Z := Aside0.mk (fun W => zz_contains v (-1) W hv (by decide) (by decide))
    rw [zzIdx_eof] at Z
    have eB : accB s v p = false := by unfold accB; rw [decide_eq_false hlt, Bool.false_and]
    rw [eB]
    have HA := Aside0.mk (And.intro hs (And.intro hc hp))
    clear h eB hX hlt hs hc hp
    go_enter Tryd.func50, Tryd.ntmps50
    go_wp2_with fail
    refine N.out.mono ?_
    rintro x w1 ⟨rfl, hl, hk⟩
    have HL1 := Aside0.mk hl
    have HK1 := Aside0.mk hk
    clear hl hk
    go_wp2_with fail
    refine (Z.out _).mono ?_
    rintro x w2 ⟨rfl, hb⟩
    have HL2 := Aside0.mk (HL1.out.below hb HL1.out.lt)
    have HK2 := Aside0.mk (HK1.out.trans (Kept.of_below hb HL1.out.lt))
    clear hb
    go_wp2_with fail
    refine (rewind_calls HL2.out (by omega) (by have := HA.out; omega) (Or.inr rfl) (by have := HA.out; omega)).mono ?_
    rintro x w3 ⟨rfl, hl, hk⟩
    rw [if_pos rfl] at hl
    have HL3 := Aside0.mk hl
    have HK3 := Aside0.mk (HK2.out.trans hk)
    have CS := Aside0.mk (show ∀ W, Below w3.heap.size w3 W → LexAt W B o s e a p 0 ca c from fun W hb => LexAt.below hl hb (LexAt.lt hl))
    have c0 := hl.c0
    clear hl hk
    go_wp2_with fail
    go_region_held3 (fun w' => w'.cell? ⟨B, o, none⟩ = some (.string s)) (go_keep) (first
      | (go_at_call 44; refine (position_calls (CS.out _ (by repeat (first | exact Below.refl _ _ | apply below_drew1 | apply pw_below_drewN)))).mono ?_; rintro x w4 ⟨rfl, hb⟩; have HB4 := Aside0.mk (below_step (w := w3) (by repeat (first | exact Below.refl _ _ | apply below_drew1 | apply pw_below_drewN)) hb); clear hb c0; have H4 := Aside0.mk (CS.out _ HB4.out); have c0 := H4.out.c0))
    all_goals
      go_wp2
      go_ret
      exact ⟨⟨_, rfl, fun h => Bool.noConfusion h, fun _ => ⟨_, _, rfl, Or.inl rfl⟩⟩, ⟨_, by repeat (first | exact H4.out | apply LexAt.drew | apply LexAt.drewN)⟩, by repeat (first | exact HK3.out.trans (Kept.of_below HB4.out HL3.out.lt) | apply Kept.drew)⟩
end
end Go.Proofs.YtmjoebnphacadaaDoor.Lex
