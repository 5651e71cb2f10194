/- parse.lexer: scanQuoted (printed by wip/tools/gen_quo.py). -/
import Derived.Test.YtmjoebnphacadaaDoorLexG
namespace Go.Proofs.YtmjoebnphacadaaDoor.Lex
open Go.RowKit Go.Lib Go.Proofs.YtmjoebnphacadaaDoorW.PrintWords Go.Proofs.YtmjoebnphacadaaDoorW.PrintLast
set_option linter.unusedVariables false
set_option linter.unusedSimpArgs false
def qB : ByteArray := ⟨#[34]⟩
/-- The closing quote of a quoted part: its place, its column. -/
def quoE (s : ByteArray) : Nat → Bool → Nat → Nat → Option (Nat × Nat)
  | 0, _, _, _ => none
  | f + 1, esc, p, c =>
    if p < s.size then
      (if esc = true then quoE s f false (p + wdt s p) (c + 1)
      else if rn s p = 92 then quoE s f true (p + wdt s p) (c + 1)
      else if rn s p = 34 then some (p, c)
      else quoE s f false (p + wdt s p) (c + 1))
    else none
theorem quoE_end {s : ByteArray} {f : Nat} {esc : Bool} {p c : Nat} (h : ¬ p < s.size) : quoE s f esc p c = none := by
  cases f with
  | zero => rfl
  | succ f => exact if_neg h
theorem quoE_esc {s : ByteArray} {f p c : Nat} (h : p < s.size) : quoE s (f + 1) true p c = quoE s f false (p + wdt s p) (c + 1) := (if_pos h).trans (if_pos rfl)
theorem quoE_back {s : ByteArray} {f p c : Nat} (h : p < s.size) (h2 : rn s p = 92) : quoE s (f + 1) false p c = quoE s f true (p + wdt s p) (c + 1) := (if_pos h).trans ((if_neg (by decide)).trans (if_pos h2))
theorem quoE_quote {s : ByteArray} {f p c : Nat} (h : p < s.size) (h2 : rn s p = 34) : quoE s (f + 1) false p c = some (p, c) := (if_pos h).trans ((if_neg (by decide)).trans ((if_neg (by omega)).trans (if_pos h2)))
theorem quoE_more {s : ByteArray} {f p c : Nat} (h : p < s.size) (h2 : ¬ rn s p = 92) (h3 : ¬ rn s p = 34) : quoE s (f + 1) false p c = quoE s f false (p + wdt s p) (c + 1) := (if_pos h).trans ((if_neg (by decide)).trans ((if_neg h2).trans (if_neg h3)))
theorem zz_quote : decide (zzIdx qB 34 ≥ 0) = true := by decide +kernel
theorem acc_quote {s : ByteArray} {p : Nat} (h : p < s.size) (h2 : rn s p = 34) : accB s qB p = true := by
  unfold accB
  rw [decide_eq_true h, Bool.true_and, h2]
  exact zz_quote
theorem acc_end {s v : ByteArray} {p : Nat} (h : ¬ p < s.size) : accB s v p = false := by
  unfold accB
  rw [decide_eq_false h, Bool.false_and]
section
variable {w : World} {B o : Nat} {s : ByteArray} {e : Value} {p wd c : Nat}
set_option maxHeartbeats 3200000 in
set_option maxRecDepth 100000 in
theorem quoted_ok {w0 : World} (hX : Cx w0 w B) (h : LexAt w B o s e p p wd c c) (hs : s.size ≤ 2147483647) (hp : p ≤ s.size) (hc : c ≤ p) (h1 : accB s qB p = true) (E CE : Nat) (hE : quoE s s.size false (p + wdt s p) (c + 1) = some (E, CE)) :
    Calls Tryd.prog 40 #[.pointer (some ⟨B, o, none⟩)] w fun x w' => x = .returned (.tuple #[tokV s 8 p (E + wdt s E) c (CE + 1), .nilIface]) ∧ (∃ wd', LexAt w' B o s e (E + wdt s E) (E + wdt s E) wd' (CE + 1) (CE + 1)) ∧ Kept B o w w' := by
  have HB := Aside0.mk h.lt
  have HX := Aside0.mk (hX.kept (Kept.alloc (Kept.refl B o w) h.lt (.cells #[.int .i64 0, .string ⟨#[]⟩, .int .i64 0, .int .i64 0, .int .i64 0, .int .i64 0] 80)))
  have HL0 := Aside0.mk (h.alloc (.cells #[.int .i64 0, .string ⟨#[]⟩, .int .i64 0, .int .i64 0, .int .i64 0, .int .i64 0] 80))
  have HS := Aside0.mk (And.intro hs (And.intro hp hc))
  have HG := Aside0.mk (heap_alloc_new w (.cells #[.int .i64 0, .string ⟨#[]⟩, .int .i64 0, .int .i64 0, .int .i64 0, .int .i64 0] 80))
  have HW := Aside0.mk (show Kept B o w (w.alloc (.cells #[.int .i64 0, .string ⟨#[]⟩, .int .i64 0, .int .i64 0, .int .i64 0, .int .i64 0] 80)) from Kept.alloc (Kept.refl B o w) h.lt _)
  have HE := Aside0.mk hE
  have A0 := Aside0.mk (acc_le h1)
  have E0 := Aside0.mk h1
  clear hX h hs hp hc hE h1
  have hne : w.heap.size ≠ B := by have := HB.out; omega
  have hne' : B ≠ w.heap.size := fun e => hne e.symm
  go_enter Tryd.func40, Tryd.ntmps40
  go_wp2_with fail
  have C := expect_calls HX.out HL0.out qB (by decide) HS.out.1 HS.out.2.1 HS.out.2.2
  rw [E0.out] at C
  refine C.mono ?_
  clear C
  rintro x w1 ⟨⟨r, rfl, hr⟩, ⟨wd1, hl⟩, hk⟩
  obtain rfl := hr.1 rfl
  have HL1 := Aside0.mk (show LexAt w1 B o s e p (p + wdt s p) wd1 c (c + 1) from hl)
  have HK1 := Aside0.mk hk
  clear hl hk hr
  go_wp2_with fail
  refine (next_calls (HX.out.kept HK1.out) HL1.out HS.out.1 (by have := HS.out; have := A0.out; omega)).mono ?_
  rintro x w2 ⟨rfl, hl, hk⟩
  have HL2 := Aside0.mk hl
  have HK2 := Aside0.mk (HK1.out.trans hk)
  clear hl hk
  go_wp2
  go_loopw [5, 6] (fun v5 v6 wr => ∃ (q cq fuel : Nat) (esc : Bool), v5 = .bool esc ∧ v6 = .int .i32 (nR s q) ∧ Aside0 (quoE s fuel esc q cq = some (E, CE) ∧ s.size ≤ q + fuel ∧ p ≤ q ∧ q ≤ s.size ∧ cq ≤ q) ∧ Aside0 (LexAt wr B o s e p (nP s q) (nW s q) c (nC s q cq)) ∧ Aside0 (Kept B o (w.alloc (.cells #[.int .i64 0, .string ⟨#[]⟩, .int .i64 0, .int .i64 0, .int .i64 0, .int .i64 0] 80)) wr)) (fun _ v6 wr => 2 * (s.size - posAt wr B o) + (if RowKit.intOf v6 = -1 then 0 else 1))
  case atStart => exact ⟨p + wdt s p, c + 1, s.size, false, rfl, rfl, ⟨HE.out, by omega, by omega, A0.out.1, by have := HS.out; have := A0.out; omega⟩, HL2, HK2⟩
  case round =>
    obtain ⟨q, cq, fuel, esc, rfl, rfl, HR, HL, HK⟩ := hrel
    by_cases hq : q < s.size
    · have hle := adv_le s q hq
      have hpos := adv_pos s q
      have HA := Aside0.mk (And.intro hle hpos)
      have hne1 : ((nR s q : Int) != -1) = true := by rw [nR_t hq]; simp <;> omega
      rw [nR_t hq] at hne1 ⊢
      have HLq := Aside0.mk (show LexAt wr B o s e p (q + wdt s q) (wdt s q) c (cq + 1) by have := HL.out; rw [nP_t hq, nW_t hq, nC_t hq] at this; exact this)
      have N := Aside0.mk (next_calls (HX.out.kept HK.out) HLq.out HS.out.1 (by have := HR.out; omega))
      obtain ⟨f, rfl⟩ : ∃ f, fuel = f + 1 := ⟨fuel - 1, by have := HR.out; omega⟩
      have hEq := HR.out.1
      clear hle hpos HL
      cases esc with
      | true =>
        rw [quoE_esc hq] at hEq
        have HR2 := Aside0.mk (show quoE s f false (q + wdt s q) (cq + 1) = some (E, CE) ∧ s.size ≤ q + wdt s q + f ∧ p ≤ q + wdt s q ∧ q + wdt s q ≤ s.size ∧ cq + 1 ≤ q + wdt s q from ⟨hEq, by have := HR.out; have := HA.out; omega, by have := HR.out; omega, HA.out.1, by have := HR.out; have := HA.out; omega⟩)
        clear hEq
        go_wp2_with fail
        refine N.out.mono ?_
        rintro x w3 ⟨rfl, hl, hk⟩
        have HL3 := Aside0.mk hl
        have HK3 := Aside0.mk (HK.out.trans hk)
        clear hl hk
        go_wp2
        go_roundw
        case rel => exact ⟨q + wdt s q, cq + 1, f, false, rfl, rfl, HR2, HL3, HK3⟩
        case measure =>
          rw [posAt_of HLq.out, posAt_of HL3.out]
          have h1 := HA.out
          by_cases hq2 : q + wdt s q < s.size
          · rw [nP_t hq2, nR_t hq2]
            have h2 := adv_pos s (q + wdt s q)
            simp [RowKit.intOf] <;> omega
          · rw [nP_f hq2, nR_f hq2]
            simp [RowKit.intOf] <;> omega
      | false =>
        by_cases h92 : rn s q = 92
        · have b92 : (((rn s q : Nat) : Int) == 92) = true := by simp; omega
          rw [quoE_back hq h92] at hEq
          have HR2 := Aside0.mk (show quoE s f true (q + wdt s q) (cq + 1) = some (E, CE) ∧ s.size ≤ q + wdt s q + f ∧ p ≤ q + wdt s q ∧ q + wdt s q ≤ s.size ∧ cq + 1 ≤ q + wdt s q from ⟨hEq, by have := HR.out; have := HA.out; omega, by have := HR.out; omega, HA.out.1, by have := HR.out; have := HA.out; omega⟩)
          clear hEq
          go_wp2_with fail
          refine N.out.mono ?_
          rintro x w3 ⟨rfl, hl, hk⟩
          have HL3 := Aside0.mk hl
          have HK3 := Aside0.mk (HK.out.trans hk)
          clear hl hk
          go_wp2
          go_roundw
          case rel => exact ⟨q + wdt s q, cq + 1, f, true, rfl, rfl, HR2, HL3, HK3⟩
          case measure =>
            rw [posAt_of HLq.out, posAt_of HL3.out]
            have h1 := HA.out
            by_cases hq2 : q + wdt s q < s.size
            · rw [nP_t hq2, nR_t hq2]
              have h2 := adv_pos s (q + wdt s q)
              simp [RowKit.intOf] <;> omega
            · rw [nP_f hq2, nR_f hq2]
              simp [RowKit.intOf] <;> omega
        · have b92 : (((rn s q : Nat) : Int) == 92) = false := by simp; omega
          by_cases h34 : rn s q = 34
          · have b34 : (((rn s q : Nat) : Int) == 34) = true := by simp; omega
            rw [quoE_quote hq h34] at hEq
            have hEq2 := Option.some.inj hEq
            injection hEq2 with e1 e2
            subst e1 e2
            have EQ := Aside0.mk (acc_quote hq h34)
            clear hEq h34 h92
            go_wp2_with fail
            refine (rewind_calls HLq.out (by omega) (by have := HA.out; have := HS.out; omega) (Or.inl (by omega)) (by have := HA.out; have := HS.out; have := HR.out; omega)).mono ?_
            rintro x w3 ⟨rfl, hl, hk⟩
            have e1 : q + wdt s q - wdt s q = q := by omega
            have e2 : (if wdt s q = 0 then cq + 1 else cq + 1 - 1) = cq := by rw [if_neg (by have := HA.out; omega)]; omega
            rw [e1, e2] at hl
            have HL3 := Aside0.mk hl
            have HK3 := Aside0.mk (HK.out.trans hk)
            clear hl hk e1 e2
            go_wp2_with fail
            have C := expect_calls (HX.out.kept HK3.out) HL3.out qB (by decide) HS.out.1 (by have := HR.out; omega) (by have := HR.out; omega)
            rw [EQ.out] at C
            refine C.mono ?_
            clear C
            rintro x w4 ⟨⟨r, rfl, hr⟩, ⟨wd4, hl⟩, hk⟩
            obtain rfl := hr.1 rfl
            have HL4 := Aside0.mk (show LexAt w4 B o s e p (q + wdt s q) wd4 c (cq + 1) from hl)
            have HK4 := Aside0.mk (HK3.out.trans hk)
            clear hl hk hr
            go_wp2_with fail
            refine (emit_calls 8 HL4.out (by have := HR.out; omega) HA.out.1).mono ?_
            rintro x w9 ⟨rfl, hl, hk⟩
            have HL9 := Aside0.mk hl
            have HK9 := Aside0.mk (HK4.out.trans hk)
            have hg := (HK9.out.block w.heap.size (by simp) (by have := HB.out; omega)).trans HG.out
            obtain ⟨⟨n0, n1, n2, n3, n4, n5⟩, y0, y1, y2, y3, y4, y5⟩ := cells6 hg
            clear hl hk hg
            go_wp2
            refine bodyPost_ret (v := .tuple #[tokV s 8 p (q + wdt s q) c (cq + 1), .nilIface]) ?_ rfl ?_
            · unfold tokV
              simp [results]
              go_simp
            · refine ⟨rfl, ⟨wd4, ?_⟩, ?_⟩
              · iterate 6 refine LexAt.farB hne ?_
                exact HL9.out
              · iterate 6 refine Kept.farB (Nat.le_refl _) HB.out ?_
                exact HW.out.trans HK9.out
          · have b34 : (((rn s q : Nat) : Int) == 34) = false := by simp; omega
            rw [quoE_more hq h92 h34] at hEq
            have HR2 := Aside0.mk (show quoE s f false (q + wdt s q) (cq + 1) = some (E, CE) ∧ s.size ≤ q + wdt s q + f ∧ p ≤ q + wdt s q ∧ q + wdt s q ≤ s.size ∧ cq + 1 ≤ q + wdt s q from ⟨hEq, by have := HR.out; have := HA.out; omega, by have := HR.out; omega, HA.out.1, by have := HR.out; have := HA.out; omega⟩)
            clear hEq
            go_wp2_with fail
            refine N.out.mono ?_
            rintro x w3 ⟨rfl, hl, hk⟩
            have HL3 := Aside0.mk hl
            have HK3 := Aside0.mk (HK.out.trans hk)
            clear hl hk
            go_wp2
            go_roundw
            case rel => exact ⟨q + wdt s q, cq + 1, f, false, rfl, rfl, HR2, HL3, HK3⟩
            case measure =>
              rw [posAt_of HLq.out, posAt_of HL3.out]
              have h1 := HA.out
              by_cases hq2 : q + wdt s q < s.size
              · rw [nP_t hq2, nR_t hq2]
                have h2 := adv_pos s (q + wdt s q)
                simp [RowKit.intOf] <;> omega
              · rw [nP_f hq2, nR_f hq2]
                simp [RowKit.intOf] <;> omega
    · exact absurd (HR.out.1.symm.trans (quoE_end hq)) (by simp)
set_option maxHeartbeats 3200000 in
set_option maxRecDepth 100000 in
theorem quoted_bad {w0 : World} (hX : Cx w0 w B) (h : LexAt w B o s e p p wd c c) (hs : s.size ≤ 2147483647) (hp : p ≤ s.size) (hc : c ≤ p) (h1 : accB s qB p = true) (hE : quoE s s.size false (p + wdt s p) (c + 1) = none) :
    Calls Tryd.prog 40 #[.pointer (some ⟨B, o, none⟩)] w fun x w' => (∃ r, x = .returned (.tuple #[noTok, r]) ∧ LexErr r) ∧ (∃ a' p' wd' ca' c', LexAt w' B o s e a' p' wd' ca' c') ∧ Kept B o w w' := by
  have HB := Aside0.mk h.lt
  have HX := Aside0.mk (hX.kept (Kept.alloc (Kept.refl B o w) h.lt (.cells #[.int .i64 0, .string ⟨#[]⟩, .int .i64 0, .int .i64 0, .int .i64 0, .int .i64 0] 80)))
  have HL0 := Aside0.mk (h.alloc (.cells #[.int .i64 0, .string ⟨#[]⟩, .int .i64 0, .int .i64 0, .int .i64 0, .int .i64 0] 80))
  have HS := Aside0.mk (And.intro hs (And.intro hp hc))
  have HG := Aside0.mk (heap_alloc_new w (.cells #[.int .i64 0, .string ⟨#[]⟩, .int .i64 0, .int .i64 0, .int .i64 0, .int .i64 0] 80))
  have HW := Aside0.mk (show Kept B o w (w.alloc (.cells #[.int .i64 0, .string ⟨#[]⟩, .int .i64 0, .int .i64 0, .int .i64 0, .int .i64 0] 80)) from Kept.alloc (Kept.refl B o w) h.lt _)
  have HE := Aside0.mk hE
  have A0 := Aside0.mk (acc_le h1)
  have E0 := Aside0.mk h1
  clear hX h hs hp hc hE h1
  have hne : w.heap.size ≠ B := by have := HB.out; omega
  have hne' : B ≠ w.heap.size := fun e => hne e.symm
  go_enter Tryd.func40, Tryd.ntmps40
  go_wp2_with fail
  have C := expect_calls HX.out HL0.out qB (by decide) HS.out.1 HS.out.2.1 HS.out.2.2
  rw [E0.out] at C
  refine C.mono ?_
  clear C
  rintro x w1 ⟨⟨r, rfl, hr⟩, ⟨wd1, hl⟩, hk⟩
  obtain rfl := hr.1 rfl
  have HL1 := Aside0.mk (show LexAt w1 B o s e p (p + wdt s p) wd1 c (c + 1) from hl)
  have HK1 := Aside0.mk hk
  clear hl hk hr
  go_wp2_with fail
  refine (next_calls (HX.out.kept HK1.out) HL1.out HS.out.1 (by have := HS.out; have := A0.out; omega)).mono ?_
  rintro x w2 ⟨rfl, hl, hk⟩
  have HL2 := Aside0.mk hl
  have HK2 := Aside0.mk (HK1.out.trans hk)
  clear hl hk
  go_wp2
  go_loopw [5, 6] (fun v5 v6 wr => ∃ (q cq fuel : Nat) (esc : Bool), v5 = .bool esc ∧ v6 = .int .i32 (nR s q) ∧ Aside0 (quoE s fuel esc q cq = none ∧ s.size ≤ q + fuel ∧ p ≤ q ∧ q ≤ s.size ∧ cq ≤ q) ∧ Aside0 (LexAt wr B o s e p (nP s q) (nW s q) c (nC s q cq)) ∧ Aside0 (Kept B o (w.alloc (.cells #[.int .i64 0, .string ⟨#[]⟩, .int .i64 0, .int .i64 0, .int .i64 0, .int .i64 0] 80)) wr)) (fun _ v6 wr => 2 * (s.size - posAt wr B o) + (if RowKit.intOf v6 = -1 then 0 else 1))
  case atStart => exact ⟨p + wdt s p, c + 1, s.size, false, rfl, rfl, ⟨HE.out, by omega, by omega, A0.out.1, by have := HS.out; have := A0.out; omega⟩, HL2, HK2⟩
  case round =>
    obtain ⟨q, cq, fuel, esc, rfl, rfl, HR, HL, HK⟩ := hrel
    by_cases hq : q < s.size
    · have hle := adv_le s q hq
      have hpos := adv_pos s q
      have HA := Aside0.mk (And.intro hle hpos)
      have hne1 : ((nR s q : Int) != -1) = true := by rw [nR_t hq]; simp <;> omega
      rw [nR_t hq] at hne1 ⊢
      have HLq := Aside0.mk (show LexAt wr B o s e p (q + wdt s q) (wdt s q) c (cq + 1) by have := HL.out; rw [nP_t hq, nW_t hq, nC_t hq] at this; exact this)
      have N := Aside0.mk (next_calls (HX.out.kept HK.out) HLq.out HS.out.1 (by have := HR.out; omega))
      obtain ⟨f, rfl⟩ : ∃ f, fuel = f + 1 := ⟨fuel - 1, by have := HR.out; omega⟩
      have hEq := HR.out.1
      clear hle hpos HL
      cases esc with
      | true =>
        rw [quoE_esc hq] at hEq
        have HR2 := Aside0.mk (show quoE s f false (q + wdt s q) (cq + 1) = none ∧ s.size ≤ q + wdt s q + f ∧ p ≤ q + wdt s q ∧ q + wdt s q ≤ s.size ∧ cq + 1 ≤ q + wdt s q from ⟨hEq, by have := HR.out; have := HA.out; omega, by have := HR.out; omega, HA.out.1, by have := HR.out; have := HA.out; omega⟩)
        clear hEq
        go_wp2_with fail
        refine N.out.mono ?_
        rintro x w3 ⟨rfl, hl, hk⟩
        have HL3 := Aside0.mk hl
        have HK3 := Aside0.mk (HK.out.trans hk)
        clear hl hk
        go_wp2
        go_roundw
        case rel => exact ⟨q + wdt s q, cq + 1, f, false, rfl, rfl, HR2, HL3, HK3⟩
        case measure =>
          rw [posAt_of HLq.out, posAt_of HL3.out]
          have h1 := HA.out
          by_cases hq2 : q + wdt s q < s.size
          · rw [nP_t hq2, nR_t hq2]
            have h2 := adv_pos s (q + wdt s q)
            simp [RowKit.intOf] <;> omega
          · rw [nP_f hq2, nR_f hq2]
            simp [RowKit.intOf] <;> omega
      | false =>
        by_cases h92 : rn s q = 92
        · have b92 : (((rn s q : Nat) : Int) == 92) = true := by simp; omega
          rw [quoE_back hq h92] at hEq
          have HR2 := Aside0.mk (show quoE s f true (q + wdt s q) (cq + 1) = none ∧ s.size ≤ q + wdt s q + f ∧ p ≤ q + wdt s q ∧ q + wdt s q ≤ s.size ∧ cq + 1 ≤ q + wdt s q from ⟨hEq, by have := HR.out; have := HA.out; omega, by have := HR.out; omega, HA.out.1, by have := HR.out; have := HA.out; omega⟩)
          clear hEq
          go_wp2_with fail
          refine N.out.mono ?_
          rintro x w3 ⟨rfl, hl, hk⟩
          have HL3 := Aside0.mk hl
          have HK3 := Aside0.mk (HK.out.trans hk)
          clear hl hk
          go_wp2
          go_roundw
          case rel => exact ⟨q + wdt s q, cq + 1, f, true, rfl, rfl, HR2, HL3, HK3⟩
          case measure =>
            rw [posAt_of HLq.out, posAt_of HL3.out]
            have h1 := HA.out
            by_cases hq2 : q + wdt s q < s.size
            · rw [nP_t hq2, nR_t hq2]
              have h2 := adv_pos s (q + wdt s q)
              simp [RowKit.intOf] <;> omega
            · rw [nP_f hq2, nR_f hq2]
              simp [RowKit.intOf] <;> omega
        · have b92 : (((rn s q : Nat) : Int) == 92) = false := by simp; omega
          by_cases h34 : rn s q = 34
          · exact absurd (hEq.symm.trans (quoE_quote hq h34)) (by simp)
          · have b34 : (((rn s q : Nat) : Int) == 34) = false := by simp; omega
            rw [quoE_more hq h92 h34] at hEq
            have HR2 := Aside0.mk (show quoE s f false (q + wdt s q) (cq + 1) = none ∧ s.size ≤ q + wdt s q + f ∧ p ≤ q + wdt s q ∧ q + wdt s q ≤ s.size ∧ cq + 1 ≤ q + wdt s q from ⟨hEq, by have := HR.out; have := HA.out; omega, by have := HR.out; omega, HA.out.1, by have := HR.out; have := HA.out; omega⟩)
            clear hEq
            go_wp2_with fail
            refine N.out.mono ?_
            rintro x w3 ⟨rfl, hl, hk⟩
            have HL3 := Aside0.mk hl
            have HK3 := Aside0.mk (HK.out.trans hk)
            clear hl hk
            go_wp2
            go_roundw
            case rel => exact ⟨q + wdt s q, cq + 1, f, false, rfl, rfl, HR2, HL3, HK3⟩
            case measure =>
              rw [posAt_of HLq.out, posAt_of HL3.out]
              have h1 := HA.out
              by_cases hq2 : q + wdt s q < s.size
              · rw [nP_t hq2, nR_t hq2]
                have h2 := adv_pos s (q + wdt s q)
                simp [RowKit.intOf] <;> omega
              · rw [nP_f hq2, nR_f hq2]
                simp [RowKit.intOf] <;> omega
    · have HLq := Aside0.mk (show LexAt wr B o s e p q 0 c cq by have := HL.out; rw [nP_f hq, nW_f hq, nC_f hq] at this; exact this)
      rw [nR_f hq]
      have EQ := Aside0.mk (acc_end (v := qB) hq)
      clear HL
      go_wp2_with fail
      have C := expect_calls (HX.out.kept HK.out) HLq.out qB (by decide) HS.out.1 (by have := HR.out; omega) (by have := HR.out; omega)
      rw [EQ.out] at C
      refine C.mono ?_
      clear C
      rintro x w4 ⟨⟨r, rfl, hr⟩, ⟨wd4, hl⟩, hk⟩
      obtain ⟨T, cs, rfl, hT⟩ := hr.2 rfl
      have HL4 := Aside0.mk (show LexAt w4 B o s e p q wd4 c cq from hl)
      have HK4 := Aside0.mk (HK.out.trans hk)
      clear hl hk hr hT
      have hg := (HK4.out.block w.heap.size (by simp) (by have := HB.out; omega)).trans HG.out
      have CS := Aside0.mk (show ∀ W, Below w4.heap.size w4 W → LexAt W B o s e p q wd4 c cq from fun W hb => HL4.out.below hb HL4.out.lt)
      have GS := Aside0.mk (show ∀ W, Below w4.heap.size w4 W → _ from fun W hb => (hb.block w.heap.size (by have := HK4.out.size; simp at this; omega)).trans hg)
      have c0 := HL4.out.c0
      obtain ⟨⟨n0, n1, n2, n3, n4, n5⟩, y0, y1, y2, y3, y4, y5⟩ := cells6 hg
      clear hg
      go_wp2_with fail
      go_region_held3 (fun w' => w'.cell? ⟨B, o, none⟩ = some (.string s)) (go_keep) (first
        | (go_at_call 44; refine (position_calls (CS.out _ (by repeat (first | exact Below.refl _ _ | apply below_drew1 | apply pw_below_drewN)))).mono ?_; rintro x w8 ⟨rfl, hb⟩; have HB4 := Aside0.mk (below_step (w := w4) (by repeat (first | exact Below.refl _ _ | apply below_drew1 | apply pw_below_drewN)) hb); clear hb c0 n0 n1 n2 n3 n4 n5 y0 y1 y2 y3 y4 y5; have H4 := Aside0.mk (CS.out _ HB4.out); have c0 := H4.out.c0; obtain ⟨⟨n0, n1, n2, n3, n4, n5⟩, y0, y1, y2, y3, y4, y5⟩ := cells6 (GS.out _ HB4.out)))
      go_wp2
      refine bodyPost_ret (v := .tuple #[noTok, .iface 123 (.agg #[.int .i64 (p : Int), .int .i64 (q : Int), .int .i64 (c : Int), .int .i64 (cq : Int), .string s, .int .i32 34])]) ?_ rfl ?_
      · unfold noTok
        simp [results]
        go_simp
      · refine ⟨⟨_, rfl, ⟨_, _, rfl, Or.inr (Or.inr rfl)⟩⟩, ⟨p, q, wd4, c, cq, ?_⟩, ?_⟩
        · iterate 6 refine LexAt.farB hne ?_
          exact H4.out
        · iterate 6 refine Kept.farB (Nat.le_refl _) HB.out ?_
          exact HW.out.trans (HK4.out.trans (Kept.of_below HB4.out HL4.out.lt))
end
end Go.Proofs.YtmjoebnphacadaaDoor.Lex
