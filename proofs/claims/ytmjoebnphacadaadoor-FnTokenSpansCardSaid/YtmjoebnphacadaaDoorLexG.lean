/- parse.lexer: scanUnquoted. -/
import Derived.Test.YtmjoebnphacadaaDoorLexF
namespace Go.Proofs.YtmjoebnphacadaaDoor.Lex
open Go.RowKit Go.Lib Go.Proofs.YtmjoebnphacadaaDoorW.PrintWords Go.Proofs.YtmjoebnphacadaaDoorW.PrintLast
set_option linter.unusedVariables false
set_option linter.unusedSimpArgs false
/-- What next hands back at a place, and the state behind it. -/
def nR (s : ByteArray) (q : Nat) : Int := if q < s.size then (rn s q : Int) else -1
def nP (s : ByteArray) (q : Nat) : Nat := if q < s.size then q + wdt s q else q
def nW (s : ByteArray) (q : Nat) : Nat := if q < s.size then wdt s q else 0
def nC (s : ByteArray) (q c : Nat) : Nat := if q < s.size then c + 1 else c
theorem nR_t {s : ByteArray} {q : Nat} (h : q < s.size) : nR s q = (rn s q : Int) := if_pos h
theorem nP_t {s : ByteArray} {q : Nat} (h : q < s.size) : nP s q = q + wdt s q := if_pos h
theorem nW_t {s : ByteArray} {q : Nat} (h : q < s.size) : nW s q = wdt s q := if_pos h
theorem nC_t {s : ByteArray} {q c : Nat} (h : q < s.size) : nC s q c = c + 1 := if_pos h
theorem nR_f {s : ByteArray} {q : Nat} (h : ¬ q < s.size) : nR s q = -1 := if_neg h
theorem nP_f {s : ByteArray} {q : Nat} (h : ¬ q < s.size) : nP s q = q := if_neg h
theorem nW_f {s : ByteArray} {q : Nat} (h : ¬ q < s.size) : nW s q = 0 := if_neg h
theorem nC_f {s : ByteArray} {q c : Nat} (h : ¬ q < s.size) : nC s q c = c := if_neg h
theorem nP_le {s : ByteArray} {q : Nat} (h : q ≤ s.size) : nP s q ≤ s.size ∧ q ≤ nP s q := by
  unfold nP
  split
  · rename_i h'
    have := adv_le s q h'
    omega
  · omega
theorem nC_le {s : ByteArray} {q c : Nat} (h : c ≤ q) : nC s q c ≤ nP s q := by
  unfold nC nP
  split
  · have := adv_pos s q
    omega
  · omega
/-- The end of what is not reserved: its place, its column. -/
def unqE (s : ByteArray) : Nat → Nat → Nat → Nat × Nat
  | 0, p, c => (p, c)
  | f + 1, p, c => if p < s.size ∧ resR (rn s p) = false then unqE s f (p + wdt s p) (c + 1) else (p, c)
theorem unqE_step {s : ByteArray} {f p c : Nat} (h : p < s.size) (h2 : resR (rn s p) = false) : unqE s (f + 1) p c = unqE s f (p + wdt s p) (c + 1) := if_pos ⟨h, h2⟩
theorem unqE_stop {s : ByteArray} {f p c : Nat} (h : ¬ (p < s.size ∧ resR (rn s p) = false)) : unqE s f p c = (p, c) := by
  cases f with
  | zero => rfl
  | succ f => exact if_neg h
/-- Where a lexer in memory stands. -/
def posAt (w : World) (B o : Nat) : Nat := match w.cell? ⟨B, o + 3, none⟩ with | some (.int _ n) => n.toNat | _ => 0
theorem posAt_of {w : World} {B o : Nat} {s : ByteArray} {e : Value} {a p wd ca c : Nat} (h : LexAt w B o s e a p wd ca c) : posAt w B o = p := by
  unfold posAt
  rw [h.c3]
  simp
section
variable {w : World} {B o : Nat} {s : ByteArray} {e : Value} {a p wd ca c : Nat}
theorem next_calls {w0 : World} (hX : Cx w0 w B) (h : LexAt w B o s e a p wd ca c) (hs : s.size ≤ 2147483647) (hc : c ≤ p) :
    Calls Tryd.prog 36 #[.pointer (some ⟨B, o, none⟩)] w fun x w' => x = .returned (.int .i32 (nR s p)) ∧ LexAt w' B o s e a (nP s p) (nW s p) ca (nC s p c) ∧ Kept B o w w' := by
  by_cases hp : p < s.size
  · rw [nR_t hp, nP_t hp, nW_t hp, nC_t hp]
    exact next_rune hX h hp hs hc
  · rw [nR_f hp, nP_f hp, nW_f hp, nC_f hp]
    exact next_eof h hp
set_option maxHeartbeats 3200000 in
set_option maxRecDepth 100000 in
theorem unquoted_calls {w0 : World} (hX : Cx w0 w B) (h : LexAt w B o s e p p wd c c) (hs : s.size ≤ 2147483647) (hp : p ≤ s.size) (hc : c ≤ p) (E CE : Nat) (hE : unqE s s.size p c = (E, CE)) :
    Calls Tryd.prog 42 #[.pointer (some ⟨B, o, none⟩)] w fun x w' => x = .returned (.tuple #[tokV s 9 p E c CE, .nilIface]) ∧ (∃ wd', LexAt w' B o s e E E wd' CE CE) ∧ Kept B o w w' := by
  have HB := Aside0.mk h.lt
  have HX := Aside0.mk (hX.kept (Kept.alloc (Kept.refl B o w) h.lt (.cells #[.int .i64 0, .string ⟨#[]⟩, .int .i64 0, .int .i64 0, .int .i64 0, .int .i64 0] 80)))
  have HL0 := Aside0.mk (h.alloc (.cells #[.int .i64 0, .string ⟨#[]⟩, .int .i64 0, .int .i64 0, .int .i64 0, .int .i64 0] 80))
  have HS := Aside0.mk (And.intro hs (And.intro hp hc))
  have HG := Aside0.mk (heap_alloc_new w (.cells #[.int .i64 0, .string ⟨#[]⟩, .int .i64 0, .int .i64 0, .int .i64 0, .int .i64 0] 80))
  have HW := Aside0.mk (show Kept B o w (w.alloc (.cells #[.int .i64 0, .string ⟨#[]⟩, .int .i64 0, .int .i64 0, .int .i64 0, .int .i64 0] 80)) from Kept.alloc (Kept.refl B o w) h.lt _)
  have HE := Aside0.mk hE
  clear hX h hs hp hc hE
  have hne : w.heap.size ≠ B := by have := HB.out; omega
  go_enter Tryd.func42, Tryd.ntmps42
  go_wp2_with fail
  refine (next_calls HX.out HL0.out HS.out.1 HS.out.2.2).mono ?_
  rintro x w1 ⟨rfl, hl, hk⟩
  have HL1 := Aside0.mk hl
  have HK1 := Aside0.mk hk
  clear hl hk
  go_wp2
  go_loopw [4] (fun v4 wr => ∃ q cq fuel : Nat, v4 = .int .i32 (nR s q) ∧ Aside0 (unqE s fuel q cq = (E, CE) ∧ s.size ≤ q + fuel ∧ p ≤ q ∧ q ≤ s.size ∧ cq ≤ q) ∧ Aside0 (LexAt wr B o s e p (nP s q) (nW s q) c (nC s q cq)) ∧ Aside0 (Kept B o (w.alloc (.cells #[.int .i64 0, .string ⟨#[]⟩, .int .i64 0, .int .i64 0, .int .i64 0, .int .i64 0] 80)) wr)) (fun v4 wr => 2 * (s.size - posAt wr B o) + (if RowKit.intOf v4 = -1 then 0 else 1))
  case atStart => exact ⟨p, c, s.size, rfl, ⟨HE.out, by omega, by omega, HS.out.2.1, HS.out.2.2⟩, HL1, HK1⟩
  case round =>
    obtain ⟨q, cq, fuel, rfl, HR, HL, HK⟩ := hrel
    by_cases hq : q < s.size
    · have hle := adv_le s q hq
      have hpos := adv_pos s q
      have HA := Aside0.mk (And.intro hle hpos)
      have R := Aside0.mk (is_reserved (rn s q) wr (rn_lo s q) (rn_hi s q) (HX.out.kept HK.out).lt)
      have hne1 : ((nR s q : Int) != -1) = true := by rw [nR_t hq]; simp <;> omega
      rw [nR_t hq] at hne1 ⊢
      have HLq := Aside0.mk (show LexAt wr B o s e p (q + wdt s q) (wdt s q) c (cq + 1) by have := HL.out; rw [nP_t hq, nW_t hq, nC_t hq] at this; exact this)
      clear hle hpos
      cases hres : resR (rn s q) with
      | true =>
        rw [hres] at R
        have hEq := HR.out.1
        rw [unqE_stop (by rw [hres]; simp)] at hEq
        injection hEq with e1 e2
        subst e1 e2
        clear hres HL
        go_wp2_with fail
        refine R.out.mono ?_
        rintro x w2 ⟨rfl, hb⟩
        have HL2 := Aside0.mk (HLq.out.below hb HLq.out.lt)
        have HK2 := Aside0.mk (HK.out.trans (Kept.of_below hb HLq.out.lt))
        clear hb
        go_wp2_with fail
        refine (rewind_calls HL2.out (by omega) (by have := HA.out; have := HS.out; omega) (Or.inl (by omega)) (by have := HA.out; have := HS.out; have := HR.out; omega)).mono ?_
        rintro x w3 ⟨rfl, hl, hk⟩
        have e1 : q + wdt s q - wdt s q = q := by omega
        have e2 : (if wdt s q = 0 then cq + 1 else cq + 1 - 1) = cq := by rw [if_neg (by have := HA.out; omega)]; omega
        rw [e1, e2] at hl
        have HL3 := Aside0.mk hl
        have HK3 := Aside0.mk (HK2.out.trans hk)
        clear hl hk e1 e2
        go_wp2_with fail
        refine (emit_calls 9 HL3.out (by have := HR.out; omega) (by omega)).mono ?_
        rintro x w9 ⟨rfl, hl, hk⟩
        have HL9 := Aside0.mk hl
        have HK9 := Aside0.mk (HK3.out.trans hk)
        have hg := (HK9.out.block w.heap.size (by simp) (by have := HB.out; omega)).trans HG.out
        obtain ⟨⟨n0, n1, n2, n3, n4, n5⟩, y0, y1, y2, y3, y4, y5⟩ := cells6 hg
        clear hl hk hg
        go_wp2
        refine bodyPost_ret (v := .tuple #[tokV s 9 p q c cq, .nilIface]) ?_ rfl ?_
        · unfold tokV
          simp [results]
          go_simp
        · refine ⟨rfl, ⟨wdt s q, ?_⟩, ?_⟩
          · iterate 6 refine LexAt.farB hne ?_
            exact HL9.out
          · iterate 6 refine Kept.farB (Nat.le_refl _) HB.out ?_
            exact HW.out.trans HK9.out
      | false =>
        rw [hres] at R
        obtain ⟨f, rfl⟩ : ∃ f, fuel = f + 1 := ⟨fuel - 1, by have := HR.out; omega⟩
        have hEq := HR.out.1
        rw [unqE_step hq hres] at hEq
        have HR2 := Aside0.mk (show unqE s f (q + wdt s q) (cq + 1) = (E, CE) ∧ s.size ≤ q + wdt s q + f ∧ p ≤ q + wdt s q ∧ q + wdt s q ≤ s.size ∧ cq + 1 ≤ q + wdt s q from ⟨hEq, by have := HR.out; have := HA.out; omega, by have := HR.out; omega, HA.out.1, by have := HR.out; have := HA.out; omega⟩)
        clear hres HL hEq
        go_wp2_with fail
        refine R.out.mono ?_
        rintro x w2 ⟨rfl, hb⟩
        have HL2 := Aside0.mk (HLq.out.below hb HLq.out.lt)
        have HK2 := Aside0.mk (HK.out.trans (Kept.of_below hb HLq.out.lt))
        clear hb
        go_wp2_with fail
        refine (next_calls (HX.out.kept HK2.out) HL2.out HS.out.1 HR2.out.2.2.2.2).mono ?_
        rintro x w3 ⟨rfl, hl, hk⟩
        have HL3 := Aside0.mk hl
        have HK3 := Aside0.mk (HK2.out.trans hk)
        clear hl hk
        go_wp2
        go_roundw
        case rel => exact ⟨q + wdt s q, cq + 1, f, rfl, HR2, HL3, HK3⟩
        case measure =>
          rw [posAt_of HLq.out, posAt_of HL3.out]
          have h1 := HA.out
          by_cases hq2 : q + wdt s q < s.size
          · rw [nP_t hq2, nR_t hq2]
            have h2 := adv_pos s (q + wdt s q)
            simp [RowKit.intOf] <;> omega
          · rw [nP_f hq2, nR_f hq2]
            simp [RowKit.intOf] <;> omega
    · have hEq := HR.out.1
      rw [unqE_stop (fun h => hq h.1)] at hEq
      injection hEq with e1 e2
      subst e1 e2
      have HLq := Aside0.mk (show LexAt wr B o s e p q 0 c cq by have := HL.out; rw [nP_f hq, nW_f hq, nC_f hq] at this; exact this)
      rw [nR_f hq]
      clear HL
      go_wp2_with fail
      refine (emit_calls 9 HLq.out (by have := HR.out; omega) (by have := HR.out; omega)).mono ?_
      rintro x w9 ⟨rfl, hl, hk⟩
      have HL9 := Aside0.mk hl
      have HK9 := Aside0.mk (HK.out.trans hk)
      have hg := (HK9.out.block w.heap.size (by simp) (by have := HB.out; omega)).trans HG.out
      obtain ⟨⟨n0, n1, n2, n3, n4, n5⟩, y0, y1, y2, y3, y4, y5⟩ := cells6 hg
      clear hl hk hg
      go_wp2
      refine bodyPost_ret (v := .tuple #[tokV s 9 p q c cq, .nilIface]) ?_ rfl ?_
      · unfold tokV
        simp [results]
        go_simp
      · refine ⟨rfl, ⟨0, ?_⟩, ?_⟩
        · iterate 6 refine LexAt.farB hne ?_
          exact HL9.out
        · iterate 6 refine Kept.farB (Nat.le_refl _) HB.out ?_
          exact HW.out.trans HK9.out
end
end Go.Proofs.YtmjoebnphacadaaDoor.Lex
