/- parse.lexer: scan (printed by wip/tools/gen_scan.py). -/
import Derived.Test.YtmjoebnphacadaaDoorLexH
namespace Go.Proofs.YtmjoebnphacadaaDoor.Lex
open Go.RowKit Go.Lib Go.Proofs.YtmjoebnphacadaaDoorW.PrintWords Go.Proofs.YtmjoebnphacadaaDoorW.PrintLast
set_option linter.unusedVariables false
set_option linter.unusedSimpArgs false
/-- What a scan finds: the end of the text, no token, or a token: its kind, its begin and its end in bytes, then in runes. -/
inductive TR
  | eof (p c : Nat)
  | bad
  | tok (k a e ca ce : Nat)
/-- The operator at a place. -/
def opR (s : ByteArray) (p c : Nat) : TR :=
  if accB s xB p = true then
    (if accB s eB (p + wdt s p) = true then .tok 5 p (p + wdt s p + wdt s (p + wdt s p)) c (c + 2) else if accB s tB (p + wdt s p) = true then .tok 7 p (p + wdt s p + wdt s (p + wdt s p)) c (c + 2) else .bad)
  else if accB s eB p = true then
    (if accB s tB (p + wdt s p) = true then .tok 6 p (p + wdt s p + wdt s (p + wdt s p)) c (c + 2) else .tok 4 p (p + wdt s p) c (c + 1))
  else .bad
def quoR (s : ByteArray) (p c : Nat) : TR := match quoE s s.size false (p + wdt s p) (c + 1) with | some (E, CE) => .tok 8 p (E + wdt s E) c (CE + 1) | none => .bad
def unqR (s : ByteArray) (p c : Nat) : TR := .tok 9 p (unqE s s.size p c).1 c (unqE s s.size p c).2
/-- The next token from a place on. -/
def scanE (s : ByteArray) : Nat → Nat → Nat → TR
  | 0, p, c => .eof p c
  | f + 1, p, c =>
    if p < s.size then
      (if rn s p = 123 then .tok 1 p (p + wdt s p) c (c + 1)
      else if rn s p = 125 then .tok 2 p (p + wdt s p) c (c + 1)
      else if rn s p = 44 then .tok 3 p (p + wdt s p) c (c + 1)
      else if rn s p = 61 ∨ rn s p = 33 then opR s p c
      else if rn s p = 34 then quoR s p c
      else if resR (rn s p) = false then unqR s p c
      else if Lib.isSpaceZ (rn s p) = true then scanE s f (p + wdt s p) (c + 1)
      else .bad)
    else .eof p c
theorem scanE_end {s : ByteArray} {f p c : Nat} (h : ¬ p < s.size) : scanE s f p c = .eof p c := by
  cases f with
  | zero => rfl
  | succ f => exact if_neg h
/-- What the lexer has done behind a scan. -/
def SPost (w : World) (B o : Nat) (s : ByteArray) (R : TR) (x : Ending) (w' : World) : Prop := Kept B o w w' ∧ match R with
  | .tok k a E ca CE => x = .returned (.tuple #[tokV s k a E ca CE, .nilIface]) ∧ ∃ wd', LexAt w' B o s .nilIface E E wd' CE CE
  | .eof q cq => x = .returned (.tuple #[noTok, .nilIface]) ∧ ∃ wd', LexAt w' B o s .nilIface q q wd' cq cq
  | .bad => ∃ r, x = .returned (.tuple #[noTok, r]) ∧ LexErr r ∧ ∃ a p wd ca c, LexAt w' B o s r a p wd ca c
/-- What a part of a scan has done. -/
def OPost (w : World) (B o : Nat) (s : ByteArray) (e : Value) (R : TR) (x : Ending) (w' : World) : Prop := Kept B o w w' ∧ match R with
  | .tok k a E ca CE => x = .returned (.tuple #[tokV s k a E ca CE, .nilIface]) ∧ ∃ wd', LexAt w' B o s e E E wd' CE CE
  | .eof q cq => False
  | .bad => (∃ r, x = .returned (.tuple #[noTok, r]) ∧ LexErr r) ∧ ∃ a p wd ca c, LexAt w' B o s e a p wd ca c
section
variable {w : World} {B o : Nat} {s : ByteArray} {p wd c : Nat}
theorem oper_calls {w0 : World} {e : Value} (hX : Cx w0 w B) (h : LexAt w B o s e p p wd c c) (hs : s.size ≤ 2147483647) (hp : p ≤ s.size) (hc : c ≤ p) :
    Calls Tryd.prog 39 #[.pointer (some ⟨B, o, none⟩)] w (OPost w B o s e (opR s p c)) := by
  unfold opR
  cases h1 : accB s xB p with
  | true =>
    rw [if_pos rfl]
    cases h2 : accB s eB (p + wdt s p) with
    | true => rw [if_pos rfl]; exact (oper_five hX h hs hp hc h1 h2).mono fun x w' hh => ⟨hh.2.2, hh.1, hh.2.1⟩
    | false =>
      rw [if_neg (by decide)]
      cases h3 : accB s tB (p + wdt s p) with
      | true => rw [if_pos rfl]; exact (oper_seven hX h hs hp hc h1 h2 h3).mono fun x w' hh => ⟨hh.2.2, hh.1, hh.2.1⟩
      | false => rw [if_neg (by decide)]; exact (oper_bad1 hX h hs hp hc h1 h2 h3).mono fun x w' hh => ⟨hh.2.2, hh.1, hh.2.1⟩
  | false =>
    rw [if_neg (by decide)]
    cases h2 : accB s eB p with
    | true =>
      rw [if_pos rfl]
      cases h3 : accB s tB (p + wdt s p) with
      | true => rw [if_pos rfl]; exact (oper_six hX h hs hp hc h1 h2 h3).mono fun x w' hh => ⟨hh.2.2, hh.1, hh.2.1⟩
      | false => rw [if_neg (by decide)]; exact (oper_four hX h hs hp hc h1 h2 h3).mono fun x w' hh => ⟨hh.2.2, hh.1, hh.2.1⟩
    | false => rw [if_neg (by decide)]; exact (oper_bad2 hX h hs hp hc h1 h2).mono fun x w' hh => ⟨hh.2.2, hh.1, hh.2.1⟩
theorem quoted_calls {w0 : World} {e : Value} (hX : Cx w0 w B) (h : LexAt w B o s e p p wd c c) (hs : s.size ≤ 2147483647) (hp : p ≤ s.size) (hc : c ≤ p) (h1 : accB s qB p = true) :
    Calls Tryd.prog 40 #[.pointer (some ⟨B, o, none⟩)] w (OPost w B o s e (quoR s p c)) := by
  unfold quoR
  cases hE : quoE s s.size false (p + wdt s p) (c + 1) with
  | none => exact (quoted_bad hX h hs hp hc h1 hE).mono fun x w' hh => ⟨hh.2.2, hh.1, hh.2.1⟩
  | some r => exact (quoted_ok hX h hs hp hc h1 r.1 r.2 hE).mono fun x w' hh => ⟨hh.2.2, hh.1, hh.2.1⟩
theorem unq_calls {w0 : World} {e : Value} (hX : Cx w0 w B) (h : LexAt w B o s e p p wd c c) (hs : s.size ≤ 2147483647) (hp : p ≤ s.size) (hc : c ≤ p) :
    Calls Tryd.prog 42 #[.pointer (some ⟨B, o, none⟩)] w (OPost w B o s e (unqR s p c)) :=
  (unquoted_calls hX h hs hp hc (unqE s s.size p c).1 (unqE s s.size p c).2 rfl).mono fun x w' hh => ⟨hh.2.2, hh.1, hh.2.1⟩
set_option maxHeartbeats 12800000 in
set_option maxRecDepth 100000 in
theorem scan_calls {w0 : World} (hX : Cx w0 w B) (h : LexAt w B o s .nilIface p p wd c c) (hs : s.size ≤ 2147483647) (hp : p ≤ s.size) (hc : c ≤ p) (R : TR) (hR : scanE s (s.size + 1) p c = R) :
    Calls Tryd.prog 31 #[.pointer (some ⟨B, o, none⟩)] w (SPost w B o s R) := by
  have HB := Aside0.mk h.lt
  have HX := Aside0.mk (hX.kept (Kept.alloc (Kept.alloc (Kept.refl B o w) h.lt (.cells #[.int .i64 0, .string ⟨#[]⟩, .int .i64 0, .int .i64 0, .int .i64 0, .int .i64 0] 80)) h.lt (.cells #[.int .i64 0, .string ⟨#[]⟩, .int .i64 0, .int .i64 0, .int .i64 0, .int .i64 0] 80)))
  have HL0 := Aside0.mk ((h.alloc (.cells #[.int .i64 0, .string ⟨#[]⟩, .int .i64 0, .int .i64 0, .int .i64 0, .int .i64 0] 80)).alloc (.cells #[.int .i64 0, .string ⟨#[]⟩, .int .i64 0, .int .i64 0, .int .i64 0, .int .i64 0] 80))
  have HS := Aside0.mk (And.intro hs (And.intro hp hc))
  have HG := Aside0.mk (show ((w.alloc (.cells #[.int .i64 0, .string ⟨#[]⟩, .int .i64 0, .int .i64 0, .int .i64 0, .int .i64 0] 80)).alloc (.cells #[.int .i64 0, .string ⟨#[]⟩, .int .i64 0, .int .i64 0, .int .i64 0, .int .i64 0] 80)).heap[w.heap.size]? = _ from (Below.heap_alloc (w.alloc (.cells #[.int .i64 0, .string ⟨#[]⟩, .int .i64 0, .int .i64 0, .int .i64 0, .int .i64 0] 80)) (.cells #[.int .i64 0, .string ⟨#[]⟩, .int .i64 0, .int .i64 0, .int .i64 0, .int .i64 0] 80) _ (by simp)).trans (heap_alloc_new w (.cells #[.int .i64 0, .string ⟨#[]⟩, .int .i64 0, .int .i64 0, .int .i64 0, .int .i64 0] 80)))
  have HM := Aside0.mk (show ((w.alloc (.cells #[.int .i64 0, .string ⟨#[]⟩, .int .i64 0, .int .i64 0, .int .i64 0, .int .i64 0] 80)).alloc (.cells #[.int .i64 0, .string ⟨#[]⟩, .int .i64 0, .int .i64 0, .int .i64 0, .int .i64 0] 80)).heap[w.heap.size + 1]? = _ from new_alloc (w.alloc (.cells #[.int .i64 0, .string ⟨#[]⟩, .int .i64 0, .int .i64 0, .int .i64 0, .int .i64 0] 80)) (.cells #[.int .i64 0, .string ⟨#[]⟩, .int .i64 0, .int .i64 0, .int .i64 0, .int .i64 0] 80) _ (by simp))
  have HW := Aside0.mk (show Kept B o w ((w.alloc (.cells #[.int .i64 0, .string ⟨#[]⟩, .int .i64 0, .int .i64 0, .int .i64 0, .int .i64 0] 80)).alloc (.cells #[.int .i64 0, .string ⟨#[]⟩, .int .i64 0, .int .i64 0, .int .i64 0, .int .i64 0] 80)) from Kept.alloc (Kept.alloc (Kept.refl B o w) h.lt (.cells #[.int .i64 0, .string ⟨#[]⟩, .int .i64 0, .int .i64 0, .int .i64 0, .int .i64 0] 80)) h.lt (.cells #[.int .i64 0, .string ⟨#[]⟩, .int .i64 0, .int .i64 0, .int .i64 0, .int .i64 0] 80))
  have HR0 := Aside0.mk hR
  have c1 := HL0.out.c1
  clear hX h hs hp hc hR
  have hne : w.heap.size ≠ B := by have := HB.out; omega
  have hne' : B ≠ w.heap.size := fun e => hne e.symm
  have hnm : w.heap.size + 1 ≠ B := by have := HB.out; omega
  have hnm' : B ≠ w.heap.size + 1 := fun e => hnm e.symm
  go_enter Tryd.func31, Tryd.ntmps31
  go_wp2_with fail
  refine (next_calls HX.out HL0.out HS.out.1 HS.out.2.2).mono ?_
  rintro x w1 ⟨rfl, hl, hk⟩
  have HL1 := Aside0.mk hl
  have HK1 := Aside0.mk hk
  clear hl hk c1
  go_wp2_with fail
  go_loopw [5] (fun v5 wr => ∃ q cq fuel : Nat, v5 = .int .i32 (nR s q) ∧ Aside0 (scanE s fuel q cq = R ∧ s.size + 1 ≤ q + fuel ∧ q ≤ s.size ∧ cq ≤ q) ∧ Aside0 (LexAt wr B o s .nilIface q (nP s q) (nW s q) cq (nC s q cq)) ∧ Aside0 (Kept B o ((w.alloc (.cells #[.int .i64 0, .string ⟨#[]⟩, .int .i64 0, .int .i64 0, .int .i64 0, .int .i64 0] 80)).alloc (.cells #[.int .i64 0, .string ⟨#[]⟩, .int .i64 0, .int .i64 0, .int .i64 0, .int .i64 0] 80)) wr)) (fun v5 wr => 2 * (s.size - posAt wr B o) + (if RowKit.intOf v5 = -1 then 0 else 1))
  case atStart => exact ⟨p, c, s.size + 1, rfl, ⟨HR0.out, by omega, HS.out.2.1, HS.out.2.2⟩, HL1, HK1⟩
  case round =>
    obtain ⟨q, cq, fuel, rfl, HR, HL, HK⟩ := hrel
    by_cases hq : q < s.size
    · have hle := adv_le s q hq
      have hpos := adv_pos s q
      have HA := Aside0.mk (And.intro hle hpos)
      have hne1 : ((nR s q : Int) != -1) = true := by rw [nR_t hq]; simp <;> omega
      rw [nR_t hq] at hne1 ⊢
      have HLq := Aside0.mk (show LexAt wr B o s .nilIface q (q + wdt s q) (wdt s q) cq (cq + 1) by have := HL.out; rw [nP_t hq, nW_t hq, nC_t hq] at this; exact this)
      obtain ⟨f, rfl⟩ : ∃ f, fuel = f + 1 := ⟨fuel - 1, by have := HR.out; omega⟩
      have hEq := HR.out.1
      unfold scanE at hEq
      rw [if_pos hq] at hEq
      clear hle hpos HL
      by_cases h123 : rn s q = 123
      · have b123 : (((rn s q : Nat) : Int) == 123) = true := by simp; omega
        rw [if_pos h123] at hEq
        subst hEq
        clear h123
        go_wp2_with fail
        refine (emit_calls 1 HLq.out (by omega) HA.out.1).mono ?_
        rintro x w9 ⟨rfl, hl, hk⟩
        have HL9 := Aside0.mk hl
        have HK9 := Aside0.mk (HK.out.trans hk)
        clear hl hk
        have hg := (HK9.out.block w.heap.size (by simp <;> omega) hne).trans HG.out
        have hm := (HK9.out.block (w.heap.size + 1) (by simp) hnm).trans HM.out
        obtain ⟨⟨n0, n1, n2, n3, n4, n5⟩, y0, y1, y2, y3, y4, y5⟩ := cells6 hg
        obtain ⟨⟨m0, m1, m2, m3, m4, m5⟩, z0, z1, z2, z3, z4, z5⟩ := cells6 hm
        have c1 := HL9.out.c1
        have f1 := HL9.out.f1
        clear hg hm
        go_wp2_with fail

        go_region
        go_wp2
        refine bodyPost_ret (v := .tuple #[tokV s 1 q (q + wdt s q) cq (cq + 1), .nilIface]) ?_ rfl ?_
        · unfold tokV
          simp [results]
          go_simp
        · refine ⟨?_, rfl, wdt s q, ?_⟩
          · refine Kept.drew ?_
            iterate 12 refine Kept.farB (by omega) HB.out ?_
            exact HW.out.trans HK9.out
          · refine LexAt.drew ?_
            iterate 12 refine LexAt.farB (by assumption) ?_
            exact HL9.out
      · have b123 : (((rn s q : Nat) : Int) == 123) = false := by simp; omega
        rw [if_neg h123] at hEq
        by_cases h125 : rn s q = 125
        · have b125 : (((rn s q : Nat) : Int) == 125) = true := by simp; omega
          rw [if_pos h125] at hEq
          subst hEq
          clear h125
          go_wp2_with fail
          refine (emit_calls 2 HLq.out (by omega) HA.out.1).mono ?_
          rintro x w9 ⟨rfl, hl, hk⟩
          have HL9 := Aside0.mk hl
          have HK9 := Aside0.mk (HK.out.trans hk)
          clear hl hk
          have hg := (HK9.out.block w.heap.size (by simp <;> omega) hne).trans HG.out
          have hm := (HK9.out.block (w.heap.size + 1) (by simp) hnm).trans HM.out
          obtain ⟨⟨n0, n1, n2, n3, n4, n5⟩, y0, y1, y2, y3, y4, y5⟩ := cells6 hg
          obtain ⟨⟨m0, m1, m2, m3, m4, m5⟩, z0, z1, z2, z3, z4, z5⟩ := cells6 hm
          have c1 := HL9.out.c1
          have f1 := HL9.out.f1
          clear hg hm
          go_wp2_with fail

          go_region
          go_wp2
          refine bodyPost_ret (v := .tuple #[tokV s 2 q (q + wdt s q) cq (cq + 1), .nilIface]) ?_ rfl ?_
          · unfold tokV
            simp [results]
            go_simp
          · refine ⟨?_, rfl, wdt s q, ?_⟩
            · refine Kept.drew ?_
              iterate 12 refine Kept.farB (by omega) HB.out ?_
              exact HW.out.trans HK9.out
            · refine LexAt.drew ?_
              iterate 12 refine LexAt.farB (by assumption) ?_
              exact HL9.out
        · have b125 : (((rn s q : Nat) : Int) == 125) = false := by simp; omega
          rw [if_neg h125] at hEq
          by_cases h44 : rn s q = 44
          · have b44 : (((rn s q : Nat) : Int) == 44) = true := by simp; omega
            rw [if_pos h44] at hEq
            subst hEq
            clear h44
            go_wp2_with fail
            refine (emit_calls 3 HLq.out (by omega) HA.out.1).mono ?_
            rintro x w9 ⟨rfl, hl, hk⟩
            have HL9 := Aside0.mk hl
            have HK9 := Aside0.mk (HK.out.trans hk)
            clear hl hk
            have hg := (HK9.out.block w.heap.size (by simp <;> omega) hne).trans HG.out
            have hm := (HK9.out.block (w.heap.size + 1) (by simp) hnm).trans HM.out
            obtain ⟨⟨n0, n1, n2, n3, n4, n5⟩, y0, y1, y2, y3, y4, y5⟩ := cells6 hg
            obtain ⟨⟨m0, m1, m2, m3, m4, m5⟩, z0, z1, z2, z3, z4, z5⟩ := cells6 hm
            have c1 := HL9.out.c1
            have f1 := HL9.out.f1
            clear hg hm
            go_wp2_with fail

            go_region
            go_wp2
            refine bodyPost_ret (v := .tuple #[tokV s 3 q (q + wdt s q) cq (cq + 1), .nilIface]) ?_ rfl ?_
            · unfold tokV
              simp [results]
              go_simp
            · refine ⟨?_, rfl, wdt s q, ?_⟩
              · refine Kept.drew ?_
                iterate 12 refine Kept.farB (by omega) HB.out ?_
                exact HW.out.trans HK9.out
              · refine LexAt.drew ?_
                iterate 12 refine LexAt.farB (by assumption) ?_
                exact HL9.out
          · have b44 : (((rn s q : Nat) : Int) == 44) = false := by simp; omega
            rw [if_neg h44] at hEq
            by_cases hop : rn s q = 61 ∨ rn s q = 33
            · have b61 : (((rn s q : Nat) : Int) == 61) = decide (rn s q = 61) := by by_cases h : rn s q = 61 <;> simp [h] <;> omega
              rw [if_pos hop] at hEq
              subst hEq
              by_cases h61 : rn s q = 61
              · rw [decide_eq_true h61] at b61
                clear h61 hop
                go_wp2_with fail
                refine (rewind_calls HLq.out (by omega) (by have := HA.out; have := HS.out; omega) (Or.inl (by omega)) (by have := HA.out; have := HS.out; have := HR.out; omega)).mono ?_
                rintro x w3 ⟨rfl, hl, hk⟩
                have e1 : q + wdt s q - wdt s q = q := by omega
                have e2 : (if wdt s q = 0 then cq + 1 else cq + 1 - 1) = cq := by rw [if_neg (by have := HA.out; omega)]; omega
                rw [e1, e2] at hl
                have HL3 := Aside0.mk hl
                have HK3 := Aside0.mk (HK.out.trans hk)
                clear hl hk e1 e2
                go_wp2_with fail

                refine (oper_calls (HX.out.kept HK3.out) HL3.out HS.out.1 HR.out.2.2.1 HR.out.2.2.2).mono ?_
                intro x w9 hO
                cases hV : opR s q cq with
                | eof u v =>
                  rw [hV] at hO
                  exact hO.2.elim
                | bad =>
                  rw [hV] at hO
                  obtain ⟨hk, ⟨r, rfl, hr⟩, a9, p9, wd9, ca9, c9, hl⟩ := hO
                  have HL9 := Aside0.mk hl
                  have HK9 := Aside0.mk (HK3.out.trans hk)
                  obtain ⟨T, cs, rfl, hT⟩ := hr
                  have HER := Aside0.mk (show LexErr (.iface T (.agg cs)) from ⟨T, cs, rfl, hT⟩)
                  have HV := Aside0.mk hV
                  clear hl hk hT hV
                  unfold noTok
                  have hg := (HK9.out.block w.heap.size (by simp <;> omega) hne).trans HG.out
                  have hm := (HK9.out.block (w.heap.size + 1) (by simp) hnm).trans HM.out
                  obtain ⟨⟨n0, n1, n2, n3, n4, n5⟩, y0, y1, y2, y3, y4, y5⟩ := cells6 hg
                  obtain ⟨⟨m0, m1, m2, m3, m4, m5⟩, z0, z1, z2, z3, z4, z5⟩ := cells6 hm
                  have c1 := HL9.out.c1
                  have f1 := HL9.out.f1
                  clear hg hm
                  go_wp2_with fail
                  go_region
                  go_wp2
                  refine bodyPost_ret (v := .tuple #[noTok, .iface T (.agg cs)]) ?_ rfl ?_
                  · unfold noTok
                    simp [results]
                    go_simp
                  · refine (show SPost w B o s (opR s q cq) _ _ from ?_)
                    unfold SPost
                    rw [HV.out]
                    refine ⟨?_, _, rfl, HER.out, a9, p9, wd9, ca9, c9, ?_⟩
                    · refine Kept.drew ?_
                      iterate 6 refine Kept.farB (by omega) HB.out ?_
                      refine Kept.set ?_ (by omega) _
                      iterate 6 refine Kept.farB (by omega) HB.out ?_
                      exact HW.out.trans HK9.out
                    · refine LexAt.drew ?_
                      iterate 6 refine LexAt.farB (by assumption) ?_
                      refine LexAt.set1 (e := .nilIface) ?_ _
                      iterate 6 refine LexAt.farB (by assumption) ?_
                      exact HL9.out

                | tok k9 a9 E9 ca9 c9 =>
                  rw [hV] at hO
                  obtain ⟨hk, rfl, wd9, hl⟩ := hO
                  have HL9 := Aside0.mk hl
                  have HK9 := Aside0.mk (HK3.out.trans hk)
                  have HV := Aside0.mk hV
                  clear hl hk hV
                  unfold tokV
                  have hg := (HK9.out.block w.heap.size (by simp <;> omega) hne).trans HG.out
                  have hm := (HK9.out.block (w.heap.size + 1) (by simp) hnm).trans HM.out
                  obtain ⟨⟨n0, n1, n2, n3, n4, n5⟩, y0, y1, y2, y3, y4, y5⟩ := cells6 hg
                  obtain ⟨⟨m0, m1, m2, m3, m4, m5⟩, z0, z1, z2, z3, z4, z5⟩ := cells6 hm
                  have c1 := HL9.out.c1
                  have f1 := HL9.out.f1
                  clear hg hm
                  go_wp2_with fail
                  go_region
                  go_wp2
                  refine bodyPost_ret (v := .tuple #[tokV s k9 a9 E9 ca9 c9, .nilIface]) ?_ rfl ?_
                  · unfold tokV
                    simp [results]
                    go_simp
                  · refine (show SPost w B o s (opR s q cq) _ _ from ?_)
                    unfold SPost
                    rw [HV.out]
                    refine ⟨?_, rfl, wd9, ?_⟩
                    · refine Kept.drew ?_
                      iterate 6 refine Kept.farB (by omega) HB.out ?_
                      refine Kept.set ?_ (by omega) _
                      iterate 6 refine Kept.farB (by omega) HB.out ?_
                      exact HW.out.trans HK9.out
                    · refine LexAt.drew ?_
                      iterate 6 refine LexAt.farB (by assumption) ?_
                      refine LexAt.set1 (e := .nilIface) ?_ _
                      iterate 6 refine LexAt.farB (by assumption) ?_
                      exact HL9.out
              · rw [decide_eq_false h61] at b61
                have b33 : (((rn s q : Nat) : Int) == 33) = true := by simp; omega
                clear h61 hop
                go_wp2_with fail
                refine (rewind_calls HLq.out (by omega) (by have := HA.out; have := HS.out; omega) (Or.inl (by omega)) (by have := HA.out; have := HS.out; have := HR.out; omega)).mono ?_
                rintro x w3 ⟨rfl, hl, hk⟩
                have e1 : q + wdt s q - wdt s q = q := by omega
                have e2 : (if wdt s q = 0 then cq + 1 else cq + 1 - 1) = cq := by rw [if_neg (by have := HA.out; omega)]; omega
                rw [e1, e2] at hl
                have HL3 := Aside0.mk hl
                have HK3 := Aside0.mk (HK.out.trans hk)
                clear hl hk e1 e2
                go_wp2_with fail

                refine (oper_calls (HX.out.kept HK3.out) HL3.out HS.out.1 HR.out.2.2.1 HR.out.2.2.2).mono ?_
                intro x w9 hO
                cases hV : opR s q cq with
                | eof u v =>
                  rw [hV] at hO
                  exact hO.2.elim
                | bad =>
                  rw [hV] at hO
                  obtain ⟨hk, ⟨r, rfl, hr⟩, a9, p9, wd9, ca9, c9, hl⟩ := hO
                  have HL9 := Aside0.mk hl
                  have HK9 := Aside0.mk (HK3.out.trans hk)
                  obtain ⟨T, cs, rfl, hT⟩ := hr
                  have HER := Aside0.mk (show LexErr (.iface T (.agg cs)) from ⟨T, cs, rfl, hT⟩)
                  have HV := Aside0.mk hV
                  clear hl hk hT hV
                  unfold noTok
                  have hg := (HK9.out.block w.heap.size (by simp <;> omega) hne).trans HG.out
                  have hm := (HK9.out.block (w.heap.size + 1) (by simp) hnm).trans HM.out
                  obtain ⟨⟨n0, n1, n2, n3, n4, n5⟩, y0, y1, y2, y3, y4, y5⟩ := cells6 hg
                  obtain ⟨⟨m0, m1, m2, m3, m4, m5⟩, z0, z1, z2, z3, z4, z5⟩ := cells6 hm
                  have c1 := HL9.out.c1
                  have f1 := HL9.out.f1
                  clear hg hm
                  go_wp2_with fail
                  go_region
                  go_wp2
                  refine bodyPost_ret (v := .tuple #[noTok, .iface T (.agg cs)]) ?_ rfl ?_
                  · unfold noTok
                    simp [results]
                    go_simp
                  · refine (show SPost w B o s (opR s q cq) _ _ from ?_)
                    unfold SPost
                    rw [HV.out]
                    refine ⟨?_, _, rfl, HER.out, a9, p9, wd9, ca9, c9, ?_⟩
                    · refine Kept.drew ?_
                      iterate 6 refine Kept.farB (by omega) HB.out ?_
                      refine Kept.set ?_ (by omega) _
                      iterate 6 refine Kept.farB (by omega) HB.out ?_
                      exact HW.out.trans HK9.out
                    · refine LexAt.drew ?_
                      iterate 6 refine LexAt.farB (by assumption) ?_
                      refine LexAt.set1 (e := .nilIface) ?_ _
                      iterate 6 refine LexAt.farB (by assumption) ?_
                      exact HL9.out

                | tok k9 a9 E9 ca9 c9 =>
                  rw [hV] at hO
                  obtain ⟨hk, rfl, wd9, hl⟩ := hO
                  have HL9 := Aside0.mk hl
                  have HK9 := Aside0.mk (HK3.out.trans hk)
                  have HV := Aside0.mk hV
                  clear hl hk hV
                  unfold tokV
                  have hg := (HK9.out.block w.heap.size (by simp <;> omega) hne).trans HG.out
                  have hm := (HK9.out.block (w.heap.size + 1) (by simp) hnm).trans HM.out
                  obtain ⟨⟨n0, n1, n2, n3, n4, n5⟩, y0, y1, y2, y3, y4, y5⟩ := cells6 hg
                  obtain ⟨⟨m0, m1, m2, m3, m4, m5⟩, z0, z1, z2, z3, z4, z5⟩ := cells6 hm
                  have c1 := HL9.out.c1
                  have f1 := HL9.out.f1
                  clear hg hm
                  go_wp2_with fail
                  go_region
                  go_wp2
                  refine bodyPost_ret (v := .tuple #[tokV s k9 a9 E9 ca9 c9, .nilIface]) ?_ rfl ?_
                  · unfold tokV
                    simp [results]
                    go_simp
                  · refine (show SPost w B o s (opR s q cq) _ _ from ?_)
                    unfold SPost
                    rw [HV.out]
                    refine ⟨?_, rfl, wd9, ?_⟩
                    · refine Kept.drew ?_
                      iterate 6 refine Kept.farB (by omega) HB.out ?_
                      refine Kept.set ?_ (by omega) _
                      iterate 6 refine Kept.farB (by omega) HB.out ?_
                      exact HW.out.trans HK9.out
                    · refine LexAt.drew ?_
                      iterate 6 refine LexAt.farB (by assumption) ?_
                      refine LexAt.set1 (e := .nilIface) ?_ _
                      iterate 6 refine LexAt.farB (by assumption) ?_
                      exact HL9.out
            · have b61 : (((rn s q : Nat) : Int) == 61) = false := by simp; omega
              have b33 : (((rn s q : Nat) : Int) == 33) = false := by simp; omega
              rw [if_neg hop] at hEq
              by_cases h34 : rn s q = 34
              · have b34 : (((rn s q : Nat) : Int) == 34) = true := by simp; omega
                rw [if_pos h34] at hEq
                subst hEq
                have HQ := Aside0.mk (acc_quote hq h34)
                clear h34
                go_wp2_with fail
                refine (rewind_calls HLq.out (by omega) (by have := HA.out; have := HS.out; omega) (Or.inl (by omega)) (by have := HA.out; have := HS.out; have := HR.out; omega)).mono ?_
                rintro x w3 ⟨rfl, hl, hk⟩
                have e1 : q + wdt s q - wdt s q = q := by omega
                have e2 : (if wdt s q = 0 then cq + 1 else cq + 1 - 1) = cq := by rw [if_neg (by have := HA.out; omega)]; omega
                rw [e1, e2] at hl
                have HL3 := Aside0.mk hl
                have HK3 := Aside0.mk (HK.out.trans hk)
                clear hl hk e1 e2
                go_wp2_with fail

                refine (quoted_calls (HX.out.kept HK3.out) HL3.out HS.out.1 HR.out.2.2.1 HR.out.2.2.2 HQ.out).mono ?_
                intro x w9 hO
                cases hV : quoR s q cq with
                | eof u v =>
                  rw [hV] at hO
                  exact hO.2.elim
                | bad =>
                  rw [hV] at hO
                  obtain ⟨hk, ⟨r, rfl, hr⟩, a9, p9, wd9, ca9, c9, hl⟩ := hO
                  have HL9 := Aside0.mk hl
                  have HK9 := Aside0.mk (HK3.out.trans hk)
                  obtain ⟨T, cs, rfl, hT⟩ := hr
                  have HER := Aside0.mk (show LexErr (.iface T (.agg cs)) from ⟨T, cs, rfl, hT⟩)
                  have HV := Aside0.mk hV
                  clear hl hk hT hV
                  unfold noTok
                  have hg := (HK9.out.block w.heap.size (by simp <;> omega) hne).trans HG.out
                  have hm := (HK9.out.block (w.heap.size + 1) (by simp) hnm).trans HM.out
                  obtain ⟨⟨n0, n1, n2, n3, n4, n5⟩, y0, y1, y2, y3, y4, y5⟩ := cells6 hg
                  obtain ⟨⟨m0, m1, m2, m3, m4, m5⟩, z0, z1, z2, z3, z4, z5⟩ := cells6 hm
                  have c1 := HL9.out.c1
                  have f1 := HL9.out.f1
                  clear hg hm
                  go_wp2_with fail
                  go_region
                  go_wp2
                  refine bodyPost_ret (v := .tuple #[noTok, .iface T (.agg cs)]) ?_ rfl ?_
                  · unfold noTok
                    simp [results]
                    go_simp
                  · refine (show SPost w B o s (quoR s q cq) _ _ from ?_)
                    unfold SPost
                    rw [HV.out]
                    refine ⟨?_, _, rfl, HER.out, a9, p9, wd9, ca9, c9, ?_⟩
                    · refine Kept.drew ?_
                      iterate 6 refine Kept.farB (by omega) HB.out ?_
                      refine Kept.set ?_ (by omega) _
                      iterate 6 refine Kept.farB (by omega) HB.out ?_
                      exact HW.out.trans HK9.out
                    · refine LexAt.drew ?_
                      iterate 6 refine LexAt.farB (by assumption) ?_
                      refine LexAt.set1 (e := .nilIface) ?_ _
                      iterate 6 refine LexAt.farB (by assumption) ?_
                      exact HL9.out

                | tok k9 a9 E9 ca9 c9 =>
                  rw [hV] at hO
                  obtain ⟨hk, rfl, wd9, hl⟩ := hO
                  have HL9 := Aside0.mk hl
                  have HK9 := Aside0.mk (HK3.out.trans hk)
                  have HV := Aside0.mk hV
                  clear hl hk hV
                  unfold tokV
                  have hg := (HK9.out.block w.heap.size (by simp <;> omega) hne).trans HG.out
                  have hm := (HK9.out.block (w.heap.size + 1) (by simp) hnm).trans HM.out
                  obtain ⟨⟨n0, n1, n2, n3, n4, n5⟩, y0, y1, y2, y3, y4, y5⟩ := cells6 hg
                  obtain ⟨⟨m0, m1, m2, m3, m4, m5⟩, z0, z1, z2, z3, z4, z5⟩ := cells6 hm
                  have c1 := HL9.out.c1
                  have f1 := HL9.out.f1
                  clear hg hm
                  go_wp2_with fail
                  go_region
                  go_wp2
                  refine bodyPost_ret (v := .tuple #[tokV s k9 a9 E9 ca9 c9, .nilIface]) ?_ rfl ?_
                  · unfold tokV
                    simp [results]
                    go_simp
                  · refine (show SPost w B o s (quoR s q cq) _ _ from ?_)
                    unfold SPost
                    rw [HV.out]
                    refine ⟨?_, rfl, wd9, ?_⟩
                    · refine Kept.drew ?_
                      iterate 6 refine Kept.farB (by omega) HB.out ?_
                      refine Kept.set ?_ (by omega) _
                      iterate 6 refine Kept.farB (by omega) HB.out ?_
                      exact HW.out.trans HK9.out
                    · refine LexAt.drew ?_
                      iterate 6 refine LexAt.farB (by assumption) ?_
                      refine LexAt.set1 (e := .nilIface) ?_ _
                      iterate 6 refine LexAt.farB (by assumption) ?_
                      exact HL9.out
              · have b34 : (((rn s q : Nat) : Int) == 34) = false := by simp; omega
                rw [if_neg h34] at hEq
                have RS := Aside0.mk (is_reserved (rn s q) wr (rn_lo s q) (rn_hi s q) (HX.out.kept HK.out).lt)
                cases hres : resR (rn s q) with
                | false =>
                  rw [if_pos hres] at hEq
                  rw [hres] at RS
                  subst hEq
                  clear hres
                  go_wp2_with fail
                  refine RS.out.mono ?_
                  rintro x w2 ⟨rfl, hb⟩
                  have HLq0 := HLq
                  have HLq := Aside0.mk (HLq.out.below hb HLq.out.lt)
                  have HK := Aside0.mk (HK.out.trans (Kept.of_below hb (LexAt.lt HLq0.out)))
                  clear hb
                  go_wp2_with fail
                  refine (rewind_calls HLq.out (by omega) (by have := HA.out; have := HS.out; omega) (Or.inl (by omega)) (by have := HA.out; have := HS.out; have := HR.out; omega)).mono ?_
                  rintro x w3 ⟨rfl, hl, hk⟩
                  have e1 : q + wdt s q - wdt s q = q := by omega
                  have e2 : (if wdt s q = 0 then cq + 1 else cq + 1 - 1) = cq := by rw [if_neg (by have := HA.out; omega)]; omega
                  rw [e1, e2] at hl
                  have HL3 := Aside0.mk hl
                  have HK3 := Aside0.mk (HK.out.trans hk)
                  clear hl hk e1 e2
                  go_wp2_with fail

                  refine (unq_calls (HX.out.kept HK3.out) HL3.out HS.out.1 HR.out.2.2.1 HR.out.2.2.2).mono ?_
                  intro x w9 hO
                  cases hV : unqR s q cq with
                  | eof u v =>
                    rw [hV] at hO
                    exact hO.2.elim
                  | bad =>
                    rw [hV] at hO
                    obtain ⟨hk, ⟨r, rfl, hr⟩, a9, p9, wd9, ca9, c9, hl⟩ := hO
                    have HL9 := Aside0.mk hl
                    have HK9 := Aside0.mk (HK3.out.trans hk)
                    obtain ⟨T, cs, rfl, hT⟩ := hr
                    have HER := Aside0.mk (show LexErr (.iface T (.agg cs)) from ⟨T, cs, rfl, hT⟩)
                    have HV := Aside0.mk hV
                    clear hl hk hT hV
                    unfold noTok
                    have hg := (HK9.out.block w.heap.size (by simp <;> omega) hne).trans HG.out
                    have hm := (HK9.out.block (w.heap.size + 1) (by simp) hnm).trans HM.out
                    obtain ⟨⟨n0, n1, n2, n3, n4, n5⟩, y0, y1, y2, y3, y4, y5⟩ := cells6 hg
                    obtain ⟨⟨m0, m1, m2, m3, m4, m5⟩, z0, z1, z2, z3, z4, z5⟩ := cells6 hm
                    have c1 := HL9.out.c1
                    have f1 := HL9.out.f1
                    clear hg hm
                    go_wp2_with fail
                    go_region
                    go_wp2
                    refine bodyPost_ret (v := .tuple #[noTok, .iface T (.agg cs)]) ?_ rfl ?_
                    · unfold noTok
                      simp [results]
                      go_simp
                    · refine (show SPost w B o s (unqR s q cq) _ _ from ?_)
                      unfold SPost
                      rw [HV.out]
                      refine ⟨?_, _, rfl, HER.out, a9, p9, wd9, ca9, c9, ?_⟩
                      · refine Kept.drew ?_
                        iterate 6 refine Kept.farB (by omega) HB.out ?_
                        refine Kept.set ?_ (by omega) _
                        iterate 6 refine Kept.farB (by omega) HB.out ?_
                        exact HW.out.trans HK9.out
                      · refine LexAt.drew ?_
                        iterate 6 refine LexAt.farB (by assumption) ?_
                        refine LexAt.set1 (e := .nilIface) ?_ _
                        iterate 6 refine LexAt.farB (by assumption) ?_
                        exact HL9.out

                  | tok k9 a9 E9 ca9 c9 =>
                    rw [hV] at hO
                    obtain ⟨hk, rfl, wd9, hl⟩ := hO
                    have HL9 := Aside0.mk hl
                    have HK9 := Aside0.mk (HK3.out.trans hk)
                    have HV := Aside0.mk hV
                    clear hl hk hV
                    unfold tokV
                    have hg := (HK9.out.block w.heap.size (by simp <;> omega) hne).trans HG.out
                    have hm := (HK9.out.block (w.heap.size + 1) (by simp) hnm).trans HM.out
                    obtain ⟨⟨n0, n1, n2, n3, n4, n5⟩, y0, y1, y2, y3, y4, y5⟩ := cells6 hg
                    obtain ⟨⟨m0, m1, m2, m3, m4, m5⟩, z0, z1, z2, z3, z4, z5⟩ := cells6 hm
                    have c1 := HL9.out.c1
                    have f1 := HL9.out.f1
                    clear hg hm
                    go_wp2_with fail
                    go_region
                    go_wp2
                    refine bodyPost_ret (v := .tuple #[tokV s k9 a9 E9 ca9 c9, .nilIface]) ?_ rfl ?_
                    · unfold tokV
                      simp [results]
                      go_simp
                    · refine (show SPost w B o s (unqR s q cq) _ _ from ?_)
                      unfold SPost
                      rw [HV.out]
                      refine ⟨?_, rfl, wd9, ?_⟩
                      · refine Kept.drew ?_
                        iterate 6 refine Kept.farB (by omega) HB.out ?_
                        refine Kept.set ?_ (by omega) _
                        iterate 6 refine Kept.farB (by omega) HB.out ?_
                        exact HW.out.trans HK9.out
                      · refine LexAt.drew ?_
                        iterate 6 refine LexAt.farB (by assumption) ?_
                        refine LexAt.set1 (e := .nilIface) ?_ _
                        iterate 6 refine LexAt.farB (by assumption) ?_
                        exact HL9.out
                | true =>
                  rw [if_neg (by rw [hres]; decide)] at hEq
                  rw [hres] at RS
                  clear hres
                  go_wp2_with fail
                  refine RS.out.mono ?_
                  rintro x w2 ⟨rfl, hb⟩
                  have HL2 := Aside0.mk (HLq.out.below hb HLq.out.lt)
                  have HK2 := Aside0.mk (HK.out.trans (Kept.of_below hb HLq.out.lt))
                  clear hb
                  have SP := Aside0.mk (Tryd.unicode_IsSpace_any (rn s q) w2 (rn_lo s q) (rn_hi s q) (HX.out.kept HK2.out).lt.2)
                  cases hsp : Lib.isSpaceZ (rn s q) with
                  | true =>
                    rw [if_pos hsp] at hEq
                    rw [hsp] at SP
                    have HR2 := Aside0.mk (show scanE s f (q + wdt s q) (cq + 1) = R ∧ s.size + 1 ≤ q + wdt s q + f ∧ q + wdt s q ≤ s.size ∧ cq + 1 ≤ q + wdt s q from ⟨hEq, by have := HR.out; have := HA.out; omega, HA.out.1, by have := HR.out; have := HA.out; omega⟩)
                    clear hsp hEq
                    go_wp2_with fail
                    refine SP.out.mono ?_
                    rintro x w3 ⟨rfl, hb⟩
                    have HL3 := Aside0.mk (HL2.out.below hb HL2.out.lt)
                    have HK3 := Aside0.mk (HK2.out.trans (Kept.of_below hb HL2.out.lt))
                    clear hb
                    go_wp2_with fail
                    refine (skip_calls HL3.out).mono ?_
                    rintro x w4 ⟨rfl, hl, hk⟩
                    have HL4 := Aside0.mk hl
                    have HK4 := Aside0.mk (HK3.out.trans hk)
                    clear hl hk
                    go_wp2_with fail
                    refine (next_calls (HX.out.kept HK4.out) HL4.out HS.out.1 HR2.out.2.2.2).mono ?_
                    rintro x w5 ⟨rfl, hl, hk⟩
                    have HL5 := Aside0.mk hl
                    have HK5 := Aside0.mk (HK4.out.trans hk)
                    clear hl hk
                    go_wp2
                    go_roundw
                    case rel => exact ⟨q + wdt s q, cq + 1, f, rfl, HR2, HL5, HK5⟩
                    case measure =>
                      rw [posAt_of HLq.out, posAt_of HL5.out]
                      have h1 := HA.out
                      by_cases hq2 : q + wdt s q < s.size
                      · rw [nP_t hq2, nR_t hq2]
                        have h2 := adv_pos s (q + wdt s q)
                        simp [RowKit.intOf] <;> omega
                      · rw [nP_f hq2, nR_f hq2]
                        simp [RowKit.intOf] <;> omega
                  | false =>
                    rw [if_neg (by rw [hsp]; decide)] at hEq
                    rw [hsp] at SP
                    subst hEq
                    clear hsp
                    go_wp2_with fail
                    refine SP.out.mono ?_
                    rintro x w3 ⟨rfl, hb⟩
                    have HL3 := Aside0.mk (HL2.out.below hb HL2.out.lt)
                    have HK3 := Aside0.mk (HK2.out.trans (Kept.of_below hb HL2.out.lt))
                    clear hb
                    go_wp2_with fail
                    have CS := Aside0.mk (show ∀ W, Below w3.heap.size w3 W → LexAt W B o s .nilIface q (q + wdt s q) (wdt s q) cq (cq + 1) from fun W hb => HL3.out.below hb HL3.out.lt)
                    have c0 := HL3.out.c0
                    have c1 := HL3.out.c1
                    have f1 := HL3.out.f1
                    go_region_with (go_at_call 44; refine (position_calls (CS.out _ (by repeat (first | exact Below.refl _ _ | apply below_drew1 | apply pw_below_drewN)))).mono ?_; rintro x w9 ⟨rfl, hb⟩; have HB4 := Aside0.mk (below_step (w := w3) (by repeat (first | exact Below.refl _ _ | apply below_drew1 | apply pw_below_drewN)) hb); clear hb c0 c1 f1; have HL9 := Aside0.mk (CS.out _ HB4.out); have c0 := HL9.out.c0; have c1 := HL9.out.c1; have f1 := HL9.out.f1)
                    all_goals
                      have HK9 := Aside0.mk (HK3.out.trans (Kept.of_below HB4.out HL3.out.lt))
                      have hg := (HK9.out.block w.heap.size (by simp <;> omega) hne).trans HG.out
                      have hm := (HK9.out.block (w.heap.size + 1) (by simp) hnm).trans HM.out
                      obtain ⟨⟨n0, n1, n2, n3, n4, n5⟩, y0, y1, y2, y3, y4, y5⟩ := cells6 hg
                      obtain ⟨⟨m0, m1, m2, m3, m4, m5⟩, z0, z1, z2, z3, z4, z5⟩ := cells6 hm
                      clear hg hm
                      go_wp2_with fail

                      go_region
                      go_wp2
                      refine bodyPost_ret (v := .tuple #[noTok, .iface 99 (.agg #[.int .i64 (q : Int), .int .i64 ((q : Int) + (wdt s q : Int)), .int .i64 (cq : Int), .int .i64 ((cq : Int) + 1), .string s])]) ?_ rfl ?_
                      · unfold noTok
                        simp [results]
                        go_simp
                      · refine ⟨?_, _, rfl, ⟨_, _, rfl, Or.inr (Or.inl rfl)⟩, q, q + wdt s q, wdt s q, cq, cq + 1, ?_⟩
                        · refine Kept.drew ?_
                          iterate 6 refine Kept.farB (by omega) HB.out ?_
                          refine Kept.set ?_ (by omega) _
                          exact HW.out.trans HK9.out
                        · refine LexAt.drew ?_
                          iterate 6 refine LexAt.farB (by assumption) ?_
                          refine LexAt.set1 (e := .nilIface) ?_ _
                          exact HL9.out
    · have HLq := Aside0.mk (show LexAt wr B o s .nilIface q q 0 cq cq by have := HL.out; rw [nP_f hq, nW_f hq, nC_f hq] at this; exact this)
      have hEq := HR.out.1
      rw [scanE_end hq] at hEq
      subst hEq
      rw [nR_f hq]
      have HL9 := HLq
      have HK9 := HK
      clear HL
      have hg := (HK9.out.block w.heap.size (by simp <;> omega) hne).trans HG.out
      have hm := (HK9.out.block (w.heap.size + 1) (by simp) hnm).trans HM.out
      obtain ⟨⟨n0, n1, n2, n3, n4, n5⟩, y0, y1, y2, y3, y4, y5⟩ := cells6 hg
      obtain ⟨⟨m0, m1, m2, m3, m4, m5⟩, z0, z1, z2, z3, z4, z5⟩ := cells6 hm
      have c1 := HL9.out.c1
      have f1 := HL9.out.f1
      clear hg hm
      go_wp2_with fail

      go_region
      go_wp2
      refine bodyPost_ret (v := .tuple #[noTok, .nilIface]) ?_ rfl ?_
      · unfold noTok
        simp [results]
        go_simp
      · refine ⟨?_, rfl, 0, ?_⟩
        · refine Kept.drew ?_
          iterate 6 refine Kept.farB (by omega) HB.out ?_
          exact HW.out.trans HK9.out
        · refine LexAt.drew ?_
          iterate 6 refine LexAt.farB (by assumption) ?_
          exact HL9.out
end
end Go.Proofs.YtmjoebnphacadaaDoor.Lex
